/-
  An object without one of its properties: in plain terms. Rows of nodes as cells. No conditions.
-/
import Derived.Test.YtongafghllkomaaGreatDoorGetP
import Derived.Deep.Upon
namespace Go.Proofs.YtongafghllkomaaGreatDoor
open Go.RowKit
set_option linter.unusedVariables false

/-- A node without the kid at a place. -/
def dropKid (n : Nd) (j : Nat) : Nd := .mk n.kind n.text n.more n.num n.ao n.cap (n.kids.eraseIdx j)

theorem SameD.re {E : Nat} {a a' b : Nd} (h : SameD E a b) (h1 : a'.kind = a.kind) (h2 : a'.text = a.text) (h3 : a'.more = a.more) (h4 : a'.num = a.num) (h5 : a'.kids = a.kids) : SameD E a' b := by
  cases E with
  | zero => exact h.elim
  | succ E =>
    obtain ⟨g1, g2, g3, g4, g5, g6⟩ := h
    exact ⟨h1.trans g1, h2.trans g2, h3.trans g3, h4.trans g4, by rw [h5]; exact g5, fun i x y hx hy => g6 i x y (by rw [← h5]; exact hx) hy⟩

theorem erase_at {l : List Nd} {i j : Nat} {x : Nd} (h : (l.eraseIdx j)[i]? = some x) : (i < j ∧ l[i]? = some x) ∨ (j ≤ i ∧ l[i + 1]? = some x) := by
  rw [List.getElem?_eraseIdx] at h
  by_cases hij : i < j
  · rw [if_pos hij] at h; exact Or.inl ⟨hij, h⟩
  · rw [if_neg hij] at h; exact Or.inr ⟨by omega, h⟩

theorem good_erase {n : Nd} {j : Nat} (hG : GoodD 12 n) (hk : n.kind = 28) (hj : 0 < j) (hl : j < n.kids.length) : GoodD 12 (dropKid n j) := by
  have hP := hG.pre
  have hn0 : n.kind ≠ 0 := by omega
  have hn1 : n.kind ≠ 1 := by omega
  have hf := hP.fit hn0
  have hlen : (n.kids.eraseIdx j).length = n.kids.length - 1 := by rw [List.length_eraseIdx, if_pos hl]
  have hx : ∀ (i : Nat) (x : Nd), (n.kids.eraseIdx j)[i]? = some x → ∃ i', n.kids[i']? = some x ∧ (i = 0 ↔ i' = 0) := by
    intro i x h
    rcases erase_at h with ⟨h1, h2⟩ | ⟨h1, h2⟩
    · exact ⟨i, h2, Iff.rfl⟩
    · exact ⟨i + 1, h2, by omega⟩
  have hc : ∀ (i i' : Nat), (i = 0 ↔ i' = 0) → (fixedL n.kind).getD i (restL n.kind) = (fixedL n.kind).getD i' (restL n.kind) := by
    intro i i' h
    rw [hk, show fixedL 28 = [4] from by decide]
    match i, i', h with
    | 0, 0, _ => rfl
    | 0, a + 1, h => exact absurd (h.1 rfl) (by omega)
    | a + 1, 0, h => exact absurd (h.2 rfl) (by omega)
    | a + 1, b + 1, _ => simp
  refine ⟨Or.inr ⟨hf.1, hf.2.1, ?_, fun _ => ⟨?_, Or.inr ?_⟩, fun i x h => ?_, fun h => ?_⟩, ⟨by show n.kind ≠ 13; omega, fun i x h => ?_⟩, ⟨⟨?_, ?_⟩, fun i x h => ?_⟩, by show n.kind ∈ walkL; rw [hk]; decide⟩
  · exact hf.2.2.1
  · show (fixedL n.kind).length ≤ (n.kids.eraseIdx j).length
    rw [hlen, hk, show (fixedL 28).length = 1 from by decide]
    omega
  · show restL n.kind ≠ 28
    rw [hk]; decide
  · obtain ⟨i', h1, h2⟩ := hx i x h
    have h3 := hf.2.2.2.2.1 i' x h1
    refine ⟨fun h4 => ?_, h3.2⟩
    have h5 := h3.1 h4
    rw [← hc i i' h2] at h5
    exact h5
  · exact absurd (show n.kind = 27 from h) (by omega)
  · obtain ⟨i', h1, h2⟩ := hx i x h
    exact hG.2.1.2 i' x h1
  · show (n.kids.eraseIdx j).length ≤ 400
    have := hP.small
    omega
  · show (n.kids.eraseIdx j).length ≤ n.cap
    have := hP.room
    omega
  · obtain ⟨i', h1, h2⟩ := hx i x h
    exact hG.2.2.1.2 i' x h1

/-- The cells of a row of nodes. -/
theorem row_news {D : Nat} {w : World} {b o : Nat} {ns : List Nd} (h : ListLies D w (some ⟨b, o, none⟩) ns) : ∀ j u, (ns.flatMap Nd.cells5)[j]? = some u → w.cell? ((⟨b, o, none⟩ : Addr).add j) = some u := by
  intro j u hu
  have hl := cells5_len ns
  have hj := (List.getElem?_eq_some_iff.1 hu).1
  have hq : j / 5 < ns.length := by omega
  obtain ⟨x, hx⟩ : ∃ x, ns[j / 5]? = some x := ⟨ns[j / 5], List.getElem?_eq_getElem _⟩
  have hc := cells5_at ns (j / 5) (j % 5) x hx (by omega)
  have e : j / 5 * 5 + j % 5 = j := by omega
  rw [e, hu] at hc
  obtain ⟨⟨b', o', ha, c0, c1, c2, c3, c4⟩, -⟩ := h (j / 5) x hx
  cases ha
  rw [Addr.add_lit]
  have hr : j % 5 = 0 ∨ j % 5 = 1 ∨ j % 5 = 2 ∨ j % 5 = 3 ∨ j % 5 = 4 := by omega
  rcases hr with hr | hr | hr | hr | hr
  · rw [show o + j = o + j / 5 * 5 by omega, c0, hc, hr]; rfl
  · rw [show o + j = o + j / 5 * 5 + 1 by omega, c1, hc, hr]; rfl
  · rw [show o + j = o + j / 5 * 5 + 2 by omega, c2, hc, hr]; rfl
  · rw [show o + j = o + j / 5 * 5 + 3 by omega, c3, hc, hr]; rfl
  · rw [show o + j = o + j / 5 * 5 + 4 by omega, c4, hc, hr]; rfl

theorem cells5_u {ns : List Nd} {u : Value} (h : u ∈ ns.flatMap Nd.cells5) : u.oneCell' = true := by
  rw [List.mem_flatMap] at h
  obtain ⟨n, -, hu⟩ := h
  simp [Nd.cells5] at hu
  rcases hu with rfl | rfl | rfl | rfl | rfl <;> rfl

theorem src_none {P : Program} {w : World} {size : Nat} {t e : TypeId} (ht : P.underlying t = some (.slice e)) (ad : Option Addr) (c : Nat) : Src P size t (.slice ad 0 c) 0 [] w := by
  cases ad with
  | none => exact Src.ofNil w ht c
  | some a => exact Src.ofSlice w ht a 0 c [] (by simp) (fun j u h => by simp at h) (fun u h => by cases h)

/-- Nothing is appended. -/
theorem wpList_append_none {P : Program} {w : World} {ops : Array Oper} {rest : List Oper} {o : Oper} {a : Act} {Q : Exit → Act → World → Prop} (hgd : o.guard = none) (s x : Operand) (t : TypeId)
    (ho : o.op = .call { callee := .builtin .append, args := #[s, x], argTypes := #[t, t] })
    (e : TypeId) (i : TypeInfo) (ht : P.underlying t = some (.slice e)) (hi : P.info? e = some i) (b : Option Addr) (sl sc : Nat) (hle : sl ≤ sc) (hs : a.eval s = .slice b sl sc) (ad : Option Addr) (c : Nat) (hx : a.eval x = .slice ad 0 c)
    (h : wpList P ops Q rest (a.put o.dst (.slice b sl sc)) w) : wpList P ops Q (o :: rest) a w := by
  refine wpList_plain hgd fun K hK => ?_
  have hrun := run_append_nothing (P := P) w t t o.type e i ht hi b sl sc hle (.slice ad 0 c) (src_none ht ad c)
  unfold Oper.wp
  simp [execOp, ho, resolve, invoke, builtin, hs, hx, hrun, Result.andThen]
  exact hK _ _ h
end Go.Proofs.YtongafghllkomaaGreatDoor
