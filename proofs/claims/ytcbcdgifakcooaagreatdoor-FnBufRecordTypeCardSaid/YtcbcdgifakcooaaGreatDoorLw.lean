/-
  What the laws of buffers use of a tree that is asked. No conditions.
-/
import Derived.Test.YtcbcdgifakcooaaGreatDoorBfd
import Derived.Test.YtcbcdgifakcooaaGreatDoorSame
import Derived.Test.YtcbcdgifakcooaaGreatDoorSlK
import Derived.Test.YtcbcdgifakcooaaGreatDoorNdK4
namespace Go.Proofs.YtcbcdgifakcooaaGreatDoor
open Go.RowKit
set_option linter.unusedVariables false
set_option linter.unusedSimpArgs false

theorem BufP.shape {K : Int} {n : Nd} (h : FitP 12 n) (hk : n.kind = K) (h0 : K ≠ 0) : PlainP n ∧ (n.kind ≠ 1 → (fixedL n.kind).length ≤ n.kids.length ∧ (n.kids.length ≤ (fixedL n.kind).length ∨ restL n.kind ≠ 28)) ∧ (∀ (i : Nat) (x : Nd), n.kids[i]? = some x → (n.kind ≠ 1 → ofClassB x ((fixedL n.kind).getD i (restL n.kind)) = true) ∧ FitP 11 x) := by
  rcases h with h | h
  · exact absurd (hk.symm.trans h.1) h0
  · exact ⟨h.2.2.1, h.2.2.2.1, h.2.2.2.2.1⟩

/-- A kind in which nothing stands. -/
theorem leaf_kids {K : Int} {n : Nd} (h : FitP 12 n) (hk : n.kind = K) (h0 : K ≠ 0) (h1 : K ≠ 1) (hf : fixedL K = []) (hr : restL K = 28) : n.kids = [] := by
  obtain ⟨-, hs, -⟩ := BufP.shape h hk h0
  have := hs (by omega)
  rw [hk, hf, hr] at this
  rcases this.2 with e | e
  · exact List.eq_nil_of_length_eq_zero (by simpa using e)
  · exact absurd rfl e

theorem leaf_tame {n : Nd} (hk : n.kids = []) (h : n.kind ≠ 27 ∧ n.kind ≠ 13 ∧ n.kind ≠ 15 ∧ n.kind ≠ 16) : ∀ D, TameD D n
  | 0 => trivial
  | D + 1 => ⟨h, fun i x hx => by rw [hk] at hx; simp at hx⟩
theorem leaf_none13 {n : Nd} (hk : n.kids = []) (h : n.kind ≠ 13) : ∀ D, NoneD D n 13
  | 0 => trivial
  | D + 1 => ⟨h, fun i x hx => by rw [hk] at hx; simp at hx⟩

theorem nodeC_zero : NodeC 0 := fun e A n b w _ hR => hR.elim

/-- What the bytes tell of a node with a text. -/
def TextR (n : Nd) (B : By) (p : Nat) : Prop := ∃ (ps : List Nat) (y yd : Nat), BaseOf B p ps ∧ TabAt B p ps ∧ ps.getD 1 0 = y ∧ y ≠ 0 ∧ y < 65536 ∧ y + p + 4 ≤ B.length ∧ leAt B (y + p) 4 = yd ∧ y + p + yd + 4 + n.text.size < B.length ∧ leAt B (y + p + yd) 4 = n.text.size ∧ ∀ j (hj : j < n.text.size), B[y + p + yd + 4 + j]? = some (n.text[j]'hj)

/-- Slots that are one alone, with a reference: what they ask. -/
theorem ref_fine {F : Nat} {c : Array Value} {R0 : By → Nat → Prop} {bd0 bd : Nat} {R : By → Nat → Prop} (bs : Bool) (hbd : 210000 + bd0 ≤ bd)
    (hr : ∀ (bs : Bool) (B : By) (p : Nat), TabOf B p (withBase bs [⟨1, 4, 0, some (F, c), R0, bd0⟩]) → BaseOf B p (plOf (patOf (withBase bs [⟨1, 4, 0, some (F, c), R0, bd0⟩]))) → okPat (patOf (withBase bs [⟨1, 4, 0, some (F, c), R0, bd0⟩])) = true → R B p) : Fine bs [⟨1, 4, 0, some (F, c), R0, bd0⟩] bd R := by
  have hw4 : ∀ t ∈ ([⟨1, 4, 0, some (F, c), R0, bd0⟩] : List Sl), t.ref ≠ none → t.wid = 4 := fun t ht _ => by
    obtain rfl := List.mem_singleton.1 ht
    rfl
  have hul : ∀ t ∈ ([⟨1, 4, 0, some (F, c), R0, bd0⟩] : List Sl), t.u < 256 ^ t.wid := fun t ht => by
    obtain rfl := List.mem_singleton.1 ht
    exact (show 0 < 256 ^ 4 by decide)
  cases bs with
  | false =>
    have hok : okPat (patOf (withBase false ([⟨1, 4, 0, some (F, c), R0, bd0⟩] : List Sl))) = true := show okPat [(1, 4)] = true from by decide
    exact ⟨hok, hw4, hul, by simp, by simp [withBase]; omega, fun B p hT => hr false B p hT (.none (show (plOf [(1, 4)]).getD 0 0 = 0 from by decide)) hok⟩
  | true =>
    have hok : okPat (patOf (withBase true ([⟨1, 4, 0, some (F, c), R0, bd0⟩] : List Sl))) = true := show okPat [(1, 4), (0, 4)] = true from by decide
    exact ⟨hok, hw4, hul, by simp, by simp [withBase, baseSl]; omega, fun B p hT => hr true B p hT (baseOf_some hT (i := 1) (s := baseSl) rfl rfl (by simp [baseSl]) rfl hok rfl) hok⟩

theorem text_fine (n : Nd) {F : Nat} (hs : n.text.size ≤ 300) (bs : Bool) (sl : List Sl) (h : ∃ c, sl = [⟨1, 4, 0, some (F, c), TextAt n.text, n.text.size + 16⟩]) : Fine bs sl 300000 (TextR n) := by
  obtain ⟨c, rfl⟩ := h
  refine ref_fine bs (by omega) fun bs B p hT hb hok => ?_
  have h0 : (withBase bs [⟨1, 4, 0, some (F, c), TextAt n.text, n.text.size + 16⟩])[0]? = some ⟨1, 4, 0, some (F, c), TextAt n.text, n.text.size + 16⟩ := by cases bs <;> rfl
  obtain ⟨a1, a2, a3, yd, a4, a5, a6, a7⟩ := text_of hT h0 (by simp) rfl hok rfl rfl
  exact ⟨_, _, yd, hb, hT.tab, rfl, a1, a2, a3, a4, a5, a6, a7⟩

theorem TextR.ident {n : Nd} {B : By} {p : Nat} (h : TextR n B p) : IdentAt B p n.text := by
  obtain ⟨ps, y, yd, hb, ht, hy, y0, yl, yq, hyd, hyz, hyn, hys⟩ := h
  exact ⟨ps, y, yd, hb, ht, hy, y0, yl, yq, hyd, hyz, hyn, hys⟩

/-- An identifier is written. -/
theorem ident_w (W : World) (bs : Bool) (x : Nd) (hk : x.kind = 33) (hs : x.text.size ≤ 300) : NodeW W bs 300000 x (TextR x) :=
  node_any W bs x _ 300000 (TextR x) (by rw [hk]; decide) (slC_33 W bs x hk (by omega)) (text_fine x hs bs)

/-- A kind in which one identifier stands. -/
theorem one_kid {K : Int} {n : Nd} (h : FitP 12 n) (hk : n.kind = K) (h0 : K ≠ 0) (h1 : K ≠ 1) (hf : fixedL K = [3]) (hr : restL K = 28) : ∃ x, n.kids = [x] ∧ x.kind = 33 ∧ x.text.size ≤ 300 ∧ x.kids = [] := by
  obtain ⟨-, hs, hx⟩ := BufP.shape h hk h0
  have hl := hs (by omega)
  rw [hk, hf, hr] at hl
  have hl1 : n.kids.length = 1 := by
    rcases hl.2 with e | e
    · have := hl.1; simp at this e; omega
    · exact absurd rfl e
  obtain ⟨x, hkx⟩ := kids1 hl1
  obtain ⟨hc, hfx⟩ := hx 0 x (by rw [hkx]; rfl)
  have hc1 := hc (by omega)
  rw [hk, hf] at hc1
  have hx33 : x.kind = 33 := by
    have h := class_few [33] rfl hc1
    simpa using h
  rcases hfx with hz | hz
  · rw [hz.1] at hx33; exact absurd hx33 (by decide)
  · have hlx := hz.2.2.2.1 (by rw [hx33]; decide)
    rw [hx33] at hlx
    refine ⟨x, hkx, hx33, hz.2.2.1.2.2.2.1, ?_⟩
    rcases hlx.2 with e | e
    · exact List.eq_nil_of_length_eq_zero (by simpa [show (fixedL 33) = [] from by decide] using e)
    · exact absurd (show restL 33 = 28 from by decide) e

end Go.Proofs.YtcbcdgifakcooaaGreatDoor
