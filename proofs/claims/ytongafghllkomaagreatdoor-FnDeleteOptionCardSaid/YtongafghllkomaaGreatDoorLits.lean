/-
  spec.Property: the place of the property of a key. No conditions.
  A node that came in: its datum opened into the plain data of Nd; what few nodes say of every level. No conditions.
  The names of the kinds of nodes: the table of the trees' specification. No conditions but that the number is one of 64 bits.
  Holds and PlainLiterals at this seat's numbers: what they say where they answer no, or yes. No conditions.
  PlainLiterals at this seat's numbers: it answers. No conditions.
-/
import Derived.Test.YtongafghllkomaaGreatDoorTests
import Derived.Deep.Slices
import Derived.ChangeArms
import Derived.Test.YtongafghllkomaaGreatDoorShape
namespace Go.Proofs.YtongafghllkomaaGreatDoor
open Go.RowKit
set_option linter.unusedVariables false

theorem bytes_eq {a b : ByteArray} (h : a.toList = b.toList) : a = b := by
  rw [Lib.toList_data, Lib.toList_data] at h
  exact ByteArray.ext (Array.toList_inj.1 h)

/-- Every kid behind the first one has a kid of its own. -/
def Keyable (n : Nd) : Prop := ∀ (i : Nat) (p : Nd), 0 < i → n.kids[i]? = some p → ∃ q, p.kids[0]? = some q

/-- Such a place, or none. -/
def PropAt (n : Nd) (key : ByteArray) (z : Int) : Prop :=
  (∃ (j : Nat) (p q : Nd), z = (j : Int) ∧ 0 < j ∧ n.kids[j]? = some p ∧ p.kids[0]? = some q ∧ q.text = key ∧ ∀ (i : Nat) (p q : Nd), 0 < i → i < j → n.kids[i]? = some p → p.kids[0]? = some q → q.text ≠ key) ∨
  (z = -1 ∧ ∀ (i : Nat) (p q : Nd), 0 < i → n.kids[i]? = some p → p.kids[0]? = some q → q.text ≠ key)

set_option maxRecDepth 100000 in
theorem property_at (D : Nat) (n : Nd) (key : ByteArray) (w : World) (hL : LiesD D w n) (hK : Keyable n) :
    Calls Tryz.prog 28 #[n.val, .string key] w fun e w' => ∃ z : Int, e = .returned (.int .i64 z) ∧ PropAt n key z ∧ Below w.heap.size w w' := by
  obtain ⟨D, rfl⟩ : ∃ E, D = E + 1 := by cases D with | zero => exact hL.elim | succ E => exact ⟨E, rfl⟩
  obtain ⟨k, t, m, u, no, ncap, kids⟩ := n
  have hM := hL.len_le
  obtain ⟨len, hlen⟩ : ∃ len, kids.length = len := ⟨_, rfl⟩
  show Calls _ _ #[.agg #[.int .i64 k, .string t, .string m, .int .u64 u, .slice no kids.length ncap], _] w _
  rw [hlen] at hM ⊢
  have HN := Lib.hid hlen
  have HL := Lib.hid hL
  have HK := Lib.hid hK
  clear hlen hL hK
  go_enter Tryz.func28, Tryz.ntmps28
  go_wp2_with fail
  have H0 := Lib.hid ((Below.refl w.heap.size w).alloc (Nat.le_refl _) (.cells #[.int .i64 k, .string t, .string m, .int .u64 u, .slice no len ncap] 25))
  go_loopg [10] len (fun gk i wr => ∃ (j : Nat), j ≤ len ∧ gk = len - j ∧ i = .int .i64 (j : Int) ∧ Hid (∀ (i : Nat) (p q : Nd), 0 < i → i < j → kids[i]? = some p → p.kids[0]? = some q → q.text ≠ key) ∧ Hid (Below w.heap.size w wr))
  case atStart => exact ⟨0, by omega, by omega, rfl, Lib.hid (fun i p q h h2 => absurd h2 (by omega)), H0⟩
  case round =>
    obtain ⟨j, hj, rfl, rfl, hD, hB⟩ := hrel
    by_cases hjn : j < len
    · have hjz : (j : Int) < (len : Int) := by omega
      obtain ⟨x, hx⟩ : ∃ x, kids[j]? = some x := ⟨kids[j]'(by have := HN.out; omega), List.getElem?_eq_getElem _⟩
      obtain ⟨b, o, hao, c0, c1, c2, c3, c4, hLx⟩ := kid_cells HL.out hx hB.out
      obtain rfl : no = some ⟨b, o, none⟩ := hao
      have HX := Lib.hid hx
      have hBs := hB.out.size
      by_cases hz : j = 0
      · have hj0 : ¬ 0 < (j : Int) := by omega
        have HZ := Lib.hid hz
        clear hx hLx hz
        go_wp2_with fail
        go_roundg (len - (j + 1))
        case measure => omega
        case rel => exact ⟨j + 1, by omega, rfl, by push_cast; rfl, Lib.hid (fun i p q h h2 => absurd h2 (by have := HZ.out; omega)), Lib.hid (hB.out.alloc hBs _)⟩
      · have hj0 : 0 < (j : Int) := by omega
        obtain ⟨q, hq⟩ := HK.out j x (by omega) hx
        cases D with
        | zero => exact hLx.elim
        | succ D =>
        obtain ⟨k2, t2, m2, u2, ao2, cap2, kids2⟩ := x
        simp only [Nd.kind, Nd.text, Nd.more, Nd.num, Nd.ao, Nd.kids, Nd.cap] at c0 c1 c2 c3 c4 hq
        obtain ⟨b2, o2, hao2, d0, d1, d2, d3, d4, hLq⟩ := kid_cells hLx hq ((Below.refl _ _).alloc (Nat.le_refl _) (.cells #[.int .i64 k2, .string t2, .string m2, .int .u64 u2, .slice ao2 kids2.length cap2] 25))
        obtain rfl : ao2 = some ⟨b2, o2, none⟩ := hao2
        have hl2 : (0 : Int) < (kids2.length : Int) := by have := (List.getElem?_eq_some_iff.1 hq).1; omega
        simp only [Nat.zero_mul, Nat.add_zero] at d0 d1 d2 d3 d4
        have HQ := Lib.hid hq
        obtain ⟨b2n, e2⟩ : ∃ len2, kids2.length = len2 := ⟨_, rfl⟩
        clear hx hLx hLq hq d0 d2 d3 d4
        rw [e2] at c4 hl2 d1
        clear e2
        by_cases he : q.text.toList = key.toList
        · have he2 : (q.text.toList == key.toList) = true := by simpa using he
          have HE := Lib.hid he
          clear he
          go_wp2_with fail
          go_ret
          exact ⟨_, rfl, Or.inl ⟨j, _, q, rfl, by omega, HX.out, HQ.out, bytes_eq HE.out, hD.out⟩, hB.out.alloc hBs _⟩
        · have he2 : (q.text.toList == key.toList) = false := by simpa using he
          have HE := Lib.hid he
          clear he
          go_wp2_with fail
          go_roundg (len - (j + 1))
          case measure => omega
          case rel =>
            refine ⟨j + 1, by omega, rfl, by push_cast; rfl, Lib.hid (fun i p q' h h2 hp hq' => ?_), Lib.hid (hB.out.alloc hBs _)⟩
            by_cases e : i = j
            · subst e
              rw [HX.out] at hp
              cases hp
              have h3 := HQ.out
              simp only [Nd.kids] at hq'
              rw [h3] at hq'
              cases hq'
              intro e
              exact HE.out (by rw [e])
            · exact hD.out i p q' h (by omega) hp hq'
    · have hjz : ¬ (j : Int) < (len : Int) := by omega
      obtain rfl : j = len := by omega
      go_wp2_with fail
      go_ret
      refine ⟨_, rfl, Or.inr ⟨rfl, fun i p q hi hp hq => hD.out i p q hi (by have := HN.out; have := (List.getElem?_eq_some_iff.1 hp).1; simp only [Nd.kids] at this; omega) hp hq⟩, hB.out⟩
end Go.Proofs.YtongafghllkomaaGreatDoor

namespace Go.Proofs.YtongafghllkomaaGreatDoor
open Go.ChangeShapes Go.WideShapes Go.RowKit Go.Deep
set_option linter.unusedVariables false

theorem list_of {α : Type} {p : Nat → α → Prop} : ∀ (n : Nat), (∀ i, i < n → ∃ x, p i x) → ∃ l : List α, l.length = n ∧ ∀ (i : Nat) (x : α), l[i]? = some x → p i x := by
  intro n
  induction n with
  | zero => intro _; exact ⟨[], rfl, by intro i x h; simp at h⟩
  | succ n ih =>
    intro h
    obtain ⟨l, hl, hp⟩ := ih (fun i hi => h i (by omega))
    obtain ⟨x, hx⟩ := h n (by omega)
    refine ⟨l ++ [x], by simp [hl], fun i y hy => ?_⟩
    by_cases hi : i < l.length
    · rw [List.getElem?_append_left hi] at hy
      exact hp i y hy
    · have hlt := (List.getElem?_eq_some_iff.1 hy).1
      simp at hlt
      obtain rfl : i = l.length := by omega
      rw [List.getElem?_append_right (Nat.le_refl _)] at hy
      simp at hy
      subst hy
      rw [hl]
      exact hx

/-- No more kids than the slices have room for. -/
def RoomD : Nat → Nd → Prop
  | 0, _ => True
  | d + 1, n => n.kids.length ≤ n.cap ∧ ∀ (i : Nat) (x : Nd), n.kids[i]? = some x → RoomD d x

theorem RoomD.less {d : Nat} : ∀ {d' : Nat} {n : Nd}, RoomD d n → d' ≤ d → RoomD d' n := by
  induction d with
  | zero =>
    intro d' n h hd
    obtain rfl : d' = 0 := by omega
    exact trivial
  | succ d ih =>
    intro d' n h hd
    cases d' with
    | zero => exact trivial
    | succ d' => exact ⟨h.1, fun i x hx => ih (h.2 i x hx) (by omega)⟩

/-- Behind the last level there is nothing. -/
theorem RoomD.more {d : Nat} : ∀ {w : World} {n : Nd}, LiesD d w n → RoomD d n → ∀ d', RoomD d' n := by
  induction d with
  | zero => intro w n h; exact h.elim
  | succ d ih =>
    intro w n h hr d'
    cases d' with
    | zero => exact trivial
    | succ d' => exact ⟨hr.1, fun i x hx => ih (h.2 i x hx).2 (hr.2 i x hx) d'⟩

theorem NoneD.more {d : Nat} {k : Int} : ∀ {w : World} {n : Nd}, LiesD d w n → NoneD d n k → ∀ d', NoneD d' n k := by
  induction d with
  | zero => intro w n h; exact h.elim
  | succ d ih =>
    intro w n h hr d'
    cases d' with
    | zero => exact trivial
    | succ d' => exact ⟨hr.1, fun i x hx => ih (h.2 i x hx).2 (hr.2 i x hx) d'⟩

theorem sum_ge : ∀ (l : List Nat) (i m : Nat), l[i]? = some m → m ≤ l.sum := by
  intro l
  induction l with
  | nil => intro i m h; simp at h
  | cons a l ih =>
    intro i m h
    cases i with
    | zero => simp at h; subst h; simp
    | succ i => have := ih i m (by simpa using h); simp; omega

theorem sum_len : ∀ (l : List Nat), (∀ m ∈ l, 1 ≤ m) → l.length ≤ l.sum := by
  intro l
  induction l with
  | nil => intro _; simp
  | cons a l ih =>
    intro h
    have h1 := h a (by simp)
    have h2 := ih (fun m hm => h m (by simp [hm]))
    simp; omega

theorem countD_pos {d : Nat} {w : World} {n : Nd} (h : LiesD d w n) : 1 ≤ Nd.countD d n := by
  cases d with
  | zero => exact h.elim
  | succ d => simp only [Nd.countD]; omega

theorem small_of {d : Nat} : ∀ {w : World} {n : Nd}, LiesD d w n → RoomD d n → Nd.countD d n ≤ 400 → ∀ d', SmallD d' n := by
  induction d with
  | zero => intro w n h; exact h.elim
  | succ d ih =>
    intro w n h hr hc d'
    cases d' with
    | zero => exact trivial
    | succ d' =>
      simp only [Nd.countD] at hc
      have hlen : (n.kids.map (Nd.countD d)).length ≤ (n.kids.map (Nd.countD d)).sum := by
        refine sum_len _ fun m hm => ?_
        obtain ⟨x, hx, rfl⟩ := List.mem_map.1 hm
        obtain ⟨i, hi⟩ := List.mem_iff_getElem?.1 hx
        exact countD_pos (h.2 i x hi).2
      rw [List.length_map] at hlen
      refine ⟨⟨by omega, hr.1⟩, fun i x hx => ih (h.2 i x hx).2 (hr.2 i x hx) ?_ d'⟩
      have := sum_ge (n.kids.map (Nd.countD d)) i (Nd.countD d x) (by simp [hx])
      omega

theorem cellsNode : Tryz.prog.cellsOf 25 = 5 := by kernel_rfl
theorem cellsI : Tryz.prog.cellsOf 3 = 1 := by kernel_rfl
theorem cellsS : Tryz.prog.cellsOf 9 = 1 := by kernel_rfl
theorem cellsU : Tryz.prog.cellsOf 22 = 1 := by kernel_rfl
theorem cellsSl : Tryz.prog.cellsOf 23 = 1 := by kernel_rfl

theorem add_at (b o j : Nat) : (⟨b, o, none⟩ : Addr).add j = ⟨b, o + j, none⟩ := by unfold Addr.add; split <;> simp_all

set_option maxRecDepth 100000 in
theorem open_fuel {H : Type} {enc : TypeId × Value → H} {w : World} {base : Nat} {spare : Nat → Bool} {held : Bool} : ∀ (fuel : Nat) (cs : List Value) (x : DataW H × List MemPlace),
    DataW.trod enc Tryz.prog w base spare held fuel 25 cs = some x → ∃ n : Nd, cs = [.int .i64 n.kind, .string n.text, .string n.more, .int .u64 n.num, .slice n.ao n.kids.length n.cap] ∧ LiesD fuel w n ∧ RoomD fuel n := by
  intro fuel
  induction fuel using Nat.strongRecOn with
  | _ fuel ih =>
    intro cs x h
    obtain ⟨xs, n, rfl, -, hlen, hxl, hf⟩ := DataW.trod_struct Tryz.underlying25 h
    rw [cellsNode] at hlen
    match cs, hlen with
    | [v0, v1, v2, v3, v4], _ =>
      match xs, hxl with
      | [y0, y1, y2, y3, y4], _ =>
        have g0 := hf 0 _ rfl
        have g1 := hf 1 _ rfl
        have g2 := hf 2 _ rfl
        have g3 := hf 3 _ rfl
        have g4 := hf 4 _ rfl
        simp [cellsI, cellsS, cellsU, cellsSl] at g0 g1 g2 g3 g4
        obtain ⟨k, e0, -, w0⟩ := DataW.trod_int Tryz.underlying3 g0
        obtain ⟨s1, e1, -, w1⟩ := DataW.trod_string Tryz.underlying9 g1
        obtain ⟨s2, e2, -, w2⟩ := DataW.trod_string Tryz.underlying9 g2
        obtain ⟨u, e3, -, w3⟩ := DataW.trod_int Tryz.underlying22 g3
        simp only [List.cons.injEq, and_true] at e0 e1 e2 e3
        subst e0 e1 e2 e3
        have b0 : -9223372036854775808 ≤ k ∧ k ≤ 9223372036854775807 := by simp [Lit.wf, IntKind.min, IntKind.max, IntKind.signed, IntKind.bits] at w0; omega
        have b3 : 0 ≤ u ∧ u < 18446744073709551616 := by simp [Lit.wf, IntKind.min, IntKind.max, IntKind.signed, IntKind.bits] at w3; omega
        rcases DataW.trod_slice Tryz.underlying23 g4 with ⟨e4, -⟩ | ⟨a, len, cap, elems, rest, m, hm, e4, -, hb, hl, hc, hel, hel2, -, -⟩
        · simp only [List.cons.injEq, and_true] at e4
          subst e4
          refine ⟨.mk k s1 s2 u none 0 [], rfl, ⟨⟨w1, w2, by simp [Nd.kids], b3.1, b3.2, b0.1, b0.2⟩, fun i x hx => by simp [Nd.kids] at hx⟩, ⟨by simp [Nd.kids], fun i x hx => by simp [Nd.kids] at hx⟩⟩
        · simp only [List.cons.injEq, and_true] at e4
          subst e4
          obtain ⟨b, o, sp⟩ := a
          have each : ∀ i, i < len → ∃ x : Nd, (sp = none ∨ i ≠ 0) ∧ NdCells w b (o + i * 5) x ∧ LiesD m w x ∧ RoomD m x := by
            intro i hi
            have h1 := hel2 i hi
            rw [List.getElem?_eq_getElem (by omega)] at h1
            obtain ⟨cs', hcs, ht⟩ := Option.bind_eq_some_iff.1 h1
            rw [cellsNode] at hcs
            obtain ⟨-, -, hcell⟩ := World.cells?_some hcs
            obtain ⟨x, rfl, hx1, hx2⟩ := ih m (by omega) _ _ ht
            have q0 := hcell 0 (by omega)
            have q1 := hcell 1 (by omega)
            have q2 := hcell 2 (by omega)
            have q3 := hcell 3 (by omega)
            have q4 := hcell 4 (by omega)
            have hs : (Addr.add ⟨b, o, sp⟩ (i * 5)).spot = none := by
              have ez : ∀ a : Addr, a.add 0 = a := fun a => by unfold Addr.add; rw [if_pos rfl]
              rw [ez] at q0
              exact World.cell?_spot (v := .int .i64 x.kind) q0
            have ha : Addr.add ⟨b, o, sp⟩ (i * 5) = ⟨b, o + i * 5, none⟩ := by
              unfold Addr.add at hs ⊢
              split at hs
              · rename_i h0
                simp only at hs
                subst hs
                simp [h0]
              · rename_i h0
                rw [if_neg h0]
            rw [ha, add_at] at q0 q1 q2 q3 q4
            refine ⟨x, ?_, ⟨by simpa using q0, by simpa using q1, by simpa using q2, by simpa using q3, by simpa using q4⟩, hx1, hx2⟩
            by_cases h0 : i = 0
            · subst h0
              left
              simp [Addr.add] at ha
              exact ha
            · exact Or.inr h0
          obtain ⟨l, hll, hp⟩ := list_of len each
          subst hll
          have hsp : 0 < l.length → sp = none := by
            intro h0
            obtain ⟨x, hx⟩ : ∃ x, l[0]? = some x := ⟨l[0]'h0, List.getElem?_eq_getElem _⟩
            rcases (hp 0 x hx).1 with h | h
            · exact h
            · exact absurd rfl h
          refine ⟨.mk k s1 s2 u (some ⟨b, o, sp⟩) cap l, rfl, ⟨⟨w1, w2, by simp only [Nd.kids]; omega, b3.1, b3.2, b0.1, b0.2⟩, fun i x hx => ?_⟩, ⟨hl, fun i x hx => ?_⟩⟩
          · have hx' : l[i]? = some x := hx
            have hi := (List.getElem?_eq_some_iff.1 hx').1
            obtain ⟨-, h2, h3, h4⟩ := hp i x hx'
            obtain rfl := hsp (by omega)
            exact ⟨⟨b, o, rfl, h2⟩, h3.mono (by omega)⟩
          · have hx' : l[i]? = some x := hx
            obtain ⟨-, h2, h3, h4⟩ := hp i x hx'
            exact h4.more h3 _

set_option maxRecDepth 100000 in
/-- An argument that is a node. -/
theorem open_node {H : Type} {enc : TypeId × Value → H} {w : World} {base : Nat} {spare : Nat → Bool} {held : Bool} {b0 : Nat} {r : Reach} {v : Value} {d : DataW H} {p : List MemPlace}
    (hv : Value.okWide Tryz.prog w r b0 25 v) (h : DataW.Trod enc Tryz.prog w base spare held 25 v d p) : ∃ (D : Nat) (n : Nd), v = n.val ∧ LiesD D w n ∧ RoomD D n := by
  obtain ⟨vs, rfl, hs⟩ := okWide_struct Tryz.underlying25 hv
  obtain ⟨fuel, hf⟩ := h
  obtain ⟨n, hn, h1, h2⟩ := open_fuel fuel _ _ hf
  refine ⟨fuel, n, ?_, h1, h2⟩
  have e : vs = #[.int .i64 n.kind, .string n.text, .string n.more, .int .u64 n.num, .slice n.ao n.kids.length n.cap] := Array.toList_inj.1 (by simpa [Value.cells] using hn)
  rw [e]
  rfl
end Go.Proofs.YtongafghllkomaaGreatDoor

namespace Go.Proofs.YtongafghllkomaaGreatDoor
open Go.RowKit
set_option linter.unusedVariables false
def nameTab : List (Int × ByteArray) := [(2, ⟨#[80, 97, 99, 107, 97, 103, 101]⟩), (3, ⟨#[70, 105, 108, 101]⟩), (4, ⟨#[80, 97, 99, 107, 97, 103, 101, 67, 108, 97, 117, 115, 101]⟩), (5, ⟨#[73, 109, 112, 111, 114, 116, 68, 101, 99, 108, 97, 114, 97, 116, 105, 111, 110]⟩), (6, ⟨#[66, 108, 111, 99, 107]⟩), (7, ⟨#[66, 97, 100, 83, 116, 97, 116, 101, 109, 101, 110, 116]⟩), (8, ⟨#[69, 120, 112, 114, 101, 115, 115, 105, 111, 110, 83, 116, 97, 116, 101, 109, 101, 110, 116]⟩), (9, ⟨#[82, 101, 116, 117, 114, 110, 83, 116, 97, 116, 101, 109, 101, 110, 116]⟩), (10, ⟨#[86, 97, 114, 105, 97, 98, 108, 101, 65, 115, 115, 105, 103, 110, 109, 101, 110, 116]⟩), (11, ⟨#[77, 101, 109, 98, 101, 114, 65, 115, 115, 105, 103, 110, 109, 101, 110, 116]⟩), (12, ⟨#[79, 112, 116, 105, 111, 110, 83, 116, 97, 116, 101, 109, 101, 110, 116]⟩), (13, ⟨#[66, 117, 105, 108, 116, 105, 110, 83, 116, 97, 116, 101, 109, 101, 110, 116]⟩), (14, ⟨#[84, 101, 115, 116, 83, 116, 97, 116, 101, 109, 101, 110, 116]⟩), (15, ⟨#[84, 101, 115, 116, 67, 97, 115, 101, 83, 116, 97, 116, 101, 109, 101, 110, 116]⟩), (16, ⟨#[67, 97, 108, 108, 69, 120, 112, 114, 101, 115, 115, 105, 111, 110]⟩), (17, ⟨#[77, 101, 109, 98, 101, 114, 69, 120, 112, 114, 101, 115, 115, 105, 111, 110]⟩), (18, ⟨#[73, 110, 100, 101, 120, 69, 120, 112, 114, 101, 115, 115, 105, 111, 110]⟩), (19, ⟨#[80, 105, 112, 101, 69, 120, 112, 114, 101, 115, 115, 105, 111, 110]⟩), (20, ⟨#[70, 117, 110, 99, 116, 105, 111, 110, 69, 120, 112, 114, 101, 115, 115, 105, 111, 110]⟩), (21, ⟨#[66, 105, 110, 97, 114, 121, 69, 120, 112, 114, 101, 115, 115, 105, 111, 110]⟩), (22, ⟨#[85, 110, 97, 114, 121, 69, 120, 112, 114, 101, 115, 115, 105, 111, 110]⟩), (23, ⟨#[76, 111, 103, 105, 99, 97, 108, 69, 120, 112, 114, 101, 115, 115, 105, 111, 110]⟩), (24, ⟨#[67, 111, 110, 100, 105, 116, 105, 111, 110, 97, 108, 69, 120, 112, 114, 101, 115, 115, 105, 111, 110]⟩), (25, ⟨#[80, 97, 114, 101, 110, 69, 120, 112, 114, 101, 115, 115, 105, 111, 110]⟩), (26, ⟨#[65, 114, 114, 97, 121, 69, 120, 112, 114, 101, 115, 115, 105, 111, 110]⟩), (27, ⟨#[68, 105, 99, 116, 69, 120, 112, 114, 101, 115, 115, 105, 111, 110]⟩), (28, ⟨#[79, 98, 106, 101, 99, 116, 69, 120, 112, 114, 101, 115, 115, 105, 111, 110]⟩), (29, ⟨#[80, 114, 111, 112, 101, 114, 116, 121]⟩), (30, ⟨#[83, 116, 114, 105, 110, 103, 69, 120, 112, 114, 101, 115, 115, 105, 111, 110]⟩), (33, ⟨#[73, 100, 101, 110, 116, 105, 102, 105, 101, 114]⟩), (34, ⟨#[83, 116, 114, 105, 110, 103, 76, 105, 116, 101, 114, 97, 108]⟩), (35, ⟨#[66, 111, 111, 108, 101, 97, 110, 76, 105, 116, 101, 114, 97, 108]⟩), (36, ⟨#[73, 110, 116, 101, 103, 101, 114, 76, 105, 116, 101, 114, 97, 108]⟩), (37, ⟨#[85, 110, 115, 105, 103, 110, 101, 100, 73, 110, 116, 101, 103, 101, 114, 76, 105, 116, 101, 114, 97, 108]⟩), (38, ⟨#[70, 108, 111, 97, 116, 76, 105, 116, 101, 114, 97, 108]⟩), (39, ⟨#[68, 117, 114, 97, 116, 105, 111, 110, 76, 105, 116, 101, 114, 97, 108]⟩), (41, ⟨#[68, 97, 116, 101, 84, 105, 109, 101, 76, 105, 116, 101, 114, 97, 108]⟩), (42, ⟨#[82, 101, 103, 101, 120, 112, 76, 105, 116, 101, 114, 97, 108]⟩), (43, ⟨#[80, 105, 112, 101, 76, 105, 116, 101, 114, 97, 108]⟩)]
def nameOf (c : Int) : ByteArray := nameTab.foldl (fun acc p => if p.1 = c then p.2 else acc) ⟨#[]⟩
/-- The kinds that have a name, and are none of types. -/
def namedL : List Int := [2, 3, 4, 5, 6, 7, 8, 9, 10, 11, 12, 14, 15, 16, 17, 18, 19, 20, 21, 22, 23, 24, 25, 26, 27, 28, 29, 30, 33, 34, 35, 36, 37, 38, 39, 41, 42, 43]

theorem undMS : Tryz.prog.underlying 48 = some (.map 3 9) := by kernel_rfl
theorem zeroS (w : World) : (zeroValue 9).run Tryz.prog w = .ok (.string ⟨#[]⟩) w := by kernel_rfl

theorem lookV_strs (c : Int) : ∀ (t : List (Int × ByteArray)) (z : ByteArray), lookV (t.map fun p => (p.1, Value.string p.2)) (.string z) c = .string (t.foldl (fun acc p => if p.1 = c then p.2 else acc) z) := by
  intro t
  induction t with
  | nil => intro z; rfl
  | cons p t ih =>
    intro z
    unfold lookV at ih ⊢
    simp only [List.map_cons, List.foldl_cons]
    rw [← ih]
    by_cases hp : p.1 = c
    · rw [if_pos hp, if_pos hp]
    · rw [if_neg hp, if_neg hp]

theorem wpList_lookup_s {w0 w : World} {ops : Array Oper} {rest : List Oper} {o : Oper} {a : Act} {Q : Exit → Act → World → Prop} {b : Nat} {l : List (Int × Value)} (h : VMap w0 w b l) (hl : l = nameTab.map fun p => (p.1, Value.string p.2))
    (hg : o.guard = none) (m x : Operand) (t : TypeId) (hop : o.op = Op.lookup t m x false) (e : TypeId) (ht : Tryz.prog.underlying t = some (.map 3 e)) (hz : (zeroValue e).run Tryz.prog w = .ok (.string ⟨#[]⟩) w)
    (hm : a.eval m = .map (some b)) (c : Int) (hx : a.eval x = .int .i64 c) (hc : (Lit.int .i64 c).wf = true)
    (hK : wpList Tryz.prog ops Q rest (a.put o.dst (.string (nameOf c))) w) : wpList Tryz.prog ops Q (o :: rest) a w := by
  subst hl
  refine wpList_plain hg fun K' hK' => ?_
  have hrun := h.2.2.lookup ht (.string ⟨#[]⟩) hz c hc
  rw [lookV_strs] at hrun
  unfold Oper.wp
  simp [execOp, hop, hm, hx, hrun, Result.andThen]
  exact hK' _ _ hK

/-- A text is handed back, and what there was is as it was. -/
def RetStr (s : ByteArray) (w : World) (e : Ending) (w' : World) : Prop := e = .returned (.string s) ∧ Below w.heap.size w w'

/-- A map of texts, and nothing else has turned since w0. -/
def SMap (w0 w : World) (b n : Nat) (T : List (Int × ByteArray)) : Prop := T.length = n ∧ VMap w0 w b (T.map fun p => (p.1, Value.string p.2))

theorem SMap.made (w : World) : SMap w (w.alloc (.map #[] 0)) w.heap.size 0 [] := ⟨rfl, VMap.made w⟩

theorem wpList_insert_s {w0 w : World} {ops : Array Oper} {rest : List Oper} {o : Oper} {a : Act} {Q : Exit → Act → World → Prop} {b n : Nat} {T : List (Int × ByteArray)} (h : SMap w0 w b n T)
    (hg : o.guard = none) (m : Operand) (t : TypeId) (k : Int) (s : ByteArray) (hop : o.op = Op.insert t m (.const (.int .i64 k)) (.const (.string s))) (e : TypeId) (ht : Tryz.prog.underlying t = some (.map 3 e)) (hl : n < 1000)
    (hm : a.eval m = .map (some b)) (hk : (Lit.int .i64 k).wf = true)
    (hK : ∀ w', SMap w0 w' b (n + 1) (T ++ [(k, s)]) → wpList Tryz.prog ops Q rest (a.put o.dst undef) w') : wpList Tryz.prog ops Q (o :: rest) a w := by
  refine wpList_plain hg fun K' hK' => ?_
  obtain ⟨w', hrun, h1, -⟩ := h.2.insert ht (by rw [List.length_map, h.1]; exact hl) k (.string s) hk
  unfold Oper.wp
  have e1 : a.eval (.const (.int .i64 k)) = .int .i64 k := rfl
  have e2 : a.eval (.const (.string s)) = .string s := rfl
  simp [execOp, hop, hm, e1, e2, hrun, Result.andThen]
  exact hK' _ _ (hK w' ⟨by simp [h.1], by rw [List.map_append]; exact h1⟩)

theorem wpList_lookup_m {w0 w : World} {ops : Array Oper} {rest : List Oper} {o : Oper} {a : Act} {Q : Exit → Act → World → Prop} {b n : Nat} {T : List (Int × ByteArray)} (h : SMap w0 w b n T) (hT : T = nameTab)
    (hg : o.guard = none) (m x : Operand) (t : TypeId) (hop : o.op = Op.lookup t m x false) (e : TypeId) (ht : Tryz.prog.underlying t = some (.map 3 e)) (hz : (zeroValue e).run Tryz.prog w = .ok (.string ⟨#[]⟩) w)
    (hm : a.eval m = .map (some b)) (c : Int) (hx : a.eval x = .int .i64 c) (hc : (Lit.int .i64 c).wf = true)
    (hK : wpList Tryz.prog ops Q rest (a.put o.dst (.string (nameOf c))) w) : wpList Tryz.prog ops Q (o :: rest) a w :=
  wpList_lookup_s h.2 (by rw [hT]) hg m x t hop e ht hz hm c hx hc hK

set_option maxHeartbeats 4000000 in
set_option maxRecDepth 100000 in
theorem specName_any (c : Int) (w : World) (hc : (Lit.int .i64 c).wf = true) :
    Calls Tryz.prog 13 #[.int .i64 c] w (RetStr (nameOf c) w) := by
  have hmm := @run_makeMap Tryz.prog
  go_enter Tryz.func13, Tryz.ntmps13
  go_wp2_with (first | (rename SMap _ _ _ _ _ => hS; refine wpList_insert_s hS rfl _ _ _ _ rfl 9 undMS (by decide) rfl ?_ ?_; (next => decide); clear hS; intro w1 h1) | (refine wpList_insert_s (SMap.made _) rfl _ _ _ _ rfl 9 undMS (by decide) rfl ?_ ?_; (next => decide); intro w1 h1) | (refine wpList_lookup_m ‹SMap _ _ _ _ _› rfl rfl _ _ 48 rfl 9 undMS (zeroS _) rfl c rfl hc ?_))
  go_ret
  exact ⟨rfl, VMap.bel (And.right ‹SMap _ _ _ _ _›)⟩

theorem fold_none {c : Int} : ∀ (t : List (Int × ByteArray)) (z : ByteArray), (∀ p ∈ t, p.1 ≠ c) → t.foldl (fun acc p => if p.1 = c then p.2 else acc) z = z := by
  intro t
  induction t with
  | nil => intro z _; rfl
  | cons p t ih =>
    intro z h
    simp only [List.foldl_cons]
    rw [if_neg (h p (by simp))]
    exact ih z (fun q hq => h q (by simp [hq]))

theorem nameOf_named (c : Int) : (c ∈ namedL ∨ c = 13) ∨ nameOf c = ⟨#[]⟩ := by
  by_cases h : c ∈ namedL ∨ c = 13
  · exact Or.inl h
  · right
    have h1 : ∀ p ∈ nameTab, p.1 ∈ namedL ∨ p.1 = 13 := by decide
    exact fold_none nameTab ⟨#[]⟩ (fun p hp e => h (e ▸ h1 p hp))
end Go.Proofs.YtongafghllkomaaGreatDoor

namespace Go.Proofs.YtongafghllkomaaGreatDoor
open Go.RowKit
set_option linter.unusedVariables false

/-- A Bool of which it is known what its no says. -/
def SomeNo (P : Prop) (w : World) (e : Ending) (w' : World) : Prop := ∃ b : Bool, e = .returned (.bool b) ∧ (b = false → P) ∧ Below w.heap.size w w'

def HoldsC (D : Nat) : Prop := ∀ (n : Nd) (z : Int) (ao : Option Addr) (cap : Nat) (w : World), LiesD D w n → IntsIn ao [z] w →
    Calls Tryz.prog 32 #[n.val, .slice ao 1 cap] w (SomeNo (NoneD D n z) w)

set_option maxRecDepth 100000 in
theorem holds_all : ∀ D, HoldsC D := by
  intro D
  induction D with
  | zero => intro n z ao cap w hL _; exact hL.elim
  | succ D ih =>
    intro n z ao cap w hL hI
    obtain ⟨k, t, m, u, no, ncap, kids⟩ := n
    have hM := hL.len_le
    obtain ⟨len, hlen⟩ : ∃ len, kids.length = len := ⟨_, rfl⟩
    show Calls _ _ #[.agg #[.int .i64 k, .string t, .string m, .int .u64 u, .slice no kids.length ncap], _] w _
    rw [hlen] at hM ⊢
    have HN := Lib.hid hlen
    have HL := Lib.hid hL
    have HI := Lib.hid hI
    clear hlen hL hI
    go_enter Tryz.func32, Tryz.ntmps32
    go_wp2_with fail
    refine (in_any k ao [z] 1 cap _ rfl (by omega) (HI.out.below ((Below.refl _ _).alloc (Nat.le_refl _) _))).mono ?_
    rintro e w1 ⟨rfl, rfl⟩
    cases hin : inB k [z]
    · have HIN := Lib.hid hin
      clear hin
      go_wp2_with fail
      have H0 := Lib.hid ((Below.refl w.heap.size w).alloc (Nat.le_refl _) (.cells #[.int .i64 k, .string t, .string m, .int .u64 u, .slice no len ncap] 25))
      go_loopg [14] len (fun gk i wr => ∃ (j : Nat), j ≤ len ∧ gk = len - j ∧ i = .int .i64 (j : Int) ∧ Hid (∀ (i : Nat) (x : Nd), i < j → kids[i]? = some x → NoneD D x z) ∧ Hid (Below w.heap.size w wr))
      case atStart => exact ⟨0, by omega, by omega, rfl, Lib.hid (fun i x h => absurd h (by omega)), H0⟩
      case round =>
        obtain ⟨j, hj, rfl, rfl, hD, hB⟩ := hrel
        by_cases hjn : j < len
        · have hjz : (j : Int) < (len : Int) := by omega
          obtain ⟨x, hx⟩ : ∃ x, kids[j]? = some x := ⟨kids[j]'(by have := HN.out; omega), List.getElem?_eq_getElem _⟩
          obtain ⟨b, o, hao, c0, c1, c2, c3, c4, hLx⟩ := kid_cells HL.out hx hB.out
          obtain rfl : no = some ⟨b, o, none⟩ := hao
          have HX := Lib.hid hx
          have HLX := Lib.hid hLx
          have hBs := hB.out.size
          clear hx hLx
          go_wp2_with fail
          refine (ih x z ao cap _ (HLX.out.below ((Below.refl _ _).alloc (Nat.le_refl _) _)) ((HI.out.below hB.out).below ((Below.refl _ _).alloc (Nat.le_refl _) _))).mono ?_
          rintro e w4 ⟨bf, rfl, h4, hb4⟩
          have HB4 := Lib.hid ((hB.out.alloc hBs _).trans (hb4.mono (by simp; omega)))
          have H4 := Lib.hid h4
          clear h4 hb4
          cases bf
          · go_wp2_with fail
            go_roundg (len - (j + 1))
            case measure => omega
            case rel =>
              refine ⟨j + 1, by omega, rfl, by push_cast; rfl, Lib.hid (fun i y hi hy => ?_), HB4⟩
              by_cases e : i = j
              · subst e
                rw [HX.out] at hy
                cases hy
                exact H4.out (by first | rfl | trivial)
              · exact hD.out i y (by omega) hy
          · go_wp2_with fail
            go_ret
            exact ⟨_, rfl, (by intro h; cases h), HB4.out⟩
        · have hjz : ¬ (j : Int) < (len : Int) := by omega
          obtain rfl : j = len := by omega
          go_wp2_with fail
          go_ret
          refine ⟨_, rfl, (fun _ => ⟨?_, fun i x hx => hD.out i x (by have := HN.out; have := (List.getElem?_eq_some_iff.1 hx).1; simp only [Nd.kids] at this; omega) hx⟩), hB.out⟩
          have := HIN.out
          simp only [Nd.kind]
          intro e
          subst e
          simp [inB] at this
    · clear hin
      go_wp2_with fail
      go_ret
      exact ⟨_, rfl, (by intro h; cases h), (Below.refl _ _).alloc (Nat.le_refl _) _⟩
end Go.Proofs.YtongafghllkomaaGreatDoor

namespace Go.Proofs.YtongafghllkomaaGreatDoor
open Go.RowKit
set_option linter.unusedVariables false

/-- Some Bool, and nothing else. -/
def SomeW (w : World) (e : Ending) (w' : World) : Prop := ∃ b : Bool, e = .returned (.bool b) ∧ w' = w

set_option maxRecDepth 100000 in
theorem plainPattern_any (s : ByteArray) (w : World) (hs : s.size ≤ 9223372036854775807) :
    Calls Tryz.prog 129 #[.string s] w (SomeW w) := by
  go_enter Tryz.func129, Tryz.ntmps129
  go_wp2_with fail
  go_loopg [3] s.size (fun gk i wr => wr = w ∧ ∃ (j : Nat), j ≤ s.size ∧ gk = s.size - j ∧ i = .int .i64 (j : Int))
  case atStart => exact ⟨rfl, 0, by omega, by omega, rfl⟩
  case round =>
    obtain ⟨rfl, j, hj, rfl, rfl⟩ := hrel
    by_cases hjn : j < s.size
    · have hjz : (j : Int) < (s.size : Int) := by omega
      go_wp2_with fail

      all_goals first
        | (go_roundg (s.size - (j + 1))
           case measure => omega
           case rel => exact ⟨rfl, j + 1, by omega, rfl, by push_cast; rfl⟩)
        | (go_ret
           exact ⟨_, rfl, rfl⟩)
    · have hjz : ¬ (j : Int) < (s.size : Int) := by omega
      go_wp2_with fail
      go_ret
      exact ⟨_, rfl, rfl⟩

set_option maxRecDepth 100000 in
theorem literal_41 (t m : ByteArray) (u : Int) (sl : Value) (w : World) :
    Calls Tryz.prog 88 #[.agg #[.int .i64 41, .string t, .string m, .int .u64 u, sl]] w (SomeB True w) := by
  go_enter Tryz.func88, Tryz.ntmps88
  go_wp2_with fail
  all_goals
    go_ret
    exact ⟨_, rfl, (fun _ => trivial), (Below.refl _ _).alloc (Nat.le_refl _) _⟩

set_option maxRecDepth 100000 in
theorem literal_42 (t m : ByteArray) (u : Int) (sl : Value) (w : World) (ht : t.size ≤ 9223372036854775807) :
    Calls Tryz.prog 88 #[.agg #[.int .i64 42, .string t, .string m, .int .u64 u, sl]] w (SomeB True w) := by
  go_enter Tryz.func88, Tryz.ntmps88
  go_wp2_with fail
  refine (plainPattern_any t _ ht).mono ?_
  rintro e w1 ⟨b, rfl, rfl⟩
  go_wp2_with fail
  go_ret
  exact ⟨_, rfl, (fun _ => trivial), (Below.refl _ _).alloc (Nat.le_refl _) _⟩

def LitsC (D : Nat) : Prop := ∀ (n : Nd) (w : World), LiesD D w n → Calls Tryz.prog 33 #[n.val] w (SomeB True w)

set_option maxRecDepth 100000 in
theorem lits_all : ∀ D, LitsC D := by
  intro D
  induction D with
  | zero => intro n w hL; exact hL.elim
  | succ D ih =>
    intro n w hL
    obtain ⟨k, t, m, u, no, ncap, kids⟩ := n
    have hM := hL.len_le
    have hT : t.size ≤ 9223372036854775807 := by have := hL.1.1; unfold maxLen at this; exact this
    obtain ⟨len, hlen⟩ : ∃ len, kids.length = len := ⟨_, rfl⟩
    show Calls _ _ #[.agg #[.int .i64 k, .string t, .string m, .int .u64 u, .slice no kids.length ncap]] w _
    rw [hlen] at hM ⊢
    have HN := Lib.hid hlen
    have HL := Lib.hid hL
    clear hlen hL
    by_cases h41 : k = 41
    · subst h41
      go_enter Tryz.func33, Tryz.ntmps33
      go_wp2_with fail
      refine (literal_41 t m u _ _).mono ?_
      rintro e w1 ⟨b1, rfl, -, hb1⟩
      have H0 := Lib.hid (((Below.refl w.heap.size w).alloc (Nat.le_refl _) (.cells #[.int .i64 41, .string t, .string m, .int .u64 u, .slice no len ncap] 25)).trans (hb1.mono (by simp)))
      obtain ⟨k0, -⟩ := bblk hb1 (b := w.heap.size) (by simp)
      clear hb1
      cases b1
      · go_wp2_with fail
        go_ret
        exact ⟨_, rfl, (fun _ => trivial), H0.out⟩
      go_wp2_with fail
      go_loopg [21] len (fun gk i wr => ∃ (j : Nat), j ≤ len ∧ gk = len - j ∧ i = .int .i64 (j : Int) ∧ Hid (Below w.heap.size w wr))
      case atStart => exact ⟨0, by omega, by omega, rfl, H0⟩
      case round =>
        obtain ⟨j, hj, rfl, rfl, hB⟩ := hrel
        by_cases hjn : j < len
        · have hjz : (j : Int) < (len : Int) := by omega
          obtain ⟨x, hx⟩ : ∃ x, kids[j]? = some x := ⟨kids[j]'(by have := HN.out; omega), List.getElem?_eq_getElem _⟩
          obtain ⟨b, o, hao, c0, c1, c2, c3, c4, hLx⟩ := kid_cells HL.out hx hB.out
          obtain rfl : no = some ⟨b, o, none⟩ := hao
          have HLX := Lib.hid hLx
          have hBs := hB.out.size
          clear hx hLx
          go_wp2_with fail
          refine (ih x _ (HLX.out.below ((Below.refl _ _).alloc (Nat.le_refl _) _))).mono ?_
          rintro e w4 ⟨bf, rfl, h4, hb4⟩
          have HB4 := Lib.hid ((hB.out.alloc hBs _).trans (hb4.mono (by simp; omega)))
          clear h4 hb4
          cases bf
          · go_wp2_with fail
            go_ret
            exact ⟨_, rfl, (fun _ => trivial), HB4.out⟩
          · go_wp2_with fail
            go_roundg (len - (j + 1))
            case measure => omega
            case rel => exact ⟨j + 1, by omega, rfl, by push_cast; rfl, HB4⟩
        · have hjz : ¬ (j : Int) < (len : Int) := by omega
          obtain rfl : j = len := by omega
          go_wp2_with fail
          go_ret
          exact ⟨_, rfl, (fun _ => trivial), hB.out⟩
    by_cases h42 : k = 42
    · subst h42
      go_enter Tryz.func33, Tryz.ntmps33
      go_wp2_with fail
      refine (literal_42 t m u _ _ hT).mono ?_
      rintro e w1 ⟨b1, rfl, -, hb1⟩
      have H0 := Lib.hid (((Below.refl w.heap.size w).alloc (Nat.le_refl _) (.cells #[.int .i64 42, .string t, .string m, .int .u64 u, .slice no len ncap] 25)).trans (hb1.mono (by simp)))
      obtain ⟨k0, -⟩ := bblk hb1 (b := w.heap.size) (by simp)
      clear hb1
      cases b1
      · go_wp2_with fail
        go_ret
        exact ⟨_, rfl, (fun _ => trivial), H0.out⟩
      go_wp2_with fail
      go_loopg [21] len (fun gk i wr => ∃ (j : Nat), j ≤ len ∧ gk = len - j ∧ i = .int .i64 (j : Int) ∧ Hid (Below w.heap.size w wr))
      case atStart => exact ⟨0, by omega, by omega, rfl, H0⟩
      case round =>
        obtain ⟨j, hj, rfl, rfl, hB⟩ := hrel
        by_cases hjn : j < len
        · have hjz : (j : Int) < (len : Int) := by omega
          obtain ⟨x, hx⟩ : ∃ x, kids[j]? = some x := ⟨kids[j]'(by have := HN.out; omega), List.getElem?_eq_getElem _⟩
          obtain ⟨b, o, hao, c0, c1, c2, c3, c4, hLx⟩ := kid_cells HL.out hx hB.out
          obtain rfl : no = some ⟨b, o, none⟩ := hao
          have HLX := Lib.hid hLx
          have hBs := hB.out.size
          clear hx hLx
          go_wp2_with fail
          refine (ih x _ (HLX.out.below ((Below.refl _ _).alloc (Nat.le_refl _) _))).mono ?_
          rintro e w4 ⟨bf, rfl, h4, hb4⟩
          have HB4 := Lib.hid ((hB.out.alloc hBs _).trans (hb4.mono (by simp; omega)))
          clear h4 hb4
          cases bf
          · go_wp2_with fail
            go_ret
            exact ⟨_, rfl, (fun _ => trivial), HB4.out⟩
          · go_wp2_with fail
            go_roundg (len - (j + 1))
            case measure => omega
            case rel => exact ⟨j + 1, by omega, rfl, by push_cast; rfl, HB4⟩
        · have hjz : ¬ (j : Int) < (len : Int) := by omega
          obtain rfl : j = len := by omega
          go_wp2_with fail
          go_ret
          exact ⟨_, rfl, (fun _ => trivial), hB.out⟩
    have g1 : (k == 41) = false := by simpa using h41
    have g2 : (k == 42) = false := by simpa using h42
    go_enter Tryz.func33, Tryz.ntmps33
    go_wp2_with fail
    have H0 := Lib.hid ((Below.refl w.heap.size w).alloc (Nat.le_refl _) (.cells #[.int .i64 k, .string t, .string m, .int .u64 u, .slice no len ncap] 25))
    go_loopg [21] len (fun gk i wr => ∃ (j : Nat), j ≤ len ∧ gk = len - j ∧ i = .int .i64 (j : Int) ∧ Hid (Below w.heap.size w wr))
    case atStart => exact ⟨0, by omega, by omega, rfl, H0⟩
    case round =>
      obtain ⟨j, hj, rfl, rfl, hB⟩ := hrel
      by_cases hjn : j < len
      · have hjz : (j : Int) < (len : Int) := by omega
        obtain ⟨x, hx⟩ : ∃ x, kids[j]? = some x := ⟨kids[j]'(by have := HN.out; omega), List.getElem?_eq_getElem _⟩
        obtain ⟨b, o, hao, c0, c1, c2, c3, c4, hLx⟩ := kid_cells HL.out hx hB.out
        obtain rfl : no = some ⟨b, o, none⟩ := hao
        have HLX := Lib.hid hLx
        have hBs := hB.out.size
        clear hx hLx
        go_wp2_with fail
        refine (ih x _ (HLX.out.below ((Below.refl _ _).alloc (Nat.le_refl _) _))).mono ?_
        rintro e w4 ⟨bf, rfl, h4, hb4⟩
        have HB4 := Lib.hid ((hB.out.alloc hBs _).trans (hb4.mono (by simp; omega)))
        clear h4 hb4
        cases bf
        · go_wp2_with fail
          go_ret
          exact ⟨_, rfl, (fun _ => trivial), HB4.out⟩
        · go_wp2_with fail
          go_roundg (len - (j + 1))
          case measure => omega
          case rel => exact ⟨j + 1, by omega, rfl, by push_cast; rfl, HB4⟩
      · have hjz : ¬ (j : Int) < (len : Int) := by omega
        obtain rfl : j = len := by omega
        go_wp2_with fail
        go_ret
        exact ⟨_, rfl, (fun _ => trivial), hB.out⟩
end Go.Proofs.YtongafghllkomaaGreatDoor
