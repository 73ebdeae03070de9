/-
  A tree out of a law's argument; spec.PlainLiterals. No conditions.
-/
import Derived.Test.YtcbcdgifakcooaaGreatDoorTests
import Derived.Deep.Slices
import Derived.ChangeArms
import Derived.Test.YtcbcdgifakcooaaGreatDoorShape
namespace Go.Proofs.YtcbcdgifakcooaaGreatDoor
open Go.ChangeShapes Go.WideShapes Go.RowKit Go.Deep
set_option linter.unusedVariables false

theorem list_of {α : Type} {p : Nat → α → Prop} : ∀ (n : Nat), (∀ i, i < n → ∃ x, p i x) → ∃ l : List α, l.length = n ∧ ∀ (i : Nat) (x : α), l[i]? = some x → p i x := by
  intro n
  induction n with
  | zero => intro _; exact ⟨[], rfl, by intro i x h; simp at h⟩
  | succ n ih =>
    intro h
    obtain ⟨l, hl, hp⟩ := ih (fun i hi => h i (by omega))
    obtain ⟨x, hx⟩ := h n (by omega)
    refine ⟨l ++ [x], by simp [hl], fun i y hy => ?_⟩
    by_cases hi : i < l.length
    · rw [List.getElem?_append_left hi] at hy
      exact hp i y hy
    · have hlt := (List.getElem?_eq_some_iff.1 hy).1
      simp at hlt
      obtain rfl : i = l.length := by omega
      rw [List.getElem?_append_right (Nat.le_refl _)] at hy
      simp at hy
      subst hy
      rw [hl]
      exact hx

/-- No more kids than the slices have room for. -/
def RoomD : Nat → Nd → Prop
  | 0, _ => True
  | d + 1, n => n.kids.length ≤ n.cap ∧ ∀ (i : Nat) (x : Nd), n.kids[i]? = some x → RoomD d x

theorem RoomD.less {d : Nat} : ∀ {d' : Nat} {n : Nd}, RoomD d n → d' ≤ d → RoomD d' n := by
  induction d with
  | zero =>
    intro d' n h hd
    obtain rfl : d' = 0 := by omega
    exact trivial
  | succ d ih =>
    intro d' n h hd
    cases d' with
    | zero => exact trivial
    | succ d' => exact ⟨h.1, fun i x hx => ih (h.2 i x hx) (by omega)⟩

/-- Behind the last level there is nothing. -/
theorem RoomD.more {d : Nat} : ∀ {w : World} {n : Nd}, LiesD d w n → RoomD d n → ∀ d', RoomD d' n := by
  induction d with
  | zero => intro w n h; exact h.elim
  | succ d ih =>
    intro w n h hr d'
    cases d' with
    | zero => exact trivial
    | succ d' => exact ⟨hr.1, fun i x hx => ih (h.2 i x hx).2 (hr.2 i x hx) d'⟩

theorem NoneD.more {d : Nat} {k : Int} : ∀ {w : World} {n : Nd}, LiesD d w n → NoneD d n k → ∀ d', NoneD d' n k := by
  induction d with
  | zero => intro w n h; exact h.elim
  | succ d ih =>
    intro w n h hr d'
    cases d' with
    | zero => exact trivial
    | succ d' => exact ⟨hr.1, fun i x hx => ih (h.2 i x hx).2 (hr.2 i x hx) d'⟩

theorem sum_ge : ∀ (l : List Nat) (i m : Nat), l[i]? = some m → m ≤ l.sum := by
  intro l
  induction l with
  | nil => intro i m h; simp at h
  | cons a l ih =>
    intro i m h
    cases i with
    | zero => simp at h; subst h; simp
    | succ i => have := ih i m (by simpa using h); simp; omega

theorem sum_len : ∀ (l : List Nat), (∀ m ∈ l, 1 ≤ m) → l.length ≤ l.sum := by
  intro l
  induction l with
  | nil => intro _; simp
  | cons a l ih =>
    intro h
    have h1 := h a (by simp)
    have h2 := ih (fun m hm => h m (by simp [hm]))
    simp; omega

theorem countD_pos {d : Nat} {w : World} {n : Nd} (h : LiesD d w n) : 1 ≤ Nd.countD d n := by
  cases d with
  | zero => exact h.elim
  | succ d => simp only [Nd.countD]; omega

theorem small_of {d : Nat} : ∀ {w : World} {n : Nd}, LiesD d w n → RoomD d n → Nd.countD d n ≤ 400 → ∀ d', SmallD d' n := by
  induction d with
  | zero => intro w n h; exact h.elim
  | succ d ih =>
    intro w n h hr hc d'
    cases d' with
    | zero => exact trivial
    | succ d' =>
      simp only [Nd.countD] at hc
      have hlen : (n.kids.map (Nd.countD d)).length ≤ (n.kids.map (Nd.countD d)).sum := by
        refine sum_len _ fun m hm => ?_
        obtain ⟨x, hx, rfl⟩ := List.mem_map.1 hm
        obtain ⟨i, hi⟩ := List.mem_iff_getElem?.1 hx
        exact countD_pos (h.2 i x hi).2
      rw [List.length_map] at hlen
      refine ⟨⟨by omega, hr.1⟩, fun i x hx => ih (h.2 i x hx).2 (hr.2 i x hx) ?_ d'⟩
      have := sum_ge (n.kids.map (Nd.countD d)) i (Nd.countD d x) (by simp [hx])
      omega

theorem cellsNode : Tryz.prog.cellsOf 25 = 5 := by kernel_rfl
theorem cellsI : Tryz.prog.cellsOf 3 = 1 := by kernel_rfl
theorem cellsS : Tryz.prog.cellsOf 9 = 1 := by kernel_rfl
theorem cellsU : Tryz.prog.cellsOf 22 = 1 := by kernel_rfl
theorem cellsSl : Tryz.prog.cellsOf 23 = 1 := by kernel_rfl

theorem add_at (b o j : Nat) : (⟨b, o, none⟩ : Addr).add j = ⟨b, o + j, none⟩ := by unfold Addr.add; split <;> simp_all

set_option maxRecDepth 100000 in
theorem open_fuel {H : Type} {enc : TypeId × Value → H} {w : World} {base : Nat} {spare : Nat → Bool} {held : Bool} : ∀ (fuel : Nat) (cs : List Value) (x : DataW H × List MemPlace),
    DataW.trod enc Tryz.prog w base spare held fuel 25 cs = some x → ∃ n : Nd, cs = [.int .i64 n.kind, .string n.text, .string n.more, .int .u64 n.num, .slice n.ao n.kids.length n.cap] ∧ LiesD fuel w n ∧ RoomD fuel n := by
  intro fuel
  induction fuel using Nat.strongRecOn with
  | _ fuel ih =>
    intro cs x h
    obtain ⟨xs, n, rfl, -, hlen, hxl, hf⟩ := DataW.trod_struct Tryz.underlying25 h
    rw [cellsNode] at hlen
    match cs, hlen with
    | [v0, v1, v2, v3, v4], _ =>
      match xs, hxl with
      | [y0, y1, y2, y3, y4], _ =>
        have g0 := hf 0 _ rfl
        have g1 := hf 1 _ rfl
        have g2 := hf 2 _ rfl
        have g3 := hf 3 _ rfl
        have g4 := hf 4 _ rfl
        simp [cellsI, cellsS, cellsU, cellsSl] at g0 g1 g2 g3 g4
        obtain ⟨k, e0, -, w0⟩ := DataW.trod_int Tryz.underlying3 g0
        obtain ⟨s1, e1, -, w1⟩ := DataW.trod_string Tryz.underlying9 g1
        obtain ⟨s2, e2, -, w2⟩ := DataW.trod_string Tryz.underlying9 g2
        obtain ⟨u, e3, -, w3⟩ := DataW.trod_int Tryz.underlying22 g3
        simp only [List.cons.injEq, and_true] at e0 e1 e2 e3
        subst e0 e1 e2 e3
        have b0 : -9223372036854775808 ≤ k ∧ k ≤ 9223372036854775807 := by simp [Lit.wf, IntKind.min, IntKind.max, IntKind.signed, IntKind.bits] at w0; omega
        have b3 : 0 ≤ u ∧ u < 18446744073709551616 := by simp [Lit.wf, IntKind.min, IntKind.max, IntKind.signed, IntKind.bits] at w3; omega
        rcases DataW.trod_slice Tryz.underlying23 g4 with ⟨e4, -⟩ | ⟨a, len, cap, elems, rest, m, hm, e4, -, hb, hl, hc, hel, hel2, -, -⟩
        · simp only [List.cons.injEq, and_true] at e4
          subst e4
          refine ⟨.mk k s1 s2 u none 0 [], rfl, ⟨⟨w1, w2, by simp [Nd.kids], b3.1, b3.2, b0.1, b0.2⟩, fun i x hx => by simp [Nd.kids] at hx⟩, ⟨by simp [Nd.kids], fun i x hx => by simp [Nd.kids] at hx⟩⟩
        · simp only [List.cons.injEq, and_true] at e4
          subst e4
          obtain ⟨b, o, sp⟩ := a
          have each : ∀ i, i < len → ∃ x : Nd, (sp = none ∨ i ≠ 0) ∧ NdCells w b (o + i * 5) x ∧ LiesD m w x ∧ RoomD m x := by
            intro i hi
            have h1 := hel2 i hi
            rw [List.getElem?_eq_getElem (by omega)] at h1
            obtain ⟨cs', hcs, ht⟩ := Option.bind_eq_some_iff.1 h1
            rw [cellsNode] at hcs
            obtain ⟨-, -, hcell⟩ := World.cells?_some hcs
            obtain ⟨x, rfl, hx1, hx2⟩ := ih m (by omega) _ _ ht
            have q0 := hcell 0 (by omega)
            have q1 := hcell 1 (by omega)
            have q2 := hcell 2 (by omega)
            have q3 := hcell 3 (by omega)
            have q4 := hcell 4 (by omega)
            have hs : (Addr.add ⟨b, o, sp⟩ (i * 5)).spot = none := by
              have ez : ∀ a : Addr, a.add 0 = a := fun a => by unfold Addr.add; rw [if_pos rfl]
              rw [ez] at q0
              exact World.cell?_spot (v := .int .i64 x.kind) q0
            have ha : Addr.add ⟨b, o, sp⟩ (i * 5) = ⟨b, o + i * 5, none⟩ := by
              unfold Addr.add at hs ⊢
              split at hs
              · rename_i h0
                simp only at hs
                subst hs
                simp [h0]
              · rename_i h0
                rw [if_neg h0]
            rw [ha, add_at] at q0 q1 q2 q3 q4
            refine ⟨x, ?_, ⟨by simpa using q0, by simpa using q1, by simpa using q2, by simpa using q3, by simpa using q4⟩, hx1, hx2⟩
            by_cases h0 : i = 0
            · subst h0
              left
              simp [Addr.add] at ha
              exact ha
            · exact Or.inr h0
          obtain ⟨l, hll, hp⟩ := list_of len each
          subst hll
          have hsp : 0 < l.length → sp = none := by
            intro h0
            obtain ⟨x, hx⟩ : ∃ x, l[0]? = some x := ⟨l[0]'h0, List.getElem?_eq_getElem _⟩
            rcases (hp 0 x hx).1 with h | h
            · exact h
            · exact absurd rfl h
          refine ⟨.mk k s1 s2 u (some ⟨b, o, sp⟩) cap l, rfl, ⟨⟨w1, w2, by simp only [Nd.kids]; omega, b3.1, b3.2, b0.1, b0.2⟩, fun i x hx => ?_⟩, ⟨hl, fun i x hx => ?_⟩⟩
          · have hx' : l[i]? = some x := hx
            have hi := (List.getElem?_eq_some_iff.1 hx').1
            obtain ⟨-, h2, h3, h4⟩ := hp i x hx'
            obtain rfl := hsp (by omega)
            exact ⟨⟨b, o, rfl, h2⟩, h3.mono (by omega)⟩
          · have hx' : l[i]? = some x := hx
            obtain ⟨-, h2, h3, h4⟩ := hp i x hx'
            exact h4.more h3 _

set_option maxRecDepth 100000 in
/-- An argument that is a node. -/
theorem open_node {H : Type} {enc : TypeId × Value → H} {w : World} {base : Nat} {spare : Nat → Bool} {held : Bool} {b0 : Nat} {r : Reach} {v : Value} {d : DataW H} {p : List MemPlace}
    (hv : Value.okWide Tryz.prog w r b0 25 v) (h : DataW.Trod enc Tryz.prog w base spare held 25 v d p) : ∃ (D : Nat) (n : Nd), v = n.val ∧ LiesD D w n ∧ RoomD D n := by
  obtain ⟨vs, rfl, hs⟩ := okWide_struct Tryz.underlying25 hv
  obtain ⟨fuel, hf⟩ := h
  obtain ⟨n, hn, h1, h2⟩ := open_fuel fuel _ _ hf
  refine ⟨fuel, n, ?_, h1, h2⟩
  have e : vs = #[.int .i64 n.kind, .string n.text, .string n.more, .int .u64 n.num, .slice n.ao n.kids.length n.cap] := Array.toList_inj.1 (by simpa [Value.cells] using hn)
  rw [e]
  rfl
end Go.Proofs.YtcbcdgifakcooaaGreatDoor
namespace Go.Proofs.YtcbcdgifakcooaaGreatDoor
open Go.RowKit
set_option linter.unusedVariables false

/-- Some Bool, and nothing else. -/
def SomeW (w : World) (e : Ending) (w' : World) : Prop := ∃ b : Bool, e = .returned (.bool b) ∧ w' = w

set_option maxRecDepth 100000 in
theorem plainPattern_any (s : ByteArray) (w : World) (hs : s.size ≤ 9223372036854775807) :
    Calls Tryz.prog 83 #[.string s] w (SomeW w) := by
  go_enter Tryz.func83, Tryz.ntmps83
  go_wp2_with fail
  go_loopg [3] s.size (fun gk i wr => wr = w ∧ ∃ (j : Nat), j ≤ s.size ∧ gk = s.size - j ∧ i = .int .i64 (j : Int))
  case atStart => exact ⟨rfl, 0, by omega, by omega, rfl⟩
  case round =>
    obtain ⟨rfl, j, hj, rfl, rfl⟩ := hrel
    by_cases hjn : j < s.size
    · have hjz : (j : Int) < (s.size : Int) := by omega
      go_wp2_with fail

      all_goals first
        | (go_roundg (s.size - (j + 1))
           case measure => omega
           case rel => exact ⟨rfl, j + 1, by omega, rfl, by push_cast; rfl⟩)
        | (go_ret
           exact ⟨_, rfl, rfl⟩)
    · have hjz : ¬ (j : Int) < (s.size : Int) := by omega
      go_wp2_with fail
      go_ret
      exact ⟨_, rfl, rfl⟩

set_option maxRecDepth 100000 in
theorem literal_41 (t m : ByteArray) (u : Int) (sl : Value) (w : World) :
    Calls Tryz.prog 29 #[.agg #[.int .i64 41, .string t, .string m, .int .u64 u, sl]] w (SomeB True w) := by
  go_enter Tryz.func29, Tryz.ntmps29
  go_wp2_with fail
  all_goals
    go_ret
    exact ⟨_, rfl, (fun _ => trivial), (Below.refl _ _).alloc (Nat.le_refl _) _⟩

set_option maxRecDepth 100000 in
theorem literal_42 (t m : ByteArray) (u : Int) (sl : Value) (w : World) (ht : t.size ≤ 9223372036854775807) :
    Calls Tryz.prog 29 #[.agg #[.int .i64 42, .string t, .string m, .int .u64 u, sl]] w (SomeB True w) := by
  go_enter Tryz.func29, Tryz.ntmps29
  go_wp2_with fail
  refine (plainPattern_any t _ ht).mono ?_
  rintro e w1 ⟨b, rfl, rfl⟩
  go_wp2_with fail
  go_ret
  exact ⟨_, rfl, (fun _ => trivial), (Below.refl _ _).alloc (Nat.le_refl _) _⟩

def LitsC (D : Nat) : Prop := ∀ (n : Nd) (w : World), LiesD D w n → Calls Tryz.prog 15 #[n.val] w (SomeB True w)

set_option maxRecDepth 100000 in
theorem lits_all : ∀ D, LitsC D := by
  intro D
  induction D with
  | zero => intro n w hL; exact hL.elim
  | succ D ih =>
    intro n w hL
    obtain ⟨k, t, m, u, no, ncap, kids⟩ := n
    have hM := hL.len_le
    have hT : t.size ≤ 9223372036854775807 := by have := hL.1.1; unfold maxLen at this; exact this
    obtain ⟨len, hlen⟩ : ∃ len, kids.length = len := ⟨_, rfl⟩
    show Calls _ _ #[.agg #[.int .i64 k, .string t, .string m, .int .u64 u, .slice no kids.length ncap]] w _
    rw [hlen] at hM ⊢
    have HN := Lib.hid hlen
    have HL := Lib.hid hL
    clear hlen hL
    by_cases h41 : k = 41
    · subst h41
      go_enter Tryz.func15, Tryz.ntmps15
      go_wp2_with fail
      refine (literal_41 t m u _ _).mono ?_
      rintro e w1 ⟨b1, rfl, -, hb1⟩
      have H0 := Lib.hid (((Below.refl w.heap.size w).alloc (Nat.le_refl _) (.cells #[.int .i64 41, .string t, .string m, .int .u64 u, .slice no len ncap] 25)).trans (hb1.mono (by simp)))
      obtain ⟨k0, -⟩ := bblk hb1 (b := w.heap.size) (by simp)
      clear hb1
      cases b1
      · go_wp2_with fail
        go_ret
        exact ⟨_, rfl, (fun _ => trivial), H0.out⟩
      go_wp2_with fail
      go_loopg [21] len (fun gk i wr => ∃ (j : Nat), j ≤ len ∧ gk = len - j ∧ i = .int .i64 (j : Int) ∧ Hid (Below w.heap.size w wr))
      case atStart => exact ⟨0, by omega, by omega, rfl, H0⟩
      case round =>
        obtain ⟨j, hj, rfl, rfl, hB⟩ := hrel
        by_cases hjn : j < len
        · have hjz : (j : Int) < (len : Int) := by omega
          obtain ⟨x, hx⟩ : ∃ x, kids[j]? = some x := ⟨kids[j]'(by have := HN.out; omega), List.getElem?_eq_getElem _⟩
          obtain ⟨b, o, hao, c0, c1, c2, c3, c4, hLx⟩ := kid_cells HL.out hx hB.out
          obtain rfl : no = some ⟨b, o, none⟩ := hao
          have HLX := Lib.hid hLx
          have hBs := hB.out.size
          clear hx hLx
          go_wp2_with fail
          refine (ih x _ (HLX.out.below ((Below.refl _ _).alloc (Nat.le_refl _) _))).mono ?_
          rintro e w4 ⟨bf, rfl, h4, hb4⟩
          have HB4 := Lib.hid ((hB.out.alloc hBs _).trans (hb4.mono (by simp; omega)))
          clear h4 hb4
          cases bf
          · go_wp2_with fail
            go_ret
            exact ⟨_, rfl, (fun _ => trivial), HB4.out⟩
          · go_wp2_with fail
            go_roundg (len - (j + 1))
            case measure => omega
            case rel => exact ⟨j + 1, by omega, rfl, by push_cast; rfl, HB4⟩
        · have hjz : ¬ (j : Int) < (len : Int) := by omega
          obtain rfl : j = len := by omega
          go_wp2_with fail
          go_ret
          exact ⟨_, rfl, (fun _ => trivial), hB.out⟩
    by_cases h42 : k = 42
    · subst h42
      go_enter Tryz.func15, Tryz.ntmps15
      go_wp2_with fail
      refine (literal_42 t m u _ _ hT).mono ?_
      rintro e w1 ⟨b1, rfl, -, hb1⟩
      have H0 := Lib.hid (((Below.refl w.heap.size w).alloc (Nat.le_refl _) (.cells #[.int .i64 42, .string t, .string m, .int .u64 u, .slice no len ncap] 25)).trans (hb1.mono (by simp)))
      obtain ⟨k0, -⟩ := bblk hb1 (b := w.heap.size) (by simp)
      clear hb1
      cases b1
      · go_wp2_with fail
        go_ret
        exact ⟨_, rfl, (fun _ => trivial), H0.out⟩
      go_wp2_with fail
      go_loopg [21] len (fun gk i wr => ∃ (j : Nat), j ≤ len ∧ gk = len - j ∧ i = .int .i64 (j : Int) ∧ Hid (Below w.heap.size w wr))
      case atStart => exact ⟨0, by omega, by omega, rfl, H0⟩
      case round =>
        obtain ⟨j, hj, rfl, rfl, hB⟩ := hrel
        by_cases hjn : j < len
        · have hjz : (j : Int) < (len : Int) := by omega
          obtain ⟨x, hx⟩ : ∃ x, kids[j]? = some x := ⟨kids[j]'(by have := HN.out; omega), List.getElem?_eq_getElem _⟩
          obtain ⟨b, o, hao, c0, c1, c2, c3, c4, hLx⟩ := kid_cells HL.out hx hB.out
          obtain rfl : no = some ⟨b, o, none⟩ := hao
          have HLX := Lib.hid hLx
          have hBs := hB.out.size
          clear hx hLx
          go_wp2_with fail
          refine (ih x _ (HLX.out.below ((Below.refl _ _).alloc (Nat.le_refl _) _))).mono ?_
          rintro e w4 ⟨bf, rfl, h4, hb4⟩
          have HB4 := Lib.hid ((hB.out.alloc hBs _).trans (hb4.mono (by simp; omega)))
          clear h4 hb4
          cases bf
          · go_wp2_with fail
            go_ret
            exact ⟨_, rfl, (fun _ => trivial), HB4.out⟩
          · go_wp2_with fail
            go_roundg (len - (j + 1))
            case measure => omega
            case rel => exact ⟨j + 1, by omega, rfl, by push_cast; rfl, HB4⟩
        · have hjz : ¬ (j : Int) < (len : Int) := by omega
          obtain rfl : j = len := by omega
          go_wp2_with fail
          go_ret
          exact ⟨_, rfl, (fun _ => trivial), hB.out⟩
    have g1 : (k == 41) = false := by simpa using h41
    have g2 : (k == 42) = false := by simpa using h42
    go_enter Tryz.func15, Tryz.ntmps15
    go_wp2_with fail
    have H0 := Lib.hid ((Below.refl w.heap.size w).alloc (Nat.le_refl _) (.cells #[.int .i64 k, .string t, .string m, .int .u64 u, .slice no len ncap] 25))
    go_loopg [21] len (fun gk i wr => ∃ (j : Nat), j ≤ len ∧ gk = len - j ∧ i = .int .i64 (j : Int) ∧ Hid (Below w.heap.size w wr))
    case atStart => exact ⟨0, by omega, by omega, rfl, H0⟩
    case round =>
      obtain ⟨j, hj, rfl, rfl, hB⟩ := hrel
      by_cases hjn : j < len
      · have hjz : (j : Int) < (len : Int) := by omega
        obtain ⟨x, hx⟩ : ∃ x, kids[j]? = some x := ⟨kids[j]'(by have := HN.out; omega), List.getElem?_eq_getElem _⟩
        obtain ⟨b, o, hao, c0, c1, c2, c3, c4, hLx⟩ := kid_cells HL.out hx hB.out
        obtain rfl : no = some ⟨b, o, none⟩ := hao
        have HLX := Lib.hid hLx
        have hBs := hB.out.size
        clear hx hLx
        go_wp2_with fail
        refine (ih x _ (HLX.out.below ((Below.refl _ _).alloc (Nat.le_refl _) _))).mono ?_
        rintro e w4 ⟨bf, rfl, h4, hb4⟩
        have HB4 := Lib.hid ((hB.out.alloc hBs _).trans (hb4.mono (by simp; omega)))
        clear h4 hb4
        cases bf
        · go_wp2_with fail
          go_ret
          exact ⟨_, rfl, (fun _ => trivial), HB4.out⟩
        · go_wp2_with fail
          go_roundg (len - (j + 1))
          case measure => omega
          case rel => exact ⟨j + 1, by omega, rfl, by push_cast; rfl, HB4⟩
      · have hjz : ¬ (j : Int) < (len : Int) := by omega
        obtain rfl : j = len := by omega
        go_wp2_with fail
        go_ret
        exact ⟨_, rfl, (fun _ => trivial), hB.out⟩
end Go.Proofs.YtcbcdgifakcooaaGreatDoor
