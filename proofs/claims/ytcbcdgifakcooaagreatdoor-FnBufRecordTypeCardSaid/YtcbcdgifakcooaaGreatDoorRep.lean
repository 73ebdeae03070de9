/-
  Fits at this seat's numbers: it answers, and where it says yes the tree is of at most 400 nodes and fits at 12 levels. No conditions beyond the tables of the decoder.
  How a node of the package lies in memory, kind by kind (the fields' order is the structs' own). No conditions.
-/
import Derived.Test.YtcbcdgifakcooaaGreatDoorFits
import Derived.Test.YtcbcdgifakcooaaGreatDoorPlainA
import Derived.Test.YtcbcdgifakcooaaGreatDoorPlainB
import Derived.Test.YtcbcdgifakcooaaGreatDoorPlainC
namespace Go.Proofs.YtcbcdgifakcooaaGreatDoor
open Go.RowKit
set_option linter.unusedVariables false

theorem plain_all : PlainC := by
  intro k t m u ao len cap kids w ht hm hT
  by_cases h2 : k = 2
  · subst h2; exact plain_2 t m u ao len cap kids w ht hm hT
  by_cases h3 : k = 3
  · subst h3; exact plain_3 t m u ao len cap kids w ht hm hT
  by_cases h7 : k = 7
  · subst h7; exact plain_7 t m u ao len cap kids w ht hm hT
  by_cases h21 : k = 21
  · subst h21; exact plain_21 t m u ao len cap kids w ht hm hT
  by_cases h22 : k = 22
  · subst h22; exact plain_22 t m u ao len cap kids w ht hm hT
  by_cases h23 : k = 23
  · subst h23; exact plain_23 t m u ao len cap kids w ht hm hT
  by_cases h31 : k = 31
  · subst h31; exact plain_31 t m u ao len cap kids w ht hm hT
  by_cases h33 : k = 33
  · subst h33; exact plain_33 t m u ao len cap kids w ht hm hT
  by_cases h34 : k = 34
  · subst h34; exact plain_34 t m u ao len cap kids w ht hm hT
  by_cases h35 : k = 35
  · subst h35; exact plain_35 t m u ao len cap kids w ht hm hT
  by_cases h36 : k = 36
  · subst h36; exact plain_36 t m u ao len cap kids w ht hm hT
  by_cases h37 : k = 37
  · subst h37; exact plain_37 t m u ao len cap kids w ht hm hT
  by_cases h38 : k = 38
  · subst h38; exact plain_38 t m u ao len cap kids w ht hm hT
  by_cases h40 : k = 40
  · subst h40; exact plain_40 t m u ao len cap kids w ht hm hT
  by_cases h41 : k = 41
  · subst h41; exact plain_41 t m u ao len cap kids w ht hm hT
  by_cases h42 : k = 42
  · subst h42; exact plain_42 t m u ao len cap kids w ht hm hT
  by_cases h52 : k = 52
  · subst h52; exact plain_52 t m u ao len cap kids w ht hm hT
  exact plain_other k (by omega) t m u ao len cap kids w ht hm hT

theorem gblk {w w1 : World} {lb b : Nat} (hg : w.grownBy w1 (some lb)) (h : b < w.heap.size) (hne : b ≠ lb) : (∀ o, w1.cell? ⟨b, o, none⟩ = w.cell? ⟨b, o, none⟩) ∧ (∀ o, w1.frozen? ⟨b, o, none⟩ = w.frozen? ⟨b, o, none⟩) := by
  have e := hg.block b h (by simpa using hne)
  refine ⟨fun o => ?_, fun o => ?_⟩
  · unfold World.cell?; rw [e]
  · unfold World.frozen?; rw [e]

/-- The world turns at one block alone. -/
theorem grown_set {w : World} {lb : Nat} (v : Value) (h : lb < w.heap.size) : w.grownBy (w.setCell ⟨lb, 0, none⟩ v) (some lb) :=
  ⟨rfl, rfl, rfl, by simp [World.setCell], fun k _ hk => Below.heap_setCell _ _ _ _ (fun e => hk (by simp [e]))⟩

theorem grown_tr {w w1 w2 : World} {r : Option Nat} (h : w.grownBy w1 r) (g : w1.grownBy w2 r) : w.grownBy w2 r :=
  ⟨g.os.trans h.os, g.tape.trans h.tape, g.output.trans h.output, Nat.le_trans h.size g.size, fun k hk hr => (g.block k (Nat.lt_of_lt_of_le hk h.size) hr).trans (h.block k hk hr)⟩

/-- Below the block nothing has turned. -/
theorem grown_below {w0 w w1 : World} {lb : Nat} (hb : Below w0.heap.size w0 w) (hlb : w0.heap.size ≤ lb) (hg : w.grownBy w1 (some lb)) : Below w0.heap.size w0 w1 :=
  hb.grown hg hb.size (fun j hj => by cases hj; exact hlb)

/-- What few has done. -/
def FewPost (D : Nat) (n : Nd) (lb : Nat) (L : Int) (w : World) (e : Ending) (w' : World) : Prop :=
  ∃ b : Bool, e = .returned (.bool b) ∧ w.grownBy w' (some lb) ∧ (b = true → ∃ L' : Int, w'.heap[lb]? = some (.cells #[.int .i64 L'] 3 (0, 0)) ∧ 0 ≤ L' ∧ L' = L - (Nd.countD D n : Nat))

/-- few, so many levels down: the tree lies below a block. -/
def FewC (D : Nat) : Prop := ∀ (n : Nd) (lb : Nat) (L : Int) (w0 w : World), LiesD D w0 n → w0.heap.size ≤ lb → Below w0.heap.size w0 w → 0 ≤ L → L ≤ 400 → w.heap[lb]? = some (.cells #[.int .i64 L] 3 (0, 0)) →
    Calls Tryz.prog 27 #[n.val, .pointer (some ⟨lb, 0, none⟩)] w (FewPost D n lb L w)

theorem few_zero : FewC 0 := fun n lb L w0 w hL _ _ _ _ _ => hL.elim

def sumTo (D : Nat) (kids : List Nd) (j : Nat) : Nat := ((kids.take j).map (Nd.countD D)).sum
theorem sumTo_succ {D : Nat} {kids : List Nd} {j : Nat} {x : Nd} (h : kids[j]? = some x) : sumTo D kids (j + 1) = sumTo D kids j + Nd.countD D x := by
  unfold sumTo
  rw [List.take_add_one, h]
  simp

set_option maxRecDepth 100000 in
set_option maxHeartbeats 1000000 in
theorem few_succ (D : Nat) (ih : FewC D) : FewC (D + 1) := by
  intro n lb L w0 w hL hlb hB0 hL0 hL4 hcell
  obtain ⟨k, t, m, u, ao, cap, kids⟩ := n
  have hM := hL.len_le
  obtain ⟨len, hlen⟩ : ∃ len, kids.length = len := ⟨_, rfl⟩
  show Calls _ _ #[.agg #[.int .i64 k, .string t, .string m, .int .u64 u, .slice ao kids.length cap], _] w _
  rw [hlen] at hM ⊢
  have HN := Lib.hid hlen
  have HL := Lib.hid hL
  have HB0 := Lib.hid hB0
  have hlt : lb < w.heap.size := (Array.getElem?_eq_some_iff.1 hcell).1
  have c0 : w.cell? ⟨lb, 0, none⟩ = some (.int .i64 L) := by rw [Lib.cell_of_heap hcell]; rfl
  have f0 : w.frozen? ⟨lb, 0, none⟩ = false := Lib.frozen_of_heap hcell 0
  have HC := Lib.hid hcell
  clear hlen hL hB0 hcell
  by_cases hL1 : L = 0
  · subst hL1
    go_enter Tryz.func27, Tryz.ntmps27
    go_wp2_with fail
    go_ret
    refine ⟨false, rfl, ?_, (by intro h; cases h)⟩
    exact grown_tr (grown_set _ hlt) (World.grownBy_alloc _ _ _)
  have hL2 : ¬ L - 1 < 0 := by omega
  go_enter Tryz.func27, Tryz.ntmps27
  go_wp2_with fail
  have hne : w.heap.size ≠ lb := by omega
  have H0 := Lib.hid (show (w.setCell ⟨lb, 0, none⟩ (.int .i64 (L - 1))).heap[lb]? = some (.cells #[.int .i64 (L - 1)] 3 (0, 0)) by simp [World.setCell, Array.getElem?_modify, HC.out])
  have G0 := fun ob => Lib.hid (grown_tr (grown_set (.int .i64 (L - 1)) hlt) (World.grownBy_alloc (w.setCell ⟨lb, 0, none⟩ (.int .i64 (L - 1))) ob (some lb)))
  have HS := Lib.hid (show (w.setCell ⟨lb, 0, none⟩ (.int .i64 (L - 1))).heap.size = w.heap.size by simp [World.setCell])
  have HBX := Lib.hid (show ∀ ob, ((w.setCell ⟨lb, 0, none⟩ (.int .i64 (L - 1))).alloc ob).heap[w.heap.size]? = some ob by
    intro ob
    have := heap_alloc_new (w.setCell ⟨lb, 0, none⟩ (.int .i64 (L - 1))) ob
    rwa [HS.out] at this)
  have hL5 : 0 ≤ L - 1 := by omega
  go_loopg [5] len (fun gk i wr => ∃ (j : Nat) (Lj : Int), j ≤ len ∧ gk = len - j ∧ i = .int .i64 (j : Int) ∧ Hid (wr.heap[lb]? = some (.cells #[.int .i64 Lj] 3 (0, 0)) ∧ 0 ≤ Lj ∧ Lj = L - 1 - (sumTo D kids j : Nat)) ∧ Hid (w.grownBy wr (some lb)) ∧ Hid (wr.heap[w.heap.size]? = some (.cells #[.int .i64 k, .string t, .string m, .int .u64 u, .slice ao len cap] 25)))
  case atStart =>
    refine ⟨0, L - 1, by omega, by omega, rfl, Lib.hid ⟨?_, hL5, by simp [sumTo]⟩, G0 _, Lib.hid (HBX.out _)⟩
    rw [heap_alloc_old _ _ (by rw [HS.out]; exact hlt)]
    exact H0.out
  case round =>
    obtain ⟨j, Lj, hj, rfl, rfl, hcl, hG, hbx⟩ := hrel
    clear H0 G0 HBX HS
    obtain ⟨hcl1, hcl2, hcl3⟩ := hcl.out
    have b0 : wr.cell? ⟨w.heap.size, 0, none⟩ = some (.int .i64 k) := by rw [Lib.cell_of_heap hbx.out]; rfl
    have b4 : wr.cell? ⟨w.heap.size, 4, none⟩ = some (.slice ao len cap) := by rw [Lib.cell_of_heap hbx.out]; rfl
    have HCL1 := Lib.hid hcl1
    have HCL3 := Lib.hid hcl3
    have hLj4 : Lj ≤ 400 := by omega
    clear hcl hcl1 hcl3
    by_cases hjn : j < len
    · have hjz : (j : Int) < (len : Int) := by omega
      obtain ⟨x, hx⟩ : ∃ x, kids[j]? = some x := ⟨kids[j]'(by have := HN.out; omega), List.getElem?_eq_getElem _⟩
      obtain ⟨b, o, hao, c0', c1, c2, c3, c4, -⟩ := kid_cells HL.out hx (grown_below HB0.out hlb hG.out)
      have hLx := (HL.out.2 j x hx).2
      obtain rfl : ao = some ⟨b, o, none⟩ := hao
      have HX := Lib.hid hx
      have HLX := Lib.hid hLx
      clear hx hLx
      go_wp2_with fail
      refine (ih x lb Lj w0 _ HLX.out hlb (grown_below HB0.out hlb hG.out) hcl2 hLj4 HCL1.out).mono ?_
      rintro e w4 ⟨bf, rfl, hg4, hp4⟩
      have HG4 := Lib.hid (grown_tr hG.out hg4)
      have HP4 := Lib.hid hp4
      have HBX4 := Lib.hid ((hg4.block w.heap.size (Array.getElem?_eq_some_iff.1 hbx.out).1 (by simpa using hne)).trans hbx.out)
      clear hg4 hp4
      cases bf
      · go_wp2_with fail
        go_ret
        exact ⟨false, rfl, HG4.out, (by intro h; cases h)⟩
      go_wp2_with fail
      go_roundg (len - (j + 1))
      case measure => omega
      case rel =>
        obtain ⟨L', h1, h2, h3⟩ := HP4.out (by first | rfl | trivial)
        refine ⟨j + 1, L', by omega, rfl, by push_cast; rfl, Lib.hid ⟨h1, h2, ?_⟩, HG4, HBX4⟩
        rw [sumTo_succ HX.out, h3, HCL3.out]
        omega
    · have hjz : ¬ (j : Int) < (len : Int) := by omega
      obtain rfl : j = len := by omega
      go_wp2_with fail
      go_ret
      refine ⟨true, rfl, hG.out, fun _ => ⟨Lj, HCL1.out, hcl2, ?_⟩⟩
      rw [HCL3.out]
      have e1 : sumTo D kids j = (kids.map (Nd.countD D)).sum := by unfold sumTo; rw [List.take_of_length_le (by have := HN.out; omega)]
      have e2 : Nd.countD (D + 1) (.mk k t m u ao cap kids) = 1 + (kids.map (Nd.countD D)).sum := rfl
      rw [e2, e1]
      omega

theorem few_all : ∀ D, FewC D := by
  intro D
  induction D with
  | zero => exact few_zero
  | succ D ih => exact few_succ D ih

/-- The tree fits, and is of at most 400 nodes. -/
def FitsP (D : Nat) (n : Nd) : Prop := FitP 12 n ∧ Nd.countD D n ≤ 400

set_option maxRecDepth 100000 in
theorem Fits_any (D : Nat) (n : Nd) (w : World) (hL : LiesD D w n) (hT : Lib.Utf8Tabs 1 2 w) :
    Calls Tryz.prog 13 #[n.val] w (SomeB (FitsP D n) w) := by
  obtain ⟨k, t, m, u, ao, cap, kids⟩ := n
  show Calls _ _ #[.agg #[.int .i64 k, .string t, .string m, .int .u64 u, .slice ao kids.length cap]] w _
  have HL := Lib.hid hL
  have HT := Lib.hid hT
  clear hL hT
  go_enter Tryz.func13, Tryz.ntmps13
  go_wp2_with fail
  have hB0 := fun o1 o2 => (((Below.refl w.heap.size w).alloc (Nat.le_refl _) o1).alloc (by simp) o2)
  refine (few_all D (.mk k t m u ao cap kids) (w.heap.size + 1) 400 w _ HL.out (by omega) (hB0 _ _) (by omega) (by omega) ?hc).mono ?_
  case hc =>
    have := heap_alloc_new (w.alloc (.cells #[.int .i64 k, .string t, .string m, .int .u64 u, .slice ao kids.length cap] 25)) (.cells #[.int .i64 400] 3)
    simpa using this
  rintro e w1 ⟨b, rfl, hg, hp⟩
  have HB1 := Lib.hid (grown_below (hB0 _ _) (by omega) hg)
  obtain ⟨k0, -⟩ := gblk hg (b := w.heap.size) (by simp; omega) (by omega)
  have HP := Lib.hid hp
  clear hg hp hB0
  cases b
  · go_wp2_with fail
    go_ret
    exact ⟨_, rfl, (by intro h; cases h), HB1.out⟩
  go_wp2_with fail
  refine (fits_all plain_all 12 (by omega) (.mk k t m u ao cap kids) D w1 (HL.out.below HB1.out) (tabs_below HT.out HB1.out)).mono ?_
  rintro e w2 ⟨b2, rfl, hb2, hb3⟩
  have HB3 := Lib.hid (HB1.out.trans (hb3.mono HB1.out.size))
  have H2 := Lib.hid hb2
  clear hb2 hb3
  go_wp2_with fail
  go_ret
  refine ⟨_, rfl, (fun h => ⟨H2.out h, ?_⟩), HB3.out⟩
  obtain ⟨L', h1, h2, h3⟩ := HP.out (by first | rfl | trivial)
  omega
end Go.Proofs.YtcbcdgifakcooaaGreatDoor

namespace Go.Proofs.YtcbcdgifakcooaaGreatDoor
open Go.RowKit
set_option linter.unusedVariables false

def lookN (t : List (Int × Nat)) (c : Int) : Nat := t.foldl (fun acc p => if p.1 = c then p.2 else acc) 0
/-- The numbers of the structs' types, and of the pointers to them. -/
def structTab : List (Int × Nat) := [((2 : Int), 81), ((3 : Int), 88), ((4 : Int), 91), ((5 : Int), 102), ((6 : Int), 108), ((7 : Int), 111), ((8 : Int), 116), ((9 : Int), 119), ((10 : Int), 122), ((11 : Int), 131), ((12 : Int), 136), ((14 : Int), 148), ((15 : Int), 151), ((16 : Int), 156), ((17 : Int), 128), ((18 : Int), 160), ((19 : Int), 163), ((20 : Int), 170), ((21 : Int), 174), ((22 : Int), 178), ((23 : Int), 182), ((24 : Int), 185), ((25 : Int), 188), ((26 : Int), 191), ((27 : Int), 195), ((28 : Int), 201), ((29 : Int), 203), ((30 : Int), 210), ((31 : Int), 212), ((32 : Int), 214), ((33 : Int), 99), ((34 : Int), 105), ((35 : Int), 217), ((36 : Int), 220), ((37 : Int), 223), ((38 : Int), 228), ((39 : Int), 233), ((41 : Int), 238), ((42 : Int), 242), ((43 : Int), 450)]
def ptrTab : List (Int × Nat) := [((2 : Int), 78), ((3 : Int), 83), ((4 : Int), 84), ((5 : Int), 93), ((6 : Int), 106), ((7 : Int), 109), ((8 : Int), 112), ((9 : Int), 117), ((10 : Int), 120), ((11 : Int), 123), ((12 : Int), 132), ((14 : Int), 145), ((15 : Int), 149), ((16 : Int), 153), ((17 : Int), 129), ((18 : Int), 158), ((19 : Int), 161), ((20 : Int), 165), ((21 : Int), 171), ((22 : Int), 176), ((23 : Int), 179), ((24 : Int), 183), ((25 : Int), 186), ((26 : Int), 189), ((27 : Int), 192), ((28 : Int), 199), ((29 : Int), 167), ((30 : Int), 204), ((31 : Int), 211), ((32 : Int), 213), ((33 : Int), 68), ((34 : Int), 100), ((35 : Int), 215), ((36 : Int), 218), ((37 : Int), 221), ((38 : Int), 224), ((39 : Int), 229), ((41 : Int), 234), ((42 : Int), 239), ((43 : Int), 243)]
def sTy (k : Int) : Nat := lookN structTab k
def pTy (k : Int) : Nat := lookN ptrTab k

def Nd.none : Nd := .mk 0 ⟨#[]⟩ ⟨#[]⟩ 0 Option.none 0 []
def Nd.kid (n : Nd) (i : Nat) : Nd := n.kids.getD i Nd.none

/-- An operator's number; a logical operator's. -/
def opNum (s : ByteArray) : Int := (opsL.findIdx (fun o => o.toList == s.toList) : Nat) + 1
def logNum (s : ByteArray) : Int := if s.toList == [97, 110, 100] then 1 else 2
/-- The seconds and nanoseconds of a number of nanoseconds (64 bits with a sign). -/
def secOf (u : Int) : Int := (wrap64 u) / 1000000000
def nsecOf (u : Int) : Int := (wrap64 u) % 1000000000

/-- What a cell of a node holds. -/
inductive Slot where
  | lit (v : Value)
  | ptr (n : Nd)
  | mptr (n : Nd)
  | ifc (n : Nd)
  | mifc (n : Nd)
  | plist (ns : List Nd)
  | ilist (ns : List Nd)
  | flt (u : Int)
  | durs (ns : List Nd)
  | dict (ns : List Nd)
  | regex (s : ByteArray)

def slots (n : Nd) : List Slot :=
  if n.kind = 2 then [.lit (.pointer none), .lit (.slice none 0 0), .lit (.slice none 0 0), .lit (.string n.more), .lit (.string n.text), .plist n.kids] else
  if n.kind = 3 then [.lit (.pointer none), .lit (.slice none 0 0), .lit (.slice none 0 0), .lit (.string n.text), .lit (.string n.more), .mptr (n.kid 0), .plist (n.kid 1).kids, .ilist (n.kid 2).kids, .lit (.slice none 0 0)] else
  if n.kind = 4 then [.lit (.pointer none), .lit (.slice none 0 0), .lit (.slice none 0 0), .ptr (n.kid 0)] else
  if n.kind = 5 then [.lit (.pointer none), .lit (.slice none 0 0), .lit (.slice none 0 0), .mptr (n.kid 0), .ptr (n.kid 1)] else
  if n.kind = 6 then [.lit (.pointer none), .lit (.slice none 0 0), .lit (.slice none 0 0), .lit (.slice none 0 0), .ilist n.kids, .lit (.slice none 0 0)] else
  if n.kind = 7 then [.lit (.pointer none), .lit (.slice none 0 0), .lit (.slice none 0 0), .lit (.string n.text)] else
  if n.kind = 8 then [.lit (.pointer none), .lit (.slice none 0 0), .lit (.slice none 0 0), .ifc (n.kid 0)] else
  if n.kind = 9 then [.lit (.pointer none), .lit (.slice none 0 0), .lit (.slice none 0 0), .ifc (n.kid 0)] else
  if n.kind = 10 then [.lit (.pointer none), .lit (.slice none 0 0), .lit (.slice none 0 0), .ptr (n.kid 0), .ifc (n.kid 1)] else
  if n.kind = 11 then [.lit (.pointer none), .lit (.slice none 0 0), .lit (.slice none 0 0), .ptr (n.kid 0), .ifc (n.kid 1)] else
  if n.kind = 12 then [.lit (.pointer none), .lit (.slice none 0 0), .lit (.slice none 0 0), .ifc (n.kid 0)] else
  if n.kind = 14 then [.lit (.pointer none), .lit (.slice none 0 0), .lit (.slice none 0 0), .ptr (n.kid 0)] else
  if n.kind = 15 then [.lit (.pointer none), .lit (.slice none 0 0), .lit (.slice none 0 0), .ptr (n.kid 0), .mptr (n.kid 1), .ptr (n.kid 2)] else
  if n.kind = 16 then [.lit (.pointer none), .lit (.slice none 0 0), .lit (.slice none 0 0), .ifc (n.kid 0), .lit (.slice none 0 0), .ilist (n.kids.drop 1), .lit (.slice none 0 0)] else
  if n.kind = 17 then [.lit (.pointer none), .lit (.slice none 0 0), .lit (.slice none 0 0), .ifc (n.kid 0), .lit (.slice none 0 0), .ifc (n.kid 1), .lit (.slice none 0 0)] else
  if n.kind = 18 then [.lit (.pointer none), .lit (.slice none 0 0), .lit (.slice none 0 0), .ifc (n.kid 0), .lit (.slice none 0 0), .ifc (n.kid 1), .lit (.slice none 0 0)] else
  if n.kind = 19 then [.lit (.pointer none), .lit (.slice none 0 0), .lit (.slice none 0 0), .ifc (n.kid 0), .ptr (n.kid 1)] else
  if n.kind = 20 then [.lit (.pointer none), .lit (.slice none 0 0), .lit (.slice none 0 0), .lit (.slice none 0 0), .plist (n.kid 0).kids, .lit (.slice none 0 0), .lit (.slice none 0 0), .ifc (n.kid 1)] else
  if n.kind = 21 then [.lit (.pointer none), .lit (.slice none 0 0), .lit (.slice none 0 0), .lit (.int .i64 (opNum n.text)), .ifc (n.kid 0), .ifc (n.kid 1)] else
  if n.kind = 22 then [.lit (.pointer none), .lit (.slice none 0 0), .lit (.slice none 0 0), .lit (.int .i64 (opNum n.text)), .ifc (n.kid 0)] else
  if n.kind = 23 then [.lit (.pointer none), .lit (.slice none 0 0), .lit (.slice none 0 0), .lit (.int .i64 (logNum n.text)), .ifc (n.kid 0), .ifc (n.kid 1)] else
  if n.kind = 24 then [.lit (.pointer none), .lit (.slice none 0 0), .lit (.slice none 0 0), .lit (.slice none 0 0), .ifc (n.kid 0), .lit (.slice none 0 0), .ifc (n.kid 1), .lit (.slice none 0 0), .ifc (n.kid 2)] else
  if n.kind = 25 then [.lit (.pointer none), .lit (.slice none 0 0), .lit (.slice none 0 0), .lit (.slice none 0 0), .ifc (n.kid 0), .lit (.slice none 0 0)] else
  if n.kind = 26 then [.lit (.pointer none), .lit (.slice none 0 0), .lit (.slice none 0 0), .lit (.slice none 0 0), .ilist n.kids, .lit (.slice none 0 0)] else
  if n.kind = 27 then [.lit (.pointer none), .lit (.slice none 0 0), .lit (.slice none 0 0), .lit (.slice none 0 0), .dict n.kids, .lit (.slice none 0 0)] else
  if n.kind = 28 then [.lit (.pointer none), .lit (.slice none 0 0), .lit (.slice none 0 0), .lit (.slice none 0 0), .mptr (n.kid 0), .plist (n.kids.drop 1), .lit (.slice none 0 0)] else
  if n.kind = 29 then [.lit (.pointer none), .lit (.slice none 0 0), .lit (.slice none 0 0), .ifc (n.kid 0), .lit (.slice none 0 0), .mifc (n.kid 1), .lit (.slice none 0 0)] else
  if n.kind = 30 then [.lit (.pointer none), .lit (.slice none 0 0), .lit (.slice none 0 0), .ilist n.kids] else
  if n.kind = 31 then [.lit (.pointer none), .lit (.slice none 0 0), .lit (.slice none 0 0), .lit (.string n.text)] else
  if n.kind = 32 then [.lit (.pointer none), .lit (.slice none 0 0), .lit (.slice none 0 0), .ifc (n.kid 0)] else
  if n.kind = 33 then [.lit (.pointer none), .lit (.slice none 0 0), .lit (.slice none 0 0), .lit (.string n.text)] else
  if n.kind = 34 then [.lit (.pointer none), .lit (.slice none 0 0), .lit (.slice none 0 0), .lit (.string n.text)] else
  if n.kind = 35 then [.lit (.pointer none), .lit (.slice none 0 0), .lit (.slice none 0 0), .lit (.bool (n.num != 0))] else
  if n.kind = 36 then [.lit (.pointer none), .lit (.slice none 0 0), .lit (.slice none 0 0), .lit (.int .i64 (wrap64 n.num))] else
  if n.kind = 37 then [.lit (.pointer none), .lit (.slice none 0 0), .lit (.slice none 0 0), .lit (.int .u64 n.num)] else
  if n.kind = 38 then [.lit (.pointer none), .lit (.slice none 0 0), .lit (.slice none 0 0), .flt n.num] else
  if n.kind = 39 then [.lit (.pointer none), .lit (.slice none 0 0), .lit (.slice none 0 0), .durs n.kids] else
  if n.kind = 41 then [.lit (.pointer none), .lit (.slice none 0 0), .lit (.slice none 0 0), .lit (.int .i64 (secOf n.num)), .lit (.int .i64 (nsecOf n.num)), .lit (.int .i64 0)] else
  if n.kind = 42 then [.lit (.pointer none), .lit (.slice none 0 0), .lit (.slice none 0 0), .regex n.text] else
  if n.kind = 43 then [.lit (.pointer none), .lit (.slice none 0 0), .lit (.slice none 0 0)] else
  []

/-- A slice whose cells are these, in a row of its own among the blocks that A lets in. -/
def CellsAre (A : Nat → Prop) (w : World) (v : Value) (len size : Nat) (P : Nat → Array Value → Prop) : Prop :=
  (len = 0 ∧ v = .slice none 0 0) ∨ ∃ g cap cur e, A g ∧ v = .slice (some ⟨g, 0, none⟩) len cap ∧ w.heap[g]? = some (.cells cur e (0, 0)) ∧ len ≤ cap ∧ cap ≤ maxLen ∧ cur.size = cap * size ∧ ∀ i, i < len → P i cur

/-- A pointer, or an interface value, to a node that lies. -/
def PtrTo (R : World → Nd → Nat → Prop) (w : World) (n : Nd) (v : Value) : Prop := ∃ b, v = .pointer (some ⟨b, 0, none⟩) ∧ R w n b
def IfcTo (R : World → Nd → Nat → Prop) (w : World) (n : Nd) (v : Value) : Prop := ∃ b, v = .iface (pTy n.kind) (.pointer (some ⟨b, 0, none⟩)) ∧ R w n b

def SlotOk (A : Nat → Prop) (R : World → Nd → Nat → Prop) (w : World) : Slot → Value → Prop
  | .lit x, v => v = x
  | .ptr n, v => PtrTo R w n v
  | .mptr n, v => (n.kind = 0 ∧ v = .pointer Option.none) ∨ (n.kind ≠ 0 ∧ PtrTo R w n v)
  | .ifc n, v => IfcTo R w n v
  | .mifc n, v => (n.kind = 0 ∧ v = .nilIface) ∨ (n.kind ≠ 0 ∧ IfcTo R w n v)
  | .plist ns, v => CellsAre A w v ns.length 1 (fun i cur => ∀ n, ns[i]? = some n → ∃ x, cur[i]? = some x ∧ PtrTo R w n x)
  | .ilist ns, v => CellsAre A w v ns.length 1 (fun i cur => ∀ n, ns[i]? = some n → ∃ x, cur[i]? = some x ∧ IfcTo R w n x)
  | .flt u, v => v = .float .f64 u.toNat
  | .durs ns, v => CellsAre A w v ns.length 2 (fun i cur => ∀ n, ns[i]? = some n → cur[2 * i]? = some (.int .i64 (wrap64 n.num)) ∧ cur[2 * i + 1]? = some (.string n.text))
  | .dict ns, v => CellsAre A w v (ns.length / 2) 1 (fun i cur => ∀ k z, ns[2 * i]? = some k → ns[2 * i + 1]? = some z → ∃ b x1 x2, A b ∧ cur[i]? = some (.pointer (some ⟨b, 0, none⟩)) ∧ w.heap[b]? = some (.cells #[x1, x2, .slice none 0 0] 198 (0, 0)) ∧ IfcTo R w k x1 ∧ IfcTo R w z x2)
  | .regex s, v => ∃ b, A b ∧ v = .pointer (some ⟨b, 0, none⟩) ∧ w.heap[b]? = some (.cells #[.string s] 301 (0, 0))

def SlotsOk (A : Nat → Prop) (R : World → Nd → Nat → Prop) (w : World) : List Slot → List Value → Prop
  | [], [] => True
  | s :: ss, v :: vs => SlotOk A R w s v ∧ SlotsOk A R w ss vs
  | _, _ => False

/-- A node of the package lies in a block, and what stands in it, so many levels down, all in blocks that A lets in. -/
def RepD (A : Nat → Prop) : Nat → World → Nd → Nat → Prop
  | 0, _, _, _ => False
  | d + 1, w, n, b => A b ∧ ∃ cs : List Value, w.heap[b]? = some (.cells cs.toArray (sTy n.kind) (0, 0)) ∧ SlotsOk A (RepD A d) w (slots n) cs

/-- The blocks that A lets in are as they were, and A' lets them in. -/
def Carries (A A' : Nat → Prop) (w w' : World) : Prop := ∀ b o, A b → w.heap[b]? = some o → w'.heap[b]? = some o ∧ A' b

theorem Carries.of_below {A : Nat → Prop} {w w' : World} (hb : Below w.heap.size w w') : Carries A A w w' := by
  intro b o hA h
  have hlt := (Array.getElem?_eq_some_iff.1 h).1
  exact ⟨(hb.block b hlt).trans h, hA⟩

theorem CellsAre.carry {A A' : Nat → Prop} {w w' : World} {v : Value} {len size : Nat} {P Q : Nat → Array Value → Prop} (h : CellsAre A w v len size P) (hc : Carries A A' w w') (hPQ : ∀ i x, i < len → P i x → Q i x) : CellsAre A' w' v len size Q := by
  rcases h with h | ⟨g, cap, cur, e, hA, rfl, hg, h1, h2, h3, h4⟩
  · exact Or.inl h
  · obtain ⟨hg', hA'⟩ := hc g _ hA hg
    exact Or.inr ⟨g, cap, cur, e, hA', rfl, hg', h1, h2, h3, fun i hi => hPQ i cur hi (h4 i hi)⟩

theorem SlotOk.carry {A A' : Nat → Prop} {R R' : World → Nd → Nat → Prop} {w w' : World} (hR : ∀ n b, R w n b → R' w' n b) (hc : Carries A A' w w') : ∀ {s : Slot} {v : Value}, SlotOk A R w s v → SlotOk A' R' w' s v := by
  intro s v h
  have hP : ∀ n v, PtrTo R w n v → PtrTo R' w' n v := fun n v ⟨b, h1, h2⟩ => ⟨b, h1, hR n b h2⟩
  have hI : ∀ n v, IfcTo R w n v → IfcTo R' w' n v := fun n v ⟨b, h1, h2⟩ => ⟨b, h1, hR n b h2⟩
  cases s with
  | lit x => exact h
  | ptr n => exact hP n v h
  | mptr n => exact h.imp id (fun h => ⟨h.1, hP n v h.2⟩)
  | ifc n => exact hI n v h
  | mifc n => exact h.imp id (fun h => ⟨h.1, hI n v h.2⟩)
  | plist ns => exact CellsAre.carry h hc (fun i x _ hx n hn => let ⟨y, h1, h2⟩ := hx n hn; ⟨y, h1, hP n y h2⟩)
  | ilist ns => exact CellsAre.carry h hc (fun i x _ hx n hn => let ⟨y, h1, h2⟩ := hx n hn; ⟨y, h1, hI n y h2⟩)
  | flt u => exact h
  | durs ns => exact CellsAre.carry h hc (fun i x _ hx => hx)
  | dict ns =>
    refine CellsAre.carry h hc (fun i x _ hx k z hk hz => ?_)
    obtain ⟨b, x1, x2, h0, h1, h2, h3, h4⟩ := hx k z hk hz
    obtain ⟨h5, h6⟩ := hc b _ h0 h2
    exact ⟨b, x1, x2, h6, h1, h5, hI k x1 h3, hI z x2 h4⟩
  | regex s =>
    obtain ⟨b, h0, h1, h2⟩ := h
    obtain ⟨h5, h6⟩ := hc b _ h0 h2
    exact ⟨b, h6, h1, h5⟩

theorem SlotsOk.carry {A A' : Nat → Prop} {R R' : World → Nd → Nat → Prop} {w w' : World} (hR : ∀ n b, R w n b → R' w' n b) (hc : Carries A A' w w') : ∀ {ss : List Slot} {vs : List Value}, SlotsOk A R w ss vs → SlotsOk A' R' w' ss vs := by
  intro ss
  induction ss with
  | nil => intro vs h; cases vs with
    | nil => exact trivial
    | cons _ _ => exact h.elim
  | cons s ss ih => intro vs h; cases vs with
    | nil => exact h.elim
    | cons v vs => exact ⟨h.1.carry hR hc, ih h.2⟩

theorem RepD.carry {A A' : Nat → Prop} {d : Nat} : ∀ {w w' : World} {n : Nd} {b : Nat}, RepD A d w n b → Carries A A' w w' → RepD A' d w' n b := by
  induction d with
  | zero => intro w w' n b h; exact h.elim
  | succ d ih =>
    intro w w' n b h hc
    obtain ⟨hA, cs, h1, h2⟩ := h
    obtain ⟨h3, h4⟩ := hc b _ hA h1
    exact ⟨h4, cs, h3, h2.carry (fun n b hr => ih hr hc) hc⟩

theorem RepD.below {A : Nat → Prop} {d : Nat} {w w' : World} {n : Nd} {b : Nat} (h : RepD A d w n b) (hb : Below w.heap.size w w') : RepD A d w' n b := h.carry (Carries.of_below hb)

theorem RepD.mono {A A' : Nat → Prop} {d : Nat} {w : World} {n : Nd} {b : Nat} (h : RepD A d w n b) (hA : ∀ b, A b → A' b) : RepD A' d w n b := h.carry (fun b o h1 h2 => ⟨h2, hA b h1⟩)

theorem RepD.lt {A : Nat → Prop} {d : Nat} {w : World} {n : Nd} {b : Nat} (h : RepD A d w n b) : b < w.heap.size := by
  cases d with
  | zero => exact h.elim
  | succ d => obtain ⟨_, cs, h1, _⟩ := h; exact (Array.getElem?_eq_some_iff.1 h1).1

theorem slots_2 (n : Nd) (h : n.kind = 2) : slots n = [.lit (.pointer none), .lit (.slice none 0 0), .lit (.slice none 0 0), .lit (.string n.more), .lit (.string n.text), .plist n.kids] := by unfold slots; simp [h]
theorem sTy_2 : sTy 2 = 81 := by decide
theorem slots_3 (n : Nd) (h : n.kind = 3) : slots n = [.lit (.pointer none), .lit (.slice none 0 0), .lit (.slice none 0 0), .lit (.string n.text), .lit (.string n.more), .mptr (n.kid 0), .plist (n.kid 1).kids, .ilist (n.kid 2).kids, .lit (.slice none 0 0)] := by unfold slots; simp [h]
theorem sTy_3 : sTy 3 = 88 := by decide
theorem slots_4 (n : Nd) (h : n.kind = 4) : slots n = [.lit (.pointer none), .lit (.slice none 0 0), .lit (.slice none 0 0), .ptr (n.kid 0)] := by unfold slots; simp [h]
theorem sTy_4 : sTy 4 = 91 := by decide
theorem slots_5 (n : Nd) (h : n.kind = 5) : slots n = [.lit (.pointer none), .lit (.slice none 0 0), .lit (.slice none 0 0), .mptr (n.kid 0), .ptr (n.kid 1)] := by unfold slots; simp [h]
theorem sTy_5 : sTy 5 = 102 := by decide
theorem slots_6 (n : Nd) (h : n.kind = 6) : slots n = [.lit (.pointer none), .lit (.slice none 0 0), .lit (.slice none 0 0), .lit (.slice none 0 0), .ilist n.kids, .lit (.slice none 0 0)] := by unfold slots; simp [h]
theorem sTy_6 : sTy 6 = 108 := by decide
theorem slots_7 (n : Nd) (h : n.kind = 7) : slots n = [.lit (.pointer none), .lit (.slice none 0 0), .lit (.slice none 0 0), .lit (.string n.text)] := by unfold slots; simp [h]
theorem sTy_7 : sTy 7 = 111 := by decide
theorem slots_8 (n : Nd) (h : n.kind = 8) : slots n = [.lit (.pointer none), .lit (.slice none 0 0), .lit (.slice none 0 0), .ifc (n.kid 0)] := by unfold slots; simp [h]
theorem sTy_8 : sTy 8 = 116 := by decide
theorem slots_9 (n : Nd) (h : n.kind = 9) : slots n = [.lit (.pointer none), .lit (.slice none 0 0), .lit (.slice none 0 0), .ifc (n.kid 0)] := by unfold slots; simp [h]
theorem sTy_9 : sTy 9 = 119 := by decide
theorem slots_10 (n : Nd) (h : n.kind = 10) : slots n = [.lit (.pointer none), .lit (.slice none 0 0), .lit (.slice none 0 0), .ptr (n.kid 0), .ifc (n.kid 1)] := by unfold slots; simp [h]
theorem sTy_10 : sTy 10 = 122 := by decide
theorem slots_11 (n : Nd) (h : n.kind = 11) : slots n = [.lit (.pointer none), .lit (.slice none 0 0), .lit (.slice none 0 0), .ptr (n.kid 0), .ifc (n.kid 1)] := by unfold slots; simp [h]
theorem sTy_11 : sTy 11 = 131 := by decide
theorem slots_12 (n : Nd) (h : n.kind = 12) : slots n = [.lit (.pointer none), .lit (.slice none 0 0), .lit (.slice none 0 0), .ifc (n.kid 0)] := by unfold slots; simp [h]
theorem sTy_12 : sTy 12 = 136 := by decide
theorem slots_14 (n : Nd) (h : n.kind = 14) : slots n = [.lit (.pointer none), .lit (.slice none 0 0), .lit (.slice none 0 0), .ptr (n.kid 0)] := by unfold slots; simp [h]
theorem sTy_14 : sTy 14 = 148 := by decide
theorem slots_15 (n : Nd) (h : n.kind = 15) : slots n = [.lit (.pointer none), .lit (.slice none 0 0), .lit (.slice none 0 0), .ptr (n.kid 0), .mptr (n.kid 1), .ptr (n.kid 2)] := by unfold slots; simp [h]
theorem sTy_15 : sTy 15 = 151 := by decide
theorem slots_16 (n : Nd) (h : n.kind = 16) : slots n = [.lit (.pointer none), .lit (.slice none 0 0), .lit (.slice none 0 0), .ifc (n.kid 0), .lit (.slice none 0 0), .ilist (n.kids.drop 1), .lit (.slice none 0 0)] := by unfold slots; simp [h]
theorem sTy_16 : sTy 16 = 156 := by decide
theorem slots_17 (n : Nd) (h : n.kind = 17) : slots n = [.lit (.pointer none), .lit (.slice none 0 0), .lit (.slice none 0 0), .ifc (n.kid 0), .lit (.slice none 0 0), .ifc (n.kid 1), .lit (.slice none 0 0)] := by unfold slots; simp [h]
theorem sTy_17 : sTy 17 = 128 := by decide
theorem slots_18 (n : Nd) (h : n.kind = 18) : slots n = [.lit (.pointer none), .lit (.slice none 0 0), .lit (.slice none 0 0), .ifc (n.kid 0), .lit (.slice none 0 0), .ifc (n.kid 1), .lit (.slice none 0 0)] := by unfold slots; simp [h]
theorem sTy_18 : sTy 18 = 160 := by decide
theorem slots_19 (n : Nd) (h : n.kind = 19) : slots n = [.lit (.pointer none), .lit (.slice none 0 0), .lit (.slice none 0 0), .ifc (n.kid 0), .ptr (n.kid 1)] := by unfold slots; simp [h]
theorem sTy_19 : sTy 19 = 163 := by decide
theorem slots_20 (n : Nd) (h : n.kind = 20) : slots n = [.lit (.pointer none), .lit (.slice none 0 0), .lit (.slice none 0 0), .lit (.slice none 0 0), .plist (n.kid 0).kids, .lit (.slice none 0 0), .lit (.slice none 0 0), .ifc (n.kid 1)] := by unfold slots; simp [h]
theorem sTy_20 : sTy 20 = 170 := by decide
theorem slots_21 (n : Nd) (h : n.kind = 21) : slots n = [.lit (.pointer none), .lit (.slice none 0 0), .lit (.slice none 0 0), .lit (.int .i64 (opNum n.text)), .ifc (n.kid 0), .ifc (n.kid 1)] := by unfold slots; simp [h]
theorem sTy_21 : sTy 21 = 174 := by decide
theorem slots_22 (n : Nd) (h : n.kind = 22) : slots n = [.lit (.pointer none), .lit (.slice none 0 0), .lit (.slice none 0 0), .lit (.int .i64 (opNum n.text)), .ifc (n.kid 0)] := by unfold slots; simp [h]
theorem sTy_22 : sTy 22 = 178 := by decide
theorem slots_23 (n : Nd) (h : n.kind = 23) : slots n = [.lit (.pointer none), .lit (.slice none 0 0), .lit (.slice none 0 0), .lit (.int .i64 (logNum n.text)), .ifc (n.kid 0), .ifc (n.kid 1)] := by unfold slots; simp [h]
theorem sTy_23 : sTy 23 = 182 := by decide
theorem slots_24 (n : Nd) (h : n.kind = 24) : slots n = [.lit (.pointer none), .lit (.slice none 0 0), .lit (.slice none 0 0), .lit (.slice none 0 0), .ifc (n.kid 0), .lit (.slice none 0 0), .ifc (n.kid 1), .lit (.slice none 0 0), .ifc (n.kid 2)] := by unfold slots; simp [h]
theorem sTy_24 : sTy 24 = 185 := by decide
theorem slots_25 (n : Nd) (h : n.kind = 25) : slots n = [.lit (.pointer none), .lit (.slice none 0 0), .lit (.slice none 0 0), .lit (.slice none 0 0), .ifc (n.kid 0), .lit (.slice none 0 0)] := by unfold slots; simp [h]
theorem sTy_25 : sTy 25 = 188 := by decide
theorem slots_26 (n : Nd) (h : n.kind = 26) : slots n = [.lit (.pointer none), .lit (.slice none 0 0), .lit (.slice none 0 0), .lit (.slice none 0 0), .ilist n.kids, .lit (.slice none 0 0)] := by unfold slots; simp [h]
theorem sTy_26 : sTy 26 = 191 := by decide
theorem slots_27 (n : Nd) (h : n.kind = 27) : slots n = [.lit (.pointer none), .lit (.slice none 0 0), .lit (.slice none 0 0), .lit (.slice none 0 0), .dict n.kids, .lit (.slice none 0 0)] := by unfold slots; simp [h]
theorem sTy_27 : sTy 27 = 195 := by decide
theorem slots_28 (n : Nd) (h : n.kind = 28) : slots n = [.lit (.pointer none), .lit (.slice none 0 0), .lit (.slice none 0 0), .lit (.slice none 0 0), .mptr (n.kid 0), .plist (n.kids.drop 1), .lit (.slice none 0 0)] := by unfold slots; simp [h]
theorem sTy_28 : sTy 28 = 201 := by decide
theorem slots_29 (n : Nd) (h : n.kind = 29) : slots n = [.lit (.pointer none), .lit (.slice none 0 0), .lit (.slice none 0 0), .ifc (n.kid 0), .lit (.slice none 0 0), .mifc (n.kid 1), .lit (.slice none 0 0)] := by unfold slots; simp [h]
theorem sTy_29 : sTy 29 = 203 := by decide
theorem slots_30 (n : Nd) (h : n.kind = 30) : slots n = [.lit (.pointer none), .lit (.slice none 0 0), .lit (.slice none 0 0), .ilist n.kids] := by unfold slots; simp [h]
theorem sTy_30 : sTy 30 = 210 := by decide
theorem slots_31 (n : Nd) (h : n.kind = 31) : slots n = [.lit (.pointer none), .lit (.slice none 0 0), .lit (.slice none 0 0), .lit (.string n.text)] := by unfold slots; simp [h]
theorem sTy_31 : sTy 31 = 212 := by decide
theorem slots_32 (n : Nd) (h : n.kind = 32) : slots n = [.lit (.pointer none), .lit (.slice none 0 0), .lit (.slice none 0 0), .ifc (n.kid 0)] := by unfold slots; simp [h]
theorem sTy_32 : sTy 32 = 214 := by decide
theorem slots_33 (n : Nd) (h : n.kind = 33) : slots n = [.lit (.pointer none), .lit (.slice none 0 0), .lit (.slice none 0 0), .lit (.string n.text)] := by unfold slots; simp [h]
theorem sTy_33 : sTy 33 = 99 := by decide
theorem slots_34 (n : Nd) (h : n.kind = 34) : slots n = [.lit (.pointer none), .lit (.slice none 0 0), .lit (.slice none 0 0), .lit (.string n.text)] := by unfold slots; simp [h]
theorem sTy_34 : sTy 34 = 105 := by decide
theorem slots_35 (n : Nd) (h : n.kind = 35) : slots n = [.lit (.pointer none), .lit (.slice none 0 0), .lit (.slice none 0 0), .lit (.bool (n.num != 0))] := by unfold slots; simp [h]
theorem sTy_35 : sTy 35 = 217 := by decide
theorem slots_36 (n : Nd) (h : n.kind = 36) : slots n = [.lit (.pointer none), .lit (.slice none 0 0), .lit (.slice none 0 0), .lit (.int .i64 (wrap64 n.num))] := by unfold slots; simp [h]
theorem sTy_36 : sTy 36 = 220 := by decide
theorem slots_37 (n : Nd) (h : n.kind = 37) : slots n = [.lit (.pointer none), .lit (.slice none 0 0), .lit (.slice none 0 0), .lit (.int .u64 n.num)] := by unfold slots; simp [h]
theorem sTy_37 : sTy 37 = 223 := by decide
theorem slots_38 (n : Nd) (h : n.kind = 38) : slots n = [.lit (.pointer none), .lit (.slice none 0 0), .lit (.slice none 0 0), .flt n.num] := by unfold slots; simp [h]
theorem sTy_38 : sTy 38 = 228 := by decide
theorem slots_39 (n : Nd) (h : n.kind = 39) : slots n = [.lit (.pointer none), .lit (.slice none 0 0), .lit (.slice none 0 0), .durs n.kids] := by unfold slots; simp [h]
theorem sTy_39 : sTy 39 = 233 := by decide
theorem slots_41 (n : Nd) (h : n.kind = 41) : slots n = [.lit (.pointer none), .lit (.slice none 0 0), .lit (.slice none 0 0), .lit (.int .i64 (secOf n.num)), .lit (.int .i64 (nsecOf n.num)), .lit (.int .i64 0)] := by unfold slots; simp [h]
theorem sTy_41 : sTy 41 = 238 := by decide
theorem slots_42 (n : Nd) (h : n.kind = 42) : slots n = [.lit (.pointer none), .lit (.slice none 0 0), .lit (.slice none 0 0), .regex n.text] := by unfold slots; simp [h]
theorem sTy_42 : sTy 42 = 242 := by decide
theorem slots_43 (n : Nd) (h : n.kind = 43) : slots n = [.lit (.pointer none), .lit (.slice none 0 0), .lit (.slice none 0 0)] := by unfold slots; simp [h]
theorem sTy_43 : sTy 43 = 450 := by decide

/-- From a block number on. -/
def From (B : Nat) (b : Nat) : Prop := B ≤ b
theorem From.le {B B' : Nat} (h : B' ≤ B) : ∀ b, From B b → From B' b := fun b hb => Nat.le_trans h hb
end Go.Proofs.YtcbcdgifakcooaaGreatDoor
