/-
  list at each type that a walked tree wants, given node's own contract. No conditions.
-/
import Derived.Test.YtongafghllkomaaGreatDoorTests
import Derived.Deep.LoopGhost
import Derived.Deep.AppendLies
namespace Go.Proofs.YtongafghllkomaaGreatDoor
open Go.RowKit
set_option linter.unusedVariables false

theorem infoNode : (Tryz.prog.info? 25).map (fun i => (i.zero, i.size, i.bytes)) = some (some (.agg #[.int .i64 0, .string ⟨#[]⟩, .string ⟨#[]⟩, .int .u64 0, .slice none 0 0]), 5, 72) := by kernel_rfl
theorem undNodes : Tryz.prog.underlying 23 = some (.slice 25) := by kernel_rfl

/-- A slice of the package's nodes, cell by cell. -/
def HeldList (ptr : Bool) (R : World → Nd → Nat → Prop) (w : World) (ao : Option Addr) (ns : List Nd) : Prop :=
  ∀ (j : Nat) (n : Nd), ns[j]? = some n → ∃ g x, ao = some ⟨g, 0, none⟩ ∧ w.cell? ⟨g, j, none⟩ = some x ∧ HeldBy ptr R w n x

theorem HeldList.of {A : Nat → Prop} {ptr : Bool} {R : World → Nd → Nat → Prop} {w : World} {v : Value} {ns : List Nd} (h : CellsAre A w v ns.length 1 (fun i cur => ∀ n, ns[i]? = some n → ∃ x, cur[i]? = some x ∧ HeldBy ptr R w n x)) :
    ∃ ao cap, v = .slice ao ns.length cap ∧ HeldList ptr R w ao ns := by
  rcases h with ⟨h0, rfl⟩ | ⟨g, cap, cur, e, -, rfl, hg, -, -, -, hP⟩
  · exact ⟨none, 0, by rw [h0], fun j n hn => by have := (List.getElem?_eq_some_iff.1 hn).1; omega⟩
  · refine ⟨_, cap, rfl, fun j n hn => ?_⟩
    obtain ⟨x, hx, hh⟩ := hP j (List.getElem?_eq_some_iff.1 hn).1 n hn
    exact ⟨g, x, rfl, by rw [Lib.cell_of_heap hg]; exact hx, hh⟩

theorem news5 (w : World) (m : Nd) (T : TypeId) : ∀ j u, m.cells5[j]? = some u → (w.alloc (.cells m.cells5.toArray T)).cell? ((⟨w.heap.size, 0, none⟩ : Addr).add j) = some u := by
  intro j u hu
  exact World.news_of_block (heap_alloc_new w _) j u hu

set_option maxRecDepth 100000 in
set_option maxHeartbeats 1000000 in
theorem listFile (d : Nat) (hN : NodeC d) (e : Nat) (A : Nat → Prop) (ns : List Nd) (ao : Option Addr) (cap : Nat) (w : World) (hlen4 : ns.length ≤ 1000) (hL : HeldList true (RepD A d) w ao ns) (hk : ∀ x ∈ ns, GoodW e x ∧ x.kind = 3) :
    Calls Tryz.prog 89 #[.slice ao ns.length cap] w (BackPost ns w) := by
  obtain ⟨len, hlen⟩ : ∃ len, ns.length = len := ⟨_, rfl⟩
  rw [hlen] at hlen4 ⊢
  obtain ⟨i0, hi, hz0, hz1, hz2⟩ := info_parts infoNode
  have HN := Lib.hid hlen
  have HL := Lib.hid hL
  have HK := Lib.hid hk
  clear hlen hL hk
  go_enter Tryz.func89, Tryz.ntmps89
  go_wp2_with fail
  go_loopg [3, 8] len (fun gk out i wr => ∃ (j : Nat) (ao' : Option Addr) (cap' : Nat), j ≤ len ∧ gk = len - j ∧ i = .int .i64 (j : Int) ∧ out = .slice ao' j cap' ∧ Hid (BackOk w.heap.size ns j (.slice ao' j cap') wr) ∧ Hid (Below w.heap.size w wr))
  case atStart => exact ⟨0, none, 0, by omega, by omega, rfl, rfl, Lib.hid (BackOk.start _ _ _), Lib.hid (Below.refl _ _)⟩
  case round =>
    obtain ⟨j, ao', cap', hj, rfl, rfl, rfl, hO, hB⟩ := hrel
    by_cases hjn : j < len
    · have hjz : (j : Int) < (len : Int) := by omega
      obtain ⟨x, hx⟩ : ∃ x, ns[j]? = some x := ⟨ns[j]'(by have := HN.out; omega), List.getElem?_eq_getElem _⟩
      obtain ⟨g0, y, rfl, hc, hh⟩ := HL.out j x hx
      obtain ⟨b, rfl, hR⟩ := (show PtrTo (RepD A d) w x y from hh)
      have c0 : wr.cell? ⟨g0, j, none⟩ = some _ := (hB.out.cell (World.block_lt_of_cell? _ _ hc)).trans hc
      have HX := Lib.hid hx
      have HR := Lib.hid (hR.below hB.out)
      have HKX := Lib.hid (HK.out x (List.mem_of_getElem? hx))
      clear hx hc hh hR
      go_wp2_with fail
      refine (show Calls Tryz.prog 36 #[.iface 80 (.pointer (some ⟨b, 0, none⟩))] _ (NodePost x _) from by have h := hN e A x b wr HKX.out.1 HR.out; rw [HKX.out.2, ptrTy_3] at h; exact h).mono ?_
      rintro e w1 ⟨E, m, rfl, hS, hl, hb1⟩
      have HB1 := Lib.hid hb1
      have HO1 := Lib.hid (hO.out.below hb1)
      have HS := Lib.hid hS
      have HBw := Lib.hid (hB.out.trans (hb1.mono hB.out.size))
      have hBs : w.heap.size ≤ w1.heap.size := HBw.out.size
      have hwf : m.kids.length ≤ maxLen := hl.wf.2.2.1
      have hlt : ∀ g, (Value.slice ao' j cap').ownBlock = some g → g < wr.heap.size := by
        intro g hg
        obtain ⟨D, ms, h1, _⟩ := hO.out
        exact (World.ownsRow.lt h1 g hg).2
      have HXX := Lib.hid (hl.mono (A' := fun b => w.heap.size ≤ b ∧ some b ≠ (Value.slice ao' j cap').ownBlock) (fun b hb => ⟨Nat.le_trans hB.out.size hb, fun e => by have := hlt b e.symm; unfold From at hb; omega⟩))
      obtain ⟨D, ms, hown, -⟩ := HO1.out
      have HOW0 := Lib.hid hown
      have HOW := Lib.hid (hown.alloc (.cells m.cells5.toArray 25))
      clear hS hl hb1 hlt hown hwf
      go_wp2_with (at_builtin; refine wpList_append_lies _ rfl _ _ 23 rfl w.heap.size 25 i0 _ 5 72 undNodes hi hz0 hz1 hz2 rfl (by decide) _ _ _ rfl HOW.out ⟨w1.heap.size, 0, none⟩ 1 1 m.cells5 rfl rfl ?c1 ?c2 (by decide) ?c3 ?c4 ?c5 _ rfl ?_)
      case c1 => exact news5 _ _ _
      case c2 => intro u hu; simp [Nd.cells5] at hu; rcases hu with rfl | rfl | rfl | rfl | rfl <;> rfl
      case c3 => unfold maxLen; omega
      case c4 => omega
      case c5 => simp; omega
      intro g cap2 w2 hown' hgrow hat hglt
      have HO2 := Lib.hid (BackOk.next HO1.out HX.out HS.out HXX.out HOW0.out hown' rfl hgrow (hat.imp id (fun h => by simpa using h)))
      have HB2 := Lib.hid ((HBw.out.alloc hBs _).grown hgrow (by simp; omega) (by
        intro k hk
        exact (World.ownsRow.lt HOW0.out k hk).1))
      clear hown' hgrow hat
      go_wp2_with fail
      go_roundg (len - (j + 1))
      case measure => omega
      case rel => exact ⟨j + 1, some ⟨g, 0, none⟩, cap2, by omega, rfl, by push_cast; rfl, rfl, HO2, HB2⟩
    · have hjz : ¬ (j : Int) < (len : Int) := by omega
      obtain rfl : j = len := by omega
      go_wp2_with fail
      go_ret
      have hl := HN.out
      have hO2 := hO.out
      rw [← hl] at hO2
      obtain ⟨D, ao2, cap2, ms, he, h1, h2, h3⟩ := hO2.done
      rw [hl] at he h1
      cases he
      unfold BackPost
      rw [hl]
      exact ⟨D, _, _, ms, rfl, h1, h2, h3, hB.out⟩

set_option maxRecDepth 100000 in
set_option maxHeartbeats 1000000 in
theorem listImportDeclaration (d : Nat) (hN : NodeC d) (e : Nat) (A : Nat → Prop) (ns : List Nd) (ao : Option Addr) (cap : Nat) (w : World) (hlen4 : ns.length ≤ 1000) (hL : HeldList true (RepD A d) w ao ns) (hk : ∀ x ∈ ns, GoodW e x ∧ x.kind = 5) :
    Calls Tryz.prog 91 #[.slice ao ns.length cap] w (BackPost ns w) := by
  obtain ⟨len, hlen⟩ : ∃ len, ns.length = len := ⟨_, rfl⟩
  rw [hlen] at hlen4 ⊢
  obtain ⟨i0, hi, hz0, hz1, hz2⟩ := info_parts infoNode
  have HN := Lib.hid hlen
  have HL := Lib.hid hL
  have HK := Lib.hid hk
  clear hlen hL hk
  go_enter Tryz.func91, Tryz.ntmps91
  go_wp2_with fail
  go_loopg [3, 8] len (fun gk out i wr => ∃ (j : Nat) (ao' : Option Addr) (cap' : Nat), j ≤ len ∧ gk = len - j ∧ i = .int .i64 (j : Int) ∧ out = .slice ao' j cap' ∧ Hid (BackOk w.heap.size ns j (.slice ao' j cap') wr) ∧ Hid (Below w.heap.size w wr))
  case atStart => exact ⟨0, none, 0, by omega, by omega, rfl, rfl, Lib.hid (BackOk.start _ _ _), Lib.hid (Below.refl _ _)⟩
  case round =>
    obtain ⟨j, ao', cap', hj, rfl, rfl, rfl, hO, hB⟩ := hrel
    by_cases hjn : j < len
    · have hjz : (j : Int) < (len : Int) := by omega
      obtain ⟨x, hx⟩ : ∃ x, ns[j]? = some x := ⟨ns[j]'(by have := HN.out; omega), List.getElem?_eq_getElem _⟩
      obtain ⟨g0, y, rfl, hc, hh⟩ := HL.out j x hx
      obtain ⟨b, rfl, hR⟩ := (show PtrTo (RepD A d) w x y from hh)
      have c0 : wr.cell? ⟨g0, j, none⟩ = some _ := (hB.out.cell (World.block_lt_of_cell? _ _ hc)).trans hc
      have HX := Lib.hid hx
      have HR := Lib.hid (hR.below hB.out)
      have HKX := Lib.hid (HK.out x (List.mem_of_getElem? hx))
      clear hx hc hh hR
      go_wp2_with fail
      refine (show Calls Tryz.prog 36 #[.iface 104 (.pointer (some ⟨b, 0, none⟩))] _ (NodePost x _) from by have h := hN e A x b wr HKX.out.1 HR.out; rw [HKX.out.2, ptrTy_5] at h; exact h).mono ?_
      rintro e w1 ⟨E, m, rfl, hS, hl, hb1⟩
      have HB1 := Lib.hid hb1
      have HO1 := Lib.hid (hO.out.below hb1)
      have HS := Lib.hid hS
      have HBw := Lib.hid (hB.out.trans (hb1.mono hB.out.size))
      have hBs : w.heap.size ≤ w1.heap.size := HBw.out.size
      have hwf : m.kids.length ≤ maxLen := hl.wf.2.2.1
      have hlt : ∀ g, (Value.slice ao' j cap').ownBlock = some g → g < wr.heap.size := by
        intro g hg
        obtain ⟨D, ms, h1, _⟩ := hO.out
        exact (World.ownsRow.lt h1 g hg).2
      have HXX := Lib.hid (hl.mono (A' := fun b => w.heap.size ≤ b ∧ some b ≠ (Value.slice ao' j cap').ownBlock) (fun b hb => ⟨Nat.le_trans hB.out.size hb, fun e => by have := hlt b e.symm; unfold From at hb; omega⟩))
      obtain ⟨D, ms, hown, -⟩ := HO1.out
      have HOW0 := Lib.hid hown
      have HOW := Lib.hid (hown.alloc (.cells m.cells5.toArray 25))
      clear hS hl hb1 hlt hown hwf
      go_wp2_with (at_builtin; refine wpList_append_lies _ rfl _ _ 23 rfl w.heap.size 25 i0 _ 5 72 undNodes hi hz0 hz1 hz2 rfl (by decide) _ _ _ rfl HOW.out ⟨w1.heap.size, 0, none⟩ 1 1 m.cells5 rfl rfl ?c1 ?c2 (by decide) ?c3 ?c4 ?c5 _ rfl ?_)
      case c1 => exact news5 _ _ _
      case c2 => intro u hu; simp [Nd.cells5] at hu; rcases hu with rfl | rfl | rfl | rfl | rfl <;> rfl
      case c3 => unfold maxLen; omega
      case c4 => omega
      case c5 => simp; omega
      intro g cap2 w2 hown' hgrow hat hglt
      have HO2 := Lib.hid (BackOk.next HO1.out HX.out HS.out HXX.out HOW0.out hown' rfl hgrow (hat.imp id (fun h => by simpa using h)))
      have HB2 := Lib.hid ((HBw.out.alloc hBs _).grown hgrow (by simp; omega) (by
        intro k hk
        exact (World.ownsRow.lt HOW0.out k hk).1))
      clear hown' hgrow hat
      go_wp2_with fail
      go_roundg (len - (j + 1))
      case measure => omega
      case rel => exact ⟨j + 1, some ⟨g, 0, none⟩, cap2, by omega, rfl, by push_cast; rfl, rfl, HO2, HB2⟩
    · have hjz : ¬ (j : Int) < (len : Int) := by omega
      obtain rfl : j = len := by omega
      go_wp2_with fail
      go_ret
      have hl := HN.out
      have hO2 := hO.out
      rw [← hl] at hO2
      obtain ⟨D, ao2, cap2, ms, he, h1, h2, h3⟩ := hO2.done
      rw [hl] at he h1
      cases he
      unfold BackPost
      rw [hl]
      exact ⟨D, _, _, ms, rfl, h1, h2, h3, hB.out⟩

set_option maxRecDepth 100000 in
set_option maxHeartbeats 1000000 in
theorem listProperty (d : Nat) (hN : NodeC d) (e : Nat) (A : Nat → Prop) (ns : List Nd) (ao : Option Addr) (cap : Nat) (w : World) (hlen4 : ns.length ≤ 1000) (hL : HeldList true (RepD A d) w ao ns) (hk : ∀ x ∈ ns, GoodW e x ∧ x.kind = 29) :
    Calls Tryz.prog 101 #[.slice ao ns.length cap] w (BackPost ns w) := by
  obtain ⟨len, hlen⟩ : ∃ len, ns.length = len := ⟨_, rfl⟩
  rw [hlen] at hlen4 ⊢
  obtain ⟨i0, hi, hz0, hz1, hz2⟩ := info_parts infoNode
  have HN := Lib.hid hlen
  have HL := Lib.hid hL
  have HK := Lib.hid hk
  clear hlen hL hk
  go_enter Tryz.func101, Tryz.ntmps101
  go_wp2_with fail
  go_loopg [3, 8] len (fun gk out i wr => ∃ (j : Nat) (ao' : Option Addr) (cap' : Nat), j ≤ len ∧ gk = len - j ∧ i = .int .i64 (j : Int) ∧ out = .slice ao' j cap' ∧ Hid (BackOk w.heap.size ns j (.slice ao' j cap') wr) ∧ Hid (Below w.heap.size w wr))
  case atStart => exact ⟨0, none, 0, by omega, by omega, rfl, rfl, Lib.hid (BackOk.start _ _ _), Lib.hid (Below.refl _ _)⟩
  case round =>
    obtain ⟨j, ao', cap', hj, rfl, rfl, rfl, hO, hB⟩ := hrel
    by_cases hjn : j < len
    · have hjz : (j : Int) < (len : Int) := by omega
      obtain ⟨x, hx⟩ : ∃ x, ns[j]? = some x := ⟨ns[j]'(by have := HN.out; omega), List.getElem?_eq_getElem _⟩
      obtain ⟨g0, y, rfl, hc, hh⟩ := HL.out j x hx
      obtain ⟨b, rfl, hR⟩ := (show PtrTo (RepD A d) w x y from hh)
      have c0 : wr.cell? ⟨g0, j, none⟩ = some _ := (hB.out.cell (World.block_lt_of_cell? _ _ hc)).trans hc
      have HX := Lib.hid hx
      have HR := Lib.hid (hR.below hB.out)
      have HKX := Lib.hid (HK.out x (List.mem_of_getElem? hx))
      clear hx hc hh hR
      go_wp2_with fail
      refine (show Calls Tryz.prog 36 #[.iface 185 (.pointer (some ⟨b, 0, none⟩))] _ (NodePost x _) from by have h := hN e A x b wr HKX.out.1 HR.out; rw [HKX.out.2, ptrTy_29] at h; exact h).mono ?_
      rintro e w1 ⟨E, m, rfl, hS, hl, hb1⟩
      have HB1 := Lib.hid hb1
      have HO1 := Lib.hid (hO.out.below hb1)
      have HS := Lib.hid hS
      have HBw := Lib.hid (hB.out.trans (hb1.mono hB.out.size))
      have hBs : w.heap.size ≤ w1.heap.size := HBw.out.size
      have hwf : m.kids.length ≤ maxLen := hl.wf.2.2.1
      have hlt : ∀ g, (Value.slice ao' j cap').ownBlock = some g → g < wr.heap.size := by
        intro g hg
        obtain ⟨D, ms, h1, _⟩ := hO.out
        exact (World.ownsRow.lt h1 g hg).2
      have HXX := Lib.hid (hl.mono (A' := fun b => w.heap.size ≤ b ∧ some b ≠ (Value.slice ao' j cap').ownBlock) (fun b hb => ⟨Nat.le_trans hB.out.size hb, fun e => by have := hlt b e.symm; unfold From at hb; omega⟩))
      obtain ⟨D, ms, hown, -⟩ := HO1.out
      have HOW0 := Lib.hid hown
      have HOW := Lib.hid (hown.alloc (.cells m.cells5.toArray 25))
      clear hS hl hb1 hlt hown hwf
      go_wp2_with (at_builtin; refine wpList_append_lies _ rfl _ _ 23 rfl w.heap.size 25 i0 _ 5 72 undNodes hi hz0 hz1 hz2 rfl (by decide) _ _ _ rfl HOW.out ⟨w1.heap.size, 0, none⟩ 1 1 m.cells5 rfl rfl ?c1 ?c2 (by decide) ?c3 ?c4 ?c5 _ rfl ?_)
      case c1 => exact news5 _ _ _
      case c2 => intro u hu; simp [Nd.cells5] at hu; rcases hu with rfl | rfl | rfl | rfl | rfl <;> rfl
      case c3 => unfold maxLen; omega
      case c4 => omega
      case c5 => simp; omega
      intro g cap2 w2 hown' hgrow hat hglt
      have HO2 := Lib.hid (BackOk.next HO1.out HX.out HS.out HXX.out HOW0.out hown' rfl hgrow (hat.imp id (fun h => by simpa using h)))
      have HB2 := Lib.hid ((HBw.out.alloc hBs _).grown hgrow (by simp; omega) (by
        intro k hk
        exact (World.ownsRow.lt HOW0.out k hk).1))
      clear hown' hgrow hat
      go_wp2_with fail
      go_roundg (len - (j + 1))
      case measure => omega
      case rel => exact ⟨j + 1, some ⟨g, 0, none⟩, cap2, by omega, rfl, by push_cast; rfl, rfl, HO2, HB2⟩
    · have hjz : ¬ (j : Int) < (len : Int) := by omega
      obtain rfl : j = len := by omega
      go_wp2_with fail
      go_ret
      have hl := HN.out
      have hO2 := hO.out
      rw [← hl] at hO2
      obtain ⟨D, ao2, cap2, ms, he, h1, h2, h3⟩ := hO2.done
      rw [hl] at he h1
      cases he
      unfold BackPost
      rw [hl]
      exact ⟨D, _, _, ms, rfl, h1, h2, h3, hB.out⟩

set_option maxRecDepth 100000 in
set_option maxHeartbeats 1000000 in
theorem listStatement (d : Nat) (hN : NodeC d) (e : Nat) (A : Nat → Prop) (ns : List Nd) (ao : Option Addr) (cap : Nat) (w : World) (hlen4 : ns.length ≤ 1000) (hL : HeldList false (RepD A d) w ao ns) (hk : ∀ x ∈ ns, GoodW e x ∧ x.kind ∈ ([7, 8, 9, 10, 11, 12, 14, 15] : List Int)) :
    Calls Tryz.prog 92 #[.slice ao ns.length cap] w (BackPost ns w) := by
  obtain ⟨len, hlen⟩ : ∃ len, ns.length = len := ⟨_, rfl⟩
  rw [hlen] at hlen4 ⊢
  obtain ⟨i0, hi, hz0, hz1, hz2⟩ := info_parts infoNode
  have HN := Lib.hid hlen
  have HL := Lib.hid hL
  have HK := Lib.hid hk
  clear hlen hL hk
  go_enter Tryz.func92, Tryz.ntmps92
  go_wp2_with fail
  go_loopg [3, 8] len (fun gk out i wr => ∃ (j : Nat) (ao' : Option Addr) (cap' : Nat), j ≤ len ∧ gk = len - j ∧ i = .int .i64 (j : Int) ∧ out = .slice ao' j cap' ∧ Hid (BackOk w.heap.size ns j (.slice ao' j cap') wr) ∧ Hid (Below w.heap.size w wr))
  case atStart => exact ⟨0, none, 0, by omega, by omega, rfl, rfl, Lib.hid (BackOk.start _ _ _), Lib.hid (Below.refl _ _)⟩
  case round =>
    obtain ⟨j, ao', cap', hj, rfl, rfl, rfl, hO, hB⟩ := hrel
    by_cases hjn : j < len
    · have hjz : (j : Int) < (len : Int) := by omega
      obtain ⟨x, hx⟩ : ∃ x, ns[j]? = some x := ⟨ns[j]'(by have := HN.out; omega), List.getElem?_eq_getElem _⟩
      obtain ⟨g0, y, rfl, hc, hh⟩ := HL.out j x hx
      obtain ⟨b, rfl, hR⟩ := (show IfcTo (RepD A d) w x y from hh)
      have c0 : wr.cell? ⟨g0, j, none⟩ = some _ := (hB.out.cell (World.block_lt_of_cell? _ _ hc)).trans hc
      have HX := Lib.hid hx
      have HR := Lib.hid (hR.below hB.out)
      have HKX := Lib.hid (HK.out x (List.mem_of_getElem? hx))
      clear hx hc hh hR
      go_wp2_with fail
      refine (show Calls Tryz.prog 36 #[.iface (pTy x.kind) (.pointer (some ⟨b, 0, none⟩))] _ (NodePost x _) from hN e A x b wr HKX.out.1 HR.out).mono ?_
      rintro e w1 ⟨E, m, rfl, hS, hl, hb1⟩
      have HB1 := Lib.hid hb1
      have HO1 := Lib.hid (hO.out.below hb1)
      have HS := Lib.hid hS
      have HBw := Lib.hid (hB.out.trans (hb1.mono hB.out.size))
      have hBs : w.heap.size ≤ w1.heap.size := HBw.out.size
      have hwf : m.kids.length ≤ maxLen := hl.wf.2.2.1
      have hlt : ∀ g, (Value.slice ao' j cap').ownBlock = some g → g < wr.heap.size := by
        intro g hg
        obtain ⟨D, ms, h1, _⟩ := hO.out
        exact (World.ownsRow.lt h1 g hg).2
      have HXX := Lib.hid (hl.mono (A' := fun b => w.heap.size ≤ b ∧ some b ≠ (Value.slice ao' j cap').ownBlock) (fun b hb => ⟨Nat.le_trans hB.out.size hb, fun e => by have := hlt b e.symm; unfold From at hb; omega⟩))
      obtain ⟨D, ms, hown, -⟩ := HO1.out
      have HOW0 := Lib.hid hown
      have HOW := Lib.hid (hown.alloc (.cells m.cells5.toArray 25))
      clear hS hl hb1 hlt hown hwf
      go_wp2_with (at_builtin; refine wpList_append_lies _ rfl _ _ 23 rfl w.heap.size 25 i0 _ 5 72 undNodes hi hz0 hz1 hz2 rfl (by decide) _ _ _ rfl HOW.out ⟨w1.heap.size, 0, none⟩ 1 1 m.cells5 rfl rfl ?c1 ?c2 (by decide) ?c3 ?c4 ?c5 _ rfl ?_)
      case c1 => exact news5 _ _ _
      case c2 => intro u hu; simp [Nd.cells5] at hu; rcases hu with rfl | rfl | rfl | rfl | rfl <;> rfl
      case c3 => unfold maxLen; omega
      case c4 => omega
      case c5 => simp; omega
      intro g cap2 w2 hown' hgrow hat hglt
      have HO2 := Lib.hid (BackOk.next HO1.out HX.out HS.out HXX.out HOW0.out hown' rfl hgrow (hat.imp id (fun h => by simpa using h)))
      have HB2 := Lib.hid ((HBw.out.alloc hBs _).grown hgrow (by simp; omega) (by
        intro k hk
        exact (World.ownsRow.lt HOW0.out k hk).1))
      clear hown' hgrow hat
      go_wp2_with fail
      go_roundg (len - (j + 1))
      case measure => omega
      case rel => exact ⟨j + 1, some ⟨g, 0, none⟩, cap2, by omega, rfl, by push_cast; rfl, rfl, HO2, HB2⟩
    · have hjz : ¬ (j : Int) < (len : Int) := by omega
      obtain rfl : j = len := by omega
      go_wp2_with fail
      go_ret
      have hl := HN.out
      have hO2 := hO.out
      rw [← hl] at hO2
      obtain ⟨D, ao2, cap2, ms, he, h1, h2, h3⟩ := hO2.done
      rw [hl] at he h1
      cases he
      unfold BackPost
      rw [hl]
      exact ⟨D, _, _, ms, rfl, h1, h2, h3, hB.out⟩

set_option maxRecDepth 100000 in
set_option maxHeartbeats 1000000 in
theorem listExpression (d : Nat) (hN : NodeC d) (e : Nat) (A : Nat → Prop) (ns : List Nd) (ao : Option Addr) (cap : Nat) (w : World) (hlen4 : ns.length ≤ 1000) (hL : HeldList false (RepD A d) w ao ns) (hk : ∀ x ∈ ns, GoodW e x ∧ x.kind ∈ (exprL : List Int)) :
    Calls Tryz.prog 99 #[.slice ao ns.length cap] w (BackPost ns w) := by
  obtain ⟨len, hlen⟩ : ∃ len, ns.length = len := ⟨_, rfl⟩
  rw [hlen] at hlen4 ⊢
  obtain ⟨i0, hi, hz0, hz1, hz2⟩ := info_parts infoNode
  have HN := Lib.hid hlen
  have HL := Lib.hid hL
  have HK := Lib.hid hk
  clear hlen hL hk
  go_enter Tryz.func99, Tryz.ntmps99
  go_wp2_with fail
  go_loopg [3, 8] len (fun gk out i wr => ∃ (j : Nat) (ao' : Option Addr) (cap' : Nat), j ≤ len ∧ gk = len - j ∧ i = .int .i64 (j : Int) ∧ out = .slice ao' j cap' ∧ Hid (BackOk w.heap.size ns j (.slice ao' j cap') wr) ∧ Hid (Below w.heap.size w wr))
  case atStart => exact ⟨0, none, 0, by omega, by omega, rfl, rfl, Lib.hid (BackOk.start _ _ _), Lib.hid (Below.refl _ _)⟩
  case round =>
    obtain ⟨j, ao', cap', hj, rfl, rfl, rfl, hO, hB⟩ := hrel
    by_cases hjn : j < len
    · have hjz : (j : Int) < (len : Int) := by omega
      obtain ⟨x, hx⟩ : ∃ x, ns[j]? = some x := ⟨ns[j]'(by have := HN.out; omega), List.getElem?_eq_getElem _⟩
      obtain ⟨g0, y, rfl, hc, hh⟩ := HL.out j x hx
      obtain ⟨b, rfl, hR⟩ := (show IfcTo (RepD A d) w x y from hh)
      have c0 : wr.cell? ⟨g0, j, none⟩ = some _ := (hB.out.cell (World.block_lt_of_cell? _ _ hc)).trans hc
      have HX := Lib.hid hx
      have HR := Lib.hid (hR.below hB.out)
      have HKX := Lib.hid (HK.out x (List.mem_of_getElem? hx))
      clear hx hc hh hR
      go_wp2_with fail
      refine (show Calls Tryz.prog 36 #[.iface (pTy x.kind) (.pointer (some ⟨b, 0, none⟩))] _ (NodePost x _) from hN e A x b wr HKX.out.1 HR.out).mono ?_
      rintro e w1 ⟨E, m, rfl, hS, hl, hb1⟩
      have HB1 := Lib.hid hb1
      have HO1 := Lib.hid (hO.out.below hb1)
      have HS := Lib.hid hS
      have HBw := Lib.hid (hB.out.trans (hb1.mono hB.out.size))
      have hBs : w.heap.size ≤ w1.heap.size := HBw.out.size
      have hwf : m.kids.length ≤ maxLen := hl.wf.2.2.1
      have hlt : ∀ g, (Value.slice ao' j cap').ownBlock = some g → g < wr.heap.size := by
        intro g hg
        obtain ⟨D, ms, h1, _⟩ := hO.out
        exact (World.ownsRow.lt h1 g hg).2
      have HXX := Lib.hid (hl.mono (A' := fun b => w.heap.size ≤ b ∧ some b ≠ (Value.slice ao' j cap').ownBlock) (fun b hb => ⟨Nat.le_trans hB.out.size hb, fun e => by have := hlt b e.symm; unfold From at hb; omega⟩))
      obtain ⟨D, ms, hown, -⟩ := HO1.out
      have HOW0 := Lib.hid hown
      have HOW := Lib.hid (hown.alloc (.cells m.cells5.toArray 25))
      clear hS hl hb1 hlt hown hwf
      go_wp2_with (at_builtin; refine wpList_append_lies _ rfl _ _ 23 rfl w.heap.size 25 i0 _ 5 72 undNodes hi hz0 hz1 hz2 rfl (by decide) _ _ _ rfl HOW.out ⟨w1.heap.size, 0, none⟩ 1 1 m.cells5 rfl rfl ?c1 ?c2 (by decide) ?c3 ?c4 ?c5 _ rfl ?_)
      case c1 => exact news5 _ _ _
      case c2 => intro u hu; simp [Nd.cells5] at hu; rcases hu with rfl | rfl | rfl | rfl | rfl <;> rfl
      case c3 => unfold maxLen; omega
      case c4 => omega
      case c5 => simp; omega
      intro g cap2 w2 hown' hgrow hat hglt
      have HO2 := Lib.hid (BackOk.next HO1.out HX.out HS.out HXX.out HOW0.out hown' rfl hgrow (hat.imp id (fun h => by simpa using h)))
      have HB2 := Lib.hid ((HBw.out.alloc hBs _).grown hgrow (by simp; omega) (by
        intro k hk
        exact (World.ownsRow.lt HOW0.out k hk).1))
      clear hown' hgrow hat
      go_wp2_with fail
      go_roundg (len - (j + 1))
      case measure => omega
      case rel => exact ⟨j + 1, some ⟨g, 0, none⟩, cap2, by omega, rfl, by push_cast; rfl, rfl, HO2, HB2⟩
    · have hjz : ¬ (j : Int) < (len : Int) := by omega
      obtain rfl : j = len := by omega
      go_wp2_with fail
      go_ret
      have hl := HN.out
      have hO2 := hO.out
      rw [← hl] at hO2
      obtain ⟨D, ao2, cap2, ms, he, h1, h2, h3⟩ := hO2.done
      rw [hl] at he h1
      cases he
      unfold BackPost
      rw [hl]
      exact ⟨D, _, _, ms, rfl, h1, h2, h3, hB.out⟩

set_option maxRecDepth 100000 in
set_option maxHeartbeats 1000000 in
theorem listStringExpressionPart (d : Nat) (hN : NodeC d) (e : Nat) (A : Nat → Prop) (ns : List Nd) (ao : Option Addr) (cap : Nat) (w : World) (hlen4 : ns.length ≤ 1000) (hL : HeldList false (RepD A d) w ao ns) (hk : ∀ x ∈ ns, GoodW e x ∧ x.kind ∈ ([31, 32] : List Int)) :
    Calls Tryz.prog 104 #[.slice ao ns.length cap] w (BackPost ns w) := by
  obtain ⟨len, hlen⟩ : ∃ len, ns.length = len := ⟨_, rfl⟩
  rw [hlen] at hlen4 ⊢
  obtain ⟨i0, hi, hz0, hz1, hz2⟩ := info_parts infoNode
  have HN := Lib.hid hlen
  have HL := Lib.hid hL
  have HK := Lib.hid hk
  clear hlen hL hk
  go_enter Tryz.func104, Tryz.ntmps104
  go_wp2_with fail
  go_loopg [3, 8] len (fun gk out i wr => ∃ (j : Nat) (ao' : Option Addr) (cap' : Nat), j ≤ len ∧ gk = len - j ∧ i = .int .i64 (j : Int) ∧ out = .slice ao' j cap' ∧ Hid (BackOk w.heap.size ns j (.slice ao' j cap') wr) ∧ Hid (Below w.heap.size w wr))
  case atStart => exact ⟨0, none, 0, by omega, by omega, rfl, rfl, Lib.hid (BackOk.start _ _ _), Lib.hid (Below.refl _ _)⟩
  case round =>
    obtain ⟨j, ao', cap', hj, rfl, rfl, rfl, hO, hB⟩ := hrel
    by_cases hjn : j < len
    · have hjz : (j : Int) < (len : Int) := by omega
      obtain ⟨x, hx⟩ : ∃ x, ns[j]? = some x := ⟨ns[j]'(by have := HN.out; omega), List.getElem?_eq_getElem _⟩
      obtain ⟨g0, y, rfl, hc, hh⟩ := HL.out j x hx
      obtain ⟨b, rfl, hR⟩ := (show IfcTo (RepD A d) w x y from hh)
      have c0 : wr.cell? ⟨g0, j, none⟩ = some _ := (hB.out.cell (World.block_lt_of_cell? _ _ hc)).trans hc
      have HX := Lib.hid hx
      have HR := Lib.hid (hR.below hB.out)
      have HKX := Lib.hid (HK.out x (List.mem_of_getElem? hx))
      clear hx hc hh hR
      go_wp2_with fail
      refine (show Calls Tryz.prog 36 #[.iface (pTy x.kind) (.pointer (some ⟨b, 0, none⟩))] _ (NodePost x _) from hN e A x b wr HKX.out.1 HR.out).mono ?_
      rintro e w1 ⟨E, m, rfl, hS, hl, hb1⟩
      have HB1 := Lib.hid hb1
      have HO1 := Lib.hid (hO.out.below hb1)
      have HS := Lib.hid hS
      have HBw := Lib.hid (hB.out.trans (hb1.mono hB.out.size))
      have hBs : w.heap.size ≤ w1.heap.size := HBw.out.size
      have hwf : m.kids.length ≤ maxLen := hl.wf.2.2.1
      have hlt : ∀ g, (Value.slice ao' j cap').ownBlock = some g → g < wr.heap.size := by
        intro g hg
        obtain ⟨D, ms, h1, _⟩ := hO.out
        exact (World.ownsRow.lt h1 g hg).2
      have HXX := Lib.hid (hl.mono (A' := fun b => w.heap.size ≤ b ∧ some b ≠ (Value.slice ao' j cap').ownBlock) (fun b hb => ⟨Nat.le_trans hB.out.size hb, fun e => by have := hlt b e.symm; unfold From at hb; omega⟩))
      obtain ⟨D, ms, hown, -⟩ := HO1.out
      have HOW0 := Lib.hid hown
      have HOW := Lib.hid (hown.alloc (.cells m.cells5.toArray 25))
      clear hS hl hb1 hlt hown hwf
      go_wp2_with (at_builtin; refine wpList_append_lies _ rfl _ _ 23 rfl w.heap.size 25 i0 _ 5 72 undNodes hi hz0 hz1 hz2 rfl (by decide) _ _ _ rfl HOW.out ⟨w1.heap.size, 0, none⟩ 1 1 m.cells5 rfl rfl ?c1 ?c2 (by decide) ?c3 ?c4 ?c5 _ rfl ?_)
      case c1 => exact news5 _ _ _
      case c2 => intro u hu; simp [Nd.cells5] at hu; rcases hu with rfl | rfl | rfl | rfl | rfl <;> rfl
      case c3 => unfold maxLen; omega
      case c4 => omega
      case c5 => simp; omega
      intro g cap2 w2 hown' hgrow hat hglt
      have HO2 := Lib.hid (BackOk.next HO1.out HX.out HS.out HXX.out HOW0.out hown' rfl hgrow (hat.imp id (fun h => by simpa using h)))
      have HB2 := Lib.hid ((HBw.out.alloc hBs _).grown hgrow (by simp; omega) (by
        intro k hk
        exact (World.ownsRow.lt HOW0.out k hk).1))
      clear hown' hgrow hat
      go_wp2_with fail
      go_roundg (len - (j + 1))
      case measure => omega
      case rel => exact ⟨j + 1, some ⟨g, 0, none⟩, cap2, by omega, rfl, by push_cast; rfl, rfl, HO2, HB2⟩
    · have hjz : ¬ (j : Int) < (len : Int) := by omega
      obtain rfl : j = len := by omega
      go_wp2_with fail
      go_ret
      have hl := HN.out
      have hO2 := hO.out
      rw [← hl] at hO2
      obtain ⟨D, ao2, cap2, ms, he, h1, h2, h3⟩ := hO2.done
      rw [hl] at he h1
      cases he
      unfold BackPost
      rw [hl]
      exact ⟨D, _, _, ms, rfl, h1, h2, h3, hB.out⟩
end Go.Proofs.YtongafghllkomaaGreatDoor
