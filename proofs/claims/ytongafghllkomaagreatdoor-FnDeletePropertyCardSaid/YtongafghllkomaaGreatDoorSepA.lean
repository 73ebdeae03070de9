/-
  nodesOf for properties and statements once more: the row that holds the pointers is none of the blocks that the nodes lie in. No conditions.
-/
import Derived.Test.YtongafghllkomaaGreatDoorNodesOf
namespace Go.Proofs.YtongafghllkomaaGreatDoor
open Go.RowKit
set_option linter.unusedVariables false

/-- The row of a slice is of a type. -/
def RowTy (E : Nat) (v : Value) (w : World) : Prop := ∀ g cur e fr, v.ownBlock = some g → w.heap[g]? = some (.cells cur e fr) → e = E

theorem OutOk.rowTy {ptr : Bool} {E B d : Nat} {ns : List Nd} {j : Nat} {v : Value} {w : World} (h : OutOk ptr E B d ns j v w) : RowTy E v w := by
  obtain ⟨xs, h1, -⟩ := h
  intro g cur e fr hg hc
  rcases h1.2 with ⟨rfl, h0⟩ | ⟨g', cap, cur', rfl, hB, hg', -⟩
  · simp [Value.ownBlock] at hg
  · simp [Value.ownBlock] at hg
    subst hg
    rw [hg'] at hc
    cases hc
    rfl

/-- A list of the package's nodes is handed back, in a row that none of them lies in. -/
def ListPostS (E : Nat) (ptr : Bool) (d : Nat) (ns : List Nd) (w : World) (e : Ending) (w' : World) : Prop :=
  ∃ ao cap, e = .returned (.slice ao ns.length cap) ∧ CellsAre (From w.heap.size) w' (.slice ao ns.length cap) ns.length 1 (fun i cur => ∀ n, ns[i]? = some n → ∃ x, cur[i]? = some x ∧ HeldBy ptr (RepD (fun b => w.heap.size ≤ b ∧ some b ≠ (Value.slice ao ns.length cap).ownBlock) d) w' n x) ∧ RowTy E (.slice ao ns.length cap) w' ∧ Below w.heap.size w w'

theorem OutOk.doneS {ptr : Bool} {E B d : Nat} {ns : List Nd} {v : Value} {w : World} (h : OutOk ptr E B d ns ns.length v w) :
    CellsAre (From B) w v ns.length 1 (fun i cur => ∀ n, ns[i]? = some n → ∃ x, cur[i]? = some x ∧ HeldBy ptr (RepD (fun b => B ≤ b ∧ some b ≠ v.ownBlock) d) w n x) := by
  obtain ⟨xs, h1, h2⟩ := h
  have hl := h1.1
  rcases h1.2 with ⟨rfl, h0⟩ | ⟨g, cap, cur, rfl, hB, hg, hc1, hc2, hc3, hc4⟩
  · exact Or.inl ⟨h0, rfl⟩
  · refine Or.inr ⟨g, cap, cur, E, hB, rfl, hg, hc1, hc2, hc3, fun i hi n hn => ?_⟩
    obtain ⟨y, hx⟩ : ∃ y, xs[i]? = some y := ⟨xs[i]'(by omega), List.getElem?_eq_getElem _⟩
    refine ⟨y, ?_, h2 i n _ hn hx⟩
    rw [← hc4] at hx
    rw [List.getElem?_take] at hx
    split at hx
    · simpa using hx
    · cases hx

set_option maxRecDepth 100000 in
set_option maxHeartbeats 1000000 in
theorem nodesOfPropertyS (d : Nat) (hU : UnC d) (D : Nat) (ns : List Nd) (ao : Option Addr) (cap : Nat) (w : World) (hlen4 : ns.length ≤ 1000) (hL : ListLies D w ao ns) (hk : ∀ x ∈ ns, GoodD d x ∧ x.kind ∈ ([29] : List Int)) :
    Calls Tryz.prog 78 #[.slice ao ns.length cap] w (ListPostS 185 true d ns w) := by
  obtain ⟨len, hlen⟩ : ∃ len, ns.length = len := ⟨_, rfl⟩
  rw [hlen] at hlen4 ⊢
  obtain ⟨i0, hi, hz0, hz1, hz2⟩ := info_parts infoProperty
  have HN := Lib.hid hlen
  have HL := Lib.hid hL
  have HK := Lib.hid hk
  clear hlen hL hk
  go_enter Tryz.func78, Tryz.ntmps78
  go_wp2_with fail
  go_loopg [3, 8] len (fun gk out i wr => ∃ (j : Nat) (ao' : Option Addr) (cap' : Nat), j ≤ len ∧ gk = len - j ∧ i = .int .i64 (j : Int) ∧ out = .slice ao' j cap' ∧ Hid (OutOk true 185 w.heap.size d ns j (.slice ao' j cap') wr) ∧ Hid (Below w.heap.size w wr))
  case atStart => exact ⟨0, none, 0, by omega, by omega, rfl, rfl, Lib.hid (OutOk.start _ _ _ _ _ _), Lib.hid (Below.refl _ _)⟩
  case round =>
    obtain ⟨j, ao', cap', hj, rfl, rfl, rfl, hO, hB⟩ := hrel
    by_cases hjn : j < len
    · have hjz : (j : Int) < (len : Int) := by omega
      obtain ⟨x, hx⟩ : ∃ x, ns[j]? = some x := ⟨ns[j]'(by have := HN.out; omega), List.getElem?_eq_getElem _⟩
      obtain ⟨b, o, hao, c0, c1, c2, c3, c4, hLx⟩ := list_cells HL.out hx hB.out
      obtain rfl : ao = some ⟨b, o, none⟩ := hao
      have HX := Lib.hid hx
      have HLX := Lib.hid hLx
      clear hx hLx
      go_wp2_with fail
      refine (nodeOf_29 d hU x D _ (HLX.out.below ((Below.refl _ _).alloc (Nat.le_refl _) _)) (HK.out x (List.mem_of_getElem? HX.out)).1 (by have := (HK.out x (List.mem_of_getElem? HX.out)).2; simpa using this)).mono ?_
      rintro e w1 ⟨b1, rfl, hR, hb1⟩
      have HB1 := Lib.hid (((Below.refl wr.heap.size wr).alloc (Nat.le_refl _) _).trans (hb1.mono (by simp)))
      have HO1 := Lib.hid (hO.out.below HB1.out)
      have HR := Lib.hid (hR.mono (From.le (show wr.heap.size ≤ _ by simp)))
      have HBw := Lib.hid (hB.out.trans (HB1.out.mono hB.out.size))
      have hBs : w.heap.size ≤ w1.heap.size := HBw.out.size
      have hlt : ∀ g, (Value.slice ao' j cap').ownBlock = some g → g < wr.heap.size := by
        intro g hg
        obtain ⟨xs, h1, _⟩ := hO.out
        exact (World.ownsRow.lt h1 g hg).2
      have HLT := Lib.hid hlt
      have HXX : Hid (HeldBy true (RepD (fun b => w.heap.size ≤ b ∧ some b ≠ (Value.slice ao' j cap').ownBlock) d) w1 x (.pointer (some ⟨b1, 0, none⟩))) := Lib.hid ⟨b1, rfl, HR.out.mono fun b hb => ⟨Nat.le_trans hB.out.size hb, fun e => by have := HLT.out b e.symm; unfold From at hb; omega⟩⟩
      obtain ⟨xs, hown, -⟩ := HO1.out
      have HOW := Lib.hid (hown.alloc (.cells #[.pointer (some ⟨b1, 0, none⟩)] 185))
      have HOL := Lib.hid hown.1
      clear hR hb1 hlt hown
      go_wp2_with (at_builtin; refine wpList_append_lies _ rfl _ _ 183 rfl w.heap.size 185 i0 (.pointer none) 1 8 undProperty hi hz0 hz1 hz2 rfl (by decide) _ _ _ rfl HOW.out ⟨w1.heap.size, 0, none⟩ 1 1 [.pointer (some ⟨b1, 0, none⟩)] rfl rfl ?c1 ?c2 (by decide) ?c3 ?c4 ?c5 _ rfl ?_)
      case c1 => exact cell_one_new _ _ _
      case c2 => intro u hu; simp at hu; subst hu; rfl
      case c3 => unfold maxLen; omega
      case c4 => omega
      case c5 => simp; omega
      intro g cap2 w2 hown' hgrow hat hglt
      have HO2 : Hid (OutOk true 185 w.heap.size d ns (j + 1) (.slice (some ⟨g, 0, none⟩) (j + 1) cap2) w2) := by
        refine Lib.hid (OutOk.next HO1.out HX.out HXX.out (fun ys hys => ?_) rfl hgrow (hat.imp id (fun h => by simpa using h)))
        have hxy : ys = xs := by
          rcases hys.2 with ⟨hv, h0⟩ | ⟨g1, c1, cur1, hv, _, hg1, _, _, _, ht1⟩
          · have e1 := hys.1; have e2 := HOL.out
            rw [h0] at e1 e2
            simp at e1 e2
            rw [e1, e2]
          · rcases HOW.out.2 with ⟨hv2, h0⟩ | ⟨g3, c3, cur3, hv3, _, hg3, _, _, _, ht3⟩
            · rw [hv] at hv2; cases hv2
            · rw [hv] at hv3; cases hv3
              rw [hg1] at hg3; cases hg3
              rw [← ht1, ← ht3]
        rw [hxy]; exact hown'
      have HB2 := Lib.hid ((HBw.out.alloc hBs _).grown hgrow (by simp; omega) (by
        intro k hk
        obtain ⟨ys, h1, _⟩ := HO1.out
        rcases h1.2 with ⟨hv, _⟩ | ⟨g1, c1, cur1, hv, hBg, _⟩
        · rw [hv] at hk; simp [Value.ownBlock] at hk
        · rw [hv] at hk; simp [Value.ownBlock] at hk; omega))
      clear hown' hgrow hat
      go_wp2_with fail
      go_roundg (len - (j + 1))
      case measure => omega
      case rel => exact ⟨j + 1, some ⟨g, 0, none⟩, cap2, by omega, rfl, by push_cast; rfl, rfl, HO2, HB2⟩
    · have hjz : ¬ (j : Int) < (len : Int) := by omega
      obtain rfl : j = len := by omega
      go_wp2_with fail
      go_ret
      unfold ListPostS
      have hl := HN.out
      have hO2 := hO.out
      rw [← hl] at hO2 ⊢
      exact ⟨_, _, rfl, hO2.doneS, hO2.rowTy, hB.out⟩

set_option maxRecDepth 100000 in
set_option maxHeartbeats 1000000 in
theorem nodesOfStatementS (d : Nat) (hU : UnC d) (D : Nat) (ns : List Nd) (ao : Option Addr) (cap : Nat) (w : World) (hlen4 : ns.length ≤ 1000) (hL : ListLies D w ao ns) (hk : ∀ x ∈ ns, GoodD d x ∧ x.kind ∈ ([7, 8, 9, 10, 11, 12, 14, 15] : List Int)) :
    Calls Tryz.prog 61 #[.slice ao ns.length cap] w (ListPostS 108 false d ns w) := by
  obtain ⟨len, hlen⟩ : ∃ len, ns.length = len := ⟨_, rfl⟩
  rw [hlen] at hlen4 ⊢
  obtain ⟨i0, hi, hz0, hz1, hz2⟩ := info_parts infoStatement
  have HN := Lib.hid hlen
  have HL := Lib.hid hL
  have HK := Lib.hid hk
  clear hlen hL hk
  go_enter Tryz.func61, Tryz.ntmps61
  go_wp2_with fail
  go_loopg [3, 8] len (fun gk out i wr => ∃ (j : Nat) (ao' : Option Addr) (cap' : Nat), j ≤ len ∧ gk = len - j ∧ i = .int .i64 (j : Int) ∧ out = .slice ao' j cap' ∧ Hid (OutOk false 108 w.heap.size d ns j (.slice ao' j cap') wr) ∧ Hid (Below w.heap.size w wr))
  case atStart => exact ⟨0, none, 0, by omega, by omega, rfl, rfl, Lib.hid (OutOk.start _ _ _ _ _ _), Lib.hid (Below.refl _ _)⟩
  case round =>
    obtain ⟨j, ao', cap', hj, rfl, rfl, rfl, hO, hB⟩ := hrel
    by_cases hjn : j < len
    · have hjz : (j : Int) < (len : Int) := by omega
      obtain ⟨x, hx⟩ : ∃ x, ns[j]? = some x := ⟨ns[j]'(by have := HN.out; omega), List.getElem?_eq_getElem _⟩
      obtain ⟨b, o, hao, c0, c1, c2, c3, c4, hLx⟩ := list_cells HL.out hx hB.out
      obtain rfl : ao = some ⟨b, o, none⟩ := hao
      have HX := Lib.hid hx
      have HLX := Lib.hid hLx
      clear hx hLx
      go_wp2_with fail
      refine (nodeOfStatement d hU x D _ (HLX.out.below ((Below.refl _ _).alloc (Nat.le_refl _) _)) (HK.out x (List.mem_of_getElem? HX.out)).1 ((HK.out x (List.mem_of_getElem? HX.out)).2)).mono ?_
      rintro e w1 ⟨b1, rfl, hR, hb1⟩
      have HB1 := Lib.hid (((Below.refl wr.heap.size wr).alloc (Nat.le_refl _) _).trans (hb1.mono (by simp)))
      have HO1 := Lib.hid (hO.out.below HB1.out)
      have HR := Lib.hid (hR.mono (From.le (show wr.heap.size ≤ _ by simp)))
      have HBw := Lib.hid (hB.out.trans (HB1.out.mono hB.out.size))
      have hBs : w.heap.size ≤ w1.heap.size := HBw.out.size
      have hlt : ∀ g, (Value.slice ao' j cap').ownBlock = some g → g < wr.heap.size := by
        intro g hg
        obtain ⟨xs, h1, _⟩ := hO.out
        exact (World.ownsRow.lt h1 g hg).2
      have HLT := Lib.hid hlt
      have HXX : Hid (HeldBy false (RepD (fun b => w.heap.size ≤ b ∧ some b ≠ (Value.slice ao' j cap').ownBlock) d) w1 x (.iface (pTy x.kind) (.pointer (some ⟨b1, 0, none⟩)))) := Lib.hid ⟨b1, rfl, HR.out.mono fun b hb => ⟨Nat.le_trans hB.out.size hb, fun e => by have := HLT.out b e.symm; unfold From at hb; omega⟩⟩
      obtain ⟨xs, hown, -⟩ := HO1.out
      have HOW := Lib.hid (hown.alloc (.cells #[.iface (pTy x.kind) (.pointer (some ⟨b1, 0, none⟩))] 108))
      have HOL := Lib.hid hown.1
      clear hR hb1 hlt hown
      go_wp2_with (at_builtin; refine wpList_append_lies _ rfl _ _ 105 rfl w.heap.size 108 i0 (.nilIface) 1 16 undStatement hi hz0 hz1 hz2 rfl (by decide) _ _ _ rfl HOW.out ⟨w1.heap.size, 0, none⟩ 1 1 [.iface (pTy x.kind) (.pointer (some ⟨b1, 0, none⟩))] rfl rfl ?c1 ?c2 (by decide) ?c3 ?c4 ?c5 _ rfl ?_)
      case c1 => exact cell_one_new _ _ _
      case c2 => intro u hu; simp at hu; subst hu; rfl
      case c3 => unfold maxLen; omega
      case c4 => omega
      case c5 => simp; omega
      intro g cap2 w2 hown' hgrow hat hglt
      have HO2 : Hid (OutOk false 108 w.heap.size d ns (j + 1) (.slice (some ⟨g, 0, none⟩) (j + 1) cap2) w2) := by
        refine Lib.hid (OutOk.next HO1.out HX.out HXX.out (fun ys hys => ?_) rfl hgrow (hat.imp id (fun h => by simpa using h)))
        have hxy : ys = xs := by
          rcases hys.2 with ⟨hv, h0⟩ | ⟨g1, c1, cur1, hv, _, hg1, _, _, _, ht1⟩
          · have e1 := hys.1; have e2 := HOL.out
            rw [h0] at e1 e2
            simp at e1 e2
            rw [e1, e2]
          · rcases HOW.out.2 with ⟨hv2, h0⟩ | ⟨g3, c3, cur3, hv3, _, hg3, _, _, _, ht3⟩
            · rw [hv] at hv2; cases hv2
            · rw [hv] at hv3; cases hv3
              rw [hg1] at hg3; cases hg3
              rw [← ht1, ← ht3]
        rw [hxy]; exact hown'
      have HB2 := Lib.hid ((HBw.out.alloc hBs _).grown hgrow (by simp; omega) (by
        intro k hk
        obtain ⟨ys, h1, _⟩ := HO1.out
        rcases h1.2 with ⟨hv, _⟩ | ⟨g1, c1, cur1, hv, hBg, _⟩
        · rw [hv] at hk; simp [Value.ownBlock] at hk
        · rw [hv] at hk; simp [Value.ownBlock] at hk; omega))
      clear hown' hgrow hat
      go_wp2_with fail
      go_roundg (len - (j + 1))
      case measure => omega
      case rel => exact ⟨j + 1, some ⟨g, 0, none⟩, cap2, by omega, rfl, by push_cast; rfl, rfl, HO2, HB2⟩
    · have hjz : ¬ (j : Int) < (len : Int) := by omega
      obtain rfl : j = len := by omega
      go_wp2_with fail
      go_ret
      unfold ListPostS
      have hl := HN.out
      have hO2 := hO.out
      rw [← hl] at hO2 ⊢
      exact ⟨_, _, rfl, hO2.doneS, hO2.rowTy, hB.out⟩

end Go.Proofs.YtongafghllkomaaGreatDoor
