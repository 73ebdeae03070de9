/-
  nodesOf for properties and statements once more: the row that holds the pointers is none of the blocks that the nodes lie in. No conditions.
  unnode at an object once more: the object's block and the row of its properties are no blocks of what stands in it. No conditions.
-/
import Derived.Test.YtongafghllkomaaGreatDoorNodesOf
import Derived.Test.YtongafghllkomaaGreatDoorUnG
namespace Go.Proofs.YtongafghllkomaaGreatDoor
open Go.RowKit
set_option linter.unusedVariables false

/-- The row of a slice is of a type. -/
def RowTy (E : Nat) (v : Value) (w : World) : Prop := ∀ g cur e fr, v.ownBlock = some g → w.heap[g]? = some (.cells cur e fr) → e = E

theorem OutOk.rowTy {ptr : Bool} {E B d : Nat} {ns : List Nd} {j : Nat} {v : Value} {w : World} (h : OutOk ptr E B d ns j v w) : RowTy E v w := by
  obtain ⟨xs, h1, -⟩ := h
  intro g cur e fr hg hc
  rcases h1.2 with ⟨rfl, h0⟩ | ⟨g', cap, cur', rfl, hB, hg', -⟩
  · simp [Value.ownBlock] at hg
  · simp [Value.ownBlock] at hg
    subst hg
    rw [hg'] at hc
    cases hc
    rfl

/-- A list of the package's nodes is handed back, in a row that none of them lies in. -/
def ListPostS (E : Nat) (ptr : Bool) (d : Nat) (ns : List Nd) (w : World) (e : Ending) (w' : World) : Prop :=
  ∃ ao cap, e = .returned (.slice ao ns.length cap) ∧ CellsAre (From w.heap.size) w' (.slice ao ns.length cap) ns.length 1 (fun i cur => ∀ n, ns[i]? = some n → ∃ x, cur[i]? = some x ∧ HeldBy ptr (RepD (fun b => w.heap.size ≤ b ∧ some b ≠ (Value.slice ao ns.length cap).ownBlock) d) w' n x) ∧ RowTy E (.slice ao ns.length cap) w' ∧ Below w.heap.size w w'

theorem OutOk.doneS {ptr : Bool} {E B d : Nat} {ns : List Nd} {v : Value} {w : World} (h : OutOk ptr E B d ns ns.length v w) :
    CellsAre (From B) w v ns.length 1 (fun i cur => ∀ n, ns[i]? = some n → ∃ x, cur[i]? = some x ∧ HeldBy ptr (RepD (fun b => B ≤ b ∧ some b ≠ v.ownBlock) d) w n x) := by
  obtain ⟨xs, h1, h2⟩ := h
  have hl := h1.1
  rcases h1.2 with ⟨rfl, h0⟩ | ⟨g, cap, cur, rfl, hB, hg, hc1, hc2, hc3, hc4⟩
  · exact Or.inl ⟨h0, rfl⟩
  · refine Or.inr ⟨g, cap, cur, E, hB, rfl, hg, hc1, hc2, hc3, fun i hi n hn => ?_⟩
    obtain ⟨y, hx⟩ : ∃ y, xs[i]? = some y := ⟨xs[i]'(by omega), List.getElem?_eq_getElem _⟩
    refine ⟨y, ?_, h2 i n _ hn hx⟩
    rw [← hc4] at hx
    rw [List.getElem?_take] at hx
    split at hx
    · simpa using hx
    · cases hx

set_option maxRecDepth 100000 in
set_option maxHeartbeats 1000000 in
theorem nodesOfPropertyS (d : Nat) (hU : UnC d) (D : Nat) (ns : List Nd) (ao : Option Addr) (cap : Nat) (w : World) (hlen4 : ns.length ≤ 1000) (hL : ListLies D w ao ns) (hk : ∀ x ∈ ns, GoodD d x ∧ x.kind ∈ ([29] : List Int)) :
    Calls Tryz.prog 78 #[.slice ao ns.length cap] w (ListPostS 185 true d ns w) := by
  obtain ⟨len, hlen⟩ : ∃ len, ns.length = len := ⟨_, rfl⟩
  rw [hlen] at hlen4 ⊢
  obtain ⟨i0, hi, hz0, hz1, hz2⟩ := info_parts infoProperty
  have HN := Lib.hid hlen
  have HL := Lib.hid hL
  have HK := Lib.hid hk
  clear hlen hL hk
  go_enter Tryz.func78, Tryz.ntmps78
  go_wp2_with fail
  go_loopg [3, 8] len (fun gk out i wr => ∃ (j : Nat) (ao' : Option Addr) (cap' : Nat), j ≤ len ∧ gk = len - j ∧ i = .int .i64 (j : Int) ∧ out = .slice ao' j cap' ∧ Hid (OutOk true 185 w.heap.size d ns j (.slice ao' j cap') wr) ∧ Hid (Below w.heap.size w wr))
  case atStart => exact ⟨0, none, 0, by omega, by omega, rfl, rfl, Lib.hid (OutOk.start _ _ _ _ _ _), Lib.hid (Below.refl _ _)⟩
  case round =>
    obtain ⟨j, ao', cap', hj, rfl, rfl, rfl, hO, hB⟩ := hrel
    by_cases hjn : j < len
    · have hjz : (j : Int) < (len : Int) := by omega
      obtain ⟨x, hx⟩ : ∃ x, ns[j]? = some x := ⟨ns[j]'(by have := HN.out; omega), List.getElem?_eq_getElem _⟩
      obtain ⟨b, o, hao, c0, c1, c2, c3, c4, hLx⟩ := list_cells HL.out hx hB.out
      obtain rfl : ao = some ⟨b, o, none⟩ := hao
      have HX := Lib.hid hx
      have HLX := Lib.hid hLx
      clear hx hLx
      go_wp2_with fail
      refine (nodeOf_29 d hU x D _ (HLX.out.below ((Below.refl _ _).alloc (Nat.le_refl _) _)) (HK.out x (List.mem_of_getElem? HX.out)).1 (by have := (HK.out x (List.mem_of_getElem? HX.out)).2; simpa using this)).mono ?_
      rintro e w1 ⟨b1, rfl, hR, hb1⟩
      have HB1 := Lib.hid (((Below.refl wr.heap.size wr).alloc (Nat.le_refl _) _).trans (hb1.mono (by simp)))
      have HO1 := Lib.hid (hO.out.below HB1.out)
      have HR := Lib.hid (hR.mono (From.le (show wr.heap.size ≤ _ by simp)))
      have HBw := Lib.hid (hB.out.trans (HB1.out.mono hB.out.size))
      have hBs : w.heap.size ≤ w1.heap.size := HBw.out.size
      have hlt : ∀ g, (Value.slice ao' j cap').ownBlock = some g → g < wr.heap.size := by
        intro g hg
        obtain ⟨xs, h1, _⟩ := hO.out
        exact (World.ownsRow.lt h1 g hg).2
      have HLT := Lib.hid hlt
      have HXX : Hid (HeldBy true (RepD (fun b => w.heap.size ≤ b ∧ some b ≠ (Value.slice ao' j cap').ownBlock) d) w1 x (.pointer (some ⟨b1, 0, none⟩))) := Lib.hid ⟨b1, rfl, HR.out.mono fun b hb => ⟨Nat.le_trans hB.out.size hb, fun e => by have := HLT.out b e.symm; unfold From at hb; omega⟩⟩
      obtain ⟨xs, hown, -⟩ := HO1.out
      have HOW := Lib.hid (hown.alloc (.cells #[.pointer (some ⟨b1, 0, none⟩)] 185))
      have HOL := Lib.hid hown.1
      clear hR hb1 hlt hown
      go_wp2_with (at_builtin; refine wpList_append_lies _ rfl _ _ 183 rfl w.heap.size 185 i0 (.pointer none) 1 8 undProperty hi hz0 hz1 hz2 rfl (by decide) _ _ _ rfl HOW.out ⟨w1.heap.size, 0, none⟩ 1 1 [.pointer (some ⟨b1, 0, none⟩)] rfl rfl ?c1 ?c2 (by decide) ?c3 ?c4 ?c5 _ rfl ?_)
      case c1 => exact cell_one_new _ _ _
      case c2 => intro u hu; simp at hu; subst hu; rfl
      case c3 => unfold maxLen; omega
      case c4 => omega
      case c5 => simp; omega
      intro g cap2 w2 hown' hgrow hat hglt
      have HO2 : Hid (OutOk true 185 w.heap.size d ns (j + 1) (.slice (some ⟨g, 0, none⟩) (j + 1) cap2) w2) := by
        refine Lib.hid (OutOk.next HO1.out HX.out HXX.out (fun ys hys => ?_) rfl hgrow (hat.imp id (fun h => by simpa using h)))
        have hxy : ys = xs := by
          rcases hys.2 with ⟨hv, h0⟩ | ⟨g1, c1, cur1, hv, _, hg1, _, _, _, ht1⟩
          · have e1 := hys.1; have e2 := HOL.out
            rw [h0] at e1 e2
            simp at e1 e2
            rw [e1, e2]
          · rcases HOW.out.2 with ⟨hv2, h0⟩ | ⟨g3, c3, cur3, hv3, _, hg3, _, _, _, ht3⟩
            · rw [hv] at hv2; cases hv2
            · rw [hv] at hv3; cases hv3
              rw [hg1] at hg3; cases hg3
              rw [← ht1, ← ht3]
        rw [hxy]; exact hown'
      have HB2 := Lib.hid ((HBw.out.alloc hBs _).grown hgrow (by simp; omega) (by
        intro k hk
        obtain ⟨ys, h1, _⟩ := HO1.out
        rcases h1.2 with ⟨hv, _⟩ | ⟨g1, c1, cur1, hv, hBg, _⟩
        · rw [hv] at hk; simp [Value.ownBlock] at hk
        · rw [hv] at hk; simp [Value.ownBlock] at hk; omega))
      clear hown' hgrow hat
      go_wp2_with fail
      go_roundg (len - (j + 1))
      case measure => omega
      case rel => exact ⟨j + 1, some ⟨g, 0, none⟩, cap2, by omega, rfl, by push_cast; rfl, rfl, HO2, HB2⟩
    · have hjz : ¬ (j : Int) < (len : Int) := by omega
      obtain rfl : j = len := by omega
      go_wp2_with fail
      go_ret
      unfold ListPostS
      have hl := HN.out
      have hO2 := hO.out
      rw [← hl] at hO2 ⊢
      exact ⟨_, _, rfl, hO2.doneS, hO2.rowTy, hB.out⟩

set_option maxRecDepth 100000 in
set_option maxHeartbeats 1000000 in
theorem nodesOfStatementS (d : Nat) (hU : UnC d) (D : Nat) (ns : List Nd) (ao : Option Addr) (cap : Nat) (w : World) (hlen4 : ns.length ≤ 1000) (hL : ListLies D w ao ns) (hk : ∀ x ∈ ns, GoodD d x ∧ x.kind ∈ ([7, 8, 9, 10, 11, 12, 14, 15] : List Int)) :
    Calls Tryz.prog 61 #[.slice ao ns.length cap] w (ListPostS 108 false d ns w) := by
  obtain ⟨len, hlen⟩ : ∃ len, ns.length = len := ⟨_, rfl⟩
  rw [hlen] at hlen4 ⊢
  obtain ⟨i0, hi, hz0, hz1, hz2⟩ := info_parts infoStatement
  have HN := Lib.hid hlen
  have HL := Lib.hid hL
  have HK := Lib.hid hk
  clear hlen hL hk
  go_enter Tryz.func61, Tryz.ntmps61
  go_wp2_with fail
  go_loopg [3, 8] len (fun gk out i wr => ∃ (j : Nat) (ao' : Option Addr) (cap' : Nat), j ≤ len ∧ gk = len - j ∧ i = .int .i64 (j : Int) ∧ out = .slice ao' j cap' ∧ Hid (OutOk false 108 w.heap.size d ns j (.slice ao' j cap') wr) ∧ Hid (Below w.heap.size w wr))
  case atStart => exact ⟨0, none, 0, by omega, by omega, rfl, rfl, Lib.hid (OutOk.start _ _ _ _ _ _), Lib.hid (Below.refl _ _)⟩
  case round =>
    obtain ⟨j, ao', cap', hj, rfl, rfl, rfl, hO, hB⟩ := hrel
    by_cases hjn : j < len
    · have hjz : (j : Int) < (len : Int) := by omega
      obtain ⟨x, hx⟩ : ∃ x, ns[j]? = some x := ⟨ns[j]'(by have := HN.out; omega), List.getElem?_eq_getElem _⟩
      obtain ⟨b, o, hao, c0, c1, c2, c3, c4, hLx⟩ := list_cells HL.out hx hB.out
      obtain rfl : ao = some ⟨b, o, none⟩ := hao
      have HX := Lib.hid hx
      have HLX := Lib.hid hLx
      clear hx hLx
      go_wp2_with fail
      refine (nodeOfStatement d hU x D _ (HLX.out.below ((Below.refl _ _).alloc (Nat.le_refl _) _)) (HK.out x (List.mem_of_getElem? HX.out)).1 ((HK.out x (List.mem_of_getElem? HX.out)).2)).mono ?_
      rintro e w1 ⟨b1, rfl, hR, hb1⟩
      have HB1 := Lib.hid (((Below.refl wr.heap.size wr).alloc (Nat.le_refl _) _).trans (hb1.mono (by simp)))
      have HO1 := Lib.hid (hO.out.below HB1.out)
      have HR := Lib.hid (hR.mono (From.le (show wr.heap.size ≤ _ by simp)))
      have HBw := Lib.hid (hB.out.trans (HB1.out.mono hB.out.size))
      have hBs : w.heap.size ≤ w1.heap.size := HBw.out.size
      have hlt : ∀ g, (Value.slice ao' j cap').ownBlock = some g → g < wr.heap.size := by
        intro g hg
        obtain ⟨xs, h1, _⟩ := hO.out
        exact (World.ownsRow.lt h1 g hg).2
      have HLT := Lib.hid hlt
      have HXX : Hid (HeldBy false (RepD (fun b => w.heap.size ≤ b ∧ some b ≠ (Value.slice ao' j cap').ownBlock) d) w1 x (.iface (pTy x.kind) (.pointer (some ⟨b1, 0, none⟩)))) := Lib.hid ⟨b1, rfl, HR.out.mono fun b hb => ⟨Nat.le_trans hB.out.size hb, fun e => by have := HLT.out b e.symm; unfold From at hb; omega⟩⟩
      obtain ⟨xs, hown, -⟩ := HO1.out
      have HOW := Lib.hid (hown.alloc (.cells #[.iface (pTy x.kind) (.pointer (some ⟨b1, 0, none⟩))] 108))
      have HOL := Lib.hid hown.1
      clear hR hb1 hlt hown
      go_wp2_with (at_builtin; refine wpList_append_lies _ rfl _ _ 105 rfl w.heap.size 108 i0 (.nilIface) 1 16 undStatement hi hz0 hz1 hz2 rfl (by decide) _ _ _ rfl HOW.out ⟨w1.heap.size, 0, none⟩ 1 1 [.iface (pTy x.kind) (.pointer (some ⟨b1, 0, none⟩))] rfl rfl ?c1 ?c2 (by decide) ?c3 ?c4 ?c5 _ rfl ?_)
      case c1 => exact cell_one_new _ _ _
      case c2 => intro u hu; simp at hu; subst hu; rfl
      case c3 => unfold maxLen; omega
      case c4 => omega
      case c5 => simp; omega
      intro g cap2 w2 hown' hgrow hat hglt
      have HO2 : Hid (OutOk false 108 w.heap.size d ns (j + 1) (.slice (some ⟨g, 0, none⟩) (j + 1) cap2) w2) := by
        refine Lib.hid (OutOk.next HO1.out HX.out HXX.out (fun ys hys => ?_) rfl hgrow (hat.imp id (fun h => by simpa using h)))
        have hxy : ys = xs := by
          rcases hys.2 with ⟨hv, h0⟩ | ⟨g1, c1, cur1, hv, _, hg1, _, _, _, ht1⟩
          · have e1 := hys.1; have e2 := HOL.out
            rw [h0] at e1 e2
            simp at e1 e2
            rw [e1, e2]
          · rcases HOW.out.2 with ⟨hv2, h0⟩ | ⟨g3, c3, cur3, hv3, _, hg3, _, _, _, ht3⟩
            · rw [hv] at hv2; cases hv2
            · rw [hv] at hv3; cases hv3
              rw [hg1] at hg3; cases hg3
              rw [← ht1, ← ht3]
        rw [hxy]; exact hown'
      have HB2 := Lib.hid ((HBw.out.alloc hBs _).grown hgrow (by simp; omega) (by
        intro k hk
        obtain ⟨ys, h1, _⟩ := HO1.out
        rcases h1.2 with ⟨hv, _⟩ | ⟨g1, c1, cur1, hv, hBg, _⟩
        · rw [hv] at hk; simp [Value.ownBlock] at hk
        · rw [hv] at hk; simp [Value.ownBlock] at hk; omega))
      clear hown' hgrow hat
      go_wp2_with fail
      go_roundg (len - (j + 1))
      case measure => omega
      case rel => exact ⟨j + 1, some ⟨g, 0, none⟩, cap2, by omega, rfl, by push_cast; rfl, rfl, HO2, HB2⟩
    · have hjz : ¬ (j : Int) < (len : Int) := by omega
      obtain rfl : j = len := by omega
      go_wp2_with fail
      go_ret
      unfold ListPostS
      have hl := HN.out
      have hO2 := hO.out
      rw [← hl] at hO2 ⊢
      exact ⟨_, _, rfl, hO2.doneS, hO2.rowTy, hB.out⟩

end Go.Proofs.YtongafghllkomaaGreatDoor

namespace Go.Proofs.YtongafghllkomaaGreatDoor
open Go.RowKit
set_option linter.unusedVariables false

theorem RepD.within {A : Nat → Prop} {d : Nat} {w : World} {n : Nd} {b : Nat} (h : RepD A d w n b) : RepD (fun c => A c ∧ c < w.heap.size) d w n b :=
  h.carry (fun b o hA ho => ⟨ho, hA, (Array.getElem?_eq_some_iff.1 ho).1⟩)

/-- Blocks from B on, but for an object's own and its row. -/
def Off (B b : Nat) (v : Value) (c : Nat) : Prop := B ≤ c ∧ c ≠ b ∧ some c ≠ v.ownBlock

/-- An object of the package lies in a block, what stands in it in other ones. -/
def SepObj (B d : Nat) (w : World) (n : Nd) (b : Nat) : Prop :=
  B ≤ b ∧ ∃ v4 v5, w.heap[b]? = some (.cells #[.pointer none, .slice none 0 0, .slice none 0 0, .slice none 0 0, v4, v5, .slice none 0 0] (sTy n.kind) (0, 0)) ∧ some b ≠ v5.ownBlock ∧ RowTy 185 v5 w ∧
    SlotOk (Off B b v5) (RepD (Off B b v5) d) w (.mptr (n.kid 0)) v4 ∧
    CellsAre (From B) w v5 (n.kids.drop 1).length 1 (fun i cur => ∀ p, (n.kids.drop 1)[i]? = some p → ∃ x, cur[i]? = some x ∧ HeldBy true (RepD (Off B b v5) d) w p x)

def SepPost (d : Nat) (n : Nd) (w : World) (e : Ending) (w' : World) : Prop := ∃ b, e = .returned (.iface (pTy n.kind) (.pointer (some ⟨b, 0, none⟩))) ∧ SepObj w.heap.size d w' n b ∧ Below w.heap.size w w'

theorem cells_lt {A : Nat → Prop} {w : World} {v : Value} {len size : Nat} {P : Nat → Array Value → Prop} (h : CellsAre A w v len size P) {g : Nat} (hg : v.ownBlock = some g) : A g ∧ g < w.heap.size := by
  rcases h with ⟨_, rfl⟩ | ⟨g', cap, cur, e, hA, rfl, hg', _⟩
  · simp [Value.ownBlock] at hg
  · simp [Value.ownBlock] at hg
    subst hg
    exact ⟨hA, (Array.getElem?_eq_some_iff.1 hg').1⟩

theorem sep_post {d : Nat} {n : Nd} {w W : World} {T S b : Nat} {v4 : Value} {ao1 : Option Addr} {cap1 : Nat} {x0 : Nd} {rest : List Nd} (hT : pTy n.kind = T) (hS : sTy n.kind = S) (hbs : b = W.heap.size) (hB : Below w.heap.size w W) (hx : n.kid 0 = x0) (hr : n.kids.drop 1 = rest)
    (B1 : Nat) (hB1 : w.heap.size ≤ B1) (h0 : SlotOk (fun c => From w.heap.size c ∧ c < B1) (RepD (fun c => From w.heap.size c ∧ c < B1) d) W (.mptr x0) v4)
    (h1 : CellsAre (From B1) W (.slice ao1 rest.length cap1) rest.length 1 (fun i cur => ∀ p, rest[i]? = some p → ∃ x, cur[i]? = some x ∧ HeldBy true (RepD (fun c => B1 ≤ c ∧ some c ≠ (Value.slice ao1 rest.length cap1).ownBlock) d) W p x)) (hrt : RowTy 185 (.slice ao1 rest.length cap1) W) :
    SepPost d n w (.returned (.iface T (.pointer (some ⟨b, 0, none⟩)))) (W.alloc (.cells #[.pointer none, .slice none 0 0, .slice none 0 0, .slice none 0 0, v4, .slice ao1 rest.length cap1, .slice none 0 0] S)) := by
  subst hT hS hbs hx hr
  have hba : Below W.heap.size W (W.alloc (.cells #[.pointer none, .slice none 0 0, .slice none 0 0, .slice none 0 0, v4, .slice ao1 (n.kids.drop 1).length cap1, .slice none 0 0] (sTy n.kind))) := (Below.refl _ _).alloc (Nat.le_refl _) _
  refine ⟨W.heap.size, rfl, ⟨hB.size, v4, _, heap_alloc_new _ _, fun e => ?_, fun g cur e fr hg hc => ?_, ?_, ?_⟩, hB.alloc hB.size _⟩
  · have := (cells_lt h1 e.symm).2
    omega
  · have hlt := (cells_lt h1 hg).2
    exact hrt g cur e fr hg (by rw [← heap_alloc_old W (.cells #[.pointer none, .slice none 0 0, .slice none 0 0, .slice none 0 0, v4, .slice ao1 (n.kids.drop 1).length cap1, .slice none 0 0] (sTy n.kind)) hlt]; exact hc)
  · refine SlotOk.carry (A := fun c => From w.heap.size c ∧ c < B1) (fun m c hr => hr.carry ?_) ?_ h0
    all_goals
      intro c o hA ho
      refine ⟨(Carries.of_below (A := fun _ => True) hba c o trivial ho).1, hA.1, ?_, ?_⟩
      · have := (Array.getElem?_eq_some_iff.1 ho).1
        omega
      · intro e
        have := (cells_lt h1 e.symm).1
        have := hA.2
        unfold From at *
        omega
  · refine CellsAre.carry h1 (fun c o hA ho => ⟨(Carries.of_below (A := fun _ => True) hba c o trivial ho).1, Nat.le_trans hB1 hA⟩) (fun i x _ hx p hp => ?_)
    obtain ⟨y, hy1, hy2⟩ := hx p hp
    refine ⟨y, hy1, hy2.imp fun c hr => hr.carry (fun c o hA ho => ⟨(Carries.of_below (A := fun _ => True) hba c o trivial ho).1, Nat.le_trans hB1 hA.1, ?_, hA.2⟩)⟩
    have := (Array.getElem?_eq_some_iff.1 ho).1
    omega

set_option maxRecDepth 100000 in
set_option maxHeartbeats 2000000 in
theorem sep_28_one_none (d : Nat) (hU : UnC d) (n : Nd) (D : Nat) (w : World) (hL : LiesD D w n) (hG : PreD (d + 1) n) (hk : n.kind = 28) (hcp : n.cap = 1) (hm : (n.kid 0).kind = 0) :
    Calls Tryz.prog 31 #[n.val] w (SepPost d n w) := by
  obtain ⟨D, rfl⟩ : ∃ E, D = E + 1 := by cases D with | zero => exact hL.elim | succ E => exact ⟨E, rfl⟩
  obtain ⟨k, t, m, u, ao, cap, kids⟩ := n
  obtain rfl : k = 28 := hk
  have hn0 : (Nd.mk 28 t m u ao cap kids).kind ≠ 0 := by show (28 : Int) ≠ 0; decide
  have hn1 : (Nd.mk 28 t m u ao cap kids).kind ≠ 1 := by show (28 : Int) ≠ 1; decide
  have hcap : cap = 1 := hcp
  clear hcp
  have h1 := ((hG.fit hn0).2.2.2.1 hn1)
  have e1 : (fixedL 28).length = 1 := by decide
  simp only [Nd.kind, Nd.kids] at h1
  rw [e1] at h1
  obtain ⟨x0, rest, rfl⟩ : ∃ x r, kids = x :: r := by
    cases kids with
    | nil => simp at h1
    | cons x r => exact ⟨x, r, rfl⟩
  have hroom : rest.length + 1 ≤ cap := by have := hG.room; simpa [Nd.kids, Nd.cap] using this
  obtain ⟨b, o, hao0, p00, p01, p02, p03, p04, hLx0⟩ := kid_cells (j := 0) hL rfl (Below.refl _ _)
  obtain rfl : ao = some ⟨b, o, none⟩ := hao0
  obtain ⟨hP0, hC0⟩ := hG.kid (i := 0) (x := x0) hn0 rfl
  have hk0 : x0.kind = 0 := hm
  have hks : ∀ x ∈ rest, GoodD d x ∧ x.kind ∈ ([29] : List Int) := by
    intro x hx
    obtain ⟨i, hi, e⟩ := List.mem_iff_getElem.1 hx
    obtain ⟨hP, hC⟩ := hG.kid (i := i + 1) (x := x) hn0 (by show (x0 :: rest)[i + 1]? = some x; rw [List.getElem?_cons_succ, List.getElem?_eq_getElem hi, e])
    have hC1 := hC hn1
    have e1 : (fixedL 28).getD (i + 1) (restL 28) = restL 28 := by rw [show fixedL 28 = [4] from by decide]; simp
    have hC2 : ofClassB x (restL 28) = true := by rw [← e1]; exact hC1
    have hkx : x.kind ∈ ([29] : List Int) := class_few [29] rfl hC2
    exact ⟨hP.good (by revert hkx; unfold walkL; simp; omega), hkx⟩
  have hsm : rest.length ≤ 1000 := by have := hG.small; simp [Nd.kids] at this; omega
  simp only [Nat.zero_mul, Nat.add_zero] at p00 p01 p02 p03 p04
  have HKS := Lib.hid hks
  have HSM := Lib.hid hsm
  obtain rfl : cap = 1 := hcap
  obtain rfl : rest = [] := List.eq_nil_of_length_eq_zero (by omega)
  have HLL := Lib.hid (show ListLies D w (some ⟨b, o, none⟩) [] from fun i x hx => by simp at hx)
  have HK0 := Lib.hid hk0
  have HL0 := Lib.hid hLx0
  have HC0 := Lib.hid (show NdCells w b o x0 from ⟨p00, p01, p02, p03, p04⟩)
  have hblt : b < w.heap.size := World.block_lt_of_cell? _ _ p00
  clear hn0 hn1 hP0 hC0 hk0 hLx0 hL hG hks hsm h1 e1 hroom hm
  show Calls _ _ #[.agg #[.int .i64 28, .string t, .string m, .int .u64 u, .slice (some ⟨b, o, none⟩) 1 1]] w _
  go_enter Tryz.func31, Tryz.ntmps31
  go_wp2_with fail
  go_region_held3 (fun w' => (w'.cell? ⟨w.heap.size, 0, none⟩ = some (.int .i64 28) ∧ w'.cell? ⟨w.heap.size, 1, none⟩ = some (.string t) ∧ w'.cell? ⟨w.heap.size, 2, none⟩ = some (.string m) ∧ w'.cell? ⟨w.heap.size, 3, none⟩ = some (.int .u64 u) ∧ w'.cell? ⟨w.heap.size, 4, none⟩ = some (.slice (some ⟨b, o, none⟩) 1 1))) (go_keep) (first | (go_at_call 74; refine (kid_any _ _ _ _ b o _ _ x0 _ (by omega) (by first | exact HC0.out.below ‹Below w.heap.size w _› HC0.out.lt | exact HC0.out.below (Below.drew ‹Below w.heap.size w _›) HC0.out.lt | exact HC0.out.below ((Below.refl _ _).alloc (Nat.le_refl _) _) HC0.out.lt | exact HC0.out.below (((Below.refl _ _).alloc (Nat.le_refl _) _).drew) HC0.out.lt)).mono ?_; rintro e c7w ⟨rfl, hb7⟩; have HZ7 : Below w.heap.size w c7w := (by first | exact Below.trans ‹Below w.heap.size w _› (hb7.mono (Below.size ‹Below w.heap.size w _›)) | exact Below.trans (Below.drew ‹Below w.heap.size w _›) (hb7.mono (by have := Below.size ‹Below w.heap.size w _›; simpa using this)) | exact ((Below.refl w.heap.size w).alloc (Nat.le_refl _) _).trans (hb7.mono (by simp)) | exact (((Below.refl w.heap.size w).alloc (Nat.le_refl _) _).drew).trans (hb7.mono (by simp))); have hz7 : w.heap.size < c7w.heap.size := (by have h := hb7.size; (try simp at h); omega); obtain ⟨ka7, -⟩ := bblk hb7 (b := w.heap.size) (by first | omega | (simp; omega) | (simp; done))) | (go_at_call 64; refine (maybeIdentifier_none x0 _ HK0.out).mono ?_; rintro e c0w ⟨rfl, hb0⟩; have HZ0 : Below w.heap.size w c0w := (by first | exact Below.trans ‹Below w.heap.size w _› (hb0.mono (Below.size ‹Below w.heap.size w _›)) | exact Below.trans (Below.drew ‹Below w.heap.size w _›) (hb0.mono (by have := Below.size ‹Below w.heap.size w _›; simpa using this)) | exact ((Below.refl w.heap.size w).alloc (Nat.le_refl _) _).trans (hb0.mono (by simp)) | exact (((Below.refl w.heap.size w).alloc (Nat.le_refl _) _).drew).trans (hb0.mono (by simp))); have hz0 : w.heap.size < c0w.heap.size := (by have h := hb0.size; (try simp at h); omega); obtain ⟨ka0, -⟩ := bblk hb0 (b := w.heap.size) (by first | omega | (simp; omega) | (simp; done))) | (go_at_call 78; refine (nodesOfPropertyS d hU D [] _ _ _ HSM.out (by first | exact HLL.out.below ‹Below w.heap.size w _› | exact HLL.out.below (Below.drew ‹Below w.heap.size w _›) | exact HLL.out.below ((Below.refl _ _).alloc (Nat.le_refl _) _) | exact HLL.out.below (((Below.refl _ _).alloc (Nat.le_refl _) _).drew)) HKS.out).mono ?_; rintro e c1w ⟨ao1, cap1, rfl, hcs, hrt, hb1⟩; have HZ1 : Below w.heap.size w c1w := (by first | exact Below.trans ‹Below w.heap.size w _› (hb1.mono (Below.size ‹Below w.heap.size w _›)) | exact Below.trans (Below.drew ‹Below w.heap.size w _›) (hb1.mono (by have := Below.size ‹Below w.heap.size w _›; simpa using this)) | exact ((Below.refl w.heap.size w).alloc (Nat.le_refl _) _).trans (hb1.mono (by simp)) | exact (((Below.refl w.heap.size w).alloc (Nat.le_refl _) _).drew).trans (hb1.mono (by simp))); have hz1 : w.heap.size < c1w.heap.size := (by have h := hb1.size; (try simp at h); omega); obtain ⟨ka1, -⟩ := bblk hb1 (b := w.heap.size) (by first | omega | (simp; omega) | (simp; done))))
  go_wp2_with fail
  go_ret
  exact sep_post (n := .mk 28 t m u (some ⟨b, o, none⟩) _ (x0 :: _)) ptrTy_28 sTy_28 rfl HZ1 rfl rfl _ (by first | omega | (simp; done) | (simp; omega)) (Or.inl ⟨HK0.out, rfl⟩) hcs hrt

set_option maxRecDepth 100000 in
set_option maxHeartbeats 2000000 in
theorem sep_28_one (d : Nat) (hU : UnC d) (n : Nd) (D : Nat) (w : World) (hL : LiesD D w n) (hG : PreD (d + 1) n) (hk : n.kind = 28) (hcp : n.cap = 1) (hm : (n.kid 0).kind ≠ 0) :
    Calls Tryz.prog 31 #[n.val] w (SepPost d n w) := by
  obtain ⟨D, rfl⟩ : ∃ E, D = E + 1 := by cases D with | zero => exact hL.elim | succ E => exact ⟨E, rfl⟩
  obtain ⟨k, t, m, u, ao, cap, kids⟩ := n
  obtain rfl : k = 28 := hk
  have hn0 : (Nd.mk 28 t m u ao cap kids).kind ≠ 0 := by show (28 : Int) ≠ 0; decide
  have hn1 : (Nd.mk 28 t m u ao cap kids).kind ≠ 1 := by show (28 : Int) ≠ 1; decide
  have hcap : cap = 1 := hcp
  clear hcp
  have h1 := ((hG.fit hn0).2.2.2.1 hn1)
  have e1 : (fixedL 28).length = 1 := by decide
  simp only [Nd.kind, Nd.kids] at h1
  rw [e1] at h1
  obtain ⟨x0, rest, rfl⟩ : ∃ x r, kids = x :: r := by
    cases kids with
    | nil => simp at h1
    | cons x r => exact ⟨x, r, rfl⟩
  have hroom : rest.length + 1 ≤ cap := by have := hG.room; simpa [Nd.kids, Nd.cap] using this
  obtain ⟨b, o, hao0, p00, p01, p02, p03, p04, hLx0⟩ := kid_cells (j := 0) hL rfl (Below.refl _ _)
  obtain rfl : ao = some ⟨b, o, none⟩ := hao0
  obtain ⟨hP0, hC0⟩ := hG.kid (i := 0) (x := x0) hn0 rfl
  have hk0 : x0.kind = 33 := by
    have h := class_few [33, 0] rfl (hC0 hn1)
    have h2 : x0.kind ≠ 0 := hm
    simp at h; omega
  have hks : ∀ x ∈ rest, GoodD d x ∧ x.kind ∈ ([29] : List Int) := by
    intro x hx
    obtain ⟨i, hi, e⟩ := List.mem_iff_getElem.1 hx
    obtain ⟨hP, hC⟩ := hG.kid (i := i + 1) (x := x) hn0 (by show (x0 :: rest)[i + 1]? = some x; rw [List.getElem?_cons_succ, List.getElem?_eq_getElem hi, e])
    have hC1 := hC hn1
    have e1 : (fixedL 28).getD (i + 1) (restL 28) = restL 28 := by rw [show fixedL 28 = [4] from by decide]; simp
    have hC2 : ofClassB x (restL 28) = true := by rw [← e1]; exact hC1
    have hkx : x.kind ∈ ([29] : List Int) := class_few [29] rfl hC2
    exact ⟨hP.good (by revert hkx; unfold walkL; simp; omega), hkx⟩
  have hsm : rest.length ≤ 1000 := by have := hG.small; simp [Nd.kids] at this; omega
  simp only [Nat.zero_mul, Nat.add_zero] at p00 p01 p02 p03 p04
  have HKS := Lib.hid hks
  have HSM := Lib.hid hsm
  obtain rfl : cap = 1 := hcap
  obtain rfl : rest = [] := List.eq_nil_of_length_eq_zero (by omega)
  have HLL := Lib.hid (show ListLies D w (some ⟨b, o, none⟩) [] from fun i x hx => by simp at hx)
  have HG0 := Lib.hid (hP0.good (by rw [hk0]; decide))
  have HK0 := Lib.hid hk0
  have HL0 := Lib.hid hLx0
  have HC0 := Lib.hid (show NdCells w b o x0 from ⟨p00, p01, p02, p03, p04⟩)
  have hblt : b < w.heap.size := World.block_lt_of_cell? _ _ p00
  clear hn0 hn1 hP0 hC0 hk0 hLx0 hL hG hks hsm h1 e1 hroom hm
  show Calls _ _ #[.agg #[.int .i64 28, .string t, .string m, .int .u64 u, .slice (some ⟨b, o, none⟩) 1 1]] w _
  go_enter Tryz.func31, Tryz.ntmps31
  go_wp2_with fail
  go_region_held3 (fun w' => (w'.cell? ⟨w.heap.size, 0, none⟩ = some (.int .i64 28) ∧ w'.cell? ⟨w.heap.size, 1, none⟩ = some (.string t) ∧ w'.cell? ⟨w.heap.size, 2, none⟩ = some (.string m) ∧ w'.cell? ⟨w.heap.size, 3, none⟩ = some (.int .u64 u) ∧ w'.cell? ⟨w.heap.size, 4, none⟩ = some (.slice (some ⟨b, o, none⟩) 1 1))) (go_keep) (first | (go_at_call 74; refine (kid_any _ _ _ _ b o _ _ x0 _ (by omega) (by first | exact HC0.out.below ‹Below w.heap.size w _› HC0.out.lt | exact HC0.out.below (Below.drew ‹Below w.heap.size w _›) HC0.out.lt | exact HC0.out.below ((Below.refl _ _).alloc (Nat.le_refl _) _) HC0.out.lt | exact HC0.out.below (((Below.refl _ _).alloc (Nat.le_refl _) _).drew) HC0.out.lt)).mono ?_; rintro e c7w ⟨rfl, hb7⟩; have HZ7 : Below w.heap.size w c7w := (by first | exact Below.trans ‹Below w.heap.size w _› (hb7.mono (Below.size ‹Below w.heap.size w _›)) | exact Below.trans (Below.drew ‹Below w.heap.size w _›) (hb7.mono (by have := Below.size ‹Below w.heap.size w _›; simpa using this)) | exact ((Below.refl w.heap.size w).alloc (Nat.le_refl _) _).trans (hb7.mono (by simp)) | exact (((Below.refl w.heap.size w).alloc (Nat.le_refl _) _).drew).trans (hb7.mono (by simp))); have hz7 : w.heap.size < c7w.heap.size := (by have h := hb7.size; (try simp at h); omega); obtain ⟨ka7, -⟩ := bblk hb7 (b := w.heap.size) (by first | omega | (simp; omega) | (simp; done))) | (go_at_call 64; refine (maybeIdentifier_some d hU x0 D _ (by first | exact HL0.out.below ‹Below w.heap.size w _› | exact HL0.out.below (Below.drew ‹Below w.heap.size w _›) | exact HL0.out.below ((Below.refl _ _).alloc (Nat.le_refl _) _) | exact HL0.out.below (((Below.refl _ _).alloc (Nat.le_refl _) _).drew)) HG0.out HK0.out).mono ?_; rintro e c0w ⟨b0, rfl, hR0, hb0⟩; have HZ0 : Below w.heap.size w c0w := (by first | exact Below.trans ‹Below w.heap.size w _› (hb0.mono (Below.size ‹Below w.heap.size w _›)) | exact Below.trans (Below.drew ‹Below w.heap.size w _›) (hb0.mono (by have := Below.size ‹Below w.heap.size w _›; simpa using this)) | exact ((Below.refl w.heap.size w).alloc (Nat.le_refl _) _).trans (hb0.mono (by simp)) | exact (((Below.refl w.heap.size w).alloc (Nat.le_refl _) _).drew).trans (hb0.mono (by simp))); have hz0 : w.heap.size < c0w.heap.size := (by have h := hb0.size; (try simp at h); omega); obtain ⟨ka0, -⟩ := bblk hb0 (b := w.heap.size) (by first | omega | (simp; omega) | (simp; done))) | (go_at_call 78; refine (nodesOfPropertyS d hU D [] _ _ _ HSM.out (by first | exact HLL.out.below ‹Below w.heap.size w _› | exact HLL.out.below (Below.drew ‹Below w.heap.size w _›) | exact HLL.out.below ((Below.refl _ _).alloc (Nat.le_refl _) _) | exact HLL.out.below (((Below.refl _ _).alloc (Nat.le_refl _) _).drew)) HKS.out).mono ?_; rintro e c1w ⟨ao1, cap1, rfl, hcs, hrt, hb1⟩; have HZ1 : Below w.heap.size w c1w := (by first | exact Below.trans ‹Below w.heap.size w _› (hb1.mono (Below.size ‹Below w.heap.size w _›)) | exact Below.trans (Below.drew ‹Below w.heap.size w _›) (hb1.mono (by have := Below.size ‹Below w.heap.size w _›; simpa using this)) | exact ((Below.refl w.heap.size w).alloc (Nat.le_refl _) _).trans (hb1.mono (by simp)) | exact (((Below.refl w.heap.size w).alloc (Nat.le_refl _) _).drew).trans (hb1.mono (by simp))); have hz1 : w.heap.size < c1w.heap.size := (by have h := hb1.size; (try simp at h); omega); obtain ⟨ka1, -⟩ := bblk hb1 (b := w.heap.size) (by first | omega | (simp; omega) | (simp; done))))
  go_wp2_with fail
  go_ret
  exact sep_post (n := .mk 28 t m u (some ⟨b, o, none⟩) _ (x0 :: _)) ptrTy_28 sTy_28 rfl HZ1 rfl rfl _ (by first | omega | (simp; done) | (simp; omega)) (Or.inr ⟨(show x0.kind ≠ 0 from (by have h := HK0.out; omega)), b0, rfl, ((hR0.mono (From.le (by first | omega | (simp; omega)))).within.mono (fun c hc => ⟨hc.1, by have := hc.2; first | exact this | (simp; exact this)⟩)).below (by first | exact hb1 | (have h := hb1; simpa using h))⟩) hcs hrt

set_option maxRecDepth 100000 in
set_option maxHeartbeats 2000000 in
theorem sep_28_none (d : Nat) (hU : UnC d) (n : Nd) (D : Nat) (w : World) (hL : LiesD D w n) (hG : PreD (d + 1) n) (hk : n.kind = 28) (hcp : n.cap ≠ 1) (hm : (n.kid 0).kind = 0) :
    Calls Tryz.prog 31 #[n.val] w (SepPost d n w) := by
  obtain ⟨D, rfl⟩ : ∃ E, D = E + 1 := by cases D with | zero => exact hL.elim | succ E => exact ⟨E, rfl⟩
  obtain ⟨k, t, m, u, ao, cap, kids⟩ := n
  obtain rfl : k = 28 := hk
  have hn0 : (Nd.mk 28 t m u ao cap kids).kind ≠ 0 := by show (28 : Int) ≠ 0; decide
  have hn1 : (Nd.mk 28 t m u ao cap kids).kind ≠ 1 := by show (28 : Int) ≠ 1; decide
  have hcap : cap ≠ 1 := hcp
  clear hcp
  have h1 := ((hG.fit hn0).2.2.2.1 hn1)
  have e1 : (fixedL 28).length = 1 := by decide
  simp only [Nd.kind, Nd.kids] at h1
  rw [e1] at h1
  obtain ⟨x0, rest, rfl⟩ : ∃ x r, kids = x :: r := by
    cases kids with
    | nil => simp at h1
    | cons x r => exact ⟨x, r, rfl⟩
  have hroom : rest.length + 1 ≤ cap := by have := hG.room; simpa [Nd.kids, Nd.cap] using this
  obtain ⟨b, o, hao0, p00, p01, p02, p03, p04, hLx0⟩ := kid_cells (j := 0) hL rfl (Below.refl _ _)
  obtain rfl : ao = some ⟨b, o, none⟩ := hao0
  obtain ⟨hP0, hC0⟩ := hG.kid (i := 0) (x := x0) hn0 rfl
  have hk0 : x0.kind = 0 := hm
  have hks : ∀ x ∈ rest, GoodD d x ∧ x.kind ∈ ([29] : List Int) := by
    intro x hx
    obtain ⟨i, hi, e⟩ := List.mem_iff_getElem.1 hx
    obtain ⟨hP, hC⟩ := hG.kid (i := i + 1) (x := x) hn0 (by show (x0 :: rest)[i + 1]? = some x; rw [List.getElem?_cons_succ, List.getElem?_eq_getElem hi, e])
    have hC1 := hC hn1
    have e1 : (fixedL 28).getD (i + 1) (restL 28) = restL 28 := by rw [show fixedL 28 = [4] from by decide]; simp
    have hC2 : ofClassB x (restL 28) = true := by rw [← e1]; exact hC1
    have hkx : x.kind ∈ ([29] : List Int) := class_few [29] rfl hC2
    exact ⟨hP.good (by revert hkx; unfold walkL; simp; omega), hkx⟩
  have hsm : rest.length ≤ 1000 := by have := hG.small; simp [Nd.kids] at this; omega
  simp only [Nat.zero_mul, Nat.add_zero] at p00 p01 p02 p03 p04
  have HKS := Lib.hid hks
  have HSM := Lib.hid hsm
  have HLL := Lib.hid (show ListLies D w (some ⟨b, o + 5, none⟩) rest from fun i x hx => by
    obtain ⟨⟨b2, o2, ha, hc⟩, hl⟩ := hL.2 (i + 1) x (by show (x0 :: rest)[i + 1]? = some x; rw [List.getElem?_cons_succ]; exact hx)
    cases ha
    exact ⟨⟨b, o + 5, rfl, by have e : o + (i + 1) * 5 = o + 5 + i * 5 := by omega
                              rw [← e]; exact hc⟩, hl⟩)
  have HK0 := Lib.hid hk0
  have HL0 := Lib.hid hLx0
  have HC0 := Lib.hid (show NdCells w b o x0 from ⟨p00, p01, p02, p03, p04⟩)
  have hblt : b < w.heap.size := World.block_lt_of_cell? _ _ p00
  have hq1 : (1 : Int) ≤ (rest.length : Int) + 1 := by omega
  have hq2 : ¬ cap = 1 := hcap
  have hq3 : ¬ 1 = cap := fun e => hcap e.symm
  clear hn0 hn1 hP0 hC0 hk0 hLx0 hL hG hks hsm h1 e1 hroom hm
  show Calls _ _ #[.agg #[.int .i64 28, .string t, .string m, .int .u64 u, .slice (some ⟨b, o, none⟩) (rest.length + 1) cap]] w _
  go_enter Tryz.func31, Tryz.ntmps31
  go_wp2_with fail
  go_region_held3 (fun w' => (w'.cell? ⟨w.heap.size, 0, none⟩ = some (.int .i64 28) ∧ w'.cell? ⟨w.heap.size, 1, none⟩ = some (.string t) ∧ w'.cell? ⟨w.heap.size, 2, none⟩ = some (.string m) ∧ w'.cell? ⟨w.heap.size, 3, none⟩ = some (.int .u64 u) ∧ w'.cell? ⟨w.heap.size, 4, none⟩ = some (.slice (some ⟨b, o, none⟩) (rest.length + 1) cap))) (go_keep) (first | (go_at_call 74; refine (kid_any _ _ _ _ b o _ _ x0 _ (by omega) (by first | exact HC0.out.below ‹Below w.heap.size w _› HC0.out.lt | exact HC0.out.below (Below.drew ‹Below w.heap.size w _›) HC0.out.lt | exact HC0.out.below ((Below.refl _ _).alloc (Nat.le_refl _) _) HC0.out.lt | exact HC0.out.below (((Below.refl _ _).alloc (Nat.le_refl _) _).drew) HC0.out.lt)).mono ?_; rintro e c7w ⟨rfl, hb7⟩; have HZ7 : Below w.heap.size w c7w := (by first | exact Below.trans ‹Below w.heap.size w _› (hb7.mono (Below.size ‹Below w.heap.size w _›)) | exact Below.trans (Below.drew ‹Below w.heap.size w _›) (hb7.mono (by have := Below.size ‹Below w.heap.size w _›; simpa using this)) | exact ((Below.refl w.heap.size w).alloc (Nat.le_refl _) _).trans (hb7.mono (by simp)) | exact (((Below.refl w.heap.size w).alloc (Nat.le_refl _) _).drew).trans (hb7.mono (by simp))); have hz7 : w.heap.size < c7w.heap.size := (by have h := hb7.size; (try simp at h); omega); obtain ⟨ka7, -⟩ := bblk hb7 (b := w.heap.size) (by first | omega | (simp; omega) | (simp; done))) | (go_at_call 64; refine (maybeIdentifier_none x0 _ HK0.out).mono ?_; rintro e c0w ⟨rfl, hb0⟩; have HZ0 : Below w.heap.size w c0w := (by first | exact Below.trans ‹Below w.heap.size w _› (hb0.mono (Below.size ‹Below w.heap.size w _›)) | exact Below.trans (Below.drew ‹Below w.heap.size w _›) (hb0.mono (by have := Below.size ‹Below w.heap.size w _›; simpa using this)) | exact ((Below.refl w.heap.size w).alloc (Nat.le_refl _) _).trans (hb0.mono (by simp)) | exact (((Below.refl w.heap.size w).alloc (Nat.le_refl _) _).drew).trans (hb0.mono (by simp))); have hz0 : w.heap.size < c0w.heap.size := (by have h := hb0.size; (try simp at h); omega); obtain ⟨ka0, -⟩ := bblk hb0 (b := w.heap.size) (by first | omega | (simp; omega) | (simp; done))) | (go_at_call 78; refine (nodesOfPropertyS d hU D rest _ _ _ HSM.out (by first | exact HLL.out.below ‹Below w.heap.size w _› | exact HLL.out.below (Below.drew ‹Below w.heap.size w _›) | exact HLL.out.below ((Below.refl _ _).alloc (Nat.le_refl _) _) | exact HLL.out.below (((Below.refl _ _).alloc (Nat.le_refl _) _).drew)) HKS.out).mono ?_; rintro e c1w ⟨ao1, cap1, rfl, hcs, hrt, hb1⟩; have HZ1 : Below w.heap.size w c1w := (by first | exact Below.trans ‹Below w.heap.size w _› (hb1.mono (Below.size ‹Below w.heap.size w _›)) | exact Below.trans (Below.drew ‹Below w.heap.size w _›) (hb1.mono (by have := Below.size ‹Below w.heap.size w _›; simpa using this)) | exact ((Below.refl w.heap.size w).alloc (Nat.le_refl _) _).trans (hb1.mono (by simp)) | exact (((Below.refl w.heap.size w).alloc (Nat.le_refl _) _).drew).trans (hb1.mono (by simp))); have hz1 : w.heap.size < c1w.heap.size := (by have h := hb1.size; (try simp at h); omega); obtain ⟨ka1, -⟩ := bblk hb1 (b := w.heap.size) (by first | omega | (simp; omega) | (simp; done))))
  go_wp2_with fail
  go_ret
  exact sep_post (n := .mk 28 t m u (some ⟨b, o, none⟩) _ (x0 :: _)) ptrTy_28 sTy_28 rfl HZ1 rfl rfl _ (by first | omega | (simp; done) | (simp; omega)) (Or.inl ⟨HK0.out, rfl⟩) hcs hrt

set_option maxRecDepth 100000 in
set_option maxHeartbeats 2000000 in
theorem sep_28 (d : Nat) (hU : UnC d) (n : Nd) (D : Nat) (w : World) (hL : LiesD D w n) (hG : PreD (d + 1) n) (hk : n.kind = 28) (hcp : n.cap ≠ 1) (hm : (n.kid 0).kind ≠ 0) :
    Calls Tryz.prog 31 #[n.val] w (SepPost d n w) := by
  obtain ⟨D, rfl⟩ : ∃ E, D = E + 1 := by cases D with | zero => exact hL.elim | succ E => exact ⟨E, rfl⟩
  obtain ⟨k, t, m, u, ao, cap, kids⟩ := n
  obtain rfl : k = 28 := hk
  have hn0 : (Nd.mk 28 t m u ao cap kids).kind ≠ 0 := by show (28 : Int) ≠ 0; decide
  have hn1 : (Nd.mk 28 t m u ao cap kids).kind ≠ 1 := by show (28 : Int) ≠ 1; decide
  have hcap : cap ≠ 1 := hcp
  clear hcp
  have h1 := ((hG.fit hn0).2.2.2.1 hn1)
  have e1 : (fixedL 28).length = 1 := by decide
  simp only [Nd.kind, Nd.kids] at h1
  rw [e1] at h1
  obtain ⟨x0, rest, rfl⟩ : ∃ x r, kids = x :: r := by
    cases kids with
    | nil => simp at h1
    | cons x r => exact ⟨x, r, rfl⟩
  have hroom : rest.length + 1 ≤ cap := by have := hG.room; simpa [Nd.kids, Nd.cap] using this
  obtain ⟨b, o, hao0, p00, p01, p02, p03, p04, hLx0⟩ := kid_cells (j := 0) hL rfl (Below.refl _ _)
  obtain rfl : ao = some ⟨b, o, none⟩ := hao0
  obtain ⟨hP0, hC0⟩ := hG.kid (i := 0) (x := x0) hn0 rfl
  have hk0 : x0.kind = 33 := by
    have h := class_few [33, 0] rfl (hC0 hn1)
    have h2 : x0.kind ≠ 0 := hm
    simp at h; omega
  have hks : ∀ x ∈ rest, GoodD d x ∧ x.kind ∈ ([29] : List Int) := by
    intro x hx
    obtain ⟨i, hi, e⟩ := List.mem_iff_getElem.1 hx
    obtain ⟨hP, hC⟩ := hG.kid (i := i + 1) (x := x) hn0 (by show (x0 :: rest)[i + 1]? = some x; rw [List.getElem?_cons_succ, List.getElem?_eq_getElem hi, e])
    have hC1 := hC hn1
    have e1 : (fixedL 28).getD (i + 1) (restL 28) = restL 28 := by rw [show fixedL 28 = [4] from by decide]; simp
    have hC2 : ofClassB x (restL 28) = true := by rw [← e1]; exact hC1
    have hkx : x.kind ∈ ([29] : List Int) := class_few [29] rfl hC2
    exact ⟨hP.good (by revert hkx; unfold walkL; simp; omega), hkx⟩
  have hsm : rest.length ≤ 1000 := by have := hG.small; simp [Nd.kids] at this; omega
  simp only [Nat.zero_mul, Nat.add_zero] at p00 p01 p02 p03 p04
  have HKS := Lib.hid hks
  have HSM := Lib.hid hsm
  have HLL := Lib.hid (show ListLies D w (some ⟨b, o + 5, none⟩) rest from fun i x hx => by
    obtain ⟨⟨b2, o2, ha, hc⟩, hl⟩ := hL.2 (i + 1) x (by show (x0 :: rest)[i + 1]? = some x; rw [List.getElem?_cons_succ]; exact hx)
    cases ha
    exact ⟨⟨b, o + 5, rfl, by have e : o + (i + 1) * 5 = o + 5 + i * 5 := by omega
                              rw [← e]; exact hc⟩, hl⟩)
  have HG0 := Lib.hid (hP0.good (by rw [hk0]; decide))
  have HK0 := Lib.hid hk0
  have HL0 := Lib.hid hLx0
  have HC0 := Lib.hid (show NdCells w b o x0 from ⟨p00, p01, p02, p03, p04⟩)
  have hblt : b < w.heap.size := World.block_lt_of_cell? _ _ p00
  have hq1 : (1 : Int) ≤ (rest.length : Int) + 1 := by omega
  have hq2 : ¬ cap = 1 := hcap
  have hq3 : ¬ 1 = cap := fun e => hcap e.symm
  clear hn0 hn1 hP0 hC0 hk0 hLx0 hL hG hks hsm h1 e1 hroom hm
  show Calls _ _ #[.agg #[.int .i64 28, .string t, .string m, .int .u64 u, .slice (some ⟨b, o, none⟩) (rest.length + 1) cap]] w _
  go_enter Tryz.func31, Tryz.ntmps31
  go_wp2_with fail
  go_region_held3 (fun w' => (w'.cell? ⟨w.heap.size, 0, none⟩ = some (.int .i64 28) ∧ w'.cell? ⟨w.heap.size, 1, none⟩ = some (.string t) ∧ w'.cell? ⟨w.heap.size, 2, none⟩ = some (.string m) ∧ w'.cell? ⟨w.heap.size, 3, none⟩ = some (.int .u64 u) ∧ w'.cell? ⟨w.heap.size, 4, none⟩ = some (.slice (some ⟨b, o, none⟩) (rest.length + 1) cap))) (go_keep) (first | (go_at_call 74; refine (kid_any _ _ _ _ b o _ _ x0 _ (by omega) (by first | exact HC0.out.below ‹Below w.heap.size w _› HC0.out.lt | exact HC0.out.below (Below.drew ‹Below w.heap.size w _›) HC0.out.lt | exact HC0.out.below ((Below.refl _ _).alloc (Nat.le_refl _) _) HC0.out.lt | exact HC0.out.below (((Below.refl _ _).alloc (Nat.le_refl _) _).drew) HC0.out.lt)).mono ?_; rintro e c7w ⟨rfl, hb7⟩; have HZ7 : Below w.heap.size w c7w := (by first | exact Below.trans ‹Below w.heap.size w _› (hb7.mono (Below.size ‹Below w.heap.size w _›)) | exact Below.trans (Below.drew ‹Below w.heap.size w _›) (hb7.mono (by have := Below.size ‹Below w.heap.size w _›; simpa using this)) | exact ((Below.refl w.heap.size w).alloc (Nat.le_refl _) _).trans (hb7.mono (by simp)) | exact (((Below.refl w.heap.size w).alloc (Nat.le_refl _) _).drew).trans (hb7.mono (by simp))); have hz7 : w.heap.size < c7w.heap.size := (by have h := hb7.size; (try simp at h); omega); obtain ⟨ka7, -⟩ := bblk hb7 (b := w.heap.size) (by first | omega | (simp; omega) | (simp; done))) | (go_at_call 64; refine (maybeIdentifier_some d hU x0 D _ (by first | exact HL0.out.below ‹Below w.heap.size w _› | exact HL0.out.below (Below.drew ‹Below w.heap.size w _›) | exact HL0.out.below ((Below.refl _ _).alloc (Nat.le_refl _) _) | exact HL0.out.below (((Below.refl _ _).alloc (Nat.le_refl _) _).drew)) HG0.out HK0.out).mono ?_; rintro e c0w ⟨b0, rfl, hR0, hb0⟩; have HZ0 : Below w.heap.size w c0w := (by first | exact Below.trans ‹Below w.heap.size w _› (hb0.mono (Below.size ‹Below w.heap.size w _›)) | exact Below.trans (Below.drew ‹Below w.heap.size w _›) (hb0.mono (by have := Below.size ‹Below w.heap.size w _›; simpa using this)) | exact ((Below.refl w.heap.size w).alloc (Nat.le_refl _) _).trans (hb0.mono (by simp)) | exact (((Below.refl w.heap.size w).alloc (Nat.le_refl _) _).drew).trans (hb0.mono (by simp))); have hz0 : w.heap.size < c0w.heap.size := (by have h := hb0.size; (try simp at h); omega); obtain ⟨ka0, -⟩ := bblk hb0 (b := w.heap.size) (by first | omega | (simp; omega) | (simp; done))) | (go_at_call 78; refine (nodesOfPropertyS d hU D rest _ _ _ HSM.out (by first | exact HLL.out.below ‹Below w.heap.size w _› | exact HLL.out.below (Below.drew ‹Below w.heap.size w _›) | exact HLL.out.below ((Below.refl _ _).alloc (Nat.le_refl _) _) | exact HLL.out.below (((Below.refl _ _).alloc (Nat.le_refl _) _).drew)) HKS.out).mono ?_; rintro e c1w ⟨ao1, cap1, rfl, hcs, hrt, hb1⟩; have HZ1 : Below w.heap.size w c1w := (by first | exact Below.trans ‹Below w.heap.size w _› (hb1.mono (Below.size ‹Below w.heap.size w _›)) | exact Below.trans (Below.drew ‹Below w.heap.size w _›) (hb1.mono (by have := Below.size ‹Below w.heap.size w _›; simpa using this)) | exact ((Below.refl w.heap.size w).alloc (Nat.le_refl _) _).trans (hb1.mono (by simp)) | exact (((Below.refl w.heap.size w).alloc (Nat.le_refl _) _).drew).trans (hb1.mono (by simp))); have hz1 : w.heap.size < c1w.heap.size := (by have h := hb1.size; (try simp at h); omega); obtain ⟨ka1, -⟩ := bblk hb1 (b := w.heap.size) (by first | omega | (simp; omega) | (simp; done))))
  go_wp2_with fail
  go_ret
  exact sep_post (n := .mk 28 t m u (some ⟨b, o, none⟩) _ (x0 :: _)) ptrTy_28 sTy_28 rfl HZ1 rfl rfl _ (by first | omega | (simp; done) | (simp; omega)) (Or.inr ⟨(show x0.kind ≠ 0 from (by have h := HK0.out; omega)), b0, rfl, ((hR0.mono (From.le (by first | omega | (simp; omega)))).within.mono (fun c hc => ⟨hc.1, by have := hc.2; first | exact this | (simp; exact this)⟩)).below (by first | exact hb1 | (have h := hb1; simpa using h))⟩) hcs hrt

end Go.Proofs.YtongafghllkomaaGreatDoor
