/-
  nodesOf at each type that a walked tree wants, given unnode's own contract. No conditions.
-/
import Derived.Test.YtongafghllkomaaGreatDoorNodeOf
import Derived.Deep.LoopGhost
import Derived.Deep.AppendLies
namespace Go.Proofs.YtongafghllkomaaGreatDoor
open Go.RowKit
set_option linter.unusedVariables false

/-- Nodes lie in a slice, and what stands in them. -/
def ListLies (D : Nat) (w : World) (ao : Option Addr) (ns : List Nd) : Prop := ∀ (i : Nat) (x : Nd), ns[i]? = some x → (∃ b o, ao = some ⟨b, o, none⟩ ∧ NdCells w b (o + i * 5) x) ∧ LiesD D w x

theorem LiesD.list {D : Nat} {w : World} {n : Nd} (h : LiesD (D + 1) w n) : ListLies D w n.ao n.kids := h.2

theorem ListLies.below {D : Nat} {w w' : World} {ao : Option Addr} {ns : List Nd} (h : ListLies D w ao ns) (hb : Below w.heap.size w w') : ListLies D w' ao ns := by
  intro i x hx
  obtain ⟨⟨b, o, ha, hc⟩, hl⟩ := h i x hx
  exact ⟨⟨b, o, ha, hc.below hb hc.lt⟩, hl.below hb⟩

theorem list_cells {D : Nat} {w wr : World} {ao : Option Addr} {ns : List Nd} {j : Nat} {x : Nd} (hL : ListLies D w ao ns) (hx : ns[j]? = some x) (hB : Below w.heap.size w wr) :
    ∃ b o, ao = some ⟨b, o, none⟩ ∧ wr.cell? ⟨b, o + j * 5, none⟩ = some (.int .i64 x.kind) ∧ wr.cell? ⟨b, o + j * 5 + 1, none⟩ = some (.string x.text) ∧ wr.cell? ⟨b, o + j * 5 + 2, none⟩ = some (.string x.more) ∧ wr.cell? ⟨b, o + j * 5 + 3, none⟩ = some (.int .u64 x.num) ∧ wr.cell? ⟨b, o + j * 5 + 4, none⟩ = some (.slice x.ao x.kids.length x.cap) ∧ LiesD D wr x := by
  obtain ⟨⟨b, o, ha, hc⟩, hl⟩ := hL j x hx
  have h := hc.below hB hc.lt
  exact ⟨b, o, ha, h.1, h.2.1, h.2.2.1, h.2.2.2.1, h.2.2.2.2, hl.below hB⟩

/-- How a value holds a node: by a pointer, or as an interface value. -/
def HeldBy (ptr : Bool) (R : World → Nd → Nat → Prop) (w : World) (n : Nd) (v : Value) : Prop := if ptr then PtrTo R w n v else IfcTo R w n v

theorem HeldBy.imp {ptr : Bool} {R R' : World → Nd → Nat → Prop} {w w' : World} {n : Nd} {v : Value} (h : HeldBy ptr R w n v) (hR : ∀ b, R w n b → R' w' n b) : HeldBy ptr R' w' n v := by
  unfold HeldBy at h ⊢
  cases ptr
  · obtain ⟨b, h1, h2⟩ := h; exact ⟨b, h1, hR b h2⟩
  · obtain ⟨b, h1, h2⟩ := h; exact ⟨b, h1, hR b h2⟩

/-- What the loop of nodesOf has made. -/
def OutOk (ptr : Bool) (E B d : Nat) (ns : List Nd) (j : Nat) (v : Value) (wr : World) : Prop :=
  ∃ xs : List Value, wr.ownsRow B E 1 v j xs ∧ ∀ (i : Nat) (n : Nd) (x : Value), ns[i]? = some n → xs[i]? = some x → HeldBy ptr (RepD (fun b => B ≤ b ∧ some b ≠ v.ownBlock) d) wr n x

theorem OutOk.start (ptr : Bool) (E B d : Nat) (ns : List Nd) (w : World) : OutOk ptr E B d ns 0 (.slice none 0 0) w := ⟨[], ⟨rfl, Or.inl ⟨rfl, rfl⟩⟩, by intro i n x _ h; simp at h⟩

theorem OutOk.below {ptr : Bool} {E B d : Nat} {ns : List Nd} {j : Nat} {v : Value} {w w' : World} (h : OutOk ptr E B d ns j v w) (hb : Below w.heap.size w w') : OutOk ptr E B d ns j v w' := by
  obtain ⟨xs, h1, h2⟩ := h
  refine ⟨xs, h1.kept ⟨hb.os, hb.tape, hb.output, hb.size, fun i hi _ => hb.block i hi⟩ (row := none) ?_, fun i n x hn hx => (h2 i n x hn hx).imp fun b hr => hr.below hb⟩
  cases hv : v.ownBlock with
  | none => exact Or.inl rfl
  | some g => exact Or.inr (by simp)

/-- One append more. -/
theorem OutOk.next {ptr : Bool} {E B d : Nat} {ns : List Nd} {j : Nat} {v v' x : Value} {w1 w2 : World} {ob : Obj} {g cap : Nat} {n : Nd} (h : OutOk ptr E B d ns j v w1) (hn : ns[j]? = some n) (hx : HeldBy ptr (RepD (fun b => B ≤ b ∧ some b ≠ v.ownBlock) d) w1 n x)
    (hown : ∀ xs, (w1.alloc ob).ownsRow B E 1 v j xs → w2.ownsRow B E 1 v' (j + 1) (xs ++ [x])) (hv' : v' = .slice (some ⟨g, 0, none⟩) (j + 1) cap) (hg : (w1.alloc ob).grownBy w2 v.ownBlock) (hat : v.ownBlock = some g ∨ g = (w1.alloc ob).heap.size) : OutOk ptr E B d ns (j + 1) v' w2 := by
  obtain ⟨xs, h1, h2⟩ := h
  have hlen : xs.length = j := by have := h1.1; omega
  have hcar : Carries (fun b => B ≤ b ∧ some b ≠ v.ownBlock) (fun b => B ≤ b ∧ some b ≠ v'.ownBlock) w1 w2 := by
    intro b o hA hb
    have hlt : b < w1.heap.size := (Array.getElem?_eq_some_iff.1 hb).1
    have hb1 : (w1.alloc ob).heap[b]? = some o := by rw [heap_alloc_old _ _ hlt]; exact hb
    refine ⟨(hg.block b (by simp; omega) hA.2).trans hb1, hA.1, ?_⟩
    rw [hv']
    simp only [Value.ownBlock]
    rcases hat with h | h
    · rw [← h]; exact hA.2
    · intro e; cases e; simp at h; omega
  refine ⟨xs ++ [x], hown xs (h1.alloc ob), fun i m y hm hy => ?_⟩
  by_cases hi : i < j
  · rw [List.getElem?_append_left (by omega)] at hy
    exact (h2 i m y hm hy).imp fun b hr => hr.carry hcar
  · have hil := (List.getElem?_eq_some_iff.1 hy).1
    simp at hil
    obtain rfl : i = j := by omega
    rw [List.getElem?_append_right (by omega), hlen] at hy
    simp at hy
    subst hy
    rw [hn] at hm; cases hm
    exact hx.imp fun b hr => hr.carry hcar

theorem OutOk.done {ptr : Bool} {E B d : Nat} {ns : List Nd} {v : Value} {w : World} (h : OutOk ptr E B d ns ns.length v w) :
    CellsAre (From B) w v ns.length 1 (fun i cur => ∀ n, ns[i]? = some n → ∃ x, cur[i]? = some x ∧ HeldBy ptr (RepD (From B) d) w n x) := by
  obtain ⟨xs, h1, h2⟩ := h
  have hl := h1.1
  rcases h1.2 with ⟨rfl, h0⟩ | ⟨g, cap, cur, rfl, hB, hg, hc1, hc2, hc3, hc4⟩
  · exact Or.inl ⟨h0, rfl⟩
  · refine Or.inr ⟨g, cap, cur, E, hB, rfl, hg, hc1, hc2, hc3, fun i hi n hn => ?_⟩
    obtain ⟨y, hx⟩ : ∃ y, xs[i]? = some y := ⟨xs[i]'(by omega), List.getElem?_eq_getElem _⟩
    refine ⟨y, ?_, (h2 i n _ hn hx).imp fun b hr => hr.mono fun _ hb => hb.1⟩
    rw [← hc4] at hx
    rw [List.getElem?_take] at hx
    split at hx
    · simpa using hx
    · cases hx

/-- A list of the package's nodes is handed back. -/
def ListPost (ptr : Bool) (d : Nat) (ns : List Nd) (w : World) (e : Ending) (w' : World) : Prop :=
  ∃ ao cap, e = .returned (.slice ao ns.length cap) ∧ CellsAre (From w.heap.size) w' (.slice ao ns.length cap) ns.length 1 (fun i cur => ∀ n, ns[i]? = some n → ∃ x, cur[i]? = some x ∧ HeldBy ptr (RepD (From w.heap.size) d) w' n x) ∧ Below w.heap.size w w'

theorem OutOk.shape {ptr : Bool} {E B d : Nat} {ns : List Nd} {j : Nat} {v : Value} {w : World} (h : OutOk ptr E B d ns j v w) : ∃ ao cap, v = .slice ao j cap := by
  obtain ⟨xs, h1, _⟩ := h
  rcases h1.2 with ⟨rfl, h0⟩ | ⟨g, cap, cur, rfl, _⟩
  · exact ⟨none, 0, by rw [h0]⟩
  · exact ⟨_, cap, rfl⟩

theorem infoImportDeclaration : (Tryz.prog.info? 104).map (fun i => (i.zero, i.size, i.bytes)) = some (some (.pointer none), 1, 8) := by kernel_rfl
theorem undImportDeclaration : Tryz.prog.underlying 102 = some (.slice 104) := by kernel_rfl

set_option maxRecDepth 100000 in
set_option maxHeartbeats 1000000 in
theorem nodesOfImportDeclaration (d : Nat) (hU : UnC d) (D : Nat) (ns : List Nd) (ao : Option Addr) (cap : Nat) (w : World) (hlen4 : ns.length ≤ 1000) (hL : ListLies D w ao ns) (hk : ∀ x ∈ ns, GoodD d x ∧ x.kind ∈ ([5] : List Int)) :
    Calls Tryz.prog 60 #[.slice ao ns.length cap] w (ListPost true d ns w) := by
  obtain ⟨len, hlen⟩ : ∃ len, ns.length = len := ⟨_, rfl⟩
  rw [hlen] at hlen4 ⊢
  obtain ⟨i0, hi, hz0, hz1, hz2⟩ := info_parts infoImportDeclaration
  have HN := Lib.hid hlen
  have HL := Lib.hid hL
  have HK := Lib.hid hk
  clear hlen hL hk
  go_enter Tryz.func60, Tryz.ntmps60
  go_wp2_with fail
  go_loopg [3, 8] len (fun gk out i wr => ∃ (j : Nat) (ao' : Option Addr) (cap' : Nat), j ≤ len ∧ gk = len - j ∧ i = .int .i64 (j : Int) ∧ out = .slice ao' j cap' ∧ Hid (OutOk true 104 w.heap.size d ns j (.slice ao' j cap') wr) ∧ Hid (Below w.heap.size w wr))
  case atStart => exact ⟨0, none, 0, by omega, by omega, rfl, rfl, Lib.hid (OutOk.start _ _ _ _ _ _), Lib.hid (Below.refl _ _)⟩
  case round =>
    obtain ⟨j, ao', cap', hj, rfl, rfl, rfl, hO, hB⟩ := hrel
    by_cases hjn : j < len
    · have hjz : (j : Int) < (len : Int) := by omega
      obtain ⟨x, hx⟩ : ∃ x, ns[j]? = some x := ⟨ns[j]'(by have := HN.out; omega), List.getElem?_eq_getElem _⟩
      obtain ⟨b, o, hao, c0, c1, c2, c3, c4, hLx⟩ := list_cells HL.out hx hB.out
      obtain rfl : ao = some ⟨b, o, none⟩ := hao
      have HX := Lib.hid hx
      have HLX := Lib.hid hLx
      clear hx hLx
      go_wp2_with fail
      refine (nodeOf_5 d hU x D _ (HLX.out.below ((Below.refl _ _).alloc (Nat.le_refl _) _)) (HK.out x (List.mem_of_getElem? HX.out)).1 (by have := (HK.out x (List.mem_of_getElem? HX.out)).2; simpa using this)).mono ?_
      rintro e w1 ⟨b1, rfl, hR, hb1⟩
      have HB1 := Lib.hid (((Below.refl wr.heap.size wr).alloc (Nat.le_refl _) _).trans (hb1.mono (by simp)))
      have HO1 := Lib.hid (hO.out.below HB1.out)
      have HR := Lib.hid (hR.mono (From.le (show wr.heap.size ≤ _ by simp)))
      have HBw := Lib.hid (hB.out.trans (HB1.out.mono hB.out.size))
      have hBs : w.heap.size ≤ w1.heap.size := HBw.out.size
      have hlt : ∀ g, (Value.slice ao' j cap').ownBlock = some g → g < wr.heap.size := by
        intro g hg
        obtain ⟨xs, h1, _⟩ := hO.out
        exact (World.ownsRow.lt h1 g hg).2
      have HLT := Lib.hid hlt
      have HXX : Hid (HeldBy true (RepD (fun b => w.heap.size ≤ b ∧ some b ≠ (Value.slice ao' j cap').ownBlock) d) w1 x (.pointer (some ⟨b1, 0, none⟩))) := Lib.hid ⟨b1, rfl, HR.out.mono fun b hb => ⟨Nat.le_trans hB.out.size hb, fun e => by have := HLT.out b e.symm; unfold From at hb; omega⟩⟩
      obtain ⟨xs, hown, -⟩ := HO1.out
      have HOW := Lib.hid (hown.alloc (.cells #[.pointer (some ⟨b1, 0, none⟩)] 104))
      have HOL := Lib.hid hown.1
      clear hR hb1 hlt hown
      go_wp2_with (at_builtin; refine wpList_append_lies _ rfl _ _ 102 rfl w.heap.size 104 i0 (.pointer none) 1 8 undImportDeclaration hi hz0 hz1 hz2 rfl (by decide) _ _ _ rfl HOW.out ⟨w1.heap.size, 0, none⟩ 1 1 [.pointer (some ⟨b1, 0, none⟩)] rfl rfl ?c1 ?c2 (by decide) ?c3 ?c4 ?c5 _ rfl ?_)
      case c1 => exact cell_one_new _ _ _
      case c2 => intro u hu; simp at hu; subst hu; rfl
      case c3 => unfold maxLen; omega
      case c4 => omega
      case c5 => simp; omega
      intro g cap2 w2 hown' hgrow hat hglt
      have HO2 : Hid (OutOk true 104 w.heap.size d ns (j + 1) (.slice (some ⟨g, 0, none⟩) (j + 1) cap2) w2) := by
        refine Lib.hid (OutOk.next HO1.out HX.out HXX.out (fun ys hys => ?_) rfl hgrow (hat.imp id (fun h => by simpa using h)))
        have hxy : ys = xs := by
          rcases hys.2 with ⟨hv, h0⟩ | ⟨g1, c1, cur1, hv, _, hg1, _, _, _, ht1⟩
          · have e1 := hys.1; have e2 := HOL.out
            rw [h0] at e1 e2
            simp at e1 e2
            rw [e1, e2]
          · rcases HOW.out.2 with ⟨hv2, h0⟩ | ⟨g3, c3, cur3, hv3, _, hg3, _, _, _, ht3⟩
            · rw [hv] at hv2; cases hv2
            · rw [hv] at hv3; cases hv3
              rw [hg1] at hg3; cases hg3
              rw [← ht1, ← ht3]
        rw [hxy]; exact hown'
      have HB2 := Lib.hid ((HBw.out.alloc hBs _).grown hgrow (by simp; omega) (by
        intro k hk
        obtain ⟨ys, h1, _⟩ := HO1.out
        rcases h1.2 with ⟨hv, _⟩ | ⟨g1, c1, cur1, hv, hBg, _⟩
        · rw [hv] at hk; simp [Value.ownBlock] at hk
        · rw [hv] at hk; simp [Value.ownBlock] at hk; omega))
      clear hown' hgrow hat
      go_wp2_with fail
      go_roundg (len - (j + 1))
      case measure => omega
      case rel => exact ⟨j + 1, some ⟨g, 0, none⟩, cap2, by omega, rfl, by push_cast; rfl, rfl, HO2, HB2⟩
    · have hjz : ¬ (j : Int) < (len : Int) := by omega
      obtain rfl : j = len := by omega
      go_wp2_with fail
      go_ret
      unfold ListPost
      have hl := HN.out
      have hO2 := hO.out
      rw [← hl] at hO2 ⊢
      exact ⟨_, _, rfl, hO2.done, hB.out⟩

theorem infoProperty : (Tryz.prog.info? 185).map (fun i => (i.zero, i.size, i.bytes)) = some (some (.pointer none), 1, 8) := by kernel_rfl
theorem undProperty : Tryz.prog.underlying 183 = some (.slice 185) := by kernel_rfl

set_option maxRecDepth 100000 in
set_option maxHeartbeats 1000000 in
theorem nodesOfProperty (d : Nat) (hU : UnC d) (D : Nat) (ns : List Nd) (ao : Option Addr) (cap : Nat) (w : World) (hlen4 : ns.length ≤ 1000) (hL : ListLies D w ao ns) (hk : ∀ x ∈ ns, GoodD d x ∧ x.kind ∈ ([29] : List Int)) :
    Calls Tryz.prog 78 #[.slice ao ns.length cap] w (ListPost true d ns w) := by
  obtain ⟨len, hlen⟩ : ∃ len, ns.length = len := ⟨_, rfl⟩
  rw [hlen] at hlen4 ⊢
  obtain ⟨i0, hi, hz0, hz1, hz2⟩ := info_parts infoProperty
  have HN := Lib.hid hlen
  have HL := Lib.hid hL
  have HK := Lib.hid hk
  clear hlen hL hk
  go_enter Tryz.func78, Tryz.ntmps78
  go_wp2_with fail
  go_loopg [3, 8] len (fun gk out i wr => ∃ (j : Nat) (ao' : Option Addr) (cap' : Nat), j ≤ len ∧ gk = len - j ∧ i = .int .i64 (j : Int) ∧ out = .slice ao' j cap' ∧ Hid (OutOk true 185 w.heap.size d ns j (.slice ao' j cap') wr) ∧ Hid (Below w.heap.size w wr))
  case atStart => exact ⟨0, none, 0, by omega, by omega, rfl, rfl, Lib.hid (OutOk.start _ _ _ _ _ _), Lib.hid (Below.refl _ _)⟩
  case round =>
    obtain ⟨j, ao', cap', hj, rfl, rfl, rfl, hO, hB⟩ := hrel
    by_cases hjn : j < len
    · have hjz : (j : Int) < (len : Int) := by omega
      obtain ⟨x, hx⟩ : ∃ x, ns[j]? = some x := ⟨ns[j]'(by have := HN.out; omega), List.getElem?_eq_getElem _⟩
      obtain ⟨b, o, hao, c0, c1, c2, c3, c4, hLx⟩ := list_cells HL.out hx hB.out
      obtain rfl : ao = some ⟨b, o, none⟩ := hao
      have HX := Lib.hid hx
      have HLX := Lib.hid hLx
      clear hx hLx
      go_wp2_with fail
      refine (nodeOf_29 d hU x D _ (HLX.out.below ((Below.refl _ _).alloc (Nat.le_refl _) _)) (HK.out x (List.mem_of_getElem? HX.out)).1 (by have := (HK.out x (List.mem_of_getElem? HX.out)).2; simpa using this)).mono ?_
      rintro e w1 ⟨b1, rfl, hR, hb1⟩
      have HB1 := Lib.hid (((Below.refl wr.heap.size wr).alloc (Nat.le_refl _) _).trans (hb1.mono (by simp)))
      have HO1 := Lib.hid (hO.out.below HB1.out)
      have HR := Lib.hid (hR.mono (From.le (show wr.heap.size ≤ _ by simp)))
      have HBw := Lib.hid (hB.out.trans (HB1.out.mono hB.out.size))
      have hBs : w.heap.size ≤ w1.heap.size := HBw.out.size
      have hlt : ∀ g, (Value.slice ao' j cap').ownBlock = some g → g < wr.heap.size := by
        intro g hg
        obtain ⟨xs, h1, _⟩ := hO.out
        exact (World.ownsRow.lt h1 g hg).2
      have HLT := Lib.hid hlt
      have HXX : Hid (HeldBy true (RepD (fun b => w.heap.size ≤ b ∧ some b ≠ (Value.slice ao' j cap').ownBlock) d) w1 x (.pointer (some ⟨b1, 0, none⟩))) := Lib.hid ⟨b1, rfl, HR.out.mono fun b hb => ⟨Nat.le_trans hB.out.size hb, fun e => by have := HLT.out b e.symm; unfold From at hb; omega⟩⟩
      obtain ⟨xs, hown, -⟩ := HO1.out
      have HOW := Lib.hid (hown.alloc (.cells #[.pointer (some ⟨b1, 0, none⟩)] 185))
      have HOL := Lib.hid hown.1
      clear hR hb1 hlt hown
      go_wp2_with (at_builtin; refine wpList_append_lies _ rfl _ _ 183 rfl w.heap.size 185 i0 (.pointer none) 1 8 undProperty hi hz0 hz1 hz2 rfl (by decide) _ _ _ rfl HOW.out ⟨w1.heap.size, 0, none⟩ 1 1 [.pointer (some ⟨b1, 0, none⟩)] rfl rfl ?c1 ?c2 (by decide) ?c3 ?c4 ?c5 _ rfl ?_)
      case c1 => exact cell_one_new _ _ _
      case c2 => intro u hu; simp at hu; subst hu; rfl
      case c3 => unfold maxLen; omega
      case c4 => omega
      case c5 => simp; omega
      intro g cap2 w2 hown' hgrow hat hglt
      have HO2 : Hid (OutOk true 185 w.heap.size d ns (j + 1) (.slice (some ⟨g, 0, none⟩) (j + 1) cap2) w2) := by
        refine Lib.hid (OutOk.next HO1.out HX.out HXX.out (fun ys hys => ?_) rfl hgrow (hat.imp id (fun h => by simpa using h)))
        have hxy : ys = xs := by
          rcases hys.2 with ⟨hv, h0⟩ | ⟨g1, c1, cur1, hv, _, hg1, _, _, _, ht1⟩
          · have e1 := hys.1; have e2 := HOL.out
            rw [h0] at e1 e2
            simp at e1 e2
            rw [e1, e2]
          · rcases HOW.out.2 with ⟨hv2, h0⟩ | ⟨g3, c3, cur3, hv3, _, hg3, _, _, _, ht3⟩
            · rw [hv] at hv2; cases hv2
            · rw [hv] at hv3; cases hv3
              rw [hg1] at hg3; cases hg3
              rw [← ht1, ← ht3]
        rw [hxy]; exact hown'
      have HB2 := Lib.hid ((HBw.out.alloc hBs _).grown hgrow (by simp; omega) (by
        intro k hk
        obtain ⟨ys, h1, _⟩ := HO1.out
        rcases h1.2 with ⟨hv, _⟩ | ⟨g1, c1, cur1, hv, hBg, _⟩
        · rw [hv] at hk; simp [Value.ownBlock] at hk
        · rw [hv] at hk; simp [Value.ownBlock] at hk; omega))
      clear hown' hgrow hat
      go_wp2_with fail
      go_roundg (len - (j + 1))
      case measure => omega
      case rel => exact ⟨j + 1, some ⟨g, 0, none⟩, cap2, by omega, rfl, by push_cast; rfl, rfl, HO2, HB2⟩
    · have hjz : ¬ (j : Int) < (len : Int) := by omega
      obtain rfl : j = len := by omega
      go_wp2_with fail
      go_ret
      unfold ListPost
      have hl := HN.out
      have hO2 := hO.out
      rw [← hl] at hO2 ⊢
      exact ⟨_, _, rfl, hO2.done, hB.out⟩

theorem infoStatement : (Tryz.prog.info? 108).map (fun i => (i.zero, i.size, i.bytes)) = some (some (.nilIface), 1, 16) := by kernel_rfl
theorem undStatement : Tryz.prog.underlying 105 = some (.slice 108) := by kernel_rfl

set_option maxRecDepth 100000 in
set_option maxHeartbeats 1000000 in
theorem nodesOfStatement (d : Nat) (hU : UnC d) (D : Nat) (ns : List Nd) (ao : Option Addr) (cap : Nat) (w : World) (hlen4 : ns.length ≤ 1000) (hL : ListLies D w ao ns) (hk : ∀ x ∈ ns, GoodD d x ∧ x.kind ∈ ([7, 8, 9, 10, 11, 12, 14, 15] : List Int)) :
    Calls Tryz.prog 61 #[.slice ao ns.length cap] w (ListPost false d ns w) := by
  obtain ⟨len, hlen⟩ : ∃ len, ns.length = len := ⟨_, rfl⟩
  rw [hlen] at hlen4 ⊢
  obtain ⟨i0, hi, hz0, hz1, hz2⟩ := info_parts infoStatement
  have HN := Lib.hid hlen
  have HL := Lib.hid hL
  have HK := Lib.hid hk
  clear hlen hL hk
  go_enter Tryz.func61, Tryz.ntmps61
  go_wp2_with fail
  go_loopg [3, 8] len (fun gk out i wr => ∃ (j : Nat) (ao' : Option Addr) (cap' : Nat), j ≤ len ∧ gk = len - j ∧ i = .int .i64 (j : Int) ∧ out = .slice ao' j cap' ∧ Hid (OutOk false 108 w.heap.size d ns j (.slice ao' j cap') wr) ∧ Hid (Below w.heap.size w wr))
  case atStart => exact ⟨0, none, 0, by omega, by omega, rfl, rfl, Lib.hid (OutOk.start _ _ _ _ _ _), Lib.hid (Below.refl _ _)⟩
  case round =>
    obtain ⟨j, ao', cap', hj, rfl, rfl, rfl, hO, hB⟩ := hrel
    by_cases hjn : j < len
    · have hjz : (j : Int) < (len : Int) := by omega
      obtain ⟨x, hx⟩ : ∃ x, ns[j]? = some x := ⟨ns[j]'(by have := HN.out; omega), List.getElem?_eq_getElem _⟩
      obtain ⟨b, o, hao, c0, c1, c2, c3, c4, hLx⟩ := list_cells HL.out hx hB.out
      obtain rfl : ao = some ⟨b, o, none⟩ := hao
      have HX := Lib.hid hx
      have HLX := Lib.hid hLx
      clear hx hLx
      go_wp2_with fail
      refine (nodeOfStatement d hU x D _ (HLX.out.below ((Below.refl _ _).alloc (Nat.le_refl _) _)) (HK.out x (List.mem_of_getElem? HX.out)).1 ((HK.out x (List.mem_of_getElem? HX.out)).2)).mono ?_
      rintro e w1 ⟨b1, rfl, hR, hb1⟩
      have HB1 := Lib.hid (((Below.refl wr.heap.size wr).alloc (Nat.le_refl _) _).trans (hb1.mono (by simp)))
      have HO1 := Lib.hid (hO.out.below HB1.out)
      have HR := Lib.hid (hR.mono (From.le (show wr.heap.size ≤ _ by simp)))
      have HBw := Lib.hid (hB.out.trans (HB1.out.mono hB.out.size))
      have hBs : w.heap.size ≤ w1.heap.size := HBw.out.size
      have hlt : ∀ g, (Value.slice ao' j cap').ownBlock = some g → g < wr.heap.size := by
        intro g hg
        obtain ⟨xs, h1, _⟩ := hO.out
        exact (World.ownsRow.lt h1 g hg).2
      have HLT := Lib.hid hlt
      have HXX : Hid (HeldBy false (RepD (fun b => w.heap.size ≤ b ∧ some b ≠ (Value.slice ao' j cap').ownBlock) d) w1 x (.iface (pTy x.kind) (.pointer (some ⟨b1, 0, none⟩)))) := Lib.hid ⟨b1, rfl, HR.out.mono fun b hb => ⟨Nat.le_trans hB.out.size hb, fun e => by have := HLT.out b e.symm; unfold From at hb; omega⟩⟩
      obtain ⟨xs, hown, -⟩ := HO1.out
      have HOW := Lib.hid (hown.alloc (.cells #[.iface (pTy x.kind) (.pointer (some ⟨b1, 0, none⟩))] 108))
      have HOL := Lib.hid hown.1
      clear hR hb1 hlt hown
      go_wp2_with (at_builtin; refine wpList_append_lies _ rfl _ _ 105 rfl w.heap.size 108 i0 (.nilIface) 1 16 undStatement hi hz0 hz1 hz2 rfl (by decide) _ _ _ rfl HOW.out ⟨w1.heap.size, 0, none⟩ 1 1 [.iface (pTy x.kind) (.pointer (some ⟨b1, 0, none⟩))] rfl rfl ?c1 ?c2 (by decide) ?c3 ?c4 ?c5 _ rfl ?_)
      case c1 => exact cell_one_new _ _ _
      case c2 => intro u hu; simp at hu; subst hu; rfl
      case c3 => unfold maxLen; omega
      case c4 => omega
      case c5 => simp; omega
      intro g cap2 w2 hown' hgrow hat hglt
      have HO2 : Hid (OutOk false 108 w.heap.size d ns (j + 1) (.slice (some ⟨g, 0, none⟩) (j + 1) cap2) w2) := by
        refine Lib.hid (OutOk.next HO1.out HX.out HXX.out (fun ys hys => ?_) rfl hgrow (hat.imp id (fun h => by simpa using h)))
        have hxy : ys = xs := by
          rcases hys.2 with ⟨hv, h0⟩ | ⟨g1, c1, cur1, hv, _, hg1, _, _, _, ht1⟩
          · have e1 := hys.1; have e2 := HOL.out
            rw [h0] at e1 e2
            simp at e1 e2
            rw [e1, e2]
          · rcases HOW.out.2 with ⟨hv2, h0⟩ | ⟨g3, c3, cur3, hv3, _, hg3, _, _, _, ht3⟩
            · rw [hv] at hv2; cases hv2
            · rw [hv] at hv3; cases hv3
              rw [hg1] at hg3; cases hg3
              rw [← ht1, ← ht3]
        rw [hxy]; exact hown'
      have HB2 := Lib.hid ((HBw.out.alloc hBs _).grown hgrow (by simp; omega) (by
        intro k hk
        obtain ⟨ys, h1, _⟩ := HO1.out
        rcases h1.2 with ⟨hv, _⟩ | ⟨g1, c1, cur1, hv, hBg, _⟩
        · rw [hv] at hk; simp [Value.ownBlock] at hk
        · rw [hv] at hk; simp [Value.ownBlock] at hk; omega))
      clear hown' hgrow hat
      go_wp2_with fail
      go_roundg (len - (j + 1))
      case measure => omega
      case rel => exact ⟨j + 1, some ⟨g, 0, none⟩, cap2, by omega, rfl, by push_cast; rfl, rfl, HO2, HB2⟩
    · have hjz : ¬ (j : Int) < (len : Int) := by omega
      obtain rfl : j = len := by omega
      go_wp2_with fail
      go_ret
      unfold ListPost
      have hl := HN.out
      have hO2 := hO.out
      rw [← hl] at hO2 ⊢
      exact ⟨_, _, rfl, hO2.done, hB.out⟩

theorem infoExpression : (Tryz.prog.info? 87).map (fun i => (i.zero, i.size, i.bytes)) = some (some (.nilIface), 1, 16) := by kernel_rfl
theorem undExpression : Tryz.prog.underlying 166 = some (.slice 87) := by kernel_rfl

set_option maxRecDepth 100000 in
set_option maxHeartbeats 1000000 in
theorem nodesOfExpression (d : Nat) (hU : UnC d) (D : Nat) (ns : List Nd) (ao : Option Addr) (cap : Nat) (w : World) (hlen4 : ns.length ≤ 1000) (hL : ListLies D w ao ns) (hk : ∀ x ∈ ns, GoodD d x ∧ x.kind ∈ ([16, 17, 18, 19, 20, 21, 22, 23, 24, 25, 26, 27, 28, 30, 33, 34, 35, 36, 37, 38, 39, 41, 42, 43] : List Int)) :
    Calls Tryz.prog 75 #[.slice ao ns.length cap] w (ListPost false d ns w) := by
  obtain ⟨len, hlen⟩ : ∃ len, ns.length = len := ⟨_, rfl⟩
  rw [hlen] at hlen4 ⊢
  obtain ⟨i0, hi, hz0, hz1, hz2⟩ := info_parts infoExpression
  have HN := Lib.hid hlen
  have HL := Lib.hid hL
  have HK := Lib.hid hk
  clear hlen hL hk
  go_enter Tryz.func75, Tryz.ntmps75
  go_wp2_with fail
  go_loopg [3, 8] len (fun gk out i wr => ∃ (j : Nat) (ao' : Option Addr) (cap' : Nat), j ≤ len ∧ gk = len - j ∧ i = .int .i64 (j : Int) ∧ out = .slice ao' j cap' ∧ Hid (OutOk false 87 w.heap.size d ns j (.slice ao' j cap') wr) ∧ Hid (Below w.heap.size w wr))
  case atStart => exact ⟨0, none, 0, by omega, by omega, rfl, rfl, Lib.hid (OutOk.start _ _ _ _ _ _), Lib.hid (Below.refl _ _)⟩
  case round =>
    obtain ⟨j, ao', cap', hj, rfl, rfl, rfl, hO, hB⟩ := hrel
    by_cases hjn : j < len
    · have hjz : (j : Int) < (len : Int) := by omega
      obtain ⟨x, hx⟩ : ∃ x, ns[j]? = some x := ⟨ns[j]'(by have := HN.out; omega), List.getElem?_eq_getElem _⟩
      obtain ⟨b, o, hao, c0, c1, c2, c3, c4, hLx⟩ := list_cells HL.out hx hB.out
      obtain rfl : ao = some ⟨b, o, none⟩ := hao
      have HX := Lib.hid hx
      have HLX := Lib.hid hLx
      clear hx hLx
      go_wp2_with fail
      refine (nodeOfExpression d hU x D _ (HLX.out.below ((Below.refl _ _).alloc (Nat.le_refl _) _)) (HK.out x (List.mem_of_getElem? HX.out)).1 ((HK.out x (List.mem_of_getElem? HX.out)).2)).mono ?_
      rintro e w1 ⟨b1, rfl, hR, hb1⟩
      have HB1 := Lib.hid (((Below.refl wr.heap.size wr).alloc (Nat.le_refl _) _).trans (hb1.mono (by simp)))
      have HO1 := Lib.hid (hO.out.below HB1.out)
      have HR := Lib.hid (hR.mono (From.le (show wr.heap.size ≤ _ by simp)))
      have HBw := Lib.hid (hB.out.trans (HB1.out.mono hB.out.size))
      have hBs : w.heap.size ≤ w1.heap.size := HBw.out.size
      have hlt : ∀ g, (Value.slice ao' j cap').ownBlock = some g → g < wr.heap.size := by
        intro g hg
        obtain ⟨xs, h1, _⟩ := hO.out
        exact (World.ownsRow.lt h1 g hg).2
      have HLT := Lib.hid hlt
      have HXX : Hid (HeldBy false (RepD (fun b => w.heap.size ≤ b ∧ some b ≠ (Value.slice ao' j cap').ownBlock) d) w1 x (.iface (pTy x.kind) (.pointer (some ⟨b1, 0, none⟩)))) := Lib.hid ⟨b1, rfl, HR.out.mono fun b hb => ⟨Nat.le_trans hB.out.size hb, fun e => by have := HLT.out b e.symm; unfold From at hb; omega⟩⟩
      obtain ⟨xs, hown, -⟩ := HO1.out
      have HOW := Lib.hid (hown.alloc (.cells #[.iface (pTy x.kind) (.pointer (some ⟨b1, 0, none⟩))] 87))
      have HOL := Lib.hid hown.1
      clear hR hb1 hlt hown
      go_wp2_with (at_builtin; refine wpList_append_lies _ rfl _ _ 166 rfl w.heap.size 87 i0 (.nilIface) 1 16 undExpression hi hz0 hz1 hz2 rfl (by decide) _ _ _ rfl HOW.out ⟨w1.heap.size, 0, none⟩ 1 1 [.iface (pTy x.kind) (.pointer (some ⟨b1, 0, none⟩))] rfl rfl ?c1 ?c2 (by decide) ?c3 ?c4 ?c5 _ rfl ?_)
      case c1 => exact cell_one_new _ _ _
      case c2 => intro u hu; simp at hu; subst hu; rfl
      case c3 => unfold maxLen; omega
      case c4 => omega
      case c5 => simp; omega
      intro g cap2 w2 hown' hgrow hat hglt
      have HO2 : Hid (OutOk false 87 w.heap.size d ns (j + 1) (.slice (some ⟨g, 0, none⟩) (j + 1) cap2) w2) := by
        refine Lib.hid (OutOk.next HO1.out HX.out HXX.out (fun ys hys => ?_) rfl hgrow (hat.imp id (fun h => by simpa using h)))
        have hxy : ys = xs := by
          rcases hys.2 with ⟨hv, h0⟩ | ⟨g1, c1, cur1, hv, _, hg1, _, _, _, ht1⟩
          · have e1 := hys.1; have e2 := HOL.out
            rw [h0] at e1 e2
            simp at e1 e2
            rw [e1, e2]
          · rcases HOW.out.2 with ⟨hv2, h0⟩ | ⟨g3, c3, cur3, hv3, _, hg3, _, _, _, ht3⟩
            · rw [hv] at hv2; cases hv2
            · rw [hv] at hv3; cases hv3
              rw [hg1] at hg3; cases hg3
              rw [← ht1, ← ht3]
        rw [hxy]; exact hown'
      have HB2 := Lib.hid ((HBw.out.alloc hBs _).grown hgrow (by simp; omega) (by
        intro k hk
        obtain ⟨ys, h1, _⟩ := HO1.out
        rcases h1.2 with ⟨hv, _⟩ | ⟨g1, c1, cur1, hv, hBg, _⟩
        · rw [hv] at hk; simp [Value.ownBlock] at hk
        · rw [hv] at hk; simp [Value.ownBlock] at hk; omega))
      clear hown' hgrow hat
      go_wp2_with fail
      go_roundg (len - (j + 1))
      case measure => omega
      case rel => exact ⟨j + 1, some ⟨g, 0, none⟩, cap2, by omega, rfl, by push_cast; rfl, rfl, HO2, HB2⟩
    · have hjz : ¬ (j : Int) < (len : Int) := by omega
      obtain rfl : j = len := by omega
      go_wp2_with fail
      go_ret
      unfold ListPost
      have hl := HN.out
      have hO2 := hO.out
      rw [← hl] at hO2 ⊢
      exact ⟨_, _, rfl, hO2.done, hB.out⟩

theorem infoStringExpressionPart : (Tryz.prog.info? 225).map (fun i => (i.zero, i.size, i.bytes)) = some (some (.nilIface), 1, 16) := by kernel_rfl
theorem undStringExpressionPart : Tryz.prog.underlying 222 = some (.slice 225) := by kernel_rfl

set_option maxRecDepth 100000 in
set_option maxHeartbeats 1000000 in
theorem nodesOfStringExpressionPart (d : Nat) (hU : UnC d) (D : Nat) (ns : List Nd) (ao : Option Addr) (cap : Nat) (w : World) (hlen4 : ns.length ≤ 1000) (hL : ListLies D w ao ns) (hk : ∀ x ∈ ns, GoodD d x ∧ x.kind ∈ ([31, 32] : List Int)) :
    Calls Tryz.prog 81 #[.slice ao ns.length cap] w (ListPost false d ns w) := by
  obtain ⟨len, hlen⟩ : ∃ len, ns.length = len := ⟨_, rfl⟩
  rw [hlen] at hlen4 ⊢
  obtain ⟨i0, hi, hz0, hz1, hz2⟩ := info_parts infoStringExpressionPart
  have HN := Lib.hid hlen
  have HL := Lib.hid hL
  have HK := Lib.hid hk
  clear hlen hL hk
  go_enter Tryz.func81, Tryz.ntmps81
  go_wp2_with fail
  go_loopg [3, 8] len (fun gk out i wr => ∃ (j : Nat) (ao' : Option Addr) (cap' : Nat), j ≤ len ∧ gk = len - j ∧ i = .int .i64 (j : Int) ∧ out = .slice ao' j cap' ∧ Hid (OutOk false 225 w.heap.size d ns j (.slice ao' j cap') wr) ∧ Hid (Below w.heap.size w wr))
  case atStart => exact ⟨0, none, 0, by omega, by omega, rfl, rfl, Lib.hid (OutOk.start _ _ _ _ _ _), Lib.hid (Below.refl _ _)⟩
  case round =>
    obtain ⟨j, ao', cap', hj, rfl, rfl, rfl, hO, hB⟩ := hrel
    by_cases hjn : j < len
    · have hjz : (j : Int) < (len : Int) := by omega
      obtain ⟨x, hx⟩ : ∃ x, ns[j]? = some x := ⟨ns[j]'(by have := HN.out; omega), List.getElem?_eq_getElem _⟩
      obtain ⟨b, o, hao, c0, c1, c2, c3, c4, hLx⟩ := list_cells HL.out hx hB.out
      obtain rfl : ao = some ⟨b, o, none⟩ := hao
      have HX := Lib.hid hx
      have HLX := Lib.hid hLx
      clear hx hLx
      go_wp2_with fail
      refine (nodeOfStringExpressionPart d hU x D _ (HLX.out.below ((Below.refl _ _).alloc (Nat.le_refl _) _)) (HK.out x (List.mem_of_getElem? HX.out)).1 ((HK.out x (List.mem_of_getElem? HX.out)).2)).mono ?_
      rintro e w1 ⟨b1, rfl, hR, hb1⟩
      have HB1 := Lib.hid (((Below.refl wr.heap.size wr).alloc (Nat.le_refl _) _).trans (hb1.mono (by simp)))
      have HO1 := Lib.hid (hO.out.below HB1.out)
      have HR := Lib.hid (hR.mono (From.le (show wr.heap.size ≤ _ by simp)))
      have HBw := Lib.hid (hB.out.trans (HB1.out.mono hB.out.size))
      have hBs : w.heap.size ≤ w1.heap.size := HBw.out.size
      have hlt : ∀ g, (Value.slice ao' j cap').ownBlock = some g → g < wr.heap.size := by
        intro g hg
        obtain ⟨xs, h1, _⟩ := hO.out
        exact (World.ownsRow.lt h1 g hg).2
      have HLT := Lib.hid hlt
      have HXX : Hid (HeldBy false (RepD (fun b => w.heap.size ≤ b ∧ some b ≠ (Value.slice ao' j cap').ownBlock) d) w1 x (.iface (pTy x.kind) (.pointer (some ⟨b1, 0, none⟩)))) := Lib.hid ⟨b1, rfl, HR.out.mono fun b hb => ⟨Nat.le_trans hB.out.size hb, fun e => by have := HLT.out b e.symm; unfold From at hb; omega⟩⟩
      obtain ⟨xs, hown, -⟩ := HO1.out
      have HOW := Lib.hid (hown.alloc (.cells #[.iface (pTy x.kind) (.pointer (some ⟨b1, 0, none⟩))] 225))
      have HOL := Lib.hid hown.1
      clear hR hb1 hlt hown
      go_wp2_with (at_builtin; refine wpList_append_lies _ rfl _ _ 222 rfl w.heap.size 225 i0 (.nilIface) 1 16 undStringExpressionPart hi hz0 hz1 hz2 rfl (by decide) _ _ _ rfl HOW.out ⟨w1.heap.size, 0, none⟩ 1 1 [.iface (pTy x.kind) (.pointer (some ⟨b1, 0, none⟩))] rfl rfl ?c1 ?c2 (by decide) ?c3 ?c4 ?c5 _ rfl ?_)
      case c1 => exact cell_one_new _ _ _
      case c2 => intro u hu; simp at hu; subst hu; rfl
      case c3 => unfold maxLen; omega
      case c4 => omega
      case c5 => simp; omega
      intro g cap2 w2 hown' hgrow hat hglt
      have HO2 : Hid (OutOk false 225 w.heap.size d ns (j + 1) (.slice (some ⟨g, 0, none⟩) (j + 1) cap2) w2) := by
        refine Lib.hid (OutOk.next HO1.out HX.out HXX.out (fun ys hys => ?_) rfl hgrow (hat.imp id (fun h => by simpa using h)))
        have hxy : ys = xs := by
          rcases hys.2 with ⟨hv, h0⟩ | ⟨g1, c1, cur1, hv, _, hg1, _, _, _, ht1⟩
          · have e1 := hys.1; have e2 := HOL.out
            rw [h0] at e1 e2
            simp at e1 e2
            rw [e1, e2]
          · rcases HOW.out.2 with ⟨hv2, h0⟩ | ⟨g3, c3, cur3, hv3, _, hg3, _, _, _, ht3⟩
            · rw [hv] at hv2; cases hv2
            · rw [hv] at hv3; cases hv3
              rw [hg1] at hg3; cases hg3
              rw [← ht1, ← ht3]
        rw [hxy]; exact hown'
      have HB2 := Lib.hid ((HBw.out.alloc hBs _).grown hgrow (by simp; omega) (by
        intro k hk
        obtain ⟨ys, h1, _⟩ := HO1.out
        rcases h1.2 with ⟨hv, _⟩ | ⟨g1, c1, cur1, hv, hBg, _⟩
        · rw [hv] at hk; simp [Value.ownBlock] at hk
        · rw [hv] at hk; simp [Value.ownBlock] at hk; omega))
      clear hown' hgrow hat
      go_wp2_with fail
      go_roundg (len - (j + 1))
      case measure => omega
      case rel => exact ⟨j + 1, some ⟨g, 0, none⟩, cap2, by omega, rfl, by push_cast; rfl, rfl, HO2, HB2⟩
    · have hjz : ¬ (j : Int) < (len : Int) := by omega
      obtain rfl : j = len := by omega
      go_wp2_with fail
      go_ret
      unfold ListPost
      have hl := HN.out
      have hO2 := hO.out
      rw [← hl] at hO2 ⊢
      exact ⟨_, _, rfl, hO2.done, hB.out⟩

theorem infoFile : (Tryz.prog.info? 80).map (fun i => (i.zero, i.size, i.bytes)) = some (some (.pointer none), 1, 8) := by kernel_rfl
theorem undFile : Tryz.prog.underlying 97 = some (.slice 80) := by kernel_rfl

set_option maxRecDepth 100000 in
set_option maxHeartbeats 1000000 in
theorem nodesOfFile (d : Nat) (hU : UnC d) (D : Nat) (ns : List Nd) (ao : Option Addr) (cap : Nat) (w : World) (hlen4 : ns.length ≤ 1000) (hL : ListLies D w ao ns) (hk : ∀ x ∈ ns, GoodD d x ∧ x.kind ∈ ([3] : List Int)) :
    Calls Tryz.prog 58 #[.slice ao ns.length cap] w (ListPost true d ns w) := by
  obtain ⟨len, hlen⟩ : ∃ len, ns.length = len := ⟨_, rfl⟩
  rw [hlen] at hlen4 ⊢
  obtain ⟨i0, hi, hz0, hz1, hz2⟩ := info_parts infoFile
  have HN := Lib.hid hlen
  have HL := Lib.hid hL
  have HK := Lib.hid hk
  clear hlen hL hk
  go_enter Tryz.func58, Tryz.ntmps58
  go_wp2_with fail
  go_loopg [3, 8] len (fun gk out i wr => ∃ (j : Nat) (ao' : Option Addr) (cap' : Nat), j ≤ len ∧ gk = len - j ∧ i = .int .i64 (j : Int) ∧ out = .slice ao' j cap' ∧ Hid (OutOk true 80 w.heap.size d ns j (.slice ao' j cap') wr) ∧ Hid (Below w.heap.size w wr))
  case atStart => exact ⟨0, none, 0, by omega, by omega, rfl, rfl, Lib.hid (OutOk.start _ _ _ _ _ _), Lib.hid (Below.refl _ _)⟩
  case round =>
    obtain ⟨j, ao', cap', hj, rfl, rfl, rfl, hO, hB⟩ := hrel
    by_cases hjn : j < len
    · have hjz : (j : Int) < (len : Int) := by omega
      obtain ⟨x, hx⟩ : ∃ x, ns[j]? = some x := ⟨ns[j]'(by have := HN.out; omega), List.getElem?_eq_getElem _⟩
      obtain ⟨b, o, hao, c0, c1, c2, c3, c4, hLx⟩ := list_cells HL.out hx hB.out
      obtain rfl : ao = some ⟨b, o, none⟩ := hao
      have HX := Lib.hid hx
      have HLX := Lib.hid hLx
      clear hx hLx
      go_wp2_with fail
      refine (nodeOf_3 d hU x D _ (HLX.out.below ((Below.refl _ _).alloc (Nat.le_refl _) _)) (HK.out x (List.mem_of_getElem? HX.out)).1 (by have := (HK.out x (List.mem_of_getElem? HX.out)).2; simpa using this)).mono ?_
      rintro e w1 ⟨b1, rfl, hR, hb1⟩
      have HB1 := Lib.hid (((Below.refl wr.heap.size wr).alloc (Nat.le_refl _) _).trans (hb1.mono (by simp)))
      have HO1 := Lib.hid (hO.out.below HB1.out)
      have HR := Lib.hid (hR.mono (From.le (show wr.heap.size ≤ _ by simp)))
      have HBw := Lib.hid (hB.out.trans (HB1.out.mono hB.out.size))
      have hBs : w.heap.size ≤ w1.heap.size := HBw.out.size
      have hlt : ∀ g, (Value.slice ao' j cap').ownBlock = some g → g < wr.heap.size := by
        intro g hg
        obtain ⟨xs, h1, _⟩ := hO.out
        exact (World.ownsRow.lt h1 g hg).2
      have HLT := Lib.hid hlt
      have HXX : Hid (HeldBy true (RepD (fun b => w.heap.size ≤ b ∧ some b ≠ (Value.slice ao' j cap').ownBlock) d) w1 x (.pointer (some ⟨b1, 0, none⟩))) := Lib.hid ⟨b1, rfl, HR.out.mono fun b hb => ⟨Nat.le_trans hB.out.size hb, fun e => by have := HLT.out b e.symm; unfold From at hb; omega⟩⟩
      obtain ⟨xs, hown, -⟩ := HO1.out
      have HOW := Lib.hid (hown.alloc (.cells #[.pointer (some ⟨b1, 0, none⟩)] 80))
      have HOL := Lib.hid hown.1
      clear hR hb1 hlt hown
      go_wp2_with (at_builtin; refine wpList_append_lies _ rfl _ _ 97 rfl w.heap.size 80 i0 (.pointer none) 1 8 undFile hi hz0 hz1 hz2 rfl (by decide) _ _ _ rfl HOW.out ⟨w1.heap.size, 0, none⟩ 1 1 [.pointer (some ⟨b1, 0, none⟩)] rfl rfl ?c1 ?c2 (by decide) ?c3 ?c4 ?c5 _ rfl ?_)
      case c1 => exact cell_one_new _ _ _
      case c2 => intro u hu; simp at hu; subst hu; rfl
      case c3 => unfold maxLen; omega
      case c4 => omega
      case c5 => simp; omega
      intro g cap2 w2 hown' hgrow hat hglt
      have HO2 : Hid (OutOk true 80 w.heap.size d ns (j + 1) (.slice (some ⟨g, 0, none⟩) (j + 1) cap2) w2) := by
        refine Lib.hid (OutOk.next HO1.out HX.out HXX.out (fun ys hys => ?_) rfl hgrow (hat.imp id (fun h => by simpa using h)))
        have hxy : ys = xs := by
          rcases hys.2 with ⟨hv, h0⟩ | ⟨g1, c1, cur1, hv, _, hg1, _, _, _, ht1⟩
          · have e1 := hys.1; have e2 := HOL.out
            rw [h0] at e1 e2
            simp at e1 e2
            rw [e1, e2]
          · rcases HOW.out.2 with ⟨hv2, h0⟩ | ⟨g3, c3, cur3, hv3, _, hg3, _, _, _, ht3⟩
            · rw [hv] at hv2; cases hv2
            · rw [hv] at hv3; cases hv3
              rw [hg1] at hg3; cases hg3
              rw [← ht1, ← ht3]
        rw [hxy]; exact hown'
      have HB2 := Lib.hid ((HBw.out.alloc hBs _).grown hgrow (by simp; omega) (by
        intro k hk
        obtain ⟨ys, h1, _⟩ := HO1.out
        rcases h1.2 with ⟨hv, _⟩ | ⟨g1, c1, cur1, hv, hBg, _⟩
        · rw [hv] at hk; simp [Value.ownBlock] at hk
        · rw [hv] at hk; simp [Value.ownBlock] at hk; omega))
      clear hown' hgrow hat
      go_wp2_with fail
      go_roundg (len - (j + 1))
      case measure => omega
      case rel => exact ⟨j + 1, some ⟨g, 0, none⟩, cap2, by omega, rfl, by push_cast; rfl, rfl, HO2, HB2⟩
    · have hjz : ¬ (j : Int) < (len : Int) := by omega
      obtain rfl : j = len := by omega
      go_wp2_with fail
      go_ret
      unfold ListPost
      have hl := HN.out
      have hO2 := hO.out
      rw [← hl] at hO2 ⊢
      exact ⟨_, _, rfl, hO2.done, hB.out⟩

end Go.Proofs.YtongafghllkomaaGreatDoor
