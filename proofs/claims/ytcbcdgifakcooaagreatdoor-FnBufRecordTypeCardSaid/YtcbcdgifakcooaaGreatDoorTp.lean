/-
  typeNode at parameters; node at all types, level by level. No conditions.
-/
import Derived.Test.YtcbcdgifakcooaaGreatDoorTn
namespace Go.Proofs.YtcbcdgifakcooaaGreatDoor
open Go.RowKit
set_option linter.unusedVariables false
set_option linter.unusedSimpArgs false

/-- A parameter's node: its kids' row lies at g, its variable at nb. -/
theorem post52 {w V : World} {nb g c E0 E1 : Nat} {oa : Option Addr} {u : Int} {x0 x1 m0 m1 : Nd} (hwf : (Nd.mk 52 ⟨#[]⟩ ⟨#[]⟩ u oa c [x0, x1]).wf) (hBV : Below w.heap.size w V) (hrow : V.heap[g]? = some (.cells ([m0, m1].flatMap Nd.cells5).toArray 25 (0, 0))) (hg : w.heap.size ≤ g) (hgn : g ≠ nb) (hnb : w.heap.size ≤ nb)
    (S0 : SameD E0 x0 m0) (L0 : LiesIn (fun q => w.heap.size ≤ q ∧ q ≠ nb) E0 V m0) (S1 : SameD E1 x1 m1) (L1 : LiesIn (fun q => w.heap.size ≤ q ∧ q ≠ nb) E1 V m1) (W : World) (hW : W = V ∨ ∃ v, W = V.setCell ⟨nb, 3, none⟩ v) :
    NodePost (.mk 52 ⟨#[]⟩ ⟨#[]⟩ u oa c [x0, x1]) w (.returned (.agg #[.int .i64 52, .string ⟨#[]⟩, .string ⟨#[]⟩, .int .u64 u, .slice (some ⟨g, 0, none⟩) 2 2])) W := by
  have hst : ∀ q, q ≠ nb → W.heap[q]? = V.heap[q]? := by
    intro q hq
    rcases hW with rfl | ⟨v, rfl⟩
    · rfl
    · exact Below.heap_setCell _ _ _ _ hq
  have hBW : Below w.heap.size w W := by
    rcases hW with rfl | ⟨v, rfl⟩
    · exact hBV
    · exact hBV.setCell (p := ⟨nb, 3, none⟩) hnb v
  have car : ∀ {E : Nat} {m : Nd}, LiesIn (fun q => w.heap.size ≤ q ∧ q ≠ nb) E V m → LiesIn (From w.heap.size) E W m := fun h => h.carry (fun b o hA ho => ⟨(hst b hA.2).trans ho, hA.1⟩)
  refine back_row (ms := [m0, m1]) rfl hwf hBW ⟨rfl, Or.inr ⟨g, 2, _, rfl, hg, (hst g hgn).trans hrow, Nat.le_refl _, by decide, rfl, rfl⟩⟩ rfl (fun i x y hx hy => ?_)
  match i with
  | 0 => simp at hx hy; subst hx hy; exact ⟨E0, S0, car L0⟩
  | 1 => simp at hx hy; subst hx hy; exact ⟨E1, S1, car L1⟩
  | _ + 2 => simp at hx

set_option maxRecDepth 100000 in
set_option maxHeartbeats 20000000 in
theorem tn_52 (u : Int) (hu3 : u = 0 ∨ u = 1 ∨ u = 2) (d : Nat) (hN : NodeTC d) (A : Nat → Prop) (n x0 x1 : Nd) (po : Option Addr) (b b1 : Nat) (w : World) (ht : n.text = ⟨#[]⟩) (hm : n.more = ⟨#[]⟩) (hu : n.num = u) (hwf : n.wf) (hk : n.kind = 52) (hkx : n.kids = [x0, x1])
    (hb : w.heap[b]? = some (.cells #[.pointer none, .slice none 0 0, .slice none 0 0, .pointer po, .iface (tTy x1.kind) (.pointer (some ⟨b1, 0, none⟩)), .string (kindS u)] 277 (0, 0))) (p0 : MayP x0) (hV0 : MayV A w x0 (.pointer po)) (p1 : TyP d x1) (t1 : isTyP x1.kind) (hV1 : TyV (RepT A d) w x1 (.iface (tTy x1.kind) (.pointer (some ⟨b1, 0, none⟩)))) :
    Calls Tryz.prog 50 #[.iface 274 (.pointer (some ⟨b, 0, none⟩))] w (NodePost n w) := by
  obtain ⟨k, t, m, u', ao, cap, kids⟩ := n
  obtain rfl : k = 52 := hk
  obtain rfl : t = ⟨#[]⟩ := ht
  obtain rfl : m = ⟨#[]⟩ := hm
  obtain rfl : u' = u := hu
  obtain rfl : kids = [x0, x1] := hkx
  have HWF := Lib.hid hwf
  have HP0 := Lib.hid p0
  have HV0 := Lib.hid hV0
  have HP1 := Lib.hid p1
  have HV1 := Lib.hid hV1
  have HT1 := Lib.hid t1
  have HU3 := Lib.hid hu3
  have c3 : w.cell? ⟨b, 3, none⟩ = some (.pointer po) := by rw [Lib.cell_of_heap hb]; rfl
  have c4 : w.cell? ⟨b, 4, none⟩ = some (.iface (tTy x1.kind) (.pointer (some ⟨b1, 0, none⟩))) := by rw [Lib.cell_of_heap hb]; rfl
  have HC5 := Lib.hid (show w.cell? ⟨b, 5, none⟩ = some (.string (kindS u')) by rw [Lib.cell_of_heap hb]; rfl)
  have hblt : b < w.heap.size := World.block_lt_of_cell? _ _ c3
  have hbne : ¬ b = w.heap.size := by omega
  have hbne2 : ¬ w.heap.size = b := by omega
  clear hb hwf p0 hV0 p1 hV1 t1 hu3
  have q44 := no_44 274 (by decide)
  have q45 := no_45 274 (by decide)
  have q46 := no_46 274 (by decide)
  have q47 := no_47 274 (by decide)
  have q48 := no_48 274 (by decide)
  have q49 := no_49 274 (by decide)
  have q50 := no_50 274 (by decide)
  have q51 := no_51 274 (by decide)
  have q52 := yes_52
  go_enter Tryz.func50, Tryz.ntmps50
  go_wp2_with fail
  have hS0 : (w.alloc zN).cell? ⟨b, 3, none⟩ = some (.pointer po) ∧ (w.alloc zN).cell? ⟨b, 4, none⟩ = some (.iface (tTy x1.kind) (.pointer (some ⟨b1, 0, none⟩))) := ⟨by rw [((Below.refl w.heap.size w).alloc (Nat.le_refl _) zN).cell (p := ⟨b, 3, none⟩) hblt]; exact c3, by rw [((Below.refl w.heap.size w).alloc (Nat.le_refl _) zN).cell (p := ⟨b, 4, none⟩) hblt]; exact c4⟩
  have HSK := Lib.hid (show ∀ W : World, (∀ o, W.cell? ⟨b, o, none⟩ = w.cell? ⟨b, o, none⟩) → (W.cell? ⟨b, 3, none⟩ = some (.pointer po) ∧ W.cell? ⟨b, 4, none⟩ = some (.iface (tTy x1.kind) (.pointer (some ⟨b1, 0, none⟩)))) from fun W h => ⟨(h _).trans c3, (h _).trans c4⟩)
  refine headBegin (S := fun w' => (w'.cell? ⟨b, 3, none⟩ = some (.pointer po) ∧ w'.cell? ⟨b, 4, none⟩ = some (.iface (tTy x1.kind) (.pointer (some ⟨b1, 0, none⟩))))) 13 (by kernel_rfl) hS0 (fun hHeld => ?_)
  clear hS0
  refine headTake (i := 0) (v := ?_) rfl (by kernel_rfl) (by kernel_rfl) (by kernel_rfl) (by kernel_rfl) (fun _ _ _ h => h) (Or.inl ⟨by rfl, ?_⟩) hHeld ?_
  rotate_left 1
  · intro w hSw
    go_split_ands
    go_simp
    try with_reducible rfl
  simp only [List.getElem_toArray, List.getElem_cons_zero, List.getElem_cons_succ, Act.put, List.setIfInBounds_toArray, List.set_cons_zero, List.set_cons_succ]
  refine headTake (i := 1) (v := ?_) rfl (by kernel_rfl) (by kernel_rfl) (by kernel_rfl) (by kernel_rfl) (fun _ _ _ h => h) (Or.inl ⟨by rfl, ?_⟩) hHeld ?_
  rotate_left 1
  · intro w hSw
    go_split_ands
    go_simp
    try with_reducible rfl
  simp only [List.getElem_toArray, List.getElem_cons_zero, List.getElem_cons_succ, Act.put, List.setIfInBounds_toArray, List.set_cons_zero, List.set_cons_succ]
  refine headTake (i := 2) (v := ?_) rfl (by kernel_rfl) (by kernel_rfl) (by kernel_rfl) (by kernel_rfl) (fun _ _ _ h => h) (Or.inl ⟨by rfl, ?_⟩) hHeld ?_
  rotate_left 1
  · intro w hSw
    go_split_ands
    go_simp
    try with_reducible rfl
  simp only [List.getElem_toArray, List.getElem_cons_zero, List.getElem_cons_succ, Act.put, List.setIfInBounds_toArray, List.set_cons_zero, List.set_cons_succ]
  refine headTake (i := 3) (v := ?_) rfl (by kernel_rfl) (by kernel_rfl) (by kernel_rfl) (by kernel_rfl) (fun _ _ _ h => h) (Or.inl ⟨by rfl, ?_⟩) hHeld ?_
  rotate_left 1
  · intro w hSw
    go_split_ands
    go_simp
    try with_reducible rfl
  simp only [List.getElem_toArray, List.getElem_cons_zero, List.getElem_cons_succ, Act.put, List.setIfInBounds_toArray, List.set_cons_zero, List.set_cons_succ]
  refine headTake (i := 5) (v := ?_) rfl (by kernel_rfl) (by kernel_rfl) (by kernel_rfl) (by kernel_rfl) (fun _ _ _ h => h) (Or.inl ⟨by rfl, ?_⟩) hHeld ?_
  rotate_left 1
  · intro w hSw
    go_split_ands
    go_simp
    try with_reducible rfl
  simp only [List.getElem_toArray, List.getElem_cons_zero, List.getElem_cons_succ, Act.put, List.setIfInBounds_toArray, List.set_cons_zero, List.set_cons_succ]
  refine headTake (i := 6) (v := ?_) rfl (by kernel_rfl) (by kernel_rfl) (by kernel_rfl) (by kernel_rfl) (fun _ _ _ h => h) (Or.inl ⟨by rfl, ?_⟩) hHeld ?_
  rotate_left 1
  · intro w hSw
    go_split_ands
    go_simp
    try with_reducible rfl
  simp only [List.getElem_toArray, List.getElem_cons_zero, List.getElem_cons_succ, Act.put, List.setIfInBounds_toArray, List.set_cons_zero, List.set_cons_succ]
  refine headTake (i := 7) (v := ?_) rfl (by kernel_rfl) (by kernel_rfl) (by kernel_rfl) (by kernel_rfl) (fun _ _ _ h => h) (Or.inl ⟨by rfl, ?_⟩) hHeld ?_
  rotate_left 1
  · intro w hSw
    go_split_ands
    go_simp
    try with_reducible rfl
  simp only [List.getElem_toArray, List.getElem_cons_zero, List.getElem_cons_succ, Act.put, List.setIfInBounds_toArray, List.set_cons_zero, List.set_cons_succ]
  refine headTake (i := 8) (v := ?_) rfl (by kernel_rfl) (by kernel_rfl) (by kernel_rfl) (by kernel_rfl) (fun _ _ _ h => h) (Or.inl ⟨by rfl, ?_⟩) hHeld ?_
  rotate_left 1
  · intro w hSw
    go_split_ands
    go_simp
    try with_reducible rfl
  simp only [List.getElem_toArray, List.getElem_cons_zero, List.getElem_cons_succ, Act.put, List.setIfInBounds_toArray, List.set_cons_zero, List.set_cons_succ]
  have HW0 : Hid (Below (w.alloc zN).heap.size (w.alloc zN) (w.alloc zN).drew) := Lib.hid (Below.drew (Below.refl _ _))
  have HY0 : Hid (Below w.heap.size w (w.alloc zN)) := Lib.hid ((Below.refl w.heap.size w).alloc (Nat.le_refl _) zN)
  have HKB := Lib.hid (show ∀ W : World, Below (w.alloc zN).heap.size (w.alloc zN) W → ∀ o, W.cell? ⟨b, o, none⟩ = w.cell? ⟨b, o, none⟩ from fun W hW o => (HY0.out.trans (hW.mono HY0.out.size)).cell (p := ⟨b, o, none⟩) hblt)
  refine headStep2 (i := 4) (j := 12) rfl rfl (by kernel_rfl) (fun K hK => ?_) (fun K hK => ?_)
  · go_simp
    go_at_call 34
    refine (mayNone A x0 _ _ HP0.out (HV0.out.below (HY0.out.trans (HW0.out.mono HY0.out.size)))).mono ?_
    rintro e c0w ⟨E0, m0, rfl, hS0, hl0, hb0⟩
    have HS0 := Lib.hid hS0
    have HL0 := Lib.hid hl0
    have HB0 := Lib.hid hb0
    have HX1 := Lib.hid (HW0.out.trans (hb0.mono HW0.out.size))
    clear hS0 hl0 hb0
    refine hK.out _ _ ⟨fun _ => HSK.out _ (HKB.out _ HX1.out), fun hS => ?_⟩
    have hHeld := hS (by decide)
    clear hS hK K
    refine headStep2 (i := 9) (j := 12) rfl rfl (by kernel_rfl) (fun K hK => ?_) (fun K hK => ?_)
    · go_simp
      go_at_call 36
      refine (tyNone d hN A x1 _ _ HP1.out HT1.out (HV1.out.below (HY0.out.trans (HX1.out.mono HY0.out.size)))).mono ?_
      rintro e c1w ⟨E1, m1, rfl, hS1, hl1, hb1⟩
      have HS1 := Lib.hid hS1
      have HL1 := Lib.hid hl1
      have HB1 := Lib.hid hb1
      have HX2 := Lib.hid (HX1.out.trans (hb1.mono HX1.out.size))
      clear hS1 hl1 hb1
      refine hK.out _ _ ⟨fun _ => HSK.out _ (HKB.out _ HX2.out), fun hS => ?_⟩
      have hHeld := hS (by decide)
      clear hS hK K
      refine headStep2 (i := 10) (j := 12) rfl rfl (by kernel_rfl) (fun K hK => ?_) (fun K hK => ?_)
      · go_simp
        have HX3 := Lib.hid (HX2.out.alloc HX2.out.size (.cells #[.int .i64 m0.kind, .string m0.text, .string m0.more, .int .u64 m0.num, .slice m0.ao m0.kids.length m0.cap, .int .i64 m1.kind, .string m1.text, .string m1.more, .int .u64 m1.num, .slice m1.ao m1.kids.length m1.cap] 25))
        refine hK.out _ _ ⟨fun _ => HSK.out _ (HKB.out _ HX3.out), fun hS => ?_⟩
        have hHeld := hS (by decide)
        clear hS hK K
        refine headStep2 (i := 11) (j := 12) rfl rfl (by kernel_rfl) (fun K hK => ?_) (fun K hK => ?_)
        · go_simp
          refine hK.out _ _ ⟨fun _ => HSK.out _ (HKB.out _ HX3.out), fun hS => ?_⟩
          have hHeld := hS (by decide)
          clear hS hK K
          refine headStep (i := 12) rfl (by kernel_rfl) (fun K hK => ?_)
          go_simp
          have HX5 := Lib.hid (HX3.out.alloc HX3.out.size (.cells #[.int .i64 0, .string ⟨#[]⟩, .string ⟨#[]⟩, .int .u64 0, .slice none 0 0] 25))
          refine hK.out _ _ ⟨fun _ => HSK.out _ (HKB.out _ HX5.out), fun hS => ?_⟩
          have hHeld := hS (by decide)
          clear hS hK K
          have hw1 : w.heap.size + 1 ≤ c1w.heap.size := by have h := HX2.out.size; (try simp at h); omega
          have hzz : (w.alloc zN).heap.size = w.heap.size + 1 := by simp
          refine headStep (i := 13) rfl (by kernel_rfl) (fun K hK => ?_)
          go_simp
          refine hK.out _ _ ⟨fun h => absurd h (by decide), fun _ => ?_⟩
          clear hK K
          refine headDone (by kernel_rfl) ?_ _
          have hYn : ((c1w.alloc (.cells #[.int .i64 m0.kind, .string m0.text, .string m0.more, .int .u64 m0.num, .slice m0.ao m0.kids.length m0.cap, .int .i64 m1.kind, .string m1.text, .string m1.more, .int .u64 m1.num, .slice m1.ao m1.kids.length m1.cap] 25)).alloc (.cells #[.int .i64 52, .string ⟨#[]⟩, .string ⟨#[]⟩, .int .u64 0, .slice (some ⟨c1w.heap.size, 0, none⟩) 2 2] 25)).heap[c1w.heap.size + 1]? = some (.cells #[.int .i64 52, .string ⟨#[]⟩, .string ⟨#[]⟩, .int .u64 0, .slice (some ⟨c1w.heap.size, 0, none⟩) 2 2] 25 (0, 0)) := (by have h := heap_alloc_new (c1w.alloc (.cells #[.int .i64 m0.kind, .string m0.text, .string m0.more, .int .u64 m0.num, .slice m0.ao m0.kids.length m0.cap, .int .i64 m1.kind, .string m1.text, .string m1.more, .int .u64 m1.num, .slice m1.ao m1.kids.length m1.cap] 25)) (.cells #[.int .i64 52, .string ⟨#[]⟩, .string ⟨#[]⟩, .int .u64 0, .slice (some ⟨c1w.heap.size, 0, none⟩) 2 2] 25); simpa using h)
          have hYr : ((c1w.alloc (.cells #[.int .i64 m0.kind, .string m0.text, .string m0.more, .int .u64 m0.num, .slice m0.ao m0.kids.length m0.cap, .int .i64 m1.kind, .string m1.text, .string m1.more, .int .u64 m1.num, .slice m1.ao m1.kids.length m1.cap] 25)).alloc (.cells #[.int .i64 52, .string ⟨#[]⟩, .string ⟨#[]⟩, .int .u64 0, .slice (some ⟨c1w.heap.size, 0, none⟩) 2 2] 25)).heap[c1w.heap.size]? = some (.cells #[.int .i64 m0.kind, .string m0.text, .string m0.more, .int .u64 m0.num, .slice m0.ao m0.kids.length m0.cap, .int .i64 m1.kind, .string m1.text, .string m1.more, .int .u64 m1.num, .slice m1.ao m1.kids.length m1.cap] 25 (0, 0)) := (Below.heap_alloc (c1w.alloc (.cells #[.int .i64 m0.kind, .string m0.text, .string m0.more, .int .u64 m0.num, .slice m0.ao m0.kids.length m0.cap, .int .i64 m1.kind, .string m1.text, .string m1.more, .int .u64 m1.num, .slice m1.ao m1.kids.length m1.cap] 25)) (.cells #[.int .i64 52, .string ⟨#[]⟩, .string ⟨#[]⟩, .int .u64 0, .slice (some ⟨c1w.heap.size, 0, none⟩) 2 2] 25) c1w.heap.size (by simp)).trans (heap_alloc_new c1w (.cells #[.int .i64 m0.kind, .string m0.text, .string m0.more, .int .u64 m0.num, .slice m0.ao m0.kids.length m0.cap, .int .i64 m1.kind, .string m1.text, .string m1.more, .int .u64 m1.num, .slice m1.ao m1.kids.length m1.cap] 25))
          have hYc : ∀ q, q < c1w.heap.size → q ≠ c1w.heap.size + 1 → ((c1w.alloc (.cells #[.int .i64 m0.kind, .string m0.text, .string m0.more, .int .u64 m0.num, .slice m0.ao m0.kids.length m0.cap, .int .i64 m1.kind, .string m1.text, .string m1.more, .int .u64 m1.num, .slice m1.ao m1.kids.length m1.cap] 25)).alloc (.cells #[.int .i64 52, .string ⟨#[]⟩, .string ⟨#[]⟩, .int .u64 0, .slice (some ⟨c1w.heap.size, 0, none⟩) 2 2] 25)).heap[q]? = c1w.heap[q]? := fun q hq _ => (Below.heap_alloc (c1w.alloc (.cells #[.int .i64 m0.kind, .string m0.text, .string m0.more, .int .u64 m0.num, .slice m0.ao m0.kids.length m0.cap, .int .i64 m1.kind, .string m1.text, .string m1.more, .int .u64 m1.num, .slice m1.ao m1.kids.length m1.cap] 25)) (.cells #[.int .i64 52, .string ⟨#[]⟩, .string ⟨#[]⟩, .int .u64 0, .slice (some ⟨c1w.heap.size, 0, none⟩) 2 2] 25) q (by simp; omega)).trans (Below.heap_alloc c1w (.cells #[.int .i64 m0.kind, .string m0.text, .string m0.more, .int .u64 m0.num, .slice m0.ao m0.kids.length m0.cap, .int .i64 m1.kind, .string m1.text, .string m1.more, .int .u64 m1.num, .slice m1.ao m1.kids.length m1.cap] 25) q hq)
          have hYb : Below (w.alloc zN).heap.size (w.alloc zN) ((c1w.alloc (.cells #[.int .i64 m0.kind, .string m0.text, .string m0.more, .int .u64 m0.num, .slice m0.ao m0.kids.length m0.cap, .int .i64 m1.kind, .string m1.text, .string m1.more, .int .u64 m1.num, .slice m1.ao m1.kids.length m1.cap] 25)).alloc (.cells #[.int .i64 52, .string ⟨#[]⟩, .string ⟨#[]⟩, .int .u64 0, .slice (some ⟨c1w.heap.size, 0, none⟩) 2 2] 25)) := (HX2.out.alloc HX2.out.size (.cells #[.int .i64 m0.kind, .string m0.text, .string m0.more, .int .u64 m0.num, .slice m0.ao m0.kids.length m0.cap, .int .i64 m1.kind, .string m1.text, .string m1.more, .int .u64 m1.num, .slice m1.ao m1.kids.length m1.cap] 25)).alloc (by have h := HX2.out.size; simp at h ⊢; omega) (.cells #[.int .i64 52, .string ⟨#[]⟩, .string ⟨#[]⟩, .int .u64 0, .slice (some ⟨c1w.heap.size, 0, none⟩) 2 2] 25)
          generalize ((c1w.alloc (.cells #[.int .i64 m0.kind, .string m0.text, .string m0.more, .int .u64 m0.num, .slice m0.ao m0.kids.length m0.cap, .int .i64 m1.kind, .string m1.text, .string m1.more, .int .u64 m1.num, .slice m1.ao m1.kids.length m1.cap] 25)).alloc (.cells #[.int .i64 52, .string ⟨#[]⟩, .string ⟨#[]⟩, .int .u64 0, .slice (some ⟨c1w.heap.size, 0, none⟩) 2 2] 25)) = V at *
          have hc01 : c0w.heap.size ≤ c1w.heap.size := by have h := HB1.out.size; (try simp at h); omega
          have hz0 : w.heap.size + 1 ≤ c0w.heap.size := by have h := HB0.out.size; (try simp at h); omega
          have L0 : LiesIn (fun q => (w.alloc zN).heap.size ≤ q ∧ q ≠ c1w.heap.size + 1) E0 V m0 := HL0.out.carry (fun q ob hA ho => by
            have hq : q < c0w.heap.size := (Array.getElem?_eq_some_iff.1 ho).1
            have hA2 : (w.alloc zN).drew.heap.size ≤ q := hA
            have hA3 : w.heap.size + 1 ≤ q := by (try simp at hA2); omega
            have hqn : q ≠ c1w.heap.size + 1 := by first | omega | ((try simp at hA2); omega)
            have hbq : c1w.heap[q]? = c0w.heap[q]? := HB1.out.block q hq
            exact ⟨(hYc q (by omega) hqn).trans (hbq.trans ho), by rw [hzz]; exact hA3, hqn⟩)
          have L1 : LiesIn (fun q => (w.alloc zN).heap.size ≤ q ∧ q ≠ c1w.heap.size + 1) E1 V m1 := HL1.out.carry (fun q ob hA ho => by
            have hq : q < c1w.heap.size := (Array.getElem?_eq_some_iff.1 ho).1
            have hA2 : c0w.heap.size ≤ q := hA
            have hA3 : c0w.heap.size ≤ q := by (try simp at hA2); omega
            have hqn : q ≠ c1w.heap.size + 1 := by first | omega | ((try simp at hA2); omega)
            exact ⟨(hYc q hq hqn).trans ho, by rw [hzz]; omega, hqn⟩)
          have hYres := (hYb.block w.heap.size (by simp)).trans (heap_alloc_new w _)
          unfold zN at hYres
          have k5 := (HKB.out V hYb 5).trans HC5.out
          have v0 := cell_of_heap hYn 0
          have v1 := cell_of_heap hYn 1
          have v2 := cell_of_heap hYn 2
          have v3 := cell_of_heap hYn 3
          have v4 := cell_of_heap hYn 4
          have vf3 := frozen_of_heap hYn 3
          have r0 := cell_of_heap hYres 0
          have rf0 := frozen_of_heap hYres 0
          have r1 := cell_of_heap hYres 1
          have rf1 := frozen_of_heap hYres 1
          have r2 := cell_of_heap hYres 2
          have rf2 := frozen_of_heap hYres 2
          have r3 := cell_of_heap hYres 3
          have rf3 := frozen_of_heap hYres 3
          have r4 := cell_of_heap hYres 4
          have rf4 := frozen_of_heap hYres 4
          have hnr1 : ¬ c1w.heap.size + 1 = w.heap.size := by omega
          have hnr2 : ¬ w.heap.size = c1w.heap.size + 1 := by omega
          have hgn : c1w.heap.size ≠ c1w.heap.size + 1 := by omega
          have HPO := Lib.hid (fun (W : World) (hW : W = V ∨ ∃ v, W = V.setCell ⟨c1w.heap.size + 1, 3, none⟩ v) => post52 (w := w.alloc zN) (oa := ao) (c := cap) (u := u') HWF.out hYb hYr (by rw [hzz]; omega) hgn (by rw [hzz]; omega) HS0.out L0 HS1.out L1 W hW)
          have HU := Lib.hid HU3.out
          clear hYb hYc hYn hYr L0 L1 hYres
          rcases HU.out with rfl | rfl | rfl
          · have k6 : V.cell? ⟨b, 5, none⟩ = some (.string ⟨#[82, 101, 113, 117, 105, 114, 101, 100]⟩) := k5
            clear k5
            go_wp2_with fail
            exact bodyPost_ret (v := .agg #[.int .i64 52, .string ⟨#[]⟩, .string ⟨#[]⟩, .int .u64 0, .slice (some ⟨c1w.heap.size, 0, none⟩) 2 2]) (by simp [results, Tryz.f50, go_sem, r0, r1, r2, r3, r4, hnr1, hnr2]) rfl (NodePost.stored _ _ _ _ _ (HPO.out _ (.inl rfl)))
          · have k6 : V.cell? ⟨b, 5, none⟩ = some (.string ⟨#[79, 112, 116, 105, 111, 110, 97, 108]⟩) := k5
            clear k5
            go_wp2_with fail
            exact bodyPost_ret (v := .agg #[.int .i64 52, .string ⟨#[]⟩, .string ⟨#[]⟩, .int .u64 1, .slice (some ⟨c1w.heap.size, 0, none⟩) 2 2]) (by simp [results, Tryz.f50, go_sem, r0, r1, r2, r3, r4, hnr1, hnr2]) rfl (NodePost.stored _ _ _ _ _ (HPO.out _ (.inr ⟨_, rfl⟩)))
          · have k6 : V.cell? ⟨b, 5, none⟩ = some (.string ⟨#[80, 105, 112, 101]⟩) := k5
            clear k5
            go_wp2_with fail
            exact bodyPost_ret (v := .agg #[.int .i64 52, .string ⟨#[]⟩, .string ⟨#[]⟩, .int .u64 2, .slice (some ⟨c1w.heap.size, 0, none⟩) 2 2]) (by simp [results, Tryz.f50, go_sem, r0, r1, r2, r3, r4, hnr1, hnr2]) rfl (NodePost.stored _ _ _ _ _ (HPO.out _ (.inr ⟨_, rfl⟩)))
        · go_simp
          have HX6 := Lib.hid (HX3.out.alloc HX3.out.size (.cells #[.int .i64 0, .string ⟨#[]⟩, .string ⟨#[]⟩, .int .u64 0, .slice none 0 0] 25))
          refine hK.out _ _ ⟨fun _ => HSK.out _ (HKB.out _ HX6.out), fun hS => ?_⟩
          have hHeld := hS (by decide)
          clear hS hK K
          refine headStep (i := 11) rfl (by kernel_rfl) (fun K hK => ?_)
          go_simp
          refine hK.out _ _ ⟨fun _ => HSK.out _ (HKB.out _ HX6.out), fun hS => ?_⟩
          have hHeld := hS (by decide)
          clear hS hK K
          have hw1 : w.heap.size + 1 ≤ c1w.heap.size := by have h := HX2.out.size; (try simp at h); omega
          have hzz : (w.alloc zN).heap.size = w.heap.size + 1 := by simp
          refine headStep (i := 13) rfl (by kernel_rfl) (fun K hK => ?_)
          go_simp
          refine hK.out _ _ ⟨fun h => absurd h (by decide), fun _ => ?_⟩
          clear hK K
          refine headDone (by kernel_rfl) ?_ _
          have hYn : ((c1w.alloc (.cells #[.int .i64 m0.kind, .string m0.text, .string m0.more, .int .u64 m0.num, .slice m0.ao m0.kids.length m0.cap, .int .i64 m1.kind, .string m1.text, .string m1.more, .int .u64 m1.num, .slice m1.ao m1.kids.length m1.cap] 25)).alloc (.cells #[.int .i64 52, .string ⟨#[]⟩, .string ⟨#[]⟩, .int .u64 0, .slice (some ⟨c1w.heap.size, 0, none⟩) 2 2] 25)).heap[c1w.heap.size + 1]? = some (.cells #[.int .i64 52, .string ⟨#[]⟩, .string ⟨#[]⟩, .int .u64 0, .slice (some ⟨c1w.heap.size, 0, none⟩) 2 2] 25 (0, 0)) := (by have h := heap_alloc_new (c1w.alloc (.cells #[.int .i64 m0.kind, .string m0.text, .string m0.more, .int .u64 m0.num, .slice m0.ao m0.kids.length m0.cap, .int .i64 m1.kind, .string m1.text, .string m1.more, .int .u64 m1.num, .slice m1.ao m1.kids.length m1.cap] 25)) (.cells #[.int .i64 52, .string ⟨#[]⟩, .string ⟨#[]⟩, .int .u64 0, .slice (some ⟨c1w.heap.size, 0, none⟩) 2 2] 25); simpa using h)
          have hYr : ((c1w.alloc (.cells #[.int .i64 m0.kind, .string m0.text, .string m0.more, .int .u64 m0.num, .slice m0.ao m0.kids.length m0.cap, .int .i64 m1.kind, .string m1.text, .string m1.more, .int .u64 m1.num, .slice m1.ao m1.kids.length m1.cap] 25)).alloc (.cells #[.int .i64 52, .string ⟨#[]⟩, .string ⟨#[]⟩, .int .u64 0, .slice (some ⟨c1w.heap.size, 0, none⟩) 2 2] 25)).heap[c1w.heap.size]? = some (.cells #[.int .i64 m0.kind, .string m0.text, .string m0.more, .int .u64 m0.num, .slice m0.ao m0.kids.length m0.cap, .int .i64 m1.kind, .string m1.text, .string m1.more, .int .u64 m1.num, .slice m1.ao m1.kids.length m1.cap] 25 (0, 0)) := (Below.heap_alloc (c1w.alloc (.cells #[.int .i64 m0.kind, .string m0.text, .string m0.more, .int .u64 m0.num, .slice m0.ao m0.kids.length m0.cap, .int .i64 m1.kind, .string m1.text, .string m1.more, .int .u64 m1.num, .slice m1.ao m1.kids.length m1.cap] 25)) (.cells #[.int .i64 52, .string ⟨#[]⟩, .string ⟨#[]⟩, .int .u64 0, .slice (some ⟨c1w.heap.size, 0, none⟩) 2 2] 25) c1w.heap.size (by simp)).trans (heap_alloc_new c1w (.cells #[.int .i64 m0.kind, .string m0.text, .string m0.more, .int .u64 m0.num, .slice m0.ao m0.kids.length m0.cap, .int .i64 m1.kind, .string m1.text, .string m1.more, .int .u64 m1.num, .slice m1.ao m1.kids.length m1.cap] 25))
          have hYc : ∀ q, q < c1w.heap.size → q ≠ c1w.heap.size + 1 → ((c1w.alloc (.cells #[.int .i64 m0.kind, .string m0.text, .string m0.more, .int .u64 m0.num, .slice m0.ao m0.kids.length m0.cap, .int .i64 m1.kind, .string m1.text, .string m1.more, .int .u64 m1.num, .slice m1.ao m1.kids.length m1.cap] 25)).alloc (.cells #[.int .i64 52, .string ⟨#[]⟩, .string ⟨#[]⟩, .int .u64 0, .slice (some ⟨c1w.heap.size, 0, none⟩) 2 2] 25)).heap[q]? = c1w.heap[q]? := fun q hq _ => (Below.heap_alloc (c1w.alloc (.cells #[.int .i64 m0.kind, .string m0.text, .string m0.more, .int .u64 m0.num, .slice m0.ao m0.kids.length m0.cap, .int .i64 m1.kind, .string m1.text, .string m1.more, .int .u64 m1.num, .slice m1.ao m1.kids.length m1.cap] 25)) (.cells #[.int .i64 52, .string ⟨#[]⟩, .string ⟨#[]⟩, .int .u64 0, .slice (some ⟨c1w.heap.size, 0, none⟩) 2 2] 25) q (by simp; omega)).trans (Below.heap_alloc c1w (.cells #[.int .i64 m0.kind, .string m0.text, .string m0.more, .int .u64 m0.num, .slice m0.ao m0.kids.length m0.cap, .int .i64 m1.kind, .string m1.text, .string m1.more, .int .u64 m1.num, .slice m1.ao m1.kids.length m1.cap] 25) q hq)
          have hYb : Below (w.alloc zN).heap.size (w.alloc zN) ((c1w.alloc (.cells #[.int .i64 m0.kind, .string m0.text, .string m0.more, .int .u64 m0.num, .slice m0.ao m0.kids.length m0.cap, .int .i64 m1.kind, .string m1.text, .string m1.more, .int .u64 m1.num, .slice m1.ao m1.kids.length m1.cap] 25)).alloc (.cells #[.int .i64 52, .string ⟨#[]⟩, .string ⟨#[]⟩, .int .u64 0, .slice (some ⟨c1w.heap.size, 0, none⟩) 2 2] 25)) := (HX2.out.alloc HX2.out.size (.cells #[.int .i64 m0.kind, .string m0.text, .string m0.more, .int .u64 m0.num, .slice m0.ao m0.kids.length m0.cap, .int .i64 m1.kind, .string m1.text, .string m1.more, .int .u64 m1.num, .slice m1.ao m1.kids.length m1.cap] 25)).alloc (by have h := HX2.out.size; simp at h ⊢; omega) (.cells #[.int .i64 52, .string ⟨#[]⟩, .string ⟨#[]⟩, .int .u64 0, .slice (some ⟨c1w.heap.size, 0, none⟩) 2 2] 25)
          generalize ((c1w.alloc (.cells #[.int .i64 m0.kind, .string m0.text, .string m0.more, .int .u64 m0.num, .slice m0.ao m0.kids.length m0.cap, .int .i64 m1.kind, .string m1.text, .string m1.more, .int .u64 m1.num, .slice m1.ao m1.kids.length m1.cap] 25)).alloc (.cells #[.int .i64 52, .string ⟨#[]⟩, .string ⟨#[]⟩, .int .u64 0, .slice (some ⟨c1w.heap.size, 0, none⟩) 2 2] 25)) = V at *
          have hc01 : c0w.heap.size ≤ c1w.heap.size := by have h := HB1.out.size; (try simp at h); omega
          have hz0 : w.heap.size + 1 ≤ c0w.heap.size := by have h := HB0.out.size; (try simp at h); omega
          have L0 : LiesIn (fun q => (w.alloc zN).heap.size ≤ q ∧ q ≠ c1w.heap.size + 1) E0 V m0 := HL0.out.carry (fun q ob hA ho => by
            have hq : q < c0w.heap.size := (Array.getElem?_eq_some_iff.1 ho).1
            have hA2 : (w.alloc zN).drew.heap.size ≤ q := hA
            have hA3 : w.heap.size + 1 ≤ q := by (try simp at hA2); omega
            have hqn : q ≠ c1w.heap.size + 1 := by first | omega | ((try simp at hA2); omega)
            have hbq : c1w.heap[q]? = c0w.heap[q]? := HB1.out.block q hq
            exact ⟨(hYc q (by omega) hqn).trans (hbq.trans ho), by rw [hzz]; exact hA3, hqn⟩)
          have L1 : LiesIn (fun q => (w.alloc zN).heap.size ≤ q ∧ q ≠ c1w.heap.size + 1) E1 V m1 := HL1.out.carry (fun q ob hA ho => by
            have hq : q < c1w.heap.size := (Array.getElem?_eq_some_iff.1 ho).1
            have hA2 : c0w.heap.size ≤ q := hA
            have hA3 : c0w.heap.size ≤ q := by (try simp at hA2); omega
            have hqn : q ≠ c1w.heap.size + 1 := by first | omega | ((try simp at hA2); omega)
            exact ⟨(hYc q hq hqn).trans ho, by rw [hzz]; omega, hqn⟩)
          have hYres := (hYb.block w.heap.size (by simp)).trans (heap_alloc_new w _)
          unfold zN at hYres
          have k5 := (HKB.out V hYb 5).trans HC5.out
          have v0 := cell_of_heap hYn 0
          have v1 := cell_of_heap hYn 1
          have v2 := cell_of_heap hYn 2
          have v3 := cell_of_heap hYn 3
          have v4 := cell_of_heap hYn 4
          have vf3 := frozen_of_heap hYn 3
          have r0 := cell_of_heap hYres 0
          have rf0 := frozen_of_heap hYres 0
          have r1 := cell_of_heap hYres 1
          have rf1 := frozen_of_heap hYres 1
          have r2 := cell_of_heap hYres 2
          have rf2 := frozen_of_heap hYres 2
          have r3 := cell_of_heap hYres 3
          have rf3 := frozen_of_heap hYres 3
          have r4 := cell_of_heap hYres 4
          have rf4 := frozen_of_heap hYres 4
          have hnr1 : ¬ c1w.heap.size + 1 = w.heap.size := by omega
          have hnr2 : ¬ w.heap.size = c1w.heap.size + 1 := by omega
          have hgn : c1w.heap.size ≠ c1w.heap.size + 1 := by omega
          have HPO := Lib.hid (fun (W : World) (hW : W = V ∨ ∃ v, W = V.setCell ⟨c1w.heap.size + 1, 3, none⟩ v) => post52 (w := w.alloc zN) (oa := ao) (c := cap) (u := u') HWF.out hYb hYr (by rw [hzz]; omega) hgn (by rw [hzz]; omega) HS0.out L0 HS1.out L1 W hW)
          have HU := Lib.hid HU3.out
          clear hYb hYc hYn hYr L0 L1 hYres
          rcases HU.out with rfl | rfl | rfl
          · have k6 : V.cell? ⟨b, 5, none⟩ = some (.string ⟨#[82, 101, 113, 117, 105, 114, 101, 100]⟩) := k5
            clear k5
            go_wp2_with fail
            exact bodyPost_ret (v := .agg #[.int .i64 52, .string ⟨#[]⟩, .string ⟨#[]⟩, .int .u64 0, .slice (some ⟨c1w.heap.size, 0, none⟩) 2 2]) (by simp [results, Tryz.f50, go_sem, r0, r1, r2, r3, r4, hnr1, hnr2]) rfl (NodePost.stored _ _ _ _ _ (HPO.out _ (.inl rfl)))
          · have k6 : V.cell? ⟨b, 5, none⟩ = some (.string ⟨#[79, 112, 116, 105, 111, 110, 97, 108]⟩) := k5
            clear k5
            go_wp2_with fail
            exact bodyPost_ret (v := .agg #[.int .i64 52, .string ⟨#[]⟩, .string ⟨#[]⟩, .int .u64 1, .slice (some ⟨c1w.heap.size, 0, none⟩) 2 2]) (by simp [results, Tryz.f50, go_sem, r0, r1, r2, r3, r4, hnr1, hnr2]) rfl (NodePost.stored _ _ _ _ _ (HPO.out _ (.inr ⟨_, rfl⟩)))
          · have k6 : V.cell? ⟨b, 5, none⟩ = some (.string ⟨#[80, 105, 112, 101]⟩) := k5
            clear k5
            go_wp2_with fail
            exact bodyPost_ret (v := .agg #[.int .i64 52, .string ⟨#[]⟩, .string ⟨#[]⟩, .int .u64 2, .slice (some ⟨c1w.heap.size, 0, none⟩) 2 2]) (by simp [results, Tryz.f50, go_sem, r0, r1, r2, r3, r4, hnr1, hnr2]) rfl (NodePost.stored _ _ _ _ _ (HPO.out _ (.inr ⟨_, rfl⟩)))
      · go_simp
        have HX8 := Lib.hid (HX2.out.alloc HX2.out.size (.cells #[.int .i64 0, .string ⟨#[]⟩, .string ⟨#[]⟩, .int .u64 0, .slice none 0 0] 25))
        refine hK.out _ _ ⟨fun _ => HSK.out _ (HKB.out _ HX8.out), fun hS => ?_⟩
        have hHeld := hS (by decide)
        clear hS hK K
        refine headStep (i := 10) rfl (by kernel_rfl) (fun K hK => ?_)
        go_simp
        have HX9 := Lib.hid (HX8.out.alloc HX8.out.size (.cells #[.int .i64 m0.kind, .string m0.text, .string m0.more, .int .u64 m0.num, .slice m0.ao m0.kids.length m0.cap, .int .i64 m1.kind, .string m1.text, .string m1.more, .int .u64 m1.num, .slice m1.ao m1.kids.length m1.cap] 25))
        refine hK.out _ _ ⟨fun _ => HSK.out _ (HKB.out _ HX9.out), fun hS => ?_⟩
        have hHeld := hS (by decide)
        clear hS hK K
        refine headStep (i := 11) rfl (by kernel_rfl) (fun K hK => ?_)
        go_simp
        refine hK.out _ _ ⟨fun _ => HSK.out _ (HKB.out _ HX9.out), fun hS => ?_⟩
        have hHeld := hS (by decide)
        clear hS hK K
        have hw1 : w.heap.size + 1 ≤ c1w.heap.size := by have h := HX2.out.size; (try simp at h); omega
        have hzz : (w.alloc zN).heap.size = w.heap.size + 1 := by simp
        refine headStep (i := 13) rfl (by kernel_rfl) (fun K hK => ?_)
        go_simp
        refine hK.out _ _ ⟨fun h => absurd h (by decide), fun _ => ?_⟩
        clear hK K
        refine headDone (by kernel_rfl) ?_ _
        have hYn : ((c1w.alloc (.cells #[.int .i64 52, .string ⟨#[]⟩, .string ⟨#[]⟩, .int .u64 0, .slice (some ⟨c1w.heap.size + 1, 0, none⟩) 2 2] 25)).alloc (.cells #[.int .i64 m0.kind, .string m0.text, .string m0.more, .int .u64 m0.num, .slice m0.ao m0.kids.length m0.cap, .int .i64 m1.kind, .string m1.text, .string m1.more, .int .u64 m1.num, .slice m1.ao m1.kids.length m1.cap] 25)).heap[c1w.heap.size]? = some (.cells #[.int .i64 52, .string ⟨#[]⟩, .string ⟨#[]⟩, .int .u64 0, .slice (some ⟨c1w.heap.size + 1, 0, none⟩) 2 2] 25 (0, 0)) := (Below.heap_alloc (c1w.alloc (.cells #[.int .i64 52, .string ⟨#[]⟩, .string ⟨#[]⟩, .int .u64 0, .slice (some ⟨c1w.heap.size + 1, 0, none⟩) 2 2] 25)) (.cells #[.int .i64 m0.kind, .string m0.text, .string m0.more, .int .u64 m0.num, .slice m0.ao m0.kids.length m0.cap, .int .i64 m1.kind, .string m1.text, .string m1.more, .int .u64 m1.num, .slice m1.ao m1.kids.length m1.cap] 25) c1w.heap.size (by simp)).trans (heap_alloc_new c1w (.cells #[.int .i64 52, .string ⟨#[]⟩, .string ⟨#[]⟩, .int .u64 0, .slice (some ⟨c1w.heap.size + 1, 0, none⟩) 2 2] 25))
        have hYr : ((c1w.alloc (.cells #[.int .i64 52, .string ⟨#[]⟩, .string ⟨#[]⟩, .int .u64 0, .slice (some ⟨c1w.heap.size + 1, 0, none⟩) 2 2] 25)).alloc (.cells #[.int .i64 m0.kind, .string m0.text, .string m0.more, .int .u64 m0.num, .slice m0.ao m0.kids.length m0.cap, .int .i64 m1.kind, .string m1.text, .string m1.more, .int .u64 m1.num, .slice m1.ao m1.kids.length m1.cap] 25)).heap[c1w.heap.size + 1]? = some (.cells #[.int .i64 m0.kind, .string m0.text, .string m0.more, .int .u64 m0.num, .slice m0.ao m0.kids.length m0.cap, .int .i64 m1.kind, .string m1.text, .string m1.more, .int .u64 m1.num, .slice m1.ao m1.kids.length m1.cap] 25 (0, 0)) := (by have h := heap_alloc_new (c1w.alloc (.cells #[.int .i64 52, .string ⟨#[]⟩, .string ⟨#[]⟩, .int .u64 0, .slice (some ⟨c1w.heap.size + 1, 0, none⟩) 2 2] 25)) (.cells #[.int .i64 m0.kind, .string m0.text, .string m0.more, .int .u64 m0.num, .slice m0.ao m0.kids.length m0.cap, .int .i64 m1.kind, .string m1.text, .string m1.more, .int .u64 m1.num, .slice m1.ao m1.kids.length m1.cap] 25); simpa using h)
        have hYc : ∀ q, q < c1w.heap.size → q ≠ c1w.heap.size → ((c1w.alloc (.cells #[.int .i64 52, .string ⟨#[]⟩, .string ⟨#[]⟩, .int .u64 0, .slice (some ⟨c1w.heap.size + 1, 0, none⟩) 2 2] 25)).alloc (.cells #[.int .i64 m0.kind, .string m0.text, .string m0.more, .int .u64 m0.num, .slice m0.ao m0.kids.length m0.cap, .int .i64 m1.kind, .string m1.text, .string m1.more, .int .u64 m1.num, .slice m1.ao m1.kids.length m1.cap] 25)).heap[q]? = c1w.heap[q]? := fun q hq _ => (Below.heap_alloc (c1w.alloc (.cells #[.int .i64 52, .string ⟨#[]⟩, .string ⟨#[]⟩, .int .u64 0, .slice (some ⟨c1w.heap.size + 1, 0, none⟩) 2 2] 25)) (.cells #[.int .i64 m0.kind, .string m0.text, .string m0.more, .int .u64 m0.num, .slice m0.ao m0.kids.length m0.cap, .int .i64 m1.kind, .string m1.text, .string m1.more, .int .u64 m1.num, .slice m1.ao m1.kids.length m1.cap] 25) q (by simp; omega)).trans (Below.heap_alloc c1w (.cells #[.int .i64 52, .string ⟨#[]⟩, .string ⟨#[]⟩, .int .u64 0, .slice (some ⟨c1w.heap.size + 1, 0, none⟩) 2 2] 25) q hq)
        have hYb : Below (w.alloc zN).heap.size (w.alloc zN) ((c1w.alloc (.cells #[.int .i64 52, .string ⟨#[]⟩, .string ⟨#[]⟩, .int .u64 0, .slice (some ⟨c1w.heap.size + 1, 0, none⟩) 2 2] 25)).alloc (.cells #[.int .i64 m0.kind, .string m0.text, .string m0.more, .int .u64 m0.num, .slice m0.ao m0.kids.length m0.cap, .int .i64 m1.kind, .string m1.text, .string m1.more, .int .u64 m1.num, .slice m1.ao m1.kids.length m1.cap] 25)) := (HX2.out.alloc HX2.out.size (.cells #[.int .i64 52, .string ⟨#[]⟩, .string ⟨#[]⟩, .int .u64 0, .slice (some ⟨c1w.heap.size + 1, 0, none⟩) 2 2] 25)).alloc (by have h := HX2.out.size; simp at h ⊢; omega) (.cells #[.int .i64 m0.kind, .string m0.text, .string m0.more, .int .u64 m0.num, .slice m0.ao m0.kids.length m0.cap, .int .i64 m1.kind, .string m1.text, .string m1.more, .int .u64 m1.num, .slice m1.ao m1.kids.length m1.cap] 25)
        generalize ((c1w.alloc (.cells #[.int .i64 52, .string ⟨#[]⟩, .string ⟨#[]⟩, .int .u64 0, .slice (some ⟨c1w.heap.size + 1, 0, none⟩) 2 2] 25)).alloc (.cells #[.int .i64 m0.kind, .string m0.text, .string m0.more, .int .u64 m0.num, .slice m0.ao m0.kids.length m0.cap, .int .i64 m1.kind, .string m1.text, .string m1.more, .int .u64 m1.num, .slice m1.ao m1.kids.length m1.cap] 25)) = V at *
        have hc01 : c0w.heap.size ≤ c1w.heap.size := by have h := HB1.out.size; (try simp at h); omega
        have hz0 : w.heap.size + 1 ≤ c0w.heap.size := by have h := HB0.out.size; (try simp at h); omega
        have L0 : LiesIn (fun q => (w.alloc zN).heap.size ≤ q ∧ q ≠ c1w.heap.size) E0 V m0 := HL0.out.carry (fun q ob hA ho => by
          have hq : q < c0w.heap.size := (Array.getElem?_eq_some_iff.1 ho).1
          have hA2 : (w.alloc zN).drew.heap.size ≤ q := hA
          have hA3 : w.heap.size + 1 ≤ q := by (try simp at hA2); omega
          have hqn : q ≠ c1w.heap.size := by first | omega | ((try simp at hA2); omega)
          have hbq : c1w.heap[q]? = c0w.heap[q]? := HB1.out.block q hq
          exact ⟨(hYc q (by omega) hqn).trans (hbq.trans ho), by rw [hzz]; exact hA3, hqn⟩)
        have L1 : LiesIn (fun q => (w.alloc zN).heap.size ≤ q ∧ q ≠ c1w.heap.size) E1 V m1 := HL1.out.carry (fun q ob hA ho => by
          have hq : q < c1w.heap.size := (Array.getElem?_eq_some_iff.1 ho).1
          have hA2 : c0w.heap.size ≤ q := hA
          have hA3 : c0w.heap.size ≤ q := by (try simp at hA2); omega
          have hqn : q ≠ c1w.heap.size := by first | omega | ((try simp at hA2); omega)
          exact ⟨(hYc q hq hqn).trans ho, by rw [hzz]; omega, hqn⟩)
        have hYres := (hYb.block w.heap.size (by simp)).trans (heap_alloc_new w _)
        unfold zN at hYres
        have k5 := (HKB.out V hYb 5).trans HC5.out
        have v0 := cell_of_heap hYn 0
        have v1 := cell_of_heap hYn 1
        have v2 := cell_of_heap hYn 2
        have v3 := cell_of_heap hYn 3
        have v4 := cell_of_heap hYn 4
        have vf3 := frozen_of_heap hYn 3
        have r0 := cell_of_heap hYres 0
        have rf0 := frozen_of_heap hYres 0
        have r1 := cell_of_heap hYres 1
        have rf1 := frozen_of_heap hYres 1
        have r2 := cell_of_heap hYres 2
        have rf2 := frozen_of_heap hYres 2
        have r3 := cell_of_heap hYres 3
        have rf3 := frozen_of_heap hYres 3
        have r4 := cell_of_heap hYres 4
        have rf4 := frozen_of_heap hYres 4
        have hnr1 : ¬ c1w.heap.size = w.heap.size := by omega
        have hnr2 : ¬ w.heap.size = c1w.heap.size := by omega
        have hgn : c1w.heap.size + 1 ≠ c1w.heap.size := by omega
        have HPO := Lib.hid (fun (W : World) (hW : W = V ∨ ∃ v, W = V.setCell ⟨c1w.heap.size, 3, none⟩ v) => post52 (w := w.alloc zN) (oa := ao) (c := cap) (u := u') HWF.out hYb hYr (by rw [hzz]; omega) hgn (by rw [hzz]; omega) HS0.out L0 HS1.out L1 W hW)
        have HU := Lib.hid HU3.out
        clear hYb hYc hYn hYr L0 L1 hYres
        rcases HU.out with rfl | rfl | rfl
        · have k6 : V.cell? ⟨b, 5, none⟩ = some (.string ⟨#[82, 101, 113, 117, 105, 114, 101, 100]⟩) := k5
          clear k5
          go_wp2_with fail
          exact bodyPost_ret (v := .agg #[.int .i64 52, .string ⟨#[]⟩, .string ⟨#[]⟩, .int .u64 0, .slice (some ⟨c1w.heap.size + 1, 0, none⟩) 2 2]) (by simp [results, Tryz.f50, go_sem, r0, r1, r2, r3, r4, hnr1, hnr2]) rfl (NodePost.stored _ _ _ _ _ (HPO.out _ (.inl rfl)))
        · have k6 : V.cell? ⟨b, 5, none⟩ = some (.string ⟨#[79, 112, 116, 105, 111, 110, 97, 108]⟩) := k5
          clear k5
          go_wp2_with fail
          exact bodyPost_ret (v := .agg #[.int .i64 52, .string ⟨#[]⟩, .string ⟨#[]⟩, .int .u64 1, .slice (some ⟨c1w.heap.size + 1, 0, none⟩) 2 2]) (by simp [results, Tryz.f50, go_sem, r0, r1, r2, r3, r4, hnr1, hnr2]) rfl (NodePost.stored _ _ _ _ _ (HPO.out _ (.inr ⟨_, rfl⟩)))
        · have k6 : V.cell? ⟨b, 5, none⟩ = some (.string ⟨#[80, 105, 112, 101]⟩) := k5
          clear k5
          go_wp2_with fail
          exact bodyPost_ret (v := .agg #[.int .i64 52, .string ⟨#[]⟩, .string ⟨#[]⟩, .int .u64 2, .slice (some ⟨c1w.heap.size + 1, 0, none⟩) 2 2]) (by simp [results, Tryz.f50, go_sem, r0, r1, r2, r3, r4, hnr1, hnr2]) rfl (NodePost.stored _ _ _ _ _ (HPO.out _ (.inr ⟨_, rfl⟩)))
    · go_simp
      have HX11 := Lib.hid (HX1.out.alloc HX1.out.size (.cells #[.int .i64 0, .string ⟨#[]⟩, .string ⟨#[]⟩, .int .u64 0, .slice none 0 0] 25))
      refine hK.out _ _ ⟨fun _ => HSK.out _ (HKB.out _ HX11.out), fun hS => ?_⟩
      have hHeld := hS (by decide)
      clear hS hK K
      refine headStep (i := 9) rfl (by kernel_rfl) (fun K hK => ?_)
      go_simp
      go_at_call 36
      refine (tyNone d hN A x1 _ _ HP1.out HT1.out (HV1.out.below (HY0.out.trans (HX11.out.mono HY0.out.size)))).mono ?_
      rintro e c1w ⟨E1, m1, rfl, hS1, hl1, hb1⟩
      have HS1 := Lib.hid hS1
      have HL1 := Lib.hid hl1
      have HB1 := Lib.hid hb1
      have HX12 := Lib.hid (HX11.out.trans (hb1.mono HX11.out.size))
      clear hS1 hl1 hb1
      refine hK.out _ _ ⟨fun _ => HSK.out _ (HKB.out _ HX12.out), fun hS => ?_⟩
      have hHeld := hS (by decide)
      clear hS hK K
      refine headStep (i := 10) rfl (by kernel_rfl) (fun K hK => ?_)
      go_simp
      have HX13 := Lib.hid (HX12.out.alloc HX12.out.size (.cells #[.int .i64 m0.kind, .string m0.text, .string m0.more, .int .u64 m0.num, .slice m0.ao m0.kids.length m0.cap, .int .i64 m1.kind, .string m1.text, .string m1.more, .int .u64 m1.num, .slice m1.ao m1.kids.length m1.cap] 25))
      refine hK.out _ _ ⟨fun _ => HSK.out _ (HKB.out _ HX13.out), fun hS => ?_⟩
      have hHeld := hS (by decide)
      clear hS hK K
      refine headStep (i := 11) rfl (by kernel_rfl) (fun K hK => ?_)
      go_simp
      refine hK.out _ _ ⟨fun _ => HSK.out _ (HKB.out _ HX13.out), fun hS => ?_⟩
      have hHeld := hS (by decide)
      clear hS hK K
      have hw1 : w.heap.size + 1 ≤ c1w.heap.size := by have h := HX12.out.size; (try simp at h); omega
      have hzz : (w.alloc zN).heap.size = w.heap.size + 1 := by simp
      have hnl1 : c0w.heap.size < c1w.heap.size := by have h := HB1.out.size; (try simp at h); omega
      have hn1 : c1w.heap[c0w.heap.size]? = some (.cells #[.int .i64 0, .string ⟨#[]⟩, .string ⟨#[]⟩, .int .u64 0, .slice none 0 0] 25 (0, 0)) := (HB1.out.block (c0w.heap.size) (by simp)).trans (heap_alloc_new c0w (.cells #[.int .i64 0, .string ⟨#[]⟩, .string ⟨#[]⟩, .int .u64 0, .slice none 0 0] 25))
      have hnw : w.heap.size + 1 ≤ c0w.heap.size := by have h := HB0.out.size; (try simp at h); omega
      have n0 := cell_of_heap hn1 0
      have n1 := cell_of_heap hn1 1
      have n2 := cell_of_heap hn1 2
      have n3 := cell_of_heap hn1 3
      have n4 := cell_of_heap hn1 4
      have f0 := frozen_of_heap hn1 0
      have f1 := frozen_of_heap hn1 1
      have f2 := frozen_of_heap hn1 2
      have f3 := frozen_of_heap hn1 3
      have f4 := frozen_of_heap hn1 4
      have hne1 : ¬ c0w.heap.size = c1w.heap.size := by omega
      have hne2 : ¬ c1w.heap.size = c0w.heap.size := by omega
      refine headStep (i := 13) rfl (by kernel_rfl) (fun K hK => ?_)
      go_simp
      refine hK.out _ _ ⟨fun h => absurd h (by decide), fun _ => ?_⟩
      clear hK K
      refine headDone (by kernel_rfl) ?_ _
      have hC5 : (((((c1w.setCell ⟨c0w.heap.size, 0, none⟩ (.int .i64 52)).setCell ⟨c0w.heap.size, 1, none⟩ (.string ⟨#[]⟩)).setCell ⟨c0w.heap.size, 2, none⟩ (.string ⟨#[]⟩)).setCell ⟨c0w.heap.size, 3, none⟩ (.int .u64 0)).setCell ⟨c0w.heap.size, 4, none⟩ (.slice (some ⟨c1w.heap.size, 0, none⟩) 2 2)).heap.size = c1w.heap.size := by simp [World.setCell]
      have hYn : ((((((c1w.setCell ⟨c0w.heap.size, 0, none⟩ (.int .i64 52)).setCell ⟨c0w.heap.size, 1, none⟩ (.string ⟨#[]⟩)).setCell ⟨c0w.heap.size, 2, none⟩ (.string ⟨#[]⟩)).setCell ⟨c0w.heap.size, 3, none⟩ (.int .u64 0)).setCell ⟨c0w.heap.size, 4, none⟩ (.slice (some ⟨c1w.heap.size, 0, none⟩) 2 2)).alloc (.cells #[.int .i64 m0.kind, .string m0.text, .string m0.more, .int .u64 m0.num, .slice m0.ao m0.kids.length m0.cap, .int .i64 m1.kind, .string m1.text, .string m1.more, .int .u64 m1.num, .slice m1.ao m1.kids.length m1.cap] 25)).heap[c0w.heap.size]? = some (.cells #[.int .i64 52, .string ⟨#[]⟩, .string ⟨#[]⟩, .int .u64 0, .slice (some ⟨c1w.heap.size, 0, none⟩) 2 2] 25 (0, 0)) := (Below.heap_alloc (((((c1w.setCell ⟨c0w.heap.size, 0, none⟩ (.int .i64 52)).setCell ⟨c0w.heap.size, 1, none⟩ (.string ⟨#[]⟩)).setCell ⟨c0w.heap.size, 2, none⟩ (.string ⟨#[]⟩)).setCell ⟨c0w.heap.size, 3, none⟩ (.int .u64 0)).setCell ⟨c0w.heap.size, 4, none⟩ (.slice (some ⟨c1w.heap.size, 0, none⟩) 2 2)) _ _ (by rw [hC5]; exact hnl1)).trans (set_heap (set_heap (set_heap (set_heap (set_heap hn1 0 _) 1 _) 2 _) 3 _) 4 _)
      have hYc : ∀ q, q < c1w.heap.size → q ≠ c0w.heap.size → ((((((c1w.setCell ⟨c0w.heap.size, 0, none⟩ (.int .i64 52)).setCell ⟨c0w.heap.size, 1, none⟩ (.string ⟨#[]⟩)).setCell ⟨c0w.heap.size, 2, none⟩ (.string ⟨#[]⟩)).setCell ⟨c0w.heap.size, 3, none⟩ (.int .u64 0)).setCell ⟨c0w.heap.size, 4, none⟩ (.slice (some ⟨c1w.heap.size, 0, none⟩) 2 2)).alloc (.cells #[.int .i64 m0.kind, .string m0.text, .string m0.more, .int .u64 m0.num, .slice m0.ao m0.kids.length m0.cap, .int .i64 m1.kind, .string m1.text, .string m1.more, .int .u64 m1.num, .slice m1.ao m1.kids.length m1.cap] 25)).heap[q]? = c1w.heap[q]? := fun q hql hq => by rw [Below.heap_alloc (((((c1w.setCell ⟨c0w.heap.size, 0, none⟩ (.int .i64 52)).setCell ⟨c0w.heap.size, 1, none⟩ (.string ⟨#[]⟩)).setCell ⟨c0w.heap.size, 2, none⟩ (.string ⟨#[]⟩)).setCell ⟨c0w.heap.size, 3, none⟩ (.int .u64 0)).setCell ⟨c0w.heap.size, 4, none⟩ (.slice (some ⟨c1w.heap.size, 0, none⟩) 2 2)) _ q (by rw [hC5]; exact hql), Below.heap_setCell _ _ _ _ hq, Below.heap_setCell _ _ _ _ hq, Below.heap_setCell _ _ _ _ hq, Below.heap_setCell _ _ _ _ hq, Below.heap_setCell _ _ _ _ hq]
      have hYr : ((((((c1w.setCell ⟨c0w.heap.size, 0, none⟩ (.int .i64 52)).setCell ⟨c0w.heap.size, 1, none⟩ (.string ⟨#[]⟩)).setCell ⟨c0w.heap.size, 2, none⟩ (.string ⟨#[]⟩)).setCell ⟨c0w.heap.size, 3, none⟩ (.int .u64 0)).setCell ⟨c0w.heap.size, 4, none⟩ (.slice (some ⟨c1w.heap.size, 0, none⟩) 2 2)).alloc (.cells #[.int .i64 m0.kind, .string m0.text, .string m0.more, .int .u64 m0.num, .slice m0.ao m0.kids.length m0.cap, .int .i64 m1.kind, .string m1.text, .string m1.more, .int .u64 m1.num, .slice m1.ao m1.kids.length m1.cap] 25)).heap[c1w.heap.size]? = some (.cells #[.int .i64 m0.kind, .string m0.text, .string m0.more, .int .u64 m0.num, .slice m0.ao m0.kids.length m0.cap, .int .i64 m1.kind, .string m1.text, .string m1.more, .int .u64 m1.num, .slice m1.ao m1.kids.length m1.cap] 25 (0, 0)) := by have h := heap_alloc_new (((((c1w.setCell ⟨c0w.heap.size, 0, none⟩ (.int .i64 52)).setCell ⟨c0w.heap.size, 1, none⟩ (.string ⟨#[]⟩)).setCell ⟨c0w.heap.size, 2, none⟩ (.string ⟨#[]⟩)).setCell ⟨c0w.heap.size, 3, none⟩ (.int .u64 0)).setCell ⟨c0w.heap.size, 4, none⟩ (.slice (some ⟨c1w.heap.size, 0, none⟩) 2 2)) (.cells #[.int .i64 m0.kind, .string m0.text, .string m0.more, .int .u64 m0.num, .slice m0.ao m0.kids.length m0.cap, .int .i64 m1.kind, .string m1.text, .string m1.more, .int .u64 m1.num, .slice m1.ao m1.kids.length m1.cap] 25); rw [hC5] at h; exact h
      have hYb : Below (w.alloc zN).heap.size (w.alloc zN) ((((((c1w.setCell ⟨c0w.heap.size, 0, none⟩ (.int .i64 52)).setCell ⟨c0w.heap.size, 1, none⟩ (.string ⟨#[]⟩)).setCell ⟨c0w.heap.size, 2, none⟩ (.string ⟨#[]⟩)).setCell ⟨c0w.heap.size, 3, none⟩ (.int .u64 0)).setCell ⟨c0w.heap.size, 4, none⟩ (.slice (some ⟨c1w.heap.size, 0, none⟩) 2 2)).alloc (.cells #[.int .i64 m0.kind, .string m0.text, .string m0.more, .int .u64 m0.num, .slice m0.ao m0.kids.length m0.cap, .int .i64 m1.kind, .string m1.text, .string m1.more, .int .u64 m1.num, .slice m1.ao m1.kids.length m1.cap] 25)) := (((((HX12.out.setCell (p := ⟨c0w.heap.size, 0, none⟩) (by rw [hzz]; (first | omega | simp)) _).setCell (p := ⟨c0w.heap.size, 1, none⟩) (by rw [hzz]; (first | omega | simp)) _).setCell (p := ⟨c0w.heap.size, 2, none⟩) (by rw [hzz]; (first | omega | simp)) _).setCell (p := ⟨c0w.heap.size, 3, none⟩) (by rw [hzz]; (first | omega | simp)) _).setCell (p := ⟨c0w.heap.size, 4, none⟩) (by rw [hzz]; (first | omega | simp)) _).alloc (by rw [hC5]; exact HX12.out.size) (.cells #[.int .i64 m0.kind, .string m0.text, .string m0.more, .int .u64 m0.num, .slice m0.ao m0.kids.length m0.cap, .int .i64 m1.kind, .string m1.text, .string m1.more, .int .u64 m1.num, .slice m1.ao m1.kids.length m1.cap] 25)
      generalize ((((((c1w.setCell ⟨c0w.heap.size, 0, none⟩ (.int .i64 52)).setCell ⟨c0w.heap.size, 1, none⟩ (.string ⟨#[]⟩)).setCell ⟨c0w.heap.size, 2, none⟩ (.string ⟨#[]⟩)).setCell ⟨c0w.heap.size, 3, none⟩ (.int .u64 0)).setCell ⟨c0w.heap.size, 4, none⟩ (.slice (some ⟨c1w.heap.size, 0, none⟩) 2 2)).alloc (.cells #[.int .i64 m0.kind, .string m0.text, .string m0.more, .int .u64 m0.num, .slice m0.ao m0.kids.length m0.cap, .int .i64 m1.kind, .string m1.text, .string m1.more, .int .u64 m1.num, .slice m1.ao m1.kids.length m1.cap] 25)) = V at *
      have hc01 : c0w.heap.size ≤ c1w.heap.size := by have h := HB1.out.size; (try simp at h); omega
      have hz0 : w.heap.size + 1 ≤ c0w.heap.size := by have h := HB0.out.size; (try simp at h); omega
      have L0 : LiesIn (fun q => (w.alloc zN).heap.size ≤ q ∧ q ≠ c0w.heap.size) E0 V m0 := HL0.out.carry (fun q ob hA ho => by
        have hq : q < c0w.heap.size := (Array.getElem?_eq_some_iff.1 ho).1
        have hA2 : (w.alloc zN).drew.heap.size ≤ q := hA
        have hA3 : w.heap.size + 1 ≤ q := by (try simp at hA2); omega
        have hqn : q ≠ c0w.heap.size := by first | omega | ((try simp at hA2); omega)
        have hbq : c1w.heap[q]? = c0w.heap[q]? := (HB1.out.block q (by simp; omega)).trans (Below.heap_alloc c0w _ q hq)
        exact ⟨(hYc q (by omega) hqn).trans (hbq.trans ho), by rw [hzz]; exact hA3, hqn⟩)
      have L1 : LiesIn (fun q => (w.alloc zN).heap.size ≤ q ∧ q ≠ c0w.heap.size) E1 V m1 := HL1.out.carry (fun q ob hA ho => by
        have hq : q < c1w.heap.size := (Array.getElem?_eq_some_iff.1 ho).1
        have hA2 : (c0w.alloc (.cells #[.int .i64 0, .string ⟨#[]⟩, .string ⟨#[]⟩, .int .u64 0, .slice none 0 0] 25)).heap.size ≤ q := hA
        have hA3 : c0w.heap.size ≤ q := by (try simp at hA2); omega
        have hqn : q ≠ c0w.heap.size := by first | omega | ((try simp at hA2); omega)
        exact ⟨(hYc q hq hqn).trans ho, by rw [hzz]; omega, hqn⟩)
      have hYres := (hYb.block w.heap.size (by simp)).trans (heap_alloc_new w _)
      unfold zN at hYres
      have k5 := (HKB.out V hYb 5).trans HC5.out
      have v0 := cell_of_heap hYn 0
      have v1 := cell_of_heap hYn 1
      have v2 := cell_of_heap hYn 2
      have v3 := cell_of_heap hYn 3
      have v4 := cell_of_heap hYn 4
      have vf3 := frozen_of_heap hYn 3
      have r0 := cell_of_heap hYres 0
      have rf0 := frozen_of_heap hYres 0
      have r1 := cell_of_heap hYres 1
      have rf1 := frozen_of_heap hYres 1
      have r2 := cell_of_heap hYres 2
      have rf2 := frozen_of_heap hYres 2
      have r3 := cell_of_heap hYres 3
      have rf3 := frozen_of_heap hYres 3
      have r4 := cell_of_heap hYres 4
      have rf4 := frozen_of_heap hYres 4
      have hnr1 : ¬ c0w.heap.size = w.heap.size := by omega
      have hnr2 : ¬ w.heap.size = c0w.heap.size := by omega
      have hgn : c1w.heap.size ≠ c0w.heap.size := by omega
      have HPO := Lib.hid (fun (W : World) (hW : W = V ∨ ∃ v, W = V.setCell ⟨c0w.heap.size, 3, none⟩ v) => post52 (w := w.alloc zN) (oa := ao) (c := cap) (u := u') HWF.out hYb hYr (by rw [hzz]; omega) hgn (by rw [hzz]; omega) HS0.out L0 HS1.out L1 W hW)
      have HU := Lib.hid HU3.out
      clear hYb hYc hYn hYr L0 L1 hYres hC5 n0 n1 n2 n3 n4 f0 f1 f2 f3 f4 hn1 hne1 hne2
      rcases HU.out with rfl | rfl | rfl
      · have k6 : V.cell? ⟨b, 5, none⟩ = some (.string ⟨#[82, 101, 113, 117, 105, 114, 101, 100]⟩) := k5
        clear k5
        go_wp2_with fail
        exact bodyPost_ret (v := .agg #[.int .i64 52, .string ⟨#[]⟩, .string ⟨#[]⟩, .int .u64 0, .slice (some ⟨c1w.heap.size, 0, none⟩) 2 2]) (by simp [results, Tryz.f50, go_sem, r0, r1, r2, r3, r4, hnr1, hnr2]) rfl (NodePost.stored _ _ _ _ _ (HPO.out _ (.inl rfl)))
      · have k6 : V.cell? ⟨b, 5, none⟩ = some (.string ⟨#[79, 112, 116, 105, 111, 110, 97, 108]⟩) := k5
        clear k5
        go_wp2_with fail
        exact bodyPost_ret (v := .agg #[.int .i64 52, .string ⟨#[]⟩, .string ⟨#[]⟩, .int .u64 1, .slice (some ⟨c1w.heap.size, 0, none⟩) 2 2]) (by simp [results, Tryz.f50, go_sem, r0, r1, r2, r3, r4, hnr1, hnr2]) rfl (NodePost.stored _ _ _ _ _ (HPO.out _ (.inr ⟨_, rfl⟩)))
      · have k6 : V.cell? ⟨b, 5, none⟩ = some (.string ⟨#[80, 105, 112, 101]⟩) := k5
        clear k5
        go_wp2_with fail
        exact bodyPost_ret (v := .agg #[.int .i64 52, .string ⟨#[]⟩, .string ⟨#[]⟩, .int .u64 2, .slice (some ⟨c1w.heap.size, 0, none⟩) 2 2]) (by simp [results, Tryz.f50, go_sem, r0, r1, r2, r3, r4, hnr1, hnr2]) rfl (NodePost.stored _ _ _ _ _ (HPO.out _ (.inr ⟨_, rfl⟩)))
  · go_simp
    have HX15 := Lib.hid (HW0.out.alloc HW0.out.size (.cells #[.int .i64 0, .string ⟨#[]⟩, .string ⟨#[]⟩, .int .u64 0, .slice none 0 0] 25))
    refine hK.out _ _ ⟨fun _ => HSK.out _ (HKB.out _ HX15.out), fun hS => ?_⟩
    have hHeld := hS (by decide)
    clear hS hK K
    refine headStep (i := 4) rfl (by kernel_rfl) (fun K hK => ?_)
    go_simp
    go_at_call 34
    refine (mayNone A x0 _ _ HP0.out (HV0.out.below (HY0.out.trans (HX15.out.mono HY0.out.size)))).mono ?_
    rintro e c0w ⟨E0, m0, rfl, hS0, hl0, hb0⟩
    have HS0 := Lib.hid hS0
    have HL0 := Lib.hid hl0
    have HB0 := Lib.hid hb0
    have HX16 := Lib.hid (HX15.out.trans (hb0.mono HX15.out.size))
    clear hS0 hl0 hb0
    refine hK.out _ _ ⟨fun _ => HSK.out _ (HKB.out _ HX16.out), fun hS => ?_⟩
    have hHeld := hS (by decide)
    clear hS hK K
    refine headStep (i := 9) rfl (by kernel_rfl) (fun K hK => ?_)
    go_simp
    go_at_call 36
    refine (tyNone d hN A x1 _ _ HP1.out HT1.out (HV1.out.below (HY0.out.trans (HX16.out.mono HY0.out.size)))).mono ?_
    rintro e c1w ⟨E1, m1, rfl, hS1, hl1, hb1⟩
    have HS1 := Lib.hid hS1
    have HL1 := Lib.hid hl1
    have HB1 := Lib.hid hb1
    have HX17 := Lib.hid (HX16.out.trans (hb1.mono HX16.out.size))
    clear hS1 hl1 hb1
    refine hK.out _ _ ⟨fun _ => HSK.out _ (HKB.out _ HX17.out), fun hS => ?_⟩
    have hHeld := hS (by decide)
    clear hS hK K
    refine headStep (i := 10) rfl (by kernel_rfl) (fun K hK => ?_)
    go_simp
    have HX18 := Lib.hid (HX17.out.alloc HX17.out.size (.cells #[.int .i64 m0.kind, .string m0.text, .string m0.more, .int .u64 m0.num, .slice m0.ao m0.kids.length m0.cap, .int .i64 m1.kind, .string m1.text, .string m1.more, .int .u64 m1.num, .slice m1.ao m1.kids.length m1.cap] 25))
    refine hK.out _ _ ⟨fun _ => HSK.out _ (HKB.out _ HX18.out), fun hS => ?_⟩
    have hHeld := hS (by decide)
    clear hS hK K
    refine headStep (i := 11) rfl (by kernel_rfl) (fun K hK => ?_)
    go_simp
    refine hK.out _ _ ⟨fun _ => HSK.out _ (HKB.out _ HX18.out), fun hS => ?_⟩
    have hHeld := hS (by decide)
    clear hS hK K
    have hw1 : w.heap.size + 1 ≤ c1w.heap.size := by have h := HX17.out.size; (try simp at h); omega
    have hzz : (w.alloc zN).heap.size = w.heap.size + 1 := by simp
    have hnl : w.heap.size + 1 < c0w.heap.size := by have h := HB0.out.size; (try simp at h); omega
    have hn0 : c0w.heap[w.heap.size + 1]? = some (.cells #[.int .i64 0, .string ⟨#[]⟩, .string ⟨#[]⟩, .int .u64 0, .slice none 0 0] 25 (0, 0)) := (HB0.out.block (w.heap.size + 1) (by simp)).trans (by have h := heap_alloc_new (w.alloc zN).drew (.cells #[.int .i64 0, .string ⟨#[]⟩, .string ⟨#[]⟩, .int .u64 0, .slice none 0 0] 25); simpa using h)
    have hn1 : c1w.heap[w.heap.size + 1]? = some (.cells #[.int .i64 0, .string ⟨#[]⟩, .string ⟨#[]⟩, .int .u64 0, .slice none 0 0] 25 (0, 0)) := (HB1.out.block (w.heap.size + 1) hnl).trans hn0
    have hnl1 : w.heap.size + 1 < c1w.heap.size := Nat.lt_of_lt_of_le hnl HB1.out.size
    have n0 := cell_of_heap hn1 0
    have n1 := cell_of_heap hn1 1
    have n2 := cell_of_heap hn1 2
    have n3 := cell_of_heap hn1 3
    have n4 := cell_of_heap hn1 4
    have f0 := frozen_of_heap hn1 0
    have f1 := frozen_of_heap hn1 1
    have f2 := frozen_of_heap hn1 2
    have f3 := frozen_of_heap hn1 3
    have f4 := frozen_of_heap hn1 4
    have hne1 : ¬ w.heap.size + 1 = c1w.heap.size := by omega
    have hne2 : ¬ c1w.heap.size = w.heap.size + 1 := by omega
    refine headStep (i := 13) rfl (by kernel_rfl) (fun K hK => ?_)
    go_simp
    refine hK.out _ _ ⟨fun h => absurd h (by decide), fun _ => ?_⟩
    clear hK K
    refine headDone (by kernel_rfl) ?_ _
    have hC5 : (((((c1w.setCell ⟨w.heap.size + 1, 0, none⟩ (.int .i64 52)).setCell ⟨w.heap.size + 1, 1, none⟩ (.string ⟨#[]⟩)).setCell ⟨w.heap.size + 1, 2, none⟩ (.string ⟨#[]⟩)).setCell ⟨w.heap.size + 1, 3, none⟩ (.int .u64 0)).setCell ⟨w.heap.size + 1, 4, none⟩ (.slice (some ⟨c1w.heap.size, 0, none⟩) 2 2)).heap.size = c1w.heap.size := by simp [World.setCell]
    have hYn : ((((((c1w.setCell ⟨w.heap.size + 1, 0, none⟩ (.int .i64 52)).setCell ⟨w.heap.size + 1, 1, none⟩ (.string ⟨#[]⟩)).setCell ⟨w.heap.size + 1, 2, none⟩ (.string ⟨#[]⟩)).setCell ⟨w.heap.size + 1, 3, none⟩ (.int .u64 0)).setCell ⟨w.heap.size + 1, 4, none⟩ (.slice (some ⟨c1w.heap.size, 0, none⟩) 2 2)).alloc (.cells #[.int .i64 m0.kind, .string m0.text, .string m0.more, .int .u64 m0.num, .slice m0.ao m0.kids.length m0.cap, .int .i64 m1.kind, .string m1.text, .string m1.more, .int .u64 m1.num, .slice m1.ao m1.kids.length m1.cap] 25)).heap[w.heap.size + 1]? = some (.cells #[.int .i64 52, .string ⟨#[]⟩, .string ⟨#[]⟩, .int .u64 0, .slice (some ⟨c1w.heap.size, 0, none⟩) 2 2] 25 (0, 0)) := (Below.heap_alloc (((((c1w.setCell ⟨w.heap.size + 1, 0, none⟩ (.int .i64 52)).setCell ⟨w.heap.size + 1, 1, none⟩ (.string ⟨#[]⟩)).setCell ⟨w.heap.size + 1, 2, none⟩ (.string ⟨#[]⟩)).setCell ⟨w.heap.size + 1, 3, none⟩ (.int .u64 0)).setCell ⟨w.heap.size + 1, 4, none⟩ (.slice (some ⟨c1w.heap.size, 0, none⟩) 2 2)) _ _ (by rw [hC5]; exact hnl1)).trans (set_heap (set_heap (set_heap (set_heap (set_heap hn1 0 _) 1 _) 2 _) 3 _) 4 _)
    have hYc : ∀ q, q < c1w.heap.size → q ≠ w.heap.size + 1 → ((((((c1w.setCell ⟨w.heap.size + 1, 0, none⟩ (.int .i64 52)).setCell ⟨w.heap.size + 1, 1, none⟩ (.string ⟨#[]⟩)).setCell ⟨w.heap.size + 1, 2, none⟩ (.string ⟨#[]⟩)).setCell ⟨w.heap.size + 1, 3, none⟩ (.int .u64 0)).setCell ⟨w.heap.size + 1, 4, none⟩ (.slice (some ⟨c1w.heap.size, 0, none⟩) 2 2)).alloc (.cells #[.int .i64 m0.kind, .string m0.text, .string m0.more, .int .u64 m0.num, .slice m0.ao m0.kids.length m0.cap, .int .i64 m1.kind, .string m1.text, .string m1.more, .int .u64 m1.num, .slice m1.ao m1.kids.length m1.cap] 25)).heap[q]? = c1w.heap[q]? := fun q hql hq => by rw [Below.heap_alloc (((((c1w.setCell ⟨w.heap.size + 1, 0, none⟩ (.int .i64 52)).setCell ⟨w.heap.size + 1, 1, none⟩ (.string ⟨#[]⟩)).setCell ⟨w.heap.size + 1, 2, none⟩ (.string ⟨#[]⟩)).setCell ⟨w.heap.size + 1, 3, none⟩ (.int .u64 0)).setCell ⟨w.heap.size + 1, 4, none⟩ (.slice (some ⟨c1w.heap.size, 0, none⟩) 2 2)) _ q (by rw [hC5]; exact hql), Below.heap_setCell _ _ _ _ hq, Below.heap_setCell _ _ _ _ hq, Below.heap_setCell _ _ _ _ hq, Below.heap_setCell _ _ _ _ hq, Below.heap_setCell _ _ _ _ hq]
    have hYr : ((((((c1w.setCell ⟨w.heap.size + 1, 0, none⟩ (.int .i64 52)).setCell ⟨w.heap.size + 1, 1, none⟩ (.string ⟨#[]⟩)).setCell ⟨w.heap.size + 1, 2, none⟩ (.string ⟨#[]⟩)).setCell ⟨w.heap.size + 1, 3, none⟩ (.int .u64 0)).setCell ⟨w.heap.size + 1, 4, none⟩ (.slice (some ⟨c1w.heap.size, 0, none⟩) 2 2)).alloc (.cells #[.int .i64 m0.kind, .string m0.text, .string m0.more, .int .u64 m0.num, .slice m0.ao m0.kids.length m0.cap, .int .i64 m1.kind, .string m1.text, .string m1.more, .int .u64 m1.num, .slice m1.ao m1.kids.length m1.cap] 25)).heap[c1w.heap.size]? = some (.cells #[.int .i64 m0.kind, .string m0.text, .string m0.more, .int .u64 m0.num, .slice m0.ao m0.kids.length m0.cap, .int .i64 m1.kind, .string m1.text, .string m1.more, .int .u64 m1.num, .slice m1.ao m1.kids.length m1.cap] 25 (0, 0)) := by have h := heap_alloc_new (((((c1w.setCell ⟨w.heap.size + 1, 0, none⟩ (.int .i64 52)).setCell ⟨w.heap.size + 1, 1, none⟩ (.string ⟨#[]⟩)).setCell ⟨w.heap.size + 1, 2, none⟩ (.string ⟨#[]⟩)).setCell ⟨w.heap.size + 1, 3, none⟩ (.int .u64 0)).setCell ⟨w.heap.size + 1, 4, none⟩ (.slice (some ⟨c1w.heap.size, 0, none⟩) 2 2)) (.cells #[.int .i64 m0.kind, .string m0.text, .string m0.more, .int .u64 m0.num, .slice m0.ao m0.kids.length m0.cap, .int .i64 m1.kind, .string m1.text, .string m1.more, .int .u64 m1.num, .slice m1.ao m1.kids.length m1.cap] 25); rw [hC5] at h; exact h
    have hYb : Below (w.alloc zN).heap.size (w.alloc zN) ((((((c1w.setCell ⟨w.heap.size + 1, 0, none⟩ (.int .i64 52)).setCell ⟨w.heap.size + 1, 1, none⟩ (.string ⟨#[]⟩)).setCell ⟨w.heap.size + 1, 2, none⟩ (.string ⟨#[]⟩)).setCell ⟨w.heap.size + 1, 3, none⟩ (.int .u64 0)).setCell ⟨w.heap.size + 1, 4, none⟩ (.slice (some ⟨c1w.heap.size, 0, none⟩) 2 2)).alloc (.cells #[.int .i64 m0.kind, .string m0.text, .string m0.more, .int .u64 m0.num, .slice m0.ao m0.kids.length m0.cap, .int .i64 m1.kind, .string m1.text, .string m1.more, .int .u64 m1.num, .slice m1.ao m1.kids.length m1.cap] 25)) := (((((HX17.out.setCell (p := ⟨w.heap.size + 1, 0, none⟩) (by rw [hzz]; (first | omega | simp)) _).setCell (p := ⟨w.heap.size + 1, 1, none⟩) (by rw [hzz]; (first | omega | simp)) _).setCell (p := ⟨w.heap.size + 1, 2, none⟩) (by rw [hzz]; (first | omega | simp)) _).setCell (p := ⟨w.heap.size + 1, 3, none⟩) (by rw [hzz]; (first | omega | simp)) _).setCell (p := ⟨w.heap.size + 1, 4, none⟩) (by rw [hzz]; (first | omega | simp)) _).alloc (by rw [hC5]; exact HX17.out.size) (.cells #[.int .i64 m0.kind, .string m0.text, .string m0.more, .int .u64 m0.num, .slice m0.ao m0.kids.length m0.cap, .int .i64 m1.kind, .string m1.text, .string m1.more, .int .u64 m1.num, .slice m1.ao m1.kids.length m1.cap] 25)
    generalize ((((((c1w.setCell ⟨w.heap.size + 1, 0, none⟩ (.int .i64 52)).setCell ⟨w.heap.size + 1, 1, none⟩ (.string ⟨#[]⟩)).setCell ⟨w.heap.size + 1, 2, none⟩ (.string ⟨#[]⟩)).setCell ⟨w.heap.size + 1, 3, none⟩ (.int .u64 0)).setCell ⟨w.heap.size + 1, 4, none⟩ (.slice (some ⟨c1w.heap.size, 0, none⟩) 2 2)).alloc (.cells #[.int .i64 m0.kind, .string m0.text, .string m0.more, .int .u64 m0.num, .slice m0.ao m0.kids.length m0.cap, .int .i64 m1.kind, .string m1.text, .string m1.more, .int .u64 m1.num, .slice m1.ao m1.kids.length m1.cap] 25)) = V at *
    have hc01 : c0w.heap.size ≤ c1w.heap.size := by have h := HB1.out.size; (try simp at h); omega
    have hz0 : w.heap.size + 1 ≤ c0w.heap.size := by have h := HB0.out.size; (try simp at h); omega
    have L0 : LiesIn (fun q => (w.alloc zN).heap.size ≤ q ∧ q ≠ w.heap.size + 1) E0 V m0 := HL0.out.carry (fun q ob hA ho => by
      have hq : q < c0w.heap.size := (Array.getElem?_eq_some_iff.1 ho).1
      have hA2 : ((w.alloc zN).drew.alloc (.cells #[.int .i64 0, .string ⟨#[]⟩, .string ⟨#[]⟩, .int .u64 0, .slice none 0 0] 25)).heap.size ≤ q := hA
      have hA3 : w.heap.size + 1 ≤ q := by (try simp at hA2); omega
      have hqn : q ≠ w.heap.size + 1 := by first | omega | ((try simp at hA2); omega)
      have hbq : c1w.heap[q]? = c0w.heap[q]? := HB1.out.block q hq
      exact ⟨(hYc q (by omega) hqn).trans (hbq.trans ho), by rw [hzz]; exact hA3, hqn⟩)
    have L1 : LiesIn (fun q => (w.alloc zN).heap.size ≤ q ∧ q ≠ w.heap.size + 1) E1 V m1 := HL1.out.carry (fun q ob hA ho => by
      have hq : q < c1w.heap.size := (Array.getElem?_eq_some_iff.1 ho).1
      have hA2 : c0w.heap.size ≤ q := hA
      have hA3 : c0w.heap.size ≤ q := by (try simp at hA2); omega
      have hqn : q ≠ w.heap.size + 1 := by first | omega | ((try simp at hA2); omega)
      exact ⟨(hYc q hq hqn).trans ho, by rw [hzz]; omega, hqn⟩)
    have hYres := (hYb.block w.heap.size (by simp)).trans (heap_alloc_new w _)
    unfold zN at hYres
    have k5 := (HKB.out V hYb 5).trans HC5.out
    have v0 := cell_of_heap hYn 0
    have v1 := cell_of_heap hYn 1
    have v2 := cell_of_heap hYn 2
    have v3 := cell_of_heap hYn 3
    have v4 := cell_of_heap hYn 4
    have vf3 := frozen_of_heap hYn 3
    have r0 := cell_of_heap hYres 0
    have rf0 := frozen_of_heap hYres 0
    have r1 := cell_of_heap hYres 1
    have rf1 := frozen_of_heap hYres 1
    have r2 := cell_of_heap hYres 2
    have rf2 := frozen_of_heap hYres 2
    have r3 := cell_of_heap hYres 3
    have rf3 := frozen_of_heap hYres 3
    have r4 := cell_of_heap hYres 4
    have rf4 := frozen_of_heap hYres 4
    have hnr1 : ¬ w.heap.size + 1 = w.heap.size := by omega
    have hnr2 : ¬ w.heap.size = w.heap.size + 1 := by omega
    have hgn : c1w.heap.size ≠ w.heap.size + 1 := by omega
    have HPO := Lib.hid (fun (W : World) (hW : W = V ∨ ∃ v, W = V.setCell ⟨w.heap.size + 1, 3, none⟩ v) => post52 (w := w.alloc zN) (oa := ao) (c := cap) (u := u') HWF.out hYb hYr (by rw [hzz]; omega) hgn (by rw [hzz]; omega) HS0.out L0 HS1.out L1 W hW)
    have HU := Lib.hid HU3.out
    clear hYb hYc hYn hYr L0 L1 hYres hC5 n0 n1 n2 n3 n4 f0 f1 f2 f3 f4 hn1 hne1 hne2 hn0
    rcases HU.out with rfl | rfl | rfl
    · have k6 : V.cell? ⟨b, 5, none⟩ = some (.string ⟨#[82, 101, 113, 117, 105, 114, 101, 100]⟩) := k5
      clear k5
      go_wp2_with fail
      exact bodyPost_ret (v := .agg #[.int .i64 52, .string ⟨#[]⟩, .string ⟨#[]⟩, .int .u64 0, .slice (some ⟨c1w.heap.size, 0, none⟩) 2 2]) (by simp [results, Tryz.f50, go_sem, r0, r1, r2, r3, r4, hnr1, hnr2]) rfl (NodePost.stored _ _ _ _ _ (HPO.out _ (.inl rfl)))
    · have k6 : V.cell? ⟨b, 5, none⟩ = some (.string ⟨#[79, 112, 116, 105, 111, 110, 97, 108]⟩) := k5
      clear k5
      go_wp2_with fail
      exact bodyPost_ret (v := .agg #[.int .i64 52, .string ⟨#[]⟩, .string ⟨#[]⟩, .int .u64 1, .slice (some ⟨c1w.heap.size, 0, none⟩) 2 2]) (by simp [results, Tryz.f50, go_sem, r0, r1, r2, r3, r4, hnr1, hnr2]) rfl (NodePost.stored _ _ _ _ _ (HPO.out _ (.inr ⟨_, rfl⟩)))
    · have k6 : V.cell? ⟨b, 5, none⟩ = some (.string ⟨#[80, 105, 112, 101]⟩) := k5
      clear k5
      go_wp2_with fail
      exact bodyPost_ret (v := .agg #[.int .i64 52, .string ⟨#[]⟩, .string ⟨#[]⟩, .int .u64 2, .slice (some ⟨c1w.heap.size, 0, none⟩) 2 2]) (by simp [results, Tryz.f50, go_sem, r0, r1, r2, r3, r4, hnr1, hnr2]) rfl (NodePost.stored _ _ _ _ _ (HPO.out _ (.inr ⟨_, rfl⟩)))
theorem tyNode : ∀ d, NodeTC d
  | 0 => fun _ _ _ _ hT => hT.elim
  | d + 1 => by
    have ih := tyNode d
    intro A n b w hT hR
    obtain ⟨hA, cs, ty, hb, hrow⟩ := hR
    have hlt : b < w.heap.size := (Array.getElem?_eq_some_iff.1 hb).1
    have hsm := hT.2.2.2.1
    rcases hrow with h | h | h | h | h | h | h | h
    · obtain ⟨hk, rfl, x, v, hkx, rfl, hV⟩ := h
      obtain ⟨x', hkx', hx⟩ := hT.k45 (.inl hk)
      rw [hkx] at hkx'
      cases hkx'
      rw [hk, show nTy 45 = 304 from rfl]
      refine via_any _ (by decide) n b w fun w' hbw => ?_
      have hV' := hV.below hbw
      obtain ⟨k, -, rfl, -⟩ := hV
      exact tn_45 d ih A n x b k w' hT.1 hT.2.1 (hT.num0 (by omega)) hT.wf hk hkx ((hbw.block b hlt).trans hb) hx hV'
    · obtain ⟨hk, rfl, x, v, hkx, rfl, hV⟩ := h
      obtain ⟨x', hkx', hx⟩ := hT.k45 (.inr hk)
      rw [hkx] at hkx'
      cases hkx'
      rw [hk, show nTy 46 = 307 from rfl]
      refine via_any _ (by decide) n b w fun w' hbw => ?_
      have hV' := hV.below hbw
      obtain ⟨k, -, rfl, -⟩ := hV
      exact tn_46 d ih A n x b k w' hT.1 hT.2.1 (hT.num0 (by omega)) hT.wf hk hkx ((hbw.block b hlt).trans hb) hx hV'
    · obtain ⟨hk, rfl, x, v, hkx, rfl, hV⟩ := h
      obtain ⟨x', hkx', tx, hx⟩ := hT.k47 hk
      rw [hkx] at hkx'
      cases hkx'
      rw [hk, show nTy 47 = 38 from rfl]
      refine via_any _ (by decide) n b w fun w' hbw => ?_
      have hV' := hV.below hbw
      obtain ⟨k, rfl, -⟩ := hV
      exact tn_47 d ih A n x b k w' hT.1 hT.2.1 (hT.num0 (by omega)) hT.wf hk hkx ((hbw.block b hlt).trans hb) hx tx hV'
    · obtain ⟨hk, rfl, x, y, v, u, hkx, rfl, hV, hU⟩ := h
      obtain ⟨x', y', hkx', tx, hx, ty, hy⟩ := hT.k48 hk
      rw [hkx] at hkx'
      cases hkx'
      rw [hk, show nTy 48 = 309 from rfl]
      refine via_any _ (by decide) n b w fun w' hbw => ?_
      have hV' := hV.below hbw
      have hU' := hU.below hbw
      obtain ⟨k, rfl, -⟩ := hV
      obtain ⟨k2, rfl, -⟩ := hU
      exact tn_48 d ih A n x y b k k2 w' hT.1 hT.2.1 (hT.num0 (by omega)) hT.wf hk hkx ((hbw.block b hlt).trans hb) hx tx hV' hy ty hU'
    · obtain ⟨hk, rfl, x, xs, so, sc, v, hkx, rfl, hPt, hV⟩ := h
      obtain ⟨x', xs', hkx', hx, hxs⟩ := hT.k49 hk
      rw [hkx] at hkx'
      cases hkx'
      rw [hk, show nTy 49 = 66 from rfl]
      refine via_any _ (by decide) n b w fun w' hbw => ?_
      by_cases h1 : 1 ≤ xs.length
      · exact tn_49 d ih A n x xs b v so sc w' hT.1 hT.2.1 (hT.num0 (by omega)) hT.wf hk hkx ((hbw.block b hlt).trans hb) hx (hV.below hbw) (hPt.below hbw) hxs (by rw [hkx, List.length_cons] at hsm; omega) h1
      · obtain rfl : xs = [] := List.eq_nil_of_length_eq_zero (by omega)
        exact tn_49_one d ih A n x b v so sc w' hT.1 hT.2.1 (hT.num0 (by omega)) hT.wf hk hkx ((hbw.block b hlt).trans hb) hx (hV.below hbw)
    · obtain ⟨hk, rfl, x, y, v, u, hkx, rfl, hV, hU⟩ := h
      obtain ⟨x', y', hkx', hx, ty, hy⟩ := hT.k50 hk
      rw [hkx] at hkx'
      cases hkx'
      rw [hk, show nTy 50 = 286 from rfl]
      refine via_any _ (by decide) n b w fun w' hbw => ?_
      have hV' := hV.below hbw
      have hU' := hU.below hbw
      obtain ⟨k, -, rfl, -⟩ := hV
      obtain ⟨k2, rfl, -⟩ := hU
      exact tn_50 d ih A n x y b k k2 w' hT.1 hT.2.1 (hT.num0 (by omega)) hT.wf hk hkx ((hbw.block b hlt).trans hb) hx hV' hy ty hU'
    · obtain ⟨hk, rfl, x, xs, so, sc, v, hkx, rfl, hPt, hV⟩ := h
      obtain ⟨x', xs', hkx', tx, hx, hxs⟩ := hT.k51 hk
      rw [hkx] at hkx'
      cases hkx'
      rw [hk, show nTy 51 = 59 from rfl]
      refine via_any _ (by decide) n b w fun w' hbw => ?_
      have hV' := hV.below hbw
      obtain ⟨k, rfl, -⟩ := hV
      by_cases h1 : 1 ≤ xs.length
      · exact tn_51 d ih A n x xs b k so sc w' hT.1 hT.2.1 (hT.num0 (by omega)) hT.wf hk hkx ((hbw.block b hlt).trans hb) hx tx hV' (hPt.below hbw) hxs (by rw [hkx, List.length_cons] at hsm; omega) h1
      · obtain rfl : xs = [] := List.eq_nil_of_length_eq_zero (by omega)
        exact tn_51_one d ih A n x b k so sc w' hT.1 hT.2.1 (hT.num0 (by omega)) hT.wf hk hkx ((hbw.block b hlt).trans hb) hx tx hV'
    · obtain ⟨hk, rfl, x, y, v, u, hkx, rfl, hV, hU⟩ := h
      obtain ⟨x', y', hkx', hx, ty, hy⟩ := hT.k52 hk
      rw [hkx] at hkx'
      cases hkx'
      rw [hk, show nTy 52 = 274 from rfl]
      refine via_any _ (by decide) n b w fun w' hbw => ?_
      have hV' := hV.below hbw
      have hU' := hU.below hbw
      obtain ⟨k2, rfl, -⟩ := hU
      obtain ⟨po, rfl⟩ : ∃ po, v = .pointer po := by
        rcases hV with ⟨-, rfl⟩ | ⟨-, k, -, rfl, -⟩
        · exact ⟨_, rfl⟩
        · exact ⟨_, rfl⟩
      have h0 := hT.wf.2.2.2.1
      have h2 := hT.2.2.2.2.2.2.1
      exact tn_52 n.num (by omega) d ih A n x y po b k2 w' hT.1 hT.2.1 rfl hT.wf hk hkx ((hbw.block b hlt).trans hb) hx hV' hy ty hU'


end Go.Proofs.YtcbcdgifakcooaaGreatDoor
