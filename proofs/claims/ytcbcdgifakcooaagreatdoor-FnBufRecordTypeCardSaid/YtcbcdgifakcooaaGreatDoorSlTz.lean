/-
  typeSlots at types that have lists. No conditions.
-/
import Derived.Test.YtcbcdgifakcooaaGreatDoorSlTy
namespace Go.Proofs.YtcbcdgifakcooaaGreatDoor
open Go.RowKit
set_option linter.unusedVariables false
set_option linter.unusedSimpArgs false

set_option maxHeartbeats 4000000 in
set_option maxRecDepth 100000 in
theorem slC_49 (W0 : World) (bs : Bool) (n : Nd) (hk : n.kind = 49) (x : Nd) (xs : List Nd) (D : Nat) (R : By → Nat → Prop) (bd : Nat) (R2 : Nat → By → Nat → Prop) (bd2 : Nat → Nat) (bdl : Nat) (hkx : n.kids = x :: xs) (hL : LiesD D W0 n) (hRm : n.kids.length ≤ n.cap) (hx0 : x.kind ≠ 0) (hN : NodeW W0 bs bd x R) (hN2 : ∀ i y, xs[i]? = some y → NodeW W0 bs (bd2 i) y (R2 i)) (q : Nat) (hkl : xs.length = q) (hxs : xs.length ≤ 999) (hbdl : 16 + 4 * xs.length + sumB bd2 xs.length ≤ bdl) : SlotsC W0 bs n (fun sl => ∃ c c2, sl = [⟨1, 4, 0, some (201, c), VecAt q R2, bdl⟩, ⟨2, 4, 0, some (199, c2), R, bd⟩]) := by
  refine slC_any W0 bs n _ (by omega) ?_
  have hcap : xs.length + 1 ≤ n.cap := by rw [hkx, List.length_cons] at hRm; exact hRm
  intro w hb
  obtain ⟨b, o, hao, hbl, hcs⟩ := kid_at hL hb (by rw [hkx]; simp)
  obtain ⟨b2, o2, hao2, hbl2, hcs0⟩ := kid_at hL (Below.refl W0.heap.size W0) (by rw [hkx]; simp)
  rw [hao] at hao2
  cases hao2
  obtain ⟨k, t, m, u, ao, cap, kids⟩ := n
  obtain rfl : k = 49 := hk
  obtain rfl : ao = some ⟨b, o, none⟩ := hao
  obtain rfl : kids = x :: xs := hkx
  have HX := Lib.hid (show NdCells w b o x by have h := hcs 0 x rfl; rw [Nat.zero_mul, Nat.add_zero] at h; exact h)
  have HXS := Lib.hid (show ∀ i y, xs[i]? = some y → NdCells W0 b (o + 5 + i * 5) y from fun i y hy => by have h := hcs0 (i + 1) y hy; rw [show o + (i + 1) * 5 = o + 5 + i * 5 from by omega] at h; exact h)
  have hcap : q + 1 ≤ cap := by have h : xs.length + 1 ≤ cap := hcap; omega
  have HQ := Lib.hid hkl
  have HXL := Lib.hid hxs
  have hq9 : q ≤ 999 := by omega
  have HW0 := Lib.hid hb
  have Hhx0 := Lib.hid hx0
  have HhN := Lib.hid hN
  have HhN2 := Lib.hid hN2
  have Hhbdl := Lib.hid hbdl
  clear hcs hL hb hx0 hN hN2 hbdl
  clear hcs0 hbl2
  rw [show (Nd.mk 49 t m u (some ⟨b, o, none⟩) cap (x :: xs)).val = .agg #[.int .i64 49, .string t, .string m, .int .u64 u, .slice (some ⟨b, o, none⟩) (q + 1 : Nat) cap] from by show Value.agg #[_, _, _, _, .slice _ (xs.length + 1) _] = _; rw [hkl]; rfl]
  clear hkl hxs hRm
  go_enter Tryz.func111, Tryz.ntmps111
  go_upto_region 10 with fail
  have HB := Lib.hid ((Below.refl w.heap.size w).alloc (Nat.le_refl _) (.cells #[.int .i64 49, .string t, .string m, .int .u64 u, .slice (some ⟨b, o, none⟩) (q + 1 : Nat) cap] 25))
  have hsz : w.heap.size < (w.alloc (.cells #[.int .i64 49, .string t, .string m, .int .u64 u, .slice (some ⟨b, o, none⟩) (q + 1 : Nat) cap] 25)).heap.size := by simp
  have n4 : (w.alloc (.cells #[.int .i64 49, .string t, .string m, .int .u64 u, .slice (some ⟨b, o, none⟩) (q + 1 : Nat) cap] 25)).cell? ⟨w.heap.size, 4, none⟩ = some (.slice (some ⟨b, o, none⟩) (q + 1 : Nat) cap) := World.cell?_alloc_at _ _ _ _ rfl
  have hxv := HX.out.below HB.out hbl
  have hbV : b < (w.alloc (.cells #[.int .i64 49, .string t, .string m, .int .u64 u, .slice (some ⟨b, o, none⟩) (q + 1 : Nat) cap] 25)).heap.size := Nat.lt_trans hbl hsz
  obtain ⟨nb, hnb⟩ : ∃ nb, nb = w.heap.size := ⟨_, rfl⟩
  rw [← hnb] at hsz n4 ⊢
  have HNB := Lib.hid hnb
  clear hnb
  generalize w.alloc (.cells #[.int .i64 49, .string t, .string m, .int .u64 u, .slice (some ⟨b, o, none⟩) (q + 1 : Nat) cap] 25) = V at *
  obtain ⟨c0, c1, c2, c3, c4⟩ := hxv
  by_cases hc1 : cap = 1
  · subst hc1
    obtain rfl : q = 0 := by omega
    obtain rfl : xs = [] := List.eq_nil_of_length_eq_zero HQ.out
    have HQ : Hid ((0 : Nat) = 0) := Lib.hid rfl
    have hS0 : V.cell? ⟨nb, 4, none⟩ = some (.slice (some ⟨b, o, none⟩) 1 1) ∧ V.cell? ⟨b, o, none⟩ = some (.int .i64 x.kind) ∧ V.cell? ⟨b, o + 1, none⟩ = some (.string x.text) ∧ V.cell? ⟨b, o + 2, none⟩ = some (.string x.more) ∧ V.cell? ⟨b, o + 3, none⟩ = some (.int .u64 x.num) ∧ V.cell? ⟨b, o + 4, none⟩ = some (.slice x.ao x.kids.length x.cap) := ⟨n4, c0, c1, c2, c3, c4⟩
    have HSK := Lib.hid (show ∀ W : World, Below V.heap.size V W → (W.cell? ⟨nb, 4, none⟩ = some (.slice (some ⟨b, o, none⟩) 1 1) ∧ W.cell? ⟨b, o, none⟩ = some (.int .i64 x.kind) ∧ W.cell? ⟨b, o + 1, none⟩ = some (.string x.text) ∧ W.cell? ⟨b, o + 2, none⟩ = some (.string x.more) ∧ W.cell? ⟨b, o + 3, none⟩ = some (.int .u64 x.num) ∧ W.cell? ⟨b, o + 4, none⟩ = some (.slice x.ao x.kids.length x.cap)) from fun W h => ⟨(h.cell (p := ⟨nb, 4, none⟩) hsz).trans n4, (h.cell (p := ⟨b, o, none⟩) hbV).trans c0, (h.cell (p := ⟨b, o + 1, none⟩) hbV).trans c1, (h.cell (p := ⟨b, o + 2, none⟩) hbV).trans c2, (h.cell (p := ⟨b, o + 3, none⟩) hbV).trans c3, (h.cell (p := ⟨b, o + 4, none⟩) hbV).trans c4⟩)
    have HX0 : Hid (Below V.heap.size V V.drew) := Lib.hid ((Below.refl V.heap.size V).drew)
    refine headBegin (S := fun w' => (w'.cell? ⟨nb, 4, none⟩ = some (.slice (some ⟨b, o, none⟩) 1 1) ∧ w'.cell? ⟨b, o, none⟩ = some (.int .i64 x.kind) ∧ w'.cell? ⟨b, o + 1, none⟩ = some (.string x.text) ∧ w'.cell? ⟨b, o + 2, none⟩ = some (.string x.more) ∧ w'.cell? ⟨b, o + 3, none⟩ = some (.int .u64 x.num) ∧ w'.cell? ⟨b, o + 4, none⟩ = some (.slice x.ao x.kids.length x.cap))) 13 (by kernel_rfl) hS0 (fun hHeld => ?_)
    clear hS0
    refine headTake (i := 0) (v := ?_) rfl (by kernel_rfl) (by kernel_rfl) (by kernel_rfl) (by kernel_rfl) (fun _ _ _ h => h) (Or.inl ⟨by rfl, ?_⟩) hHeld ?_
    rotate_left 1
    · intro w hSw
      go_split_ands
      go_simp
      try with_reducible rfl
    simp only [List.getElem_toArray, List.getElem_cons_zero, List.getElem_cons_succ, Act.put, List.setIfInBounds_toArray, List.set_cons_zero, List.set_cons_succ]
    refine headTake (i := 1) (v := ?_) rfl (by kernel_rfl) (by kernel_rfl) (by kernel_rfl) (by kernel_rfl) (fun _ _ _ h => h) (Or.inl ⟨by rfl, ?_⟩) hHeld ?_
    rotate_left 1
    · intro w hSw
      go_split_ands
      go_simp
      try with_reducible rfl
    simp only [List.getElem_toArray, List.getElem_cons_zero, List.getElem_cons_succ, Act.put, List.setIfInBounds_toArray, List.set_cons_zero, List.set_cons_succ]
    refine headTake (i := 2) (v := ?_) rfl (by kernel_rfl) (by kernel_rfl) (by kernel_rfl) (by kernel_rfl) (fun _ _ _ h => h) (Or.inl ⟨by rfl, ?_⟩) hHeld ?_
    rotate_left 1
    · intro w hSw
      go_split_ands
      go_simp
      try with_reducible rfl
    simp only [List.getElem_toArray, List.getElem_cons_zero, List.getElem_cons_succ, Act.put, List.setIfInBounds_toArray, List.set_cons_zero, List.set_cons_succ]
    refine headTake (i := 5) (v := ?_) rfl (by kernel_rfl) (by kernel_rfl) (by kernel_rfl) (by kernel_rfl) (fun _ _ _ h => h) (Or.inl ⟨by rfl, ?_⟩) hHeld ?_
    rotate_left 1
    · intro w hSw
      go_split_ands
      go_simp
      try with_reducible rfl
    simp only [List.getElem_toArray, List.getElem_cons_zero, List.getElem_cons_succ, Act.put, List.setIfInBounds_toArray, List.set_cons_zero, List.set_cons_succ]
    refine headTake (i := 6) (v := ?_) rfl (by kernel_rfl) (by kernel_rfl) (by kernel_rfl) (by kernel_rfl) (fun _ _ _ h => h) (Or.inl ⟨by rfl, ?_⟩) hHeld ?_
    rotate_left 1
    · intro w hSw
      go_split_ands
      go_simp
      try with_reducible rfl
    simp only [List.getElem_toArray, List.getElem_cons_zero, List.getElem_cons_succ, Act.put, List.setIfInBounds_toArray, List.set_cons_zero, List.set_cons_succ]
    refine headTake (i := 7) (v := ?_) rfl (by kernel_rfl) (by kernel_rfl) (by kernel_rfl) (by kernel_rfl) (fun _ _ _ h => h) (Or.inl ⟨by rfl, ?_⟩) hHeld ?_
    rotate_left 1
    · intro w hSw
      go_split_ands
      go_simp
      try with_reducible rfl
    simp only [List.getElem_toArray, List.getElem_cons_zero, List.getElem_cons_succ, Act.put, List.setIfInBounds_toArray, List.set_cons_zero, List.set_cons_succ]
    refine headTake (i := 8) (v := ?_) rfl (by kernel_rfl) (by kernel_rfl) (by kernel_rfl) (by kernel_rfl) (fun _ _ _ h => h) (Or.inl ⟨by rfl, ?_⟩) hHeld ?_
    rotate_left 1
    · intro w hSw
      go_split_ands
      go_simp
      try with_reducible rfl
    simp only [List.getElem_toArray, List.getElem_cons_zero, List.getElem_cons_succ, Act.put, List.setIfInBounds_toArray, List.set_cons_zero, List.set_cons_succ]
    refine headStep (i := 3) rfl (by kernel_rfl) (fun K hK => ?_)
    go_simp
    go_at_call 176
    refine (listAt_any 1 _ _ _ _).mono ?_
    rintro e c0w ⟨cb0, rfl, hcb0, hct0, hb0⟩
    have HT0 := Lib.hid hct0
    have HB0 := Lib.hid hb0
    have HX1 := Lib.hid (HX0.out.trans (hb0.mono HX0.out.size))
    have HCB0 := Lib.hid (show V.heap.size ≤ cb0 from hcb0)
    clear hct0 hb0 hcb0
    refine hK.out _ _ ⟨fun _ => HSK.out _ HX1.out, fun hS => ?_⟩
    have hHeld := hS (by decide)
    clear hS hK K
    refine headStep2 (i := 4) (j := 9) rfl rfl (by kernel_rfl) (fun K hK => ?_) (fun K hK => ?_)
    · go_simp
      have HX2 := Lib.hid (HX1.out.alloc HX1.out.size (.cells #[.int .i64 1, .int .i64 4, .int .u64 0, .func (.func 201) #[] #[.pointer (some ⟨cb0, 0, none⟩)]] 265))
      have HR0 : Hid (SlV (c0w.alloc (.cells #[.int .i64 1, .int .i64 4, .int .u64 0, .func (.func 201) #[] #[.pointer (some ⟨cb0, 0, none⟩)]] 265)) (.slice (some ⟨c0w.heap.size, 0, none⟩) 1 1) (listSl 1 cb0 (VecAt 0 R2) bdl)) := Lib.hid (slv_new c0w (listSl 1 cb0 (VecAt 0 R2) bdl) 265 Nat.zero_lt_one)
      refine hK.out _ _ ⟨fun _ => HSK.out _ HX2.out, fun hS => ?_⟩
      have hHeld := hS (by decide)
      clear hS hK K
      refine headStep (i := 9) rfl (by kernel_rfl) (fun K hK => ?_)
      go_simp
      go_at_call 177
      show Calls _ _ #[_, x.val] _ _
      refine (maybe_some 2 2 rfl x Hhx0.out R bd _).mono ?_
      rintro e c1w ⟨cb1, g1, rfl, hcb1, hct1, hsv1, hb1⟩
      have HS1 := Lib.hid hsv1
      have HT1 := Lib.hid hct1
      have HCB1 := Lib.hid (Nat.le_trans HX2.out.size hcb1)
      clear hsv1 hct1 hcb1
      have HB1 := Lib.hid hb1
      have HX3 := Lib.hid (HX2.out.trans (hb1.mono HX2.out.size))
      clear hb1
      refine hK.out _ _ ⟨fun _ => HSK.out _ HX3.out, fun hS => ?_⟩
      have hHeld := hS (by decide)
      clear hS hK K
      refine headStep (i := 10) rfl (by kernel_rfl) (fun K hK => ?_)
      go_simp
      have HX4 := Lib.hid (HX3.out.alloc HX3.out.size (.cells #[.slice (some ⟨c0w.heap.size, 0, none⟩) 1 1, .slice (some ⟨g1, 0, none⟩) 1 1] 260))
      refine hK.out _ _ ⟨fun _ => HSK.out _ HX4.out, fun hS => ?_⟩
      have hHeld := hS (by decide)
      clear hS hK K
      refine headStep (i := 11) rfl (by kernel_rfl) (fun K hK => ?_)
      go_simp
      go_at_call 175
      refine (join_any [listSl 1 cb0 (VecAt 0 R2) bdl, nodeSl 2 cb1 R bd] [.slice (some ⟨c0w.heap.size, 0, none⟩) 1 1, .slice (some ⟨g1, 0, none⟩) 1 1] (c1w.heap.size) 2 _ rfl rfl (by decide) (slv2 ((HR0.out.below HB1.out).below ((Below.refl _ _).alloc (Nat.le_refl _) _)) (HS1.out.below ((Below.refl _ _).alloc (Nat.le_refl _) _))) (cells_at c1w [.slice (some ⟨c0w.heap.size, 0, none⟩) 1 1, .slice (some ⟨g1, 0, none⟩) 1 1] 260 _ (by simp)) 2 rfl (by decide)).mono ?_
      rintro e cjw ⟨so, capj, rfl, hown, hbj⟩
      have HOW := Lib.hid hown
      have HBJ := Lib.hid hbj
      have HX5 := Lib.hid (HX4.out.trans (hbj.mono HX4.out.size))
      clear hown hbj
      refine hK.out _ _ ⟨fun _ => HSK.out _ HX5.out, fun hS => ?_⟩
      have hHeld := hS (by decide)
      clear hS hK K
      refine headStep (i := 12) rfl (by kernel_rfl) (fun K hK => ?_)
      go_simp
      refine hK.out _ _ ⟨fun _ => HSK.out _ HX5.out, fun hS => ?_⟩
      have hHeld := hS (by decide)
      clear hS hK K
      refine headDone (by kernel_rfl) ?_ _
      go_wp2_with fail
      go_ret
      have hzw : w.heap.size ≤ V.heap.size := HB.out.size
      have hBW := HB.out.trans (HX4.out.mono hzw)
      refine ⟨_, listSl 1 cb0 (VecAt 0 R2) bdl ++ nodeSl 2 cb1 R bd, (c1w.alloc (.cells #[.slice (some ⟨c0w.heap.size, 0, none⟩) 1 1, .slice (some ⟨g1, 0, none⟩) 1 1] 260)), rfl, ⟨_, _, rfl⟩, hBW, HBJ.out, HOW.out, fun mb rb hm hr h1 h2 tt htt F cc hcc => ?_⟩
      have hW0 := HW0.out.trans (hBW.mono HW0.out.size)
      have hlt0 := World.block_lt_of_cell? _ _ HT0.out
      have e1 := (((Below.refl c1w.heap.size c1w).alloc (Nat.le_refl _) (.cells #[.slice (some ⟨c0w.heap.size, 0, none⟩) 1 1, .slice (some ⟨g1, 0, none⟩) 1 1] 260)).cell (p := ⟨cb0, 0, none⟩) (Nat.lt_of_lt_of_le hlt0 (Nat.le_trans (by simp) HB1.out.size))).trans ((HB1.out.cell (p := ⟨cb0, 0, none⟩) (Nat.lt_trans hlt0 (by simp))).trans ((((Below.refl c0w.heap.size c0w).alloc (Nat.le_refl _) (.cells #[.int .i64 1, .int .i64 4, .int .u64 0, .func (.func 201) #[] #[.pointer (some ⟨cb0, 0, none⟩)]] 265)).cell (p := ⟨cb0, 0, none⟩) hlt0).trans HT0.out))
      have g1' := HT1.out.below ((Below.refl c1w.heap.size c1w).alloc (Nat.le_refl _) (.cells #[.slice (some ⟨c0w.heap.size, 0, none⟩) 1 1, .slice (some ⟨g1, 0, none⟩) 1 1] 260)) HT1.out.lt
      rcases List.mem_append.1 htt with htt | htt
      · obtain rfl := List.mem_singleton.1 htt
        cases hcc
        skip
        skip
        exact list_ref W0 mb bs [] b o _ bd2 bdl R2 (fun i y hy => by simp at hy) HhN2.out (by have := HXL.out; omega) Hhbdl.out cb0 _ rb hW0 h1 h2 e1 (by have q1 := HNB.out; have q2 := HCB0.out; omega) (by have q1 := HNB.out; have q2 := HCB0.out; omega)
      · exact node_refs HhN.out hW0 h1 h2 g1' (by have q1 := HNB.out; have q2 := HCB1.out; omega) (by have q1 := HNB.out; have q2 := HCB1.out; omega) tt htt F cc hcc
    · go_simp
      go_at_call 177
      show Calls _ _ #[_, x.val] _ _
      refine (maybe_some 2 2 rfl x Hhx0.out R bd _).mono ?_
      rintro e c1w ⟨cb1, g1, rfl, hcb1, hct1, hsv1, hb1⟩
      have HS1 := Lib.hid hsv1
      have HT1 := Lib.hid hct1
      have HCB1 := Lib.hid (Nat.le_trans HX1.out.size hcb1)
      clear hsv1 hct1 hcb1
      have HB1 := Lib.hid hb1
      have HX7 := Lib.hid (HX1.out.trans (hb1.mono HX1.out.size))
      clear hb1
      refine hK.out _ _ ⟨fun _ => HSK.out _ HX7.out, fun hS => ?_⟩
      have hHeld := hS (by decide)
      clear hS hK K
      refine headStep (i := 4) rfl (by kernel_rfl) (fun K hK => ?_)
      go_simp
      have HX8 := Lib.hid (HX7.out.alloc HX7.out.size (.cells #[.int .i64 1, .int .i64 4, .int .u64 0, .func (.func 201) #[] #[.pointer (some ⟨cb0, 0, none⟩)]] 265))
      have HR0 : Hid (SlV (c1w.alloc (.cells #[.int .i64 1, .int .i64 4, .int .u64 0, .func (.func 201) #[] #[.pointer (some ⟨cb0, 0, none⟩)]] 265)) (.slice (some ⟨c1w.heap.size, 0, none⟩) 1 1) (listSl 1 cb0 (VecAt 0 R2) bdl)) := Lib.hid (slv_new c1w (listSl 1 cb0 (VecAt 0 R2) bdl) 265 Nat.zero_lt_one)
      refine hK.out _ _ ⟨fun _ => HSK.out _ HX8.out, fun hS => ?_⟩
      have hHeld := hS (by decide)
      clear hS hK K
      refine headStep (i := 10) rfl (by kernel_rfl) (fun K hK => ?_)
      go_simp
      have HX9 := Lib.hid (HX8.out.alloc HX8.out.size (.cells #[.slice (some ⟨c1w.heap.size, 0, none⟩) 1 1, .slice (some ⟨g1, 0, none⟩) 1 1] 260))
      refine hK.out _ _ ⟨fun _ => HSK.out _ HX9.out, fun hS => ?_⟩
      have hHeld := hS (by decide)
      clear hS hK K
      refine headStep (i := 11) rfl (by kernel_rfl) (fun K hK => ?_)
      go_simp
      go_at_call 175
      refine (join_any [listSl 1 cb0 (VecAt 0 R2) bdl, nodeSl 2 cb1 R bd] [.slice (some ⟨c1w.heap.size, 0, none⟩) 1 1, .slice (some ⟨g1, 0, none⟩) 1 1] (c1w.heap.size + 1) 2 _ rfl rfl (by decide) (slv2 (HR0.out.below ((Below.refl _ _).alloc (Nat.le_refl _) _)) ((HS1.out.below ((Below.refl c1w.heap.size c1w).alloc (Nat.le_refl _) (.cells #[.int .i64 1, .int .i64 4, .int .u64 0, .func (.func 201) #[] #[.pointer (some ⟨cb0, 0, none⟩)]] 265))).below ((Below.refl _ _).alloc (Nat.le_refl _) _))) (cells_at (c1w.alloc (.cells #[.int .i64 1, .int .i64 4, .int .u64 0, .func (.func 201) #[] #[.pointer (some ⟨cb0, 0, none⟩)]] 265)) [.slice (some ⟨c1w.heap.size, 0, none⟩) 1 1, .slice (some ⟨g1, 0, none⟩) 1 1] 260 _ (by simp)) 2 rfl (by decide)).mono ?_
      rintro e cjw ⟨so, capj, rfl, hown, hbj⟩
      have HOW := Lib.hid hown
      have HBJ := Lib.hid hbj
      have HX10 := Lib.hid (HX9.out.trans (hbj.mono HX9.out.size))
      clear hown hbj
      refine hK.out _ _ ⟨fun _ => HSK.out _ HX10.out, fun hS => ?_⟩
      have hHeld := hS (by decide)
      clear hS hK K
      refine headStep (i := 12) rfl (by kernel_rfl) (fun K hK => ?_)
      go_simp
      refine hK.out _ _ ⟨fun _ => HSK.out _ HX10.out, fun hS => ?_⟩
      have hHeld := hS (by decide)
      clear hS hK K
      refine headDone (by kernel_rfl) ?_ _
      go_wp2_with fail
      go_ret
      have hzw : w.heap.size ≤ V.heap.size := HB.out.size
      have hBW := HB.out.trans (HX9.out.mono hzw)
      refine ⟨_, listSl 1 cb0 (VecAt 0 R2) bdl ++ nodeSl 2 cb1 R bd, ((c1w.alloc (.cells #[.int .i64 1, .int .i64 4, .int .u64 0, .func (.func 201) #[] #[.pointer (some ⟨cb0, 0, none⟩)]] 265)).alloc (.cells #[.slice (some ⟨c1w.heap.size, 0, none⟩) 1 1, .slice (some ⟨g1, 0, none⟩) 1 1] 260)), rfl, ⟨_, _, rfl⟩, hBW, HBJ.out, HOW.out, fun mb rb hm hr h1 h2 tt htt F cc hcc => ?_⟩
      have hW0 := HW0.out.trans (hBW.mono HW0.out.size)
      have hlt0 := World.block_lt_of_cell? _ _ HT0.out
      have hlt1 : cb0 < c1w.heap.size := Nat.lt_of_lt_of_le hlt0 HB1.out.size
      have e1 := (((Below.refl _ _).alloc (Nat.le_refl _) (.cells #[.slice (some ⟨c1w.heap.size, 0, none⟩) 1 1, .slice (some ⟨g1, 0, none⟩) 1 1] 260)).cell (p := ⟨cb0, 0, none⟩) (Nat.lt_trans hlt1 (by simp))).trans ((((Below.refl c1w.heap.size c1w).alloc (Nat.le_refl _) (.cells #[.int .i64 1, .int .i64 4, .int .u64 0, .func (.func 201) #[] #[.pointer (some ⟨cb0, 0, none⟩)]] 265)).cell (p := ⟨cb0, 0, none⟩) hlt1).trans ((HB1.out.cell (p := ⟨cb0, 0, none⟩) hlt0).trans HT0.out))
      have gz := HT1.out.below ((Below.refl c1w.heap.size c1w).alloc (Nat.le_refl _) (.cells #[.int .i64 1, .int .i64 4, .int .u64 0, .func (.func 201) #[] #[.pointer (some ⟨cb0, 0, none⟩)]] 265)) HT1.out.lt
      have g1' := gz.below ((Below.refl _ _).alloc (Nat.le_refl _) (.cells #[.slice (some ⟨c1w.heap.size, 0, none⟩) 1 1, .slice (some ⟨g1, 0, none⟩) 1 1] 260)) gz.lt
      rcases List.mem_append.1 htt with htt | htt
      · obtain rfl := List.mem_singleton.1 htt
        cases hcc
        skip
        skip
        exact list_ref W0 mb bs [] b o _ bd2 bdl R2 (fun i y hy => by simp at hy) HhN2.out (by have := HXL.out; omega) Hhbdl.out cb0 _ rb hW0 h1 h2 e1 (by have q1 := HNB.out; have q2 := HCB0.out; omega) (by have q1 := HNB.out; have q2 := HCB0.out; omega)
      · exact node_refs HhN.out hW0 h1 h2 g1' (by have q1 := HNB.out; have q2 := HCB1.out; omega) (by have q1 := HNB.out; have q2 := HCB1.out; omega) tt htt F cc hcc
  · have hkc : (q : Int) + 1 ≤ (cap : Int) := by omega
    have hk1 : (1 : Int) ≤ (q : Int) + 1 := by omega
    have hcI : (1 : Int) ≤ (cap : Int) := by omega
    have hkI : (1 : Int) ≤ ((q + 1 : Nat) : Int) := by omega
    have hS0 : V.cell? ⟨nb, 4, none⟩ = some (.slice (some ⟨b, o, none⟩) (q + 1 : Nat) cap) ∧ V.cell? ⟨b, o, none⟩ = some (.int .i64 x.kind) ∧ V.cell? ⟨b, o + 1, none⟩ = some (.string x.text) ∧ V.cell? ⟨b, o + 2, none⟩ = some (.string x.more) ∧ V.cell? ⟨b, o + 3, none⟩ = some (.int .u64 x.num) ∧ V.cell? ⟨b, o + 4, none⟩ = some (.slice x.ao x.kids.length x.cap) := ⟨n4, c0, c1, c2, c3, c4⟩
    have HSK := Lib.hid (show ∀ W : World, Below V.heap.size V W → (W.cell? ⟨nb, 4, none⟩ = some (.slice (some ⟨b, o, none⟩) (q + 1 : Nat) cap) ∧ W.cell? ⟨b, o, none⟩ = some (.int .i64 x.kind) ∧ W.cell? ⟨b, o + 1, none⟩ = some (.string x.text) ∧ W.cell? ⟨b, o + 2, none⟩ = some (.string x.more) ∧ W.cell? ⟨b, o + 3, none⟩ = some (.int .u64 x.num) ∧ W.cell? ⟨b, o + 4, none⟩ = some (.slice x.ao x.kids.length x.cap)) from fun W h => ⟨(h.cell (p := ⟨nb, 4, none⟩) hsz).trans n4, (h.cell (p := ⟨b, o, none⟩) hbV).trans c0, (h.cell (p := ⟨b, o + 1, none⟩) hbV).trans c1, (h.cell (p := ⟨b, o + 2, none⟩) hbV).trans c2, (h.cell (p := ⟨b, o + 3, none⟩) hbV).trans c3, (h.cell (p := ⟨b, o + 4, none⟩) hbV).trans c4⟩)
    have HX0 : Hid (Below V.heap.size V V.drew) := Lib.hid ((Below.refl V.heap.size V).drew)
    refine headBegin (S := fun w' => (w'.cell? ⟨nb, 4, none⟩ = some (.slice (some ⟨b, o, none⟩) (q + 1 : Nat) cap) ∧ w'.cell? ⟨b, o, none⟩ = some (.int .i64 x.kind) ∧ w'.cell? ⟨b, o + 1, none⟩ = some (.string x.text) ∧ w'.cell? ⟨b, o + 2, none⟩ = some (.string x.more) ∧ w'.cell? ⟨b, o + 3, none⟩ = some (.int .u64 x.num) ∧ w'.cell? ⟨b, o + 4, none⟩ = some (.slice x.ao x.kids.length x.cap))) 13 (by kernel_rfl) hS0 (fun hHeld => ?_)
    clear hS0
    refine headTake (i := 0) (v := ?_) rfl (by kernel_rfl) (by kernel_rfl) (by kernel_rfl) (by kernel_rfl) (fun _ _ _ h => h) (Or.inl ⟨by rfl, ?_⟩) hHeld ?_
    rotate_left 1
    · intro w hSw
      go_split_ands
      go_simp
      try with_reducible rfl
    simp only [List.getElem_toArray, List.getElem_cons_zero, List.getElem_cons_succ, Act.put, List.setIfInBounds_toArray, List.set_cons_zero, List.set_cons_succ]
    refine headTake (i := 1) (v := ?_) rfl (by kernel_rfl) (by kernel_rfl) (by kernel_rfl) (by kernel_rfl) (fun _ _ _ h => h) (Or.inl ⟨by rfl, ?_⟩) hHeld ?_
    rotate_left 1
    · intro w hSw
      go_split_ands
      go_simp
      try with_reducible rfl
    simp only [List.getElem_toArray, List.getElem_cons_zero, List.getElem_cons_succ, Act.put, List.setIfInBounds_toArray, List.set_cons_zero, List.set_cons_succ]
    refine headTake (i := 2) (v := ?_) rfl (by kernel_rfl) (by kernel_rfl) (by kernel_rfl) (by kernel_rfl) (fun _ _ _ h => h) (Or.inl ⟨by rfl, ?_⟩) hHeld ?_
    rotate_left 1
    · intro w hSw
      go_split_ands
      go_simp
      try with_reducible rfl
    simp only [List.getElem_toArray, List.getElem_cons_zero, List.getElem_cons_succ, Act.put, List.setIfInBounds_toArray, List.set_cons_zero, List.set_cons_succ]
    refine headTake (i := 5) (v := ?_) rfl (by kernel_rfl) (by kernel_rfl) (by kernel_rfl) (by kernel_rfl) (fun _ _ _ h => h) (Or.inl ⟨by rfl, ?_⟩) hHeld ?_
    rotate_left 1
    · intro w hSw
      go_split_ands
      go_simp
      try with_reducible rfl
    simp only [List.getElem_toArray, List.getElem_cons_zero, List.getElem_cons_succ, Act.put, List.setIfInBounds_toArray, List.set_cons_zero, List.set_cons_succ]
    refine headTake (i := 6) (v := ?_) rfl (by kernel_rfl) (by kernel_rfl) (by kernel_rfl) (by kernel_rfl) (fun _ _ _ h => h) (Or.inl ⟨by rfl, ?_⟩) hHeld ?_
    rotate_left 1
    · intro w hSw
      go_split_ands
      go_simp
      try with_reducible rfl
    simp only [List.getElem_toArray, List.getElem_cons_zero, List.getElem_cons_succ, Act.put, List.setIfInBounds_toArray, List.set_cons_zero, List.set_cons_succ]
    refine headTake (i := 7) (v := ?_) rfl (by kernel_rfl) (by kernel_rfl) (by kernel_rfl) (by kernel_rfl) (fun _ _ _ h => h) (Or.inl ⟨by rfl, ?_⟩) hHeld ?_
    rotate_left 1
    · intro w hSw
      go_split_ands
      go_simp
      try with_reducible rfl
    simp only [List.getElem_toArray, List.getElem_cons_zero, List.getElem_cons_succ, Act.put, List.setIfInBounds_toArray, List.set_cons_zero, List.set_cons_succ]
    refine headTake (i := 8) (v := ?_) rfl (by kernel_rfl) (by kernel_rfl) (by kernel_rfl) (by kernel_rfl) (fun _ _ _ h => h) (Or.inl ⟨by rfl, ?_⟩) hHeld ?_
    rotate_left 1
    · intro w hSw
      go_split_ands
      go_simp
      try with_reducible rfl
    simp only [List.getElem_toArray, List.getElem_cons_zero, List.getElem_cons_succ, Act.put, List.setIfInBounds_toArray, List.set_cons_zero, List.set_cons_succ]
    refine headStep (i := 3) rfl (by kernel_rfl) (fun K hK => ?_)
    go_simp
    go_at_call 176
    refine (listAt_any 1 _ _ _ _).mono ?_
    rintro e c0w ⟨cb0, rfl, hcb0, hct0, hb0⟩
    have HT0 := Lib.hid hct0
    have HB0 := Lib.hid hb0
    have HX12 := Lib.hid (HX0.out.trans (hb0.mono HX0.out.size))
    have HCB0 := Lib.hid (show V.heap.size ≤ cb0 from hcb0)
    clear hct0 hb0 hcb0
    refine hK.out _ _ ⟨fun _ => HSK.out _ HX12.out, fun hS => ?_⟩
    have hHeld := hS (by decide)
    clear hS hK K
    refine headStep2 (i := 4) (j := 9) rfl rfl (by kernel_rfl) (fun K hK => ?_) (fun K hK => ?_)
    · go_simp
      have HX13 := Lib.hid (HX12.out.alloc HX12.out.size (.cells #[.int .i64 1, .int .i64 4, .int .u64 0, .func (.func 201) #[] #[.pointer (some ⟨cb0, 0, none⟩)]] 265))
      have HR0 : Hid (SlV (c0w.alloc (.cells #[.int .i64 1, .int .i64 4, .int .u64 0, .func (.func 201) #[] #[.pointer (some ⟨cb0, 0, none⟩)]] 265)) (.slice (some ⟨c0w.heap.size, 0, none⟩) 1 1) (listSl 1 cb0 (VecAt q R2) bdl)) := Lib.hid (slv_new c0w (listSl 1 cb0 (VecAt q R2) bdl) 265 Nat.zero_lt_one)
      refine hK.out _ _ ⟨fun _ => HSK.out _ HX13.out, fun hS => ?_⟩
      have hHeld := hS (by decide)
      clear hS hK K
      refine headStep (i := 9) rfl (by kernel_rfl) (fun K hK => ?_)
      go_simp
      go_at_call 177
      show Calls _ _ #[_, x.val] _ _
      refine (maybe_some 2 2 rfl x Hhx0.out R bd _).mono ?_
      rintro e c1w ⟨cb1, g1, rfl, hcb1, hct1, hsv1, hb1⟩
      have HS1 := Lib.hid hsv1
      have HT1 := Lib.hid hct1
      have HCB1 := Lib.hid (Nat.le_trans HX13.out.size hcb1)
      clear hsv1 hct1 hcb1
      have HB1 := Lib.hid hb1
      have HX14 := Lib.hid (HX13.out.trans (hb1.mono HX13.out.size))
      clear hb1
      refine hK.out _ _ ⟨fun _ => HSK.out _ HX14.out, fun hS => ?_⟩
      have hHeld := hS (by decide)
      clear hS hK K
      refine headStep (i := 10) rfl (by kernel_rfl) (fun K hK => ?_)
      go_simp
      have HX15 := Lib.hid (HX14.out.alloc HX14.out.size (.cells #[.slice (some ⟨c0w.heap.size, 0, none⟩) 1 1, .slice (some ⟨g1, 0, none⟩) 1 1] 260))
      refine hK.out _ _ ⟨fun _ => HSK.out _ HX15.out, fun hS => ?_⟩
      have hHeld := hS (by decide)
      clear hS hK K
      refine headStep (i := 11) rfl (by kernel_rfl) (fun K hK => ?_)
      go_simp
      go_at_call 175
      refine (join_any [listSl 1 cb0 (VecAt q R2) bdl, nodeSl 2 cb1 R bd] [.slice (some ⟨c0w.heap.size, 0, none⟩) 1 1, .slice (some ⟨g1, 0, none⟩) 1 1] (c1w.heap.size) 2 _ rfl rfl (by decide) (slv2 ((HR0.out.below HB1.out).below ((Below.refl _ _).alloc (Nat.le_refl _) _)) (HS1.out.below ((Below.refl _ _).alloc (Nat.le_refl _) _))) (cells_at c1w [.slice (some ⟨c0w.heap.size, 0, none⟩) 1 1, .slice (some ⟨g1, 0, none⟩) 1 1] 260 _ (by simp)) 2 rfl (by decide)).mono ?_
      rintro e cjw ⟨so, capj, rfl, hown, hbj⟩
      have HOW := Lib.hid hown
      have HBJ := Lib.hid hbj
      have HX16 := Lib.hid (HX15.out.trans (hbj.mono HX15.out.size))
      clear hown hbj
      refine hK.out _ _ ⟨fun _ => HSK.out _ HX16.out, fun hS => ?_⟩
      have hHeld := hS (by decide)
      clear hS hK K
      refine headStep (i := 12) rfl (by kernel_rfl) (fun K hK => ?_)
      go_simp
      refine hK.out _ _ ⟨fun _ => HSK.out _ HX16.out, fun hS => ?_⟩
      have hHeld := hS (by decide)
      clear hS hK K
      refine headDone (by kernel_rfl) ?_ _
      go_wp2_with fail
      go_ret
      have hzw : w.heap.size ≤ V.heap.size := HB.out.size
      have hBW := HB.out.trans (HX15.out.mono hzw)
      refine ⟨_, listSl 1 cb0 (VecAt q R2) bdl ++ nodeSl 2 cb1 R bd, (c1w.alloc (.cells #[.slice (some ⟨c0w.heap.size, 0, none⟩) 1 1, .slice (some ⟨g1, 0, none⟩) 1 1] 260)), rfl, ⟨_, _, rfl⟩, hBW, HBJ.out, HOW.out, fun mb rb hm hr h1 h2 tt htt F cc hcc => ?_⟩
      have hW0 := HW0.out.trans (hBW.mono HW0.out.size)
      have hlt0 := World.block_lt_of_cell? _ _ HT0.out
      have e1 := (((Below.refl c1w.heap.size c1w).alloc (Nat.le_refl _) (.cells #[.slice (some ⟨c0w.heap.size, 0, none⟩) 1 1, .slice (some ⟨g1, 0, none⟩) 1 1] 260)).cell (p := ⟨cb0, 0, none⟩) (Nat.lt_of_lt_of_le hlt0 (Nat.le_trans (by simp) HB1.out.size))).trans ((HB1.out.cell (p := ⟨cb0, 0, none⟩) (Nat.lt_trans hlt0 (by simp))).trans ((((Below.refl c0w.heap.size c0w).alloc (Nat.le_refl _) (.cells #[.int .i64 1, .int .i64 4, .int .u64 0, .func (.func 201) #[] #[.pointer (some ⟨cb0, 0, none⟩)]] 265)).cell (p := ⟨cb0, 0, none⟩) hlt0).trans HT0.out))
      have g1' := HT1.out.below ((Below.refl c1w.heap.size c1w).alloc (Nat.le_refl _) (.cells #[.slice (some ⟨c0w.heap.size, 0, none⟩) 1 1, .slice (some ⟨g1, 0, none⟩) 1 1] 260)) HT1.out.lt
      rcases List.mem_append.1 htt with htt | htt
      · obtain rfl := List.mem_singleton.1 htt
        cases hcc
        have hqq := HQ.out
        subst hqq
        exact list_ref W0 mb bs xs b (o + 5) _ bd2 bdl R2 (fun i y hy => HXS.out i y hy) HhN2.out (by have := HXL.out; omega) Hhbdl.out cb0 _ rb hW0 h1 h2 e1 (by have q1 := HNB.out; have q2 := HCB0.out; omega) (by have q1 := HNB.out; have q2 := HCB0.out; omega)
      · exact node_refs HhN.out hW0 h1 h2 g1' (by have q1 := HNB.out; have q2 := HCB1.out; omega) (by have q1 := HNB.out; have q2 := HCB1.out; omega) tt htt F cc hcc
    · go_simp
      go_at_call 177
      show Calls _ _ #[_, x.val] _ _
      refine (maybe_some 2 2 rfl x Hhx0.out R bd _).mono ?_
      rintro e c1w ⟨cb1, g1, rfl, hcb1, hct1, hsv1, hb1⟩
      have HS1 := Lib.hid hsv1
      have HT1 := Lib.hid hct1
      have HCB1 := Lib.hid (Nat.le_trans HX12.out.size hcb1)
      clear hsv1 hct1 hcb1
      have HB1 := Lib.hid hb1
      have HX18 := Lib.hid (HX12.out.trans (hb1.mono HX12.out.size))
      clear hb1
      refine hK.out _ _ ⟨fun _ => HSK.out _ HX18.out, fun hS => ?_⟩
      have hHeld := hS (by decide)
      clear hS hK K
      refine headStep (i := 4) rfl (by kernel_rfl) (fun K hK => ?_)
      go_simp
      have HX19 := Lib.hid (HX18.out.alloc HX18.out.size (.cells #[.int .i64 1, .int .i64 4, .int .u64 0, .func (.func 201) #[] #[.pointer (some ⟨cb0, 0, none⟩)]] 265))
      have HR0 : Hid (SlV (c1w.alloc (.cells #[.int .i64 1, .int .i64 4, .int .u64 0, .func (.func 201) #[] #[.pointer (some ⟨cb0, 0, none⟩)]] 265)) (.slice (some ⟨c1w.heap.size, 0, none⟩) 1 1) (listSl 1 cb0 (VecAt q R2) bdl)) := Lib.hid (slv_new c1w (listSl 1 cb0 (VecAt q R2) bdl) 265 Nat.zero_lt_one)
      refine hK.out _ _ ⟨fun _ => HSK.out _ HX19.out, fun hS => ?_⟩
      have hHeld := hS (by decide)
      clear hS hK K
      refine headStep (i := 10) rfl (by kernel_rfl) (fun K hK => ?_)
      go_simp
      have HX20 := Lib.hid (HX19.out.alloc HX19.out.size (.cells #[.slice (some ⟨c1w.heap.size, 0, none⟩) 1 1, .slice (some ⟨g1, 0, none⟩) 1 1] 260))
      refine hK.out _ _ ⟨fun _ => HSK.out _ HX20.out, fun hS => ?_⟩
      have hHeld := hS (by decide)
      clear hS hK K
      refine headStep (i := 11) rfl (by kernel_rfl) (fun K hK => ?_)
      go_simp
      go_at_call 175
      refine (join_any [listSl 1 cb0 (VecAt q R2) bdl, nodeSl 2 cb1 R bd] [.slice (some ⟨c1w.heap.size, 0, none⟩) 1 1, .slice (some ⟨g1, 0, none⟩) 1 1] (c1w.heap.size + 1) 2 _ rfl rfl (by decide) (slv2 (HR0.out.below ((Below.refl _ _).alloc (Nat.le_refl _) _)) ((HS1.out.below ((Below.refl c1w.heap.size c1w).alloc (Nat.le_refl _) (.cells #[.int .i64 1, .int .i64 4, .int .u64 0, .func (.func 201) #[] #[.pointer (some ⟨cb0, 0, none⟩)]] 265))).below ((Below.refl _ _).alloc (Nat.le_refl _) _))) (cells_at (c1w.alloc (.cells #[.int .i64 1, .int .i64 4, .int .u64 0, .func (.func 201) #[] #[.pointer (some ⟨cb0, 0, none⟩)]] 265)) [.slice (some ⟨c1w.heap.size, 0, none⟩) 1 1, .slice (some ⟨g1, 0, none⟩) 1 1] 260 _ (by simp)) 2 rfl (by decide)).mono ?_
      rintro e cjw ⟨so, capj, rfl, hown, hbj⟩
      have HOW := Lib.hid hown
      have HBJ := Lib.hid hbj
      have HX21 := Lib.hid (HX20.out.trans (hbj.mono HX20.out.size))
      clear hown hbj
      refine hK.out _ _ ⟨fun _ => HSK.out _ HX21.out, fun hS => ?_⟩
      have hHeld := hS (by decide)
      clear hS hK K
      refine headStep (i := 12) rfl (by kernel_rfl) (fun K hK => ?_)
      go_simp
      refine hK.out _ _ ⟨fun _ => HSK.out _ HX21.out, fun hS => ?_⟩
      have hHeld := hS (by decide)
      clear hS hK K
      refine headDone (by kernel_rfl) ?_ _
      go_wp2_with fail
      go_ret
      have hzw : w.heap.size ≤ V.heap.size := HB.out.size
      have hBW := HB.out.trans (HX20.out.mono hzw)
      refine ⟨_, listSl 1 cb0 (VecAt q R2) bdl ++ nodeSl 2 cb1 R bd, ((c1w.alloc (.cells #[.int .i64 1, .int .i64 4, .int .u64 0, .func (.func 201) #[] #[.pointer (some ⟨cb0, 0, none⟩)]] 265)).alloc (.cells #[.slice (some ⟨c1w.heap.size, 0, none⟩) 1 1, .slice (some ⟨g1, 0, none⟩) 1 1] 260)), rfl, ⟨_, _, rfl⟩, hBW, HBJ.out, HOW.out, fun mb rb hm hr h1 h2 tt htt F cc hcc => ?_⟩
      have hW0 := HW0.out.trans (hBW.mono HW0.out.size)
      have hlt0 := World.block_lt_of_cell? _ _ HT0.out
      have hlt1 : cb0 < c1w.heap.size := Nat.lt_of_lt_of_le hlt0 HB1.out.size
      have e1 := (((Below.refl _ _).alloc (Nat.le_refl _) (.cells #[.slice (some ⟨c1w.heap.size, 0, none⟩) 1 1, .slice (some ⟨g1, 0, none⟩) 1 1] 260)).cell (p := ⟨cb0, 0, none⟩) (Nat.lt_trans hlt1 (by simp))).trans ((((Below.refl c1w.heap.size c1w).alloc (Nat.le_refl _) (.cells #[.int .i64 1, .int .i64 4, .int .u64 0, .func (.func 201) #[] #[.pointer (some ⟨cb0, 0, none⟩)]] 265)).cell (p := ⟨cb0, 0, none⟩) hlt1).trans ((HB1.out.cell (p := ⟨cb0, 0, none⟩) hlt0).trans HT0.out))
      have gz := HT1.out.below ((Below.refl c1w.heap.size c1w).alloc (Nat.le_refl _) (.cells #[.int .i64 1, .int .i64 4, .int .u64 0, .func (.func 201) #[] #[.pointer (some ⟨cb0, 0, none⟩)]] 265)) HT1.out.lt
      have g1' := gz.below ((Below.refl _ _).alloc (Nat.le_refl _) (.cells #[.slice (some ⟨c1w.heap.size, 0, none⟩) 1 1, .slice (some ⟨g1, 0, none⟩) 1 1] 260)) gz.lt
      rcases List.mem_append.1 htt with htt | htt
      · obtain rfl := List.mem_singleton.1 htt
        cases hcc
        have hqq := HQ.out
        subst hqq
        exact list_ref W0 mb bs xs b (o + 5) _ bd2 bdl R2 (fun i y hy => HXS.out i y hy) HhN2.out (by have := HXL.out; omega) Hhbdl.out cb0 _ rb hW0 h1 h2 e1 (by have q1 := HNB.out; have q2 := HCB0.out; omega) (by have q1 := HNB.out; have q2 := HCB0.out; omega)
      · exact node_refs HhN.out hW0 h1 h2 g1' (by have q1 := HNB.out; have q2 := HCB1.out; omega) (by have q1 := HNB.out; have q2 := HCB1.out; omega) tt htt F cc hcc

set_option maxHeartbeats 4000000 in
set_option maxRecDepth 100000 in
theorem slC_49n (W0 : World) (bs : Bool) (n : Nd) (hk : n.kind = 49) (x : Nd) (xs : List Nd) (D : Nat) (R2 : Nat → By → Nat → Prop) (bd2 : Nat → Nat) (bdl : Nat) (hkx : n.kids = x :: xs) (hL : LiesD D W0 n) (hRm : n.kids.length ≤ n.cap) (hx0 : x.kind = 0) (hN2 : ∀ i y, xs[i]? = some y → NodeW W0 bs (bd2 i) y (R2 i)) (q : Nat) (hkl : xs.length = q) (hxs : xs.length ≤ 999) (hbdl : 16 + 4 * xs.length + sumB bd2 xs.length ≤ bdl) : SlotsC W0 bs n (fun sl => ∃ c, sl = [⟨1, 4, 0, some (201, c), VecAt q R2, bdl⟩]) := by
  refine slC_any W0 bs n _ (by omega) ?_
  have hcap : xs.length + 1 ≤ n.cap := by rw [hkx, List.length_cons] at hRm; exact hRm
  intro w hb
  obtain ⟨b, o, hao, hbl, hcs⟩ := kid_at hL hb (by rw [hkx]; simp)
  obtain ⟨b2, o2, hao2, hbl2, hcs0⟩ := kid_at hL (Below.refl W0.heap.size W0) (by rw [hkx]; simp)
  rw [hao] at hao2
  cases hao2
  obtain ⟨k, t, m, u, ao, cap, kids⟩ := n
  obtain rfl : k = 49 := hk
  obtain rfl : ao = some ⟨b, o, none⟩ := hao
  obtain rfl : kids = x :: xs := hkx
  have HX := Lib.hid (show NdCells w b o x by have h := hcs 0 x rfl; rw [Nat.zero_mul, Nat.add_zero] at h; exact h)
  have HXS := Lib.hid (show ∀ i y, xs[i]? = some y → NdCells W0 b (o + 5 + i * 5) y from fun i y hy => by have h := hcs0 (i + 1) y hy; rw [show o + (i + 1) * 5 = o + 5 + i * 5 from by omega] at h; exact h)
  have hcap : q + 1 ≤ cap := by have h : xs.length + 1 ≤ cap := hcap; omega
  have HQ := Lib.hid hkl
  have HXL := Lib.hid hxs
  have hq9 : q ≤ 999 := by omega
  have HW0 := Lib.hid hb
  have Hhx0 := Lib.hid hx0
  have HhN2 := Lib.hid hN2
  have Hhbdl := Lib.hid hbdl
  clear hcs hL hb hx0 hN2 hbdl
  clear hcs0 hbl2
  rw [show (Nd.mk 49 t m u (some ⟨b, o, none⟩) cap (x :: xs)).val = .agg #[.int .i64 49, .string t, .string m, .int .u64 u, .slice (some ⟨b, o, none⟩) (q + 1 : Nat) cap] from by show Value.agg #[_, _, _, _, .slice _ (xs.length + 1) _] = _; rw [hkl]; rfl]
  clear hkl hxs hRm
  go_enter Tryz.func111, Tryz.ntmps111
  go_upto_region 10 with fail
  have HB := Lib.hid ((Below.refl w.heap.size w).alloc (Nat.le_refl _) (.cells #[.int .i64 49, .string t, .string m, .int .u64 u, .slice (some ⟨b, o, none⟩) (q + 1 : Nat) cap] 25))
  have hsz : w.heap.size < (w.alloc (.cells #[.int .i64 49, .string t, .string m, .int .u64 u, .slice (some ⟨b, o, none⟩) (q + 1 : Nat) cap] 25)).heap.size := by simp
  have n4 : (w.alloc (.cells #[.int .i64 49, .string t, .string m, .int .u64 u, .slice (some ⟨b, o, none⟩) (q + 1 : Nat) cap] 25)).cell? ⟨w.heap.size, 4, none⟩ = some (.slice (some ⟨b, o, none⟩) (q + 1 : Nat) cap) := World.cell?_alloc_at _ _ _ _ rfl
  have hxv := HX.out.below HB.out hbl
  have hbV : b < (w.alloc (.cells #[.int .i64 49, .string t, .string m, .int .u64 u, .slice (some ⟨b, o, none⟩) (q + 1 : Nat) cap] 25)).heap.size := Nat.lt_trans hbl hsz
  obtain ⟨nb, hnb⟩ : ∃ nb, nb = w.heap.size := ⟨_, rfl⟩
  rw [← hnb] at hsz n4 ⊢
  have HNB := Lib.hid hnb
  clear hnb
  generalize w.alloc (.cells #[.int .i64 49, .string t, .string m, .int .u64 u, .slice (some ⟨b, o, none⟩) (q + 1 : Nat) cap] 25) = V at *
  obtain ⟨c0, c1, c2, c3, c4⟩ := hxv
  have hx0 := Hhx0.out
  rw [hx0] at c0
  by_cases hc1 : cap = 1
  · subst hc1
    obtain rfl : q = 0 := by omega
    obtain rfl : xs = [] := List.eq_nil_of_length_eq_zero HQ.out
    have HQ : Hid ((0 : Nat) = 0) := Lib.hid rfl
    have hS0 : V.cell? ⟨nb, 4, none⟩ = some (.slice (some ⟨b, o, none⟩) 1 1) ∧ V.cell? ⟨b, o, none⟩ = some (.int .i64 0) ∧ V.cell? ⟨b, o + 1, none⟩ = some (.string x.text) ∧ V.cell? ⟨b, o + 2, none⟩ = some (.string x.more) ∧ V.cell? ⟨b, o + 3, none⟩ = some (.int .u64 x.num) ∧ V.cell? ⟨b, o + 4, none⟩ = some (.slice x.ao x.kids.length x.cap) := ⟨n4, c0, c1, c2, c3, c4⟩
    have HSK := Lib.hid (show ∀ W : World, Below V.heap.size V W → (W.cell? ⟨nb, 4, none⟩ = some (.slice (some ⟨b, o, none⟩) 1 1) ∧ W.cell? ⟨b, o, none⟩ = some (.int .i64 0) ∧ W.cell? ⟨b, o + 1, none⟩ = some (.string x.text) ∧ W.cell? ⟨b, o + 2, none⟩ = some (.string x.more) ∧ W.cell? ⟨b, o + 3, none⟩ = some (.int .u64 x.num) ∧ W.cell? ⟨b, o + 4, none⟩ = some (.slice x.ao x.kids.length x.cap)) from fun W h => ⟨(h.cell (p := ⟨nb, 4, none⟩) hsz).trans n4, (h.cell (p := ⟨b, o, none⟩) hbV).trans c0, (h.cell (p := ⟨b, o + 1, none⟩) hbV).trans c1, (h.cell (p := ⟨b, o + 2, none⟩) hbV).trans c2, (h.cell (p := ⟨b, o + 3, none⟩) hbV).trans c3, (h.cell (p := ⟨b, o + 4, none⟩) hbV).trans c4⟩)
    have HX0 : Hid (Below V.heap.size V V.drew) := Lib.hid ((Below.refl V.heap.size V).drew)
    refine headBegin (S := fun w' => (w'.cell? ⟨nb, 4, none⟩ = some (.slice (some ⟨b, o, none⟩) 1 1) ∧ w'.cell? ⟨b, o, none⟩ = some (.int .i64 0) ∧ w'.cell? ⟨b, o + 1, none⟩ = some (.string x.text) ∧ w'.cell? ⟨b, o + 2, none⟩ = some (.string x.more) ∧ w'.cell? ⟨b, o + 3, none⟩ = some (.int .u64 x.num) ∧ w'.cell? ⟨b, o + 4, none⟩ = some (.slice x.ao x.kids.length x.cap))) 13 (by kernel_rfl) hS0 (fun hHeld => ?_)
    clear hS0
    refine headTake (i := 0) (v := ?_) rfl (by kernel_rfl) (by kernel_rfl) (by kernel_rfl) (by kernel_rfl) (fun _ _ _ h => h) (Or.inl ⟨by rfl, ?_⟩) hHeld ?_
    rotate_left 1
    · intro w hSw
      go_split_ands
      go_simp
      try with_reducible rfl
    simp only [List.getElem_toArray, List.getElem_cons_zero, List.getElem_cons_succ, Act.put, List.setIfInBounds_toArray, List.set_cons_zero, List.set_cons_succ]
    refine headTake (i := 1) (v := ?_) rfl (by kernel_rfl) (by kernel_rfl) (by kernel_rfl) (by kernel_rfl) (fun _ _ _ h => h) (Or.inl ⟨by rfl, ?_⟩) hHeld ?_
    rotate_left 1
    · intro w hSw
      go_split_ands
      go_simp
      try with_reducible rfl
    simp only [List.getElem_toArray, List.getElem_cons_zero, List.getElem_cons_succ, Act.put, List.setIfInBounds_toArray, List.set_cons_zero, List.set_cons_succ]
    refine headTake (i := 2) (v := ?_) rfl (by kernel_rfl) (by kernel_rfl) (by kernel_rfl) (by kernel_rfl) (fun _ _ _ h => h) (Or.inl ⟨by rfl, ?_⟩) hHeld ?_
    rotate_left 1
    · intro w hSw
      go_split_ands
      go_simp
      try with_reducible rfl
    simp only [List.getElem_toArray, List.getElem_cons_zero, List.getElem_cons_succ, Act.put, List.setIfInBounds_toArray, List.set_cons_zero, List.set_cons_succ]
    refine headTake (i := 5) (v := ?_) rfl (by kernel_rfl) (by kernel_rfl) (by kernel_rfl) (by kernel_rfl) (fun _ _ _ h => h) (Or.inl ⟨by rfl, ?_⟩) hHeld ?_
    rotate_left 1
    · intro w hSw
      go_split_ands
      go_simp
      try with_reducible rfl
    simp only [List.getElem_toArray, List.getElem_cons_zero, List.getElem_cons_succ, Act.put, List.setIfInBounds_toArray, List.set_cons_zero, List.set_cons_succ]
    refine headTake (i := 6) (v := ?_) rfl (by kernel_rfl) (by kernel_rfl) (by kernel_rfl) (by kernel_rfl) (fun _ _ _ h => h) (Or.inl ⟨by rfl, ?_⟩) hHeld ?_
    rotate_left 1
    · intro w hSw
      go_split_ands
      go_simp
      try with_reducible rfl
    simp only [List.getElem_toArray, List.getElem_cons_zero, List.getElem_cons_succ, Act.put, List.setIfInBounds_toArray, List.set_cons_zero, List.set_cons_succ]
    refine headTake (i := 7) (v := ?_) rfl (by kernel_rfl) (by kernel_rfl) (by kernel_rfl) (by kernel_rfl) (fun _ _ _ h => h) (Or.inl ⟨by rfl, ?_⟩) hHeld ?_
    rotate_left 1
    · intro w hSw
      go_split_ands
      go_simp
      try with_reducible rfl
    simp only [List.getElem_toArray, List.getElem_cons_zero, List.getElem_cons_succ, Act.put, List.setIfInBounds_toArray, List.set_cons_zero, List.set_cons_succ]
    refine headTake (i := 8) (v := ?_) rfl (by kernel_rfl) (by kernel_rfl) (by kernel_rfl) (by kernel_rfl) (fun _ _ _ h => h) (Or.inl ⟨by rfl, ?_⟩) hHeld ?_
    rotate_left 1
    · intro w hSw
      go_split_ands
      go_simp
      try with_reducible rfl
    simp only [List.getElem_toArray, List.getElem_cons_zero, List.getElem_cons_succ, Act.put, List.setIfInBounds_toArray, List.set_cons_zero, List.set_cons_succ]
    refine headStep (i := 3) rfl (by kernel_rfl) (fun K hK => ?_)
    go_simp
    go_at_call 176
    refine (listAt_any 1 _ _ _ _).mono ?_
    rintro e c0w ⟨cb0, rfl, hcb0, hct0, hb0⟩
    have HT0 := Lib.hid hct0
    have HB0 := Lib.hid hb0
    have HX1 := Lib.hid (HX0.out.trans (hb0.mono HX0.out.size))
    have HCB0 := Lib.hid (show V.heap.size ≤ cb0 from hcb0)
    clear hct0 hb0 hcb0
    refine hK.out _ _ ⟨fun _ => HSK.out _ HX1.out, fun hS => ?_⟩
    have hHeld := hS (by decide)
    clear hS hK K
    refine headStep2 (i := 4) (j := 9) rfl rfl (by kernel_rfl) (fun K hK => ?_) (fun K hK => ?_)
    · go_simp
      have HX2 := Lib.hid (HX1.out.alloc HX1.out.size (.cells #[.int .i64 1, .int .i64 4, .int .u64 0, .func (.func 201) #[] #[.pointer (some ⟨cb0, 0, none⟩)]] 265))
      have HR0 : Hid (SlV (c0w.alloc (.cells #[.int .i64 1, .int .i64 4, .int .u64 0, .func (.func 201) #[] #[.pointer (some ⟨cb0, 0, none⟩)]] 265)) (.slice (some ⟨c0w.heap.size, 0, none⟩) 1 1) (listSl 1 cb0 (VecAt 0 R2) bdl)) := Lib.hid (slv_new c0w (listSl 1 cb0 (VecAt 0 R2) bdl) 265 Nat.zero_lt_one)
      refine hK.out _ _ ⟨fun _ => HSK.out _ HX2.out, fun hS => ?_⟩
      have hHeld := hS (by decide)
      clear hS hK K
      refine headStep (i := 9) rfl (by kernel_rfl) (fun K hK => ?_)
      go_simp
      go_at_call 177
      refine (maybe_none 2 _ _ _ _ _ _ _).mono ?_
      rintro e c1w ⟨rfl, hb1⟩
      have HB1 := Lib.hid hb1
      have HX3 := Lib.hid (HX2.out.trans (hb1.mono HX2.out.size))
      clear hb1
      refine hK.out _ _ ⟨fun _ => HSK.out _ HX3.out, fun hS => ?_⟩
      have hHeld := hS (by decide)
      clear hS hK K
      refine headStep (i := 10) rfl (by kernel_rfl) (fun K hK => ?_)
      go_simp
      have HX4 := Lib.hid (HX3.out.alloc HX3.out.size (.cells #[.slice (some ⟨c0w.heap.size, 0, none⟩) 1 1, .slice none 0 0] 260))
      refine hK.out _ _ ⟨fun _ => HSK.out _ HX4.out, fun hS => ?_⟩
      have hHeld := hS (by decide)
      clear hS hK K
      refine headStep (i := 11) rfl (by kernel_rfl) (fun K hK => ?_)
      go_simp
      go_at_call 175
      refine (join_any [listSl 1 cb0 (VecAt 0 R2) bdl, []] [.slice (some ⟨c0w.heap.size, 0, none⟩) 1 1, .slice none 0 0] (c1w.heap.size) 2 _ rfl rfl (by decide) (slv2 ((HR0.out.below HB1.out).below ((Below.refl _ _).alloc (Nat.le_refl _) _)) (.inl ⟨rfl, rfl⟩)) (cells_at c1w [.slice (some ⟨c0w.heap.size, 0, none⟩) 1 1, .slice none 0 0] 260 _ (by simp)) 1 rfl (by decide)).mono ?_
      rintro e cjw ⟨so, capj, rfl, hown, hbj⟩
      have HOW := Lib.hid hown
      have HBJ := Lib.hid hbj
      have HX5 := Lib.hid (HX4.out.trans (hbj.mono HX4.out.size))
      clear hown hbj
      refine hK.out _ _ ⟨fun _ => HSK.out _ HX5.out, fun hS => ?_⟩
      have hHeld := hS (by decide)
      clear hS hK K
      refine headStep (i := 12) rfl (by kernel_rfl) (fun K hK => ?_)
      go_simp
      refine hK.out _ _ ⟨fun _ => HSK.out _ HX5.out, fun hS => ?_⟩
      have hHeld := hS (by decide)
      clear hS hK K
      refine headDone (by kernel_rfl) ?_ _
      go_wp2_with fail
      go_ret
      have hzw : w.heap.size ≤ V.heap.size := HB.out.size
      have hBW := HB.out.trans (HX4.out.mono hzw)
      refine ⟨_, listSl 1 cb0 (VecAt 0 R2) bdl, (c1w.alloc (.cells #[.slice (some ⟨c0w.heap.size, 0, none⟩) 1 1, .slice none 0 0] 260)), rfl, ⟨_, rfl⟩, hBW, HBJ.out, HOW.out, fun mb rb hm hr h1 h2 tt htt F cc hcc => ?_⟩
      have hW0 := HW0.out.trans (hBW.mono HW0.out.size)
      have hlt0 := World.block_lt_of_cell? _ _ HT0.out
      have e1 := (((Below.refl c1w.heap.size c1w).alloc (Nat.le_refl _) (.cells #[.slice (some ⟨c0w.heap.size, 0, none⟩) 1 1, .slice none 0 0] 260)).cell (p := ⟨cb0, 0, none⟩) (Nat.lt_of_lt_of_le hlt0 (Nat.le_trans (by simp) HB1.out.size))).trans ((HB1.out.cell (p := ⟨cb0, 0, none⟩) (Nat.lt_trans hlt0 (by simp))).trans ((((Below.refl c0w.heap.size c0w).alloc (Nat.le_refl _) (.cells #[.int .i64 1, .int .i64 4, .int .u64 0, .func (.func 201) #[] #[.pointer (some ⟨cb0, 0, none⟩)]] 265)).cell (p := ⟨cb0, 0, none⟩) hlt0).trans HT0.out))
      obtain rfl := List.mem_singleton.1 htt
      cases hcc
      skip
      skip
      exact list_ref W0 mb bs [] b o _ bd2 bdl R2 (fun i y hy => by simp at hy) HhN2.out (by have := HXL.out; omega) Hhbdl.out cb0 _ rb hW0 h1 h2 e1 (by have q1 := HNB.out; have q2 := HCB0.out; omega) (by have q1 := HNB.out; have q2 := HCB0.out; omega)
    · go_simp
      go_at_call 177
      refine (maybe_none 2 _ _ _ _ _ _ _).mono ?_
      rintro e c1w ⟨rfl, hb1⟩
      have HB1 := Lib.hid hb1
      have HX7 := Lib.hid (HX1.out.trans (hb1.mono HX1.out.size))
      clear hb1
      refine hK.out _ _ ⟨fun _ => HSK.out _ HX7.out, fun hS => ?_⟩
      have hHeld := hS (by decide)
      clear hS hK K
      refine headStep (i := 4) rfl (by kernel_rfl) (fun K hK => ?_)
      go_simp
      have HX8 := Lib.hid (HX7.out.alloc HX7.out.size (.cells #[.int .i64 1, .int .i64 4, .int .u64 0, .func (.func 201) #[] #[.pointer (some ⟨cb0, 0, none⟩)]] 265))
      have HR0 : Hid (SlV (c1w.alloc (.cells #[.int .i64 1, .int .i64 4, .int .u64 0, .func (.func 201) #[] #[.pointer (some ⟨cb0, 0, none⟩)]] 265)) (.slice (some ⟨c1w.heap.size, 0, none⟩) 1 1) (listSl 1 cb0 (VecAt 0 R2) bdl)) := Lib.hid (slv_new c1w (listSl 1 cb0 (VecAt 0 R2) bdl) 265 Nat.zero_lt_one)
      refine hK.out _ _ ⟨fun _ => HSK.out _ HX8.out, fun hS => ?_⟩
      have hHeld := hS (by decide)
      clear hS hK K
      refine headStep (i := 10) rfl (by kernel_rfl) (fun K hK => ?_)
      go_simp
      have HX9 := Lib.hid (HX8.out.alloc HX8.out.size (.cells #[.slice (some ⟨c1w.heap.size, 0, none⟩) 1 1, .slice none 0 0] 260))
      refine hK.out _ _ ⟨fun _ => HSK.out _ HX9.out, fun hS => ?_⟩
      have hHeld := hS (by decide)
      clear hS hK K
      refine headStep (i := 11) rfl (by kernel_rfl) (fun K hK => ?_)
      go_simp
      go_at_call 175
      refine (join_any [listSl 1 cb0 (VecAt 0 R2) bdl, []] [.slice (some ⟨c1w.heap.size, 0, none⟩) 1 1, .slice none 0 0] (c1w.heap.size + 1) 2 _ rfl rfl (by decide) (slv2 (HR0.out.below ((Below.refl _ _).alloc (Nat.le_refl _) _)) (.inl ⟨rfl, rfl⟩)) (cells_at (c1w.alloc (.cells #[.int .i64 1, .int .i64 4, .int .u64 0, .func (.func 201) #[] #[.pointer (some ⟨cb0, 0, none⟩)]] 265)) [.slice (some ⟨c1w.heap.size, 0, none⟩) 1 1, .slice none 0 0] 260 _ (by simp)) 1 rfl (by decide)).mono ?_
      rintro e cjw ⟨so, capj, rfl, hown, hbj⟩
      have HOW := Lib.hid hown
      have HBJ := Lib.hid hbj
      have HX10 := Lib.hid (HX9.out.trans (hbj.mono HX9.out.size))
      clear hown hbj
      refine hK.out _ _ ⟨fun _ => HSK.out _ HX10.out, fun hS => ?_⟩
      have hHeld := hS (by decide)
      clear hS hK K
      refine headStep (i := 12) rfl (by kernel_rfl) (fun K hK => ?_)
      go_simp
      refine hK.out _ _ ⟨fun _ => HSK.out _ HX10.out, fun hS => ?_⟩
      have hHeld := hS (by decide)
      clear hS hK K
      refine headDone (by kernel_rfl) ?_ _
      go_wp2_with fail
      go_ret
      have hzw : w.heap.size ≤ V.heap.size := HB.out.size
      have hBW := HB.out.trans (HX9.out.mono hzw)
      refine ⟨_, listSl 1 cb0 (VecAt 0 R2) bdl, ((c1w.alloc (.cells #[.int .i64 1, .int .i64 4, .int .u64 0, .func (.func 201) #[] #[.pointer (some ⟨cb0, 0, none⟩)]] 265)).alloc (.cells #[.slice (some ⟨c1w.heap.size, 0, none⟩) 1 1, .slice none 0 0] 260)), rfl, ⟨_, rfl⟩, hBW, HBJ.out, HOW.out, fun mb rb hm hr h1 h2 tt htt F cc hcc => ?_⟩
      have hW0 := HW0.out.trans (hBW.mono HW0.out.size)
      have hlt0 := World.block_lt_of_cell? _ _ HT0.out
      have hlt1 : cb0 < c1w.heap.size := Nat.lt_of_lt_of_le hlt0 HB1.out.size
      have e1 := (((Below.refl _ _).alloc (Nat.le_refl _) (.cells #[.slice (some ⟨c1w.heap.size, 0, none⟩) 1 1, .slice none 0 0] 260)).cell (p := ⟨cb0, 0, none⟩) (Nat.lt_trans hlt1 (by simp))).trans ((((Below.refl c1w.heap.size c1w).alloc (Nat.le_refl _) (.cells #[.int .i64 1, .int .i64 4, .int .u64 0, .func (.func 201) #[] #[.pointer (some ⟨cb0, 0, none⟩)]] 265)).cell (p := ⟨cb0, 0, none⟩) hlt1).trans ((HB1.out.cell (p := ⟨cb0, 0, none⟩) hlt0).trans HT0.out))
      obtain rfl := List.mem_singleton.1 htt
      cases hcc
      skip
      skip
      exact list_ref W0 mb bs [] b o _ bd2 bdl R2 (fun i y hy => by simp at hy) HhN2.out (by have := HXL.out; omega) Hhbdl.out cb0 _ rb hW0 h1 h2 e1 (by have q1 := HNB.out; have q2 := HCB0.out; omega) (by have q1 := HNB.out; have q2 := HCB0.out; omega)
  · have hkc : (q : Int) + 1 ≤ (cap : Int) := by omega
    have hk1 : (1 : Int) ≤ (q : Int) + 1 := by omega
    have hcI : (1 : Int) ≤ (cap : Int) := by omega
    have hkI : (1 : Int) ≤ ((q + 1 : Nat) : Int) := by omega
    have hS0 : V.cell? ⟨nb, 4, none⟩ = some (.slice (some ⟨b, o, none⟩) (q + 1 : Nat) cap) ∧ V.cell? ⟨b, o, none⟩ = some (.int .i64 0) ∧ V.cell? ⟨b, o + 1, none⟩ = some (.string x.text) ∧ V.cell? ⟨b, o + 2, none⟩ = some (.string x.more) ∧ V.cell? ⟨b, o + 3, none⟩ = some (.int .u64 x.num) ∧ V.cell? ⟨b, o + 4, none⟩ = some (.slice x.ao x.kids.length x.cap) := ⟨n4, c0, c1, c2, c3, c4⟩
    have HSK := Lib.hid (show ∀ W : World, Below V.heap.size V W → (W.cell? ⟨nb, 4, none⟩ = some (.slice (some ⟨b, o, none⟩) (q + 1 : Nat) cap) ∧ W.cell? ⟨b, o, none⟩ = some (.int .i64 0) ∧ W.cell? ⟨b, o + 1, none⟩ = some (.string x.text) ∧ W.cell? ⟨b, o + 2, none⟩ = some (.string x.more) ∧ W.cell? ⟨b, o + 3, none⟩ = some (.int .u64 x.num) ∧ W.cell? ⟨b, o + 4, none⟩ = some (.slice x.ao x.kids.length x.cap)) from fun W h => ⟨(h.cell (p := ⟨nb, 4, none⟩) hsz).trans n4, (h.cell (p := ⟨b, o, none⟩) hbV).trans c0, (h.cell (p := ⟨b, o + 1, none⟩) hbV).trans c1, (h.cell (p := ⟨b, o + 2, none⟩) hbV).trans c2, (h.cell (p := ⟨b, o + 3, none⟩) hbV).trans c3, (h.cell (p := ⟨b, o + 4, none⟩) hbV).trans c4⟩)
    have HX0 : Hid (Below V.heap.size V V.drew) := Lib.hid ((Below.refl V.heap.size V).drew)
    refine headBegin (S := fun w' => (w'.cell? ⟨nb, 4, none⟩ = some (.slice (some ⟨b, o, none⟩) (q + 1 : Nat) cap) ∧ w'.cell? ⟨b, o, none⟩ = some (.int .i64 0) ∧ w'.cell? ⟨b, o + 1, none⟩ = some (.string x.text) ∧ w'.cell? ⟨b, o + 2, none⟩ = some (.string x.more) ∧ w'.cell? ⟨b, o + 3, none⟩ = some (.int .u64 x.num) ∧ w'.cell? ⟨b, o + 4, none⟩ = some (.slice x.ao x.kids.length x.cap))) 13 (by kernel_rfl) hS0 (fun hHeld => ?_)
    clear hS0
    refine headTake (i := 0) (v := ?_) rfl (by kernel_rfl) (by kernel_rfl) (by kernel_rfl) (by kernel_rfl) (fun _ _ _ h => h) (Or.inl ⟨by rfl, ?_⟩) hHeld ?_
    rotate_left 1
    · intro w hSw
      go_split_ands
      go_simp
      try with_reducible rfl
    simp only [List.getElem_toArray, List.getElem_cons_zero, List.getElem_cons_succ, Act.put, List.setIfInBounds_toArray, List.set_cons_zero, List.set_cons_succ]
    refine headTake (i := 1) (v := ?_) rfl (by kernel_rfl) (by kernel_rfl) (by kernel_rfl) (by kernel_rfl) (fun _ _ _ h => h) (Or.inl ⟨by rfl, ?_⟩) hHeld ?_
    rotate_left 1
    · intro w hSw
      go_split_ands
      go_simp
      try with_reducible rfl
    simp only [List.getElem_toArray, List.getElem_cons_zero, List.getElem_cons_succ, Act.put, List.setIfInBounds_toArray, List.set_cons_zero, List.set_cons_succ]
    refine headTake (i := 2) (v := ?_) rfl (by kernel_rfl) (by kernel_rfl) (by kernel_rfl) (by kernel_rfl) (fun _ _ _ h => h) (Or.inl ⟨by rfl, ?_⟩) hHeld ?_
    rotate_left 1
    · intro w hSw
      go_split_ands
      go_simp
      try with_reducible rfl
    simp only [List.getElem_toArray, List.getElem_cons_zero, List.getElem_cons_succ, Act.put, List.setIfInBounds_toArray, List.set_cons_zero, List.set_cons_succ]
    refine headTake (i := 5) (v := ?_) rfl (by kernel_rfl) (by kernel_rfl) (by kernel_rfl) (by kernel_rfl) (fun _ _ _ h => h) (Or.inl ⟨by rfl, ?_⟩) hHeld ?_
    rotate_left 1
    · intro w hSw
      go_split_ands
      go_simp
      try with_reducible rfl
    simp only [List.getElem_toArray, List.getElem_cons_zero, List.getElem_cons_succ, Act.put, List.setIfInBounds_toArray, List.set_cons_zero, List.set_cons_succ]
    refine headTake (i := 6) (v := ?_) rfl (by kernel_rfl) (by kernel_rfl) (by kernel_rfl) (by kernel_rfl) (fun _ _ _ h => h) (Or.inl ⟨by rfl, ?_⟩) hHeld ?_
    rotate_left 1
    · intro w hSw
      go_split_ands
      go_simp
      try with_reducible rfl
    simp only [List.getElem_toArray, List.getElem_cons_zero, List.getElem_cons_succ, Act.put, List.setIfInBounds_toArray, List.set_cons_zero, List.set_cons_succ]
    refine headTake (i := 7) (v := ?_) rfl (by kernel_rfl) (by kernel_rfl) (by kernel_rfl) (by kernel_rfl) (fun _ _ _ h => h) (Or.inl ⟨by rfl, ?_⟩) hHeld ?_
    rotate_left 1
    · intro w hSw
      go_split_ands
      go_simp
      try with_reducible rfl
    simp only [List.getElem_toArray, List.getElem_cons_zero, List.getElem_cons_succ, Act.put, List.setIfInBounds_toArray, List.set_cons_zero, List.set_cons_succ]
    refine headTake (i := 8) (v := ?_) rfl (by kernel_rfl) (by kernel_rfl) (by kernel_rfl) (by kernel_rfl) (fun _ _ _ h => h) (Or.inl ⟨by rfl, ?_⟩) hHeld ?_
    rotate_left 1
    · intro w hSw
      go_split_ands
      go_simp
      try with_reducible rfl
    simp only [List.getElem_toArray, List.getElem_cons_zero, List.getElem_cons_succ, Act.put, List.setIfInBounds_toArray, List.set_cons_zero, List.set_cons_succ]
    refine headStep (i := 3) rfl (by kernel_rfl) (fun K hK => ?_)
    go_simp
    go_at_call 176
    refine (listAt_any 1 _ _ _ _).mono ?_
    rintro e c0w ⟨cb0, rfl, hcb0, hct0, hb0⟩
    have HT0 := Lib.hid hct0
    have HB0 := Lib.hid hb0
    have HX12 := Lib.hid (HX0.out.trans (hb0.mono HX0.out.size))
    have HCB0 := Lib.hid (show V.heap.size ≤ cb0 from hcb0)
    clear hct0 hb0 hcb0
    refine hK.out _ _ ⟨fun _ => HSK.out _ HX12.out, fun hS => ?_⟩
    have hHeld := hS (by decide)
    clear hS hK K
    refine headStep2 (i := 4) (j := 9) rfl rfl (by kernel_rfl) (fun K hK => ?_) (fun K hK => ?_)
    · go_simp
      have HX13 := Lib.hid (HX12.out.alloc HX12.out.size (.cells #[.int .i64 1, .int .i64 4, .int .u64 0, .func (.func 201) #[] #[.pointer (some ⟨cb0, 0, none⟩)]] 265))
      have HR0 : Hid (SlV (c0w.alloc (.cells #[.int .i64 1, .int .i64 4, .int .u64 0, .func (.func 201) #[] #[.pointer (some ⟨cb0, 0, none⟩)]] 265)) (.slice (some ⟨c0w.heap.size, 0, none⟩) 1 1) (listSl 1 cb0 (VecAt q R2) bdl)) := Lib.hid (slv_new c0w (listSl 1 cb0 (VecAt q R2) bdl) 265 Nat.zero_lt_one)
      refine hK.out _ _ ⟨fun _ => HSK.out _ HX13.out, fun hS => ?_⟩
      have hHeld := hS (by decide)
      clear hS hK K
      refine headStep (i := 9) rfl (by kernel_rfl) (fun K hK => ?_)
      go_simp
      go_at_call 177
      refine (maybe_none 2 _ _ _ _ _ _ _).mono ?_
      rintro e c1w ⟨rfl, hb1⟩
      have HB1 := Lib.hid hb1
      have HX14 := Lib.hid (HX13.out.trans (hb1.mono HX13.out.size))
      clear hb1
      refine hK.out _ _ ⟨fun _ => HSK.out _ HX14.out, fun hS => ?_⟩
      have hHeld := hS (by decide)
      clear hS hK K
      refine headStep (i := 10) rfl (by kernel_rfl) (fun K hK => ?_)
      go_simp
      have HX15 := Lib.hid (HX14.out.alloc HX14.out.size (.cells #[.slice (some ⟨c0w.heap.size, 0, none⟩) 1 1, .slice none 0 0] 260))
      refine hK.out _ _ ⟨fun _ => HSK.out _ HX15.out, fun hS => ?_⟩
      have hHeld := hS (by decide)
      clear hS hK K
      refine headStep (i := 11) rfl (by kernel_rfl) (fun K hK => ?_)
      go_simp
      go_at_call 175
      refine (join_any [listSl 1 cb0 (VecAt q R2) bdl, []] [.slice (some ⟨c0w.heap.size, 0, none⟩) 1 1, .slice none 0 0] (c1w.heap.size) 2 _ rfl rfl (by decide) (slv2 ((HR0.out.below HB1.out).below ((Below.refl _ _).alloc (Nat.le_refl _) _)) (.inl ⟨rfl, rfl⟩)) (cells_at c1w [.slice (some ⟨c0w.heap.size, 0, none⟩) 1 1, .slice none 0 0] 260 _ (by simp)) 1 rfl (by decide)).mono ?_
      rintro e cjw ⟨so, capj, rfl, hown, hbj⟩
      have HOW := Lib.hid hown
      have HBJ := Lib.hid hbj
      have HX16 := Lib.hid (HX15.out.trans (hbj.mono HX15.out.size))
      clear hown hbj
      refine hK.out _ _ ⟨fun _ => HSK.out _ HX16.out, fun hS => ?_⟩
      have hHeld := hS (by decide)
      clear hS hK K
      refine headStep (i := 12) rfl (by kernel_rfl) (fun K hK => ?_)
      go_simp
      refine hK.out _ _ ⟨fun _ => HSK.out _ HX16.out, fun hS => ?_⟩
      have hHeld := hS (by decide)
      clear hS hK K
      refine headDone (by kernel_rfl) ?_ _
      go_wp2_with fail
      go_ret
      have hzw : w.heap.size ≤ V.heap.size := HB.out.size
      have hBW := HB.out.trans (HX15.out.mono hzw)
      refine ⟨_, listSl 1 cb0 (VecAt q R2) bdl, (c1w.alloc (.cells #[.slice (some ⟨c0w.heap.size, 0, none⟩) 1 1, .slice none 0 0] 260)), rfl, ⟨_, rfl⟩, hBW, HBJ.out, HOW.out, fun mb rb hm hr h1 h2 tt htt F cc hcc => ?_⟩
      have hW0 := HW0.out.trans (hBW.mono HW0.out.size)
      have hlt0 := World.block_lt_of_cell? _ _ HT0.out
      have e1 := (((Below.refl c1w.heap.size c1w).alloc (Nat.le_refl _) (.cells #[.slice (some ⟨c0w.heap.size, 0, none⟩) 1 1, .slice none 0 0] 260)).cell (p := ⟨cb0, 0, none⟩) (Nat.lt_of_lt_of_le hlt0 (Nat.le_trans (by simp) HB1.out.size))).trans ((HB1.out.cell (p := ⟨cb0, 0, none⟩) (Nat.lt_trans hlt0 (by simp))).trans ((((Below.refl c0w.heap.size c0w).alloc (Nat.le_refl _) (.cells #[.int .i64 1, .int .i64 4, .int .u64 0, .func (.func 201) #[] #[.pointer (some ⟨cb0, 0, none⟩)]] 265)).cell (p := ⟨cb0, 0, none⟩) hlt0).trans HT0.out))
      obtain rfl := List.mem_singleton.1 htt
      cases hcc
      have hqq := HQ.out
      subst hqq
      exact list_ref W0 mb bs xs b (o + 5) _ bd2 bdl R2 (fun i y hy => HXS.out i y hy) HhN2.out (by have := HXL.out; omega) Hhbdl.out cb0 _ rb hW0 h1 h2 e1 (by have q1 := HNB.out; have q2 := HCB0.out; omega) (by have q1 := HNB.out; have q2 := HCB0.out; omega)
    · go_simp
      go_at_call 177
      refine (maybe_none 2 _ _ _ _ _ _ _).mono ?_
      rintro e c1w ⟨rfl, hb1⟩
      have HB1 := Lib.hid hb1
      have HX18 := Lib.hid (HX12.out.trans (hb1.mono HX12.out.size))
      clear hb1
      refine hK.out _ _ ⟨fun _ => HSK.out _ HX18.out, fun hS => ?_⟩
      have hHeld := hS (by decide)
      clear hS hK K
      refine headStep (i := 4) rfl (by kernel_rfl) (fun K hK => ?_)
      go_simp
      have HX19 := Lib.hid (HX18.out.alloc HX18.out.size (.cells #[.int .i64 1, .int .i64 4, .int .u64 0, .func (.func 201) #[] #[.pointer (some ⟨cb0, 0, none⟩)]] 265))
      have HR0 : Hid (SlV (c1w.alloc (.cells #[.int .i64 1, .int .i64 4, .int .u64 0, .func (.func 201) #[] #[.pointer (some ⟨cb0, 0, none⟩)]] 265)) (.slice (some ⟨c1w.heap.size, 0, none⟩) 1 1) (listSl 1 cb0 (VecAt q R2) bdl)) := Lib.hid (slv_new c1w (listSl 1 cb0 (VecAt q R2) bdl) 265 Nat.zero_lt_one)
      refine hK.out _ _ ⟨fun _ => HSK.out _ HX19.out, fun hS => ?_⟩
      have hHeld := hS (by decide)
      clear hS hK K
      refine headStep (i := 10) rfl (by kernel_rfl) (fun K hK => ?_)
      go_simp
      have HX20 := Lib.hid (HX19.out.alloc HX19.out.size (.cells #[.slice (some ⟨c1w.heap.size, 0, none⟩) 1 1, .slice none 0 0] 260))
      refine hK.out _ _ ⟨fun _ => HSK.out _ HX20.out, fun hS => ?_⟩
      have hHeld := hS (by decide)
      clear hS hK K
      refine headStep (i := 11) rfl (by kernel_rfl) (fun K hK => ?_)
      go_simp
      go_at_call 175
      refine (join_any [listSl 1 cb0 (VecAt q R2) bdl, []] [.slice (some ⟨c1w.heap.size, 0, none⟩) 1 1, .slice none 0 0] (c1w.heap.size + 1) 2 _ rfl rfl (by decide) (slv2 (HR0.out.below ((Below.refl _ _).alloc (Nat.le_refl _) _)) (.inl ⟨rfl, rfl⟩)) (cells_at (c1w.alloc (.cells #[.int .i64 1, .int .i64 4, .int .u64 0, .func (.func 201) #[] #[.pointer (some ⟨cb0, 0, none⟩)]] 265)) [.slice (some ⟨c1w.heap.size, 0, none⟩) 1 1, .slice none 0 0] 260 _ (by simp)) 1 rfl (by decide)).mono ?_
      rintro e cjw ⟨so, capj, rfl, hown, hbj⟩
      have HOW := Lib.hid hown
      have HBJ := Lib.hid hbj
      have HX21 := Lib.hid (HX20.out.trans (hbj.mono HX20.out.size))
      clear hown hbj
      refine hK.out _ _ ⟨fun _ => HSK.out _ HX21.out, fun hS => ?_⟩
      have hHeld := hS (by decide)
      clear hS hK K
      refine headStep (i := 12) rfl (by kernel_rfl) (fun K hK => ?_)
      go_simp
      refine hK.out _ _ ⟨fun _ => HSK.out _ HX21.out, fun hS => ?_⟩
      have hHeld := hS (by decide)
      clear hS hK K
      refine headDone (by kernel_rfl) ?_ _
      go_wp2_with fail
      go_ret
      have hzw : w.heap.size ≤ V.heap.size := HB.out.size
      have hBW := HB.out.trans (HX20.out.mono hzw)
      refine ⟨_, listSl 1 cb0 (VecAt q R2) bdl, ((c1w.alloc (.cells #[.int .i64 1, .int .i64 4, .int .u64 0, .func (.func 201) #[] #[.pointer (some ⟨cb0, 0, none⟩)]] 265)).alloc (.cells #[.slice (some ⟨c1w.heap.size, 0, none⟩) 1 1, .slice none 0 0] 260)), rfl, ⟨_, rfl⟩, hBW, HBJ.out, HOW.out, fun mb rb hm hr h1 h2 tt htt F cc hcc => ?_⟩
      have hW0 := HW0.out.trans (hBW.mono HW0.out.size)
      have hlt0 := World.block_lt_of_cell? _ _ HT0.out
      have hlt1 : cb0 < c1w.heap.size := Nat.lt_of_lt_of_le hlt0 HB1.out.size
      have e1 := (((Below.refl _ _).alloc (Nat.le_refl _) (.cells #[.slice (some ⟨c1w.heap.size, 0, none⟩) 1 1, .slice none 0 0] 260)).cell (p := ⟨cb0, 0, none⟩) (Nat.lt_trans hlt1 (by simp))).trans ((((Below.refl c1w.heap.size c1w).alloc (Nat.le_refl _) (.cells #[.int .i64 1, .int .i64 4, .int .u64 0, .func (.func 201) #[] #[.pointer (some ⟨cb0, 0, none⟩)]] 265)).cell (p := ⟨cb0, 0, none⟩) hlt1).trans ((HB1.out.cell (p := ⟨cb0, 0, none⟩) hlt0).trans HT0.out))
      obtain rfl := List.mem_singleton.1 htt
      cases hcc
      have hqq := HQ.out
      subst hqq
      exact list_ref W0 mb bs xs b (o + 5) _ bd2 bdl R2 (fun i y hy => HXS.out i y hy) HhN2.out (by have := HXL.out; omega) Hhbdl.out cb0 _ rb hW0 h1 h2 e1 (by have q1 := HNB.out; have q2 := HCB0.out; omega) (by have q1 := HNB.out; have q2 := HCB0.out; omega)

set_option maxHeartbeats 4000000 in
set_option maxRecDepth 100000 in
theorem slC_51 (W0 : World) (bs : Bool) (n : Nd) (hk : n.kind = 51) (x : Nd) (xs : List Nd) (D : Nat) (R : By → Nat → Prop) (bd : Nat) (R2 : Nat → By → Nat → Prop) (bd2 : Nat → Nat) (bdl : Nat) (hkx : n.kids = x :: xs) (hL : LiesD D W0 n) (hRm : n.kids.length ≤ n.cap) (tx : isTyP x.kind) (hN : NodeW W0 bs bd x R) (hN2 : ∀ i y, xs[i]? = some y → NodeW W0 bs (bd2 i) y (R2 i)) (q : Nat) (hkl : xs.length = q) (hxs : xs.length ≤ 999) (hbdl : 16 + 4 * xs.length + sumB bd2 xs.length ≤ bdl) : SlotsC W0 bs n (fun sl => ∃ c c2, sl = [⟨1, 4, 0, some (201, c), VecAt q R2, bdl⟩] ++ pairSl 2 x.kind c2 R bd) := by
  refine slC_any W0 bs n _ (by omega) ?_
  have hcap : xs.length + 1 ≤ n.cap := by rw [hkx, List.length_cons] at hRm; exact hRm
  intro w hb
  obtain ⟨b, o, hao, hbl, hcs⟩ := kid_at hL hb (by rw [hkx]; simp)
  obtain ⟨b2, o2, hao2, hbl2, hcs0⟩ := kid_at hL (Below.refl W0.heap.size W0) (by rw [hkx]; simp)
  rw [hao] at hao2
  cases hao2
  obtain ⟨k, t, m, u, ao, cap, kids⟩ := n
  obtain rfl : k = 51 := hk
  obtain rfl : ao = some ⟨b, o, none⟩ := hao
  obtain rfl : kids = x :: xs := hkx
  have HX := Lib.hid (show NdCells w b o x by have h := hcs 0 x rfl; rw [Nat.zero_mul, Nat.add_zero] at h; exact h)
  have HXS := Lib.hid (show ∀ i y, xs[i]? = some y → NdCells W0 b (o + 5 + i * 5) y from fun i y hy => by have h := hcs0 (i + 1) y hy; rw [show o + (i + 1) * 5 = o + 5 + i * 5 from by omega] at h; exact h)
  have hcap : q + 1 ≤ cap := by have h : xs.length + 1 ≤ cap := hcap; omega
  have HQ := Lib.hid hkl
  have HXL := Lib.hid hxs
  have hq9 : q ≤ 999 := by omega
  have HW0 := Lib.hid hb
  have Htx := Lib.hid tx
  have HhN := Lib.hid hN
  have HhN2 := Lib.hid hN2
  have Hhbdl := Lib.hid hbdl
  clear hcs hL hb tx hN hN2 hbdl
  clear hcs0 hbl2
  rw [show (Nd.mk 51 t m u (some ⟨b, o, none⟩) cap (x :: xs)).val = .agg #[.int .i64 51, .string t, .string m, .int .u64 u, .slice (some ⟨b, o, none⟩) (q + 1 : Nat) cap] from by show Value.agg #[_, _, _, _, .slice _ (xs.length + 1) _] = _; rw [hkl]; rfl]
  clear hkl hxs hRm
  go_enter Tryz.func111, Tryz.ntmps111
  go_upto_region 14 with fail
  have HB := Lib.hid ((Below.refl w.heap.size w).alloc (Nat.le_refl _) (.cells #[.int .i64 51, .string t, .string m, .int .u64 u, .slice (some ⟨b, o, none⟩) (q + 1 : Nat) cap] 25))
  have hsz : w.heap.size < (w.alloc (.cells #[.int .i64 51, .string t, .string m, .int .u64 u, .slice (some ⟨b, o, none⟩) (q + 1 : Nat) cap] 25)).heap.size := by simp
  have n4 : (w.alloc (.cells #[.int .i64 51, .string t, .string m, .int .u64 u, .slice (some ⟨b, o, none⟩) (q + 1 : Nat) cap] 25)).cell? ⟨w.heap.size, 4, none⟩ = some (.slice (some ⟨b, o, none⟩) (q + 1 : Nat) cap) := World.cell?_alloc_at _ _ _ _ rfl
  have hxv := HX.out.below HB.out hbl
  have hbV : b < (w.alloc (.cells #[.int .i64 51, .string t, .string m, .int .u64 u, .slice (some ⟨b, o, none⟩) (q + 1 : Nat) cap] 25)).heap.size := Nat.lt_trans hbl hsz
  obtain ⟨nb, hnb⟩ : ∃ nb, nb = w.heap.size := ⟨_, rfl⟩
  rw [← hnb] at hsz n4 ⊢
  have HNB := Lib.hid hnb
  clear hnb
  generalize w.alloc (.cells #[.int .i64 51, .string t, .string m, .int .u64 u, .slice (some ⟨b, o, none⟩) (q + 1 : Nat) cap] 25) = V at *
  obtain ⟨c0, c1, c2, c3, c4⟩ := hxv
  by_cases hc1 : cap = 1
  · subst hc1
    obtain rfl : q = 0 := by omega
    obtain rfl : xs = [] := List.eq_nil_of_length_eq_zero HQ.out
    have HQ : Hid ((0 : Nat) = 0) := Lib.hid rfl
    have hS0 : V.cell? ⟨nb, 4, none⟩ = some (.slice (some ⟨b, o, none⟩) 1 1) ∧ V.cell? ⟨b, o, none⟩ = some (.int .i64 x.kind) ∧ V.cell? ⟨b, o + 1, none⟩ = some (.string x.text) ∧ V.cell? ⟨b, o + 2, none⟩ = some (.string x.more) ∧ V.cell? ⟨b, o + 3, none⟩ = some (.int .u64 x.num) ∧ V.cell? ⟨b, o + 4, none⟩ = some (.slice x.ao x.kids.length x.cap) := ⟨n4, c0, c1, c2, c3, c4⟩
    have HSK := Lib.hid (show ∀ W : World, Below V.heap.size V W → (W.cell? ⟨nb, 4, none⟩ = some (.slice (some ⟨b, o, none⟩) 1 1) ∧ W.cell? ⟨b, o, none⟩ = some (.int .i64 x.kind) ∧ W.cell? ⟨b, o + 1, none⟩ = some (.string x.text) ∧ W.cell? ⟨b, o + 2, none⟩ = some (.string x.more) ∧ W.cell? ⟨b, o + 3, none⟩ = some (.int .u64 x.num) ∧ W.cell? ⟨b, o + 4, none⟩ = some (.slice x.ao x.kids.length x.cap)) from fun W h => ⟨(h.cell (p := ⟨nb, 4, none⟩) hsz).trans n4, (h.cell (p := ⟨b, o, none⟩) hbV).trans c0, (h.cell (p := ⟨b, o + 1, none⟩) hbV).trans c1, (h.cell (p := ⟨b, o + 2, none⟩) hbV).trans c2, (h.cell (p := ⟨b, o + 3, none⟩) hbV).trans c3, (h.cell (p := ⟨b, o + 4, none⟩) hbV).trans c4⟩)
    have HX0 : Hid (Below V.heap.size V V.drew) := Lib.hid ((Below.refl V.heap.size V).drew)
    refine headBegin (S := fun w' => (w'.cell? ⟨nb, 4, none⟩ = some (.slice (some ⟨b, o, none⟩) 1 1) ∧ w'.cell? ⟨b, o, none⟩ = some (.int .i64 x.kind) ∧ w'.cell? ⟨b, o + 1, none⟩ = some (.string x.text) ∧ w'.cell? ⟨b, o + 2, none⟩ = some (.string x.more) ∧ w'.cell? ⟨b, o + 3, none⟩ = some (.int .u64 x.num) ∧ w'.cell? ⟨b, o + 4, none⟩ = some (.slice x.ao x.kids.length x.cap))) 13 (by kernel_rfl) hS0 (fun hHeld => ?_)
    clear hS0
    refine headTake (i := 0) (v := ?_) rfl (by kernel_rfl) (by kernel_rfl) (by kernel_rfl) (by kernel_rfl) (fun _ _ _ h => h) (Or.inl ⟨by rfl, ?_⟩) hHeld ?_
    rotate_left 1
    · intro w hSw
      go_split_ands
      go_simp
      try with_reducible rfl
    simp only [List.getElem_toArray, List.getElem_cons_zero, List.getElem_cons_succ, Act.put, List.setIfInBounds_toArray, List.set_cons_zero, List.set_cons_succ]
    refine headTake (i := 1) (v := ?_) rfl (by kernel_rfl) (by kernel_rfl) (by kernel_rfl) (by kernel_rfl) (fun _ _ _ h => h) (Or.inl ⟨by rfl, ?_⟩) hHeld ?_
    rotate_left 1
    · intro w hSw
      go_split_ands
      go_simp
      try with_reducible rfl
    simp only [List.getElem_toArray, List.getElem_cons_zero, List.getElem_cons_succ, Act.put, List.setIfInBounds_toArray, List.set_cons_zero, List.set_cons_succ]
    refine headTake (i := 2) (v := ?_) rfl (by kernel_rfl) (by kernel_rfl) (by kernel_rfl) (by kernel_rfl) (fun _ _ _ h => h) (Or.inl ⟨by rfl, ?_⟩) hHeld ?_
    rotate_left 1
    · intro w hSw
      go_split_ands
      go_simp
      try with_reducible rfl
    simp only [List.getElem_toArray, List.getElem_cons_zero, List.getElem_cons_succ, Act.put, List.setIfInBounds_toArray, List.set_cons_zero, List.set_cons_succ]
    refine headTake (i := 5) (v := ?_) rfl (by kernel_rfl) (by kernel_rfl) (by kernel_rfl) (by kernel_rfl) (fun _ _ _ h => h) (Or.inl ⟨by rfl, ?_⟩) hHeld ?_
    rotate_left 1
    · intro w hSw
      go_split_ands
      go_simp
      try with_reducible rfl
    simp only [List.getElem_toArray, List.getElem_cons_zero, List.getElem_cons_succ, Act.put, List.setIfInBounds_toArray, List.set_cons_zero, List.set_cons_succ]
    refine headTake (i := 6) (v := ?_) rfl (by kernel_rfl) (by kernel_rfl) (by kernel_rfl) (by kernel_rfl) (fun _ _ _ h => h) (Or.inl ⟨by rfl, ?_⟩) hHeld ?_
    rotate_left 1
    · intro w hSw
      go_split_ands
      go_simp
      try with_reducible rfl
    simp only [List.getElem_toArray, List.getElem_cons_zero, List.getElem_cons_succ, Act.put, List.setIfInBounds_toArray, List.set_cons_zero, List.set_cons_succ]
    refine headTake (i := 7) (v := ?_) rfl (by kernel_rfl) (by kernel_rfl) (by kernel_rfl) (by kernel_rfl) (fun _ _ _ h => h) (Or.inl ⟨by rfl, ?_⟩) hHeld ?_
    rotate_left 1
    · intro w hSw
      go_split_ands
      go_simp
      try with_reducible rfl
    simp only [List.getElem_toArray, List.getElem_cons_zero, List.getElem_cons_succ, Act.put, List.setIfInBounds_toArray, List.set_cons_zero, List.set_cons_succ]
    refine headTake (i := 8) (v := ?_) rfl (by kernel_rfl) (by kernel_rfl) (by kernel_rfl) (by kernel_rfl) (fun _ _ _ h => h) (Or.inl ⟨by rfl, ?_⟩) hHeld ?_
    rotate_left 1
    · intro w hSw
      go_split_ands
      go_simp
      try with_reducible rfl
    simp only [List.getElem_toArray, List.getElem_cons_zero, List.getElem_cons_succ, Act.put, List.setIfInBounds_toArray, List.set_cons_zero, List.set_cons_succ]
    refine headStep (i := 3) rfl (by kernel_rfl) (fun K hK => ?_)
    go_simp
    go_at_call 176
    refine (listAt_any 1 _ _ _ _).mono ?_
    rintro e c0w ⟨cb0, rfl, hcb0, hct0, hb0⟩
    have HT0 := Lib.hid hct0
    have HB0 := Lib.hid hb0
    have HX1 := Lib.hid (HX0.out.trans (hb0.mono HX0.out.size))
    have HCB0 := Lib.hid (show V.heap.size ≤ cb0 from hcb0)
    clear hct0 hb0 hcb0
    refine hK.out _ _ ⟨fun _ => HSK.out _ HX1.out, fun hS => ?_⟩
    have hHeld := hS (by decide)
    clear hS hK K
    refine headStep2 (i := 4) (j := 9) rfl rfl (by kernel_rfl) (fun K hK => ?_) (fun K hK => ?_)
    · go_simp
      have HX2 := Lib.hid (HX1.out.alloc HX1.out.size (.cells #[.int .i64 1, .int .i64 4, .int .u64 0, .func (.func 201) #[] #[.pointer (some ⟨cb0, 0, none⟩)]] 265))
      have HR0 : Hid (SlV (c0w.alloc (.cells #[.int .i64 1, .int .i64 4, .int .u64 0, .func (.func 201) #[] #[.pointer (some ⟨cb0, 0, none⟩)]] 265)) (.slice (some ⟨c0w.heap.size, 0, none⟩) 1 1) (listSl 1 cb0 (VecAt 0 R2) bdl)) := Lib.hid (slv_new c0w (listSl 1 cb0 (VecAt 0 R2) bdl) 265 Nat.zero_lt_one)
      refine hK.out _ _ ⟨fun _ => HSK.out _ HX2.out, fun hS => ?_⟩
      have hHeld := hS (by decide)
      clear hS hK K
      refine headStep (i := 9) rfl (by kernel_rfl) (fun K hK => ?_)
      go_simp
      go_at_call 174
      show Calls _ _ #[_, x.val] _ _
      refine (eitherV 2 2 rfl (by decide) x Htx.out R bd _).mono ?_
      rintro e c1w ⟨cb1, g1, rfl, hcb1, hct1, hsv1, hb1⟩
      have HS1 := Lib.hid hsv1
      have HT1 := Lib.hid hct1
      have HCB1 := Lib.hid (Nat.le_trans HX2.out.size hcb1)
      clear hsv1 hct1 hcb1
      have HB1 := Lib.hid hb1
      have HX3 := Lib.hid (HX2.out.trans (hb1.mono HX2.out.size))
      clear hb1
      refine hK.out _ _ ⟨fun _ => HSK.out _ HX3.out, fun hS => ?_⟩
      have hHeld := hS (by decide)
      clear hS hK K
      refine headStep (i := 10) rfl (by kernel_rfl) (fun K hK => ?_)
      go_simp
      have HX4 := Lib.hid (HX3.out.alloc HX3.out.size (.cells #[.slice (some ⟨c0w.heap.size, 0, none⟩) 1 1, .slice (some ⟨g1, 0, none⟩) 2 2] 260))
      refine hK.out _ _ ⟨fun _ => HSK.out _ HX4.out, fun hS => ?_⟩
      have hHeld := hS (by decide)
      clear hS hK K
      refine headStep (i := 11) rfl (by kernel_rfl) (fun K hK => ?_)
      go_simp
      go_at_call 175
      refine (join_any [listSl 1 cb0 (VecAt 0 R2) bdl, pairSl 2 x.kind #[.pointer (some ⟨cb1, 0, none⟩)] R bd] [.slice (some ⟨c0w.heap.size, 0, none⟩) 1 1, .slice (some ⟨g1, 0, none⟩) 2 2] (c1w.heap.size) 2 _ rfl rfl (by decide) (slv2 ((HR0.out.below HB1.out).below ((Below.refl _ _).alloc (Nat.le_refl _) _)) (HS1.out.below ((Below.refl _ _).alloc (Nat.le_refl _) _))) (cells_at c1w [.slice (some ⟨c0w.heap.size, 0, none⟩) 1 1, .slice (some ⟨g1, 0, none⟩) 2 2] 260 _ (by simp)) 3 rfl (by decide)).mono ?_
      rintro e cjw ⟨so, capj, rfl, hown, hbj⟩
      have HOW := Lib.hid hown
      have HBJ := Lib.hid hbj
      have HX5 := Lib.hid (HX4.out.trans (hbj.mono HX4.out.size))
      clear hown hbj
      refine hK.out _ _ ⟨fun _ => HSK.out _ HX5.out, fun hS => ?_⟩
      have hHeld := hS (by decide)
      clear hS hK K
      refine headStep (i := 12) rfl (by kernel_rfl) (fun K hK => ?_)
      go_simp
      refine hK.out _ _ ⟨fun _ => HSK.out _ HX5.out, fun hS => ?_⟩
      have hHeld := hS (by decide)
      clear hS hK K
      refine headDone (by kernel_rfl) ?_ _
      go_wp2_with fail
      go_ret
      have hzw : w.heap.size ≤ V.heap.size := HB.out.size
      have hBW := HB.out.trans (HX4.out.mono hzw)
      refine ⟨_, listSl 1 cb0 (VecAt 0 R2) bdl ++ pairSl 2 x.kind #[.pointer (some ⟨cb1, 0, none⟩)] R bd, (c1w.alloc (.cells #[.slice (some ⟨c0w.heap.size, 0, none⟩) 1 1, .slice (some ⟨g1, 0, none⟩) 2 2] 260)), rfl, ⟨_, _, rfl⟩, hBW, HBJ.out, HOW.out, fun mb rb hm hr h1 h2 tt htt F cc hcc => ?_⟩
      have hW0 := HW0.out.trans (hBW.mono HW0.out.size)
      have hlt0 := World.block_lt_of_cell? _ _ HT0.out
      have e1 := (((Below.refl c1w.heap.size c1w).alloc (Nat.le_refl _) (.cells #[.slice (some ⟨c0w.heap.size, 0, none⟩) 1 1, .slice (some ⟨g1, 0, none⟩) 2 2] 260)).cell (p := ⟨cb0, 0, none⟩) (Nat.lt_of_lt_of_le hlt0 (Nat.le_trans (by simp) HB1.out.size))).trans ((HB1.out.cell (p := ⟨cb0, 0, none⟩) (Nat.lt_trans hlt0 (by simp))).trans ((((Below.refl c0w.heap.size c0w).alloc (Nat.le_refl _) (.cells #[.int .i64 1, .int .i64 4, .int .u64 0, .func (.func 201) #[] #[.pointer (some ⟨cb0, 0, none⟩)]] 265)).cell (p := ⟨cb0, 0, none⟩) hlt0).trans HT0.out))
      have g1' := HT1.out.below ((Below.refl c1w.heap.size c1w).alloc (Nat.le_refl _) (.cells #[.slice (some ⟨c0w.heap.size, 0, none⟩) 1 1, .slice (some ⟨g1, 0, none⟩) 2 2] 260)) HT1.out.lt
      rcases List.mem_append.1 htt with htt | htt
      · obtain rfl := List.mem_singleton.1 htt
        cases hcc
        skip
        skip
        exact list_ref W0 mb bs [] b o _ bd2 bdl R2 (fun i y hy => by simp at hy) HhN2.out (by have := HXL.out; omega) Hhbdl.out cb0 _ rb hW0 h1 h2 e1 (by have q1 := HNB.out; have q2 := HCB0.out; omega) (by have q1 := HNB.out; have q2 := HCB0.out; omega)
      · exact pair_refs HhN.out hW0 h1 h2 g1' (by have q1 := HNB.out; have q2 := HCB1.out; omega) (by have q1 := HNB.out; have q2 := HCB1.out; omega) tt htt F cc hcc
    · go_simp
      go_at_call 174
      show Calls _ _ #[_, x.val] _ _
      refine (eitherV 2 2 rfl (by decide) x Htx.out R bd _).mono ?_
      rintro e c1w ⟨cb1, g1, rfl, hcb1, hct1, hsv1, hb1⟩
      have HS1 := Lib.hid hsv1
      have HT1 := Lib.hid hct1
      have HCB1 := Lib.hid (Nat.le_trans HX1.out.size hcb1)
      clear hsv1 hct1 hcb1
      have HB1 := Lib.hid hb1
      have HX7 := Lib.hid (HX1.out.trans (hb1.mono HX1.out.size))
      clear hb1
      refine hK.out _ _ ⟨fun _ => HSK.out _ HX7.out, fun hS => ?_⟩
      have hHeld := hS (by decide)
      clear hS hK K
      refine headStep (i := 4) rfl (by kernel_rfl) (fun K hK => ?_)
      go_simp
      have HX8 := Lib.hid (HX7.out.alloc HX7.out.size (.cells #[.int .i64 1, .int .i64 4, .int .u64 0, .func (.func 201) #[] #[.pointer (some ⟨cb0, 0, none⟩)]] 265))
      have HR0 : Hid (SlV (c1w.alloc (.cells #[.int .i64 1, .int .i64 4, .int .u64 0, .func (.func 201) #[] #[.pointer (some ⟨cb0, 0, none⟩)]] 265)) (.slice (some ⟨c1w.heap.size, 0, none⟩) 1 1) (listSl 1 cb0 (VecAt 0 R2) bdl)) := Lib.hid (slv_new c1w (listSl 1 cb0 (VecAt 0 R2) bdl) 265 Nat.zero_lt_one)
      refine hK.out _ _ ⟨fun _ => HSK.out _ HX8.out, fun hS => ?_⟩
      have hHeld := hS (by decide)
      clear hS hK K
      refine headStep (i := 10) rfl (by kernel_rfl) (fun K hK => ?_)
      go_simp
      have HX9 := Lib.hid (HX8.out.alloc HX8.out.size (.cells #[.slice (some ⟨c1w.heap.size, 0, none⟩) 1 1, .slice (some ⟨g1, 0, none⟩) 2 2] 260))
      refine hK.out _ _ ⟨fun _ => HSK.out _ HX9.out, fun hS => ?_⟩
      have hHeld := hS (by decide)
      clear hS hK K
      refine headStep (i := 11) rfl (by kernel_rfl) (fun K hK => ?_)
      go_simp
      go_at_call 175
      refine (join_any [listSl 1 cb0 (VecAt 0 R2) bdl, pairSl 2 x.kind #[.pointer (some ⟨cb1, 0, none⟩)] R bd] [.slice (some ⟨c1w.heap.size, 0, none⟩) 1 1, .slice (some ⟨g1, 0, none⟩) 2 2] (c1w.heap.size + 1) 2 _ rfl rfl (by decide) (slv2 (HR0.out.below ((Below.refl _ _).alloc (Nat.le_refl _) _)) ((HS1.out.below ((Below.refl c1w.heap.size c1w).alloc (Nat.le_refl _) (.cells #[.int .i64 1, .int .i64 4, .int .u64 0, .func (.func 201) #[] #[.pointer (some ⟨cb0, 0, none⟩)]] 265))).below ((Below.refl _ _).alloc (Nat.le_refl _) _))) (cells_at (c1w.alloc (.cells #[.int .i64 1, .int .i64 4, .int .u64 0, .func (.func 201) #[] #[.pointer (some ⟨cb0, 0, none⟩)]] 265)) [.slice (some ⟨c1w.heap.size, 0, none⟩) 1 1, .slice (some ⟨g1, 0, none⟩) 2 2] 260 _ (by simp)) 3 rfl (by decide)).mono ?_
      rintro e cjw ⟨so, capj, rfl, hown, hbj⟩
      have HOW := Lib.hid hown
      have HBJ := Lib.hid hbj
      have HX10 := Lib.hid (HX9.out.trans (hbj.mono HX9.out.size))
      clear hown hbj
      refine hK.out _ _ ⟨fun _ => HSK.out _ HX10.out, fun hS => ?_⟩
      have hHeld := hS (by decide)
      clear hS hK K
      refine headStep (i := 12) rfl (by kernel_rfl) (fun K hK => ?_)
      go_simp
      refine hK.out _ _ ⟨fun _ => HSK.out _ HX10.out, fun hS => ?_⟩
      have hHeld := hS (by decide)
      clear hS hK K
      refine headDone (by kernel_rfl) ?_ _
      go_wp2_with fail
      go_ret
      have hzw : w.heap.size ≤ V.heap.size := HB.out.size
      have hBW := HB.out.trans (HX9.out.mono hzw)
      refine ⟨_, listSl 1 cb0 (VecAt 0 R2) bdl ++ pairSl 2 x.kind #[.pointer (some ⟨cb1, 0, none⟩)] R bd, ((c1w.alloc (.cells #[.int .i64 1, .int .i64 4, .int .u64 0, .func (.func 201) #[] #[.pointer (some ⟨cb0, 0, none⟩)]] 265)).alloc (.cells #[.slice (some ⟨c1w.heap.size, 0, none⟩) 1 1, .slice (some ⟨g1, 0, none⟩) 2 2] 260)), rfl, ⟨_, _, rfl⟩, hBW, HBJ.out, HOW.out, fun mb rb hm hr h1 h2 tt htt F cc hcc => ?_⟩
      have hW0 := HW0.out.trans (hBW.mono HW0.out.size)
      have hlt0 := World.block_lt_of_cell? _ _ HT0.out
      have hlt1 : cb0 < c1w.heap.size := Nat.lt_of_lt_of_le hlt0 HB1.out.size
      have e1 := (((Below.refl _ _).alloc (Nat.le_refl _) (.cells #[.slice (some ⟨c1w.heap.size, 0, none⟩) 1 1, .slice (some ⟨g1, 0, none⟩) 2 2] 260)).cell (p := ⟨cb0, 0, none⟩) (Nat.lt_trans hlt1 (by simp))).trans ((((Below.refl c1w.heap.size c1w).alloc (Nat.le_refl _) (.cells #[.int .i64 1, .int .i64 4, .int .u64 0, .func (.func 201) #[] #[.pointer (some ⟨cb0, 0, none⟩)]] 265)).cell (p := ⟨cb0, 0, none⟩) hlt1).trans ((HB1.out.cell (p := ⟨cb0, 0, none⟩) hlt0).trans HT0.out))
      have gz := HT1.out.below ((Below.refl c1w.heap.size c1w).alloc (Nat.le_refl _) (.cells #[.int .i64 1, .int .i64 4, .int .u64 0, .func (.func 201) #[] #[.pointer (some ⟨cb0, 0, none⟩)]] 265)) HT1.out.lt
      have g1' := gz.below ((Below.refl _ _).alloc (Nat.le_refl _) (.cells #[.slice (some ⟨c1w.heap.size, 0, none⟩) 1 1, .slice (some ⟨g1, 0, none⟩) 2 2] 260)) gz.lt
      rcases List.mem_append.1 htt with htt | htt
      · obtain rfl := List.mem_singleton.1 htt
        cases hcc
        skip
        skip
        exact list_ref W0 mb bs [] b o _ bd2 bdl R2 (fun i y hy => by simp at hy) HhN2.out (by have := HXL.out; omega) Hhbdl.out cb0 _ rb hW0 h1 h2 e1 (by have q1 := HNB.out; have q2 := HCB0.out; omega) (by have q1 := HNB.out; have q2 := HCB0.out; omega)
      · exact pair_refs HhN.out hW0 h1 h2 g1' (by have q1 := HNB.out; have q2 := HCB1.out; omega) (by have q1 := HNB.out; have q2 := HCB1.out; omega) tt htt F cc hcc
  · have hkc : (q : Int) + 1 ≤ (cap : Int) := by omega
    have hk1 : (1 : Int) ≤ (q : Int) + 1 := by omega
    have hcI : (1 : Int) ≤ (cap : Int) := by omega
    have hkI : (1 : Int) ≤ ((q + 1 : Nat) : Int) := by omega
    have hS0 : V.cell? ⟨nb, 4, none⟩ = some (.slice (some ⟨b, o, none⟩) (q + 1 : Nat) cap) ∧ V.cell? ⟨b, o, none⟩ = some (.int .i64 x.kind) ∧ V.cell? ⟨b, o + 1, none⟩ = some (.string x.text) ∧ V.cell? ⟨b, o + 2, none⟩ = some (.string x.more) ∧ V.cell? ⟨b, o + 3, none⟩ = some (.int .u64 x.num) ∧ V.cell? ⟨b, o + 4, none⟩ = some (.slice x.ao x.kids.length x.cap) := ⟨n4, c0, c1, c2, c3, c4⟩
    have HSK := Lib.hid (show ∀ W : World, Below V.heap.size V W → (W.cell? ⟨nb, 4, none⟩ = some (.slice (some ⟨b, o, none⟩) (q + 1 : Nat) cap) ∧ W.cell? ⟨b, o, none⟩ = some (.int .i64 x.kind) ∧ W.cell? ⟨b, o + 1, none⟩ = some (.string x.text) ∧ W.cell? ⟨b, o + 2, none⟩ = some (.string x.more) ∧ W.cell? ⟨b, o + 3, none⟩ = some (.int .u64 x.num) ∧ W.cell? ⟨b, o + 4, none⟩ = some (.slice x.ao x.kids.length x.cap)) from fun W h => ⟨(h.cell (p := ⟨nb, 4, none⟩) hsz).trans n4, (h.cell (p := ⟨b, o, none⟩) hbV).trans c0, (h.cell (p := ⟨b, o + 1, none⟩) hbV).trans c1, (h.cell (p := ⟨b, o + 2, none⟩) hbV).trans c2, (h.cell (p := ⟨b, o + 3, none⟩) hbV).trans c3, (h.cell (p := ⟨b, o + 4, none⟩) hbV).trans c4⟩)
    have HX0 : Hid (Below V.heap.size V V.drew) := Lib.hid ((Below.refl V.heap.size V).drew)
    refine headBegin (S := fun w' => (w'.cell? ⟨nb, 4, none⟩ = some (.slice (some ⟨b, o, none⟩) (q + 1 : Nat) cap) ∧ w'.cell? ⟨b, o, none⟩ = some (.int .i64 x.kind) ∧ w'.cell? ⟨b, o + 1, none⟩ = some (.string x.text) ∧ w'.cell? ⟨b, o + 2, none⟩ = some (.string x.more) ∧ w'.cell? ⟨b, o + 3, none⟩ = some (.int .u64 x.num) ∧ w'.cell? ⟨b, o + 4, none⟩ = some (.slice x.ao x.kids.length x.cap))) 13 (by kernel_rfl) hS0 (fun hHeld => ?_)
    clear hS0
    refine headTake (i := 0) (v := ?_) rfl (by kernel_rfl) (by kernel_rfl) (by kernel_rfl) (by kernel_rfl) (fun _ _ _ h => h) (Or.inl ⟨by rfl, ?_⟩) hHeld ?_
    rotate_left 1
    · intro w hSw
      go_split_ands
      go_simp
      try with_reducible rfl
    simp only [List.getElem_toArray, List.getElem_cons_zero, List.getElem_cons_succ, Act.put, List.setIfInBounds_toArray, List.set_cons_zero, List.set_cons_succ]
    refine headTake (i := 1) (v := ?_) rfl (by kernel_rfl) (by kernel_rfl) (by kernel_rfl) (by kernel_rfl) (fun _ _ _ h => h) (Or.inl ⟨by rfl, ?_⟩) hHeld ?_
    rotate_left 1
    · intro w hSw
      go_split_ands
      go_simp
      try with_reducible rfl
    simp only [List.getElem_toArray, List.getElem_cons_zero, List.getElem_cons_succ, Act.put, List.setIfInBounds_toArray, List.set_cons_zero, List.set_cons_succ]
    refine headTake (i := 2) (v := ?_) rfl (by kernel_rfl) (by kernel_rfl) (by kernel_rfl) (by kernel_rfl) (fun _ _ _ h => h) (Or.inl ⟨by rfl, ?_⟩) hHeld ?_
    rotate_left 1
    · intro w hSw
      go_split_ands
      go_simp
      try with_reducible rfl
    simp only [List.getElem_toArray, List.getElem_cons_zero, List.getElem_cons_succ, Act.put, List.setIfInBounds_toArray, List.set_cons_zero, List.set_cons_succ]
    refine headTake (i := 5) (v := ?_) rfl (by kernel_rfl) (by kernel_rfl) (by kernel_rfl) (by kernel_rfl) (fun _ _ _ h => h) (Or.inl ⟨by rfl, ?_⟩) hHeld ?_
    rotate_left 1
    · intro w hSw
      go_split_ands
      go_simp
      try with_reducible rfl
    simp only [List.getElem_toArray, List.getElem_cons_zero, List.getElem_cons_succ, Act.put, List.setIfInBounds_toArray, List.set_cons_zero, List.set_cons_succ]
    refine headTake (i := 6) (v := ?_) rfl (by kernel_rfl) (by kernel_rfl) (by kernel_rfl) (by kernel_rfl) (fun _ _ _ h => h) (Or.inl ⟨by rfl, ?_⟩) hHeld ?_
    rotate_left 1
    · intro w hSw
      go_split_ands
      go_simp
      try with_reducible rfl
    simp only [List.getElem_toArray, List.getElem_cons_zero, List.getElem_cons_succ, Act.put, List.setIfInBounds_toArray, List.set_cons_zero, List.set_cons_succ]
    refine headTake (i := 7) (v := ?_) rfl (by kernel_rfl) (by kernel_rfl) (by kernel_rfl) (by kernel_rfl) (fun _ _ _ h => h) (Or.inl ⟨by rfl, ?_⟩) hHeld ?_
    rotate_left 1
    · intro w hSw
      go_split_ands
      go_simp
      try with_reducible rfl
    simp only [List.getElem_toArray, List.getElem_cons_zero, List.getElem_cons_succ, Act.put, List.setIfInBounds_toArray, List.set_cons_zero, List.set_cons_succ]
    refine headTake (i := 8) (v := ?_) rfl (by kernel_rfl) (by kernel_rfl) (by kernel_rfl) (by kernel_rfl) (fun _ _ _ h => h) (Or.inl ⟨by rfl, ?_⟩) hHeld ?_
    rotate_left 1
    · intro w hSw
      go_split_ands
      go_simp
      try with_reducible rfl
    simp only [List.getElem_toArray, List.getElem_cons_zero, List.getElem_cons_succ, Act.put, List.setIfInBounds_toArray, List.set_cons_zero, List.set_cons_succ]
    refine headStep (i := 3) rfl (by kernel_rfl) (fun K hK => ?_)
    go_simp
    go_at_call 176
    refine (listAt_any 1 _ _ _ _).mono ?_
    rintro e c0w ⟨cb0, rfl, hcb0, hct0, hb0⟩
    have HT0 := Lib.hid hct0
    have HB0 := Lib.hid hb0
    have HX12 := Lib.hid (HX0.out.trans (hb0.mono HX0.out.size))
    have HCB0 := Lib.hid (show V.heap.size ≤ cb0 from hcb0)
    clear hct0 hb0 hcb0
    refine hK.out _ _ ⟨fun _ => HSK.out _ HX12.out, fun hS => ?_⟩
    have hHeld := hS (by decide)
    clear hS hK K
    refine headStep2 (i := 4) (j := 9) rfl rfl (by kernel_rfl) (fun K hK => ?_) (fun K hK => ?_)
    · go_simp
      have HX13 := Lib.hid (HX12.out.alloc HX12.out.size (.cells #[.int .i64 1, .int .i64 4, .int .u64 0, .func (.func 201) #[] #[.pointer (some ⟨cb0, 0, none⟩)]] 265))
      have HR0 : Hid (SlV (c0w.alloc (.cells #[.int .i64 1, .int .i64 4, .int .u64 0, .func (.func 201) #[] #[.pointer (some ⟨cb0, 0, none⟩)]] 265)) (.slice (some ⟨c0w.heap.size, 0, none⟩) 1 1) (listSl 1 cb0 (VecAt q R2) bdl)) := Lib.hid (slv_new c0w (listSl 1 cb0 (VecAt q R2) bdl) 265 Nat.zero_lt_one)
      refine hK.out _ _ ⟨fun _ => HSK.out _ HX13.out, fun hS => ?_⟩
      have hHeld := hS (by decide)
      clear hS hK K
      refine headStep (i := 9) rfl (by kernel_rfl) (fun K hK => ?_)
      go_simp
      go_at_call 174
      show Calls _ _ #[_, x.val] _ _
      refine (eitherV 2 2 rfl (by decide) x Htx.out R bd _).mono ?_
      rintro e c1w ⟨cb1, g1, rfl, hcb1, hct1, hsv1, hb1⟩
      have HS1 := Lib.hid hsv1
      have HT1 := Lib.hid hct1
      have HCB1 := Lib.hid (Nat.le_trans HX13.out.size hcb1)
      clear hsv1 hct1 hcb1
      have HB1 := Lib.hid hb1
      have HX14 := Lib.hid (HX13.out.trans (hb1.mono HX13.out.size))
      clear hb1
      refine hK.out _ _ ⟨fun _ => HSK.out _ HX14.out, fun hS => ?_⟩
      have hHeld := hS (by decide)
      clear hS hK K
      refine headStep (i := 10) rfl (by kernel_rfl) (fun K hK => ?_)
      go_simp
      have HX15 := Lib.hid (HX14.out.alloc HX14.out.size (.cells #[.slice (some ⟨c0w.heap.size, 0, none⟩) 1 1, .slice (some ⟨g1, 0, none⟩) 2 2] 260))
      refine hK.out _ _ ⟨fun _ => HSK.out _ HX15.out, fun hS => ?_⟩
      have hHeld := hS (by decide)
      clear hS hK K
      refine headStep (i := 11) rfl (by kernel_rfl) (fun K hK => ?_)
      go_simp
      go_at_call 175
      refine (join_any [listSl 1 cb0 (VecAt q R2) bdl, pairSl 2 x.kind #[.pointer (some ⟨cb1, 0, none⟩)] R bd] [.slice (some ⟨c0w.heap.size, 0, none⟩) 1 1, .slice (some ⟨g1, 0, none⟩) 2 2] (c1w.heap.size) 2 _ rfl rfl (by decide) (slv2 ((HR0.out.below HB1.out).below ((Below.refl _ _).alloc (Nat.le_refl _) _)) (HS1.out.below ((Below.refl _ _).alloc (Nat.le_refl _) _))) (cells_at c1w [.slice (some ⟨c0w.heap.size, 0, none⟩) 1 1, .slice (some ⟨g1, 0, none⟩) 2 2] 260 _ (by simp)) 3 rfl (by decide)).mono ?_
      rintro e cjw ⟨so, capj, rfl, hown, hbj⟩
      have HOW := Lib.hid hown
      have HBJ := Lib.hid hbj
      have HX16 := Lib.hid (HX15.out.trans (hbj.mono HX15.out.size))
      clear hown hbj
      refine hK.out _ _ ⟨fun _ => HSK.out _ HX16.out, fun hS => ?_⟩
      have hHeld := hS (by decide)
      clear hS hK K
      refine headStep (i := 12) rfl (by kernel_rfl) (fun K hK => ?_)
      go_simp
      refine hK.out _ _ ⟨fun _ => HSK.out _ HX16.out, fun hS => ?_⟩
      have hHeld := hS (by decide)
      clear hS hK K
      refine headDone (by kernel_rfl) ?_ _
      go_wp2_with fail
      go_ret
      have hzw : w.heap.size ≤ V.heap.size := HB.out.size
      have hBW := HB.out.trans (HX15.out.mono hzw)
      refine ⟨_, listSl 1 cb0 (VecAt q R2) bdl ++ pairSl 2 x.kind #[.pointer (some ⟨cb1, 0, none⟩)] R bd, (c1w.alloc (.cells #[.slice (some ⟨c0w.heap.size, 0, none⟩) 1 1, .slice (some ⟨g1, 0, none⟩) 2 2] 260)), rfl, ⟨_, _, rfl⟩, hBW, HBJ.out, HOW.out, fun mb rb hm hr h1 h2 tt htt F cc hcc => ?_⟩
      have hW0 := HW0.out.trans (hBW.mono HW0.out.size)
      have hlt0 := World.block_lt_of_cell? _ _ HT0.out
      have e1 := (((Below.refl c1w.heap.size c1w).alloc (Nat.le_refl _) (.cells #[.slice (some ⟨c0w.heap.size, 0, none⟩) 1 1, .slice (some ⟨g1, 0, none⟩) 2 2] 260)).cell (p := ⟨cb0, 0, none⟩) (Nat.lt_of_lt_of_le hlt0 (Nat.le_trans (by simp) HB1.out.size))).trans ((HB1.out.cell (p := ⟨cb0, 0, none⟩) (Nat.lt_trans hlt0 (by simp))).trans ((((Below.refl c0w.heap.size c0w).alloc (Nat.le_refl _) (.cells #[.int .i64 1, .int .i64 4, .int .u64 0, .func (.func 201) #[] #[.pointer (some ⟨cb0, 0, none⟩)]] 265)).cell (p := ⟨cb0, 0, none⟩) hlt0).trans HT0.out))
      have g1' := HT1.out.below ((Below.refl c1w.heap.size c1w).alloc (Nat.le_refl _) (.cells #[.slice (some ⟨c0w.heap.size, 0, none⟩) 1 1, .slice (some ⟨g1, 0, none⟩) 2 2] 260)) HT1.out.lt
      rcases List.mem_append.1 htt with htt | htt
      · obtain rfl := List.mem_singleton.1 htt
        cases hcc
        have hqq := HQ.out
        subst hqq
        exact list_ref W0 mb bs xs b (o + 5) _ bd2 bdl R2 (fun i y hy => HXS.out i y hy) HhN2.out (by have := HXL.out; omega) Hhbdl.out cb0 _ rb hW0 h1 h2 e1 (by have q1 := HNB.out; have q2 := HCB0.out; omega) (by have q1 := HNB.out; have q2 := HCB0.out; omega)
      · exact pair_refs HhN.out hW0 h1 h2 g1' (by have q1 := HNB.out; have q2 := HCB1.out; omega) (by have q1 := HNB.out; have q2 := HCB1.out; omega) tt htt F cc hcc
    · go_simp
      go_at_call 174
      show Calls _ _ #[_, x.val] _ _
      refine (eitherV 2 2 rfl (by decide) x Htx.out R bd _).mono ?_
      rintro e c1w ⟨cb1, g1, rfl, hcb1, hct1, hsv1, hb1⟩
      have HS1 := Lib.hid hsv1
      have HT1 := Lib.hid hct1
      have HCB1 := Lib.hid (Nat.le_trans HX12.out.size hcb1)
      clear hsv1 hct1 hcb1
      have HB1 := Lib.hid hb1
      have HX18 := Lib.hid (HX12.out.trans (hb1.mono HX12.out.size))
      clear hb1
      refine hK.out _ _ ⟨fun _ => HSK.out _ HX18.out, fun hS => ?_⟩
      have hHeld := hS (by decide)
      clear hS hK K
      refine headStep (i := 4) rfl (by kernel_rfl) (fun K hK => ?_)
      go_simp
      have HX19 := Lib.hid (HX18.out.alloc HX18.out.size (.cells #[.int .i64 1, .int .i64 4, .int .u64 0, .func (.func 201) #[] #[.pointer (some ⟨cb0, 0, none⟩)]] 265))
      have HR0 : Hid (SlV (c1w.alloc (.cells #[.int .i64 1, .int .i64 4, .int .u64 0, .func (.func 201) #[] #[.pointer (some ⟨cb0, 0, none⟩)]] 265)) (.slice (some ⟨c1w.heap.size, 0, none⟩) 1 1) (listSl 1 cb0 (VecAt q R2) bdl)) := Lib.hid (slv_new c1w (listSl 1 cb0 (VecAt q R2) bdl) 265 Nat.zero_lt_one)
      refine hK.out _ _ ⟨fun _ => HSK.out _ HX19.out, fun hS => ?_⟩
      have hHeld := hS (by decide)
      clear hS hK K
      refine headStep (i := 10) rfl (by kernel_rfl) (fun K hK => ?_)
      go_simp
      have HX20 := Lib.hid (HX19.out.alloc HX19.out.size (.cells #[.slice (some ⟨c1w.heap.size, 0, none⟩) 1 1, .slice (some ⟨g1, 0, none⟩) 2 2] 260))
      refine hK.out _ _ ⟨fun _ => HSK.out _ HX20.out, fun hS => ?_⟩
      have hHeld := hS (by decide)
      clear hS hK K
      refine headStep (i := 11) rfl (by kernel_rfl) (fun K hK => ?_)
      go_simp
      go_at_call 175
      refine (join_any [listSl 1 cb0 (VecAt q R2) bdl, pairSl 2 x.kind #[.pointer (some ⟨cb1, 0, none⟩)] R bd] [.slice (some ⟨c1w.heap.size, 0, none⟩) 1 1, .slice (some ⟨g1, 0, none⟩) 2 2] (c1w.heap.size + 1) 2 _ rfl rfl (by decide) (slv2 (HR0.out.below ((Below.refl _ _).alloc (Nat.le_refl _) _)) ((HS1.out.below ((Below.refl c1w.heap.size c1w).alloc (Nat.le_refl _) (.cells #[.int .i64 1, .int .i64 4, .int .u64 0, .func (.func 201) #[] #[.pointer (some ⟨cb0, 0, none⟩)]] 265))).below ((Below.refl _ _).alloc (Nat.le_refl _) _))) (cells_at (c1w.alloc (.cells #[.int .i64 1, .int .i64 4, .int .u64 0, .func (.func 201) #[] #[.pointer (some ⟨cb0, 0, none⟩)]] 265)) [.slice (some ⟨c1w.heap.size, 0, none⟩) 1 1, .slice (some ⟨g1, 0, none⟩) 2 2] 260 _ (by simp)) 3 rfl (by decide)).mono ?_
      rintro e cjw ⟨so, capj, rfl, hown, hbj⟩
      have HOW := Lib.hid hown
      have HBJ := Lib.hid hbj
      have HX21 := Lib.hid (HX20.out.trans (hbj.mono HX20.out.size))
      clear hown hbj
      refine hK.out _ _ ⟨fun _ => HSK.out _ HX21.out, fun hS => ?_⟩
      have hHeld := hS (by decide)
      clear hS hK K
      refine headStep (i := 12) rfl (by kernel_rfl) (fun K hK => ?_)
      go_simp
      refine hK.out _ _ ⟨fun _ => HSK.out _ HX21.out, fun hS => ?_⟩
      have hHeld := hS (by decide)
      clear hS hK K
      refine headDone (by kernel_rfl) ?_ _
      go_wp2_with fail
      go_ret
      have hzw : w.heap.size ≤ V.heap.size := HB.out.size
      have hBW := HB.out.trans (HX20.out.mono hzw)
      refine ⟨_, listSl 1 cb0 (VecAt q R2) bdl ++ pairSl 2 x.kind #[.pointer (some ⟨cb1, 0, none⟩)] R bd, ((c1w.alloc (.cells #[.int .i64 1, .int .i64 4, .int .u64 0, .func (.func 201) #[] #[.pointer (some ⟨cb0, 0, none⟩)]] 265)).alloc (.cells #[.slice (some ⟨c1w.heap.size, 0, none⟩) 1 1, .slice (some ⟨g1, 0, none⟩) 2 2] 260)), rfl, ⟨_, _, rfl⟩, hBW, HBJ.out, HOW.out, fun mb rb hm hr h1 h2 tt htt F cc hcc => ?_⟩
      have hW0 := HW0.out.trans (hBW.mono HW0.out.size)
      have hlt0 := World.block_lt_of_cell? _ _ HT0.out
      have hlt1 : cb0 < c1w.heap.size := Nat.lt_of_lt_of_le hlt0 HB1.out.size
      have e1 := (((Below.refl _ _).alloc (Nat.le_refl _) (.cells #[.slice (some ⟨c1w.heap.size, 0, none⟩) 1 1, .slice (some ⟨g1, 0, none⟩) 2 2] 260)).cell (p := ⟨cb0, 0, none⟩) (Nat.lt_trans hlt1 (by simp))).trans ((((Below.refl c1w.heap.size c1w).alloc (Nat.le_refl _) (.cells #[.int .i64 1, .int .i64 4, .int .u64 0, .func (.func 201) #[] #[.pointer (some ⟨cb0, 0, none⟩)]] 265)).cell (p := ⟨cb0, 0, none⟩) hlt1).trans ((HB1.out.cell (p := ⟨cb0, 0, none⟩) hlt0).trans HT0.out))
      have gz := HT1.out.below ((Below.refl c1w.heap.size c1w).alloc (Nat.le_refl _) (.cells #[.int .i64 1, .int .i64 4, .int .u64 0, .func (.func 201) #[] #[.pointer (some ⟨cb0, 0, none⟩)]] 265)) HT1.out.lt
      have g1' := gz.below ((Below.refl _ _).alloc (Nat.le_refl _) (.cells #[.slice (some ⟨c1w.heap.size, 0, none⟩) 1 1, .slice (some ⟨g1, 0, none⟩) 2 2] 260)) gz.lt
      rcases List.mem_append.1 htt with htt | htt
      · obtain rfl := List.mem_singleton.1 htt
        cases hcc
        have hqq := HQ.out
        subst hqq
        exact list_ref W0 mb bs xs b (o + 5) _ bd2 bdl R2 (fun i y hy => HXS.out i y hy) HhN2.out (by have := HXL.out; omega) Hhbdl.out cb0 _ rb hW0 h1 h2 e1 (by have q1 := HNB.out; have q2 := HCB0.out; omega) (by have q1 := HNB.out; have q2 := HCB0.out; omega)
      · exact pair_refs HhN.out hW0 h1 h2 g1' (by have q1 := HNB.out; have q2 := HCB1.out; omega) (by have q1 := HNB.out; have q2 := HCB1.out; omega) tt htt F cc hcc

end Go.Proofs.YtcbcdgifakcooaaGreatDoor
