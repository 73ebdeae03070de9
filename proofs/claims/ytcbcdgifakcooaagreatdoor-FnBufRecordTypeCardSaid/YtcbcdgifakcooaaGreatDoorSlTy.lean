/-
  typeSlots, kind by kind. No conditions.
-/
import Derived.Test.YtcbcdgifakcooaaGreatDoorCho
import Derived.Test.YtcbcdgifakcooaaGreatDoorNt
namespace Go.Proofs.YtcbcdgifakcooaaGreatDoor
open Go.RowKit
set_option linter.unusedVariables false
set_option linter.unusedSimpArgs false

/-- What typeSlots leaves behind: slots of the form P, their row behind what their functions have captured. -/
def TsPost (W0 : World) (bs : Bool) (P : List Sl → Prop) (w : World) (e : Ending) (w' : World) : Prop :=
  ∃ (v : Value) (sl : List Sl) (wa : World), e = .returned v ∧ P sl ∧ Below w.heap.size w wa ∧ Below wa.heap.size wa w' ∧ w'.ownsRow wa.heap.size 265 4 v sl.length (sl.flatMap Sl.cells) ∧
    ∀ mb rb, mb < w.heap.size → rb < w.heap.size → W0.heap.size ≤ mb → W0.heap.size ≤ rb → ∀ t ∈ sl, ∀ F c, t.ref = some (F, c) → RefC W0.heap.size mb bs F c t.bd t.R wa rb

theorem lit_ts {W0 : World} {bs : Bool} {P : List Sl → Prop} {w wa w' : World} {sl : List Sl} {e : Ending} (h : LitPost w sl wa e w') (hP : P sl) (hn : sl.length ≤ 1000)
    (hr : ∀ mb rb, mb < w.heap.size → rb < w.heap.size → W0.heap.size ≤ mb → W0.heap.size ≤ rb → ∀ t ∈ sl, ∀ F c, t.ref = some (F, c) → RefC W0.heap.size mb bs F c t.bd t.R wa rb) : TsPost W0 bs P w e w' :=
  ⟨_, sl, wa, h.1, hP, h.2.2, by rw [h.2.1]; exact (Below.refl _ _).alloc (Nat.le_refl _) _, by rw [h.2.1]; exact row_own wa sl hn, hr⟩

set_option maxHeartbeats 1000000 in
set_option maxRecDepth 100000 in
theorem slC_any (W0 : World) (bs : Bool) (n : Nd) (P : List Sl → Prop) (hk : 44 ≤ n.kind) (hl : ∀ w, Below W0.heap.size W0 w → Calls Tryz.prog 111 #[n.val] w (TsPost W0 bs P w)) : SlotsC W0 bs n P := by
  intro mb rb cap O w hb hm
  obtain ⟨k, t, m, u, ao, c, kids⟩ := n
  have hk : (44 : Int) ≤ k := hk
  have HL := Lib.hid hl
  have HM := Lib.hid hm
  have HB := Lib.hid hb
  clear hl hm hb
  show Calls _ _ #[_, .agg #[.int .i64 k, .string t, .string m, .int .u64 u, .slice ao kids.length c]] w _
  go_enter Tryz.func59, Tryz.ntmps59
  go_wp2_with fail
  refine (isType_any k _).mono ?_
  rintro e w2 ⟨rfl, hb1⟩
  have hw : w.heap.size < (w.alloc (.cells #[.int .i64 k, .string t, .string m, .int .u64 u, .slice ao kids.length c] 25)).heap.size := by simp
  have hcell : ∀ j, (w.alloc (.cells #[.int .i64 k, .string t, .string m, .int .u64 u, .slice ao kids.length c] 25)).cell? ⟨w.heap.size, j, none⟩ = (#[.int .i64 k, .string t, .string m, .int .u64 u, .slice ao kids.length c] : Array Value)[j]? := fun j => World.cell?_alloc_at _ _ _ _ rfl
  have n0 := (hb1.cell (p := ⟨w.heap.size, 0, none⟩) hw).trans (hcell 0)
  have n1 := (hb1.cell (p := ⟨w.heap.size, 1, none⟩) hw).trans (hcell 1)
  have n2 := (hb1.cell (p := ⟨w.heap.size, 2, none⟩) hw).trans (hcell 2)
  have n3 := (hb1.cell (p := ⟨w.heap.size, 3, none⟩) hw).trans (hcell 3)
  have n4 := (hb1.cell (p := ⟨w.heap.size, 4, none⟩) hw).trans (hcell 4)
  have hb2 : Below w.heap.size w w2 := ((Below.refl _ _).alloc (Nat.le_refl _) _).trans (hb1.mono (Nat.le_of_lt hw))
  have HB2 := Lib.hid hb2
  clear hb1 hcell hw hb2
  cases hty : isTypeB k
  all_goals
    go_wp2_with fail
    refine (show Calls _ _ #[(Nd.mk k t m u ao c kids).val] _ _ from HL.out _ (HB.out.trans (HB2.out.mono HB.out.size))).mono ?_
    rintro e w3 ⟨v, sl, wa, rfl, hP, h1, h2, h3, h4⟩
    have H1 := Lib.hid h1
    have H2 := Lib.hid h2
    have H3 := Lib.hid h3
    have H4 := Lib.hid h4
    have HP := Lib.hid hP
    clear n0 n1 n2 n3 n4 hP h1 h2 h3 h4
    go_wp2_with fail
    go_ret
    have hz := HB2.out.size
    exact ⟨v, sl, wa, rfl, HP.out, HB2.out.trans (H1.out.mono hz), H2.out, H3.out, H4.out mb rb (by have := HM.out.mlt; omega) (by have := HM.out.row.2; omega) HM.out.km HM.out.row.1⟩

theorem pair_refs {W0 : World} {mb rb cb i bd : Nat} {bs : Bool} {x : Nd} {R : By → Nat → Prop} {wa : World} (hN : NodeW W0 bs bd x R) (hb : Below W0.heap.size W0 wa) (hm : W0.heap.size ≤ mb) (hr : W0.heap.size ≤ rb) (hc : NdCells wa cb 0 x) (h1 : cb ≠ mb) (h2 : cb ≠ rb) :
    ∀ t ∈ pairSl i x.kind #[.pointer (some ⟨cb, 0, none⟩)] R bd, ∀ F c, t.ref = some (F, c) → RefC W0.heap.size mb bs F c t.bd t.R wa rb := by
  intro t ht F c h
  simp only [pairSl, List.mem_cons, List.not_mem_nil, or_false] at ht
  rcases ht with rfl | rfl
  · cases h
  · cases h
    exact node_ref W0 mb bs x bd R cb wa rb hN hb hm hr hc h1 h2

/-- The kids' places. -/
theorem kid_at {D : Nat} {W0 w : World} {n : Nd} (hL : LiesD D W0 n) (hb : Below W0.heap.size W0 w) (h0 : 0 < n.kids.length) : ∃ b o, n.ao = some ⟨b, o, none⟩ ∧ b < w.heap.size ∧ ∀ (i : Nat) (x : Nd), n.kids[i]? = some x → NdCells w b (o + i * 5) x := by
  cases D with
  | zero => exact hL.elim
  | succ D =>
    obtain ⟨⟨b, o, ha, hc⟩, -⟩ := hL.2 0 (n.kids[0]'h0) (List.getElem?_eq_getElem h0)
    refine ⟨b, o, ha, Nat.lt_of_lt_of_le hc.lt hb.size, fun i x hx => ?_⟩
    obtain ⟨⟨b', o', ha', hc'⟩, -⟩ := hL.2 i x hx
    rw [ha] at ha'
    cases ha'
    exact hc'.below hb hc'.lt

theorem slv2 {w : World} {v0 v1 : Value} {s0 s1 : List Sl} (h0 : SlV w v0 s0) (h1 : SlV w v1 s1) : ∀ (i : Nat) (v : Value) (sl : List Sl), [v0, v1][i]? = some v → [s0, s1][i]? = some sl → SlV w v sl
  | 0, v, sl, hv, hs => by simp at hv hs; subst hv hs; exact h0
  | 1, v, sl, hv, hs => by simp at hv hs; subst hv hs; exact h1
  | i + 2, v, sl, hv, hs => by simp at hv
theorem slv3 {w : World} {v0 v1 v2 : Value} {s0 s1 s2 : List Sl} (h0 : SlV w v0 s0) (h1 : SlV w v1 s1) (h2 : SlV w v2 s2) : ∀ (i : Nat) (v : Value) (sl : List Sl), [v0, v1, v2][i]? = some v → [s0, s1, s2][i]? = some sl → SlV w v sl
  | 0, v, sl, hv, hs => by simp at hv hs; subst hv hs; exact h0
  | 1, v, sl, hv, hs => by simp at hv hs; subst hv hs; exact h1
  | 2, v, sl, hv, hs => by simp at hv hs; subst hv hs; exact h2
  | i + 3, v, sl, hv, hs => by simp at hv
theorem cells_new (W : World) (l : List Value) (T : TypeId) : ∀ (i : Nat) (v : Value), l[i]? = some v → (W.alloc (.cells l.toArray T)).cell? ⟨W.heap.size, i, none⟩ = some v :=
  fun i v h => (World.cell?_alloc_at _ _ _ _ rfl).trans (by rw [List.getElem?_toArray]; exact h)

theorem cells_at (W : World) (l : List Value) (T : TypeId) (lb : Nat) (hlb : lb = W.heap.size) : ∀ (i : Nat) (v : Value), l[i]? = some v → (W.alloc (.cells l.toArray T)).cell? ⟨lb, i, none⟩ = some v := by
  subst hlb
  exact cells_new W l T

/-- either, maybeAt, as the joins ask them. -/
theorem eitherV (i : Nat) (ii : Int) (hii : ii = (i : Int)) (hi : i ≤ 10) (n : Nd) (hk : isTyP n.kind) (R : By → Nat → Prop) (bd : Nat) (w : World) :
    Calls Tryz.prog 174 #[.int .i64 ii, n.val] w fun e w' => ∃ cb g, e = .returned (.slice (some ⟨g, 0, none⟩) 2 2) ∧ w.heap.size ≤ cb ∧ NdCells w' cb 0 n ∧ SlV w' (.slice (some ⟨g, 0, none⟩) 2 2) (pairSl i n.kind #[.pointer (some ⟨cb, 0, none⟩)] R bd) ∧ Below w.heap.size w w' := by
  refine (either_any i ii hii hi n hk R bd w).mono ?_
  rintro e w' ⟨cb, wa, hl, hcb, hct⟩
  have hs := hl.slv (by simp [pairSl])
  obtain ⟨rfl, rfl, hb⟩ := hl
  exact ⟨cb, wa.heap.size, rfl, hcb, hct.below ((Below.refl wa.heap.size wa).alloc (Nat.le_refl _) _) hct.lt, hs, hb.alloc hb.size _⟩

/-- One slot of a node. -/
def nodeSl (i cb : Nat) (R : By → Nat → Prop) (bd : Nat) : List Sl := [⟨i, 4, 0, some (199, #[.pointer (some ⟨cb, 0, none⟩)]), R, bd⟩]
theorem node_refs {W0 : World} {mb rb cb i bd : Nat} {bs : Bool} {x : Nd} {R : By → Nat → Prop} {wa : World} (hN : NodeW W0 bs bd x R) (hb : Below W0.heap.size W0 wa) (hm : W0.heap.size ≤ mb) (hr : W0.heap.size ≤ rb) (hc : NdCells wa cb 0 x) (h1 : cb ≠ mb) (h2 : cb ≠ rb) :
    ∀ t ∈ nodeSl i cb R bd, ∀ F c, t.ref = some (F, c) → RefC W0.heap.size mb bs F c t.bd t.R wa rb := by
  intro t ht F c h
  obtain rfl := List.mem_singleton.1 ht
  cases h
  exact node_ref W0 mb bs x bd R cb wa rb hN hb hm hr hc h1 h2

theorem maybe_none (i : Int) (t m : ByteArray) (u : Int) (ao : Option Addr) (len cap : Nat) (w : World) :
    Calls Tryz.prog 177 #[.int .i64 i, .agg #[.int .i64 0, .string t, .string m, .int .u64 u, .slice ao len cap]] w fun e w' => e = .returned (.slice none 0 0) ∧ Below w.heap.size w w' := by
  go_enter Tryz.func177, Tryz.ntmps177
  go_wp2_with fail
  go_ret
  exact ⟨rfl, (Below.refl _ _).alloc (Nat.le_refl _) _⟩

set_option maxRecDepth 100000 in
theorem maybe_some (i : Nat) (ii : Int) (hii : ii = (i : Int)) (n : Nd) (hk : n.kind ≠ 0) (R : By → Nat → Prop) (bd : Nat) (w : World) :
    Calls Tryz.prog 177 #[.int .i64 ii, n.val] w fun e w' => ∃ cb g, e = .returned (.slice (some ⟨g, 0, none⟩) 1 1) ∧ w.heap.size ≤ cb ∧ NdCells w' cb 0 n ∧ SlV w' (.slice (some ⟨g, 0, none⟩) 1 1) (nodeSl i cb R bd) ∧ Below w.heap.size w w' := by
  obtain ⟨k, t, m, u, ao, cap, kids⟩ := n
  have hk0 : ((k : Int) == 0) = false := by
    have hk : k ≠ 0 := hk
    simpa using hk
  show Calls _ _ #[_, .agg #[.int .i64 k, .string t, .string m, .int .u64 u, .slice ao kids.length cap]] w _
  have HII := Lib.hid hii
  clear hk hii
  go_enter Tryz.func177, Tryz.ntmps177
  go_wp2_with fail
  show Calls _ _ #[_, (Nd.mk k t m u ao cap kids).val] _ _
  refine (nodeAt_any ii (Nd.mk k t m u ao cap kids) _).mono ?_
  rintro e w2 ⟨cb, rfl, hcb, hct, hb2⟩
  have hw : w.heap.size < (w.alloc (.cells #[.int .i64 k, .string t, .string m, .int .u64 u, .slice ao kids.length cap] 25)).heap.size := by simp
  have HB := Lib.hid (((Below.refl w.heap.size w).alloc (Nat.le_refl _) (.cells #[.int .i64 k, .string t, .string m, .int .u64 u, .slice ao kids.length cap] 25)).trans (hb2.mono (Nat.le_of_lt hw)))
  have HC := Lib.hid hct
  have HCB := Lib.hid (Nat.le_of_lt (Nat.lt_of_lt_of_le hw hcb))
  clear hcb hct hb2 hw
  go_wp2_with fail
  go_ret
  have hii := HII.out
  subst hii
  exact ⟨cb, w2.heap.size, rfl, HCB.out, HC.out.below ((Below.refl w2.heap.size w2).alloc (Nat.le_refl _) _) HC.out.lt, slv_new w2 (nodeSl i cb R bd) 265 (by simp [nodeSl]), HB.out.alloc HB.out.size _⟩

set_option maxRecDepth 100000 in
theorem slC_46 (W0 : World) (bs : Bool) (n : Nd) (hk : n.kind = 46) (x : Nd) (D : Nat) (R : By → Nat → Prop) (bd : Nat) (hkx : n.kids = [x]) (hL : LiesD D W0 n) (hN : NodeW W0 bs bd x R) : SlotsC W0 bs n (fun sl => ∃ c, sl = [⟨1, 4, 0, some (199, c), R, bd⟩]) := by
  refine slC_any W0 bs n _ (by omega) ?_
  intro w hb
  obtain ⟨b, o, hao, hbl, hcs⟩ := kid_at hL hb (by rw [hkx]; simp)
  obtain ⟨k, t, m, u, ao, cap, kids⟩ := n
  obtain rfl : k = 46 := hk
  obtain rfl : ao = some ⟨b, o, none⟩ := hao
  obtain rfl : kids = [x] := hkx
  have HX := Lib.hid (show NdCells w b o x by have h := hcs 0 x rfl; rw [Nat.zero_mul, Nat.add_zero] at h; exact h)
  obtain ⟨c0, c1, c2, c3, c4⟩ := HX.out
  have HB0 := Lib.hid hb
  have HN := Lib.hid hN
  clear hcs hL hb hN
  show Calls _ _ #[.agg #[.int .i64 46, .string t, .string m, .int .u64 u, .slice (some ⟨b, o, none⟩) 1 cap]] w _
  go_enter Tryz.func111, Tryz.ntmps111
  go_wp2_with fail
  show Calls _ _ #[_, x.val] _ _
  refine (nodeAt_any 1 x _).mono ?_
  rintro e w2 ⟨cb, rfl, hcb, hct, hb2⟩
  have hw : w.heap.size < (w.alloc (.cells #[.int .i64 46, .string t, .string m, .int .u64 u, .slice (some ⟨b, o, none⟩) 1 cap] 25)).heap.size := by simp
  have HB := Lib.hid (((Below.refl w.heap.size w).alloc (Nat.le_refl _) (.cells #[.int .i64 46, .string t, .string m, .int .u64 u, .slice (some ⟨b, o, none⟩) 1 cap] 25)).trans (hb2.mono (Nat.le_of_lt hw)))
  have HC := Lib.hid hct
  have HCB := Lib.hid (Nat.le_of_lt (Nat.lt_of_lt_of_le hw hcb))
  clear hcb hct hb2 hw
  go_wp2_with fail
  go_ret
  refine lit_ts (sl := nodeSl 1 cb R bd) ⟨rfl, rfl, HB.out⟩ ⟨_, rfl⟩ (by simp [nodeSl]) fun mb rb hm hr h1 h2 => node_refs HN.out (HB0.out.trans (HB.out.mono HB0.out.size)) h1 h2 HC.out (by have := HCB.out; omega) (by have := HCB.out; omega)

set_option maxRecDepth 100000 in
theorem slC_47 (W0 : World) (bs : Bool) (n : Nd) (hk : n.kind = 47) (x : Nd) (D : Nat) (R : By → Nat → Prop) (bd : Nat) (hkx : n.kids = [x]) (hL : LiesD D W0 n) (tx : isTyP x.kind) (hN : NodeW W0 bs bd x R) : SlotsC W0 bs n (fun sl => ∃ c, sl = pairSl 1 x.kind c R bd) := by
  refine slC_any W0 bs n _ (by omega) ?_
  intro w hb
  obtain ⟨b, o, hao, hbl, hcs⟩ := kid_at hL hb (by rw [hkx]; simp)
  obtain ⟨k, t, m, u, ao, cap, kids⟩ := n
  obtain rfl : k = 47 := hk
  obtain rfl : ao = some ⟨b, o, none⟩ := hao
  obtain rfl : kids = [x] := hkx
  have HX := Lib.hid (show NdCells w b o x by have h := hcs 0 x rfl; rw [Nat.zero_mul, Nat.add_zero] at h; exact h)
  obtain ⟨c0, c1, c2, c3, c4⟩ := HX.out
  have HB0 := Lib.hid hb
  have HN := Lib.hid hN
  have HTX := Lib.hid tx
  clear hcs hL hb hN tx
  show Calls _ _ #[.agg #[.int .i64 47, .string t, .string m, .int .u64 u, .slice (some ⟨b, o, none⟩) 1 cap]] w _
  go_enter Tryz.func111, Tryz.ntmps111
  go_wp2_with fail
  show Calls _ _ #[_, x.val] _ _
  refine (either_any 1 1 rfl (by decide) x HTX.out R bd _).mono ?_
  rintro e w2 ⟨cb, wa, ⟨rfl, hw2, hb2⟩, hcb, hct⟩
  have hw : w.heap.size < (w.alloc (.cells #[.int .i64 47, .string t, .string m, .int .u64 u, .slice (some ⟨b, o, none⟩) 1 cap] 25)).heap.size := by simp
  have HB := Lib.hid (((Below.refl w.heap.size w).alloc (Nat.le_refl _) (.cells #[.int .i64 47, .string t, .string m, .int .u64 u, .slice (some ⟨b, o, none⟩) 1 cap] 25)).trans (hb2.mono (Nat.le_of_lt hw)))
  have HC := Lib.hid hct
  have HCB := Lib.hid (Nat.le_of_lt (Nat.lt_of_lt_of_le hw hcb))
  have HW2 := Lib.hid hw2
  clear hcb hct hb2 hw hw2
  go_wp2_with fail
  go_ret
  refine lit_ts (sl := pairSl 1 x.kind #[.pointer (some ⟨cb, 0, none⟩)] R bd) ⟨rfl, HW2.out, HB.out⟩ ⟨_, rfl⟩ (by simp [pairSl]) fun mb rb hm hr h1 h2 => pair_refs HN.out (HB0.out.trans (HB.out.mono HB0.out.size)) h1 h2 HC.out (by have := HCB.out; omega) (by have := HCB.out; omega)

/-- One slot of a list. -/
def listSl (i cb : Nat) (R : By → Nat → Prop) (bd : Nat) : List Sl := [⟨i, 4, 0, some (201, #[.pointer (some ⟨cb, 0, none⟩)]), R, bd⟩]
/-- One slot of a number. -/
def numSl (i u : Nat) : List Sl := [⟨i, 1, u, none, fun _ _ => True, 0⟩]
theorem num_refs {K mb rb i u : Nat} {bs : Bool} {wa : World} : ∀ t ∈ numSl i u, ∀ F c, t.ref = some (F, c) → RefC K mb bs F c t.bd t.R wa rb := by
  intro t ht F c h
  obtain rfl := List.mem_singleton.1 ht
  cases h

set_option maxHeartbeats 2000000 in
set_option maxRecDepth 100000 in
theorem slC_48 (W0 : World) (bs : Bool) (n : Nd) (hk : n.kind = 48) (x y : Nd) (D : Nat) (R : By → Nat → Prop) (bd : Nat) (R2 : By → Nat → Prop) (bd2 : Nat) (hkx : n.kids = [x, y]) (hL : LiesD D W0 n) (tx : isTyP x.kind) (ty : isTyP y.kind) (hN : NodeW W0 bs bd x R) (hN2 : NodeW W0 bs bd2 y R2) : SlotsC W0 bs n (fun sl => ∃ c c2, sl = pairSl 1 x.kind c R bd ++ pairSl 3 y.kind c2 R2 bd2) := by
  refine slC_any W0 bs n _ (by omega) ?_
  intro w hb
  obtain ⟨b, o, hao, hbl, hcs⟩ := kid_at hL hb (by rw [hkx]; simp)
  obtain ⟨k, t, m, u, ao, cap, kids⟩ := n
  obtain rfl : k = 48 := hk
  obtain rfl : ao = some ⟨b, o, none⟩ := hao
  obtain rfl : kids = [x, y] := hkx
  have HX := Lib.hid (show NdCells w b o x by have h := hcs 0 x rfl; rw [Nat.zero_mul, Nat.add_zero] at h; exact h)
  have HY := Lib.hid (show NdCells w b (o + 5) y by have h := hcs 1 y rfl; rw [Nat.one_mul] at h; exact h)
  have HW0 := Lib.hid hb
  have HhN := Lib.hid hN
  have HhN2 := Lib.hid hN2
  have Htx := Lib.hid tx
  have Hty := Lib.hid ty
  clear hcs hL hb hN hN2 tx ty
  show Calls _ _ #[.agg #[.int .i64 48, .string t, .string m, .int .u64 u, .slice (some ⟨b, o, none⟩) 2 cap]] w _
  go_enter Tryz.func111, Tryz.ntmps111
  go_upto_region 8 with fail
  have HB := Lib.hid ((Below.refl w.heap.size w).alloc (Nat.le_refl _) (.cells #[.int .i64 48, .string t, .string m, .int .u64 u, .slice (some ⟨b, o, none⟩) 2 cap] 25))
  have hsz : w.heap.size < (w.alloc (.cells #[.int .i64 48, .string t, .string m, .int .u64 u, .slice (some ⟨b, o, none⟩) 2 cap] 25)).heap.size := by simp
  have hcell : ∀ j, (w.alloc (.cells #[.int .i64 48, .string t, .string m, .int .u64 u, .slice (some ⟨b, o, none⟩) 2 cap] 25)).cell? ⟨w.heap.size, j, none⟩ = (#[.int .i64 48, .string t, .string m, .int .u64 u, .slice (some ⟨b, o, none⟩) 2 cap] : Array Value)[j]? := fun j => World.cell?_alloc_at _ _ _ _ rfl
  have hxv := HX.out.below HB.out hbl
  have hyv := HY.out.below HB.out hbl
  have hbV : b < (w.alloc (.cells #[.int .i64 48, .string t, .string m, .int .u64 u, .slice (some ⟨b, o, none⟩) 2 cap] 25)).heap.size := Nat.lt_trans hbl hsz
  obtain ⟨nb, hnb⟩ : ∃ nb, nb = w.heap.size := ⟨_, rfl⟩
  rw [← hnb] at hsz hcell ⊢
  have HNB := Lib.hid hnb
  clear hnb
  generalize w.alloc (.cells #[.int .i64 48, .string t, .string m, .int .u64 u, .slice (some ⟨b, o, none⟩) 2 cap] 25) = V at *
  have n3 := hcell 3
  have n4 := hcell 4
  obtain ⟨c0, c1, c2, c3, c4⟩ := hxv
  obtain ⟨d0, d1, d2, d3, d4⟩ := hyv
  rw [Nat.add_assoc] at d1 d2 d3 d4
  clear hcell
  go_region_held3 (fun w' => (w'.cell? ⟨nb, 4, none⟩ = some (.slice (some ⟨b, o, none⟩) 2 cap) ∧ w'.cell? ⟨b, o, none⟩ = some (.int .i64 x.kind) ∧ w'.cell? ⟨b, o + 1, none⟩ = some (.string x.text) ∧ w'.cell? ⟨b, o + 2, none⟩ = some (.string x.more) ∧ w'.cell? ⟨b, o + 3, none⟩ = some (.int .u64 x.num) ∧ w'.cell? ⟨b, o + 4, none⟩ = some (.slice x.ao x.kids.length x.cap) ∧ w'.cell? ⟨b, o + 5, none⟩ = some (.int .i64 y.kind) ∧ w'.cell? ⟨b, o + 6, none⟩ = some (.string y.text) ∧ w'.cell? ⟨b, o + 7, none⟩ = some (.string y.more) ∧ w'.cell? ⟨b, o + 8, none⟩ = some (.int .u64 y.num) ∧ w'.cell? ⟨b, o + 9, none⟩ = some (.slice y.ao y.kids.length y.cap))) (go_keep) (first | (go_at_call_of 174 (Value.int .i64 1); show Calls _ _ #[_, x.val] _ _; refine (eitherV 1 1 rfl (by decide) x Htx.out R bd _).mono ?_; rintro e c0w ⟨cb0, g0, rfl, hcb0, hct0, hsv0, hb0⟩; have HS0 := Lib.hid hsv0; have HT0 := Lib.hid hct0; have hz0 : V.heap.size ≤ c0w.heap.size := (by have h := hb0.size; first | exact h | ((try simp at h); omega)); obtain ⟨ka0, -⟩ := bblk hb0 (b := nb) (by first | omega | (simp; omega)); obtain ⟨kb0, -⟩ := bblk hb0 (b := b) (by first | omega | (simp; omega)); have HB0 := Lib.hid hb0; clear hsv0 hct0) | (go_at_call_of 174 (Value.int .i64 3); show Calls _ _ #[_, y.val] _ _; refine (eitherV 3 3 rfl (by decide) y Hty.out R2 bd2 _).mono ?_; rintro e c1w ⟨cb1, g1, rfl, hcb1, hct1, hsv1, hb1⟩; have HS1 := Lib.hid hsv1; have HT1 := Lib.hid hct1; have hz1 : c0w.heap.size ≤ c1w.heap.size := (by have h := hb1.size; first | exact h | ((try simp at h); omega)); obtain ⟨ka1, -⟩ := bblk hb1 (b := nb) (by first | omega | (simp; omega)); obtain ⟨kb1, -⟩ := bblk hb1 (b := b) (by first | omega | (simp; omega)); have HB1 := Lib.hid hb1; clear hsv1 hct1) | (go_at_call 175; refine (join_any [pairSl 1 x.kind #[.pointer (some ⟨cb0, 0, none⟩)] R bd, pairSl 3 y.kind #[.pointer (some ⟨cb1, 0, none⟩)] R2 bd2] [.slice (some ⟨g0, 0, none⟩) 2 2, .slice (some ⟨g1, 0, none⟩) 2 2] _ 2 _ rfl rfl (by decide) (slv2 ((HS0.out.below HB1.out).below ((Below.refl _ _).alloc (Nat.le_refl _) _)) (HS1.out.below ((Below.refl _ _).alloc (Nat.le_refl _) _))) (cells_new _ _ _) 4 rfl (by decide)).mono ?_; rintro e cjw ⟨so, capj, rfl, hown, hbj⟩; obtain ⟨kaj, -⟩ := bblk hbj (b := nb) (by first | omega | (simp; omega)); obtain ⟨kbj, -⟩ := bblk hbj (b := b) (by first | omega | (simp; omega)); have HOW := Lib.hid hown; have HBJ := Lib.hid hbj; clear hown))
  all_goals
    have hzw : w.heap.size ≤ V.heap.size := HB.out.size
    have hBV0 : Below V.heap.size V c0w := (Below.refl V.heap.size V).drew.trans HB0.out
    have hBV1 : Below V.heap.size V c1w := hBV0.trans (HB1.out.mono hz0)
    have hBJ : Below w.heap.size w (c1w.alloc (.cells #[.slice (some ⟨g0, 0, none⟩) 2 2, .slice (some ⟨g1, 0, none⟩) 2 2] 260)) := HB.out.trans (((hBV1.alloc hBV1.size _)).mono hzw)
    have HBJ2 := Lib.hid hBJ
    clear hBJ hBV0 hBV1
    go_wp2_with fail
    go_ret
    refine ⟨_, pairSl 1 x.kind #[.pointer (some ⟨cb0, 0, none⟩)] R bd ++ pairSl 3 y.kind #[.pointer (some ⟨cb1, 0, none⟩)] R2 bd2, (c1w.alloc (.cells #[.slice (some ⟨g0, 0, none⟩) 2 2, .slice (some ⟨g1, 0, none⟩) 2 2] 260)), rfl, ⟨_, _, rfl⟩, HBJ2.out, HBJ.out, HOW.out, fun mb rb hm hr h1 h2 => ?_⟩
    have hW0 := HW0.out.trans (HBJ2.out.mono HW0.out.size)
    intro tt htt F cc hcc
    rcases List.mem_append.1 htt with htt | htt
    · exact pair_refs HhN.out hW0 h1 h2 (((HT0.out.below HB1.out HT0.out.lt)).below ((Below.refl _ _).alloc (Nat.le_refl _) _) ((HT0.out.below HB1.out HT0.out.lt)).lt) (by have q1 := HNB.out; (try simp at hcb0); omega) (by have q1 := HNB.out; (try simp at hcb0); omega) tt htt F cc hcc
    · exact pair_refs HhN2.out hW0 h1 h2 (HT1.out.below ((Below.refl _ _).alloc (Nat.le_refl _) _) HT1.out.lt) (by have q1 := HNB.out; omega) (by have q1 := HNB.out; omega) tt htt F cc hcc

set_option maxHeartbeats 2000000 in
set_option maxRecDepth 100000 in
theorem slC_52 (W0 : World) (bs : Bool) (n : Nd) (hk : n.kind = 52) (x y : Nd) (D : Nat) (R : By → Nat → Prop) (bd : Nat) (R2 : By → Nat → Prop) (bd2 : Nat) (hkx : n.kids = [x, y]) (hL : LiesD D W0 n) (hu0 : 0 ≤ n.num) (hx0 : x.kind ≠ 0) (ty : isTyP y.kind) (hN : NodeW W0 bs bd x R) (hN2 : NodeW W0 bs bd2 y R2) : SlotsC W0 bs n (fun sl => ∃ c c2, sl = [⟨1, 4, 0, some (199, c), R, bd⟩] ++ pairSl 2 y.kind c2 R2 bd2 ++ [⟨4, 1, n.num.toNat, none, fun _ _ => True, 0⟩]) := by
  obtain ⟨uu, huu⟩ : ∃ uu : Nat, n.num = (uu : Int) := ⟨n.num.toNat, by omega⟩
  have htn : n.num.toNat = uu := by omega
  rw [htn]
  clear htn hu0
  refine slC_any W0 bs n _ (by omega) ?_
  intro w hb
  obtain ⟨b, o, hao, hbl, hcs⟩ := kid_at hL hb (by rw [hkx]; simp)
  obtain ⟨k, t, m, u, ao, cap, kids⟩ := n
  obtain rfl : k = 52 := hk
  obtain rfl : ao = some ⟨b, o, none⟩ := hao
  obtain rfl : kids = [x, y] := hkx
  obtain rfl : u = (uu : Int) := huu
  have HX := Lib.hid (show NdCells w b o x by have h := hcs 0 x rfl; rw [Nat.zero_mul, Nat.add_zero] at h; exact h)
  have HY := Lib.hid (show NdCells w b (o + 5) y by have h := hcs 1 y rfl; rw [Nat.one_mul] at h; exact h)
  have HW0 := Lib.hid hb
  have HhN := Lib.hid hN
  have HhN2 := Lib.hid hN2
  have Hhx0 := Lib.hid hx0
  have Hty := Lib.hid ty
  clear hcs hL hb hN hN2 hx0 ty
  show Calls _ _ #[.agg #[.int .i64 52, .string t, .string m, .int .u64 (uu : Nat), .slice (some ⟨b, o, none⟩) 2 cap]] w _
  go_enter Tryz.func111, Tryz.ntmps111
  go_upto_region 16 with fail
  have HB := Lib.hid ((Below.refl w.heap.size w).alloc (Nat.le_refl _) (.cells #[.int .i64 52, .string t, .string m, .int .u64 (uu : Nat), .slice (some ⟨b, o, none⟩) 2 cap] 25))
  have hsz : w.heap.size < (w.alloc (.cells #[.int .i64 52, .string t, .string m, .int .u64 (uu : Nat), .slice (some ⟨b, o, none⟩) 2 cap] 25)).heap.size := by simp
  have hcell : ∀ j, (w.alloc (.cells #[.int .i64 52, .string t, .string m, .int .u64 (uu : Nat), .slice (some ⟨b, o, none⟩) 2 cap] 25)).cell? ⟨w.heap.size, j, none⟩ = (#[.int .i64 52, .string t, .string m, .int .u64 (uu : Nat), .slice (some ⟨b, o, none⟩) 2 cap] : Array Value)[j]? := fun j => World.cell?_alloc_at _ _ _ _ rfl
  have hxv := HX.out.below HB.out hbl
  have hyv := HY.out.below HB.out hbl
  have hbV : b < (w.alloc (.cells #[.int .i64 52, .string t, .string m, .int .u64 (uu : Nat), .slice (some ⟨b, o, none⟩) 2 cap] 25)).heap.size := Nat.lt_trans hbl hsz
  obtain ⟨nb, hnb⟩ : ∃ nb, nb = w.heap.size := ⟨_, rfl⟩
  rw [← hnb] at hsz hcell ⊢
  have HNB := Lib.hid hnb
  clear hnb
  generalize w.alloc (.cells #[.int .i64 52, .string t, .string m, .int .u64 (uu : Nat), .slice (some ⟨b, o, none⟩) 2 cap] 25) = V at *
  have n3 := hcell 3
  have n4 := hcell 4
  obtain ⟨c0, c1, c2, c3, c4⟩ := hxv
  obtain ⟨d0, d1, d2, d3, d4⟩ := hyv
  rw [Nat.add_assoc] at d1 d2 d3 d4
  clear hcell
  go_region_held3 (fun w' => (w'.cell? ⟨nb, 4, none⟩ = some (.slice (some ⟨b, o, none⟩) 2 cap) ∧ w'.cell? ⟨nb, 3, none⟩ = some (.int .u64 (uu : Nat)) ∧ w'.cell? ⟨b, o, none⟩ = some (.int .i64 x.kind) ∧ w'.cell? ⟨b, o + 1, none⟩ = some (.string x.text) ∧ w'.cell? ⟨b, o + 2, none⟩ = some (.string x.more) ∧ w'.cell? ⟨b, o + 3, none⟩ = some (.int .u64 x.num) ∧ w'.cell? ⟨b, o + 4, none⟩ = some (.slice x.ao x.kids.length x.cap) ∧ w'.cell? ⟨b, o + 5, none⟩ = some (.int .i64 y.kind) ∧ w'.cell? ⟨b, o + 6, none⟩ = some (.string y.text) ∧ w'.cell? ⟨b, o + 7, none⟩ = some (.string y.more) ∧ w'.cell? ⟨b, o + 8, none⟩ = some (.int .u64 y.num) ∧ w'.cell? ⟨b, o + 9, none⟩ = some (.slice y.ao y.kids.length y.cap))) (go_keep) (first | (go_at_call 177; show Calls _ _ #[_, x.val] _ _; refine (maybe_some 1 1 rfl x Hhx0.out R bd _).mono ?_; rintro e c0w ⟨cb0, g0, rfl, hcb0, hct0, hsv0, hb0⟩; have HS0 := Lib.hid hsv0; have HT0 := Lib.hid hct0; have hz0 : V.heap.size ≤ c0w.heap.size := (by have h := hb0.size; first | exact h | ((try simp at h); omega)); obtain ⟨ka0, -⟩ := bblk hb0 (b := nb) (by first | omega | (simp; omega)); obtain ⟨kb0, -⟩ := bblk hb0 (b := b) (by first | omega | (simp; omega)); have HB0 := Lib.hid hb0; clear hsv0 hct0) | (go_at_call 174; show Calls _ _ #[_, y.val] _ _; refine (eitherV 2 2 rfl (by decide) y Hty.out R2 bd2 _).mono ?_; rintro e c1w ⟨cb1, g1, rfl, hcb1, hct1, hsv1, hb1⟩; have HS1 := Lib.hid hsv1; have HT1 := Lib.hid hct1; have hz1 : c0w.heap.size ≤ c1w.heap.size := (by have h := hb1.size; first | exact h | ((try simp at h); omega)); obtain ⟨ka1, -⟩ := bblk hb1 (b := nb) (by first | omega | (simp; omega)); obtain ⟨kb1, -⟩ := bblk hb1 (b := b) (by first | omega | (simp; omega)); have HB1 := Lib.hid hb1; clear hsv1 hct1) | (go_at_call 116; refine (number_any _ _ _ _).mono ?_; rintro e c2w ⟨rfl, hb2⟩; have hz2 : c1w.heap.size ≤ c2w.heap.size := (by have h := hb2.size; first | exact h | ((try simp at h); omega)); obtain ⟨ka2, -⟩ := bblk hb2 (b := nb) (by first | omega | (simp; omega)); obtain ⟨kb2, -⟩ := bblk hb2 (b := b) (by first | omega | (simp; omega)); have HB2 := Lib.hid hb2; have HS2 : Hid (SlV (c2w.alloc (.cells #[.int .i64 4, .int .i64 1, .int .u64 (uu : Nat), .nilFunc] 265)) (.slice (some ⟨c2w.heap.size, 0, none⟩) 1 1) (numSl 4 uu)) := Lib.hid (slv_new c2w (numSl 4 uu) 265 Nat.zero_lt_one); have HA1 := Lib.hid ((HS1.out.below HB2.out).below ((Below.refl c2w.heap.size c2w).alloc (Nat.le_refl _) (.cells #[.int .i64 4, .int .i64 1, .int .u64 (uu : Nat), .nilFunc] 265))); have HA0 := Lib.hid (((HS0.out.below HB1.out).below HB2.out).below ((Below.refl c2w.heap.size c2w).alloc (Nat.le_refl _) (.cells #[.int .i64 4, .int .i64 1, .int .u64 (uu : Nat), .nilFunc] 265)))) | (go_at_call 175; refine (join_any [nodeSl 1 cb0 R bd, pairSl 2 y.kind #[.pointer (some ⟨cb1, 0, none⟩)] R2 bd2, numSl 4 uu] [.slice (some ⟨g0, 0, none⟩) 1 1, .slice (some ⟨g1, 0, none⟩) 2 2, .slice (some ⟨c2w.heap.size, 0, none⟩) 1 1] (c2w.heap.size + 1) 3 _ rfl rfl (by decide) (slv3 (HA0.out.below ((Below.refl _ _).alloc (Nat.le_refl _) _)) (HA1.out.below ((Below.refl _ _).alloc (Nat.le_refl _) _)) (HS2.out.below ((Below.refl _ _).alloc (Nat.le_refl _) _))) (cells_at (c2w.alloc (.cells #[.int .i64 4, .int .i64 1, .int .u64 (uu : Nat), .nilFunc] 265)) [.slice (some ⟨g0, 0, none⟩) 1 1, .slice (some ⟨g1, 0, none⟩) 2 2, .slice (some ⟨c2w.heap.size, 0, none⟩) 1 1] 260 _ (by simp)) 4 rfl (by decide)).mono ?_; rintro e cjw ⟨so, capj, rfl, hown, hbj⟩; obtain ⟨kaj, -⟩ := bblk hbj (b := nb) (by first | omega | (simp; omega)); obtain ⟨kbj, -⟩ := bblk hbj (b := b) (by first | omega | (simp; omega)); have HOW := Lib.hid hown; have HBJ := Lib.hid hbj; clear hown))
  all_goals
    have hzw : w.heap.size ≤ V.heap.size := HB.out.size
    have hBV0 : Below V.heap.size V c0w := (Below.refl V.heap.size V).drew.trans HB0.out
    have hBV1 : Below V.heap.size V c1w := hBV0.trans (HB1.out.mono hz0)
    have hBV2 : Below V.heap.size V c2w := hBV1.trans (HB2.out.mono (Nat.le_trans hz0 hz1))
    have hBJ : Below w.heap.size w ((c2w.alloc (.cells #[.int .i64 4, .int .i64 1, .int .u64 (uu : Nat), .nilFunc] 265)).alloc (.cells #[.slice (some ⟨g0, 0, none⟩) 1 1, .slice (some ⟨g1, 0, none⟩) 2 2, .slice (some ⟨c2w.heap.size, 0, none⟩) 1 1] 260)) := HB.out.trans ((((hBV2.alloc hBV2.size _).alloc (by have h := hBV2.size; (try simp); omega) _)).mono hzw)
    have HBJ2 := Lib.hid hBJ
    clear hBJ hBV0 hBV1 hBV2
    go_wp2_with fail
    go_ret
    refine ⟨_, nodeSl 1 cb0 R bd ++ pairSl 2 y.kind #[.pointer (some ⟨cb1, 0, none⟩)] R2 bd2 ++ numSl 4 uu, ((c2w.alloc (.cells #[.int .i64 4, .int .i64 1, .int .u64 (uu : Nat), .nilFunc] 265)).alloc (.cells #[.slice (some ⟨g0, 0, none⟩) 1 1, .slice (some ⟨g1, 0, none⟩) 2 2, .slice (some ⟨c2w.heap.size, 0, none⟩) 1 1] 260)), rfl, ⟨_, _, rfl⟩, HBJ2.out, HBJ.out, HOW.out, fun mb rb hm hr h1 h2 => ?_⟩
    have hW0 := HW0.out.trans (HBJ2.out.mono HW0.out.size)
    intro tt htt F cc hcc
    rcases List.mem_append.1 htt with htt | htt
    · rcases List.mem_append.1 htt with htt | htt
      · exact node_refs HhN.out hW0 h1 h2 (((((HT0.out.below HB1.out HT0.out.lt).below HB2.out (HT0.out.below HB1.out HT0.out.lt).lt)).below ((Below.refl _ _).alloc (Nat.le_refl _) _) (((HT0.out.below HB1.out HT0.out.lt).below HB2.out (HT0.out.below HB1.out HT0.out.lt).lt)).lt).below ((Below.refl _ _).alloc (Nat.le_refl _) _) ((((HT0.out.below HB1.out HT0.out.lt).below HB2.out (HT0.out.below HB1.out HT0.out.lt).lt)).below ((Below.refl _ _).alloc (Nat.le_refl _) _) (((HT0.out.below HB1.out HT0.out.lt).below HB2.out (HT0.out.below HB1.out HT0.out.lt).lt)).lt).lt) (by have q1 := HNB.out; (try simp at hcb0); omega) (by have q1 := HNB.out; (try simp at hcb0); omega) tt htt F cc hcc
      · exact pair_refs HhN2.out hW0 h1 h2 ((((HT1.out.below HB2.out HT1.out.lt)).below ((Below.refl _ _).alloc (Nat.le_refl _) _) ((HT1.out.below HB2.out HT1.out.lt)).lt).below ((Below.refl _ _).alloc (Nat.le_refl _) _) (((HT1.out.below HB2.out HT1.out.lt)).below ((Below.refl _ _).alloc (Nat.le_refl _) _) ((HT1.out.below HB2.out HT1.out.lt)).lt).lt) (by have q1 := HNB.out; omega) (by have q1 := HNB.out; omega) tt htt F cc hcc
    · exact num_refs tt htt F cc hcc

set_option maxHeartbeats 2000000 in
set_option maxRecDepth 100000 in
theorem slC_52n (W0 : World) (bs : Bool) (n : Nd) (hk : n.kind = 52) (x y : Nd) (D : Nat) (R2 : By → Nat → Prop) (bd2 : Nat) (hkx : n.kids = [x, y]) (hL : LiesD D W0 n) (hu0 : 0 ≤ n.num) (hx0 : x.kind = 0) (ty : isTyP y.kind) (hN2 : NodeW W0 bs bd2 y R2) : SlotsC W0 bs n (fun sl => ∃ c2, sl = pairSl 2 y.kind c2 R2 bd2 ++ [⟨4, 1, n.num.toNat, none, fun _ _ => True, 0⟩]) := by
  obtain ⟨uu, huu⟩ : ∃ uu : Nat, n.num = (uu : Int) := ⟨n.num.toNat, by omega⟩
  have htn : n.num.toNat = uu := by omega
  rw [htn]
  clear htn hu0
  refine slC_any W0 bs n _ (by omega) ?_
  intro w hb
  obtain ⟨b, o, hao, hbl, hcs⟩ := kid_at hL hb (by rw [hkx]; simp)
  obtain ⟨k, t, m, u, ao, cap, kids⟩ := n
  obtain rfl : k = 52 := hk
  obtain rfl : ao = some ⟨b, o, none⟩ := hao
  obtain rfl : kids = [x, y] := hkx
  obtain rfl : u = (uu : Int) := huu
  have HX := Lib.hid (show NdCells w b o x by have h := hcs 0 x rfl; rw [Nat.zero_mul, Nat.add_zero] at h; exact h)
  have HY := Lib.hid (show NdCells w b (o + 5) y by have h := hcs 1 y rfl; rw [Nat.one_mul] at h; exact h)
  have HW0 := Lib.hid hb
  have HhN2 := Lib.hid hN2
  have Hhx0 := Lib.hid hx0
  have Hty := Lib.hid ty
  clear hcs hL hb hN2 hx0 ty
  show Calls _ _ #[.agg #[.int .i64 52, .string t, .string m, .int .u64 (uu : Nat), .slice (some ⟨b, o, none⟩) 2 cap]] w _
  go_enter Tryz.func111, Tryz.ntmps111
  go_upto_region 16 with fail
  have HB := Lib.hid ((Below.refl w.heap.size w).alloc (Nat.le_refl _) (.cells #[.int .i64 52, .string t, .string m, .int .u64 (uu : Nat), .slice (some ⟨b, o, none⟩) 2 cap] 25))
  have hsz : w.heap.size < (w.alloc (.cells #[.int .i64 52, .string t, .string m, .int .u64 (uu : Nat), .slice (some ⟨b, o, none⟩) 2 cap] 25)).heap.size := by simp
  have hcell : ∀ j, (w.alloc (.cells #[.int .i64 52, .string t, .string m, .int .u64 (uu : Nat), .slice (some ⟨b, o, none⟩) 2 cap] 25)).cell? ⟨w.heap.size, j, none⟩ = (#[.int .i64 52, .string t, .string m, .int .u64 (uu : Nat), .slice (some ⟨b, o, none⟩) 2 cap] : Array Value)[j]? := fun j => World.cell?_alloc_at _ _ _ _ rfl
  have hxv := HX.out.below HB.out hbl
  have hyv := HY.out.below HB.out hbl
  have hbV : b < (w.alloc (.cells #[.int .i64 52, .string t, .string m, .int .u64 (uu : Nat), .slice (some ⟨b, o, none⟩) 2 cap] 25)).heap.size := Nat.lt_trans hbl hsz
  obtain ⟨nb, hnb⟩ : ∃ nb, nb = w.heap.size := ⟨_, rfl⟩
  rw [← hnb] at hsz hcell ⊢
  have HNB := Lib.hid hnb
  clear hnb
  generalize w.alloc (.cells #[.int .i64 52, .string t, .string m, .int .u64 (uu : Nat), .slice (some ⟨b, o, none⟩) 2 cap] 25) = V at *
  have n3 := hcell 3
  have n4 := hcell 4
  obtain ⟨c0, c1, c2, c3, c4⟩ := hxv
  obtain ⟨d0, d1, d2, d3, d4⟩ := hyv
  rw [Nat.add_assoc] at d1 d2 d3 d4
  clear hcell
  have hx0 := Hhx0.out
  rw [hx0] at c0
  go_region_held3 (fun w' => (w'.cell? ⟨nb, 4, none⟩ = some (.slice (some ⟨b, o, none⟩) 2 cap) ∧ w'.cell? ⟨nb, 3, none⟩ = some (.int .u64 (uu : Nat)) ∧ w'.cell? ⟨b, o, none⟩ = some (.int .i64 0) ∧ w'.cell? ⟨b, o + 1, none⟩ = some (.string x.text) ∧ w'.cell? ⟨b, o + 2, none⟩ = some (.string x.more) ∧ w'.cell? ⟨b, o + 3, none⟩ = some (.int .u64 x.num) ∧ w'.cell? ⟨b, o + 4, none⟩ = some (.slice x.ao x.kids.length x.cap) ∧ w'.cell? ⟨b, o + 5, none⟩ = some (.int .i64 y.kind) ∧ w'.cell? ⟨b, o + 6, none⟩ = some (.string y.text) ∧ w'.cell? ⟨b, o + 7, none⟩ = some (.string y.more) ∧ w'.cell? ⟨b, o + 8, none⟩ = some (.int .u64 y.num) ∧ w'.cell? ⟨b, o + 9, none⟩ = some (.slice y.ao y.kids.length y.cap))) (go_keep) (first | (go_at_call 177; refine (maybe_none 1 _ _ _ _ _ _ _).mono ?_; rintro e c0w ⟨rfl, hb0⟩; have hz0 : V.heap.size ≤ c0w.heap.size := (by have h := hb0.size; first | exact h | ((try simp at h); omega)); obtain ⟨ka0, -⟩ := bblk hb0 (b := nb) (by first | omega | (simp; omega)); obtain ⟨kb0, -⟩ := bblk hb0 (b := b) (by first | omega | (simp; omega)); have HB0 := Lib.hid hb0) | (go_at_call 174; show Calls _ _ #[_, y.val] _ _; refine (eitherV 2 2 rfl (by decide) y Hty.out R2 bd2 _).mono ?_; rintro e c1w ⟨cb1, g1, rfl, hcb1, hct1, hsv1, hb1⟩; have HS1 := Lib.hid hsv1; have HT1 := Lib.hid hct1; have hz1 : c0w.heap.size ≤ c1w.heap.size := (by have h := hb1.size; first | exact h | ((try simp at h); omega)); obtain ⟨ka1, -⟩ := bblk hb1 (b := nb) (by first | omega | (simp; omega)); obtain ⟨kb1, -⟩ := bblk hb1 (b := b) (by first | omega | (simp; omega)); have HB1 := Lib.hid hb1; clear hsv1 hct1) | (go_at_call 116; refine (number_any _ _ _ _).mono ?_; rintro e c2w ⟨rfl, hb2⟩; have hz2 : c1w.heap.size ≤ c2w.heap.size := (by have h := hb2.size; first | exact h | ((try simp at h); omega)); obtain ⟨ka2, -⟩ := bblk hb2 (b := nb) (by first | omega | (simp; omega)); obtain ⟨kb2, -⟩ := bblk hb2 (b := b) (by first | omega | (simp; omega)); have HB2 := Lib.hid hb2; have HS2 : Hid (SlV (c2w.alloc (.cells #[.int .i64 4, .int .i64 1, .int .u64 (uu : Nat), .nilFunc] 265)) (.slice (some ⟨c2w.heap.size, 0, none⟩) 1 1) (numSl 4 uu)) := Lib.hid (slv_new c2w (numSl 4 uu) 265 Nat.zero_lt_one); have HA1 := Lib.hid ((HS1.out.below HB2.out).below ((Below.refl c2w.heap.size c2w).alloc (Nat.le_refl _) (.cells #[.int .i64 4, .int .i64 1, .int .u64 (uu : Nat), .nilFunc] 265)))) | (go_at_call 175; refine (join_any [[], pairSl 2 y.kind #[.pointer (some ⟨cb1, 0, none⟩)] R2 bd2, numSl 4 uu] [.slice none 0 0, .slice (some ⟨g1, 0, none⟩) 2 2, .slice (some ⟨c2w.heap.size, 0, none⟩) 1 1] (c2w.heap.size + 1) 3 _ rfl rfl (by decide) (slv3 (.inl ⟨rfl, rfl⟩) (HA1.out.below ((Below.refl _ _).alloc (Nat.le_refl _) _)) (HS2.out.below ((Below.refl _ _).alloc (Nat.le_refl _) _))) (cells_at (c2w.alloc (.cells #[.int .i64 4, .int .i64 1, .int .u64 (uu : Nat), .nilFunc] 265)) [.slice none 0 0, .slice (some ⟨g1, 0, none⟩) 2 2, .slice (some ⟨c2w.heap.size, 0, none⟩) 1 1] 260 _ (by simp)) 3 rfl (by decide)).mono ?_; rintro e cjw ⟨so, capj, rfl, hown, hbj⟩; obtain ⟨kaj, -⟩ := bblk hbj (b := nb) (by first | omega | (simp; omega)); obtain ⟨kbj, -⟩ := bblk hbj (b := b) (by first | omega | (simp; omega)); have HOW := Lib.hid hown; have HBJ := Lib.hid hbj; clear hown))
  all_goals
    have hzw : w.heap.size ≤ V.heap.size := HB.out.size
    have hBV0 : Below V.heap.size V c0w := (Below.refl V.heap.size V).drew.trans HB0.out
    have hBV1 : Below V.heap.size V c1w := hBV0.trans (HB1.out.mono hz0)
    have hBV2 : Below V.heap.size V c2w := hBV1.trans (HB2.out.mono (Nat.le_trans hz0 hz1))
    have hBJ : Below w.heap.size w ((c2w.alloc (.cells #[.int .i64 4, .int .i64 1, .int .u64 (uu : Nat), .nilFunc] 265)).alloc (.cells #[.slice none 0 0, .slice (some ⟨g1, 0, none⟩) 2 2, .slice (some ⟨c2w.heap.size, 0, none⟩) 1 1] 260)) := HB.out.trans ((((hBV2.alloc hBV2.size _).alloc (by have h := hBV2.size; (try simp); omega) _)).mono hzw)
    have HBJ2 := Lib.hid hBJ
    clear hBJ hBV0 hBV1 hBV2
    go_wp2_with fail
    go_ret
    refine ⟨_, pairSl 2 y.kind #[.pointer (some ⟨cb1, 0, none⟩)] R2 bd2 ++ numSl 4 uu, ((c2w.alloc (.cells #[.int .i64 4, .int .i64 1, .int .u64 (uu : Nat), .nilFunc] 265)).alloc (.cells #[.slice none 0 0, .slice (some ⟨g1, 0, none⟩) 2 2, .slice (some ⟨c2w.heap.size, 0, none⟩) 1 1] 260)), rfl, ⟨_, rfl⟩, HBJ2.out, HBJ.out, HOW.out, fun mb rb hm hr h1 h2 => ?_⟩
    have hW0 := HW0.out.trans (HBJ2.out.mono HW0.out.size)
    intro tt htt F cc hcc
    rcases List.mem_append.1 htt with htt | htt
    · exact pair_refs HhN2.out hW0 h1 h2 ((((HT1.out.below HB2.out HT1.out.lt)).below ((Below.refl _ _).alloc (Nat.le_refl _) _) ((HT1.out.below HB2.out HT1.out.lt)).lt).below ((Below.refl _ _).alloc (Nat.le_refl _) _) (((HT1.out.below HB2.out HT1.out.lt)).below ((Below.refl _ _).alloc (Nat.le_refl _) _) ((HT1.out.below HB2.out HT1.out.lt)).lt).lt) (by have q1 := HNB.out; omega) (by have q1 := HNB.out; omega) tt htt F cc hcc
    · exact num_refs tt htt F cc hcc

set_option maxHeartbeats 4000000 in
set_option maxRecDepth 100000 in
theorem slC_50 (W0 : World) (bs : Bool) (n : Nd) (hk : n.kind = 50) (x y : Nd) (D : Nat) (R : By → Nat → Prop) (bd : Nat) (R2 : By → Nat → Prop) (bd2 : Nat) (hkx : n.kids = [x, y]) (hL : LiesD D W0 n) (ty : isTyP y.kind) (hN : NodeW W0 bs bd x R) (hN2 : NodeW W0 bs bd2 y R2) : SlotsC W0 bs n (fun sl => ∃ c c2, sl = [⟨1, 4, 0, some (199, c), R, bd⟩] ++ pairSl 2 y.kind c2 R2 bd2) := by
  refine slC_any W0 bs n _ (by omega) ?_
  intro w hb
  obtain ⟨b, o, hao, hbl, hcs⟩ := kid_at hL hb (by rw [hkx]; simp)
  obtain ⟨k, t, m, u, ao, cap, kids⟩ := n
  obtain rfl : k = 50 := hk
  obtain rfl : ao = some ⟨b, o, none⟩ := hao
  obtain rfl : kids = [x, y] := hkx
  have HX := Lib.hid (show NdCells w b o x by have h := hcs 0 x rfl; rw [Nat.zero_mul, Nat.add_zero] at h; exact h)
  have HY := Lib.hid (show NdCells w b (o + 5) y by have h := hcs 1 y rfl; rw [Nat.one_mul] at h; exact h)
  have HW0 := Lib.hid hb
  have Hty := Lib.hid ty
  have HhN := Lib.hid hN
  have HhN2 := Lib.hid hN2
  clear hcs hL hb ty hN hN2
  show Calls _ _ #[.agg #[.int .i64 50, .string t, .string m, .int .u64 u, .slice (some ⟨b, o, none⟩) 2 cap]] w _
  go_enter Tryz.func111, Tryz.ntmps111
  go_upto_region 12 with fail
  have HB := Lib.hid ((Below.refl w.heap.size w).alloc (Nat.le_refl _) (.cells #[.int .i64 50, .string t, .string m, .int .u64 u, .slice (some ⟨b, o, none⟩) 2 cap] 25))
  have hsz : w.heap.size < (w.alloc (.cells #[.int .i64 50, .string t, .string m, .int .u64 u, .slice (some ⟨b, o, none⟩) 2 cap] 25)).heap.size := by simp
  have n4 : (w.alloc (.cells #[.int .i64 50, .string t, .string m, .int .u64 u, .slice (some ⟨b, o, none⟩) 2 cap] 25)).cell? ⟨w.heap.size, 4, none⟩ = some (.slice (some ⟨b, o, none⟩) 2 cap) := World.cell?_alloc_at _ _ _ _ rfl
  have hxv := HX.out.below HB.out hbl
  have hyv := HY.out.below HB.out hbl
  have hbV : b < (w.alloc (.cells #[.int .i64 50, .string t, .string m, .int .u64 u, .slice (some ⟨b, o, none⟩) 2 cap] 25)).heap.size := Nat.lt_trans hbl hsz
  obtain ⟨nb, hnb⟩ : ∃ nb, nb = w.heap.size := ⟨_, rfl⟩
  rw [← hnb] at hsz n4 ⊢
  have HNB := Lib.hid hnb
  clear hnb
  generalize w.alloc (.cells #[.int .i64 50, .string t, .string m, .int .u64 u, .slice (some ⟨b, o, none⟩) 2 cap] 25) = V at *
  obtain ⟨c0, c1, c2, c3, c4⟩ := hxv
  obtain ⟨d0, d1, d2, d3, d4⟩ := hyv
  rw [Nat.add_assoc] at d1 d2 d3 d4
  have hS0 : V.cell? ⟨nb, 4, none⟩ = some (.slice (some ⟨b, o, none⟩) 2 cap) ∧ V.cell? ⟨b, o, none⟩ = some (.int .i64 x.kind) ∧ V.cell? ⟨b, o + 1, none⟩ = some (.string x.text) ∧ V.cell? ⟨b, o + 2, none⟩ = some (.string x.more) ∧ V.cell? ⟨b, o + 3, none⟩ = some (.int .u64 x.num) ∧ V.cell? ⟨b, o + 4, none⟩ = some (.slice x.ao x.kids.length x.cap) ∧ V.cell? ⟨b, o + 5, none⟩ = some (.int .i64 y.kind) ∧ V.cell? ⟨b, o + 6, none⟩ = some (.string y.text) ∧ V.cell? ⟨b, o + 7, none⟩ = some (.string y.more) ∧ V.cell? ⟨b, o + 8, none⟩ = some (.int .u64 y.num) ∧ V.cell? ⟨b, o + 9, none⟩ = some (.slice y.ao y.kids.length y.cap) := ⟨n4, c0, c1, c2, c3, c4, d0, d1, d2, d3, d4⟩
  have HSK := Lib.hid (show ∀ W : World, Below V.heap.size V W → (W.cell? ⟨nb, 4, none⟩ = some (.slice (some ⟨b, o, none⟩) 2 cap) ∧ W.cell? ⟨b, o, none⟩ = some (.int .i64 x.kind) ∧ W.cell? ⟨b, o + 1, none⟩ = some (.string x.text) ∧ W.cell? ⟨b, o + 2, none⟩ = some (.string x.more) ∧ W.cell? ⟨b, o + 3, none⟩ = some (.int .u64 x.num) ∧ W.cell? ⟨b, o + 4, none⟩ = some (.slice x.ao x.kids.length x.cap) ∧ W.cell? ⟨b, o + 5, none⟩ = some (.int .i64 y.kind) ∧ W.cell? ⟨b, o + 6, none⟩ = some (.string y.text) ∧ W.cell? ⟨b, o + 7, none⟩ = some (.string y.more) ∧ W.cell? ⟨b, o + 8, none⟩ = some (.int .u64 y.num) ∧ W.cell? ⟨b, o + 9, none⟩ = some (.slice y.ao y.kids.length y.cap)) from fun W h => ⟨(h.cell (p := ⟨nb, 4, none⟩) hsz).trans n4, (h.cell (p := ⟨b, o, none⟩) hbV).trans c0, (h.cell (p := ⟨b, o + 1, none⟩) hbV).trans c1, (h.cell (p := ⟨b, o + 2, none⟩) hbV).trans c2, (h.cell (p := ⟨b, o + 3, none⟩) hbV).trans c3, (h.cell (p := ⟨b, o + 4, none⟩) hbV).trans c4, (h.cell (p := ⟨b, o + 5, none⟩) hbV).trans d0, (h.cell (p := ⟨b, o + 6, none⟩) hbV).trans d1, (h.cell (p := ⟨b, o + 7, none⟩) hbV).trans d2, (h.cell (p := ⟨b, o + 8, none⟩) hbV).trans d3, (h.cell (p := ⟨b, o + 9, none⟩) hbV).trans d4⟩)
  have HX0 : Hid (Below V.heap.size V V.drew) := Lib.hid ((Below.refl V.heap.size V).drew)
  refine headBegin (S := fun w' => (w'.cell? ⟨nb, 4, none⟩ = some (.slice (some ⟨b, o, none⟩) 2 cap) ∧ w'.cell? ⟨b, o, none⟩ = some (.int .i64 x.kind) ∧ w'.cell? ⟨b, o + 1, none⟩ = some (.string x.text) ∧ w'.cell? ⟨b, o + 2, none⟩ = some (.string x.more) ∧ w'.cell? ⟨b, o + 3, none⟩ = some (.int .u64 x.num) ∧ w'.cell? ⟨b, o + 4, none⟩ = some (.slice x.ao x.kids.length x.cap) ∧ w'.cell? ⟨b, o + 5, none⟩ = some (.int .i64 y.kind) ∧ w'.cell? ⟨b, o + 6, none⟩ = some (.string y.text) ∧ w'.cell? ⟨b, o + 7, none⟩ = some (.string y.more) ∧ w'.cell? ⟨b, o + 8, none⟩ = some (.int .u64 y.num) ∧ w'.cell? ⟨b, o + 9, none⟩ = some (.slice y.ao y.kids.length y.cap))) 14 (by kernel_rfl) hS0 (fun hHeld => ?_)
  clear hS0
  refine headTake (i := 0) (v := ?_) rfl (by kernel_rfl) (by kernel_rfl) (by kernel_rfl) (by kernel_rfl) (fun _ _ _ h => h) (Or.inl ⟨by rfl, ?_⟩) hHeld ?_
  rotate_left 1
  · intro w hSw
    go_split_ands
    go_simp
    try with_reducible rfl
  simp only [List.getElem_toArray, List.getElem_cons_zero, List.getElem_cons_succ, Act.put, List.setIfInBounds_toArray, List.set_cons_zero, List.set_cons_succ]
  refine headTake (i := 1) (v := ?_) rfl (by kernel_rfl) (by kernel_rfl) (by kernel_rfl) (by kernel_rfl) (fun _ _ _ h => h) (Or.inl ⟨by rfl, ?_⟩) hHeld ?_
  rotate_left 1
  · intro w hSw
    go_split_ands
    go_simp
    try with_reducible rfl
  simp only [List.getElem_toArray, List.getElem_cons_zero, List.getElem_cons_succ, Act.put, List.setIfInBounds_toArray, List.set_cons_zero, List.set_cons_succ]
  refine headTake (i := 2) (v := ?_) rfl (by kernel_rfl) (by kernel_rfl) (by kernel_rfl) (by kernel_rfl) (fun _ _ _ h => h) (Or.inl ⟨by rfl, ?_⟩) hHeld ?_
  rotate_left 1
  · intro w hSw
    go_split_ands
    go_simp
    try with_reducible rfl
  simp only [List.getElem_toArray, List.getElem_cons_zero, List.getElem_cons_succ, Act.put, List.setIfInBounds_toArray, List.set_cons_zero, List.set_cons_succ]
  refine headTake (i := 3) (v := ?_) rfl (by kernel_rfl) (by kernel_rfl) (by kernel_rfl) (by kernel_rfl) (fun _ _ _ h => h) (Or.inl ⟨by rfl, ?_⟩) hHeld ?_
  rotate_left 1
  · intro w hSw
    go_split_ands
    go_simp
    try with_reducible rfl
  simp only [List.getElem_toArray, List.getElem_cons_zero, List.getElem_cons_succ, Act.put, List.setIfInBounds_toArray, List.set_cons_zero, List.set_cons_succ]
  refine headTake (i := 6) (v := ?_) rfl (by kernel_rfl) (by kernel_rfl) (by kernel_rfl) (by kernel_rfl) (fun _ _ _ h => h) (Or.inl ⟨by rfl, ?_⟩) hHeld ?_
  rotate_left 1
  · intro w hSw
    go_split_ands
    go_simp
    try with_reducible rfl
  simp only [List.getElem_toArray, List.getElem_cons_zero, List.getElem_cons_succ, Act.put, List.setIfInBounds_toArray, List.set_cons_zero, List.set_cons_succ]
  refine headTake (i := 7) (v := ?_) rfl (by kernel_rfl) (by kernel_rfl) (by kernel_rfl) (by kernel_rfl) (fun _ _ _ h => h) (Or.inl ⟨by rfl, ?_⟩) hHeld ?_
  rotate_left 1
  · intro w hSw
    go_split_ands
    go_simp
    try with_reducible rfl
  simp only [List.getElem_toArray, List.getElem_cons_zero, List.getElem_cons_succ, Act.put, List.setIfInBounds_toArray, List.set_cons_zero, List.set_cons_succ]
  refine headTake (i := 8) (v := ?_) rfl (by kernel_rfl) (by kernel_rfl) (by kernel_rfl) (by kernel_rfl) (fun _ _ _ h => h) (Or.inl ⟨by rfl, ?_⟩) hHeld ?_
  rotate_left 1
  · intro w hSw
    go_split_ands
    go_simp
    try with_reducible rfl
  simp only [List.getElem_toArray, List.getElem_cons_zero, List.getElem_cons_succ, Act.put, List.setIfInBounds_toArray, List.set_cons_zero, List.set_cons_succ]
  refine headTake (i := 9) (v := ?_) rfl (by kernel_rfl) (by kernel_rfl) (by kernel_rfl) (by kernel_rfl) (fun _ _ _ h => h) (Or.inl ⟨by rfl, ?_⟩) hHeld ?_
  rotate_left 1
  · intro w hSw
    go_split_ands
    go_simp
    try with_reducible rfl
  simp only [List.getElem_toArray, List.getElem_cons_zero, List.getElem_cons_succ, Act.put, List.setIfInBounds_toArray, List.set_cons_zero, List.set_cons_succ]
  refine headStep (i := 4) rfl (by kernel_rfl) (fun K hK => ?_)
  go_simp
  go_at_call 173
  show Calls _ _ #[_, x.val] _ _
  refine (nodeAt_any 1 x _).mono ?_
  rintro e c0w ⟨cb0, rfl, hcb0, hct0, hb0⟩
  have HT0 := Lib.hid hct0
  have HB0 := Lib.hid hb0
  have HX1 := Lib.hid (HX0.out.trans (hb0.mono HX0.out.size))
  have HCB0 := Lib.hid (show V.heap.size ≤ cb0 from hcb0)
  clear hct0 hb0 hcb0
  refine hK.out _ _ ⟨fun _ => HSK.out _ HX1.out, fun hS => ?_⟩
  have hHeld := hS (by decide)
  clear hS hK K
  refine headStep2 (i := 5) (j := 10) rfl rfl (by kernel_rfl) (fun K hK => ?_) (fun K hK => ?_)
  · go_simp
    have HX2 := Lib.hid (HX1.out.alloc HX1.out.size (.cells #[.int .i64 1, .int .i64 4, .int .u64 0, .func (.func 199) #[] #[.pointer (some ⟨cb0, 0, none⟩)]] 265))
    have HR0 : Hid (SlV (c0w.alloc (.cells #[.int .i64 1, .int .i64 4, .int .u64 0, .func (.func 199) #[] #[.pointer (some ⟨cb0, 0, none⟩)]] 265)) (.slice (some ⟨c0w.heap.size, 0, none⟩) 1 1) (nodeSl 1 cb0 R bd)) := Lib.hid (slv_new c0w (nodeSl 1 cb0 R bd) 265 Nat.zero_lt_one)
    refine hK.out _ _ ⟨fun _ => HSK.out _ HX2.out, fun hS => ?_⟩
    have hHeld := hS (by decide)
    clear hS hK K
    refine headStep (i := 10) rfl (by kernel_rfl) (fun K hK => ?_)
    go_simp
    go_at_call 174
    show Calls _ _ #[_, y.val] _ _
    refine (eitherV 2 2 rfl (by decide) y Hty.out R2 bd2 _).mono ?_
    rintro e c1w ⟨cb1, g1, rfl, hcb1, hct1, hsv1, hb1⟩
    have HS1 := Lib.hid hsv1
    have HT1 := Lib.hid hct1
    have HCB1 := Lib.hid (Nat.le_trans HX2.out.size hcb1)
    clear hsv1 hct1 hcb1
    have HB1 := Lib.hid hb1
    have HX3 := Lib.hid (HX2.out.trans (hb1.mono HX2.out.size))
    clear hb1
    refine hK.out _ _ ⟨fun _ => HSK.out _ HX3.out, fun hS => ?_⟩
    have hHeld := hS (by decide)
    clear hS hK K
    refine headStep (i := 11) rfl (by kernel_rfl) (fun K hK => ?_)
    go_simp
    have HX4 := Lib.hid (HX3.out.alloc HX3.out.size (.cells #[.slice (some ⟨c0w.heap.size, 0, none⟩) 1 1, .slice (some ⟨g1, 0, none⟩) 2 2] 260))
    refine hK.out _ _ ⟨fun _ => HSK.out _ HX4.out, fun hS => ?_⟩
    have hHeld := hS (by decide)
    clear hS hK K
    refine headStep (i := 12) rfl (by kernel_rfl) (fun K hK => ?_)
    go_simp
    go_at_call 175
    refine (join_any [nodeSl 1 cb0 R bd, pairSl 2 y.kind #[.pointer (some ⟨cb1, 0, none⟩)] R2 bd2] [.slice (some ⟨c0w.heap.size, 0, none⟩) 1 1, .slice (some ⟨g1, 0, none⟩) 2 2] (c1w.heap.size) 2 _ rfl rfl (by decide) (slv2 ((HR0.out.below HB1.out).below ((Below.refl _ _).alloc (Nat.le_refl _) _)) (HS1.out.below ((Below.refl _ _).alloc (Nat.le_refl _) _))) (cells_at c1w [.slice (some ⟨c0w.heap.size, 0, none⟩) 1 1, .slice (some ⟨g1, 0, none⟩) 2 2] 260 _ (by simp)) 3 rfl (by decide)).mono ?_
    rintro e cjw ⟨so, capj, rfl, hown, hbj⟩
    have HOW := Lib.hid hown
    have HBJ := Lib.hid hbj
    have HX5 := Lib.hid (HX4.out.trans (hbj.mono HX4.out.size))
    clear hown hbj
    refine hK.out _ _ ⟨fun _ => HSK.out _ HX5.out, fun hS => ?_⟩
    have hHeld := hS (by decide)
    clear hS hK K
    refine headStep (i := 13) rfl (by kernel_rfl) (fun K hK => ?_)
    go_simp
    refine hK.out _ _ ⟨fun _ => HSK.out _ HX5.out, fun hS => ?_⟩
    have hHeld := hS (by decide)
    clear hS hK K
    refine headDone (by kernel_rfl) ?_ _
    go_wp2_with fail
    go_ret
    have hzw : w.heap.size ≤ V.heap.size := HB.out.size
    have hBW := HB.out.trans (HX4.out.mono hzw)
    refine ⟨_, nodeSl 1 cb0 R bd ++ pairSl 2 y.kind #[.pointer (some ⟨cb1, 0, none⟩)] R2 bd2, (c1w.alloc (.cells #[.slice (some ⟨c0w.heap.size, 0, none⟩) 1 1, .slice (some ⟨g1, 0, none⟩) 2 2] 260)), rfl, ⟨_, _, rfl⟩, hBW, HBJ.out, HOW.out, fun mb rb hm hr h1 h2 tt htt F cc hcc => ?_⟩
    have hW0 := HW0.out.trans (hBW.mono HW0.out.size)
    have e0 := ((HT0.out.below ((Below.refl c0w.heap.size c0w).alloc (Nat.le_refl _) (.cells #[.int .i64 1, .int .i64 4, .int .u64 0, .func (.func 199) #[] #[.pointer (some ⟨cb0, 0, none⟩)]] 265)) HT0.out.lt).below HB1.out (Nat.lt_trans HT0.out.lt (by simp)))
    have e1 := e0.below ((Below.refl c1w.heap.size c1w).alloc (Nat.le_refl _) (.cells #[.slice (some ⟨c0w.heap.size, 0, none⟩) 1 1, .slice (some ⟨g1, 0, none⟩) 2 2] 260)) e0.lt
    have g1' := HT1.out.below ((Below.refl c1w.heap.size c1w).alloc (Nat.le_refl _) (.cells #[.slice (some ⟨c0w.heap.size, 0, none⟩) 1 1, .slice (some ⟨g1, 0, none⟩) 2 2] 260)) HT1.out.lt
    rcases List.mem_append.1 htt with htt | htt
    · exact node_refs HhN.out hW0 h1 h2 e1 (by have q1 := HNB.out; have q2 := HCB0.out; omega) (by have q1 := HNB.out; have q2 := HCB0.out; omega) tt htt F cc hcc
    · exact pair_refs HhN2.out hW0 h1 h2 g1' (by have q1 := HNB.out; have q2 := HCB1.out; omega) (by have q1 := HNB.out; have q2 := HCB1.out; omega) tt htt F cc hcc
  · go_simp
    go_at_call 174
    show Calls _ _ #[_, y.val] _ _
    refine (eitherV 2 2 rfl (by decide) y Hty.out R2 bd2 _).mono ?_
    rintro e c1w ⟨cb1, g1, rfl, hcb1, hct1, hsv1, hb1⟩
    have HS1 := Lib.hid hsv1
    have HT1 := Lib.hid hct1
    have HCB1 := Lib.hid (Nat.le_trans HX1.out.size hcb1)
    clear hsv1 hct1 hcb1
    have HB1 := Lib.hid hb1
    have HX7 := Lib.hid (HX1.out.trans (hb1.mono HX1.out.size))
    clear hb1
    refine hK.out _ _ ⟨fun _ => HSK.out _ HX7.out, fun hS => ?_⟩
    have hHeld := hS (by decide)
    clear hS hK K
    refine headStep (i := 5) rfl (by kernel_rfl) (fun K hK => ?_)
    go_simp
    have HX8 := Lib.hid (HX7.out.alloc HX7.out.size (.cells #[.int .i64 1, .int .i64 4, .int .u64 0, .func (.func 199) #[] #[.pointer (some ⟨cb0, 0, none⟩)]] 265))
    have HR0 : Hid (SlV (c1w.alloc (.cells #[.int .i64 1, .int .i64 4, .int .u64 0, .func (.func 199) #[] #[.pointer (some ⟨cb0, 0, none⟩)]] 265)) (.slice (some ⟨c1w.heap.size, 0, none⟩) 1 1) (nodeSl 1 cb0 R bd)) := Lib.hid (slv_new c1w (nodeSl 1 cb0 R bd) 265 Nat.zero_lt_one)
    refine hK.out _ _ ⟨fun _ => HSK.out _ HX8.out, fun hS => ?_⟩
    have hHeld := hS (by decide)
    clear hS hK K
    refine headStep (i := 11) rfl (by kernel_rfl) (fun K hK => ?_)
    go_simp
    have HX9 := Lib.hid (HX8.out.alloc HX8.out.size (.cells #[.slice (some ⟨c1w.heap.size, 0, none⟩) 1 1, .slice (some ⟨g1, 0, none⟩) 2 2] 260))
    refine hK.out _ _ ⟨fun _ => HSK.out _ HX9.out, fun hS => ?_⟩
    have hHeld := hS (by decide)
    clear hS hK K
    refine headStep (i := 12) rfl (by kernel_rfl) (fun K hK => ?_)
    go_simp
    go_at_call 175
    refine (join_any [nodeSl 1 cb0 R bd, pairSl 2 y.kind #[.pointer (some ⟨cb1, 0, none⟩)] R2 bd2] [.slice (some ⟨c1w.heap.size, 0, none⟩) 1 1, .slice (some ⟨g1, 0, none⟩) 2 2] (c1w.heap.size + 1) 2 _ rfl rfl (by decide) (slv2 (HR0.out.below ((Below.refl _ _).alloc (Nat.le_refl _) _)) ((HS1.out.below ((Below.refl c1w.heap.size c1w).alloc (Nat.le_refl _) (.cells #[.int .i64 1, .int .i64 4, .int .u64 0, .func (.func 199) #[] #[.pointer (some ⟨cb0, 0, none⟩)]] 265))).below ((Below.refl _ _).alloc (Nat.le_refl _) _))) (cells_at (c1w.alloc (.cells #[.int .i64 1, .int .i64 4, .int .u64 0, .func (.func 199) #[] #[.pointer (some ⟨cb0, 0, none⟩)]] 265)) [.slice (some ⟨c1w.heap.size, 0, none⟩) 1 1, .slice (some ⟨g1, 0, none⟩) 2 2] 260 _ (by simp)) 3 rfl (by decide)).mono ?_
    rintro e cjw ⟨so, capj, rfl, hown, hbj⟩
    have HOW := Lib.hid hown
    have HBJ := Lib.hid hbj
    have HX10 := Lib.hid (HX9.out.trans (hbj.mono HX9.out.size))
    clear hown hbj
    refine hK.out _ _ ⟨fun _ => HSK.out _ HX10.out, fun hS => ?_⟩
    have hHeld := hS (by decide)
    clear hS hK K
    refine headStep (i := 13) rfl (by kernel_rfl) (fun K hK => ?_)
    go_simp
    refine hK.out _ _ ⟨fun _ => HSK.out _ HX10.out, fun hS => ?_⟩
    have hHeld := hS (by decide)
    clear hS hK K
    refine headDone (by kernel_rfl) ?_ _
    go_wp2_with fail
    go_ret
    have hzw : w.heap.size ≤ V.heap.size := HB.out.size
    have hBW := HB.out.trans (HX9.out.mono hzw)
    refine ⟨_, nodeSl 1 cb0 R bd ++ pairSl 2 y.kind #[.pointer (some ⟨cb1, 0, none⟩)] R2 bd2, ((c1w.alloc (.cells #[.int .i64 1, .int .i64 4, .int .u64 0, .func (.func 199) #[] #[.pointer (some ⟨cb0, 0, none⟩)]] 265)).alloc (.cells #[.slice (some ⟨c1w.heap.size, 0, none⟩) 1 1, .slice (some ⟨g1, 0, none⟩) 2 2] 260)), rfl, ⟨_, _, rfl⟩, hBW, HBJ.out, HOW.out, fun mb rb hm hr h1 h2 tt htt F cc hcc => ?_⟩
    have hW0 := HW0.out.trans (hBW.mono HW0.out.size)
    have e0 := HT0.out.below HB1.out HT0.out.lt
    have ez := e0.below ((Below.refl c1w.heap.size c1w).alloc (Nat.le_refl _) (.cells #[.int .i64 1, .int .i64 4, .int .u64 0, .func (.func 199) #[] #[.pointer (some ⟨cb0, 0, none⟩)]] 265)) e0.lt
    have e1 := ez.below ((Below.refl _ _).alloc (Nat.le_refl _) (.cells #[.slice (some ⟨c1w.heap.size, 0, none⟩) 1 1, .slice (some ⟨g1, 0, none⟩) 2 2] 260)) ez.lt
    have gz := HT1.out.below ((Below.refl c1w.heap.size c1w).alloc (Nat.le_refl _) (.cells #[.int .i64 1, .int .i64 4, .int .u64 0, .func (.func 199) #[] #[.pointer (some ⟨cb0, 0, none⟩)]] 265)) HT1.out.lt
    have g1' := gz.below ((Below.refl _ _).alloc (Nat.le_refl _) (.cells #[.slice (some ⟨c1w.heap.size, 0, none⟩) 1 1, .slice (some ⟨g1, 0, none⟩) 2 2] 260)) gz.lt
    rcases List.mem_append.1 htt with htt | htt
    · exact node_refs HhN.out hW0 h1 h2 e1 (by have q1 := HNB.out; have q2 := HCB0.out; omega) (by have q1 := HNB.out; have q2 := HCB0.out; omega) tt htt F cc hcc
    · exact pair_refs HhN2.out hW0 h1 h2 g1' (by have q1 := HNB.out; have q2 := HCB1.out; omega) (by have q1 := HNB.out; have q2 := HCB1.out; omega) tt htt F cc hcc

end Go.Proofs.YtcbcdgifakcooaaGreatDoor
