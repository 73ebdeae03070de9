/-
  The maker writes a vector of references to tables. The bytes are at most 2^29.
-/
import Derived.Test.YtcbcdgifakcooaaGreatDoorTable
import Derived.Test.YtcbcdgifakcooaaGreatDoorSlots
import Derived.Test.YtcbcdgifakcooaaGreatDoorBuffer
namespace Go.Proofs.YtcbcdgifakcooaaGreatDoor
open Go.RowKit
set_option linter.unusedVariables false
set_option linter.unusedSimpArgs false

/-- A vector of n references stands at a place; R i tells of what the i-th refers to. -/
def VecAt (n : Nat) (R : Nat → By → Nat → Prop) (B : By) (p : Nat) : Prop :=
  leAt B p 4 = n ∧ p + 4 + 4 * n ≤ B.length ∧ ∀ i, i < n → ∃ d, leAt B (p + 4 + 4 * i) 4 = d ∧ p + 4 + 4 * i + d < B.length ∧ R i B (p + 4 + 4 * i + d)

/-- The vector stands in C, the first i references are laid. -/
structure VecLaid (O C : By) (p n i : Nat) (R : Nat → By → Nat → Prop) : Prop where
  pre : C.take O.length = O
  lo : O.length ≤ p
  len : p + 4 + 4 * n ≤ C.length
  num : leAt C p 4 = n
  ref : ∀ k, k < i → ∃ tq, leAt C (p + 4 + 4 * k) 4 = tq - (p + 4 + 4 * k) ∧ p + 4 + 4 * n ≤ tq ∧ tq < C.length ∧ ∀ B, Agree (p + 4 + 4 * n) C B → R k B tq

theorem VecLaid.start {O : By} {z n : Nat} {R : Nat → By → Nat → Prop} (hn : n < 4294967296) : VecLaid O (O ++ List.replicate z 0 ++ Lib.leBytes 4 n ++ List.replicate (4 * n) 0) (O.length + z) n 0 R := by
  refine ⟨?_, by omega, ?_, ?_, fun k hk => absurd hk (Nat.not_lt_zero _)⟩
  · simp only [List.append_assoc]
    exact List.take_left
  · simp only [List.length_append, List.length_replicate, Lib.leBytes_length]
    omega
  · refine leAt_mid (A := O ++ List.replicate z 0) (X := List.replicate (4 * n) 0) (by omega) ?_ (by rw [List.length_append, List.length_replicate])
    simp only [List.append_assoc]

theorem VecLaid.put {O C X : By} {p n i : Nat} {R : Nat → By → Nat → Prop} (h : VecLaid O C p n i R) (hi : i < n) {tq : Nat} (ht1 : C.length ≤ tq) (ht2 : tq < C.length + X.length) (hsm : tq < 4294967296) (hR : ∀ B, Agree C.length (C ++ X) B → R i B tq) :
    VecLaid O (put (C ++ X) (p + 4 + 4 * i) (Lib.leBytes 4 (tq - (p + 4 + 4 * i)))) p n (i + 1) R := by
  have hbl := Lib.leBytes_length 4 (tq - (p + 4 + 4 * i))
  have hlen := h.len
  have hlo := h.lo
  have hcx : (C ++ X).length = C.length + X.length := List.length_append
  have hfit : p + 4 + 4 * i + (Lib.leBytes 4 (tq - (p + 4 + 4 * i))).length ≤ (C ++ X).length := by omega
  refine ⟨?_, hlo, by rw [put_length hfit]; omega, ?_, fun k hk => ?_⟩
  · rw [put_take (by omega) (by omega), List.take_append_of_le_length (by omega)]
    exact h.pre
  · rw [leAt_put_other hfit (by omega), leAt_agree (Agree.append 0 C X) (Nat.zero_le _) (by omega)]
    exact h.num
  · by_cases hik : k = i
    · subst hik
      refine ⟨tq, ?_, by omega, by rw [put_length hfit]; omega, fun B hB => hR B ?_⟩
      · have e := leAt_put_same hfit
        rw [hbl] at e
        rw [e, Lib.leNat_leBytes _ _ (by omega)]
      · refine Agree.trans (Agree.put hfit (by omega)) (hB.mono (by omega)) (by rw [put_length hfit]; exact Nat.le_refl _)
    · obtain ⟨tq', a, b, c, d⟩ := h.ref k (by omega)
      refine ⟨tq', ?_, b, by rw [put_length hfit]; omega, fun B hB => d B ?_⟩
      · rw [leAt_put_other hfit (by omega), leAt_agree (Agree.append 0 C X) (Nat.zero_le _) (by omega)]
        exact a
      · refine Agree.of_append (X := X) (Agree.trans (Agree.put hfit (by omega)) hB (by rw [put_length hfit]; exact Nat.le_refl _))

theorem VecLaid.done {O C : By} {p n : Nat} {R : Nat → By → Nat → Prop} (h : VecLaid O C p n n R) {B : By} (hB : Agree O.length C B) : VecAt n R B p := by
  have hlen := h.len
  have hlo := h.lo
  refine ⟨(leAt_agree hB (by omega) (by omega)).trans h.num, ?_, fun i hi => ?_⟩
  · have := hB.len (by omega)
    omega
  · obtain ⟨tq, a, b, c, d⟩ := h.ref i hi
    refine ⟨tq - (p + 4 + 4 * i), (leAt_agree hB (by omega) (by omega)).trans a, ?_, ?_⟩
    · have := hB.len (by omega)
      omega
    · rw [show p + 4 + 4 * i + (tq - (p + 4 + 4 * i)) = tq from by omega]
      exact d B (hB.mono (by omega))

/-- The bounds of the first n. -/
def sumB (bd : Nat → Nat) (n : Nat) : Nat := ((List.range n).map bd).sum
theorem sumB_succ (bd : Nat → Nat) (n : Nat) : sumB bd (n + 1) = sumB bd n + bd n := by
  unfold sumB
  rw [List.range_succ, List.map_append, List.sum_append]
  simp
theorem sumB_le (bd : Nat → Nat) {j n : Nat} (h : j ≤ n) : sumB bd j ≤ sumB bd n := by
  obtain ⟨k, rfl⟩ : ∃ k, n = j + k := ⟨n - j, by omega⟩
  induction k with
  | zero => exact Nat.le_refl _
  | succ k ih =>
    have := ih (by omega)
    rw [show j + (k + 1) = (j + k) + 1 from by omega, sumB_succ]
    omega

/-- A function (with what it has captured) writes the i-th of n. -/
structure WriteC (K mb : Nat) (bs : Bool) (n F : Nat) (c : Array Value) (bd : Nat → Nat) (R : Nat → By → Nat → Prop) (w : World) (rb : Nat) : Prop where
  e : ∀ (args : Array Value) (w' : World), Sem.run Tryz.prog (callFunc F args) w' = .ok (.enter F args) w'
  c : ∀ (i : Nat) (w1 : World) (rb1 cap1 : Nat) (O1 : By), i < n → Ext mb w rb w1 rb1 → Mk K w1 mb rb1 cap1 O1 bs → O1.length + bd i ≤ 1073000000 → Calls Tryz.prog F (#[.int .i64 (i : Nat)] ++ c) w1 (PostW K mb bs O1 (bd i) (R i) w1 rb1)

theorem WriteC.ext {K mb : Nat} {bs : Bool} {n F : Nat} {c : Array Value} {bd : Nat → Nat} {R : Nat → By → Nat → Prop} {w w1 : World} {rb rb1 : Nat} (h : WriteC K mb bs n F c bd R w rb) (he : Ext mb w rb w1 rb1) : WriteC K mb bs n F c bd R w1 rb1 :=
  ⟨h.e, fun i w2 rb2 cap2 O2 hi h2 => h.c i w2 rb2 cap2 O2 hi (he.trans h2)⟩

/-- append(m.out, make([]byte, n)...), n may be 0. -/
theorem wpList_append_zeros' {P : Program} {ops : Array Oper} {rest : List Oper} {o : Oper} {a : Act} {w : World} {Q : Exit → Act → World → Prop} (hgd : o.guard = none) (s x : Operand) (t tx : TypeId)
    (ho : o.op = .call { callee := .builtin .append, args := #[s, x], argTypes := #[t, tx] }) (ht : P.underlying t = some (.slice 5)) (htx : P.underlying tx = some (.int .i64)) (hi : (P.info? 5).map (fun i => (i.zero, i.size, i.bytes)) = some (some (.int .u8 0), 1, 1))
    {K mb rb cap : Nat} {O : By} {bs : Bool} (hm : Mk K w mb rb cap O bs) (n : Nat) (hs : a.eval s = .slice (some ⟨rb, 0, none⟩) O.length cap) (hx : a.eval x = .int .i64 (n : Int))
    (hbig : O.length + n ≤ 140737488355328)
    (h : ∀ g cap' w', Hid (w'.ownsRow K 5 1 (.slice (some ⟨g, 0, none⟩) (O.length + n) cap') (O.length + n) (bytesV O ++ bytesV (List.replicate n 0))) → Hid (w.grownBy w' (some rb)) → Hid (rb = g ∨ w.heap.size ≤ g) → g < w'.heap.size → wpList P ops Q rest (a.put o.dst (.slice (some ⟨g, 0, none⟩) (O.length + n) cap')) w') : wpList P ops Q (o :: rest) a w := by
  rcases Nat.eq_zero_or_pos n with rfl | hn
  · refine wpList_plain hgd fun Kn hK => ?_
    obtain ⟨i0, hi, hiz, his, hib⟩ := info_parts' hi
    refine step_of_run ho (v := .slice (some ⟨rb, 0, none⟩) O.length cap) (w' := w) ?_ (hK _ _ ?_)
    · rw [hs, hx]
      have hw : IntKind.i64.wrap (0 : Int) = 0 := by rw [IntKind.wrap_i64]; omega
      have hroom := hm.room
      simp [Builtin.append_, run_underlying ht, run_underlying htx, sizeOf, typeInfo, zeroValue, asInt, asIntOf, hi, hiz, his, hib, hw, hroom.1, storeCells]
    · have e : bytesV O ++ bytesV (List.replicate 0 0) = bytesV O := by simp [bytesV]
      refine h rb cap w (Lib.hid ?_) (Lib.hid (World.grownBy.refl _ _)) (Lib.hid (.inl rfl)) hm.row.2
      rw [e]
      exact hm.own
  · exact wpList_append_zeros hgd s x t tx ho ht htx hi hm n hn hs hx hbig h

set_option maxHeartbeats 1000000 in
set_option maxRecDepth 100000 in
theorem tables_any (K mb rb cap : Nat) (O : By) (bs : Bool) (n F : Nat) (c : Array Value) (bd : Nat → Nat) (bd1 : Nat) (R : Nat → By → Nat → Prop) (hn : n ≤ 1000) (hbd : 16 + 4 * n + sumB bd n ≤ bd1) (hO : O.length + bd1 ≤ 1073000000) (w : World) (hm : Mk K w mb rb cap O bs) (hW : WriteC K mb bs n F c bd R w rb) :
    Calls Tryz.prog 202 #[.pointer (some ⟨mb, 0, none⟩), .int .i64 (n : Nat), .func (.func F) #[] c] w (PostW K mb bs O bd1 (VecAt n R) w rb) := by
  have hmlt : mb < w.heap.size := hm.mlt
  go_enter Tryz.func202, Tryz.ntmps202
  have HM := Lib.hid hm
  have HW := Lib.hid hW
  clear hm hW
  have HBD := Lib.hid hbd
  have HO := Lib.hid hO
  have hnI : (n : Int) ≤ 1000 := by omega
  have hn0 : (0 : Int) ≤ (n : Int) := by omega
  obtain ⟨i0, hi, hiz, his, hib⟩ := info_parts' infoByte'
  go_wp2_with fail
  refine (pad_any K mb rb cap 4 0 O bs (.inr rfl) (by decide) (by omega) w HM.out).mono ?_
  rintro e w1 ⟨rfl, z, rb1, cap1, hz, hz4, hm1, he1⟩
  have HM1 := Lib.hid hm1
  have HE1 := Lib.hid he1
  have hc1 := hm1.c0
  have hf1 := hm1.fz 0
  have hlen : (O ++ List.replicate z (0 : UInt8)).length = O.length + z := by simp
  obtain ⟨O1, hO1⟩ : ∃ O1, O1 = O ++ List.replicate z (0 : UInt8) := ⟨_, rfl⟩
  rw [← hO1] at HM1 hlen hc1
  have HO1 := Lib.hid hO1
  have HL1 := Lib.hid hlen
  have hZ4 := Lib.hid hz4
  clear hO1 hlen hm1 he1
  have hb1 : (O1.length : Int) ≤ 1073000008 := by have := HL1.out; omega
  have hb0 : (0 : Int) ≤ (O1.length : Int) := by omega
  have hwr : IntKind.u64.wrap (n : Int) = (n : Int) := by rw [IntKind.wrap_u64]; omega
  clear hbd hO hz4
  go_upto_region 3 with fail
  have HMD := Lib.hid HM1.out.drew
  go_region_law (first
    | (rw [if_pos (by rfl)]; go_simp; go_at_call 21; refine (little_int n 4 _ _ (by decide) (by omega) (by rfl) (by rfl) _).mono ?_; rintro e w2 ⟨vo, vc, rfl, HL2, HB2⟩; obtain ⟨g2, rfl, hg2, hB2, hsrc2⟩ := own_src (X := Lib.leBytes 4 n) HL2 (by decide); have HM2 := Lib.hid (HMD.out.below HB2); have HE2 := Lib.hid HB2; have hc2 := HM2.out.c0; have HS2 := Lib.hid hsrc2; clear hsrc2 HL2; dsimp only)
    | (refine step_append_mk rfl _ _ 30 rfl Tryz.underlying30 infoByte' HM2.out (Lib.leBytes 4 n) 4 _ _ rfl rfl (Lib.leBytes_length _ _) (by decide) HS2.out (by omega) ?_; intro g cap' w4 HO4 HG4 HR4 hlt4; have hc4 := HM2.out.grown_cell HG4.out; have hfin := Lib.hid (HM2.out.appended (X := Lib.leBytes 4 n) (n := 4) (Lib.leBytes_length _ _) HG4.out HR4.out HO4.out)))
  all_goals
    obtain ⟨hm5, he5⟩ := hfin.out
    generalize w4.setCell _ _ = w5 at *
    clear hc4 hlt4 HO4 HG4 HR4 hfin hc2 hc1 hf1 HS2
    have HE5 := Lib.hid ((HE1.out.trans (.of rb1 ((Below.refl w1.heap.size w1).drew.trans HE2.out))).trans he5)
    obtain ⟨O2, hO2⟩ : ∃ O2, O2 = O1 ++ Lib.leBytes 4 n := ⟨_, rfl⟩
    have hl2 : O2.length = O1.length + 4 := by rw [hO2, List.length_append, Lib.leBytes_length]
    rw [← hO2] at hm5
    have HO2 := Lib.hid hO2
    have HL2 := Lib.hid hl2
    have hb2 : (O2.length : Int) ≤ 1073000012 := by omega
    have HM5 := Lib.hid hm5
    have hc5 := hm5.c0
    have hf5 := hm5.fz 0
    clear hO2 hl2 hm5 he5
    have HW4 := Lib.hid (show 4 * (n : Int) = ((4 * n : Nat) : Int) by omega)
    go_wp2_with (at_builtin; refine wpList_append_zeros' rfl _ _ 30 3 rfl Tryz.underlying30 Tryz.underlying3 infoByte' HM5.out (4 * n) rfl (congrArg (Value.int IntKind.i64) HW4.out) (by omega) ?_; intro g6 cap6 w6 HO6 HG6 HR6 hlt6; have hc6 := HM5.out.grown_cell HG6.out; have hfin := Lib.hid (HM5.out.appended (X := List.replicate (4 * n) 0) (n := 4 * n) List.length_replicate HG6.out HR6.out HO6.out))
    obtain ⟨hm6, he6⟩ := hfin.out
    generalize w6.setCell _ _ = w7 at *
    clear hc6 hlt6 HO6 HG6 HR6 hfin hc5 hf5
    have HE7 := Lib.hid (HE5.out.trans he6)
    obtain ⟨C0, hC0⟩ : ∃ C0, C0 = O2 ++ List.replicate (4 * n) (0 : UInt8) := ⟨_, rfl⟩
    have hC0l : C0.length = O2.length + 4 * n := by rw [hC0, List.length_append, List.length_replicate]
    rw [← hC0] at hm6
    have hv : VecLaid O C0 O1.length n 0 R := by
      rw [HL1.out, hC0, HO2.out, HO1.out]
      exact VecLaid.start (by omega)
    have HV := Lib.hid hv
    have HCL := Lib.hid hC0l
    have HM7 := Lib.hid hm6
    clear hC0 hC0l hv hm6 he6
    go_wp2_with fail
    go_loopg [40] n (fun gk i wr => ∃ (j rb5 cap5 : Nat) (C : By), j ≤ n ∧ gk = n - j ∧ i = .int .i64 (j : Nat) ∧ Hid (C.length ≤ C0.length + sumB bd j) ∧ Hid (C0.length ≤ C.length) ∧ Hid (VecLaid O C O1.length n j R) ∧ Hid (Mk K wr mb rb5 cap5 C bs) ∧ Hid (Ext mb w rb wr rb5))
    case atStart => exact ⟨0, g6, cap6, C0, by omega, rfl, rfl, Lib.hid (by simp [sumB]), Lib.hid (Nat.le_refl _), HV, HM7, HE7⟩
    case round =>
      obtain ⟨j, rb5, cap5, C, hj, hgk, rfl, HCU, HCG, HVJ, HMJ, HEJ⟩ := hrel
      have HKj := Lib.hid hgk
      clear hgk
      by_cases hjn : j < n
      · have hjI : (j : Int) < (n : Int) := by omega
        have hcj := HMJ.out.c0
        have hfj := HMJ.out.fz 0
        have hWe := (HW.out.ext HEJ.out).e
        have hjb : sumB bd j + bd j ≤ sumB bd n := by
          rw [← sumB_succ]
          exact sumB_le bd hjn
        have hcb : C.length + bd j ≤ 1073000000 := by
          have := HCU.out
          have := HCL.out
          have := HL1.out
          have := HL2.out
          have := HBD.out
          have := HO.out
          omega
        have HJB := Lib.hid hjb
        have HCB := Lib.hid hcb
        have hpn : O1.length + 4 + 4 * n ≤ C.length := HVJ.out.len
        obtain ⟨q, hq⟩ : ∃ q, q = O1.length + 4 + 4 * j := ⟨_, rfl⟩
        have hqw : (O1.length : Int) + 4 + 4 * (j : Int) = (q : Int) := by omega
        have HQ := Lib.hid hq
        have HPN := Lib.hid hpn
        have hcx := (HW.out.ext HEJ.out).c j wr rb5 cap5 C hjn (Ext.refl _ _ _) HMJ.out hcb
        clear hjb hcb hpn hq
        go_wp2_with fail
        refine hcx.mono ?_
        clear hcx hcj hfj hWe
        rintro e w8 ⟨X, rbn, capn, qv, rfl, hmk, hex, hxl, hq1, hq2, hRB⟩
        have HXL := Lib.hid hxl
        have HQ1 := Lib.hid hq1
        have HQ2 := Lib.hid hq2
        have HRB := Lib.hid hRB
        have HE8 := Lib.hid (HEJ.out.trans hex)
        obtain ⟨C2, hC2⟩ : ∃ C2, C2 = C ++ X := ⟨_, rfl⟩
        rw [← hC2] at hmk
        have hl2 : C2.length = C.length + X.length := by rw [hC2, List.length_append]
        have HM2 := Lib.hid hmk
        have HC2 := Lib.hid hC2
        have HLC2 := Lib.hid hl2
        have hc2 := hmk.c0
        have hf2 := hmk.fz 0
        have hroom := hmk.room
        have hqq : q + 4 ≤ C.length := by have := HQ.out; have := HPN.out; omega
        have hqv : qv < 1073000000 := by have := HCB.out; omega
        have hsub : ((qv : Int) - (q : Int)) = ((qv - q : Nat) : Int) := by omega
        have hwo1 : IntKind.i64.wrap ((qv : Int) - (q : Int)) = (qv : Int) - (q : Int) := by rw [IntKind.wrap_i64]; omega
        have hwo2 : IntKind.u64.wrap ((qv : Int) - (q : Int)) = (qv : Int) - (q : Int) := by rw [IntKind.wrap_u64]; omega
        have hqc : ¬ capn = q := by omega
        have hqle2 : q + 4 ≤ C2.length := by omega
        have hclI : (C2.length : Int) ≤ 1073000000 := by have := HCB.out; omega
        have hqi1 : (q : Int) ≤ (C2.length : Int) := by omega
        have hqi2 : (q : Int) < (capn : Int) := by omega
        have hqi3 : (C2.length : Int) ≤ (capn : Int) := by omega
        have HQV := Lib.hid hqv
        have HSUB := Lib.hid hsub
        have HQE := Lib.hid hqle2
        clear hxl hq1 hq2 hRB hex hC2 hl2 hmk hroom hqq hqv hsub hqle2
        go_upto_region 10 with fail
        have HMD2 := Lib.hid HM2.out.drew
        go_region_law (first
          | (rw [if_pos (by rfl)]; go_simp; go_at_call 21; refine (little_int (qv - q) 4 _ _ (by decide) (by have := HQV.out; omega) HSUB.out (by rfl) _).mono ?_; rintro e w3 ⟨vo, vc, rfl, HLL, HBB⟩; have HM3 := Lib.hid (HMD2.out.below HBB); have HE3 := Lib.hid HBB; have HW3 := Lib.hid HLL; have hc3 := HM3.out.c0; clear HLL; dsimp only)
          | (refine step_copy_mk rfl _ _ 30 30 rfl Tryz.underlying30 infoByteS HM3.out (Lib.leBytes 4 (qv - q)) 4 q (C2.length - q) (capn - q) _ _ rfl rfl (Lib.leBytes_length _ _) (by decide) HW3.out HQE.out (by have := HQE.out; omega) ?_; intro w4 hmc hec hsc; have HMC4 := Lib.hid hmc; have HEC4 := Lib.hid hec; clear hmc hec))
        all_goals
          go_wp2_with fail
          go_roundg (n - (j + 1))
          case measure => have := HKj.out; omega
          case rel =>
            have hpl : (put C2 q (Lib.leBytes 4 (qv - q))).length = C2.length := put_length (by rw [Lib.leBytes_length]; exact HQE.out)
            refine ⟨j + 1, rbn, capn, _, by omega, rfl, by go_num, Lib.hid ?_, Lib.hid ?_, Lib.hid ?_, HMC4, Lib.hid ((HE8.out.trans (Ext.of rbn ((Below.refl _ _).drew.trans HE3.out))).trans HEC4.out)⟩
            · have := HCU.out
              have := HXL.out
              have := HLC2.out
              rw [sumB_succ]
              omega
            · have := HCG.out
              have := HLC2.out
              omega
            · have h := HVJ.out.put (X := X) hjn HQ1.out (by have := HQ2.out; omega) (by have := HQV.out; omega) HRB.out
              rw [← HQ.out, ← HC2.out] at h
              exact h
      · obtain rfl : j = n := by omega
        go_wp2_with fail
        go_ret
        have hCO : O ++ C.drop O.length = C := by
          have := List.take_append_drop O.length C
          rw [HVJ.out.pre] at this
          exact this
        have hCl : (C.drop O.length).length = C.length - O.length := List.length_drop
        have hbig : C.length ≤ O.length + bd1 := by
          have := HCU.out
          have := HCL.out
          have := HL1.out
          have := HL2.out
          have := HBD.out
          omega
        have hlo := HVJ.out.lo
        have hlen := HVJ.out.len
        refine ⟨C.drop O.length, rb5, cap5, O1.length, rfl, HMJ.out.cast hCO.symm, HEJ.out, by omega, hlo, by omega, fun B hB => ?_⟩
        rw [hCO] at hB
        exact HVJ.out.done hB

end Go.Proofs.YtcbcdgifakcooaaGreatDoor

namespace Go.Proofs.YtcbcdgifakcooaaGreatDoor
open Go.RowKit
set_option linter.unusedVariables false
set_option linter.unusedSimpArgs false

theorem listAt_any (i : Int) (so : Option Addr) (len cap : Nat) (w : World) :
    Calls Tryz.prog 176 #[.int .i64 i, .slice so len cap] w fun e w' => ∃ cb, e = .returned (.agg #[.int .i64 i, .int .i64 4, .int .u64 0, .func (.func 201) #[] #[.pointer (some ⟨cb, 0, none⟩)]]) ∧ w.heap.size ≤ cb ∧ w'.cell? ⟨cb, 0, none⟩ = some (.slice so len cap) ∧ Below w.heap.size w w' := by
  go_enter Tryz.func176, Tryz.ntmps176
  go_wp2_with fail
  refine bodyPost_ret (v := .agg #[.int .i64 i, .int .i64 4, .int .u64 0, .func (.func 201) #[] #[.pointer (some ⟨w.heap.size, 0, none⟩)]]) (by simp [results, Tryz.f176, go_sem]) rfl ⟨w.heap.size, rfl, Nat.le_refl _, ?_, ?_⟩
  · exact (World.cell?_of_block (Below.heap_alloc _ _ _ (by simp))).trans (World.cell?_alloc_at _ _ _ _ rfl)
  · exact ((Below.refl _ _).alloc (Nat.le_refl _) _).alloc (by simp) _

set_option maxRecDepth 100000 in
theorem write_one (W0 : World) (mb : Nat) (bs : Bool) (xs : List Nd) (b o cap : Nat) (bd : Nat → Nat) (R : Nat → By → Nat → Prop) (hxs : ∀ i x, xs[i]? = some x → NdCells W0 b (o + i * 5) x) (hN : ∀ i x, xs[i]? = some x → NodeW W0 bs (bd i) x (R i)) (hn : xs.length ≤ 1000) (cb mc : Nat) (w : World) (rb : Nat)
    (hb : Below W0.heap.size W0 w) (hm : W0.heap.size ≤ mb) (hr : W0.heap.size ≤ rb) (hc : w.cell? ⟨cb, 0, none⟩ = some (.slice (some ⟨b, o, none⟩) xs.length cap)) (hmc : w.cell? ⟨mc, 0, none⟩ = some (.pointer (some ⟨mb, 0, none⟩))) (h1 : cb ≠ mb) (h2 : cb ≠ rb) (h3 : mc ≠ mb) (h4 : mc ≠ rb) :
    WriteC W0.heap.size mb bs xs.length 203 #[.pointer (some ⟨mc, 0, none⟩), .pointer (some ⟨cb, 0, none⟩)] bd R w rb := by
  refine ⟨fun args w' => by kernel_rfl, fun i w1 rb1 cap1 O1 hi he hm1 hO => ?_⟩
  have hcl : cb < w.heap.size := World.block_lt_of_cell? w _ hc
  have hml : mc < w.heap.size := World.block_lt_of_cell? w _ hmc
  have hb1 : Below W0.heap.size W0 w1 := hb.trans (he.below hm hr hb.size)
  rw [← (he.blk hcl h1 h2).1] at hc
  rw [← (he.blk hml h3 h4).1] at hmc
  obtain ⟨x, hx⟩ : ∃ x, xs[i]? = some x := ⟨xs[i], List.getElem?_eq_getElem hi⟩
  have hxc := hxs i x hx
  have hxl : b < W0.heap.size := hxc.lt
  obtain ⟨c0, c1, c2, c3, c4⟩ := hxc.below hb1 hxl
  have hiI : (i : Int) < (xs.length : Int) := by omega
  have hnI : (xs.length : Int) ≤ 1000 := by omega
  show Calls _ _ #[.int .i64 (i : Nat), .pointer (some ⟨mc, 0, none⟩), .pointer (some ⟨cb, 0, none⟩)] _ _
  have HM := Lib.hid hm1
  have HB := Lib.hid hb1
  have HNW := Lib.hid (hN i x hx)
  clear hm1 hb1 hN hxs hx hxc
  go_enter Tryz.func203, Tryz.ntmps203
  go_upto_region 1 with fail
  have HBD := Lib.hid (HB.out.drew)
  have HMD := Lib.hid HM.out.drew
  go_region_law (first
    | (rw [if_pos (by rfl)]; go_simp; go_at_call 20; show Calls _ _ #[_, x.val] _ _; refine (HNW.out mb rb1 cap1 O1 _ HBD.out HMD.out hO).mono ?_; rintro e w2 ⟨X, rb', cap', q, rfl, hm', hx, hl, hq1, hq2, hR⟩; have HP := Lib.hid (show PostW W0.heap.size mb bs O1 (bd i) (R i) w1 rb1 (.returned (.int .i64 (q : Nat))) w2 from ⟨X, rb', cap', q, rfl, hm', (Ext.of rb1 (Below.refl w1.heap.size w1).drew).trans hx, hl, hq1, hq2, hR⟩); clear hm' hx hl hq1 hq2 hR; dsimp only))
  all_goals
    go_wp2_with fail
    go_ret
    exact HP.out

set_option maxRecDepth 100000 in
theorem list_ref (W0 : World) (mb : Nat) (bs : Bool) (xs : List Nd) (b o cap : Nat) (bd : Nat → Nat) (bd1 : Nat) (R : Nat → By → Nat → Prop) (hxs : ∀ i x, xs[i]? = some x → NdCells W0 b (o + i * 5) x) (hN : ∀ i x, xs[i]? = some x → NodeW W0 bs (bd i) x (R i)) (hn : xs.length ≤ 1000) (hbd : 16 + 4 * xs.length + sumB bd xs.length ≤ bd1) (cb : Nat) (w : World) (rb : Nat)
    (hb : Below W0.heap.size W0 w) (hm : W0.heap.size ≤ mb) (hr : W0.heap.size ≤ rb) (hc : w.cell? ⟨cb, 0, none⟩ = some (.slice (some ⟨b, o, none⟩) xs.length cap)) (h1 : cb ≠ mb) (h2 : cb ≠ rb) :
    RefC W0.heap.size mb bs 201 #[.pointer (some ⟨cb, 0, none⟩)] bd1 (VecAt xs.length R) w rb := by
  refine ⟨fun args w' => by kernel_rfl, fun w1 rb1 cap1 O1 he hm1 hO => ?_⟩
  have hcl : cb < w.heap.size := World.block_lt_of_cell? w _ hc
  have hb1 : Below W0.heap.size W0 w1 := hb.trans (he.below hm hr hb.size)
  rw [← (he.blk hcl h1 h2).1] at hc
  have hcl1 : cb < w1.heap.size := World.block_lt_of_cell? w1 _ hc
  have h2' : cb ≠ rb1 := by rcases he.row with e | e <;> omega
  show Calls _ _ #[.pointer (some ⟨mb, 0, none⟩), .pointer (some ⟨cb, 0, none⟩)] _ _
  have HM := Lib.hid hm1
  have HB := Lib.hid hb1
  have hnI : (xs.length : Int) ≤ 1000 := by omega
  clear hm1 hb1
  go_enter Tryz.func201, Tryz.ntmps201
  go_wp2_with fail
  have hmlt : mb < w1.heap.size := HM.out.mlt
  have hmr := HM.out.row
  have hb2 : Below W0.heap.size W0 (w1.alloc (.cells #[.pointer (some ⟨mb, 0, none⟩)] 53)) := HB.out.alloc HB.out.size _
  have hW := write_one W0 mb bs xs b o cap bd R hxs hN hn cb w1.heap.size _ rb1 hb2 hm hmr.1 ((World.cell?_of_block (Below.heap_alloc w1 _ cb hcl1)).trans hc) (World.cell?_alloc_at _ _ _ _ rfl) h1 h2' (by omega) (by omega)
  refine (tables_any W0.heap.size mb rb1 cap1 O1 bs xs.length _ _ bd bd1 R hn hbd hO _ (HM.out.alloc _) hW).mono ?_
  rintro e w3 ⟨X, rb', cap', q, rfl, hm', hx, hl, hq1, hq2, hR⟩
  have HP := Lib.hid (show PostW W0.heap.size mb bs O1 bd1 (VecAt xs.length R) w1 rb1 (.returned (.int .i64 (q : Nat))) w3 from ⟨X, rb', cap', q, rfl, hm', (Ext.of rb1 ((Below.refl w1.heap.size w1).alloc (Nat.le_refl _) _)).trans hx, hl, hq1, hq2, hR⟩)
  clear hm' hx hl hq1 hq2 hR
  go_wp2_with fail
  go_ret
  exact HP.out

end Go.Proofs.YtcbcdgifakcooaaGreatDoor
