/-
  The maker writes a table. The table's pattern is one that okPat takes; the bytes are at most 2^29.
-/
import Derived.Test.YtcbcdgifakcooaaGreatDoorRefs
import Derived.Test.YtcbcdgifakcooaaGreatDoorMap
namespace Go.Proofs.YtcbcdgifakcooaaGreatDoor
open Go.RowKit
set_option linter.unusedVariables false
set_option linter.unusedSimpArgs false

theorem most_foldl (sl : List Sl) {j : Nat} {s : Sl} (h : sl[j]? = some s) : most ((patOf sl).take (j + 1)) = max (most ((patOf sl).take j)) (s.idx + 1) := by
  unfold most
  rw [foldl_take_succ (x := (s.idx, s.wid)) _ _ _ (by simp [patOf, h])]

set_option maxHeartbeats 2000000 in
set_option maxRecDepth 100000 in
theorem table_any (K mb rb cap : Nat) (O : By) (bs : Bool) (sl : List Sl) (sp : Option Addr) (scap sb bdS : Nat) (w : World) (hok : okPat (patOf sl) = true) (hw4 : ∀ (i : Nat) (t : Sl), sl[i]? = some t → t.ref ≠ none → t.wid = 4)
    (hu : ∀ (i : Nat) (t : Sl), sl[i]? = some t → t.u < 256 ^ t.wid) (hn : sl.length ≤ 1000) (hbd : (sl.map Sl.bd).sum = bdS) (hO : O.length + 70000 + bdS ≤ 1073000000) (hS : SlotsIn w mb rb sp sl sb) (hm : Mk K w mb rb cap O bs)
    (hR : ∀ (i : Nat) (s : Sl) (F : Nat) (c : Array Value), sl[i]? = some s → s.ref = some (F, c) → RefC K mb bs F c s.bd s.R w rb) :
    Calls Tryz.prog 61 #[.pointer (some ⟨mb, 0, none⟩), .slice sp sl.length scap] w (PostW K mb bs O (70000 + bdS) (fun B p => TabOf B p sl) w rb) := by
  have hsmall := okPat_small hok
  rw [plOf_length] at hsmall
  have HSM := Lib.hid hsmall
  have hmlt : mb < w.heap.size := hm.mlt
  have HM := Lib.hid hm
  have HS := Lib.hid hS
  have HR := Lib.hid hR
  clear hm hS hR hsmall
  have hnI : (sl.length : Int) ≤ 1000 := by omega
  obtain ⟨n, hnl⟩ : ∃ n, n = sl.length := ⟨_, rfl⟩
  rw [← hnl] at hn hnI ⊢
  have HN := Lib.hid hnl
  clear hnl
  go_enter Tryz.func61, Tryz.ntmps61
  go_wp2_with fail
  go_loopg [5, 26] n (fun gk v i wr => ∃ (k : Nat), k ≤ n ∧ gk = n - k ∧ i = .int .i64 (k : Nat) ∧ v = .int .i64 (((most ((patOf sl).take k) : Nat) : Int) - 1) ∧ Hid (Below w.heap.size w wr))
  case atStart => exact ⟨0, Nat.zero_le _, rfl, rfl, rfl, Lib.hid (Below.refl _ _)⟩
  case round =>
    obtain ⟨k, hk, hgk, rfl, rfl, HB⟩ := hrel
    have HK := Lib.hid hgk
    clear hgk
    by_cases hkn : k < n
    · have hki : (k : Int) < (n : Int) := by omega
      obtain ⟨s, hs⟩ : ∃ s, sl[k]? = some s := ⟨sl[k]'(by have := HN.out; omega), List.getElem?_eq_getElem _⟩
      obtain ⟨hp, hsb, hs1, hs2⟩ := HS.out.p (by have := HN.out; omega)
      obtain ⟨a0, a1, a2, a3⟩ := HS.out.at hs
      have kb := belBlk HB.out hsb
      rw [← kb.1] at a0 a1 a2 a3
      have hst := fun a b c => store_slot Tryz.prog wr a b c s 265
      subst hp
      go_wp2_with fail
      all_goals
        go_roundg (n - (k + 1))
        case measure => have := HK.out; omega
        case rel =>
          refine ⟨k + 1, by omega, rfl, by go_num, ?_, Lib.hid (HB.out.alloc HB.out.size _)⟩
          rw [most_foldl sl hs, Nat.max_def]
          congr 1
          split <;> omega
    · obtain rfl : k = n := by omega
      have hmo : most ((patOf sl).take k) = most (patOf sl) := by rw [List.take_of_length_le (by have := HN.out; simp [patOf]; omega)]
      rw [hmo]
      have hHS := HSM.out
      obtain ⟨m, hmm⟩ : ∃ m, m = most (patOf sl) := ⟨_, rfl⟩
      rw [← hmm] at hHS ⊢
      have HMO := Lib.hid hmm
      clear hmm hmo
      have hm1 : (m : Int) < 1000 := by have := hHS.2.1; omega
      have hm0 : (0 : Int) ≤ (m : Int) := by omega
      have hmk := make_ints wr m hHS.2.1
      obtain ⟨hI0, hIf⟩ := made_ints wr m 3
      have HBA := Lib.hid (HB.out.alloc HB.out.size (.cells (List.replicate m (Value.int .i64 0)).toArray 3))
      obtain ⟨pb, hpb⟩ : ∃ pb, pb = wr.heap.size := ⟨_, rfl⟩
      have hpw : w.heap.size ≤ pb := by have := HB.out.size; omega
      have hpU : pb < (wr.alloc (.cells (List.replicate m (Value.int .i64 0)).toArray 3)).heap.size := by simp; omega
      rw [← hpb] at hmk hI0 hIf
      generalize wr.alloc (.cells (List.replicate m (Value.int .i64 0)).toArray 3) = U at *
      have HI := Lib.hid hI0
      have HIF := Lib.hid hIf
      clear hI0 hIf hpb
      go_upto_region 8 with fail
      have HW : Hid (NumsAt (U.alloc (.cells #[.int .i64 8, .int .i64 4, .int .i64 2, .int .i64 1] 3)) U.heap.size [8, 4, 2, 1]) := Lib.hid (by
        intro i x hx
        match i, hx with
        | 0, hx => cases hx; exact World.cell?_alloc_at _ _ _ _ rfl
        | 1, hx => cases hx; exact World.cell?_alloc_at _ _ _ _ rfl
        | 2, hx => cases hx; exact World.cell?_alloc_at _ _ _ _ rfl
        | 3, hx => cases hx; exact World.cell?_alloc_at _ _ _ _ rfl)
      go_wp2_with fail
      have HI2 := Lib.hid (HI.out.blk (w1 := U.alloc (.cells #[.int .i64 8, .int .i64 4, .int .i64 2, .int .i64 1] 3)) (Below.heap_alloc U _ pb hpU))
      have HIF2 : Hid (∀ o, (U.alloc (.cells #[.int .i64 8, .int .i64 4, .int .i64 2, .int .i64 1] 3)).frozen? ⟨pb, o, none⟩ = false) := Lib.hid fun o => (World.frozen?_of_block (Below.heap_alloc U _ pb hpU)).trans (HIF.out o)
      have HBA2 := Lib.hid (HBA.out.alloc HBA.out.size (.cells #[.int .i64 8, .int .i64 4, .int .i64 2, .int .i64 1] 3))
      obtain ⟨qb, hqb⟩ : ∃ qb, qb = U.heap.size := ⟨_, rfl⟩
      have hqU : qb < (U.alloc (.cells #[.int .i64 8, .int .i64 4, .int .i64 2, .int .i64 1] 3)).heap.size := by simp; omega
      have hpq : pb < qb := by omega
      rw [← hqb] at HW ⊢
      generalize U.alloc (.cells #[.int .i64 8, .int .i64 4, .int .i64 2, .int .i64 1] 3) = V at *
      clear hqb HI HIF hpU
      go_loopg [9, 40] 4 (fun gk v i wr => ∃ (a : Nat), a ≤ 4 ∧ gk = 4 - a ∧ i = .int .i64 (a : Nat) ∧ v = .int .i64 (((outSt (patOf sl) a).2 : Nat) : Int) ∧ Hid (Ext pb V pb wr pb) ∧ Hid (NumsAt wr pb (outSt (patOf sl) a).1) ∧ Hid (∀ o, wr.frozen? ⟨pb, o, none⟩ = false))
      case atStart => exact ⟨0, by omega, rfl, rfl, rfl, Lib.hid (Ext.refl _ _ _), by rw [HMO.out] at HI2; exact HI2, HIF2⟩
      case round =>
        obtain ⟨a, ha, hgk, rfl, rfl, HE, HI, HF⟩ := hrel
        have HKo := Lib.hid hgk
        clear hgk
        by_cases hak : a < 4
        · have hai : (a : Int) < 4 := by omega
          obtain ⟨W, hW⟩ : ∃ W, ([8, 4, 2, 1] : List Nat)[a]? = some W := ⟨_, List.getElem?_eq_getElem hak⟩
          have hWc := (wid_of hW)
          have hq := (HE.out.blk hqU (by omega) (by omega)).1
          have hwc := HW.out a W hW
          rw [← hq] at hwc
          have HWW := Lib.hid hW
          have HWC := Lib.hid hWc
          have hW8 : W ≤ 8 := by omega
          have hW0 : ((W : Int) == 0) = false := by rcases hWc with rfl | rfl | rfl | rfl <;> rfl
          have hW1 : ¬ ((W : Int) = 0) := by omega
          clear hW hWc hq
          go_wp2_with fail
          obtain ⟨wo, hwo⟩ : ∃ wo, wo = wr := ⟨_, rfl⟩
          subst hwo
          go_loopg [9, 46] k (fun gk v i wr2 => ∃ (j : Nat), j ≤ k ∧ gk = k - j ∧ i = .int .i64 (j : Nat) ∧ v = .int .i64 (((inSt (patOf sl) a W j).2 : Nat) : Int) ∧ Hid (Ext pb V pb wr2 pb) ∧ Hid (NumsAt wr2 pb (inSt (patOf sl) a W j).1) ∧ Hid (∀ o, wr2.frozen? ⟨pb, o, none⟩ = false))
          case atStart => exact ⟨0, by omega, rfl, rfl, rfl, HE, HI, HF⟩
          case round =>
            obtain ⟨j, hj, hgk, rfl, rfl, HE2, HI2, HF2⟩ := hrel
            have HK2 := Lib.hid hgk
            clear hgk
            by_cases hjk : j < k
            · have hji : (j : Int) < (k : Int) := by omega
              obtain ⟨s, hs⟩ : ∃ s, sl[j]? = some s := ⟨sl[j]'(by have := HN.out; omega), List.getElem?_eq_getElem _⟩
              obtain ⟨hp, hsb, hs1, hs2⟩ := HS.out.p (by have := HN.out; omega)
              obtain ⟨a0, a1, a2, a3⟩ := HS.out.at hs
              have kb0 := (belBlk HBA2.out hsb).1
              have kb1 := (HE2.out.blk (c := sb) (by omega) (by omega) (by omega)).1
              rw [← kb0, ← kb1] at a0 a1 a2 a3
              have hpat : (patOf sl)[j]? = some (s.idx, s.wid) := by simp [patOf, hs]
              have hst := fun a b c => store_slot Tryz.prog wr a b c s 265
              subst hp
              go_upto_region 14 with fail
              have b0 : (wr.alloc (.cells #[.int .i64 (s.idx : Nat), .int .i64 (s.wid : Nat), .int .u64 (s.u : Nat), s.fv] 265)).cell? ⟨wr.heap.size, 0, none⟩ = some (.int .i64 (s.idx : Nat)) := World.cell?_alloc_at _ _ _ _ rfl
              have b1 : (wr.alloc (.cells #[.int .i64 (s.idx : Nat), .int .i64 (s.wid : Nat), .int .u64 (s.u : Nat), s.fv] 265)).cell? ⟨wr.heap.size, 1, none⟩ = some (.int .i64 (s.wid : Nat)) := World.cell?_alloc_at _ _ _ _ rfl
              have hpwr : pb < wr.heap.size := by have := HE2.out.size; omega
              have HE3 := Lib.hid (HE2.out.alloc (.cells #[.int .i64 (s.idx : Nat), .int .i64 (s.wid : Nat), .int .u64 (s.u : Nat), s.fv] 265))
              have HI3 := Lib.hid (HI2.out.blk (w1 := wr.alloc (.cells #[.int .i64 (s.idx : Nat), .int .i64 (s.wid : Nat), .int .u64 (s.u : Nat), s.fv] 265)) (Below.heap_alloc wr _ pb hpwr))
              have HF3 : Hid (∀ o, (wr.alloc (.cells #[.int .i64 (s.idx : Nat), .int .i64 (s.wid : Nat), .int .u64 (s.u : Nat), s.fv] 265)).frozen? ⟨pb, o, none⟩ = false) := Lib.hid fun o => (World.frozen?_of_block (Below.heap_alloc wr _ pb hpwr)).trans (HF2.out o)
              obtain ⟨tb, htb⟩ : ∃ tb, tb = wr.heap.size := ⟨_, rfl⟩
              rw [← htb] at b0 b1 ⊢
              generalize wr.alloc (.cells #[.int .i64 (s.idx : Nat), .int .i64 (s.wid : Nat), .int .u64 (s.u : Nat), s.fv] 265) = Y at *
              clear a0 a1 a2 a3 kb0 kb1 hst htb HE2 HI2 HF2 hpwr
              by_cases heq : s.wid = W
              · have hb : ((s.wid : Int) == (W : Int)) = true := by rw [heq]; exact beq_self_eq_true _
                go_wp2_with fail
                have hsz := inSt_size (patOf sl) (a := a) HWC.out j
                obtain ⟨s0, hs0⟩ : ∃ s0, s0 = (inSt (patOf sl) a W j).2 := ⟨_, rfl⟩
                rw [← hs0] at hsz ⊢
                have hpl : (patOf sl).length ≤ 1000 := by have := HN.out; simp [patOf]; omega
                have hs0b : (s0 : Int) ≤ 90000 := by omega
                have HS0 := Lib.hid hs0
                have hag := alignUp_ge (s := s0) HWC.out
                have HAG := Lib.hid hag
                clear hs0 hsz hpl hag
                obtain ⟨wi, hwi⟩ : ∃ wi, wi = wr := ⟨_, rfl⟩
                subst hwi
                go_loopg [9] 17 (fun gk v wr3 => wr3 = Y ∧ ∃ (t : Nat), Hid (s0 ≤ t ∧ t ≤ alignUp s0 W) ∧ gk = 17 - (t - s0) ∧ v = .int .i64 (t : Nat) ∧ t ≤ 90016)
                case atStart => exact ⟨rfl, s0, Lib.hid ⟨Nat.le_refl _, HAG.out.1⟩, by omega, rfl, by omega⟩
                case round =>
                  obtain ⟨rfl, t, HT, hgk, rfl, ht9⟩ := hrel
                  have HK3 := Lib.hid hgk
                  clear hgk
                  have ht9' : (t : Int) ≤ 90016 := by omega
                  by_cases hmod : t % W = 0
                  · have hmz : (((t : Int) % (W : Int)) != 0) = false := by rw [← Int.natCast_emod, hmod]; rfl
                    have hta : t = alignUp s0 W := alignUp_stop HWC.out HT.out.1 HT.out.2 hmod
                    have hil : s.idx < (inSt (patOf sl) a W j).1.length := by rw [inSt_len]; exact most_lt (List.mem_of_getElem? hpat)
                    have him : (s.idx : Int) < (m : Int) := by have := HMO.out; rw [inSt_len] at hil; omega
                    have hi0 : (0 : Int) ≤ (s.idx : Int) := by omega
                    obtain ⟨cv, hcell⟩ : ∃ cv : Nat, wr.cell? ⟨pb, s.idx, none⟩ = some (.int .i64 (cv : Int)) := ⟨_, HI3.out s.idx _ (List.getElem?_eq_getElem hil)⟩
                    have hfr := HF3.out s.idx
                    have hnew := NumsAt.set HI3.out hil t
                    have HNW := Lib.hid hnew
                    have HIL := Lib.hid hil
                    have HTA := Lib.hid hta
                    clear hnew hil hta
                    go_wp2_with fail
                    have e : inSt (patOf sl) a W (j + 1) = ((inSt (patOf sl) a W j).1.set s.idx t, t + W) := by
                      rw [inSt_succ hpat]
                      unfold placeOne
                      rw [if_pos heq, ← HS0.out, ← HTA.out]
                    go_roundg (k - (j + 1))
                    case measure => have := HK2.out; omega
                    case rel => exact ⟨j + 1, by omega, rfl, by go_num, by rw [e]; go_num, Lib.hid (HE3.out.setPb _ _), by rw [e]; exact HNW, Lib.hid fun o => (World.frozen?_setCell _ _ _ _).trans (HF3.out o)⟩
                  · have hmz : (((t : Int) % (W : Int)) != 0) = true := by rw [← Int.natCast_emod, bne_iff_ne]; omega
                    go_wp2_with fail
                    go_roundg (17 - (t + 1 - s0))
                    case measure => have := HK3.out; have := HT.out; have := HAG.out; omega
                    case rel => exact ⟨rfl, t + 1, Lib.hid ⟨by have := HT.out; omega, alignUp_go HWC.out HT.out.1 HT.out.2 hmod⟩, rfl, by go_num, by have := alignUp_go HWC.out HT.out.1 HT.out.2 hmod; have := HAG.out; omega⟩
              · have hb : ((s.wid : Int) == (W : Int)) = false := by rw [beq_eq_false_iff_ne]; omega
                go_wp2_with fail
                have e : inSt (patOf sl) a W (j + 1) = inSt (patOf sl) a W j := by
                  rw [inSt_succ hpat]
                  unfold placeOne
                  rw [if_neg heq]
                go_roundg (k - (j + 1))
                case measure => have := HK2.out; omega
                case rel => exact ⟨j + 1, by omega, rfl, by go_num, by rw [e], HE3, by rw [e]; exact HI3, HF3⟩
            · obtain rfl : j = k := by omega
              go_wp2_with fail
              have e : outSt (patOf sl) (a + 1) = inSt (patOf sl) a W j := outSt_succ HWW.out (by have := HN.out; simp [patOf]; omega)
              go_roundg (4 - (a + 1))
              case measure => have := HKo.out; omega
              case rel => exact ⟨a + 1, by omega, rfl, by go_num, by rw [e], HE2, by rw [e]; exact HI2, HF2⟩
        · obtain rfl : a = 4 := by omega
          have HBW := Lib.hid (HBA2.out.trans (HE.out.below hpw hpw HBA2.out.size))
          rw [outSt_all] at HI ⊢
          have hplen := plOf_length (patOf sl)
          obtain ⟨sz, hsz⟩ : ∃ sz, sz = szOf (patOf sl) := ⟨_, rfl⟩
          obtain ⟨pl, hpl⟩ : ∃ pl, pl = plOf (patOf sl) := ⟨_, rfl⟩
          rw [show (placeAll (patOf sl)).2 = sz from hsz.symm]
          rw [show (placeAll (patOf sl)).1 = pl from hpl.symm] at HI
          rw [← hpl, ← HMO.out] at hplen
          have hsz4 : 4 ≤ sz := by rw [hsz]; exact (outSt_size (patOf sl) 4).1
          rw [← hsz, ← hpl] at hHS
          have hszb : (sz : Int) < 65536 := by have := hHS.1; omega
          have HSZ := Lib.hid hsz
          have HPL := Lib.hid hpl
          have HPN := Lib.hid hplen
          have HHS := Lib.hid hHS
          clear hsz hpl hplen hHS
          have hmW : Mk K wr mb rb cap O bs := HM.out.kept (HBW.out.block mb hmlt) (HBW.out.block rb HM.out.row.2)
          have hmn : mb ≠ pb := by omega
          have hrn : rb ≠ pb := by have := HM.out.row.2; omega
          have hpwr : pb < wr.heap.size := by have := HE.out.size; omega
          go_wp2_with fail
          refine (pad_int K mb rb cap 8 (4 + 2 * m) _ _ O bs (.inl rfl) (by omega) (by omega) rfl (by omega) wr hmW).mono ?_
          rintro e w1 ⟨rfl, z, rb1, cap1, hz, hz8, hm1, he1⟩
          have HE1 := Lib.hid ((Ext.of rb HBW.out).trans he1)
          have hI1 := HI.out.blk (he1.block pb hpwr (Ne.symm hmn) (Ne.symm hrn))
          have HI1 := Lib.hid hI1
          have hp1 : pb < w1.heap.size := Nat.lt_of_lt_of_le hpwr he1.size
          have hpr1 : pb ≠ rb1 := by rcases he1.row with e | e <;> omega
          have hlen : (O ++ List.replicate z (0 : UInt8)).length = O.length + z := by simp
          obtain ⟨OA, hOA⟩ : ∃ OA, OA = O ++ List.replicate z (0 : UInt8) := ⟨_, rfl⟩
          rw [← hOA] at hm1 hlen
          have HM1 := Lib.hid hm1
          have HOA := Lib.hid hOA
          have HLA := Lib.hid hlen
          have hla : (OA.length : Int) ≤ 1072930008 := by omega
          have hc1 := hm1.c0
          have hf1 := hm1.fz 0
          clear hmW hI1 hOA hlen hm1 he1
          have hw1 : IntKind.i64.wrap (m : Int) = (m : Int) := by rw [IntKind.wrap_i64]; omega
          have hw2 : IntKind.i64.wrap (2 * (m : Int)) = 2 * (m : Int) := by rw [IntKind.wrap_i64]; omega
          have hw3 : IntKind.i64.wrap (4 + 2 * (m : Int)) = 4 + 2 * (m : Int) := by rw [IntKind.wrap_i64]; omega
          have hwr1 : IntKind.u64.wrap (4 + 2 * (m : Int)) = 4 + 2 * (m : Int) := by rw [IntKind.wrap_u64]; omega
          go_upto_region 23 with fail
          have HMD := Lib.hid HM1.out.drew
          go_cut [] from 81 to 94 (fun wx => ∃ (rb2 cap2 : Nat) (OB : By), Hid (OB = OA ++ Lib.leBytes 2 (4 + 2 * m)) ∧ OB.length = OA.length + 2 ∧ Hid (Mk K wx mb rb2 cap2 OB bs) ∧ Hid (Ext mb w1 rb1 wx rb2))
          case first =>
            go_region_law (first
          | (rw [if_pos (by rfl)]; go_simp; go_at_call 21; refine (little_int (4 + 2 * m) 2 _ _ (by decide) (by omega) (by omega) (by rfl) _).mono ?_; rintro e w2 ⟨vo, vc, rfl, HL2, HB2⟩; obtain ⟨g2, rfl, hg2, hB2, hsrc2⟩ := own_src HL2 (by decide); have HM2 := Lib.hid (HMD.out.below HB2); have HE2 := Lib.hid HB2; have hc2 := HM2.out.c0; have HS2 := Lib.hid hsrc2; clear hsrc2 HL2; dsimp only)
          | (refine step_append_mk rfl _ _ 30 rfl Tryz.underlying30 infoByte' HM2.out (Lib.leBytes 2 (4 + 2 * m)) 2 _ _ rfl rfl (Lib.leBytes_length _ _) (by decide) HS2.out (by omega) ?_; intro g cap' w4 HO4 HG4 HR4 hlt4; have hc4 := HM2.out.grown_cell HG4.out; have hfin := Lib.hid (HM2.out.appended (X := Lib.leBytes 2 (4 + 2 * m)) (n := 2) (Lib.leBytes_length _ _) HG4.out HR4.out HO4.out)))
            all_goals
              go_wp2_with fail
              go_meet
              case rel => exact ⟨g, cap', _, Lib.hid rfl, by rw [List.length_append, Lib.leBytes_length], Lib.hid hfin.out.1, Lib.hid ((Ext.of rb1 ((Below.refl w1.heap.size w1).drew.trans HE2.out)).trans hfin.out.2)⟩
          case rest =>
            obtain ⟨rb2, cap2, OB, HOB, hlb, HMB, HEB⟩ := hcut
            have hwrz : IntKind.u64.wrap (sz : Int) = (sz : Int) := by rw [IntKind.wrap_u64]; omega
            have hlbI : (OB.length : Int) ≤ 1072930010 := by omega
            have HLB := Lib.hid hlb
            have hcB := HMB.out.c0
            have hfB := HMB.out.fz 0
            clear hlb hc1 hf1
            go_upto_region 24 with fail
            have HMD := Lib.hid HMB.out.drew
            go_cut [] from 95 to 105 (fun wx => ∃ (rb2 cap2 : Nat) (OC : By), Hid (OC = OB ++ Lib.leBytes 2 sz) ∧ OC.length = OB.length + 2 ∧ Hid (Mk K wx mb rb2 cap2 OC bs) ∧ Hid (Ext mb w1 rb1 wx rb2))
            case first =>
              go_region_law (first
                | (rw [if_pos (by rfl)]; go_simp; go_at_call 21; refine (little_int (sz) 2 _ _ (by decide) (by omega) (by omega) (by rfl) _).mono ?_; rintro e w2 ⟨vo, vc, rfl, HL2, HB2⟩; obtain ⟨g2, rfl, hg2, hB2, hsrc2⟩ := own_src HL2 (by decide); have HM2 := Lib.hid (HMD.out.below HB2); have HE2 := Lib.hid HB2; have hc2 := HM2.out.c0; have HS2 := Lib.hid hsrc2; clear hsrc2 HL2; dsimp only)
                | (refine step_append_mk rfl _ _ 30 rfl Tryz.underlying30 infoByte' HM2.out (Lib.leBytes 2 (sz)) 2 _ _ rfl rfl (Lib.leBytes_length _ _) (by decide) HS2.out (by omega) ?_; intro g cap' w4 HO4 HG4 HR4 hlt4; have hc4 := HM2.out.grown_cell HG4.out; have hfin := Lib.hid (HM2.out.appended (X := Lib.leBytes 2 (sz)) (n := 2) (Lib.leBytes_length _ _) HG4.out HR4.out HO4.out)))
              all_goals
                go_wp2_with fail
                go_meet
                case rel => exact ⟨g, cap', _, Lib.hid rfl, by rw [List.length_append, Lib.leBytes_length], Lib.hid hfin.out.1, Lib.hid ((HEB.out.trans (Ext.of rb2 ((Below.refl _ _).drew.trans HE2.out))).trans hfin.out.2)⟩
            case rest =>
              obtain ⟨rb3, cap3, OC, HOC, hlc, HMC, HEC⟩ := hcut
              have hlcI : (OC.length : Int) ≤ 1072930012 := by omega
              have HLC := Lib.hid hlc
              clear hlc hcB hfB
              go_wp2_with fail
              go_loopg [108] m (fun gk i wr => ∃ (j rb4 cap4 : Nat) (OD : By), j ≤ m ∧ gk = m - j ∧ i = .int .i64 (j : Nat) ∧ Hid (OD = OC ++ (pl.take j).flatMap (Lib.leBytes 2)) ∧ Hid (OD.length = OC.length + 2 * j) ∧ Hid (Mk K wr mb rb4 cap4 OD bs) ∧ Hid (Ext mb w1 rb1 wr rb4))
              case atStart => exact ⟨0, rb3, cap3, OC, by omega, rfl, rfl, Lib.hid (by simp), Lib.hid rfl, HMC, HEC⟩
              case round =>
                obtain ⟨j, rb4, cap4, OD, hj, hgk, rfl, HOD, HLD, HMl, HEl⟩ := hrel
                have HKp := Lib.hid hgk
                clear hgk
                have hldI : (OD.length : Int) ≤ 1072932012 := by have := HLD.out; omega
                by_cases hjm : j < m
                · have hjI : (j : Int) < (m : Int) := by omega
                  obtain ⟨x, hx⟩ : ∃ x, pl[j]? = some x := ⟨pl[j]'(by have := HPN.out; omega), List.getElem?_eq_getElem _⟩
                  have hxc := HI1.out j x hx
                  rw [← (HEl.out.blk hp1 (Ne.symm hmn) hpr1).1] at hxc
                  have hx6 := HHS.out.2.2 x (List.mem_of_getElem? hx)
                  have hxI : (x : Int) < 65536 := by omega
                  have HX := Lib.hid hx
                  have hwrx : IntKind.u64.wrap (x : Int) = (x : Int) := by rw [IntKind.wrap_u64]; omega
                  have hcD := HMl.out.c0
                  have hfD := HMl.out.fz 0
                  clear hx hx6
                  go_upto_region 28 with fail
                  have HMD := Lib.hid HMl.out.drew
                  go_region_law (first
                    | (rw [if_pos (by rfl)]; go_simp; go_at_call 21; refine (little_int (x) 2 _ _ (by decide) (by omega) (by rfl) (by rfl) _).mono ?_; rintro e w2 ⟨vo, vc, rfl, HL2, HB2⟩; obtain ⟨g2, rfl, hg2, hB2, hsrc2⟩ := own_src HL2 (by decide); have HM2 := Lib.hid (HMD.out.below HB2); have HE2 := Lib.hid HB2; have hc2 := HM2.out.c0; have HS2 := Lib.hid hsrc2; clear hsrc2 HL2; dsimp only)
                    | (refine step_append_mk rfl _ _ 30 rfl Tryz.underlying30 infoByte' HM2.out (Lib.leBytes 2 (x)) 2 _ _ rfl rfl (Lib.leBytes_length _ _) (by decide) HS2.out (by omega) ?_; intro g cap' w4 HO4 HG4 HR4 hlt4; have hc4 := HM2.out.grown_cell HG4.out; have hfin := Lib.hid (HM2.out.appended (X := Lib.leBytes 2 (x)) (n := 2) (Lib.leBytes_length _ _) HG4.out HR4.out HO4.out)))
                  all_goals
                    go_wp2_with fail
                    go_roundg (m - (j + 1))
                    case measure => have := HKp.out; omega
                    case rel =>
                      refine ⟨j + 1, g, cap', _, by omega, rfl, by go_num, Lib.hid ?_, Lib.hid ?_, Lib.hid hfin.out.1, Lib.hid ((HEl.out.trans (Ext.of rb4 ((Below.refl _ _).drew.trans HE2.out))).trans hfin.out.2)⟩
                      · rw [HOD.out, List.take_add_one, HX.out, Option.toList_some, List.flatMap_append, List.append_assoc, List.flatMap_cons, List.flatMap_nil, List.append_nil]
                      · rw [List.length_append, Lib.leBytes_length, HLD.out]; omega
                · obtain rfl : j = m := by omega
                  have hod : OD = OA ++ headOf pl sz := by
                    rw [HOD.out, HOC.out, HOB.out, List.take_of_length_le (by have := HPN.out; omega)]
                    unfold headOf
                    rw [HPN.out]
                    simp only [List.append_assoc]
                  have hld : OD.length = OA.length + (4 + 2 * j) := by have := HLD.out; have := HLC.out; have := HLB.out; omega
                  have HODD := Lib.hid hod
                  have HLDD := Lib.hid hld
                  have hcD := HMl.out.c0
                  have hfD := HMl.out.fz 0
                  clear hod hld
                  go_wp2_with (at_builtin; refine wpList_append_zeros rfl _ _ 30 3 rfl Tryz.underlying30 Tryz.underlying3 infoByte' HMl.out sz (by omega) rfl rfl (by omega) ?_; intro g cap' w4 HO4 HG4 HR4 hlt4; have hc4 := HMl.out.grown_cell HG4.out; have hfin := Lib.hid (HMl.out.appended (X := List.replicate sz 0) (n := sz) List.length_replicate HG4.out HR4.out HO4.out))
                  obtain ⟨hm5, he5⟩ := hfin.out
                  generalize w4.setCell _ _ = w5 at *
                  clear hc4 hlt4 HO4 HG4 HR4 hfin hcD hfD
                  have HEE := Lib.hid (HEl.out.trans he5)
                  have hroom := hm5.room
                  obtain ⟨OE, hOE⟩ : ∃ OE, OE = OD ++ List.replicate sz (0 : UInt8) := ⟨_, rfl⟩
                  have hle : OE.length = OD.length + sz := by rw [hOE, List.length_append, List.length_replicate]
                  rw [← hOE] at hm5 hroom
                  have HOE := Lib.hid hOE
                  have HLE := Lib.hid hle
                  have HM5 := Lib.hid hm5
                  have hcE := hm5.c0
                  have hfE := hm5.fz 0
                  have hofs : (OD.length : Int) < (cap' : Int) := by omega
                  have hofs2 : (OD.length : Int) ≤ (OE.length : Int) := by omega
                  have hofs3 : (OD.length : Int) < (OE.length : Int) := by omega
                  have hleI : (OE.length : Int) ≤ 1073000000 := by have := HLDD.out; omega
                  have hwo1 : IntKind.i64.wrap ((OD.length : Int) - (OA.length : Int)) = (OD.length : Int) - (OA.length : Int) := by rw [IntKind.wrap_i64]; have := HLDD.out; omega
                  have hwo2 : IntKind.u64.wrap ((OD.length : Int) - (OA.length : Int)) = (OD.length : Int) - (OA.length : Int) := by rw [IntKind.wrap_u64]; have := HLDD.out; omega
                  have hcne : ¬ cap' = OD.length := by omega
                  have hroomI : (OE.length : Int) ≤ (cap' : Int) := by omega
                  clear hOE hle hm5 he5 hroom
                  go_upto_region 32 with fail
                  have HMD := Lib.hid HM5.out.drew
                  go_cut [] from 138 to 149 (fun wx => Hid (Mk K wx mb g cap' (put OE OD.length (Lib.leBytes 4 (4 + 2 * j))) bs) ∧ Hid (Ext mb w1 rb1 wx g))
                  case first =>
                    go_region_law (first
                      | (rw [if_pos (by rfl)]; go_simp; go_at_call 21; refine (little_int (4 + 2 * j) 4 _ _ (by omega) (by omega) (by have := HLDD.out; omega) (by rfl) _).mono ?_; rintro e w2 ⟨vo, vc, rfl, HL2, HB2⟩; have HM2 := Lib.hid (HMD.out.below HB2); have HE2 := Lib.hid HB2; have HW2 := Lib.hid HL2; have hc2 := HM2.out.c0; clear HL2; dsimp only)
                      | (refine step_copy_mk rfl _ _ 30 30 rfl Tryz.underlying30 infoByteS HM2.out (Lib.leBytes 4 (4 + 2 * j)) 4 OD.length (OE.length - OD.length) (cap' - OD.length) _ _ rfl rfl (Lib.leBytes_length _ _) (by omega) HW2.out (by have := HLE.out; omega) (by have := HLE.out; omega) ?_; intro w4 hmc hec hsc; have HMC4 := Lib.hid hmc; have HEC4 := Lib.hid hec; clear hmc hec))
                    all_goals
                      go_wp2_with fail
                      go_meet
                      case rel => exact ⟨HMC4, Lib.hid ((HEE.out.trans (Ext.of g ((Below.refl _ _).drew.trans HE2.out))).trans HEC4.out)⟩
                  case rest =>
                    obtain ⟨HM6, HE6⟩ := hcut
                    obtain ⟨C0, hC0⟩ : ∃ C0, C0 = put OE OD.length (Lib.leBytes 4 (4 + 2 * j)) := ⟨_, rfl⟩
                    rw [← hC0] at HM6
                    have hfit0 : OD.length + (Lib.leBytes 4 (4 + 2 * j)).length ≤ OE.length := by rw [Lib.leBytes_length]; have := HLE.out; omega
                    have hC0l : C0.length = OE.length := by rw [hC0]; exact put_length hfit0
                    have hlaid : Laid O C0 OD.length sl 0 0 := by
                      refine Laid.start ?_ ?_ ?_ ?_
                      · rw [hC0, put_take (by have := HLDD.out; have := HLA.out; omega) (by omega), HOE.out, HODD.out, HOA.out]
                        simp only [List.append_assoc]
                        exact List.take_left
                      · rw [hC0l, HLE.out, ← HSZ.out]; exact Nat.le_refl _
                      · rw [← HPL.out, HPN.out]; have := HLDD.out; have := HLA.out; omega
                      · have ht := header_tab OA pl sz (by omega) HHS.out.1 (by rw [HPN.out]; exact HHS.out.2.1) HHS.out.2.2
                        rw [HPN.out, ← HLDD.out, ← HODD.out, ← HOE.out] at ht
                        rw [hC0, ← HPL.out]
                        exact ht
                    have HC0l := Lib.hid hC0l
                    have HLAID := Lib.hid hlaid
                    clear hC0 hfit0 hC0l hlaid hcE hfE hofs hofs2 hofs3 hwo1 hwo2 hcne
                    have hpl : ∀ (i : Nat) (s : Sl), sl[i]? = some s → pl[s.idx]? = some (plAt (patOf sl) s.idx) := by
                      intro i s hs
                      have hm : (s.idx, s.wid) ∈ patOf sl := List.mem_map.2 ⟨s, List.mem_of_getElem? hs, rfl⟩
                      have hlt : s.idx < pl.length := by rw [HPN.out, HMO.out]; exact most_lt hm
                      rw [List.getElem?_eq_getElem hlt]
                      unfold plAt
                      rw [← HPL.out, List.getD_eq_getElem?_getD, List.getElem?_eq_getElem hlt]
                      rfl
                    have HPLA := Lib.hid hpl
                    clear hpl
                    go_wp2_with fail
                    go_loopg [152] k (fun gk i wr => ∃ (t : Nat) (C : By), t ≤ k ∧ gk = k - t ∧ i = .int .i64 (t : Nat) ∧ Hid (C.length = OE.length) ∧ Hid (Laid O C OD.length sl t 0) ∧ Hid (Mk K wr mb g cap' C bs) ∧ Hid (Ext mb w1 rb1 wr g))
                    case atStart => exact ⟨0, C0, by omega, rfl, rfl, HC0l, HLAID, HM6, HE6⟩
                    case round =>
                      obtain ⟨t, C, ht, hgk, rfl, HCL, HLD, HMn, HEn⟩ := hrel
                      have HKn := Lib.hid hgk
                      clear hgk
                      by_cases htk : t < k
                      · have hti : (t : Int) < (k : Int) := by omega
                        obtain ⟨s, hs⟩ : ∃ s, sl[t]? = some s := ⟨sl[t]'(by have := HN.out; omega), List.getElem?_eq_getElem _⟩
                        have HSn := HS.out.ext (HE1.out.trans HEn.out)
                        obtain ⟨hp, hsb, hs1, hs2⟩ := HSn.p (by have := HN.out; omega)
                        obtain ⟨a0, a1, a2, a3⟩ := HSn.at hs
                        have hplx := HPLA.out t s hs
                        have hok1 := okPat_at hok hs
                        have hus := hu t s hs
                        have hxc0 := HI1.out s.idx _ hplx
                        rw [← (HEn.out.blk hp1 (Ne.symm hmn) hpr1).1] at hxc0
                        have hst := fun a b c => store_slot Tryz.prog wr a b c s 265
                        subst hp
                        go_upto_region 36 with fail
                        have hb0 : ∀ j v, s.cells[j]? = some v → (wr.alloc (.cells #[.int .i64 (s.idx : Nat), .int .i64 (s.wid : Nat), .int .u64 (s.u : Nat), s.fv] 265)).cell? ⟨wr.heap.size, j, none⟩ = some v := fun j v hj => (World.cell?_alloc_at _ _ _ _ rfl).trans (by
                          match j, hj with
                          | 0, hj => exact hj
                          | 1, hj => exact hj
                          | 2, hj => exact hj
                          | 3, hj => exact hj
                          | j + 4, hj => simp [Sl.cells] at hj)
                        have hpwr2 : pb < wr.heap.size := Nat.lt_of_lt_of_le hp1 HEn.out.size
                        have HMy := Lib.hid (HMn.out.alloc (.cells #[.int .i64 (s.idx : Nat), .int .i64 (s.wid : Nat), .int .u64 (s.u : Nat), s.fv] 265))
                        have HEy := Lib.hid (HEn.out.alloc (.cells #[.int .i64 (s.idx : Nat), .int .i64 (s.wid : Nat), .int .u64 (s.u : Nat), s.fv] 265))
                        have hxc : (wr.alloc (.cells #[.int .i64 (s.idx : Nat), .int .i64 (s.wid : Nat), .int .u64 (s.u : Nat), s.fv] 265)).cell? ⟨pb, s.idx, none⟩ = some (.int .i64 (plAt (patOf sl) s.idx : Nat)) := (World.cell?_of_block (Below.heap_alloc wr _ pb hpwr2)).trans hxc0
                        have htby : wr.heap.size < (wr.alloc (.cells #[.int .i64 (s.idx : Nat), .int .i64 (s.wid : Nat), .int .u64 (s.u : Nat), s.fv] 265)).heap.size := by simp
                        have htm : wr.heap.size ≠ mb := by have := HMn.out.mlt; omega
                        have htr : wr.heap.size ≠ g := by have := HMn.out.row.2; omega
                        obtain ⟨tb, htb⟩ : ∃ tb, tb = wr.heap.size := ⟨_, rfl⟩
                        rw [← htb] at hb0 htby htm htr ⊢
                        generalize wr.alloc (.cells #[.int .i64 (s.idx : Nat), .int .i64 (s.wid : Nat), .int .u64 (s.u : Nat), s.fv] 265) = Y at *
                        have b0 := hb0 0 _ rfl
                        have b1 := hb0 1 _ rfl
                        have b2 := hb0 2 _ rfl
                        have b3 := hb0 3 _ rfl
                        obtain ⟨x, hx⟩ : ∃ x, x = plAt (patOf sl) s.idx := ⟨_, rfl⟩
                        rw [← hx] at hxc hok1
                        have HXX := Lib.hid hx
                        have HSS := Lib.hid hs
                        have HUS := Lib.hid hus
                        have HOK1 := Lib.hid hok1
                        clear a0 a1 a2 a3 hst htb hb0 hplx hxc0 hx hs hus HSn hpwr2 hok1
                        rcases fv_cases s with ⟨hrn, hfv⟩ | ⟨F, cp, hrs, hfv⟩
                        · rw [hfv] at b3
                          have HRN := Lib.hid hrn
                          clear hrn hfv
                          have hc5 := HMy.out.c0
                          have hroom := HMy.out.room
                          obtain ⟨q, hq⟩ : ∃ q, q = OD.length + x := ⟨_, rfl⟩
                          have hszx := HOK1.out
                          rw [← HSZ.out] at hszx
                          have hqle : q + s.wid ≤ C.length := by rw [HCL.out, HLE.out]; omega
                          have hwid8 : s.wid ≤ 8 := by omega
                          have hwid0 : 0 < s.wid := by omega
                          have hclI : (C.length : Int) ≤ 1073000000 := by have := HCL.out; omega
                          have hwa : IntKind.i64.wrap ((OD.length : Int) + (x : Int)) = (q : Int) := by rw [IntKind.wrap_i64]; omega
                          have hqc : ¬ cap' = q := by omega
                          have hq1 : (q : Int) ≤ (C.length : Int) := by omega
                          have hq2 : (q : Int) < (cap' : Int) := by omega
                          have hq3 : (C.length : Int) ≤ (cap' : Int) := by omega
                          have hil : (s.idx : Int) < (j : Int) := by
                            have hm : (s.idx, s.wid) ∈ patOf sl := List.mem_map.2 ⟨s, List.mem_of_getElem? HSS.out, rfl⟩
                            have := most_lt hm
                            have := HMO.out
                            omega
                          have hi0 : (0 : Int) ≤ (s.idx : Int) := by omega
                          have hu64 : s.u < 18446744073709551616 := by
                            have h1 := HUS.out
                            have h2 : 256 ^ s.wid ≤ 256 ^ 8 := Nat.pow_le_pow_right (by decide) hwid8
                            have h3 : (256 : Nat) ^ 8 = 18446744073709551616 := by decide
                            omega
                          have HQ := Lib.hid hq
                          clear hq hszx hroom
                          have hnil := eql_nil Y
                          go_upto_region 37 with fail
                          clear hnil
                          have HMD := Lib.hid HMy.out.drew
                          have hS0 : Y.drew.cell? ⟨mb, 0, none⟩ = some (.slice (some ⟨g, 0, none⟩) C.length cap') ∧ Y.drew.cell? ⟨tb, 0, none⟩ = some (.int .i64 (s.idx : Nat)) ∧ Y.drew.cell? ⟨tb, 1, none⟩ = some (.int .i64 (s.wid : Nat)) ∧ Y.drew.cell? ⟨tb, 2, none⟩ = some (.int .u64 (s.u : Nat)) ∧ Y.drew.cell? ⟨pb, s.idx, none⟩ = some (.int .i64 (x : Nat)) := ⟨hc5, b0, b1, b2, hxc⟩
                          have HS0 := Lib.hid hS0
                          refine headBegin (S := fun w' => w'.cell? ⟨mb, 0, none⟩ = some (.slice (some ⟨g, 0, none⟩) C.length cap') ∧ w'.cell? ⟨tb, 0, none⟩ = some (.int .i64 (s.idx : Nat)) ∧ w'.cell? ⟨tb, 1, none⟩ = some (.int .i64 (s.wid : Nat)) ∧ w'.cell? ⟨tb, 2, none⟩ = some (.int .u64 (s.u : Nat)) ∧ w'.cell? ⟨pb, s.idx, none⟩ = some (.int .i64 (x : Nat))) 18 (by kernel_rfl) hS0 (fun hHeld => ?_)
                          clear hS0 hc5 b0 b1 b2 b3 hxc
                          refine headTake (i := 0) (v := ?_) rfl (by kernel_rfl) (by kernel_rfl) (by kernel_rfl) (by kernel_rfl) (fun _ _ _ h => h) (Or.inl ⟨by rfl, ?_⟩) hHeld ?_
                          rotate_left 1
                          · intro w hSw
                            go_split_ands
                            go_simp
                            try with_reducible rfl
                          simp only [List.getElem_toArray, List.getElem_cons_zero, List.getElem_cons_succ, Act.put, List.setIfInBounds_toArray, List.set_cons_zero, List.set_cons_succ]
                          refine headTake (i := 1) (v := ?_) rfl (by kernel_rfl) (by kernel_rfl) (by kernel_rfl) (by kernel_rfl) (fun _ _ _ h => h) (Or.inl ⟨by rfl, ?_⟩) hHeld ?_
                          rotate_left 1
                          · intro w hSw
                            go_split_ands
                            go_simp
                            try with_reducible rfl
                          simp only [List.getElem_toArray, List.getElem_cons_zero, List.getElem_cons_succ, Act.put, List.setIfInBounds_toArray, List.set_cons_zero, List.set_cons_succ]
                          refine headTake (i := 2) (v := ?_) rfl (by kernel_rfl) (by kernel_rfl) (by kernel_rfl) (by kernel_rfl) (fun _ _ _ h => h) (Or.inl ⟨by rfl, ?_⟩) hHeld ?_
                          rotate_left 1
                          · intro w hSw
                            go_split_ands
                            go_simp
                            try with_reducible rfl
                          simp only [List.getElem_toArray, List.getElem_cons_zero, List.getElem_cons_succ, Act.put, List.setIfInBounds_toArray, List.set_cons_zero, List.set_cons_succ]
                          refine headTake (i := 3) (v := ?_) rfl (by kernel_rfl) (by kernel_rfl) (by kernel_rfl) (by kernel_rfl) (fun _ _ _ h => h) (Or.inl ⟨by rfl, ?_⟩) hHeld ?_
                          rotate_left 1
                          · intro w hSw
                            go_split_ands
                            go_simp
                            try with_reducible rfl
                          simp only [List.getElem_toArray, List.getElem_cons_zero, List.getElem_cons_succ, Act.put, List.setIfInBounds_toArray, List.set_cons_zero, List.set_cons_succ]
                          refine headTake (i := 4) (v := ?_) rfl (by kernel_rfl) (by kernel_rfl) (by kernel_rfl) (by kernel_rfl) (fun _ _ _ h => h) (Or.inl ⟨by rfl, ?_⟩) hHeld ?_
                          rotate_left 1
                          · intro w hSw
                            go_split_ands
                            go_simp
                            try with_reducible rfl
                          simp only [List.getElem_toArray, List.getElem_cons_zero, List.getElem_cons_succ, Act.put, List.setIfInBounds_toArray, List.set_cons_zero, List.set_cons_succ]
                          refine headTake (i := 5) (v := ?_) rfl (by kernel_rfl) (by kernel_rfl) (by kernel_rfl) (by kernel_rfl) (fun _ _ _ h => h) (Or.inl ⟨by rfl, ?_⟩) hHeld ?_
                          rotate_left 1
                          · intro w hSw
                            go_split_ands
                            go_simp
                            try with_reducible rfl
                          simp only [List.getElem_toArray, List.getElem_cons_zero, List.getElem_cons_succ, Act.put, List.setIfInBounds_toArray, List.set_cons_zero, List.set_cons_succ]
                          refine headTake (i := 6) (v := ?_) rfl (by kernel_rfl) (by kernel_rfl) (by kernel_rfl) (by kernel_rfl) (fun _ _ _ h => h) (Or.inl ⟨by rfl, ?_⟩) hHeld ?_
                          rotate_left 1
                          · intro w hSw
                            go_split_ands
                            go_simp
                            try with_reducible rfl
                          simp only [List.getElem_toArray, List.getElem_cons_zero, List.getElem_cons_succ, Act.put, List.setIfInBounds_toArray, List.set_cons_zero, List.set_cons_succ]
                          refine headTake (i := 7) (v := ?_) rfl (by kernel_rfl) (by kernel_rfl) (by kernel_rfl) (by kernel_rfl) (fun _ _ _ h => h) (Or.inl ⟨by rfl, ?_⟩) hHeld ?_
                          rotate_left 1
                          · intro w hSw
                            go_split_ands
                            go_simp
                            try with_reducible rfl
                          simp only [List.getElem_toArray, List.getElem_cons_zero, List.getElem_cons_succ, Act.put, List.setIfInBounds_toArray, List.set_cons_zero, List.set_cons_succ]
                          refine headTake (i := 8) (v := ?_) rfl (by kernel_rfl) (by kernel_rfl) (by kernel_rfl) (by kernel_rfl) (fun _ _ _ h => h) (Or.inl ⟨by rfl, ?_⟩) hHeld ?_
                          rotate_left 1
                          · intro w hSw
                            go_split_ands
                            go_simp
                            try with_reducible rfl
                          simp only [List.getElem_toArray, List.getElem_cons_zero, List.getElem_cons_succ, Act.put, List.setIfInBounds_toArray, List.set_cons_zero, List.set_cons_succ]
                          refine headTake (i := 9) (v := ?_) rfl (by kernel_rfl) (by kernel_rfl) (by kernel_rfl) (by kernel_rfl) (fun _ _ _ h => h) (Or.inl ⟨by rfl, ?_⟩) hHeld ?_
                          rotate_left 1
                          · intro w hSw
                            go_split_ands
                            go_simp
                            try with_reducible rfl
                          simp only [List.getElem_toArray, List.getElem_cons_zero, List.getElem_cons_succ, Act.put, List.setIfInBounds_toArray, List.set_cons_zero, List.set_cons_succ]
                          refine headTake (i := 10) (v := ?_) rfl (by kernel_rfl) (by kernel_rfl) (by kernel_rfl) (by kernel_rfl) (fun _ _ _ h => h) (Or.inl ⟨by rfl, ?_⟩) hHeld ?_
                          rotate_left 1
                          · intro w hSw
                            go_split_ands
                            go_simp
                            try with_reducible rfl
                          simp only [List.getElem_toArray, List.getElem_cons_zero, List.getElem_cons_succ, Act.put, List.setIfInBounds_toArray, List.set_cons_zero, List.set_cons_succ]
                          refine headTake (i := 11) (v := ?_) rfl (by kernel_rfl) (by kernel_rfl) (by kernel_rfl) (by kernel_rfl) (fun _ _ _ h => h) (Or.inl ⟨by rfl, ?_⟩) hHeld ?_
                          rotate_left 1
                          · intro w hSw
                            go_split_ands
                            go_simp
                            try with_reducible rfl
                          simp only [List.getElem_toArray, List.getElem_cons_zero, List.getElem_cons_succ, Act.put, List.setIfInBounds_toArray, List.set_cons_zero, List.set_cons_succ]
                          refine headTake (i := 12) (v := ?_) rfl (by kernel_rfl) (by kernel_rfl) (by kernel_rfl) (by kernel_rfl) (fun _ _ _ h => h) (Or.inl ⟨by rfl, ?_⟩) hHeld ?_
                          rotate_left 1
                          · intro w hSw
                            go_split_ands
                            go_simp
                            try with_reducible rfl
                          simp only [List.getElem_toArray, List.getElem_cons_zero, List.getElem_cons_succ, Act.put, List.setIfInBounds_toArray, List.set_cons_zero, List.set_cons_succ]
                          refine headTake (i := 13) (v := ?_) rfl (by kernel_rfl) (by kernel_rfl) (by kernel_rfl) (by kernel_rfl) (fun _ _ _ h => h) (Or.inl ⟨by rfl, ?_⟩) hHeld ?_
                          rotate_left 1
                          · intro w hSw
                            go_split_ands
                            go_simp
                            try with_reducible rfl
                          simp only [List.getElem_toArray, List.getElem_cons_zero, List.getElem_cons_succ, Act.put, List.setIfInBounds_toArray, List.set_cons_zero, List.set_cons_succ]
                          refine headTake (i := 14) (v := ?_) rfl (by kernel_rfl) (by kernel_rfl) (by kernel_rfl) (by kernel_rfl) (fun _ _ _ h => h) (Or.inl ⟨by rfl, ?_⟩) hHeld ?_
                          rotate_left 1
                          · intro w hSw
                            go_split_ands
                            go_simp
                            try with_reducible rfl
                          simp only [List.getElem_toArray, List.getElem_cons_zero, List.getElem_cons_succ, Act.put, List.setIfInBounds_toArray, List.set_cons_zero, List.set_cons_succ]
                          refine headTake (i := 15) (v := ?_) rfl (by kernel_rfl) (by kernel_rfl) (by kernel_rfl) (by kernel_rfl) (fun _ _ _ h => h) (Or.inl ⟨by rfl, ?_⟩) hHeld ?_
                          rotate_left 1
                          · intro w hSw
                            go_split_ands
                            go_simp
                            try with_reducible rfl
                          simp only [List.getElem_toArray, List.getElem_cons_zero, List.getElem_cons_succ, Act.put, List.setIfInBounds_toArray, List.set_cons_zero, List.set_cons_succ]
                          refine headStep (i := 16) rfl (by kernel_rfl) (fun K hK => ?_)
                          go_simp
                          go_at_call 21
                          refine (little_int s.u s.wid _ _ hwid8 hu64 rfl rfl _).mono ?_
                          rintro e w2 ⟨vo, vc, rfl, HL2, HB2⟩
                          have HM2 := Lib.hid (HMD.out.below HB2)
                          have HE2 := Lib.hid HB2
                          have HW2 := Lib.hid HL2
                          have kb2 := HB2.block
                          have hSw : w2.cell? ⟨mb, 0, none⟩ = some (.slice (some ⟨g, 0, none⟩) C.length cap') ∧ w2.cell? ⟨tb, 0, none⟩ = some (.int .i64 (s.idx : Nat)) ∧ w2.cell? ⟨tb, 1, none⟩ = some (.int .i64 (s.wid : Nat)) ∧ w2.cell? ⟨tb, 2, none⟩ = some (.int .u64 (s.u : Nat)) ∧ w2.cell? ⟨pb, s.idx, none⟩ = some (.int .i64 (x : Nat)) := by
                            obtain ⟨i0, i1, i2, i3, i4⟩ := HS0.out
                            have hpY : pb < Y.drew.heap.size := Nat.lt_of_lt_of_le hp1 HEy.out.size
                            exact ⟨HM2.out.c0, (World.cell?_of_block (kb2 tb htby)).trans i1, (World.cell?_of_block (kb2 tb htby)).trans i2, (World.cell?_of_block (kb2 tb htby)).trans i3, (World.cell?_of_block (kb2 pb hpY)).trans i4⟩
                          have HSW := Lib.hid hSw
                          clear HL2 kb2 hSw HB2
                          refine hK.out _ _ ⟨fun _ => HSW.out, fun hS => ?_⟩
                          clear hS hK K
                          refine headStep (i := 17) rfl (by kernel_rfl) (fun K hK => ?_)
                          refine step_copy_mk rfl _ _ 30 30 rfl Tryz.underlying30 infoByteS HM2.out (Lib.leBytes s.wid s.u) s.wid q (C.length - q) (cap' - q) _ _ rfl rfl (Lib.leBytes_length _ _) hwid0 HW2.out hqle (by omega) ?_
                          intro w4 hmc hec hsc
                          have HMC4 := Lib.hid hmc
                          have HEC4 := Lib.hid hec
                          have hSw : w4.cell? ⟨mb, 0, none⟩ = some (.slice (some ⟨g, 0, none⟩) C.length cap') ∧ w4.cell? ⟨tb, 0, none⟩ = some (.int .i64 (s.idx : Nat)) ∧ w4.cell? ⟨tb, 1, none⟩ = some (.int .i64 (s.wid : Nat)) ∧ w4.cell? ⟨tb, 2, none⟩ = some (.int .u64 (s.u : Nat)) ∧ w4.cell? ⟨pb, s.idx, none⟩ = some (.int .i64 (x : Nat)) := by
                            obtain ⟨i0, i1, i2, i3, i4⟩ := HSW.out
                            have hpY : pb < w2.heap.size := Nat.lt_of_lt_of_le (Nat.lt_of_lt_of_le hp1 HEy.out.size) HE2.out.size
                            have htY : tb < w2.heap.size := Nat.lt_of_lt_of_le htby HE2.out.size
                            have hgp : pb ≠ g := by rcases HEy.out.row with e | e <;> omega
                            have hl := put_length (B := C) (p := q) (bs := Lib.leBytes s.wid s.u) (by rw [Lib.leBytes_length]; exact hqle)
                            have hc := hmc.c0
                            rw [hl] at hc
                            exact ⟨hc, ((hec.blk htY htm htr).1 0).trans i1, ((hec.blk htY htm htr).1 1).trans i2, ((hec.blk htY htm htr).1 2).trans i3, ((hec.blk hpY (Ne.symm hmn) hgp).1 s.idx).trans i4⟩
                          have HSW4 := Lib.hid hSw
                          clear hmc hec hSw
                          refine hK.out _ _ ⟨fun _ => HSW4.out, fun hS => ?_⟩
                          clear hS hK K
                          refine headDone (by kernel_rfl) ?_ _
                          go_wp2_with fail
                          go_roundg (k - (t + 1))
                          case measure => have := HKn.out; omega
                          case rel =>
                            refine ⟨t + 1, _, by omega, rfl, by go_num, Lib.hid ?_, Lib.hid ?_, HMC4, Lib.hid ((HEy.out.trans (Ext.of g ((Below.refl _ _).drew.trans HE2.out))).trans HEC4.out)⟩
                            · rw [put_length (by rw [Lib.leBytes_length]; exact hqle)]; exact HCL.out
                            · have h := HLD.out.putNum hok HSS.out HUS.out
                              rw [← HXX.out, ← HQ.out] at h
                              exact h
                        · rw [hfv] at b3
                          have hnil := eql_fn F cp Y
                          go_wp2_with fail
                          go_roundg (k - (t + 1))
                          case measure => have := HKn.out; omega
                          case rel => exact ⟨t + 1, C, by omega, rfl, by go_num, HCL, Lib.hid (HLD.out.noNum HSS.out (by rw [hrs]; simp)), HMy, HEy⟩
                      · obtain rfl : t = k := by omega
                        go_wp2_with fail
                        go_loopg [180] t (fun gk i wr => ∃ (v rb5 cap5 : Nat) (C : By), v ≤ t ∧ gk = t - v ∧ i = .int .i64 (v : Nat) ∧ Hid (C.length ≤ OE.length + ((sl.take v).map Sl.bd).sum) ∧ Hid (OE.length ≤ C.length) ∧ Hid (Laid O C OD.length sl t v) ∧ Hid (Mk K wr mb rb5 cap5 C bs) ∧ Hid (Ext mb w1 rb1 wr rb5))
                        case atStart => exact ⟨0, g, cap', C, by omega, rfl, rfl, Lib.hid (by rw [HCL.out]; simp), Lib.hid (Nat.le_of_eq HCL.out.symm), HLD, HMn, HEn⟩
                        case round =>
                          clear HCL HLD HMn HEn
                          obtain ⟨v, rb5, cap5, C, hv, hgk, rfl, HCL, HCG, HLD, HMn, HEn⟩ := hrel
                          have HKn := Lib.hid hgk
                          clear hgk
                          by_cases hvt : v < t
                          · have hvi : (v : Int) < (t : Int) := by omega
                            obtain ⟨s, hs⟩ : ∃ s, sl[v]? = some s := ⟨sl[v]'(by have := HN.out; omega), List.getElem?_eq_getElem _⟩
                            have HSn := HS.out.ext (HE1.out.trans HEn.out)
                            obtain ⟨hp, hsb, hs1, hs2⟩ := HSn.p (by have := HN.out; omega)
                            obtain ⟨a0, a1, a2, a3⟩ := HSn.at hs
                            have hplx := HPLA.out v s hs
                            have hok1 := okPat_at hok hs
                            have hus := hu v s hs
                            have hxc0 := HI1.out s.idx _ hplx
                            rw [← (HEn.out.blk hp1 (Ne.symm hmn) hpr1).1] at hxc0
                            have hst := fun a b c => store_slot Tryz.prog wr a b c s 265
                            subst hp
                            go_upto_region 42 with fail
                            have hb0 : ∀ j v, s.cells[j]? = some v → (wr.alloc (.cells #[.int .i64 (s.idx : Nat), .int .i64 (s.wid : Nat), .int .u64 (s.u : Nat), s.fv] 265)).cell? ⟨wr.heap.size, j, none⟩ = some v := fun j v hj => (World.cell?_alloc_at _ _ _ _ rfl).trans (by
                              match j, hj with
                              | 0, hj => exact hj
                              | 1, hj => exact hj
                              | 2, hj => exact hj
                              | 3, hj => exact hj
                              | j + 4, hj => simp [Sl.cells] at hj)
                            have hpwr2 : pb < wr.heap.size := Nat.lt_of_lt_of_le hp1 HEn.out.size
                            have HMy := Lib.hid (HMn.out.alloc (.cells #[.int .i64 (s.idx : Nat), .int .i64 (s.wid : Nat), .int .u64 (s.u : Nat), s.fv] 265))
                            have HEy := Lib.hid (HEn.out.alloc (.cells #[.int .i64 (s.idx : Nat), .int .i64 (s.wid : Nat), .int .u64 (s.u : Nat), s.fv] 265))
                            have hxc : (wr.alloc (.cells #[.int .i64 (s.idx : Nat), .int .i64 (s.wid : Nat), .int .u64 (s.u : Nat), s.fv] 265)).cell? ⟨pb, s.idx, none⟩ = some (.int .i64 (plAt (patOf sl) s.idx : Nat)) := (World.cell?_of_block (Below.heap_alloc wr _ pb hpwr2)).trans hxc0
                            have htby : wr.heap.size < (wr.alloc (.cells #[.int .i64 (s.idx : Nat), .int .i64 (s.wid : Nat), .int .u64 (s.u : Nat), s.fv] 265)).heap.size := by simp
                            have htm : wr.heap.size ≠ mb := by have := HMn.out.mlt; omega
                            have htr : wr.heap.size ≠ rb5 := by have := HMn.out.row.2; omega
                            have hpY : pb < (wr.alloc (.cells #[.int .i64 (s.idx : Nat), .int .i64 (s.wid : Nat), .int .u64 (s.u : Nat), s.fv] 265)).heap.size := by simp; omega
                            have hpr5 : pb ≠ rb5 := by rcases HEn.out.row with e | e <;> omega
                            obtain ⟨tb, htb⟩ : ∃ tb, tb = wr.heap.size := ⟨_, rfl⟩
                            rw [← htb] at hb0 htby htm htr ⊢
                            generalize wr.alloc (.cells #[.int .i64 (s.idx : Nat), .int .i64 (s.wid : Nat), .int .u64 (s.u : Nat), s.fv] 265) = Y at *
                            have b0 := hb0 0 _ rfl
                            have b3 := hb0 3 _ rfl
                            obtain ⟨x, hx⟩ : ∃ x, x = plAt (patOf sl) s.idx := ⟨_, rfl⟩
                            rw [← hx] at hxc hok1
                            have HXX := Lib.hid hx
                            have HSS := Lib.hid hs
                            have HUS := Lib.hid hus
                            have HOK1 := Lib.hid hok1
                            clear a0 a1 a2 a3 hst htb hb0 hplx hxc0 hx hs hus HSn hpwr2 hok1
                            rcases fv_cases s with ⟨hrn, hfv⟩ | ⟨F, cp, hrs, hfv⟩
                            · rw [hfv] at b3
                              have hnil := neq_nil Y
                              go_wp2_with fail
                              go_roundg (t - (v + 1))
                              case measure => have := HKn.out; omega
                              case rel =>
                                refine ⟨v + 1, rb5, cap5, C, by omega, rfl, by go_num, Lib.hid ?_, HCG, Lib.hid (HLD.out.noRef HSS.out hrn), HMy, HEy⟩
                                have := HCL.out
                                have := sum_take_succ sl HSS.out
                                omega
                            · rw [hfv] at b3
                              have HRX := Lib.hid (HR.out v s F cp HSS.out hrs)
                              have hRX := HRX.out.e
                              have HRS := Lib.hid hrs
                              have hw4s := hw4 v s HSS.out (by rw [hrs]; simp)
                              clear hrs hfv
                              obtain ⟨q, hq⟩ : ∃ q, q = OD.length + x := ⟨_, rfl⟩
                              have hszx := HOK1.out
                              rw [← HSZ.out] at hszx
                              have hqle : q + 4 ≤ OE.length := by rw [HLE.out]; omega
                              have hsum := sum_take_succ sl HSS.out
                              have hsuml := sum_take_le sl (v + 1)
                              have hcb : C.length + s.bd ≤ 1073000000 := by
                                have := HCL.out
                                have := HLE.out
                                have := HLDD.out
                                have := HLA.out
                                omega
                              have hqI : (q : Int) ≤ 1073000000 := by omega
                              have hwa : IntKind.i64.wrap ((OD.length : Int) + (x : Int)) = (q : Int) := by rw [IntKind.wrap_i64]; omega
                              have hil : (s.idx : Int) < (j : Int) := by
                                have hm : (s.idx, s.wid) ∈ patOf sl := List.mem_map.2 ⟨s, List.mem_of_getElem? HSS.out, rfl⟩
                                have := most_lt hm
                                have := HMO.out
                                omega
                              have hi0 : (0 : Int) ≤ (s.idx : Int) := by omega
                              have HQ := Lib.hid hq
                              have HQL := Lib.hid hqle
                              have HCB := Lib.hid hcb
                              have HSUM := Lib.hid hsum
                              clear hq hszx hqle hsum hsuml hcb
                              have hnil := neq_fn F cp Y
                              go_upto_region 43 with fail
                              clear hnil
                              have HMD := Lib.hid HMy.out.drew
                              have HED := Lib.hid (HEy.out.then (Below.refl Y.heap.size Y).drew)
                              have hS0 : Y.drew.cell? ⟨tb, 0, none⟩ = some (.int .i64 (s.idx : Nat)) ∧ Y.drew.cell? ⟨tb, 3, none⟩ = some (.func (.func F) #[] cp) ∧ Y.drew.cell? ⟨pb, s.idx, none⟩ = some (.int .i64 (x : Nat)) := ⟨b0, b3, hxc⟩
                              have HS0 := Lib.hid hS0
                              refine headBegin (S := fun w' => w'.cell? ⟨tb, 0, none⟩ = some (.int .i64 (s.idx : Nat)) ∧ w'.cell? ⟨tb, 3, none⟩ = some (.func (.func F) #[] cp) ∧ w'.cell? ⟨pb, s.idx, none⟩ = some (.int .i64 (x : Nat))) 13 (by kernel_rfl) hS0 (fun hHeld => ?_)
                              clear hS0 b0 b3 hxc
                              refine headTake (i := 0) (v := ?_) rfl (by kernel_rfl) (by kernel_rfl) (by kernel_rfl) (by kernel_rfl) (fun _ _ _ h => h) (Or.inl ⟨by rfl, ?_⟩) hHeld ?_
                              rotate_left 1
                              · intro w hSw
                                go_split_ands
                                go_simp
                                try with_reducible rfl
                              simp only [List.getElem_toArray, List.getElem_cons_zero, List.getElem_cons_succ, Act.put, List.setIfInBounds_toArray, List.set_cons_zero, List.set_cons_succ]
                              refine headTake (i := 1) (v := ?_) rfl (by kernel_rfl) (by kernel_rfl) (by kernel_rfl) (by kernel_rfl) (fun _ _ _ h => h) (Or.inl ⟨by rfl, ?_⟩) hHeld ?_
                              rotate_left 1
                              · intro w hSw
                                go_split_ands
                                go_simp
                                try with_reducible rfl
                              simp only [List.getElem_toArray, List.getElem_cons_zero, List.getElem_cons_succ, Act.put, List.setIfInBounds_toArray, List.set_cons_zero, List.set_cons_succ]
                              refine headTake (i := 2) (v := ?_) rfl (by kernel_rfl) (by kernel_rfl) (by kernel_rfl) (by kernel_rfl) (fun _ _ _ h => h) (Or.inl ⟨by rfl, ?_⟩) hHeld ?_
                              rotate_left 1
                              · intro w hSw
                                go_split_ands
                                go_simp
                                try with_reducible rfl
                              simp only [List.getElem_toArray, List.getElem_cons_zero, List.getElem_cons_succ, Act.put, List.setIfInBounds_toArray, List.set_cons_zero, List.set_cons_succ]
                              refine headTake (i := 3) (v := ?_) rfl (by kernel_rfl) (by kernel_rfl) (by kernel_rfl) (by kernel_rfl) (fun _ _ _ h => h) (Or.inl ⟨by rfl, ?_⟩) hHeld ?_
                              rotate_left 1
                              · intro w hSw
                                go_split_ands
                                go_simp
                                try with_reducible rfl
                              simp only [List.getElem_toArray, List.getElem_cons_zero, List.getElem_cons_succ, Act.put, List.setIfInBounds_toArray, List.set_cons_zero, List.set_cons_succ]
                              refine headTake (i := 4) (v := ?_) rfl (by kernel_rfl) (by kernel_rfl) (by kernel_rfl) (by kernel_rfl) (fun _ _ _ h => h) (Or.inl ⟨by rfl, ?_⟩) hHeld ?_
                              rotate_left 1
                              · intro w hSw
                                go_split_ands
                                go_simp
                                try with_reducible rfl
                              simp only [List.getElem_toArray, List.getElem_cons_zero, List.getElem_cons_succ, Act.put, List.setIfInBounds_toArray, List.set_cons_zero, List.set_cons_succ]
                              refine headTake (i := 5) (v := ?_) rfl (by kernel_rfl) (by kernel_rfl) (by kernel_rfl) (by kernel_rfl) (fun _ _ _ h => h) (Or.inl ⟨by rfl, ?_⟩) hHeld ?_
                              rotate_left 1
                              · intro w hSw
                                go_split_ands
                                go_simp
                                try with_reducible rfl
                              simp only [List.getElem_toArray, List.getElem_cons_zero, List.getElem_cons_succ, Act.put, List.setIfInBounds_toArray, List.set_cons_zero, List.set_cons_succ]
                              refine headTake (i := 6) (v := ?_) rfl (by kernel_rfl) (by kernel_rfl) (by kernel_rfl) (by kernel_rfl) (fun _ _ _ h => h) (Or.inl ⟨by rfl, ?_⟩) hHeld ?_
                              rotate_left 1
                              · intro w hSw
                                go_split_ands
                                go_simp
                                try with_reducible rfl
                              simp only [List.getElem_toArray, List.getElem_cons_zero, List.getElem_cons_succ, Act.put, List.setIfInBounds_toArray, List.set_cons_zero, List.set_cons_succ]
                              refine headTake (i := 7) (v := ?_) rfl (by kernel_rfl) (by kernel_rfl) (by kernel_rfl) (by kernel_rfl) (fun _ _ _ h => h) (Or.inl ⟨by rfl, ?_⟩) hHeld ?_
                              rotate_left 1
                              · intro w hSw
                                go_split_ands
                                go_simp
                                try with_reducible rfl
                              simp only [List.getElem_toArray, List.getElem_cons_zero, List.getElem_cons_succ, Act.put, List.setIfInBounds_toArray, List.set_cons_zero, List.set_cons_succ]
                              refine headTake (i := 8) (v := ?_) rfl (by kernel_rfl) (by kernel_rfl) (by kernel_rfl) (by kernel_rfl) (fun _ _ _ h => h) (Or.inl ⟨by rfl, ?_⟩) hHeld ?_
                              rotate_left 1
                              · intro w hSw
                                go_split_ands
                                go_simp
                                try with_reducible rfl
                              simp only [List.getElem_toArray, List.getElem_cons_zero, List.getElem_cons_succ, Act.put, List.setIfInBounds_toArray, List.set_cons_zero, List.set_cons_succ]
                              refine headTake (i := 9) (v := ?_) rfl (by kernel_rfl) (by kernel_rfl) (by kernel_rfl) (by kernel_rfl) (fun _ _ _ h => h) (Or.inl ⟨by rfl, ?_⟩) hHeld ?_
                              rotate_left 1
                              · intro w hSw
                                go_split_ands
                                go_simp
                                try with_reducible rfl
                              simp only [List.getElem_toArray, List.getElem_cons_zero, List.getElem_cons_succ, Act.put, List.setIfInBounds_toArray, List.set_cons_zero, List.set_cons_succ]
                              refine headStep (i := 10) rfl (by kernel_rfl) (fun K hK => ?_)
                              go_simp
                              refine ((HRX.out.ext (HE1.out.trans HED.out)).c Y.drew rb5 cap5 C (Ext.refl _ _ _) HMD.out HCB.out).mono ?_
                              rintro e w2 ⟨X, rbn, capn, qv, rfl, hmk, hex, hxl, hq1, hq2, hRB⟩
                              have HM2 := Lib.hid hmk
                              have HE2 := Lib.hid hex
                              have HRB := Lib.hid hRB
                              have HXL := Lib.hid hxl
                              have HQ1 := Lib.hid hq1
                              have HQ2 := Lib.hid hq2
                              have hSw : w2.cell? ⟨tb, 0, none⟩ = some (.int .i64 (s.idx : Nat)) ∧ w2.cell? ⟨tb, 3, none⟩ = some (.func (.func F) #[] cp) ∧ w2.cell? ⟨pb, s.idx, none⟩ = some (.int .i64 (x : Nat)) := by
                                obtain ⟨i0, i1, i2⟩ := HS0.out
                                exact ⟨((hex.blk htby htm htr).1 0).trans i0, ((hex.blk htby htm htr).1 3).trans i1, ((hex.blk hpY (Ne.symm hmn) hpr5).1 s.idx).trans i2⟩
                              have HSW := Lib.hid hSw
                              clear hmk hex hRB hxl hq1 hq2 hSw hRX
                              refine hK.out _ _ ⟨fun _ => HSW.out, fun hS => ?_⟩
                              have hHeld := hS (by decide)
                              clear hS hK K
                              refine headTake (i := 11) (v := ?_) rfl (by kernel_rfl) (by kernel_rfl) (by kernel_rfl) (by kernel_rfl) (fun _ _ _ h => h) (Or.inl ⟨by rfl, ?_⟩) hHeld ?_
                              rotate_left 1
                              · intro w hSw
                                go_split_ands
                                go_simp
                                try with_reducible rfl
                              simp only [List.getElem_toArray, List.getElem_cons_zero, List.getElem_cons_succ, Act.put, List.setIfInBounds_toArray, List.set_cons_zero, List.set_cons_succ]
                              refine headTake (i := 12) (v := ?_) rfl (by kernel_rfl) (by kernel_rfl) (by kernel_rfl) (by kernel_rfl) (fun _ _ _ h => h) (Or.inl ⟨by rfl, ?_⟩) hHeld ?_
                              rotate_left 1
                              · intro w hSw
                                go_split_ands
                                go_simp
                                try with_reducible rfl
                              simp only [List.getElem_toArray, List.getElem_cons_zero, List.getElem_cons_succ, Act.put, List.setIfInBounds_toArray, List.set_cons_zero, List.set_cons_succ]
                              refine headDone (by kernel_rfl) ?_ _
                              clear hHeld
                              obtain ⟨C2, hC2⟩ : ∃ C2, C2 = C ++ X := ⟨_, rfl⟩
                              rw [← hC2] at HM2
                              have hl2 : C2.length = C.length + X.length := by rw [hC2, List.length_append]
                              have HC2 := Lib.hid hC2
                              have HL2 := Lib.hid hl2
                              have hc2 := HM2.out.c0
                              have hf2 := HM2.out.fz 0
                              have hroom := HM2.out.room
                              have hqq : q < qv := by have := HQL.out; have := HCG.out; have := HQ1.out; omega
                              have hqv : qv < 1073000000 := by have := HQ2.out; have := HXL.out; have := HCB.out; omega
                              have hsub : ((qv : Int) - (q : Int)) = ((qv - q : Nat) : Int) := by omega
                              have hwo1 : IntKind.i64.wrap ((qv : Int) - (q : Int)) = (qv : Int) - (q : Int) := by rw [IntKind.wrap_i64]; omega
                              have hwo2 : IntKind.u64.wrap ((qv : Int) - (q : Int)) = (qv : Int) - (q : Int) := by rw [IntKind.wrap_u64]; omega
                              have hqc : ¬ capn = q := by have := HQL.out; have := HCG.out; omega
                              have hqle2 : q + 4 ≤ C2.length := by have := HQL.out; have := HCG.out; omega
                              have hclI : (C2.length : Int) ≤ 1073000000 := by have := HXL.out; have := HCB.out; omega
                              have hq1 : (q : Int) ≤ (C2.length : Int) := by omega
                              have hq2 : (q : Int) < (capn : Int) := by omega
                              have hq3 : (C2.length : Int) ≤ (capn : Int) := by omega
                              have HQQ := Lib.hid hqq
                              have HQV := Lib.hid hqv
                              have HSUB := Lib.hid hsub
                              have HQE := Lib.hid hqle2
                              clear hC2 hl2 hroom hqq hqv hsub hqle2
                              go_upto_region 44 with fail
                              have HMD2 := Lib.hid HM2.out.drew
                              go_region_law (first
                                | (rw [if_pos (by rfl)]; go_simp; go_at_call 21; refine (little_int (qv - q) 4 _ _ (by decide) (by have := HQV.out; omega) HSUB.out (by rfl) _).mono ?_; rintro e w3 ⟨vo, vc, rfl, HLL, HBB⟩; have HM3 := Lib.hid (HMD2.out.below HBB); have HE3 := Lib.hid HBB; have HW3 := Lib.hid HLL; have hc3 := HM3.out.c0; clear HLL; dsimp only)
                                | (refine step_copy_mk rfl _ _ 30 30 rfl Tryz.underlying30 infoByteS HM3.out (Lib.leBytes 4 (qv - q)) 4 q (C2.length - q) (capn - q) _ _ rfl rfl (Lib.leBytes_length _ _) (by decide) HW3.out HQE.out (by have := HQE.out; omega) ?_; intro w4 hmc hec hsc; have HMC4 := Lib.hid hmc; have HEC4 := Lib.hid hec; clear hmc hec))
                              all_goals
                                go_wp2_with fail
                                go_roundg (t - (v + 1))
                                case measure => have := HKn.out; omega
                                case rel =>
                                  have hpl : (put C2 q (Lib.leBytes 4 (qv - q))).length = C2.length := put_length (by rw [Lib.leBytes_length]; exact HQE.out)
                                  refine ⟨v + 1, rbn, capn, _, by omega, rfl, by go_num, Lib.hid ?_, Lib.hid ?_, Lib.hid ?_, HMC4, Lib.hid (((HED.out.trans HE2.out).trans (Ext.of rbn ((Below.refl _ _).drew.trans HE3.out))).trans HEC4.out)⟩
                                  · have := HCL.out
                                    have := HSUM.out
                                    have := HXL.out
                                    have := HL2.out
                                    omega
                                  · have := HCG.out
                                    have := HL2.out
                                    omega
                                  · have h := HLD.out.putRef (X := X) hok (Nat.le_of_eq HN.out.symm) HSS.out (by rw [HRS.out]; simp) hw4 HQ1.out (by have := HQ2.out; omega) (by have := HQV.out; omega) HRB.out
                                    rw [← HXX.out, ← HQ.out, ← HC2.out] at h
                                    exact h
                          · obtain rfl : v = t := by omega
                            go_wp2_with fail
                            go_ret
                            have hlen := HLD.out.len
                            rw [← HSZ.out] at hlen
                            have hCO : O ++ C.drop O.length = C := by
                              have := List.take_append_drop O.length C
                              rw [HLD.out.pre] at this
                              exact this
                            have hCl : (C.drop O.length).length = C.length - O.length := List.length_drop
                            have hbig : C.length ≤ O.length + (70000 + bdS) := by
                              have := HCL.out
                              have := sum_take_le sl v
                              have := HLE.out
                              have := HLDD.out
                              have := HLA.out
                              omega
                            have hOl : O.length ≤ OD.length := HLD.out.lt
                            refine ⟨C.drop O.length, rb5, cap5, OD.length, rfl, HMn.out.cast hCO.symm, HE1.out.trans HEn.out, by omega, hOl, by omega, fun B hB => ?_⟩
                            rw [hCO] at hB
                            have hld := HLD.out
                            rw [HN.out] at hld
                            exact hld.done (fun s hs => by obtain ⟨i, hi⟩ := List.mem_iff_getElem?.1 hs; exact (okPat_at hok hi).2.2) (fun s hs hr => by obtain ⟨i, hi⟩ := List.mem_iff_getElem?.1 hs; exact hw4 i s hi hr) hB

end Go.Proofs.YtcbcdgifakcooaaGreatDoor
