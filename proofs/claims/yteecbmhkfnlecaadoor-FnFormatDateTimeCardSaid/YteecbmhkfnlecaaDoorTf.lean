/-
  ast.Time.Format: what it writes. Conditions: the table of the library's powers of ten lies.
-/
import Derived.Test.YteecbmhkfnlecaaDoorTd
import Derived.Test.YteecbmhkfnlecaaDoorShelf
import Derived.Lib.Hide
import Derived.Lib.LaidTab
import Derived.Lib.ItoaNum
import Derived.Deep.LoopGhost
import Derived.Deep.CutRange
import Derived.IntWalk
namespace Go.Proofs.YteecbmhkfnlecaaDoor
open Go.RowKit Go.Lib Go.Sort
set_option linter.unusedVariables false
set_option linter.unusedSimpArgs false

abbrev PowTab (W : World) : Prop := Lib.TabIs Tryd.prog W "internal/strconv.uint64pow10" .u64 Lib.pow10Tab
theorem powTab_below {W W' : World} (h : PowTab W) (hb : Below W.heap.size W W') : PowTab W' := tabBelow_of_tabIs h W' hb

/-- Two digits as a text. -/
def tw (n : Nat) : ByteArray := ⟨(d2 n).toArray⟩
theorem tw_data (n : Nat) : (tw n).data.toList = d2 n := rfl
theorem tw_size (n : Nat) : (tw n).size = 2 := rfl

theorem grow_below (w : World) (k : Nat) (os : Array Obj) : Below w.heap.size w (grow (w.drewN k) os) := by
  refine ⟨rfl, rfl, rfl, by simp [grow], fun g hg => Lib.heap_grow_old w k os g hg⟩

set_option maxRecDepth 100000 in
theorem asttwo_any (n : Nat) (hn : n < 100) (w : World) :
    Calls Tryd.prog 68 #[.int .i64 n] w fun e w' => e = .returned (.string (tw n)) ∧ w' = w := by
  have HF := Lib.hid (Tryd.strconv_FormatInt_10_small n hn w)
  have hlen : (⟨(Lib.decDigits n).toArray⟩ : ByteArray).size ≤ 2 := by
    by_cases h : n < 10
    · rw [Lib.decDigits_one h]; exact Nat.le_succ 1
    · rw [dec_d2 n (by omega) hn]; exact Nat.le_refl 2
  have HD := Lib.hid (fun h : n < 10 => dec_d1 n h)
  have HD2 := Lib.hid (fun h : 10 ≤ n => dec_d2 n h hn)
  obtain ⟨S, hS⟩ : ∃ S : ByteArray, S = ⟨(Lib.decDigits n).toArray⟩ := ⟨_, rfl⟩
  rw [← hS] at HF hlen
  have HS := Lib.hid hS
  clear hS
  by_cases h : n < 10
  · have hz : (n : Int) < 10 := by omega
    go_enter Tryd.func68, Tryd.ntmps68
    go_wp2_with fail
    refine HF.out.mono ?_
    rintro e w1 ⟨rfl, rfl⟩
    go_wp2_with fail
    have e : (⟨#[48]⟩ : ByteArray) ++ S = tw n := by
      rw [HS.out]
      apply ByteArray.ext
      apply Array.toList_inj.1
      rw [ByteArray.data_append, Array.toList_append]
      exact HD.out h
    rw [e]
    go_ret
    exact ⟨rfl, rfl⟩
  · have hz : ¬ (n : Int) < 10 := by omega
    go_enter Tryd.func68, Tryd.ntmps68
    go_wp2_with fail
    refine HF.out.mono ?_
    rintro e w1 ⟨rfl, rfl⟩
    go_wp2_with fail
    have e : S = tw n := by
      rw [HS.out, HD2.out (by omega)]
      rfl
    rw [e]
    go_ret
    exact ⟨rfl, rfl⟩

/-- A moment's text up to the seconds. -/
def headL (y m d h mi se : Nat) : List UInt8 := d4 y ++ 45 :: d2 m ++ 45 :: d2 d ++ 84 :: d2 h ++ 58 :: d2 mi ++ 58 :: d2 se

theorem itoa_nano (ns : Nat) (h : ns ≤ 999999999) : Lib.itoa (1000000000 + (ns : Int)) = 49 :: (frac.digs 9 ns).map ch := by
  unfold Lib.itoa
  rw [if_neg (by omega), show (1000000000 + (ns : Int)).toNat = 1000000000 + ns by omega]
  exact dec_nano ns (by omega)

/-- The parts of a second, as they are written. -/
def FracOk (fd : List Nat) (ns : Nat) : Prop := (∀ d ∈ fd, d < 10) ∧ fd.length ≤ 9 ∧ frac.fsum fd 100000000 = ns ∧ fd = cutZ (frac.digs 9 ns)

def zoneOf (off : Int) : Option (Bool × Nat × Nat) := if off = 0 then none else some (decide (off < 0), off.natAbs / 3600, off.natAbs / 60 % 60)

/-- A day's count as Go cuts it, and what is left. -/
theorem day_parts (sm : Int) (z sod : Nat) (h : sm = ((z : Int) - 719468) * 86400 + sod) (hs : sod < 86400) : ∃ q r : Int, sm.tdiv 86400 = q ∧ sm - q * 86400 = r ∧ (if r < 0 then q = (z : Int) - 719468 + 1 ∧ r = (sod : Int) - 86400 else q = (z : Int) - 719468 ∧ r = sod) := by
  by_cases h0 : 0 ≤ sm
  · refine ⟨sm / 86400, sm - sm / 86400 * 86400, Int.tdiv_eq_ediv_of_nonneg h0, rfl, ?_⟩
    rw [if_neg (by omega)]
    omega
  · have h1 : sm.tdiv 86400 = -((-sm) / 86400) := by
      have := Int.neg_tdiv (-sm) 86400
      rw [Int.neg_neg, Int.tdiv_eq_ediv_of_nonneg (by omega : 0 ≤ -sm)] at this
      exact this
    refine ⟨-((-sm) / 86400), sm - -((-sm) / 86400) * 86400, h1, rfl, ?_⟩
    split <;> omega

/-- The calendar as Format counts it. -/
theorem civ_walk (z : Nat) (hz2 : z ≤ 800000) : ∃ era doe yoe y0 doy mp dd : Nat, (z : Int) / 146097 = era ∧ (z : Int) - (era : Int) * 146097 = doe ∧ ((doe : Int) - (doe : Int) / 1460 + (doe : Int) / 36524 - (doe : Int) / 146096) / 365 = yoe ∧
    (yoe : Int) + (era : Int) * 400 = y0 ∧ (doe : Int) - (365 * (yoe : Int) + (yoe : Int) / 4 - (yoe : Int) / 100) = doy ∧ (5 * (doy : Int) + 2) / 153 = mp ∧ (doy : Int) - (153 * (mp : Int) + 2) / 5 + 1 = dd ∧
    era ≤ 6 ∧ doe < 146097 ∧ yoe ≤ 399 ∧ y0 ≤ 3000 ∧ doy ≤ 365 ∧ mp ≤ 11 ∧ dd = civil.civD z ∧ (if (12 : Int) < (mp : Int) + 3 then civil.civY z = y0 + 1 ∧ civil.civM z + 12 = mp + 3 else civil.civY z = y0 ∧ civil.civM z = mp + 3) := by
  obtain ⟨h1, h2, h3⟩ := civil.yoe_parts (z % 146097) (Nat.mod_lt _ (by decide))
  have h4 := civil.doy_parts _ h3
  have hm : civil.mpOf z ≤ 11 := h4.1
  refine ⟨z / 146097, z % 146097, civil.yoeOf (z % 146097), z / 146097 * 400 + civil.yoeOf (z % 146097), civil.doyOf (z % 146097), civil.mpOf z, civil.civD z, by omega, by omega, ?_, by omega, ?_, ?_, ?_, by omega, by omega, h1, by omega, h3, hm, rfl, ?_⟩
  · unfold civil.yoeOf; omega
  · unfold civil.doyOf; omega
  · unfold civil.mpOf; omega
  · have h5 := h4.2.1
    unfold civil.civD
    unfold civil.mpOf at *
    omega
  · unfold civil.civY civil.civM
    split
    · rw [if_pos (by omega), if_pos (by omega)]; omega
    · rw [if_neg (by omega), if_neg (by omega)]; omega

/-- What is written of a moment. -/
def momL (z sod ns : Nat) (off : Int) : List UInt8 := timeL (civil.civY z) (civil.civM z) (civil.civD z) (sod / 3600) (sod / 60 % 60) (sod % 60) (cutZ (frac.digs 9 ns)) (zoneOf off)

set_option maxRecDepth 100000 in
set_option maxHeartbeats 2000000 in
theorem timeFormat_any (sec off : Int) (z sod ns : Nat) (w : World) (hP : PowTab w) (hsum : sec + off = ((z : Int) - 719468) * 86400 + sod) (hsod : sod < 86400) (hz1 : 628000 ≤ z) (hz2 : z ≤ 800000) (hns : ns ≤ 999999999)
    (hoff : off % 60 = 0) (ho1 : -50400 ≤ off) (ho2 : off ≤ 50400) :
    Calls Tryd.prog 55 #[.agg #[.int .i64 sec, .int .i64 ns, .int .i64 off]] w fun e w' => e = .returned (.string ⟨(momL z sod ns off).toArray⟩) ∧ FracOk (cutZ (frac.digs 9 ns)) ns ∧ Below w.heap.size w w' := by
  have HP := Lib.hid hP
  clear hP
  have hB0 := (Below.refl w.heap.size w).alloc (Nat.le_refl _) (.cells #[.int .i64 sec, .int .i64 ns, .int .i64 off] 73)
  have HB0 := Lib.hid hB0
  clear hB0
  obtain ⟨sm, hsm⟩ : ∃ sm, sec + off = sm := ⟨_, rfl⟩
  have hsmb : -10000000000 ≤ sm ∧ sm ≤ 10000000000 := by omega
  obtain ⟨q, r, hq, hr, hqr⟩ := day_parts sm z sod (by omega) hsod
  have hqb : -200000 ≤ q ∧ q ≤ 200000 := by split at hqr <;> omega
  have hrb : -86400 ≤ r ∧ r ≤ 86400 := by split at hqr <;> omega
  have HQR := Lib.hid hqr
  clear hsum hqr
  go_enter Tryd.func55, Tryd.ntmps55
  go_upto_if 31 with fail
  go_cut [3, 4] from 31 to 35 (fun s d wx => s = .int .i64 sod ∧ d = .int .i64 ((z : Int) - 719468) ∧ wx = w.alloc (.cells #[.int .i64 sec, .int .i64 ns, .int .i64 off] 73))
  case first =>
    go_wp2_with fail
    all_goals go_meet
    · have h := HQR.out
      rw [if_pos (by assumption)] at h
      exact ⟨congrArg (Value.int .i64) (by omega), congrArg (Value.int .i64) (by omega), rfl⟩
    · have h := HQR.out
      rw [if_neg (by omega)] at h
      exact ⟨congrArg (Value.int .i64) h.2, congrArg (Value.int .i64) h.1, rfl⟩
  case rest =>
  obtain ⟨rfl, rfl, rfl⟩ := hcut
  clear HQR hqb hrb hq hr
  have n1 : (z : Int) - 719468 + 719468 = (z : Int) := by omega
  obtain ⟨era, doe, yoe, y0, doy, mp, dd, e1, e2, e3, e4, e5, e6, e7, b1, b2, b3, b4, b5, b6, hdd, hym⟩ := civ_walk z hz2
  have HYM := Lib.hid hym
  have HDD := Lib.hid hdd
  have hz0 : ¬ (z : Int) < 0 := by omega
  have hddb : dd ≤ 40 := by omega
  clear hym hdd
  go_upto_if 88 with fail
  go_cut [9, 13] from 88 to 92 (fun y m wx => y = .int .i64 (civil.civY z : Nat) ∧ m = .int .i64 (civil.civM z : Nat) ∧ wx = w.alloc (.cells #[.int .i64 sec, .int .i64 ns, .int .i64 off] 73))
  case first =>
    clear e1 e2 e3 e4 e5 e6 e7
    go_wp2_with fail
    all_goals go_meet
    · have h := HYM.out
      rw [if_pos (by assumption)] at h
      exact ⟨congrArg (Value.int .i64) (by omega), congrArg (Value.int .i64) (by omega), rfl⟩
    · have h := HYM.out
      rw [if_neg (by omega)] at h
      exact ⟨congrArg (Value.int .i64) (by omega), congrArg (Value.int .i64) (by omega), rfl⟩
  case rest =>
  obtain ⟨rfl, rfl, rfl⟩ := hcut
  clear HYM e1 e2 e3 e4 e5 e6 e7 b1 b2 b3 b4 b5 b6
  have hy := civil.civ_year z (by omega) (by omega)
  have hr := civil.civ_range z
  have hdr : dd = civil.civD z := HDD.out
  rw [← hdr] at hr
  clear hdr
  obtain ⟨Y, hY⟩ : ∃ Y, civil.civY z = Y := ⟨_, rfl⟩
  obtain ⟨M, hM⟩ : ∃ M, civil.civM z = M := ⟨_, rfl⟩
  rw [hY] at hy ⊢
  rw [hM] at hr ⊢
  have HYe := Lib.hid hY
  have HMe := Lib.hid hM
  clear hY hM
  -- the year
  have HFY := Lib.hid (Tryd.strconv_FormatInt_10 (Y : Int) (by omega) (by omega) _ (powTab_below HP.out HB0.out))
  obtain ⟨SY, hSY⟩ : ∃ S : ByteArray, S = ⟨(Lib.itoa (Y : Int)).toArray⟩ := ⟨_, rfl⟩
  rw [← hSY] at HFY
  have hSYd : SY.data.toList = d4 Y := by
    rw [hSY]
    show Lib.itoa (Y : Int) = d4 Y
    unfold Lib.itoa
    rw [if_neg (by omega), show (Y : Int).toNat = Y by omega]
    exact dec_d4 Y (by omega) (by omega)
  have hSYz : SY.size = 4 := by rw [bsize, hSYd]; rfl
  have HSY := Lib.hid hSYd
  clear hSY hSYd
  have T1 := Lib.hid (asttwo_any M (by omega))
  have T2 := Lib.hid (asttwo_any dd (by omega))
  have T3 := Lib.hid (by have h := asttwo_any (sod / 3600) (by omega); push_cast at h; exact h)
  have T4 := Lib.hid (by have h := asttwo_any (sod / 60 % 60) (by omega); push_cast at h; exact h)
  have T5 := Lib.hid (by have h := asttwo_any (sod % 60) (by omega); push_cast at h; exact h)
  obtain ⟨W1, hW1⟩ : ∃ W1, w.alloc (.cells #[.int .i64 sec, .int .i64 ns, .int .i64 off] 73) = W1 := ⟨_, rfl⟩
  have c0 : W1.cell? ⟨w.heap.size, 0, none⟩ = some (.int .i64 sec) := by rw [← hW1]; simp [go_sem]
  have c1 : W1.cell? ⟨w.heap.size, 1, none⟩ = some (.int .i64 ns) := by rw [← hW1]; simp [go_sem]
  have c2 : W1.cell? ⟨w.heap.size, 2, none⟩ = some (.int .i64 off) := by rw [← hW1]; simp [go_sem]
  have wz : w.heap.size < W1.heap.size := by rw [← hW1]; simp
  rw [hW1] at HFY HB0 ⊢
  clear hW1
  go_wp2_with fail
  refine HFY.out.mono ?_
  rintro e w2 ⟨rfl, k, os, hw2⟩
  have hb2 : Below W1.heap.size W1 w2 := by rw [hw2]; exact grow_below W1 k os
  have HB2 := Lib.hid (HB0.out.trans (hb2.mono HB0.out.size))
  obtain ⟨kk, -⟩ := oblk hb2 wz
  have d1 := (kk 1).trans c1
  have d2' := (kk 2).trans c2
  have wz2 : w.heap.size < w2.heap.size := Nat.lt_of_lt_of_le wz hb2.size
  clear hw2 hb2 kk c0 c1 c2 HFY
  have hSY4 : ¬ (SY.size : Int) < 4 := by omega
  go_wp2_with fail
  go_loopg [14] 1 (fun _ v wr => v = .string SY ∧ wr = w2)
  case atStart => exact ⟨rfl, rfl⟩
  case round =>
    obtain ⟨rfl, rfl⟩ := hrel
    go_wp2_with fail
    have t1 := tw_size M
    have t2 := tw_size dd
    have t3 := tw_size (sod / 3600)
    have t4 := tw_size (sod / 60 % 60)
    have t5 := tw_size (sod % 60)
    refine (T1.out _).mono ?_
    rintro e w3 ⟨rfl, rfl⟩
    go_wp2_with fail
    refine (T2.out _).mono ?_
    rintro e w4 ⟨rfl, rfl⟩
    go_wp2_with fail
    refine (T3.out _).mono ?_
    rintro e w5 ⟨rfl, rfl⟩
    go_wp2_with fail
    refine (T4.out _).mono ?_
    rintro e w6 ⟨rfl, rfl⟩
    go_wp2_with fail
    refine (T5.out _).mono ?_
    rintro e w7 ⟨rfl, rfl⟩
    go_upto_if 127 with fail
    obtain ⟨O, hO⟩ : ∃ O : ByteArray, O = SY ++ ⟨#[45]⟩ ++ tw M ++ ⟨#[45]⟩ ++ tw dd ++ ⟨#[84]⟩ ++ tw (sod / 3600) ++ ⟨#[58]⟩ ++ tw (sod / 60 % 60) ++ ⟨#[58]⟩ ++ tw (sod % 60) := ⟨_, rfl⟩
    have hOd : O.data.toList = headL Y M dd (sod / 3600) (sod / 60 % 60) (sod % 60) := by
      rw [hO]
      simp only [ByteArray.data_append, Array.toList_append, HSY.out, tw_data]
      simp [headL]
    have hOz : O.size = 19 := by rw [bsize, hOd]; simp [headL, d4, d2]
    rw [← hO]
    have HO := Lib.hid hOd
    clear hO hOd T1 T2 T3 T4 T5 t1 t2 t3 t4 t5
    go_cut [15, 16, 17] from 127 to 147 (fun o f n wx => ∃ (S : ByteArray) (fd : List Nat), o = .string S ∧ S.data.toList = headL Y M dd (sod / 3600) (sod / 60 % 60) (sod % 60) ++ fracL fd ∧ FracOk fd ns ∧ S.size ≤ 40 ∧ Below w.heap.size w wx ∧ wx.cell? ⟨w.heap.size, 2, none⟩ = some (.int .i64 off))
    case first =>
      by_cases hn0 : ns = 0
      · subst hn0
        have hnz : ¬ (0 : Int) < ((0 : Nat) : Int) := by omega
        go_wp2_with fail
        go_meet
        case rel => exact ⟨O, [], rfl, by rw [HO.out]; simp [fracL], ⟨fun d h => (by cases h), by simp, rfl, by decide⟩, by omega, HB2.out, d2'⟩
      · have hnz : (0 : Int) < (ns : Int) := by omega
        have HFN := Lib.hid (Tryd.strconv_FormatInt_10 (1000000000 + (ns : Int)) (by omega) (by omega) w7 (powTab_below HP.out HB2.out))
        obtain ⟨SN, hSN⟩ : ∃ S : ByteArray, S = ⟨(Lib.itoa (1000000000 + (ns : Int))).toArray⟩ := ⟨_, rfl⟩
        rw [← hSN] at HFN
        have hSNd : SN.data.toList = 49 :: (frac.digs 9 ns).map ch := by rw [hSN]; exact itoa_nano ns hns
        have hSNz : SN.size = 10 := by rw [bsize, hSNd]; simp [frac.digs_length]
        obtain ⟨F, hF, hFd⟩ : ∃ F, SN.extract 1 10 = F ∧ F.data.toList = (frac.digs 9 ns).map ch := ⟨_, rfl, by rw [bdata, hSNd, List.take_of_length_le (by simp [frac.digs_length])]; rfl⟩
        have hFz : F.size = 9 := by rw [bsize, hFd]; simp [frac.digs_length]
        have HFD := Lib.hid hFd
        have hsl : (1 : Int) ≤ (SN.size : Int) := by omega
        have HN0 := Lib.hid hn0
        clear hSN hSNd hFd hn0
        go_wp2_with fail
        refine HFN.out.mono ?_
        rintro e w3 ⟨rfl, k, os, hw3⟩
        have hb3 : Below w7.heap.size w7 w3 := by rw [hw3]; exact grow_below w7 k os
        have HB3 := Lib.hid (HB2.out.trans (hb3.mono HB2.out.size))
        have d3 := ((oblk hb3 wz2).1 2).trans d2'
        clear hw3 hb3 HFN
        go_wp2_with fail
        go_loopg [17] 9 (fun gk v wr2 => ∃ j : Nat, j ≤ 8 ∧ gk = j + 1 ∧ v = .int .i64 ((j : Int) + 1) ∧ wr2 = w3 ∧ Hid ((frac.digs 9 ns).drop (j + 1) = List.replicate (9 - (j + 1)) 0))
        case atStart => exact ⟨8, by omega, rfl, rfl, rfl, Lib.hid (by rw [List.drop_of_length_le (by rw [frac.digs_length]; omega)]; rfl)⟩
        case round =>
          obtain ⟨j, hj, hgk, rfl, rfl, HZ⟩ := hrel
          have HK := Lib.hid hgk
          clear hgk
          obtain ⟨d, hd⟩ : ∃ d, (frac.digs 9 ns)[j]? = some d := ⟨_, List.getElem?_eq_getElem (by rw [frac.digs_length]; omega)⟩
          have hd10 : d < 10 := frac.digs_lt 9 ns d (List.mem_of_getElem? hd)
          obtain ⟨gj, ej⟩ := byteIs (show F.data.toList[j]? = some (ch d) by rw [HFD.out, List.getElem?_map, hd]; rfl)
          rw [ch_nat hd10] at ej
          have zj : (j : Int) < (F.size : Int) := by omega
          have HDJ := Lib.hid hd
          clear hd
          by_cases hd0 : d = 0
          · subst hd0
            have hj1 : 1 ≤ j := by
              rcases Nat.lt_or_ge j 1 with h | h
              · exfalso
                obtain rfl : j = 0 := by omega
                have h1 := HZ.out
                have h2 := HDJ.out
                have hall : frac.digs 9 ns = List.replicate 9 0 := by
                  have e1 : frac.digs 9 ns = 0 :: (frac.digs 9 ns).drop 1 := by
                    cases hdg : frac.digs 9 ns with
                    | nil => rw [hdg] at h2; simp at h2
                    | cons a r => rw [hdg] at h2; simp at h2; subst h2; rfl
                  rw [e1, h1]; rfl
                have h3 := frac.fsum_digs 8 ns
                rw [hall, frac.fsum_zero] at h3
                exact HN0.out (by omega)
              · exact h
            have hz2 : (frac.digs 9 ns).drop j = List.replicate (9 - j) 0 := by
              have h2 := HDJ.out
              rw [List.drop_eq_getElem?_toList_append, h2, HZ.out]
              rw [show 9 - j = (9 - (j + 1)) + 1 by omega]
              rfl
            obtain ⟨i, rfl⟩ : ∃ i, j = i + 1 := ⟨j - 1, by omega⟩
            have HZ2 := Lib.hid hz2
            clear hz2
            go_wp2_with fail
            go_roundg (i + 1)
            case measure => rw [HK.out]; omega
            case rel => exact ⟨i, by omega, rfl, by push_cast; rfl, rfl, HZ2⟩
          · have hdz : ((48 + (d : Int)) == 48) = false := by simp; omega
            have HD0 := Lib.hid hd0
            clear hd0
            go_wp2_with fail
            go_meet
            case rel =>
              have hdat : (O ++ (⟨#[46]⟩ ++ F.extract 0 (j + 1))).data.toList = headL Y M dd (sod / 3600) (sod / 60 % 60) (sod % 60) ++ fracL ((frac.digs 9 ns).take (j + 1)) := by
                rw [ByteArray.data_append, Array.toList_append, ByteArray.data_append, Array.toList_append, HO.out, bdata, HFD.out]
                have hne : (frac.digs 9 ns).take (j + 1) ≠ [] := by
                  intro e
                  have := congrArg List.length e
                  rw [List.length_take, frac.digs_length] at this
                  simp at this
                rw [fracL, if_neg hne]
                simp [List.map_take]
              refine ⟨_, (frac.digs 9 ns).take (j + 1), rfl, hdat, ⟨fun d h => frac.digs_lt 9 ns d (List.mem_of_mem_take h), by rw [List.length_take]; omega, frac.fsum_cut ns (j + 1) (by omega) HZ.out, cut_take _ j d _ HDJ.out HD0.out HZ.out⟩, ?_, HB3.out, d3⟩
              rw [bsize, hdat]
              simp [headL, d4, d2, fracL]
              split
              · simp
              · simp; omega
    case rest =>
      obtain ⟨S, fd, rfl, hSd, hfr, hSz, hB4, c2⟩ := hcut
      have HSD := Lib.hid hSd
      have HB4 := Lib.hid hB4
      have HFR := Lib.hid hfr
      have FIN : Hid (∀ (S2 : ByteArray), S2.data.toList = headL Y M dd (sod / 3600) (sod / 60 % 60) (sod % 60) ++ fracL fd ++ zoneL (zoneOf off) → S2 = ⟨(momL z sod ns off).toArray⟩) := Lib.hid fun S2 h => by
        apply ByteArray.ext
        apply Array.toList_inj.1
        rw [h]
        show _ = momL z sod ns off
        unfold momL
        rw [HYe.out, HMe.out, ← HDD.out, ← HFR.out.2.2.2]
        simp [headL, timeL, clockL]
      have HFC : Hid (FracOk (cutZ (frac.digs 9 ns)) ns) := Lib.hid (by have h := HFR.out; rw [h.2.2.2] at h; exact h)
      clear hSd hB4 hfr
      by_cases h0 : off = 0
      · subst h0
        have h0z : (((0 : Int)) == 0) = true := rfl
        go_wp2_with fail
        go_ret
        refine ⟨congrArg (fun x => Ending.returned (.string x)) (FIN.out _ ?_), HFC.out, HB4.out⟩
        simp only [ByteArray.data_append, Array.toList_append, HSD.out]
        simp [zoneOf, zoneL]
      by_cases hneg : off < 0
      · obtain ⟨k, hk⟩ : ∃ k : Nat, off = -(60 * (k : Int)) := ⟨off.natAbs / 60, by omega⟩
        have hk1 : 1 ≤ k := by omega
        have hk2 : k ≤ 840 := by omega
        have hqo : off.tdiv 60 = -(k : Int) := by
          rw [hk]
          rw [Int.neg_tdiv, Int.mul_tdiv_cancel_left _ (by decide)]
        have hqo2 : True := by trivial
        have hzo : zoneOf off = some (true, k / 60, k % 60) := by
          unfold zoneOf
          rw [if_neg h0, show off.natAbs / 3600 = k / 60 by omega, show off.natAbs / 60 % 60 = k % 60 by omega, decide_eq_true (by omega)]
        rw [hzo] at FIN
        have U1 := Lib.hid (by have h := asttwo_any (k / 60) (by omega); push_cast at h; exact h)
        have U2 := Lib.hid (by have h := asttwo_any (k % 60) (by omega); push_cast at h; exact h)
        have u1 := tw_size (k / 60)
        have u2 := tw_size (k % 60)
        have HK := Lib.hid hk
        have hoz : (off == 0) = false := by simp; exact h0
        have hkneg : -(k : Int) < 0 := by omega
        clear hk hzo h0
        go_wp2_with fail
        refine (U1.out _).mono ?_
        rintro e w8 ⟨rfl, rfl⟩
        go_wp2_with fail
        refine (U2.out _).mono ?_
        rintro e w9 ⟨rfl, rfl⟩
        go_wp2_with fail
        go_ret
        refine ⟨congrArg (fun x => Ending.returned (.string x)) (FIN.out _ ?_), HFC.out, HB4.out⟩
        simp only [ByteArray.data_append, Array.toList_append, HSD.out, tw_data]
        simp [zoneL]
      · obtain ⟨k, hk⟩ : ∃ k : Nat, off = 60 * (k : Int) := ⟨off.natAbs / 60, by omega⟩
        have hk1 : 1 ≤ k := by omega
        have hk2 : k ≤ 840 := by omega
        have hqo : off.tdiv 60 = (k : Int) := by
          rw [hk]
          exact Int.mul_tdiv_cancel_left _ (by decide)
        have hqo2 : off / 60 = (k : Int) := by omega
        have hzo : zoneOf off = some (false, k / 60, k % 60) := by
          unfold zoneOf
          rw [if_neg h0, show off.natAbs / 3600 = k / 60 by omega, show off.natAbs / 60 % 60 = k % 60 by omega, decide_eq_false (by omega)]
        rw [hzo] at FIN
        have U1 := Lib.hid (by have h := asttwo_any (k / 60) (by omega); push_cast at h; exact h)
        have U2 := Lib.hid (by have h := asttwo_any (k % 60) (by omega); push_cast at h; exact h)
        have u1 := tw_size (k / 60)
        have u2 := tw_size (k % 60)
        have HK := Lib.hid hk
        have hoz : (off == 0) = false := by simp; exact h0
        have hkneg : ¬ (k : Int) < 0 := by omega
        clear hk hzo h0
        go_wp2_with fail
        refine (U1.out _).mono ?_
        rintro e w8 ⟨rfl, rfl⟩
        go_wp2_with fail
        refine (U2.out _).mono ?_
        rintro e w9 ⟨rfl, rfl⟩
        go_wp2_with fail
        go_ret
        refine ⟨congrArg (fun x => Ending.returned (.string x)) (FIN.out _ ?_), HFC.out, HB4.out⟩
        simp only [ByteArray.data_append, Array.toList_append, HSD.out, tw_data]
        simp [zoneL]
end Go.Proofs.YteecbmhkfnlecaaDoor
