/-
  spec.timeOf and what it calls, at the text of a moment. No conditions.
-/
import Derived.Test.YteecbmhkfnlecaaDoorRdD
import Derived.Test.YteecbmhkfnlecaaDoorFrac
import Derived.Test.YteecbmhkfnlecaaDoorCivil
import Derived.Lib.Hide
import Derived.Deep.LoopGhost
import Derived.BigQuiet
import Derived.IntWalk
import Derived.Deep.CutRange
namespace Go.Proofs.YteecbmhkfnlecaaDoor
open Go.RowKit
set_option linter.unusedVariables false
set_option linter.unusedSimpArgs false

/-- A digit's byte; two, four of them. -/
def ch (d : Nat) : UInt8 := UInt8.ofNat (48 + d)
theorem ch_nat {d : Nat} (h : d < 10) : (ch d).toNat = 48 + d := by
  unfold ch
  rw [UInt8.toNat_ofNat']
  omega
def d2 (n : Nat) : List UInt8 := [ch (n / 10), ch (n % 10)]
def d4 (n : Nat) : List UInt8 := [ch (n / 1000), ch (n / 100 % 10), ch (n / 10 % 10), ch (n % 10)]

set_option maxRecDepth 100000 in
theorem two_any (s : ByteArray) (i a b : Nat) (w : World) (hs : s.size ≤ 2000000000) (ha : a < 10) (hb : b < 10) (h0 : s.data.toList[i]? = some (ch a)) (h1 : s.data.toList[i + 1]? = some (ch b)) :
    Calls Tryd.prog 108 #[.string s, .int .i64 i] w fun e w' => e = .returned (.tuple #[.int .i64 (10 * a + b : Nat), .bool true]) ∧ Below w.heap.size w w' := by
  obtain ⟨g0, e0⟩ := byteIs h0
  obtain ⟨g1, e1⟩ := byteIs h1
  rw [ch_nat ha] at e0
  rw [ch_nat hb] at e1
  clear h0 h1
  have z0 : (i : Int) < (s.size : Int) := by omega
  have z1 : (i : Int) + 1 < (s.size : Int) := by omega
  have m1 : ¬ ((48 : Int) + a < 48) := by omega
  have m2 : ¬ ((57 : Int) < 48 + a) := by omega
  have m3 : ¬ ((48 : Int) + b < 48) := by omega
  have m4 : ¬ ((57 : Int) < 48 + b) := by omega
  go_enter Tryd.func108, Tryd.ntmps108
  go_wp2_with fail
  go_quiet (fail)
  go_wp2_with fail
  have e : (48 + (a : Int) - 48) * 10 + (48 + (b : Int) - 48) = ((10 * a + b : Nat) : Int) := by push_cast; omega
  rw [e]
  go_ret2
  exact ⟨rfl, below_drew (Below.refl _ _) _⟩

set_option maxRecDepth 100000 in
theorem floor_any (a b : Nat) (w : World) (ha : a ≤ 1000000000000000000) (hb : 0 < b) (hb2 : b ≤ 1000000) :
    Calls Tryd.prog 116 #[.int .i64 a, .int .i64 b] w fun e w' => e = .returned (.int .i64 (a / b : Nat)) ∧ w' = w := by
  go_enter Tryd.func116, Tryd.ntmps116
  go_wp2_with fail
  have e : wrap64 ((a : Int) / (b : Int)) = ((a / b : Nat) : Int) := by
    have h1 : ((a : Int) / (b : Int)) = ((a / b : Nat) : Int) := (Int.natCast_ediv a b).symm
    have h2 := Nat.div_le_self a b
    rw [h1]
    generalize a / b = q at *
    unfold wrap64
    omega
  rw [e]
  go_ret
  exact ⟨rfl, rfl⟩

set_option maxRecDepth 100000 in
theorem days_any (y m d : Nat) (w : World) (hy : 1 ≤ y) (hy2 : y ≤ 3000) (hm : 1 ≤ m) (hm2 : m ≤ 12) (hd : 1 ≤ d) (hd2 : d ≤ 31) :
    Calls Tryd.prog 109 #[.int .i64 y, .int .i64 m, .int .i64 d] w fun e w' => e = .returned (.int .i64 ((civil.dayNo y m d : Int) - 719468)) ∧ w' = w := by
  by_cases h2 : m ≤ 2
  · obtain ⟨Y, rfl⟩ : ∃ Y, y = Y + 1 := ⟨y - 1, by omega⟩
    have hz : (m : Int) ≤ 2 := by omega
    have e1 : ((Y + 1 : Nat) : Int) - 1 = (Y : Int) := by omega
    have F4 := Lib.hid (floor_any Y 4 w (by omega) (by omega) (by omega))
    have F100 := Lib.hid (floor_any Y 100 w (by omega) (by omega) (by omega))
    have F400 := Lib.hid (floor_any Y 400 w (by omega) (by omega) (by omega))
    have b4 : Y / 4 ≤ 3000 := by omega
    have b100 : Y / 100 ≤ 3000 := by omega
    have b400 : Y / 400 ≤ 3000 := by omega
    have D : Hid ((civil.dayNo (Y + 1) m d : Int) = 365 * Y + (Y / 4 : Nat) - (Y / 100 : Nat) + (Y / 400 : Nat) + (153 * ((m : Int) + 12 - 3) + 2) / 5 + d - 1) := Lib.hid (by
      unfold civil.dayNo
      simp only [if_pos h2]
      omega)
    generalize Y / 4 = y4 at *
    generalize Y / 100 = y100 at *
    generalize Y / 400 = y400 at *
    generalize civil.dayNo (Y + 1) m d = dn at *
    clear h2
    go_enter Tryd.func109, Tryd.ntmps109
    go_wp2_with fail
    refine F4.out.mono ?_
    rintro e w1 ⟨rfl, rfl⟩
    go_wp2_with fail
    refine F100.out.mono ?_
    rintro e w1 ⟨rfl, rfl⟩
    go_wp2_with fail
    refine F400.out.mono ?_
    rintro e w1 ⟨rfl, rfl⟩
    go_wp2_with fail
    have D2 := D.out
    go_ret
    refine ⟨congrArg (fun x => Ending.returned (.int .i64 x)) ?_, rfl⟩
    omega
  · have hz : ¬ (m : Int) ≤ 2 := by omega
    have F4 := Lib.hid (floor_any y 4 w (by omega) (by omega) (by omega))
    have F100 := Lib.hid (floor_any y 100 w (by omega) (by omega) (by omega))
    have F400 := Lib.hid (floor_any y 400 w (by omega) (by omega) (by omega))
    have b4 : y / 4 ≤ 3000 := by omega
    have b100 : y / 100 ≤ 3000 := by omega
    have b400 : y / 400 ≤ 3000 := by omega
    have D : Hid ((civil.dayNo y m d : Int) = 365 * y + (y / 4 : Nat) - (y / 100 : Nat) + (y / 400 : Nat) + (153 * ((m : Int) - 3) + 2) / 5 + d - 1) := Lib.hid (by
      unfold civil.dayNo
      simp only [if_neg h2]
      omega)
    generalize y / 4 = y4 at *
    generalize y / 100 = y100 at *
    generalize y / 400 = y400 at *
    generalize civil.dayNo y m d = dn at *
    clear h2
    go_enter Tryd.func109, Tryd.ntmps109
    go_wp2_with fail
    refine F4.out.mono ?_
    rintro e w1 ⟨rfl, rfl⟩
    go_wp2_with fail
    refine F100.out.mono ?_
    rintro e w1 ⟨rfl, rfl⟩
    go_wp2_with fail
    refine F400.out.mono ?_
    rintro e w1 ⟨rfl, rfl⟩
    go_wp2_with fail
    have D2 := D.out
    go_ret
    refine ⟨congrArg (fun x => Ending.returned (.int .i64 x)) ?_, rfl⟩
    omega

/-- The parts of a second, as they are written. -/
def fracL (fd : List Nat) : List UInt8 := if fd = [] then [] else 46 :: fd.map ch
/-- A zone, as it is written: none for Z; else whether it lies behind, hours, minutes. -/
def zoneL : Option (Bool × Nat × Nat) → List UInt8
  | none => [90]
  | some (neg, zh, zm) => (if neg then 45 else 43) :: d2 zh ++ 58 :: d2 zm
def zoneV : Option (Bool × Nat × Nat) → Int
  | none => 0
  | some (neg, zh, zm) => if neg then -(3600 * zh + 60 * zm : Int) else 3600 * zh + 60 * zm
def zoneOk : Option (Bool × Nat × Nat) → Prop
  | none => True
  | some (_, zh, zm) => zh < 24 ∧ zm < 60
def clockL (h mi se : Nat) (fd : List Nat) (z : Option (Bool × Nat × Nat)) : List UInt8 := 84 :: d2 h ++ 58 :: d2 mi ++ 58 :: d2 se ++ fracL fd ++ zoneL z

set_option maxRecDepth 100000 in
theorem clock_any (s : ByteArray) (h mi se : Nat) (fd : List Nat) (z : Option (Bool × Nat × Nat)) (sec : Int) (w : World) (hs : s.data.toList = clockL h mi se fd z) (hh : h < 24) (hmi : mi < 60) (hse : se < 60) (hfd : ∀ d ∈ fd, d < 10) (hfl : fd.length ≤ 9) (hz : zoneOk z)
    (hsec : -8000000000 ≤ sec ∧ sec ≤ 7000000000) (hnano : frac.fsum fd 100000000 < 1000000000) :
    Calls Tryd.prog 110 #[.string s, .int .i64 sec] w fun e w' => e = .returned (.tuple #[.int .i64 ((sec + (3600 * h + 60 * mi + se) - zoneV z) * 1000000000 + (frac.fsum fd 100000000 : Nat)), .bool true]) ∧ Below w.heap.size w w' := by
  have hlen : s.size = (clockL h mi se fd z).length := by rw [bsize, hs]
  have hzl : (zoneL z).length = 1 ∨ (zoneL z).length = 6 := by
    cases z with
    | none => exact .inl rfl
    | some v => exact .inr rfl
  have hfll : (fracL fd).length ≤ 10 := by
    unfold fracL
    split
    · simp
    · simp; omega
  have hl9 : s.size = 9 + (fracL fd).length + (zoneL z).length := by rw [hlen]; simp [clockL, d2]; omega
  have b0 : s.data.toList[0]? = some 84 := by rw [hs]; rfl
  have b3 : s.data.toList[3]? = some 58 := by rw [hs]; rfl
  have b6 : s.data.toList[6]? = some 58 := by rw [hs]; rfl
  have T1 := Lib.hid (two_any s 1 (h / 10) (h % 10) w (by omega) (by omega) (by omega) (by rw [hs]; rfl) (by rw [hs]; rfl))
  rw [show 10 * (h / 10) + h % 10 = h by omega] at T1
  have T4 := Lib.hid (fun W (hW : Below w.heap.size w W) => two_any s 4 (mi / 10) (mi % 10) W (by omega) (by omega) (by omega) (by rw [hs]; rfl) (by rw [hs]; rfl))
  rw [show 10 * (mi / 10) + mi % 10 = mi by omega] at T4
  have T7 := Lib.hid (fun W (hW : Below w.heap.size w W) => two_any s 7 (se / 10) (se % 10) W (by omega) (by omega) (by omega) (by rw [hs]; rfl) (by rw [hs]; rfl))
  rw [show 10 * (se / 10) + se % 10 = se by omega] at T7
  obtain ⟨g0, e0⟩ := byteIs b0
  obtain ⟨g3, e3⟩ := byteIs b3
  obtain ⟨g6, e6⟩ := byteIs b6
  replace e0 : (s[0]'g0).toNat = 84 := e0
  replace e3 : (s[3]'g3).toNat = 58 := e3
  replace e6 : (s[6]'g6).toNat = 58 := e6
  have z0 : (0 : Int) < (s.size : Int) := by omega
  have z3 : (3 : Int) < (s.size : Int) := by omega
  have z6 : (6 : Int) < (s.size : Int) := by omega
  have z10 : ¬ (s.size : Int) < 10 := by omega
  have m1 : ¬ (23 : Int) < (h : Int) := by omega
  have m2 : ¬ (59 : Int) < (mi : Int) := by omega
  have m3 : ¬ (59 : Int) < (se : Int) := by omega
  obtain ⟨s2, hs2, hs2l⟩ : ∃ s2, s.extract 9 s.size = s2 ∧ s2.data.toList = fracL fd ++ zoneL z := ⟨_, rfl, by
    rw [bdata, hs, List.take_of_length_le (by simp [hlen])]
    simp [clockL, d2]⟩
  have HS := Lib.hid hs
  have HS2 := Lib.hid hs2l
  have HL := Lib.hid hlen
  have HL9 := Lib.hid hl9
  have hs9 : 9 ≤ s.size := by omega
  have hsmax : s.size ≤ 100 := by omega
  clear hs hs2l hlen hl9 b0 b3 b6
  go_enter Tryd.func110, Tryd.ntmps110
  go_wp2_with fail
  refine T1.out.mono ?_
  rintro e w1 ⟨rfl, hb1⟩
  have HB1 := Lib.hid hb1
  clear hb1
  go_wp2_with fail
  refine (T4.out w1 HB1.out).mono ?_
  rintro e w2 ⟨rfl, hb2⟩
  have HB2 := Lib.hid (HB1.out.trans (hb2.mono HB1.out.size))
  clear hb2
  go_wp2_with fail
  refine (T7.out w2 HB2.out).mono ?_
  rintro e w3 ⟨rfl, hb3⟩
  have HB3 := Lib.hid (HB2.out.trans (hb3.mono HB2.out.size))
  clear hb3 HB1 HB2
  obtain ⟨x0, bd, hx0, hx46, HBD⟩ : ∃ (x : UInt8) (bd : Bool), s2.data.toList[0]? = some x ∧ ((x.toNat : Int) == 46) = bd ∧ Hid (if bd then fd ≠ [] else fd = []) := by
    rw [HS2.out]
    by_cases hf : fd = []
    · subst hf
      rcases z with _ | ⟨n, zh, zm⟩
      · exact ⟨90, false, rfl, rfl, rfl⟩
      · cases n
        · exact ⟨43, false, rfl, rfl, rfl⟩
        · exact ⟨45, false, rfl, rfl, rfl⟩
    · exact ⟨46, true, by simp [fracL, hf], rfl, hf⟩
  obtain ⟨gx, ex⟩ := byteIs hx0
  have zx : (0 : Int) < (s2.size : Int) := by omega
  have hse1 : -9000000000 ≤ sec + ((h : Int) * 3600 + (mi : Int) * 60 + (se : Int)) ∧ sec + ((h : Int) * 3600 + (mi : Int) * 60 + (se : Int)) ≤ 8000000000 := by omega
  go_upto_if 87 with fail
  go_cut [0, 12, 13] from 87 to 114 (fun v n u wx => ∃ s3 : ByteArray, v = .string s3 ∧ s3.data.toList = zoneL z ∧ n = .int .i64 (frac.fsum fd 100000000 : Nat) ∧ Below w.heap.size w wx)
  case first =>
    cases bd
    · have hf : fd = [] := HBD.out
      go_wp2_with fail
      go_meet
      case rel => exact ⟨s2, rfl, by rw [HS2.out, hf]; rfl, by rw [hf]; rfl, HB3.out⟩
    · have hf : fd ≠ [] := HBD.out
      obtain ⟨s3, hs3, hs3l⟩ : ∃ s3, s2.extract 1 s2.size = s3 ∧ s3.data.toList = fd.map ch ++ zoneL z := ⟨_, rfl, by
        rw [bdata, HS2.out, fracL, if_neg hf, List.take_of_length_le]
        · rfl
        · rw [bsize, HS2.out, fracL, if_neg hf]; simp⟩
      have HS3 := Lib.hid hs3l
      have HF := Lib.hid hfd
      clear hs3l hf hfd
      have zx1 : (1 : Int) ≤ (s2.size : Int) := by omega
      have hs2m : s2.size ≤ 100 := by rw [← hs2]; simp; omega
      go_wp2_with fail
      go_loopg [0, 12, 13] fd.length (fun gk v n u wr => ∃ (r : List Nat) (acc un : Nat) (t : ByteArray), gk = r.length ∧ v = .string t ∧ Hid (t.data.toList = r.map ch ++ zoneL z) ∧ n = .int .i64 (acc : Nat) ∧ u = .int .i64 (un : Nat) ∧ Hid (acc + frac.fsum r un = frac.fsum fd 100000000) ∧ Hid (∀ d ∈ r, d < 10) ∧ un ≤ 100000000 ∧ Hid (Below w.heap.size w wr) ∧ r.length ≤ 9)
      case atStart => exact ⟨fd, 0, 100000000, s3, rfl, rfl, HS3, rfl, rfl, Lib.hid (by simp), HF, by omega, HB3, hfl⟩
      case round =>
        obtain ⟨r, acc, un, t, hgk, rfl, HT, rfl, rfl, HA, HR, hun, HBR, hrl⟩ := hrel
        have HK := Lib.hid hgk
        clear hgk
        have htl : t.size = (r.map ch ++ zoneL z).length := by rw [bsize, HT.out]
        cases r with
        | nil =>
          obtain ⟨y, hy, hy1⟩ : ∃ y : UInt8, t.data.toList[0]? = some y ∧ (¬ (48 : Int) ≤ (y.toNat : Int) ∨ ((48 : Int) ≤ (y.toNat : Int) ∧ ¬ (y.toNat : Int) ≤ 57)) := by
            rw [HT.out]
            rcases z with _ | ⟨n, zh, zm⟩
            · exact ⟨90, rfl, by decide⟩
            · cases n
              · exact ⟨43, rfl, by decide⟩
              · exact ⟨45, rfl, by decide⟩
          obtain ⟨gt, et⟩ := byteIs hy
          have zt : (0 : Int) < (t.size : Int) := by omega
          have hA := HA.out
          generalize y.toNat = c at *
          clear hy htl
          have hacc : acc = frac.fsum fd 100000000 := by simpa [frac.fsum] using hA
          have HACC := Lib.hid hacc
          clear hacc hA
          rcases hy1 with h1 | ⟨h1, h2⟩
          · go_wp2_with fail
            go_meet
            case rel => exact ⟨t, rfl, HT.out, by rw [HACC.out], HBR.out⟩
          · go_wp2_with fail
            go_meet
            case rel => exact ⟨t, rfl, HT.out, by rw [HACC.out], HBR.out⟩
        | cons d r =>
          have hd := HR.out d (by simp)
          have hA := HA.out
          rw [show frac.fsum (d :: r) un = d * un + frac.fsum r (un / 10) from rfl] at hA
          have hb : acc + d * un < 1000000000 := by omega
          have hy : t.data.toList[0]? = some (ch d) := by rw [HT.out]; rfl
          obtain ⟨gt, et⟩ := byteIs hy
          rw [ch_nat hd] at et
          obtain ⟨t2, ht2, ht2l⟩ : ∃ t2, t.extract 1 t.size = t2 ∧ t2.data.toList = r.map ch ++ zoneL z := ⟨_, rfl, by
            rw [bdata, HT.out, List.take_of_length_le]
            · rfl
            · rw [htl]; simp⟩
          have HT2 := Lib.hid ht2l
          have HA2 := Lib.hid hA
          have HR2 : Hid (∀ d ∈ r, d < 10) := Lib.hid fun x hx => HR.out x (by simp [hx])
          have zt : (0 : Int) < (t.size : Int) := by omega
          have zt1 : (1 : Int) ≤ (t.size : Int) := by omega
          have htm : t.size ≤ 1000 := by rw [htl]; simp at hrl ⊢; rcases hzl with h | h <;> (rw [h]; omega)
          have k1 : (48 : Int) ≤ 48 + (d : Int) := by omega
          have k2 : (48 : Int) + (d : Int) ≤ 57 := by omega
          obtain ⟨p, hp⟩ : ∃ p, d * un = p := ⟨_, rfl⟩
          have hpz : (48 + (d : Int) - 48) * (un : Int) = (p : Int) := by rw [← hp]; push_cast; congr 1; omega
          rw [hp] at hb hA
          clear hy htl ht2l hA
          go_wp2_with fail
          go_roundg r.length
          case measure => rw [HK.out]; simp
          case rel => exact ⟨r, acc + p, un / 10, t2, rfl, rfl, HT2, by push_cast; rfl, by push_cast; rfl, Lib.hid (by have := HA2.out; omega), HR2, by omega, HBR, by simp at hrl; omega⟩
  case rest =>
    obtain ⟨s3, rfl, hs3, rfl, hB4⟩ := hcut
    have HB4 := Lib.hid hB4
    obtain ⟨F, hF⟩ : ∃ F, frac.fsum fd 100000000 = F := ⟨_, rfl⟩
    rw [hF] at hnano ⊢
    clear hB4 hx0 ex zx gx HB3
    rcases z with _ | ⟨n, zh, zm⟩
    · have he : (s3.toList == [90]) = true := by
        have : s3 = ⟨#[90]⟩ := WideShapes.bytes_inj (by rw [hs3]; rfl)
        rw [this]; simp
      clear hs3
      go_wp2_with fail
      go_ret2
      refine ⟨congrArg (fun x => Ending.returned (.tuple #[.int .i64 x, .bool true])) ?_, HB4.out⟩
      rw [hF, show zoneV none = 0 from rfl]
      omega
    · obtain ⟨hzh, hzm⟩ := hz
      have he : (s3.toList == [90]) = false := by
        rw [beq_eq_false_iff_ne]
        intro e
        have : s3 = ⟨#[90]⟩ := str_of (e.trans (by simp))
        rw [this] at hs3
        have h1 := congrArg List.length hs3
        simp [zoneL, d2] at h1
      have hsz3 : s3.size = 6 := by rw [bsize, hs3]; rfl
      have T1 := Lib.hid (fun W => two_any s3 1 (zh / 10) (zh % 10) W (by omega) (by omega) (by omega) (by rw [hs3]; rfl) (by rw [hs3]; rfl))
      rw [show 10 * (zh / 10) + zh % 10 = zh by omega] at T1
      have T4 := Lib.hid (fun W => two_any s3 4 (zm / 10) (zm % 10) W (by omega) (by omega) (by omega) (by rw [hs3]; rfl) (by rw [hs3]; rfl))
      rw [show 10 * (zm / 10) + zm % 10 = zm by omega] at T4
      obtain ⟨g3, e3⟩ := byteIs (show s3.data.toList[3]? = some 58 by rw [hs3]; rfl)
      replace e3 : (s3[3]'g3).toNat = 58 := e3
      have hz24 : (zh : Int) < 24 := by omega
      have hz60 : (zm : Int) < 60 := by omega
      cases n
      · obtain ⟨g0, e0⟩ := byteIs (show s3.data.toList[0]? = some 43 by rw [hs3]; rfl)
        replace e0 : (s3[0]'g0).toNat = 43 := e0
        have z0 : (0 : Int) < (s3.size : Int) := by omega
        have z3 : (3 : Int) < (s3.size : Int) := by omega
        clear hs3
        go_wp2_with fail
        refine (T1.out wc).mono ?_
        rintro e w4 ⟨rfl, hb4⟩
        have HB5 := Lib.hid (HB4.out.trans (hb4.mono HB4.out.size))
        clear hb4
        go_wp2_with fail
        refine (T4.out w4).mono ?_
        rintro e w5 ⟨rfl, hb5⟩
        have HB6 := Lib.hid (HB5.out.trans (hb5.mono HB5.out.size))
        clear hb5
        go_wp2_with fail
        go_ret2
        refine ⟨congrArg (fun x => Ending.returned (.tuple #[.int .i64 x, .bool true])) ?_, HB6.out⟩
        rw [hF]
        unfold zoneV
        simp
        omega
      · obtain ⟨g0, e0⟩ := byteIs (show s3.data.toList[0]? = some 45 by rw [hs3]; rfl)
        replace e0 : (s3[0]'g0).toNat = 45 := e0
        have z0 : (0 : Int) < (s3.size : Int) := by omega
        have z3 : (3 : Int) < (s3.size : Int) := by omega
        clear hs3
        go_wp2_with fail
        refine (T1.out wc).mono ?_
        rintro e w4 ⟨rfl, hb4⟩
        have HB5 := Lib.hid (HB4.out.trans (hb4.mono HB4.out.size))
        clear hb4
        go_wp2_with fail
        refine (T4.out w4).mono ?_
        rintro e w5 ⟨rfl, hb5⟩
        have HB6 := Lib.hid (HB5.out.trans (hb5.mono HB5.out.size))
        clear hb5
        go_wp2_with fail
        go_ret2
        refine ⟨congrArg (fun x => Ending.returned (.tuple #[.int .i64 x, .bool true])) ?_, HB6.out⟩
        rw [hF]
        unfold zoneV
        simp
        omega

/-- A moment's text. -/
def timeL (y m d h mi se : Nat) (fd : List Nat) (z : Option (Bool × Nat × Nat)) : List UInt8 := d4 y ++ 45 :: d2 m ++ 45 :: d2 d ++ clockL h mi se fd z

set_option maxRecDepth 100000 in
theorem timeOf_any (s : ByteArray) (y m d h mi se : Nat) (fd : List Nat) (z : Option (Bool × Nat × Nat)) (w : World) (hs : s.data.toList = timeL y m d h mi se fd z)
    (hy : 1700 ≤ y) (hy2 : y ≤ 2200) (hm : 1 ≤ m) (hm2 : m ≤ 12) (hd : 1 ≤ d) (hd2 : d ≤ 31) (hh : h < 24) (hmi : mi < 60) (hse : se < 60) (hfd : ∀ d ∈ fd, d < 10) (hfl : fd.length ≤ 9) (hz : zoneOk z)
    (hdn : 627000 ≤ civil.dayNo y m d ∧ civil.dayNo y m d ≤ 800000) (hnano : frac.fsum fd 100000000 < 1000000000) :
    Calls Tryd.prog 95 #[.string s] w fun e w' => e = .returned (.tuple #[.int .i64 ((((civil.dayNo y m d : Int) - 719468) * 86400 + (3600 * h + 60 * mi + se) - zoneV z) * 1000000000 + (frac.fsum fd 100000000 : Nat)), .bool true]) ∧ Below w.heap.size w w' := by
  have hlen : s.size = (timeL y m d h mi se fd z).length := by rw [bsize, hs]
  have hl1 : 10 < s.size ∧ s.size ≤ 100 := by
    have hzl : (zoneL z).length = 1 ∨ (zoneL z).length = 6 := by
      cases z with
      | none => exact .inl rfl
      | some v => exact .inr rfl
    have hfll : (fracL fd).length ≤ 10 := by
      unfold fracL
      split
      · simp
      · simp; omega
    rw [hlen]; simp [timeL, clockL, d2, d4]; omega
  have A0 := Lib.hid (fun W => two_any s 0 (y / 1000) (y / 100 % 10) W (by omega) (by omega) (by omega) (by rw [hs]; rfl) (by rw [hs]; rfl))
  have A2 := Lib.hid (fun W => two_any s 2 (y / 10 % 10) (y % 10) W (by omega) (by omega) (by omega) (by rw [hs]; rfl) (by rw [hs]; rfl))
  have A5 := Lib.hid (fun W => two_any s 5 (m / 10) (m % 10) W (by omega) (by omega) (by omega) (by rw [hs]; rfl) (by rw [hs]; rfl))
  rw [show 10 * (m / 10) + m % 10 = m by omega] at A5
  have A8 := Lib.hid (fun W => two_any s 8 (d / 10) (d % 10) W (by omega) (by omega) (by omega) (by rw [hs]; rfl) (by rw [hs]; rfl))
  rw [show 10 * (d / 10) + d % 10 = d by omega] at A8
  obtain ⟨c, hc⟩ : ∃ c, 10 * (y / 1000) + y / 100 % 10 = c := ⟨_, rfl⟩
  obtain ⟨r, hr⟩ : ∃ r, 10 * (y / 10 % 10) + y % 10 = r := ⟨_, rfl⟩
  have hyc : 100 * (c : Int) + (r : Int) = (y : Int) := by omega
  rw [hc] at A0
  rw [hr] at A2
  have hcb : c ≤ 100 := by omega
  have hrb : r ≤ 100 := by omega
  have HD := Lib.hid (fun W => days_any y m d W (by omega) (by omega) hm hm2 hd hd2)
  obtain ⟨n, hn⟩ : ∃ n, civil.dayNo y m d = n := ⟨_, rfl⟩
  rw [hn] at HD hdn ⊢
  obtain ⟨s2, hs2, hs2l⟩ : ∃ s2, s.extract 10 s.size = s2 ∧ s2.data.toList = clockL h mi se fd z := ⟨_, rfl, by
    rw [bdata, hs, List.take_of_length_le (by simp [hlen])]
    simp [timeL, d2, d4]⟩
  have HC := Lib.hid (fun W => clock_any s2 h mi se fd z (((n : Int) - 719468) * 86400) W hs2l hh hmi hse hfd hfl hz (by omega) hnano)
  obtain ⟨g4, e4⟩ := byteIs (show s.data.toList[4]? = some 45 by rw [hs]; rfl)
  replace e4 : (s[4]'g4).toNat = 45 := e4
  obtain ⟨g7, e7⟩ := byteIs (show s.data.toList[7]? = some 45 by rw [hs]; rfl)
  replace e7 : (s[7]'g7).toNat = 45 := e7
  have z10 : ¬ (s.size : Int) < 10 := by omega
  have z11 : ((s.size : Int) == 10) = false := by simp; omega
  have z4 : (4 : Int) < (s.size : Int) := by omega
  have z7 : (7 : Int) < (s.size : Int) := by omega
  have zt : (10 : Int) ≤ (s.size : Int) := by omega
  have y1 : ¬ (y : Int) < 1700 := by omega
  have y2 : ¬ (2200 : Int) < (y : Int) := by omega
  have y3 : ¬ (m : Int) < 1 := by omega
  have y4 : ¬ (12 : Int) < (m : Int) := by omega
  have y5 : ¬ (d : Int) < 1 := by omega
  have y6 : ¬ (31 : Int) < (d : Int) := by omega
  have hsm := hl1.2
  clear hs hlen hs2l hc hr hn hl1 hnano hfd
  go_enter Tryd.func95, Tryd.ntmps95
  go_wp2_with fail
  refine (A0.out w).mono ?_
  rintro e w1 ⟨rfl, hb1⟩
  have HB1 := Lib.hid hb1
  clear hb1
  go_wp2_with fail
  refine (A2.out w1).mono ?_
  rintro e w2 ⟨rfl, hb2⟩
  have HB2 := Lib.hid (HB1.out.trans (hb2.mono HB1.out.size))
  clear hb2
  go_wp2_with fail
  refine (A5.out w2).mono ?_
  rintro e w3 ⟨rfl, hb3⟩
  have HB3 := Lib.hid (HB2.out.trans (hb3.mono HB2.out.size))
  clear hb3
  go_wp2_with fail
  refine (A8.out w3).mono ?_
  rintro e w4 ⟨rfl, hb4⟩
  have HB4 := Lib.hid (HB3.out.trans (hb4.mono HB3.out.size))
  clear hb4
  go_wp2_with fail
  refine (HD.out w4).mono ?_
  rintro e w5 ⟨rfl, rfl⟩
  go_wp2_with fail
  refine (HC.out w5).mono ?_
  rintro e w6 ⟨rfl, hb6⟩
  have HB6 := Lib.hid (HB4.out.trans (hb6.mono HB4.out.size))
  clear hb6
  go_wp2_with fail
  go_ret2
  exact ⟨rfl, HB6.out⟩
end Go.Proofs.YteecbmhkfnlecaaDoor
