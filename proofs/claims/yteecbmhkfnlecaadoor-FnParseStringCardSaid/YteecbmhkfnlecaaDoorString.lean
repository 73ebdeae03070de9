/-
  FnParseString: for every text and choice the law returns true. Conditions: the list's tables.
-/
import Derived.Test.YteecbmhkfnlecaaDoorText
import Derived.Test.YteecbmhkfnlecaaDoorLaid
import Derived.Test.YteecbmhkfnlecaaDoorValid
namespace Go.Proofs.YteecbmhkfnlecaaDoor.fnParseString
open Go.ChangeShapes Go.WideShapes Go.ChangeAt Go.RowKit Go.Lib
open Go.ChangeMaps (open_string shut_string)
set_option linter.unusedVariables false

theorem and_byte : ∀ X : Fin 256, bits .and .u8 (X.val : Int) 15 = (X.val : Int) % 16 := by decide +kernel

theorem hex_at (d : Nat) (hd : d < 16) (i : Nat) (hi : i < (⟨#[48, 49, 50, 51, 52, 53, 54, 55, 56, 57, 97, 98, 99, 100, 101, 102]⟩ : ByteArray).size) (e : i = d) : ((⟨#[48, 49, 50, 51, 52, 53, 54, 55, 56, 57, 97, 98, 99, 100, 101, 102]⟩ : ByteArray)[i]'hi).toNat = (hexc d).toNat := by
  subst e
  match i, hd, hi with
  | 0, _, _ => rfl
  | 1, _, _ => rfl
  | 2, _, _ => rfl
  | 3, _, _ => rfl
  | 4, _, _ => rfl
  | 5, _, _ => rfl
  | 6, _, _ => rfl
  | 7, _, _ => rfl
  | 8, _, _ => rfl
  | 9, _, _ => rfl
  | 10, _, _ => rfl
  | 11, _, _ => rfl
  | 12, _, _ => rfl
  | 13, _, _ => rfl
  | 14, _, _ => rfl
  | 15, _, _ => rfl
  | n + 16, hd, _ => omega

theorem q_snoc (ev : Bool) (l : List UInt8) (k : Nat) (x : UInt8) (hx : l[k]? = some x) : q ev (l.take (k + 1)) = q ev (l.take k) ++ qb ev x := by
  simp [q, List.take_add_one, hx]

set_option maxHeartbeats 1600000 in
set_option maxRecDepth 100000 in
theorem quoted_any (ev : Bool) (s : ByteArray) (l : List UInt8) (w : World) (hs : s.data.toList = l) (hl : l.length ≤ 1000000) :
    Calls Tryd.prog 15 #[.string s, .bool ev] w fun e w' => ∃ out : ByteArray, e = .returned (.string out) ∧ out.data.toList = q ev l ∧ Below w.heap.size w w' := by
  have hsl : s.size = l.length := by rw [size_eq, hs]
  have HL := Lib.hid hs
  clear hs
  go_enter Tryd.func15, Tryd.ntmps15
  go_wp2_with fail
  go_loopg [5, 6] l.length (fun gk o i wr => ∃ (k : Nat) (out : ByteArray), k ≤ l.length ∧ gk = l.length - k ∧ i = .int .i64 (k : Int) ∧ o = .string out ∧ Hid (out.data.toList = q ev (l.take k)) ∧ Hid (Below w.heap.size w wr))
  case atStart => exact ⟨0, _, by omega, by omega, rfl, rfl, Lib.hid (by simp [q]), Lib.hid (Below.refl _ _)⟩
  case round =>
    obtain ⟨k, out, hk, rfl, rfl, rfl, HO, HB⟩ := hrel
    by_cases hkn : k < l.length
    · have hkz : (k : Int) < (l.length : Int) := by omega
      obtain ⟨x, hx⟩ : ∃ x, l[k]? = some x := ⟨l[k]'hkn, List.getElem?_eq_getElem _⟩
      have hxs : (s[k]'(by omega)).toNat = x.toNat := byte_eq s k x _ (by rw [HL.out]; exact hx)
      have HX := Lib.hid hx
      have hsl1 := run_slice_string (P := Tryd.prog) wr 9 s .i64 .i64 (k : Int) ((k : Int) + 1) Tryd.underlying9 (by omega) (by omega) (by omega)
      rw [show (k : Int).toNat = k by omega, show ((k : Int) + 1).toNat = k + 1 by omega] at hsl1
      have hex : (s.extract k (k + 1)).data.toList = [x] := by
        rw [extract_data, HL.out, show k + 1 - k = 1 by omega, List.drop_eq_getElem_cons hkn]
        simp [(List.getElem?_eq_some_iff.1 hx).2]
      have HE := Lib.hid hex
      have h1s : (s.extract k (k + 1)).size = 1 := by rw [size_eq, hex]; rfl
      generalize s.extract k (k + 1) = one at hsl1 HE h1s
      have hos : out.size ≤ 8589934592 := by
        have h1 := q_len ev (l.take k)
        rw [← HO.out, ← size_eq] at h1
        simp at h1
        omega
      clear hx hex
      have ne : ∀ c : UInt8, x ≠ c → ((x.toNat : Int) == (c.toNat : Int)) = false := fun c h => by
        have : x.toNat ≠ c.toNat := fun e => h (UInt8.toNat.inj e)
        simp; omega
      have fin : ∀ (o2 : ByteArray) (w2 : World), o2.data.toList = q ev (l.take k) ++ qb ev x → Below w.heap.size w w2 → ∃ (k2 : Nat) (out2 : ByteArray), k2 ≤ l.length ∧ l.length - (k + 1) = l.length - k2 ∧ (Value.int .i64 ((k : Int) + 1)) = .int .i64 (k2 : Int) ∧ Value.string o2 = .string out2 ∧ Hid (out2.data.toList = q ev (l.take k2)) ∧ Hid (Below w.heap.size w w2) := fun o2 w2 h1 h2 =>
        ⟨k + 1, o2, by omega, rfl, by push_cast; rfl, rfl, Lib.hid (by rw [q_snoc ev l k x HX.out]; exact h1), Lib.hid h2⟩
      have FIN := Lib.hid fin
      have NE := Lib.hid ne
      clear fin ne
      by_cases a1 : x = 34
      · subst a1
        replace hxs : (s[k]'(by omega)).toNat = 34 := hxs
        go_wp2_with fail
        go_roundg (l.length - (k + 1))
        case measure => omega
        case rel => exact FIN.out _ _ (by simp [ByteArray.data_append, HO.out, HE.out, qb]) HB.out
      by_cases a2 : x = 92
      · subst a2
        replace hxs : (s[k]'(by omega)).toNat = 92 := hxs
        go_wp2_with fail
        go_roundg (l.length - (k + 1))
        case measure => omega
        case rel => exact FIN.out _ _ (by simp [ByteArray.data_append, HO.out, HE.out, qb]) HB.out
      by_cases a3 : x = 10
      · subst a3
        replace hxs : (s[k]'(by omega)).toNat = 10 := hxs
        go_wp2_with fail
        go_roundg (l.length - (k + 1))
        case measure => omega
        case rel => exact FIN.out _ _ (by simp [ByteArray.data_append, HO.out, qb]) HB.out
      by_cases a4 : x = 13
      · subst a4
        replace hxs : (s[k]'(by omega)).toNat = 13 := hxs
        go_wp2_with fail
        go_roundg (l.length - (k + 1))
        case measure => omega
        case rel => exact FIN.out _ _ (by simp [ByteArray.data_append, HO.out, qb]) HB.out
      by_cases a5 : x = 9
      · subst a5
        replace hxs : (s[k]'(by omega)).toNat = 9 := hxs
        go_wp2_with fail
        go_roundg (l.length - (k + 1))
        case measure => omega
        case rel => exact FIN.out _ _ (by simp [ByteArray.data_append, HO.out, qb]) HB.out
      have b1 : ((x.toNat : Int) == 34) = false := NE.out 34 a1
      have b2 : ((x.toNat : Int) == 92) = false := NE.out 92 a2
      have b3 : ((x.toNat : Int) == 10) = false := NE.out 10 a3
      have b4 : ((x.toNat : Int) == 13) = false := NE.out 13 a4
      have b5 : ((x.toNat : Int) == 9) = false := NE.out 9 a5
      have A := Lib.hid (And.intro a1 (And.intro a2 (And.intro a3 (And.intro a4 a5))))
      clear a1 a2 a3 a4 a5
      cases ev
      · by_cases a6 : x = 36
        · have hx36 : x.toNat = 36 := by rw [a6]; rfl
          have b6 : ((x.toNat : Int) == 36) = true := by rw [a6]; rfl
          have a7 : (x.toNat : Int) < 128 := by omega
          have QB : Hid (qb false x = [92, 120, hexc (x.toNat / 16), hexc (x.toNat % 16)]) := Lib.hid (by
            obtain ⟨h1, h2, h3, h4, h5⟩ := A.out
            unfold qb
            rw [if_neg (by simp [h1, h2]), if_neg h3, if_neg h4, if_neg h5, if_pos (Or.inr a6)])
          clear a6 hx36
          have hd0 : (x.toNat : Int) / 16 < 16 := by omega
          have hd1 : (x.toNat : Int) % 16 < 16 := by omega
          have hd2 : 0 ≤ (x.toNat : Int) / 16 := by omega
          have hd3 : 0 ≤ (x.toNat : Int) % 16 := by omega
          have hand := and_byte ⟨x.toNat, x.toNat_lt⟩
          simp only at hand
          have g0 : ∀ h, ((⟨#[48, 49, 50, 51, 52, 53, 54, 55, 56, 57, 97, 98, 99, 100, 101, 102]⟩ : ByteArray)[((x.toNat : Int) / 16).toNat]'h).toNat = (hexc (x.toNat / 16)).toNat := fun h => hex_at _ (by omega) _ h (by omega)
          have g1 : ∀ h, ((⟨#[48, 49, 50, 51, 52, 53, 54, 55, 56, 57, 97, 98, 99, 100, 101, 102]⟩ : ByteArray)[((x.toNat : Int) % 16).toNat]'h).toNat = (hexc (x.toNat % 16)).toNat := fun h => hex_at _ (by omega) _ h (by omega)
          generalize hexc (x.toNat / 16) = h1 at QB g0
          generalize hexc (x.toNat % 16) = h2 at QB g1
          have hcv := run_convert_bytes_back (P := Tryd.prog) ((wr.alloc (.cells #[.int .u8 (h1.toNat : Int), .int .u8 (h2.toNat : Int)] 5)).drew) 67 9 5 ⟨wr.heap.size, 0, none⟩ 2 [h1, h2] Tryd.underlying67 Tryd.underlying5 Tryd.underlying9 (fun j hj => by
            match j, hj with
            | 0, _ => simp [Addr.add]
            | 1, _ => simp [Addr.add])
          replace hcv : (convert 67 9 (.slice (some ⟨wr.heap.size, 0, none⟩) 2 2)).run Tryd.prog ((wr.alloc (.cells #[.int .u8 (h1.toNat : Int), .int .u8 (h2.toNat : Int)] 5)).drew) = .ok (.string ⟨[h1, h2].toArray⟩) ((wr.alloc (.cells #[.int .u8 (h1.toNat : Int), .int .u8 (h2.toNat : Int)] 5)).drew) := hcv
          have hoz : (⟨[h1, h2].toArray⟩ : ByteArray).size = 2 := rfl
          have hol : (⟨[h1, h2].toArray⟩ : ByteArray).data.toList = [h1, h2] := rfl
          have HOL := Lib.hid hol
          clear hol
          generalize (⟨[h1, h2].toArray⟩ : ByteArray) = hx at hcv hoz HOL
          have HB2 : Hid (Below w.heap.size w ((wr.alloc (.cells #[.int .u8 (h1.toNat : Int), .int .u8 (h2.toNat : Int)] 5)).drew)) := Lib.hid (Below.drew (HB.out.alloc HB.out.size _))
          go_wp2_with fail
          go_region
          go_wp2_with fail
          go_roundg (l.length - (k + 1))
          case measure => omega
          case rel => exact FIN.out _ _ (by rw [QB.out]; simp [ByteArray.data_append, HO.out, HOL.out]) HB2.out
        · have b6 : ((x.toNat : Int) == 36) = false := NE.out 36 a6
          have A6 := Lib.hid a6
          clear a6
          have QB : Hid (qb false x = [x]) := Lib.hid (by
            obtain ⟨h1, h2, h3, h4, h5⟩ := A.out
            unfold qb
            rw [if_neg (by simp [h1, h2]), if_neg h3, if_neg h4, if_neg h5, if_neg (by simp [A6.out])])
          by_cases a7 : (x.toNat : Int) < 128
          · go_wp2_with fail
            go_roundg (l.length - (k + 1))
            case measure => omega
            case rel => exact FIN.out _ _ (by rw [QB.out]; simp [ByteArray.data_append, HO.out, HE.out]) HB.out
          · go_wp2_with fail
            go_roundg (l.length - (k + 1))
            case measure => omega
            case rel => exact FIN.out _ _ (by rw [QB.out]; simp [ByteArray.data_append, HO.out, HE.out]) HB.out
      · by_cases a7 : (x.toNat : Int) < 128
        · have QB : Hid (qb true x = [92, 120, hexc (x.toNat / 16), hexc (x.toNat % 16)]) := Lib.hid (by
            obtain ⟨h1, h2, h3, h4, h5⟩ := A.out
            unfold qb
            rw [if_neg (by simp [h1, h2]), if_neg h3, if_neg h4, if_neg h5, if_pos (Or.inl ⟨by omega, rfl⟩)])
          have hd0 : (x.toNat : Int) / 16 < 16 := by omega
          have hd1 : (x.toNat : Int) % 16 < 16 := by omega
          have hd2 : 0 ≤ (x.toNat : Int) / 16 := by omega
          have hd3 : 0 ≤ (x.toNat : Int) % 16 := by omega
          have hand := and_byte ⟨x.toNat, x.toNat_lt⟩
          simp only at hand
          have g0 : ∀ h, ((⟨#[48, 49, 50, 51, 52, 53, 54, 55, 56, 57, 97, 98, 99, 100, 101, 102]⟩ : ByteArray)[((x.toNat : Int) / 16).toNat]'h).toNat = (hexc (x.toNat / 16)).toNat := fun h => hex_at _ (by omega) _ h (by omega)
          have g1 : ∀ h, ((⟨#[48, 49, 50, 51, 52, 53, 54, 55, 56, 57, 97, 98, 99, 100, 101, 102]⟩ : ByteArray)[((x.toNat : Int) % 16).toNat]'h).toNat = (hexc (x.toNat % 16)).toNat := fun h => hex_at _ (by omega) _ h (by omega)
          generalize hexc (x.toNat / 16) = h1 at QB g0
          generalize hexc (x.toNat % 16) = h2 at QB g1
          have hcv := run_convert_bytes_back (P := Tryd.prog) ((wr.alloc (.cells #[.int .u8 (h1.toNat : Int), .int .u8 (h2.toNat : Int)] 5)).drew) 67 9 5 ⟨wr.heap.size, 0, none⟩ 2 [h1, h2] Tryd.underlying67 Tryd.underlying5 Tryd.underlying9 (fun j hj => by
            match j, hj with
            | 0, _ => simp [Addr.add]
            | 1, _ => simp [Addr.add])
          replace hcv : (convert 67 9 (.slice (some ⟨wr.heap.size, 0, none⟩) 2 2)).run Tryd.prog ((wr.alloc (.cells #[.int .u8 (h1.toNat : Int), .int .u8 (h2.toNat : Int)] 5)).drew) = .ok (.string ⟨[h1, h2].toArray⟩) ((wr.alloc (.cells #[.int .u8 (h1.toNat : Int), .int .u8 (h2.toNat : Int)] 5)).drew) := hcv
          have hoz : (⟨[h1, h2].toArray⟩ : ByteArray).size = 2 := rfl
          have hol : (⟨[h1, h2].toArray⟩ : ByteArray).data.toList = [h1, h2] := rfl
          have HOL := Lib.hid hol
          clear hol
          generalize (⟨[h1, h2].toArray⟩ : ByteArray) = hx at hcv hoz HOL
          have HB2 : Hid (Below w.heap.size w ((wr.alloc (.cells #[.int .u8 (h1.toNat : Int), .int .u8 (h2.toNat : Int)] 5)).drew)) := Lib.hid (Below.drew (HB.out.alloc HB.out.size _))
          go_wp2_with fail
          go_region
          go_wp2_with fail
          go_roundg (l.length - (k + 1))
          case measure => omega
          case rel => exact FIN.out _ _ (by rw [QB.out]; simp [ByteArray.data_append, HO.out, HOL.out]) HB2.out
        · have b6 : ((x.toNat : Int) == 36) = false := by simp; omega
          have QB : Hid (qb true x = [x]) := Lib.hid (by
            obtain ⟨h1, h2, h3, h4, h5⟩ := A.out
            unfold qb
            rw [if_neg (by simp [h1, h2]), if_neg h3, if_neg h4, if_neg h5, if_neg (by rintro (⟨h, -⟩ | h); exact a7 (by omega); subst h; exact a7 (by decide))])
          go_wp2_with fail
          go_roundg (l.length - (k + 1))
          case measure => omega
          case rel => exact FIN.out _ _ (by rw [QB.out]; simp [ByteArray.data_append, HO.out, HE.out]) HB.out
    · have hkz : ¬ (k : Int) < (l.length : Int) := by omega
      obtain rfl : k = l.length := by omega
      have hO := HO.out
      rw [List.take_length] at hO
      have HO2 := Lib.hid hO
      clear hO
      go_wp2_with fail
      go_ret
      exact ⟨out, rfl, HO2.out, HB.out⟩

theorem quotes (o : ByteArray) : ((⟨#[34]⟩ : ByteArray) ++ o ++ ⟨#[34]⟩).data.toList = 34 :: (o.data.toList ++ [34]) := by
  simp [ByteArray.data_append]

set_option maxHeartbeats 800000 in
set_option maxRecDepth 100000 in
theorem walk (s : ByteArray) (ev : Bool) (w : World) (hT : Lib.Utf8Tabs 0 1 w) :
    Calls Tryd.prog 6 #[.string s, .bool ev] w fun e w' => e = .returned (.bool true) ∧ Below w.heap.size w w' := by
  have HT := Lib.hid hT
  clear hT
  by_cases hs : 2147483647 < s.size
  · go_enter Tryd.func6, Tryd.ntmps6
    go_wp2_with fail
    go_ret
    exact ⟨rfl, Below.refl _ _⟩
  obtain ⟨l, hl⟩ : ∃ l, s.data.toList = l := ⟨_, rfl⟩
  have hsl : s.size = l.length := by rw [size_eq, hl]
  have hself : (s.toList == s.toList) = true := by simp
  have HL := Lib.hid hl
  clear hl
  go_enter Tryd.func6, Tryd.ntmps6
  go_wp2_with fail
  refine (parse_any false ⟨#[34, 97, 34]⟩ [97] w (by decide) (by decide) (by decide) HT.out).mono ?_
  rintro e w1 ⟨rfl, hb1⟩
  have HB1 := Lib.hid hb1
  clear hb1
  by_cases h3 : (300 : Int) < (l.length : Int)
  · go_wp2_with fail
    go_ret
    exact ⟨rfl, HB1.out⟩
  go_wp2_with fail
  refine (Tryd.utf8_ValidString s w1 (by omega) (tabs_below HT.out HB1.out)).mono ?_
  rintro e w3 ⟨rfl, hb3⟩
  have HB3 := Lib.hid (HB1.out.trans (hb3.mono HB1.out.size))
  clear hb3
  rw [HL.out]
  cases hvd : Lib.validD l
  · go_wp2_with fail
    go_ret
    exact ⟨rfl, HB3.out⟩
  have HV := Lib.hid hvd
  clear hvd
  go_wp2_with fail
  refine (quoted_any ev s l w3 HL.out (by omega)).mono ?_
  rintro e w4 ⟨out, rfl, ho, hb4⟩
  have hos : out.size ≤ 8589934592 := by
    have h1 := q_len ev l
    rw [← ho, ← size_eq] at h1
    omega
  have HB4 := Lib.hid (HB3.out.trans (hb4.mono HB3.out.size))
  have hse : (⟨l.toArray⟩ : ByteArray) = s := by rw [← HL.out]
  have HP := Lib.hid (parse_any ev (⟨#[34]⟩ ++ out ++ ⟨#[34]⟩) l w4 (by rw [quotes, ho]) HV.out (by omega) (tabs_below HT.out HB4.out))
  rw [hse] at HP
  clear ho hb4 hse
  go_wp2_with fail
  refine HP.out.mono ?_
  rintro e w5 ⟨rfl, hb5⟩
  go_wp2_with fail
  go_ret
  exact ⟨rfl, HB4.out.trans (hb5.mono HB4.out.size)⟩

set_option maxRecDepth 100000 in
theorem lifted (os : Os) (started : os.Started) (H : Type) (enc : TypeId × Value → H) :
    ReturnsInHanded {} Tryd.checked os 6 .any (fun w args => (Rows.fnParseStringSpec.pre enc Tryd.prog Tryd.f6 Rows.fnParseStringRow.domain false w args ∧ laidMetH Tryd.prog Rows.fnParseStringRow.laid w) ∧ sizedMet enc Tryd.prog Tryd.f6 (OpenSpec.ofChange Rows.fnParseStringSpec) false w args)
      (Rows.fnParseStringSpec.post enc Tryd.prog Tryd.f6 false true false false) := by
  refine returnsInHanded_of_change_and (C := Tryd.checked) (X := fun w _ => laidMetH Tryd.prog Rows.fnParseStringRow.laid w) (fun _ _ _ hh h => h.of_heap hh) own started (by kernel_rfl) Tryd.func6
    (ChangeSpec.witness_shaped (enc := enc) (C := Tryd.checked) (os := os) (X := fun w _ => laidMetH Tryd.prog Rows.fnParseStringRow.laid w) false (World.laidAll Tryd.prog os Rows.fnParseStringRow.laid) #[.string ByteArray.empty, .bool false] 8 (World.laidAll_os _ _ _)
      (World.shaped_of_ZipB (by kernel_rfl) (by kernel_rfl)) (by kernel_rfl) (by kernel_rfl) (by kernel_rfl)
      (by rw [MakeChecks.laidMetH_plain _ _ _ (by kernel_rfl)]; exact laidMet_laidAll _ (by kernel_rfl) (by kernel_rfl))) ?_
  intro W base args ds gs before hval0 hW hc _ hL _
  have hval : ∀ (j : Nat) t v, Tryd.f6.params[j]? = some t → args[j]? = some v → Value.okWide Tryd.prog W .any base t v := hval0
  have hW' := hW
  obtain ⟨p, q, hA0, hV, rfl, _, _⟩ := hW
  have hA : DataW.TrodAll enc Tryd.prog W 0 (fun _ => true) true Tryd.f6.params.toList args.toList ds p := hA0
  rw [Tryd.params6] at hA hval
  obtain ⟨v0, vs0, d0, ds0, p0, q0, hargs, rfl, rfl, h0, r0⟩ := trodAll_cons hA
  obtain ⟨v1, vs1, d1, ds1, p1, q1, rfl, rfl, rfl, h1, r1⟩ := trodAll_cons r0
  obtain ⟨rfl, rfl, rfl⟩ := trodAll_nil r1
  obtain rfl : args = #[v0, v1] := by cases args; simp_all
  obtain ⟨rfl, rfl⟩ := trodVars_none hV
  have k0 := h0
  have k1 := h1
  have lt0 : ∀ x ∈ p0, x.block < W.heap.size := by obtain ⟨m, hm⟩ := k0; exact DataW.trod_lt m _ _ _ hm
  have lt1 : ∀ x ∈ p1, x.block < W.heap.size := by obtain ⟨m, hm⟩ := k1; exact DataW.trod_lt m _ _ _ hm
  obtain ⟨s, rfl, -, -, -⟩ := open_string Tryd.underlying9 (hval 0 9 v0 rfl rfl) h0
  obtain ⟨ev, rfl, -⟩ := open_bool Tryd.underlying4 (hval 1 4 v1 rfl rfl) h1
  clear hA0 hval0
  rw [MakeChecks.laidMetH_plain _ _ _ (by kernel_rfl)] at hL
  refine (walk s ev W (tabs_of hL (by simp [Rows.fnParseStringRow, Rows.laid_unicode_utf8_first]) (by simp [Rows.fnParseStringRow]))).mono fun e W' ⟨he, bel⟩ => ?_
  subst he
  exact ⟨_, rfl, _, _, _, [], _, [], hW', trodAll_mk1 (shut_bool Tryd.underlying4 _), (trodAll_cons_mk (Below.trod laidOut (by kernel_rfl) (of_decide_eq_true (by kernel_rfl)) k0 bel lt0) (trodAll_cons_mk (Below.trod laidOut (by kernel_rfl) (of_decide_eq_true (by kernel_rfl)) k1 bel lt1) trodAll_mk0)), rfl, bel.frame _, fun h => by cases h⟩

theorem said : Rows.FnParseStringSaid :=
  OpenClaim.holds_of_wide 6 Tryd.f6 rfl rfl rfl rfl rfl rfl rfl ⟨rfl, rfl, rfl, rfl, rfl⟩ rfl rfl rfl rfl rfl (by kernel_rfl) Tryd.func6 (by kernel_rfl)
    (of_decide_eq_true (by kernel_rfl)) (by unfold Func.isWrapper; first | (rw [if_pos (by decide +kernel)]; kernel_rfl) | (rw [if_neg (by decide +kernel)]; exact ⟨rfl, rfl⟩))
    (fun os started H enc _ => lifted os started H enc)

theorem plain (f : FuncId) (fn : Func) (hf : Tryd.pinned.checked.prog.funcNamed "given.example/pub-brazing/laws.FnParseString" = some f) (hfn : Tryd.pinned.checked.prog.funcs[f]? = some fn) :
    false = Tryd.pinned.checked.prog.looks [] ∧ ∀ (j : Nat) t, fn.params[j]? = some t → Tryd.pinned.checked.prog.wantsStandIn t = false := by
  obtain rfl : f = 6 := Option.some.inj ((show Tryd.prog.funcNamed "given.example/pub-brazing/laws.FnParseString" = some 6 by kernel_rfl).symm.trans hf) |>.symm
  obtain rfl : fn = Tryd.f6 := (Option.some.inj (Tryd.func6.symm.trans hfn)).symm
  refine ⟨by kernel_rfl, fun j t ht => ?_⟩
  rw [Tryd.params6] at ht
  have hm : t ∈ [9, 4] := by simpa using Array.mem_of_getElem? ht
  have hall : ([9, 4].all fun u => !Tryd.prog.wantsStandIn u) = true := by kernel_rfl
  exact (show Tryd.prog.wantsStandIn t = false by simpa using List.all_eq_true.1 hall t hm)

/-- ████ THE CARD ████ -/
theorem card : Rows.FnParseStringCardSaid :=
  Claim7.holds_tied_plain_at .later [] _ _ _ _ said (fun _ h => by cases h) (by kernel_rfl) (fun _ h => by cases h) fnParseString_row_tie rfl ⟨rfl, rfl⟩ (by kernel_rfl) rfl plain (by kernel_rfl)
#print axioms card
end Go.Proofs.YteecbmhkfnlecaaDoor.fnParseString
