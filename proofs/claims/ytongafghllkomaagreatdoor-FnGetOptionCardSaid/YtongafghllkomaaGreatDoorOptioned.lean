/-
  laws.optioned: what its yes tells of a file. No conditions beyond the tables of the decoder.
-/
import Derived.Test.YtongafghllkomaaGreatDoorOption
import Derived.IntWalk
import Derived.Test.YtongafghllkomaaGreatDoorImplGetO
import Derived.Test.YtongafghllkomaaGreatDoorGetP
import Derived.Test.YtongafghllkomaaGreatDoorPlain
namespace Go.Proofs.YtongafghllkomaaGreatDoor
open Go.RowKit
set_option linter.unusedVariables false

/-- What is known of a file's statements by their form alone. -/
theorem stmts_of {n : Nd} (hG : GoodD 12 n) (hk : n.kind = 3) : ∀ (i : Nat) (s : Nd), (n.kid 2).kids[i]? = some s → s.kind ∈ stmtL ∧ (s.kind = 12 → ∃ a, s.kids = [a] ∧ (a.kind = 10 ∨ a.kind = 11) ∧ ∃ x v, a.kids = [x, v] ∧ (a.kind = 10 → x.kind = 33) ∧ v.kind ≠ 0) := by
  obtain ⟨-, -, hP2, hk2, hst, -⟩ := file_kids hG hk
  intro i s hs
  obtain ⟨hPs, -⟩ := hP2.kid (i := i) (x := s) (by omega) hs
  refine ⟨stmt_of hPs (hst s (List.mem_of_getElem? hs)), fun h12 => ?_⟩
  have h1 := (hPs.fit (by omega)).2.2.2.1 (by omega)
  rw [h12, show (fixedL 12).length = 1 from by decide, show restL 12 = 28 from by decide] at h1
  obtain ⟨a, ha⟩ := kids1 (n := s) (by omega)
  have ha0 : s.kids[0]? = some a := by rw [ha]; rfl
  obtain ⟨hPa, hC⟩ := hPs.kid (i := 0) (x := a) (by omega) ha0
  have hca := hC (by omega)
  rw [h12, show (fixedL 12).getD 0 (restL 12) = 12 from by decide] at hca
  have hka : a.kind ∈ ([10, 11] : List Int) := class_few [10, 11] rfl hca
  have hka2 : a.kind = 10 ∨ a.kind = 11 := by simpa using hka
  refine ⟨a, ha, hka2, ?_⟩
  have h2 := (hPa.fit (by omega)).2.2.2.1 (by omega)
  have e1 : (fixedL a.kind).length = 2 ∧ restL a.kind = 28 ∧ (fixedL a.kind).getD 1 (restL a.kind) = 0 := by rcases hka2 with h | h <;> rw [h] <;> decide
  rw [e1.1, e1.2.1] at h2
  obtain ⟨x, v, hxv⟩ := kids2 (n := a) (by omega)
  have hx0 : a.kids[0]? = some x := by rw [hxv]; rfl
  have hv1 : a.kids[1]? = some v := by rw [hxv]; rfl
  obtain ⟨-, hCx⟩ := hPa.kid (i := 0) (x := x) (by omega) hx0
  obtain ⟨-, hCv⟩ := hPa.kid (i := 1) (x := v) (by omega) hv1
  refine ⟨x, v, hxv, fun h10 => ?_, ?_⟩
  · have h := hCx (by omega)
    rw [h10, show (fixedL 10).getD 0 (restL 10) = 3 from by decide] at h
    have := class_few [33] rfl h
    simpa using this
  · have h := hCv (by omega)
    rw [e1.2.2] at h
    exact expr_ne0 (class_0 h)

theorem stmts_ok {n : Nd} (hG : GoodD 12 n) (hk : n.kind = 3) (h : ∀ (i : Nat) (s : Nd), (n.kid 2).kids[i]? = some s → s.kind = 12 → (s.kid 0).kind ≠ 11) : StmtsP (n.kid 2).kids := by
  intro i s hs
  obtain ⟨h1, h2⟩ := stmts_of hG hk i s hs
  refine ⟨h1, fun h12 => ?_⟩
  obtain ⟨a, ha, hka, x, v, hxv, hx, hv⟩ := h2 h12
  have h11 := h i s hs h12
  have ea : s.kid 0 = a := by unfold Nd.kid; rw [ha]; rfl
  rw [ea] at h11
  have h10 : a.kind = 10 := hka.resolve_right h11
  exact ⟨a, x, v, ha, h10, hxv, hx h10, hv⟩

set_option maxRecDepth 100000 in
theorem options_some (D : Nat) (n : Nd) (name : ByteArray) (w : World) (hL : LiesD D w n) (h3 : n.kids.length = 3) (hP : StmtsP (n.kid 2).kids) :
    Calls Tryz.prog 51 #[n.val, .string name] w fun e w' => ∃ z : Int, e = .returned (.int .i64 z) ∧ Below w.heap.size w w' := by
  obtain ⟨D, rfl⟩ : ∃ E, D = E + 1 := by cases D with | zero => exact hL.elim | succ E => exact ⟨E, rfl⟩
  obtain ⟨k, t, m, u, no, ncap, kids⟩ := n
  obtain ⟨x0, x1, x2, rfl⟩ : ∃ x y z, kids = [x, y, z] := file_of (n := .mk k t m u no ncap kids) h3
  show Calls _ _ #[.agg #[.int .i64 k, .string t, .string m, .int .u64 u, .slice no 3 ncap], _] w _
  have e2 : (Nd.mk k t m u no ncap [x0, x1, x2]).kid 2 = x2 := rfl
  rw [e2] at hP
  obtain ⟨b, o, rfl, hc4, hbz, hL2⟩ := third hL
  obtain ⟨D, rfl⟩ : ∃ E, D = E + 1 := by cases D with | zero => exact hL2.elim | succ E => exact ⟨E, rfl⟩
  obtain ⟨k2, t2, m2, u2, ao2, cap2, ss⟩ := x2
  have c4 := hc4 _ ((Below.refl w.heap.size w).alloc (Nat.le_refl _) (.cells #[.int .i64 k, .string t, .string m, .int .u64 u, .slice (some ⟨b, o, none⟩) 3 ncap] 25))
  simp only [Nd.kids, Nd.ao, Nd.cap] at c4 hP
  have hM := hL2.len_le
  obtain ⟨len, hlen⟩ : ∃ len, ss.length = len := ⟨_, rfl⟩
  rw [hlen] at hM c4
  have HN := Lib.hid hlen
  have HL := Lib.hid hL2
  have HP := Lib.hid hP
  have H0 := Lib.hid (show Below w.heap.size w (w.alloc (.cells #[.int .i64 k, .string t, .string m, .int .u64 u, .slice (some ⟨b, o, none⟩) 3 ncap] 25)) from (Below.refl w.heap.size w).alloc (Nat.le_refl _) _)
  clear hlen hL hL2 hP h3 e2 hc4
  go_enter Tryz.func51, Tryz.ntmps51
  go_wp2_with fail
  go_loopg [5, 14] len (fun gk nn i wr => ∃ (j c : Nat), j ≤ len ∧ c ≤ j ∧ gk = len - j ∧ i = .int .i64 (j : Int) ∧ nn = .int .i64 (c : Int) ∧ Hid (Below w.heap.size w wr))
  case atStart => exact ⟨0, 0, by omega, by omega, by omega, rfl, rfl, H0⟩
  case round =>
    obtain ⟨j, c, hj, hcj, rfl, rfl, rfl, hB⟩ := hrel

    by_cases hjn : j < len
    · have hjz : (j : Int) < (len : Int) := by omega
      have hlm : len ≤ 9223372036854775807 := hM
      have hc1 : IntKind.i64.wrap ((c : Int) + 1) = (c : Int) + 1 := IntWalk.i64_in _ (by omega)
      clear hlm
      obtain ⟨s, hs⟩ : ∃ s, ss[j]? = some s := ⟨ss[j]'(by have := HN.out; omega), List.getElem?_eq_getElem _⟩
      obtain ⟨bq, oq, hao, d0, d1, d2, d3, d4, hLs⟩ := kid_cells HL.out hs hB.out
      obtain rfl : ao2 = some ⟨bq, oq, none⟩ := hao
      have HS := Lib.hid hs
      obtain ⟨hks, hop⟩ := HP.out j s hs
      by_cases h12 : s.kind = 12
      · obtain ⟨a, x, v, hsa, hka, hax, hkx, hkv⟩ := hop h12
        have HIS := Lib.hid (optName_is (name := name) h12 hsa hka hax)
        obtain ⟨D, rfl⟩ : ∃ E, D = E + 1 := by cases D with | zero => exact hLs.elim | succ E => exact ⟨E, rfl⟩
        obtain ⟨k3, t3, m3, u3, ao3, cap3, kids3⟩ := s
        obtain rfl : k3 = 12 := h12
        obtain rfl : kids3 = [a] := hsa
        simp only [Nd.kind, Nd.text, Nd.more, Nd.num, Nd.ao, Nd.kids, Nd.cap, List.length_cons, List.length_nil, Nat.zero_add] at d0 d1 d2 d3 d4
        have HBs := Lib.hid (hB.out.alloc hB.out.size (.cells #[.int .i64 12, .string t3, .string m3, .int .u64 u3, .slice ao3 1 cap3] 25))
        obtain ⟨br, orr, hao3, g0, g1, g2, g3, g4, hLa⟩ := kid_cells hLs (j := 0) rfl ((Below.refl _ _).alloc (Nat.le_refl _) (.cells #[.int .i64 12, .string t3, .string m3, .int .u64 u3, .slice ao3 1 cap3] 25))
        obtain rfl : ao3 = some ⟨br, orr, none⟩ := hao3
        simp only [Nat.zero_mul, Nat.add_zero] at g0 g1 g2 g3 g4
        have HLA := Lib.hid hLa
        have HKA := Lib.hid (show a.kind = 10 → 0 < a.kids.length from fun _ => by rw [hax]; simp)
        clear hs hLs hks hop hka hax hkx hkv hLa
        by_cases hkey : (optName a).toList = name.toList
        · have hke : ((optName a).toList == name.toList) = true := by simpa using hkey
          have HE := Lib.hid (bytes_eq hkey)
          clear hkey
          generalize hon : optName a = nm at hke
          have HON := Lib.hid hon
          clear hon
          go_wp2_with fail
          refine (optName_any _ a _ HLA.out HKA.out).mono ?_
          rintro e w1 ⟨rfl, hb1⟩
          rw [HON.out]
          have HB1 := Lib.hid (HBs.out.trans (hb1.mono HBs.out.size))
          clear hb1
          go_wp2_with fail
          go_roundg (len - (j + 1))
          case measure => omega
          case rel => exact ⟨j + 1, c + 1, by omega, by omega, rfl, by push_cast; rfl, by push_cast; rfl, HB1⟩
        · have hke : ((optName a).toList == name.toList) = false := by simpa using hkey
          have HE := Lib.hid hkey
          clear hkey
          generalize hon : optName a = nm at hke
          have HON := Lib.hid hon
          clear hon
          go_wp2_with fail
          refine (optName_any _ a _ HLA.out HKA.out).mono ?_
          rintro e w1 ⟨rfl, hb1⟩
          rw [HON.out]
          have HB1 := Lib.hid (HBs.out.trans (hb1.mono HBs.out.size))
          clear hb1
          go_wp2_with fail
          go_roundg (len - (j + 1))
          case measure => omega
          case rel => exact ⟨j + 1, c, by omega, by omega, rfl, by push_cast; rfl, rfl, HB1⟩
      · have h12b : (s.kind == 12) = false := by simpa using h12
        have HK := Lib.hid h12
        clear hs hLs hks hop h12
        go_wp2_with fail
        go_roundg (len - (j + 1))
        case measure => omega
        case rel => exact ⟨j + 1, c, by omega, by omega, rfl, by push_cast; rfl, rfl, Lib.hid (hB.out.alloc hB.out.size _)⟩
    · have hjz : ¬ (j : Int) < (len : Int) := by omega
      obtain rfl : j = len := by omega
      go_wp2_with fail
      go_ret
      exact ⟨⟨_, rfl⟩, hB.out⟩

set_option maxRecDepth 100000 in
theorem optioned_any (D : Nat) (n : Nd) (name : ByteArray) (w : World) (hL : LiesD D w n) (hR : RoomD D n) (hs : name.size ≤ 2147483647) (hT : Lib.Utf8Tabs 1 2 w) :
    Calls Tryz.prog 19 #[n.val, .string name] w (SomeB (WalkedP n ∧ n.kind = 3 ∧ StmtsP (n.kid 2).kids) w) := by
  have HLN := Lib.hid hL
  have HR := Lib.hid hR
  have HT := Lib.hid hT
  have HS := Lib.hid hs
  have HW := Lib.hid (show ∀ w', Below w.heap.size w w' → Calls Tryz.prog 12 #[n.val] w' (SomeB (WalkedP n) w') from fun w' hb => walked_any D n w' (hL.below hb) hR (tabs_below hT hb))
  clear hL hR hT hs
  obtain ⟨k, t, m, u, no, ncap, kids⟩ := n
  show Calls _ _ #[.agg #[.int .i64 k, .string t, .string m, .int .u64 u, .slice no kids.length ncap], _] w _
  have HW2 := Lib.hid (show ∀ w', Below w.heap.size w w' → Calls Tryz.prog 12 #[.agg #[.int .i64 k, .string t, .string m, .int .u64 u, .slice no kids.length ncap]] w' (SomeB (WalkedP (.mk k t m u no ncap kids)) w') from HW.out)
  clear HW
  by_cases hk : k = 3
  · subst hk
    go_enter Tryz.func19, Tryz.ntmps19
    go_wp2_with fail
    refine (HW2.out _ ((Below.refl _ _).alloc (Nat.le_refl _) _)).mono ?_
    rintro e w1 ⟨b1, rfl, hp1, hb1⟩
    obtain ⟨k0, -⟩ := bblk hb1 (b := w.heap.size) (by simp)
    have HB1 := Lib.hid (((Below.refl w.heap.size w).alloc (Nat.le_refl _) _).trans (hb1.mono (by simp)))
    have HZ1 := Lib.hid hb1
    have HP1 := Lib.hid hp1
    have hz1 : w.heap.size < w1.heap.size := by have := hb1.size; simp at this; omega
    clear hp1 hb1
    cases b1
    · go_wp2_with fail
      go_ret
      exact ⟨_, rfl, (by intro h; cases h), HB1.out⟩
    go_wp2_with fail
    refine (name_some name _ HS.out (tabs_below HT.out HB1.out)).mono ?_
    rintro e w2 ⟨b2, rfl, hb2⟩
    obtain ⟨k1, -⟩ := bblk hb2 (b := w.heap.size) hz1
    have HB2 := Lib.hid (HB1.out.trans (hb2.mono HB1.out.size))
    have HZ2 := Lib.hid (HZ1.out.trans (hb2.mono HZ1.out.size))
    have hz2 : w.heap.size < w2.heap.size := by have := hb2.size; omega
    clear hb2
    cases b2
    · go_wp2_with fail
      go_ret
      exact ⟨_, rfl, (by intro h; cases h), HB2.out⟩
    have HWp := Lib.hid (HP1.out (by first | rfl | trivial))
    have hfk := file_kids HWp.out.1 rfl
    have hsf := stmts_of HWp.out.1 rfl
    obtain ⟨D, rfl⟩ : ∃ E, D = E + 1 := by cases D with | zero => exact HLN.out.elim | succ E => exact ⟨E, rfl⟩
    obtain ⟨x0, x1, x2, rfl⟩ : ∃ x y z, kids = [x, y, z] := file_of (n := .mk 3 t m u no ncap kids) hfk.1
    obtain ⟨b, o, rfl, hc4, hbz, hL2⟩ := third HLN.out
    obtain ⟨D, rfl⟩ : ∃ E, D = E + 1 := by cases D with | zero => exact hL2.elim | succ E => exact ⟨E, rfl⟩
    obtain ⟨k2, t2, m2, u2, ao2, cap2, ss⟩ := x2
    have c4 := hc4 _ HB2.out
    have HL := Lib.hid hL2
    have HSF := Lib.hid (show ∀ (i : Nat) (s : Nd), ss[i]? = some s → s.kind ∈ stmtL ∧ (s.kind = 12 → ∃ a, s.kids = [a] ∧ (a.kind = 10 ∨ a.kind = 11) ∧ ∃ x v, a.kids = [x, v] ∧ (a.kind = 10 → x.kind = 33) ∧ v.kind ≠ 0) from hsf)
    have hM := hL2.len_le
    obtain ⟨len, hlen⟩ : ∃ len, ss.length = len := ⟨_, rfl⟩
    simp only [Nd.kids, Nd.ao, Nd.cap] at c4
    rw [hlen] at hM c4
    have HN := Lib.hid hlen
    clear hlen hL2 hc4 hfk hsf
    go_wp2_with fail
    go_loopg [26] len (fun gk i wr => ∃ (j : Nat), j ≤ len ∧ gk = len - j ∧ i = .int .i64 (j : Int) ∧ Hid (∀ (l : Nat) (r : Nd), l < j → ss[l]? = some r → r.kind = 12 → (r.kid 0).kind ≠ 11) ∧ Hid (Below (w.alloc (.cells #[.int .i64 3, .string t, .string m, .int .u64 u, .slice (some ⟨b, o, none⟩) 3 ncap] 25)).heap.size (w.alloc (.cells #[.int .i64 3, .string t, .string m, .int .u64 u, .slice (some ⟨b, o, none⟩) 3 ncap] 25)) wr))
    case atStart => exact ⟨0, by omega, by omega, rfl, Lib.hid (fun l r h => absurd h (by omega)), HZ2⟩
    case round =>
      obtain ⟨j, hj, rfl, rfl, hD, hZ⟩ := hrel
      have HB := Lib.hid (((Below.refl w.heap.size w).alloc (Nat.le_refl _) (.cells #[.int .i64 3, .string t, .string m, .int .u64 u, .slice (some ⟨b, o, none⟩) 3 ncap] 25)).trans (hZ.out.mono (by simp)))
      obtain ⟨kz, -⟩ := bblk hZ.out (b := w.heap.size) (by simp)
      by_cases hjn : j < len
      · have hjz : (j : Int) < (len : Int) := by omega
        obtain ⟨s, hs⟩ : ∃ s, ss[j]? = some s := ⟨ss[j]'(by have := HN.out; omega), List.getElem?_eq_getElem _⟩
        obtain ⟨bq, oq, hao, d0, d1, d2, d3, d4, hLs⟩ := kid_cells HL.out hs HB.out
        obtain rfl : ao2 = some ⟨bq, oq, none⟩ := hao
        have HSx := Lib.hid hs
        obtain ⟨hks, hop⟩ := HSF.out j s hs
        by_cases h12 : s.kind = 12
        · obtain ⟨a, hsa, hka, -⟩ := hop h12
          obtain ⟨D, rfl⟩ : ∃ E, D = E + 1 := by cases D with | zero => exact hLs.elim | succ E => exact ⟨E, rfl⟩
          obtain ⟨k3, t3, m3, u3, ao3, cap3, kids3⟩ := s
          obtain rfl : k3 = 12 := h12
          obtain rfl : kids3 = [a] := hsa
          simp only [Nd.kind, Nd.text, Nd.more, Nd.num, Nd.ao, Nd.kids, Nd.cap, List.length_cons, List.length_nil, Nat.zero_add] at d0 d1 d2 d3 d4
          obtain ⟨br, orr, hao3, g0, -⟩ := kid_cells hLs (j := 0) rfl ((Below.refl _ _).alloc (Nat.le_refl _) (.cells #[.int .i64 12, .string t3, .string m3, .int .u64 u3, .slice ao3 1 cap3] 25))
          obtain rfl : ao3 = some ⟨br, orr, none⟩ := hao3
          simp only [Nat.zero_mul, Nat.add_zero] at g0
          clear hs hLs hks hop
          rcases hka with hka | hka
          · rw [hka] at g0
            have HKA := Lib.hid hka
            clear hka
            go_wp2_with fail
            go_roundg (len - (j + 1))
            case measure => omega
            case rel =>
              refine ⟨j + 1, by omega, rfl, by push_cast; rfl, Lib.hid (fun l r hl hr hr12 => ?_), Lib.hid (hZ.out.alloc hZ.out.size _)⟩
              by_cases e : l = j
              · subst e
                rw [HSx.out] at hr
                cases hr
                show a.kind ≠ 11
                rw [HKA.out]; decide
              · exact hD.out l r (by omega) hr hr12
          · rw [hka] at g0
            clear hka
            go_wp2_with fail
            go_ret
            exact ⟨_, rfl, (by intro h; cases h), HB.out.alloc HB.out.size _⟩
        · have h12b : (s.kind == 12) = false := by simpa using h12
          have HK := Lib.hid h12
          clear hs hLs hks hop h12
          go_wp2_with fail
          go_roundg (len - (j + 1))
          case measure => omega
          case rel =>
            refine ⟨j + 1, by omega, rfl, by push_cast; rfl, Lib.hid (fun l r hl hr hr12 => ?_), Lib.hid (hZ.out.alloc hZ.out.size _)⟩
            by_cases e : l = j
            · subst e
              rw [HSx.out] at hr
              cases hr
              exact absurd hr12 HK.out
            · exact hD.out l r (by omega) hr hr12
      · have hjz : ¬ (j : Int) < (len : Int) := by omega
        obtain rfl : j = len := by omega
        have HST := Lib.hid (show StmtsP ss from stmts_ok HWp.out.1 rfl (fun l r hr hr12 => hD.out l r (by have h1 : l < ss.length := (List.getElem?_eq_some_iff.1 hr).1; have := HN.out; omega) hr hr12))
        go_wp2_with fail
        refine (options_some (D + 1 + 1) (.mk 3 t m u (some ⟨b, o, none⟩) ncap [x0, x1, .mk k2 t2 m2 u2 ao2 cap2 ss]) name _ (HLN.out.below HB.out) rfl HST.out).mono ?_
        rintro e w3 ⟨z, rfl, hb3⟩
        have HB3 := Lib.hid (HB.out.trans (hb3.mono HB.out.size))
        clear hb3
        go_wp2_with fail
        go_ret
        exact ⟨_, rfl, fun _ => ⟨HWp.out, rfl, HST.out⟩, HB3.out⟩
  · have g0 : (k != 3) = true := by simpa using hk
    clear hk
    go_enter Tryz.func19, Tryz.ntmps19
    go_wp2_with fail
    refine (HW2.out _ ((Below.refl _ _).alloc (Nat.le_refl _) _)).mono ?_
    rintro e w1 ⟨b1, rfl, hp1, hb1⟩
    obtain ⟨k0, -⟩ := bblk hb1 (b := w.heap.size) (by simp)
    have HB1 := Lib.hid (((Below.refl w.heap.size w).alloc (Nat.le_refl _) _).trans (hb1.mono (by simp)))
    clear hp1 hb1
    cases b1
    · go_wp2_with fail
      go_ret
      exact ⟨_, rfl, (by intro h; cases h), HB1.out⟩
    · go_wp2_with fail
      go_ret
      exact ⟨_, rfl, (by intro h; cases h), HB1.out⟩
end Go.Proofs.YtongafghllkomaaGreatDoor
