/-
  spec.Option, spec.Options and optionName: the place of the first option of a name. No conditions.
-/
import Derived.Test.YtongafghllkomaaGreatDoorGetO
namespace Go.Proofs.YtongafghllkomaaGreatDoor
open Go.RowKit
set_option linter.unusedVariables false

/-- The name that an assignment sets. -/
def optName (a : Nd) : ByteArray := if a.kind = 10 then (a.kid 0).text else ⟨#[]⟩

set_option maxRecDepth 100000 in
theorem optName_any (D : Nat) (a : Nd) (w : World) (hL : LiesD D w a) (hk : a.kind = 10 → 0 < a.kids.length) :
    Calls Tryz.prog 52 #[a.val] w fun e w' => e = .returned (.string (optName a)) ∧ Below w.heap.size w w' := by
  obtain ⟨D, rfl⟩ : ∃ E, D = E + 1 := by cases D with | zero => exact hL.elim | succ E => exact ⟨E, rfl⟩
  obtain ⟨k, t, m, u, ao, cap, kids⟩ := a
  show Calls _ _ #[.agg #[.int .i64 k, .string t, .string m, .int .u64 u, .slice ao kids.length cap]] w _
  by_cases h10 : k = 10
  · subst h10
    have hl : 0 < kids.length := hk rfl
    obtain ⟨x, hx⟩ : ∃ x, kids[0]? = some x := ⟨kids[0]'hl, List.getElem?_eq_getElem _⟩
    obtain ⟨b, o, hao, -, c1, -⟩ := kid_cells hL hx ((Below.refl _ _).alloc (Nat.le_refl _) (.cells #[.int .i64 10, .string t, .string m, .int .u64 u, .slice ao kids.length cap] 25))
    obtain rfl : ao = some ⟨b, o, none⟩ := hao
    simp only [Nat.zero_mul, Nat.add_zero] at c1
    have he : optName (.mk 10 t m u (some ⟨b, o, none⟩) cap kids) = x.text := by
      unfold optName Nd.kid
      simp only [Nd.kind, Nd.kids, if_true]
      rw [List.getD_eq_getElem?_getD, hx]; rfl
    rw [he]
    generalize kids.length = len at hl c1 ⊢
    clear he hL hk hx
    go_enter Tryz.func52, Tryz.ntmps52
    go_wp2_with fail
    go_ret
    exact ⟨rfl, (Below.refl _ _).alloc (Nat.le_refl _) _⟩
  · have g0 : (k == 10) = false := by simpa using h10
    have he : optName (.mk k t m u ao cap kids) = ⟨#[]⟩ := by
      unfold optName
      rw [if_neg (show ¬ (Nd.mk k t m u ao cap kids).kind = 10 from h10)]
    rw [he]
    clear he h10 hL hk
    go_enter Tryz.func52, Tryz.ntmps52
    go_wp2_with fail
    go_ret
    exact ⟨rfl, (Below.refl _ _).alloc (Nat.le_refl _) _⟩

/-- A file's statements, in its third kid. -/
theorem file_of {n : Nd} (h : n.kids.length = 3) : ∃ x y z, n.kids = [x, y, z] := kids3 h

/-- The place of the first option of a name; none. -/
def OptAt (ss : List Nd) (name : ByteArray) (z : Int) : Prop := (∃ (i : Nat) (s : Nd), z = (i : Int) ∧ FirstOpt ss name i s) ∨ (z = -1 ∧ NoOpt ss name)

theorem optName_is {s a x v : Nd} {name : ByteArray} (h12 : s.kind = 12) (hsa : s.kids = [a]) (hka : a.kind = 10) (hax : a.kids = [x, v]) : IsOpt s name ↔ optName a = name := by
  have ea : s.kid 0 = a := by unfold Nd.kid; rw [hsa]; rfl
  unfold IsOpt optName
  rw [ea, if_pos hka]
  exact ⟨fun h => h.2, fun h => ⟨h12, h⟩⟩

/-- A file's third kid: its statements, in a later world. -/
theorem third {D : Nat} {w : World} {k : Int} {t m : ByteArray} {u : Int} {no : Option Addr} {ncap : Nat} {x0 x1 x2 : Nd} (hL : LiesD (D + 1) w (.mk k t m u no ncap [x0, x1, x2])) :
    ∃ b o, no = some ⟨b, o, none⟩ ∧ (∀ W, Below w.heap.size w W → W.cell? ⟨b, o + 10 + 4, none⟩ = some (.slice x2.ao x2.kids.length x2.cap)) ∧ b < w.heap.size ∧ LiesD D w x2 := by
  obtain ⟨b, o, hao, -, -, -, -, c4, hL2⟩ := kid_cells hL (j := 2) rfl (Below.refl _ _)
  refine ⟨b, o, hao, fun W hb => ?_, World.block_lt_of_cell? _ _ c4, hL2⟩
  exact (hb.cell (p := ⟨b, o + 2 * 5 + 4, none⟩) (World.block_lt_of_cell? _ _ c4)).trans c4

set_option maxRecDepth 100000 in
theorem option_at (D : Nat) (n : Nd) (name : ByteArray) (w : World) (hL : LiesD D w n) (h3 : n.kids.length = 3) (hP : StmtsP (n.kid 2).kids) :
    Calls Tryz.prog 20 #[n.val, .string name] w fun e w' => ∃ z : Int, e = .returned (.int .i64 z) ∧ OptAt (n.kid 2).kids name z ∧ Below w.heap.size w w' := by
  obtain ⟨D, rfl⟩ : ∃ E, D = E + 1 := by cases D with | zero => exact hL.elim | succ E => exact ⟨E, rfl⟩
  obtain ⟨k, t, m, u, no, ncap, kids⟩ := n
  obtain ⟨x0, x1, x2, rfl⟩ : ∃ x y z, kids = [x, y, z] := file_of (n := .mk k t m u no ncap kids) h3
  show Calls _ _ #[.agg #[.int .i64 k, .string t, .string m, .int .u64 u, .slice no 3 ncap], _] w _
  have e2 : (Nd.mk k t m u no ncap [x0, x1, x2]).kid 2 = x2 := rfl
  rw [e2] at hP ⊢
  obtain ⟨b, o, rfl, hc4, hbz, hL2⟩ := third hL
  obtain ⟨D, rfl⟩ : ∃ E, D = E + 1 := by cases D with | zero => exact hL2.elim | succ E => exact ⟨E, rfl⟩
  obtain ⟨k2, t2, m2, u2, ao2, cap2, ss⟩ := x2
  have c4 := hc4 _ ((Below.refl w.heap.size w).alloc (Nat.le_refl _) (.cells #[.int .i64 k, .string t, .string m, .int .u64 u, .slice (some ⟨b, o, none⟩) 3 ncap] 25))
  simp only [Nd.kids, Nd.ao, Nd.cap] at c4 hP ⊢
  have hM := hL2.len_le
  obtain ⟨len, hlen⟩ : ∃ len, ss.length = len := ⟨_, rfl⟩
  rw [hlen] at hM c4
  have HN := Lib.hid hlen
  have HL := Lib.hid hL2
  have HP := Lib.hid hP
  have H0 := Lib.hid (show Below w.heap.size w (w.alloc (.cells #[.int .i64 k, .string t, .string m, .int .u64 u, .slice (some ⟨b, o, none⟩) 3 ncap] 25)) from (Below.refl w.heap.size w).alloc (Nat.le_refl _) _)
  clear hlen hL hL2 hP h3 e2 hc4
  go_enter Tryz.func20, Tryz.ntmps20
  go_wp2_with fail
  go_loopg [13] len (fun gk i wr => ∃ (j : Nat), j ≤ len ∧ gk = len - j ∧ i = .int .i64 (j : Int) ∧ Hid (∀ (l : Nat) (r : Nd), l < j → ss[l]? = some r → ¬ IsOpt r name) ∧ Hid (Below w.heap.size w wr))
  case atStart => exact ⟨0, by omega, by omega, rfl, Lib.hid (fun l r h => absurd h (by omega)), H0⟩
  case round =>
    obtain ⟨j, hj, rfl, rfl, hD, hB⟩ := hrel
    by_cases hjn : j < len
    · have hjz : (j : Int) < (len : Int) := by omega
      obtain ⟨s, hs⟩ : ∃ s, ss[j]? = some s := ⟨ss[j]'(by have := HN.out; omega), List.getElem?_eq_getElem _⟩
      obtain ⟨bq, oq, hao, d0, d1, d2, d3, d4, hLs⟩ := kid_cells HL.out hs hB.out
      obtain rfl : ao2 = some ⟨bq, oq, none⟩ := hao
      have HS := Lib.hid hs
      obtain ⟨hks, hop⟩ := HP.out j s hs
      by_cases h12 : s.kind = 12
      · obtain ⟨a, x, v, hsa, hka, hax, hkx, hkv⟩ := hop h12
        have HIS := Lib.hid (optName_is (name := name) h12 hsa hka hax)
        obtain ⟨D, rfl⟩ : ∃ E, D = E + 1 := by cases D with | zero => exact hLs.elim | succ E => exact ⟨E, rfl⟩
        obtain ⟨k3, t3, m3, u3, ao3, cap3, kids3⟩ := s
        obtain rfl : k3 = 12 := h12
        obtain rfl : kids3 = [a] := hsa
        simp only [Nd.kind, Nd.text, Nd.more, Nd.num, Nd.ao, Nd.kids, Nd.cap, List.length_cons, List.length_nil, Nat.zero_add] at d0 d1 d2 d3 d4
        have HBs := Lib.hid (hB.out.alloc hB.out.size (.cells #[.int .i64 12, .string t3, .string m3, .int .u64 u3, .slice ao3 1 cap3] 25))
        obtain ⟨br, orr, hao3, g0, g1, g2, g3, g4, hLa⟩ := kid_cells hLs (j := 0) rfl ((Below.refl _ _).alloc (Nat.le_refl _) (.cells #[.int .i64 12, .string t3, .string m3, .int .u64 u3, .slice ao3 1 cap3] 25))
        obtain rfl : ao3 = some ⟨br, orr, none⟩ := hao3
        simp only [Nat.zero_mul, Nat.add_zero] at g0 g1 g2 g3 g4
        have HLA := Lib.hid hLa
        have HKA := Lib.hid (show a.kind = 10 → 0 < a.kids.length from fun _ => by rw [hax]; simp)
        clear hs hLs hks hop hka hax hkx hkv hLa
        by_cases hkey : (optName a).toList = name.toList
        · have hke : ((optName a).toList == name.toList) = true := by simpa using hkey
          have HE := Lib.hid (bytes_eq hkey)
          clear hkey
          generalize hon : optName a = nm at hke
          have HON := Lib.hid hon
          clear hon
          go_wp2_with fail
          refine (optName_any _ a _ HLA.out HKA.out).mono ?_
          rintro e w1 ⟨rfl, hb1⟩
          rw [HON.out]
          have HB1 := Lib.hid (HBs.out.trans (hb1.mono HBs.out.size))
          clear hb1
          go_wp2_with fail
          go_ret
          exact ⟨_, rfl, Or.inl ⟨j, _, rfl, HS.out, HIS.out.2 HE.out, hD.out⟩, HB1.out⟩
        · have hke : ((optName a).toList == name.toList) = false := by simpa using hkey
          have HE := Lib.hid hkey
          clear hkey
          generalize hon : optName a = nm at hke
          have HON := Lib.hid hon
          clear hon
          go_wp2_with fail
          refine (optName_any _ a _ HLA.out HKA.out).mono ?_
          rintro e w1 ⟨rfl, hb1⟩
          rw [HON.out]
          have HB1 := Lib.hid (HBs.out.trans (hb1.mono HBs.out.size))
          clear hb1
          go_wp2_with fail
          go_roundg (len - (j + 1))
          case measure => omega
          case rel =>
            refine ⟨j + 1, by omega, rfl, by push_cast; rfl, Lib.hid (fun l r hl hr => ?_), HB1⟩
            by_cases e : l = j
            · subst e
              rw [HS.out] at hr
              cases hr
              exact fun h => HE.out (by rw [HIS.out.1 h])
            · exact hD.out l r (by omega) hr
      · have h12b : (s.kind == 12) = false := by simpa using h12
        have HK := Lib.hid h12
        clear hs hLs hks hop h12
        go_wp2_with fail
        go_roundg (len - (j + 1))
        case measure => omega
        case rel =>
          refine ⟨j + 1, by omega, rfl, by push_cast; rfl, Lib.hid (fun l r hl hr => ?_), Lib.hid (hB.out.alloc hB.out.size _)⟩
          by_cases e : l = j
          · subst e
            rw [HS.out] at hr
            cases hr
            exact fun h => HK.out h.1
          · exact hD.out l r (by omega) hr
    · have hjz : ¬ (j : Int) < (len : Int) := by omega
      obtain rfl : j = len := by omega
      go_wp2_with fail
      go_ret
      exact ⟨_, rfl, Or.inr ⟨rfl, fun l r hr => hD.out l r (by have := (List.getElem?_eq_some_iff.1 hr).1; have := HN.out; omega) hr⟩, hB.out⟩

set_option maxRecDepth 100000 in
theorem optValue_any (D : Nat) (n : Nd) (i : Nat) (s a x v : Nd) (w : World) (hL : LiesD D w n) (h3 : n.kids.length = 3) (hs : (n.kid 2).kids[i]? = some s) (hsa : s.kids = [a]) (hax : a.kids = [x, v]) :
    Calls Tryz.prog 24 #[n.val, .int .i64 (i : Int)] w fun e w' => e = .returned (.agg #[.int .i64 v.kind, .string v.text, .string v.more, .int .u64 v.num, .slice v.ao v.kids.length v.cap]) ∧ Below w.heap.size w w' := by
  obtain ⟨D, rfl⟩ : ∃ E, D = E + 1 := by cases D with | zero => exact hL.elim | succ E => exact ⟨E, rfl⟩
  obtain ⟨k, t, m, u, no, ncap, kids⟩ := n
  obtain ⟨x0, x1, x2, rfl⟩ : ∃ x y z, kids = [x, y, z] := file_of (n := .mk k t m u no ncap kids) h3
  show Calls _ _ #[.agg #[.int .i64 k, .string t, .string m, .int .u64 u, .slice no 3 ncap], _] w _
  have e2 : (Nd.mk k t m u no ncap [x0, x1, x2]).kid 2 = x2 := rfl
  rw [e2] at hs
  obtain ⟨b, o, rfl, hc4, hbz, hL2⟩ := third hL
  have hW : Below w.heap.size w ((w.alloc (.cells #[.int .i64 k, .string t, .string m, .int .u64 u, .slice (some ⟨b, o, none⟩) 3 ncap] 25)).alloc (.cells #[.int .i64 0, .string ⟨#[]⟩, .string ⟨#[]⟩, .int .u64 0, .slice none 0 0] 25)) := ((Below.refl w.heap.size w).alloc (Nat.le_refl _) _).alloc (by simp) _
  have HW := Lib.hid ((Below.refl w.heap.size w).alloc (Nat.le_refl _) (.cells #[.int .i64 k, .string t, .string m, .int .u64 u, .slice (some ⟨b, o, none⟩) 3 ncap] 25))
  obtain ⟨D, rfl⟩ : ∃ E, D = E + 1 := by cases D with | zero => exact hL2.elim | succ E => exact ⟨E, rfl⟩
  obtain ⟨k2, t2, m2, u2, ao2, cap2, ss⟩ := x2
  have hs : ss[i]? = some s := hs
  have c4 := hc4 _ hW
  obtain ⟨bq, oq, hao, -, -, -, -, d4, hLs⟩ := kid_cells hL2 hs hW
  obtain rfl : ao2 = some ⟨bq, oq, none⟩ := hao
  obtain ⟨D, rfl⟩ : ∃ E, D = E + 1 := by cases D with | zero => exact hLs.elim | succ E => exact ⟨E, rfl⟩
  obtain ⟨k3, t3, m3, u3, ao3, cap3, kids3⟩ := s
  obtain rfl : kids3 = [a] := hsa
  obtain ⟨br, orr, hao3, -, -, -, -, g4, hLa⟩ := kid_cells hLs (j := 0) rfl (Below.refl _ _)
  obtain rfl : ao3 = some ⟨br, orr, none⟩ := hao3
  obtain ⟨D, rfl⟩ : ∃ E, D = E + 1 := by cases D with | zero => exact hLa.elim | succ E => exact ⟨E, rfl⟩
  obtain ⟨k4, t4, m4, u4, ao4, cap4, kids4⟩ := a
  obtain rfl : kids4 = [x, v] := hax
  obtain ⟨bs, os, hao4, q0, q1, q2, q3, q4, -⟩ := kid_cells hLa (j := 1) rfl (Below.refl _ _)
  obtain rfl : ao4 = some ⟨bs, os, none⟩ := hao4
  simp only [Nd.kids, Nd.ao, Nd.cap, List.length_cons, List.length_nil, Nat.zero_add, Nat.reduceAdd, Nat.zero_mul, Nat.add_zero] at c4 d4 g4
  simp only [Nat.one_mul] at q0 q1 q2 q3 q4
  have hi' : i < ss.length := (List.getElem?_eq_some_iff.1 hs).1
  have hil : (i : Int) < (ss.length : Int) := by omega
  clear hi'
  have hi0 : (0 : Int) ≤ (i : Int) := by omega
  generalize ss.length = len at hil c4
  clear hL hL2 hLs hLa h3 e2 hs hc4 hW
  go_enter Tryz.func24, Tryz.ntmps24
  go_wp2_with fail
  refine bodyPost_ret (v := .agg #[.int .i64 v.kind, .string v.text, .string v.more, .int .u64 v.num, .slice v.ao v.kids.length v.cap]) (by simp [results, Tryz.f24, go_sem]) rfl ⟨rfl, ?_⟩
  exact HW.out.alloc HW.out.size _
end Go.Proofs.YtongafghllkomaaGreatDoor
