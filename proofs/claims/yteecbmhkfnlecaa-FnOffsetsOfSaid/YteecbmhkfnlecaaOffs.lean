/-
  FnOffsetsOf: for every list of line offsets and every list of places the law returns true. No conditions.
-/
import Derived.Test.YteecbmhkfnlecaaFile
import Derived.ProofKit
import Derived.OpenShut
import Derived.ChangeSlices
import Derived.Deep.SlicePairs
namespace Go.Proofs.Yteecbmhkfnlecaa.fnOffsetsOf
open Go.ChangeShapes Go.WideShapes Go.ChangeAt Go.RowKit Go.Deep
set_option linter.unusedVariables false

set_option maxHeartbeats 400000 in
set_option maxRecDepth 100000 in
theorem rising_any (ao : Option Addr) (zs : List Int) (n cap : Nat) (w : World) (hn : zs.length = n) (hM : n ≤ 2147483647) (HL : IntsIn ao zs w) :
    Calls Try.prog 14 #[.slice ao n cap] w fun e w' => w' = w ∧ ∃ b, e = .returned (.bool b) ∧ (b = true → n ≤ 50 ∧ ∀ (k : Nat) (z y : Int), (0 :: zs)[k]? = some z → zs[k]? = some y → z < y ∧ y ≤ 2000) := by
  have HL := Lib.hid HL
  have HN := Lib.hid hn
  clear hn
  go_enter Try.func14, Try.ntmps14
  go_wp2_with fail
  go_loopg [3, 8] n (fun gk p i wr => wr = w ∧ ∃ (k : Nat) (z : Int), k ≤ n ∧ gk = n - k ∧ i = .int .i64 (k : Int) ∧ p = .int .i64 z ∧ Hid ((0 :: zs)[k]? = some z) ∧ Hid (∀ (j : Nat) (z y : Int), j < k → (0 :: zs)[j]? = some z → zs[j]? = some y → z < y ∧ y ≤ 2000))
  case atStart => exact ⟨rfl, 0, 0, by omega, by omega, rfl, rfl, Lib.hid rfl, Lib.hid (fun j z y h => by omega)⟩
  case round =>
    obtain ⟨rfl, k, z, hk, rfl, rfl, rfl, hz, hall⟩ := hrel
    by_cases hkn : k < n
    · have hkz : (k : Int) < (n : Int) := by omega
      have hlen := HN.out
      obtain ⟨y, hy⟩ : ∃ y, zs[k]? = some y := ⟨zs[k]'(by omega), List.getElem?_eq_getElem _⟩
      obtain ⟨a, rfl, hc⟩ := HL.out k y hy
      have HY := Lib.hid hy
      clear hy hlen
      by_cases h1 : y ≤ z
      · go_wp2_with fail
        go_ret
        first | exact ⟨rfl, Or.inl rfl⟩ | exact ⟨rfl, false, rfl, by simp⟩
      · by_cases h2 : 2000 < y
        · go_wp2_with fail
          go_ret
          first | exact ⟨rfl, Or.inl rfl⟩ | exact ⟨rfl, false, rfl, by simp⟩
        · go_wp2_with fail
          go_roundg (n - (k + 1))
          case measure => omega
          case rel =>
            refine ⟨rfl, k + 1, y, by omega, rfl, by push_cast; rfl, rfl, Lib.hid (by simpa using HY.out), Lib.hid ?_⟩
            intro j z' y' hj e1 e2
            by_cases hjk : j < k
            · exact hall.out j z' y' hjk e1 e2
            · obtain rfl : j = k := by omega
              rw [hz.out] at e1; rw [HY.out] at e2
              cases e1; cases e2
              omega
    · have hkz : ¬ (k : Int) < (n : Int) := by omega
      obtain rfl : k = n := by omega
      go_wp2_with fail
      go_ret
      by_cases h50 : k ≤ 50
      · refine ⟨rfl, Or.inr ⟨by simp; omega, h50, fun j z y e1 e2 => hall.out j z y ?_ e1 e2⟩⟩
        have := (List.getElem?_eq_some_iff.1 e2).1
        have := HN.out
        omega
      · exact ⟨rfl, Or.inl (by simp; omega)⟩


set_option maxHeartbeats 400000 in
set_option maxRecDepth 100000 in
theorem same_any (ao bo : Option Addr) (zs : List Int) (n cap cap' : Nat) (w : World) (hn : zs.length = n) (hM : n ≤ 2147483647) (HA : IntsIn ao zs w) (HB : IntsIn bo zs w) :
    Calls Try.prog 15 #[.slice ao n cap, .slice bo n cap'] w fun e w' => e = .returned (.bool true) ∧ Below w.heap.size w w' := by
  have HN := Lib.hid hn
  have HA := Lib.hid HA
  have HB := Lib.hid HB
  clear hn
  go_enter Try.func15, Try.ntmps15
  go_wp2_with fail
  go_loopg [13] n (fun gk i wr => ∃ k : Nat, k ≤ n ∧ gk = n - k ∧ i = .int .i64 (k : Int) ∧ Hid (Below w.heap.size w wr))
  case atStart => exact ⟨0, by omega, by omega, rfl, Lib.hid (Below.refl _ _)⟩
  case round =>
    obtain ⟨k, hk, rfl, rfl, hbw⟩ := hrel
    by_cases hkn : k < n
    · have hkz : (k : Int) < (n : Int) := by omega
      have hlen := HN.out
      obtain ⟨y, hy⟩ : ∃ y, zs[k]? = some y := ⟨zs[k]'(by omega), List.getElem?_eq_getElem _⟩
      obtain ⟨a, rfl, hc⟩ := HA.out k y hy
      obtain ⟨b, rfl, hd⟩ := HB.out k y hy
      have hc := (hbw.out.cell (World.block_lt_of_cell? _ _ hc)).trans hc
      have hd := (hbw.out.cell (World.block_lt_of_cell? _ _ hd)).trans hd
      clear hlen hy
      go_wp2_with fail
      go_quiet (fail)
      go_wp2_with fail
      have HB2 := Lib.hid (hbw.out.trans (Below.mono (⟨rfl, rfl, rfl, Nat.le_refl _, fun _ _ => rfl⟩ : Below wr.heap.size wr (wr.drewN nq)) hbw.out.size))
      clear hc hd
      go_roundg (n - (k + 1))
      case measure => omega
      case rel => exact ⟨k + 1, by omega, rfl, by push_cast; rfl, HB2⟩
    · have hkz : ¬ (k : Int) < (n : Int) := by omega
      obtain rfl : k = n := by omega
      go_wp2_with fail
      go_ret
      exact ⟨rfl, hbw.out⟩

/-- Places that came in: two whole numbers each. -/
def RawIn (po : Option Addr) (qs : List (Int × Int)) (w : World) : Prop :=
  ∀ (k : Nat) (l c : Int), qs[k]? = some (l, c) → ∃ a, po = some a ∧ w.cell? (a.add (k * 2)) = some (.int .i64 l) ∧ w.cell? (a.add (k * 2 + 1)) = some (.int .i64 c)
def toP (q : Int × Int) : Nat × Int := ((q.1 - 1).toNat, q.2)
def Fine (n : Nat) (q : Int × Int) : Prop := 1 ≤ q.1 ∧ q.1 ≤ (n : Int) + 1 ∧ 1 ≤ q.2 ∧ q.2 ≤ 1000

theorem RawIn.places {po : Option Addr} {qs : List (Int × Int)} {n : Nat} {w w' : World} (h : RawIn po qs w) (hb : Below w.heap.size w w') (hf : ∀ q ∈ qs, Fine n q) : PlacesIn po (qs.map toP) w' := by
  intro k l c hk
  rw [List.getElem?_map] at hk
  obtain ⟨⟨l0, c0⟩, hq, e0⟩ := Option.map_eq_some_iff.1 hk
  simp only [toP, Prod.mk.injEq] at e0
  obtain ⟨rfl, rfl⟩ := e0
  obtain ⟨a, ha, h1, h2⟩ := h k l0 c0 hq
  have := hf _ (List.mem_of_getElem? hq)
  have e : ((l0 - 1).toNat : Int) + 1 = l0 := by have := this.1; simp at this; omega
  exact ⟨a, ha, by rw [e]; exact (hb.cell (World.block_lt_of_cell? _ _ h1)).trans h1, (hb.cell (World.block_lt_of_cell? _ _ h2)).trans h2⟩

theorem own_slice {w : World} {B n : Nat} {v : Value} {zs : List Int} (h : w.ownsRow B 3 1 v n (ints zs)) : ∃ ao cap, v = .slice ao n cap ∧ IntsIn ao zs w := by
  have hl := h.1
  simp at hl
  rcases h.2 with ⟨rfl, rfl⟩ | ⟨g, cap, cur, rfl, hg⟩
  · refine ⟨none, 0, rfl, fun k z hk => ?_⟩
    have := (List.getElem?_eq_some_iff.1 hk).1
    omega
  · refine ⟨_, cap, rfl, fun k z hk => ⟨_, rfl, h.cells (g := g) rfl k _ (by simp [ints, hk])⟩⟩

theorem rise_pos {zs : List Int} (h : ∀ (k : Nat) (z y : Int), (0 :: zs)[k]? = some z → zs[k]? = some y → z < y ∧ y ≤ 2000) : ∀ (j : Nat) (z : Int), zs[j]? = some z → 0 ≤ z ∧ z ≤ 2000 := by
  intro j
  induction j with
  | zero =>
    intro z hz
    have := h 0 0 z rfl hz
    omega
  | succ j ih =>
    intro z hz
    have hl := (List.getElem?_eq_some_iff.1 hz).1
    have hy : zs[j]? = some (zs[j]'(by omega)) := List.getElem?_eq_getElem _
    have h1 := ih _ hy
    have := h (j + 1) (zs[j]'(by omega)) z (by simp) hz
    omega

set_option maxHeartbeats 1600000 in
set_option maxRecDepth 100000 in
theorem walk (ao po : Option Addr) (zs : List Int) (qs : List (Int × Int)) (n cap m pcap : Nat) (w : World) (hn : zs.length = n) (hm : qs.length = m) (hnM : n ≤ maxLen) (hmM : m ≤ maxLen) (HL : IntsIn ao zs w) (HP : RawIn po qs w) :
    Calls Try.prog 6 #[.slice ao n cap, .slice po m pcap] w fun e w' => e = .returned (.bool true) ∧ Below w.heap.size w w' := by
  unfold maxLen at hnM hmM
  have HN := Lib.hid hn
  have HM := Lib.hid hm
  have HL0 := Lib.hid HL
  have HP0 := Lib.hid HP
  clear hn hm HL HP
  by_cases h1 : 2147483647 < n
  · go_enter Try.func6, Try.ntmps6
    go_wp2_with fail
    go_ret
    exact ⟨rfl, Below.refl _ _⟩
  by_cases h2 : 2147483647 < m
  · go_enter Try.func6, Try.ntmps6
    go_wp2_with fail
    go_ret
    exact ⟨rfl, Below.refl _ _⟩
  go_enter Try.func6, Try.ntmps6
  go_wp2_with fail
  have h3 : ¬ 2147483647 < (n : Int) := by omega
  have h4 : ¬ 2147483647 < (m : Int) := by omega
  refine (offsetsOf_any _ _ [5] [(1, 2)] 1 1 1 1 _ rfl rfl (by omega) ?i1 ?i2 ?i3 ?i4 ?i5 (by omega)).mono ?_
  case i1 =>
    intro k z hk
    match k, hk with
    | 0, hk => simp at hk; subst hk; exact ⟨_, rfl, by simp [Addr.add]⟩
  case i2 =>
    intro k l c hk
    match k, hk with
    | 0, hk => simp at hk; obtain ⟨rfl, rfl⟩ := hk; exact ⟨_, rfl, by simp [Addr.add], by simp [Addr.add]⟩
  case i3 =>
    intro k z y h1 h2
    match k, h1, h2 with
    | 0, h1, h2 => simp at h1 h2; omega
  case i4 => intro z hz; simp at hz; omega
  case i5 => intro q hq; simp at hq; subst hq; simp
  rintro e w1 ⟨v, rfl, hown, hb⟩
  obtain ⟨g, cp, rfl, hg0, hg1⟩ := hown.form (by omega)
  have cv : w1.cell? ⟨g, 0, none⟩ = some (.int .i64 6) := by
    have := hown.cells (g := g) rfl 0 (.int .i64 6) (by rfl)
    rwa [add0] at this
  have hb1 : Below w.heap.size w w1 := (((Below.refl w.heap.size w).alloc (Nat.le_refl _) _).alloc (by simp) _).trans (hb.mono (by simp; omega))
  have HB1 := Lib.hid hb1
  have HL1 := Lib.hid (HL0.out.below hb1)
  clear hown hb hb1
  go_wp2_with fail
  refine (rising_any ao zs n cap w1 HN.out (by omega) HL1.out).mono ?_
  rintro e w1' ⟨rfl, b, rfl, hris⟩
  have HRI := Lib.hid hris
  clear hris
  cases b
  · go_wp2_with fail
    go_ret
    exact ⟨rfl, HB1.out⟩
  by_cases h5 : 50 < m
  · have h5z : (50 : Int) < (m : Int) := by omega
    go_wp2_with fail
    go_ret
    exact ⟨rfl, HB1.out⟩
  have h5z : ¬ (50 : Int) < (m : Int) := by omega
  obtain ⟨hn50, hr⟩ := HRI.out rfl
  have HR := Lib.hid hr
  clear hr HRI
  go_wp2_with fail
  have HOWN0 : Hid (w1'.ownsRow w.heap.size 3 1 (.slice none 0 0) 0 (ints ((qs.take 0).map (fun q => offAt zs (toP q))))) := Lib.hid ⟨rfl, .inl ⟨rfl, rfl⟩⟩
  go_loopg [8, 52] m (fun gk v i wr => ∃ (k : Nat) (vo : Option Addr) (vc : Nat), k ≤ m ∧ gk = m - k ∧ i = .int .i64 (k : Int) ∧ v = .slice vo k vc ∧ Hid (wr.ownsRow w.heap.size 3 1 (.slice vo k vc) k (ints ((qs.take k).map (fun q => offAt zs (toP q))))) ∧ Hid (Below w.heap.size w wr) ∧ Hid (∀ q ∈ qs.take k, Fine n q))
  case atStart => exact ⟨0, none, 0, by omega, by omega, rfl, rfl, HOWN0, HB1, Lib.hid (by simp)⟩
  case round =>
    obtain ⟨k, vo, vc, hk, rfl, rfl, rfl, HO, HB, HF⟩ := hrel
    clear HOWN0 HB1 HL1 cv
    by_cases hkm : k < m
    · have hkz : (k : Int) < (m : Int) := by omega
      obtain ⟨l, c, hq⟩ : ∃ l c, qs[k]? = some (l, c) := ⟨(qs[k]'(by have := HM.out; omega)).1, (qs[k]'(by have := HM.out; omega)).2, List.getElem?_eq_getElem _⟩
      obtain ⟨a, rfl, hc1, hc2⟩ := HP0.out k l c hq
      have hc1 := (HB.out.cell (World.block_lt_of_cell? _ _ hc1)).trans hc1
      have hc2 := (HB.out.cell (World.block_lt_of_cell? _ _ hc2)).trans hc2
      rw [add_two] at hc2
      have HQ := Lib.hid hq
      clear hq
      have HBa := Lib.hid (HB.out.alloc HB.out.size (.cells #[.int .i64 l, .int .i64 c] 24))
      by_cases g1 : l < 1
      · go_wp2_with fail
        go_ret
        exact ⟨rfl, HBa.out⟩
      by_cases g2 : (n : Int) + 1 < l
      · go_wp2_with fail
        go_ret
        exact ⟨rfl, HBa.out⟩
      by_cases g3 : c < 1
      · go_wp2_with fail
        go_ret
        exact ⟨rfl, HBa.out⟩
      by_cases g4 : 1000 < c
      · go_wp2_with fail
        go_ret
        exact ⟨rfl, HBa.out⟩
      have kb : (k + 1) * 8 ≤ 140737488355328 := by omega
      have km : k + 1 ≤ maxLen := by unfold maxLen; omega
      obtain ⟨i0, hi, hiz, his, hib⟩ := info_parts infoInt
      by_cases g5 : 1 < l
      · obtain ⟨j, rfl⟩ : ∃ j : Nat, l = (j : Int) + 2 := ⟨(l - 2).toNat, by omega⟩
        have hjn : j < n := by omega
        obtain ⟨z, hz⟩ : ∃ z, zs[j]? = some z := ⟨zs[j]'(by have := HN.out; omega), List.getElem?_eq_getElem _⟩
        obtain ⟨a2, rfl, hc3⟩ := HL0.out j z hz
        have hc3 := (HB.out.cell (World.block_lt_of_cell? _ _ hc3)).trans hc3
        have hc4 : ∀ o, (wr.alloc o).cell? (a2.add j) = some (.int .i64 z) := fun o => by
          rw [World.cell?_alloc_old _ _ _ (by have := World.block_lt_of_cell? _ _ hc3; omega)]; exact hc3
        have hzb := HR.out
        have hz0 : 0 ≤ z ∧ z ≤ 2000 := rise_pos HR.out j z hz
        have hj2 : ((j : Int) + 2).toNat - 1 = j + 1 := by omega
        have HZ := Lib.hid hz
        clear hz hzb hc3
        go_wp2_with (at_builtin; refine wpList_append_lies _ rfl _ _ 29 rfl w.heap.size 3 i0 (.int .i64 0) 1 8 Try.underlying29 hi hiz his hib rfl (by decide) (.slice vo k vc) k _ rfl ((HO.out.alloc _).alloc _) ⟨wr.heap.size + 1, 0, none⟩ 1 1 [.int .i64 (z + c - 1)] rfl rfl (by intro j u hj; match j, hj with | 0, hj => simp at hj; subst hj; simp [Addr.add]) (by intro u hu; simp at hu; subst hu; rfl) (by decide) km kb (by have := HB.out.size; simp; omega) _ rfl ?_; intro g' cap' w4 hown' hgrow hat hlt; rw [ints_snoc] at hown')
        have HO2 := Lib.hid hown'
        have HB2 : Hid (Below w.heap.size w w4) := Lib.hid ((HBa.out.alloc (by have := HB.out.size; simp; omega) _).grown hgrow (by have := HB.out.size; simp; omega) (fun q hq => (HO.out.lt q hq).1))
        clear hown' hgrow hat hlt
        go_wp2_with fail
        go_roundg (m - (k + 1))
        case measure => omega
        case rel =>
          refine ⟨k + 1, some ⟨g', 0, none⟩, cap', by omega, rfl, by push_cast; rfl, rfl, ?_, HB2, Lib.hid ?_⟩
          · rw [show (qs.take (k + 1)).map (fun q => offAt zs (toP q)) = (qs.take k).map (fun q => offAt zs (toP q)) ++ [z + c - 1] by simp [List.take_add_one, HQ.out, offAt, toP, List.getD, HZ.out, hj2]]
            exact HO2
          · intro q hqm
            rw [List.take_add_one, HQ.out] at hqm
            rcases List.mem_append.1 hqm with h | h
            · exact HF.out q h
            · simp at h; subst h; exact ⟨by simp; omega, by simp; omega, by simp; omega, by simp; omega⟩
      · obtain rfl : l = 1 := by omega
        go_wp2_with (at_builtin; refine wpList_append_lies _ rfl _ _ 29 rfl w.heap.size 3 i0 (.int .i64 0) 1 8 Try.underlying29 hi hiz his hib rfl (by decide) (.slice vo k vc) k _ rfl ((HO.out.alloc _).alloc _) ⟨wr.heap.size + 1, 0, none⟩ 1 1 [.int .i64 (0 + c - 1)] rfl rfl (by intro j u hj; match j, hj with | 0, hj => simp at hj; subst hj; simp [Addr.add]) (by intro u hu; simp at hu; subst hu; rfl) (by decide) km kb (by have := HB.out.size; simp; omega) _ rfl ?_; intro g' cap' w4 hown' hgrow hat hlt; rw [ints_snoc] at hown')
        have HO2 := Lib.hid hown'
        have HB2 : Hid (Below w.heap.size w w4) := Lib.hid ((HBa.out.alloc (by have := HB.out.size; simp; omega) _).grown hgrow (by have := HB.out.size; simp; omega) (fun q hq => (HO.out.lt q hq).1))
        clear hown' hgrow hat hlt
        go_wp2_with fail
        go_roundg (m - (k + 1))
        case measure => omega
        case rel =>
          refine ⟨k + 1, some ⟨g', 0, none⟩, cap', by omega, rfl, by push_cast; rfl, rfl, ?_, HB2, Lib.hid ?_⟩
          · rw [show (qs.take (k + 1)).map (fun q => offAt zs (toP q)) = (qs.take k).map (fun q => offAt zs (toP q)) ++ [0 + c - 1] by simp [List.take_add_one, HQ.out, offAt, toP, List.getD]]
            exact HO2
          · intro q hqm
            rw [List.take_add_one, HQ.out] at hqm
            rcases List.mem_append.1 hqm with h | h
            · exact HF.out q h
            · simp at h; subst h; unfold Fine; simp only []; omega
    · have hkz : ¬ (k : Int) < (m : Int) := by omega
      obtain rfl : k = m := by omega
      go_wp2_with fail
      have hall : ∀ q ∈ qs, Fine n q := by
        have h := HF.out
        rwa [List.take_of_length_le (by have := HM.out; omega)] at h
      have hmono : ∀ (k : Nat) (z y : Int), (0 :: zs)[k]? = some z → zs[k]? = some y → z < y := fun k z y e1 e2 => (HR.out k z y e1 e2).1
      have hszw := HB.out.size
      refine (offsetsOf_any ao po zs (qs.map toP) n cap k pcap wr HN.out (by simpa using HM.out) hn50 (HL0.out.below HB.out) (HP0.out.places HB.out hall) hmono ?h1 ?h2 (by omega)).mono ?_
      case h1 =>
        intro z hz
        obtain ⟨j, hj⟩ := List.mem_iff_getElem?.1 hz
        exact rise_pos HR.out j z hj
      case h2 =>
        intro q hq
        obtain ⟨q0, hq0, rfl⟩ := List.mem_map.1 hq
        have := hall q0 hq0
        have hn := HN.out
        unfold Fine at this
        simp only [toP]
        omega
      rintro e w5 ⟨v5, rfl, hown5, hb5⟩
      obtain ⟨ao5, cap5, rfl, hin5⟩ := own_slice hown5
      have hO := HO.out
      rw [List.take_of_length_le (by have := HM.out; omega)] at hO
      obtain ⟨ao6, cap6, he6, hin6⟩ := own_slice hO
      cases he6
      have hin6 := hin6.below hb5
      rw [List.map_map] at hin5
      have HI5 := Lib.hid hin5
      have HI6 := Lib.hid hin6
      have HB5 := Lib.hid (HB.out.trans (hb5.mono hszw))
      clear hown5 hb5 hin5 hin6 hO
      go_wp2_with fail
      refine (same_any ao5 vo _ k cap5 vc w5 (by simpa using HM.out) (by omega) HI5.out HI6.out).mono ?_
      rintro e w6 ⟨rfl, hb6⟩
      go_wp2_with fail
      go_ret
      exact ⟨rfl, HB5.out.trans (hb6.mono HB5.out.size)⟩

theorem own : ownKnob Try.prog.godebug = none := by kernel_rfl
theorem laidOut : laidOutB Try.prog = true := by kernel_rfl
theorem cells24 : Try.prog.cellsOf 24 = 2 := by kernel_rfl
theorem cells3 : Try.prog.cellsOf 3 = 1 := by kernel_rfl

theorem open_lines {H : Type} {enc : TypeId × Value → H} {w : World} {base : Nat} {spare : Nat → Bool} {held : Bool} {v : Value} {d : DataW H} {p : List MemPlace}
    (h : DataW.Trod enc Try.prog w base spare held 29 v d p) (hv : ∃ a n c, v = .slice a n c) : ∃ ao n cap zs, v = .slice ao n cap ∧ zs.length = n ∧ n ≤ maxLen ∧ IntsIn ao zs w := by
  obtain ⟨a0, n0, c0, rfl⟩ := hv
  obtain ⟨fuel, hf⟩ := h
  rcases open_ints Try.underlying29 Try.underlying3 cells3 hf with ⟨hcs, _⟩ | ⟨a, len, cap, zs, hcs, _, hl, hm, hz, _, hcell, _⟩
  · simp [Value.cells] at hcs
    obtain ⟨rfl, rfl, rfl⟩ := hcs
    exact ⟨_, _, _, [], rfl, rfl, by unfold maxLen; omega, fun k z hk => by simp at hk⟩
  · simp [Value.cells] at hcs
    obtain ⟨rfl, rfl, rfl⟩ := hcs
    have hle : n0 ≤ zs.length := by rw [hz]; split <;> omega
    refine ⟨_, _, _, zs.take n0, rfl, by simp; omega, by omega, fun k z hk => ⟨_, rfl, ?_⟩⟩
    have hkl := (List.getElem?_eq_some_iff.1 hk).1
    simp at hkl
    rw [hcell k (by omega)]
    rw [List.getElem?_take_of_lt (by omega)] at hk
    simp [List.getD, hk]

def numOf : Value → Int | .int _ x => x | _ => 0

theorem open_places {H : Type} {enc : TypeId × Value → H} {w : World} {base : Nat} {spare : Nat → Bool} {held : Bool} {v : Value} {d : DataW H} {p : List MemPlace}
    (h : DataW.Trod enc Try.prog w base spare held 30 v d p) (hv : ∃ a n c, v = .slice a n c) : ∃ ao n cap qs, v = .slice ao n cap ∧ qs.length = n ∧ n ≤ maxLen ∧ RawIn ao qs w := by
  obtain ⟨a0, n0, c0, rfl⟩ := hv
  obtain ⟨fuel, hf⟩ := h
  rcases open_slice_pairs Try.underlying30 Try.underlying24 cells24 rfl rfl cells3 cells3 hf with ⟨hcs, _⟩ | ⟨a, len, cap, m, n, V0, V1, D0, D1, P0, P1, hcs, _, hl, hm, hz, _, hcell⟩
  · simp [Value.cells] at hcs
    obtain ⟨rfl, rfl, rfl⟩ := hcs
    exact ⟨_, _, _, [], rfl, rfl, by unfold maxLen; omega, fun k l c hk => by simp at hk⟩
  · simp [Value.cells] at hcs
    obtain ⟨rfl, rfl, rfl⟩ := hcs
    have hle : n0 ≤ m := by rw [hz]; split <;> omega
    refine ⟨_, _, _, (List.range n0).map (fun i => (numOf (V0 i), numOf (V1 i))), rfl, by simp, by omega, fun k l c hk => ⟨_, rfl, ?_⟩⟩
    rw [List.getElem?_map] at hk
    obtain ⟨i, hi, e⟩ := Option.map_eq_some_iff.1 hk
    obtain ⟨hi1, hi2⟩ := List.getElem?_eq_some_iff.1 hi
    simp at hi1 hi2
    subst hi2
    simp only [Prod.mk.injEq] at e
    obtain ⟨rfl, rfl⟩ := e
    obtain ⟨x0, x1, t0, t1⟩ := hcell k (by omega)
    obtain ⟨y0, e0, -, -⟩ := DataW.trod_int Try.underlying3 t0
    obtain ⟨y1, e1, -, -⟩ := DataW.trod_int Try.underlying3 t1
    simp at e0 e1
    rw [x0, x1, e0, e1]
    exact ⟨rfl, rfl⟩

set_option maxRecDepth 100000 in
theorem lifted (os : Os) (started : os.Started) (H : Type) (enc : TypeId × Value → H) :
    ReturnsInHanded {} Try.checked os 6 .any (Rows.fnOffsetsOfSpec.pre6 enc Try.prog Try.f6 Rows.fnOffsetsOfRow.domain false) (Rows.fnOffsetsOfSpec.post enc Try.prog Try.f6 false true false false) := by
  refine returnsInHanded_of_change (C := Try.checked) own started (by kernel_rfl) Try.func6
    (ChangeSpec.witness6 (enc := enc) (C := Try.checked) false ⟨#[], #[.slice none 0 0, .slice none 0 0], []⟩ 8 (by kernel_rfl) (by kernel_rfl) (by kernel_rfl) (by kernel_rfl)) ?_
  intro W base args ds gs before hval0 hW hcnd _
  have hval : ∀ (j : Nat) t v, Try.f6.params[j]? = some t → args[j]? = some v → Value.okWide Try.prog W .any base t v := hval0
  have hW' := hW
  obtain ⟨p, q, hA0, hV, rfl, hfz, hnd⟩ := hW
  have hA : DataW.TrodAll enc Try.prog W 0 (fun _ => true) true Try.f6.params.toList args.toList ds p := hA0
  rw [Try.params6] at hA hval
  obtain ⟨v0, vs0, d0, ds0, p0, q0, hargs, rfl, rfl, h0, r0⟩ := trodAll_cons hA
  obtain ⟨v1, vs1, d1, ds1, p1, q1, rfl, rfl, rfl, h1, r1⟩ := trodAll_cons r0
  obtain ⟨rfl, rfl, rfl⟩ := trodAll_nil r1
  obtain rfl : args = #[v0, v1] := by cases args; simp_all
  obtain ⟨rfl, rfl⟩ := trodVars_none hV
  have k0 := h0
  have k1 := h1
  have lt0 : ∀ x ∈ p0, x.block < W.heap.size := by obtain ⟨m, hm⟩ := k0; exact DataW.trod_lt m _ _ _ hm
  have lt1 : ∀ x ∈ p1, x.block < W.heap.size := by obtain ⟨m, hm⟩ := k1; exact DataW.trod_lt m _ _ _ hm
  obtain ⟨ao, n, cap, zs, rfl, hn, hnM, hL⟩ := open_lines h0 (by obtain ⟨a, b, c, e⟩ := okWide_slice Try.underlying29 (hval 0 29 v0 rfl rfl); exact ⟨a, b, c, e⟩)
  obtain ⟨po, m, pcap, qs, rfl, hm, hmM, hP⟩ := open_places h1 (by obtain ⟨a, b, c, e⟩ := okWide_slice Try.underlying30 (hval 1 30 v1 rfl rfl); exact ⟨a, b, c, e⟩)
  clear hA0 hval0
  refine (walk ao po zs qs n cap m pcap W hn hm hnM hmM hL hP).mono fun e W' ⟨he, bel⟩ => ?_
  subst he
  exact ⟨_, rfl, _, _, _, [], _, [], hW', trodAll_mk1 (shut_bool Try.underlying4 _), (trodAll_cons_mk (Below.trod laidOut (by kernel_rfl) (of_decide_eq_true (by kernel_rfl)) k0 bel lt0) (trodAll_cons_mk (Below.trod laidOut (by kernel_rfl) (of_decide_eq_true (by kernel_rfl)) k1 bel lt1) trodAll_mk0)), rfl, bel.frame _, fun h => by cases h⟩

theorem over : Rows.fnOffsetsOfRow.holds Try.pinned (OpenSpec.ofChange Rows.fnOffsetsOfSpec) :=
  OpenClaim.holds_of_wide 6 Try.f6 rfl rfl rfl rfl rfl rfl rfl ⟨rfl, rfl, rfl, rfl, rfl⟩ rfl rfl rfl rfl rfl (by kernel_rfl) Try.func6 (by kernel_rfl)
    (of_decide_eq_true (by kernel_rfl)) (by unfold Func.isWrapper; first | (rw [if_pos (by decide +kernel)]; kernel_rfl) | (rw [if_neg (by decide +kernel)]; exact ⟨rfl, rfl⟩))
    (fun os started H enc _ => lifted os started H enc)

/-- ████ THE STATEMENT ████ -/
theorem proved : Rows.FnOffsetsOfSaid := over
#print axioms proved
end Go.Proofs.Yteecbmhkfnlecaa.fnOffsetsOf
