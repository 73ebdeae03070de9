/-
  FnGetProperty: for every object and key the law returns true. No conditions beyond the tables that its card ties.
-/
import Derived.Test.YtongafghllkomaaGreatDoorImplGet
import Derived.Test.YtongafghllkomaaGreatDoorSame
import Derived.Test.YtongafghllkomaaGreatDoorGetP
import Derived.Test.YtongafghllkomaaGreatDoorLaid
import Derived.WalkKit
import Derived.ProofKit
import Derived.OpenShut
import Derived.Lib.Hide
namespace Go.Proofs.YtongafghllkomaaGreatDoor.fnGetProperty
open Go.ChangeShapes Go.WideShapes Go.ChangeAt Go.RowKit
open Go.ChangeMaps (open_string shut_string)
set_option linter.unusedVariables false

/-- An object that keyed takes has properties with keys and values. -/
theorem props_keyed {n : Nd} (hG : GoodD 12 n) (hk : n.kind = 28) (hK : KeyedP n) : PropsP n := by
  intro i p hi hp
  obtain ⟨hkp, x, y, hxy⟩ := (props_of hG hk).2.2 i p hi hp
  obtain ⟨hPp, -⟩ := hG.pre.kid (i := i) (x := p) (by omega) hp
  have hx0 : p.kids[0]? = some x := by rw [hxy]; rfl
  obtain ⟨-, hC⟩ := hPp.kid (i := 0) (x := x) (by omega) hx0
  have h6 : ofClassB x 6 = true := by
    have h := hC (by omega)
    rw [hkp, show (fixedL 29).getD 0 (restL 29) = 6 from by decide] at h
    exact h
  have hkx : x.kind ∈ ([33, 34] : List Int) := class_few [33, 34] rfl h6
  refine ⟨hkp, x, y, hxy, by simpa using hkx, ?_⟩
  have h := (hK i p hi hp).1
  unfold Nd.kid at h
  rw [hxy] at h
  exact h

/-- The place that spec.Property tells and the first one are one. -/
theorem first_same {n : Nd} {key : ByteArray} {j i : Nat} {p x y p2 q : Nd} (h : FirstAt n key j p x y) (hi : 0 < i) (hp : n.kids[i]? = some p2) (hq : p2.kids[0]? = some q) (ht : q.text = key) (hf : ∀ (l : Nat) (p q : Nd), 0 < l → l < i → n.kids[l]? = some p → p.kids[0]? = some q → q.text ≠ key) (hP : PropsP n) : i = j ∧ p2 = p := by
  obtain ⟨h0, h1, h2, h3, h4⟩ := h
  have hij : i = j := by
    rcases Nat.lt_trichotomy i j with h | h | h
    · obtain ⟨-, x', y', hxy, -⟩ := hP i p2 hi hp
      have e : q = x' := by rw [hxy] at hq; simpa using hq.symm
      exact absurd (by rw [← e]; exact ht) (h4 i p2 x' y' hi h hp hxy)
    · exact h
    · exact absurd h3 (hf j p x h0 h h1 (by rw [h2]; rfl))
  subst hij
  rw [h1] at hp
  exact ⟨rfl, (Option.some.inj hp).symm⟩

theorem obj_props (ao ao2 : Option Addr) : PropsP (objN ao ao2) := by
  intro i p hi hp
  rcases at2 hp with ⟨rfl, rfl⟩ | ⟨rfl, rfl⟩
  · omega
  · exact ⟨rfl, _, _, rfl, Or.inl rfl, by show (36 : Int) ≠ 0; decide⟩

/-- Of the object with the property a the value is five. -/
theorem obj_got {ao ao2 : Option Addr} {w : World} {e : Ending} {w' : World} (h : GetPost (objN ao ao2) ⟨#[97]⟩ w e w') :
    ∃ (D : Nat) (m : Nd), e = .returned (.tuple #[.agg #[.int .i64 m.kind, .string m.text, .string m.more, .int .u64 m.num, .slice m.ao m.kids.length m.cap], .bool true]) ∧ SameD D m fiveN ∧ LiesD D w' m ∧ Below w.heap.size w w' := by
  obtain ⟨h | h, hb⟩ := h
  · obtain ⟨j, p, x, y, D, m, hF, he, hS, hl⟩ := h
    obtain ⟨h0, h1, h2, h3, h4⟩ := hF
    rcases at2 h1 with ⟨rfl, rfl⟩ | ⟨rfl, rfl⟩
    · omega
    · have : y = fiveN := by
        have h2 : [leafN 33 ⟨#[97]⟩, fiveN] = [x, y] := h2
        simp at h2
        exact h2.2.symm
      subst this
      exact ⟨D, m, he, hS.symm, hl, hb⟩
  · exact absurd rfl (h.1 1 (propN ao2) (leafN 33 ⟨#[97]⟩) fiveN (by omega) rfl rfl)

set_option maxRecDepth 100000 in
set_option maxHeartbeats 1000000 in
theorem walk (D : Nat) (n : Nd) (key : ByteArray) (w : World) (hL : LiesD D w n) (hR : RoomD D n) (hT : Lib.Utf8Tabs 1 2 w) :
    Calls Tryz.prog 8 #[n.val, .string key] w fun e w' => e = .returned (.bool true) ∧ Below w.heap.size w w' := by
  obtain ⟨k, t, m, u, ao, cap, kids⟩ := n
  have HL := Lib.hid hL
  have HR := Lib.hid hR
  have HT := Lib.hid hT
  clear hL hT hR
  show Calls _ _ #[.agg #[.int .i64 k, .string t, .string m, .int .u64 u, .slice ao kids.length cap], _] w _
  by_cases hs : key.size ≤ 2147483647
  · have HS := Lib.hid hs
    have hs1 : (key.size : Int) ≤ 2147483647 := by omega
    clear hs
    go_enter Tryz.func8, Tryz.ntmps8
    go_wp2_with fail
    refine (fits1_any k t m u ao kids.length cap _).mono ?_
    rintro e w1 ⟨b1, rfl, -, hb1⟩
    obtain ⟨k0, -⟩ := bblk hb1 (b := w.heap.size) (by simp)
    have HB1 := Lib.hid (((Below.refl w.heap.size w).alloc (Nat.le_refl _) _).trans (hb1.mono (by simp)))
    have HX1 := Lib.hid hb1
    have hz1 : w.heap.size < w1.heap.size := by have := hb1.size; simp at this; omega
    clear hb1
    cases b1
    · go_wp2_with fail
      go_ret
      exact ⟨rfl, HB1.out⟩
    go_wp2_with fail
    refine (anObject_any _).mono ?_
    rintro e w2 ⟨oa, oa2, rfl, hLo, hb2⟩
    obtain ⟨k2, -⟩ := bblk hb2 (b := w.heap.size) (by omega)
    have HB2 := Lib.hid (HB1.out.trans (hb2.mono HB1.out.size))
    have HX2 := Lib.hid (HX1.out.trans (hb2.mono HX1.out.size))
    have HLO := Lib.hid hLo
    have hz2 : w.heap.size < w2.heap.size := by have := hb2.size; omega
    clear hb2 hLo
    go_wp2_with fail
    refine (implGet (objN oa oa2) ⟨#[97]⟩ 3 _ HLO.out (obj_good oa oa2) rfl (obj_props oa oa2)).mono ?_
    intro e w3 hgot
    obtain ⟨E, m1, rfl, hS1, hL1, hb3⟩ := obj_got hgot
    obtain ⟨k3, -⟩ := bblk hb3 (b := w.heap.size) (by omega)
    have HB3 := Lib.hid (HB2.out.trans (hb3.mono HB2.out.size))
    have HX3 := Lib.hid (HX2.out.trans (hb3.mono HX2.out.size))
    have hz3 : w.heap.size < w3.heap.size := by have := hb3.size; omega
    have HS1 := Lib.hid hS1
    have HL1 := Lib.hid hL1
    clear hb3 hS1 hL1 hgot
    go_wp2_with fail
    have HBr := Lib.hid (HB3.out.alloc (Nat.le_of_lt hz3) (.cells #[.int .i64 m1.kind, .string m1.text, .string m1.more, .int .u64 m1.num, .slice m1.ao m1.kids.length m1.cap] 25))
    have HKr := Lib.hid ((Below.refl w3.heap.size w3).alloc (Nat.le_refl _) (.cells #[.int .i64 m1.kind, .string m1.text, .string m1.more, .int .u64 m1.num, .slice m1.ao m1.kids.length m1.cap] 25))
    go_region_held3 (fun w' => (w'.cell? ⟨w3.heap.size, 0, none⟩ = some (.int .i64 m1.kind) ∧ w'.cell? ⟨w3.heap.size, 1, none⟩ = some (.string m1.text) ∧ w'.cell? ⟨w3.heap.size, 2, none⟩ = some (.string m1.more) ∧ w'.cell? ⟨w3.heap.size, 3, none⟩ = some (.int .u64 m1.num) ∧ w'.cell? ⟨w3.heap.size, 4, none⟩ = some (.slice m1.ao m1.kids.length m1.cap))) (go_keep) (first | (go_at_call 11; refine (five_any _).mono ?_; rintro e wf ⟨rfl, hbf⟩; have HBr := Lib.hid (show Below w.heap.size w wf from by first | exact HBr.out.trans (hbf.mono HBr.out.size) | exact HBr.out.drew.trans (hbf.mono (by have := HBr.out.size; first | exact this | (simp; done) | (simp; omega)))); have HKr := Lib.hid (show Below w3.heap.size w3 wf from by first | exact HKr.out.trans (hbf.mono HKr.out.size) | exact HKr.out.drew.trans (hbf.mono (by have := HKr.out.size; first | exact this | (simp; done) | (simp; omega)))); obtain ⟨ka, -⟩ := bblk hbf (b := w3.heap.size) (by first | omega | (simp; done) | (simp; omega)); obtain ⟨kc, -⟩ := bblk hbf (b := w.heap.size) (by first | omega | (simp; done) | (simp; omega)); have hzr : w3.heap.size < wf.heap.size := (by have := hbf.size; (try simp at this); omega); clear hbf) | (go_at_call 15; refine (same_all E E 1 m1 fiveN _ HS1.out (by first | exact HL1.out.below HKr.out | exact HL1.out.below HKr.out.drew) (five_lies _)).mono ?_; rintro e wf ⟨rfl, hbf⟩; have HBr := Lib.hid (show Below w.heap.size w wf from by first | exact HBr.out.trans (hbf.mono HBr.out.size) | exact HBr.out.drew.trans (hbf.mono (by have := HBr.out.size; first | exact this | (simp; done) | (simp; omega)))); have HKr := Lib.hid (show Below w3.heap.size w3 wf from by first | exact HKr.out.trans (hbf.mono HKr.out.size) | exact HKr.out.drew.trans (hbf.mono (by have := HKr.out.size; first | exact this | (simp; done) | (simp; omega)))); obtain ⟨ka, -⟩ := bblk hbf (b := w3.heap.size) (by first | omega | (simp; done) | (simp; omega)); obtain ⟨kc, -⟩ := bblk hbf (b := w.heap.size) (by first | omega | (simp; done) | (simp; omega)); have hzr : w3.heap.size < wf.heap.size := (by have := hbf.size; (try simp at this); omega); clear hbf))
    have hz4 : w.heap.size < wf.heap.size := by omega
    have HX4 := Lib.hid (HX3.out.trans (HKr.out.mono HX3.out.size))
    go_wp2_with fail
    refine (keyed_any D (.mk k t m u ao cap kids) key _ (HL.out.below HBr.out) HR.out HS.out (tabs_below HT.out HBr.out)).mono ?_
    rintro e w5 ⟨b5, rfl, hp5, hb5⟩
    obtain ⟨k5, -⟩ := bblk hb5 (b := w.heap.size) (by omega)
    have HP5 := Lib.hid hp5
    have HB5 := Lib.hid (HBr.out.trans (hb5.mono HBr.out.size))
    have HX5 := Lib.hid (HX4.out.trans (hb5.mono HX4.out.size))
    have hz5 : w.heap.size < w5.heap.size := by have := hb5.size; omega
    clear hp5 hb5
    cases b5
    · go_wp2_with fail
      go_ret
      exact ⟨rfl, HB5.out⟩
    obtain ⟨hWp, hk, hKy⟩ := HP5.out (by first | rfl | trivial)
    obtain rfl : k = 28 := hk
    have HG := Lib.hid hWp.1
    have HPP := Lib.hid (props_keyed hWp.1 rfl hKy)
    clear hWp hKy
    go_wp2_with fail
    refine (implGet (.mk 28 t m u ao cap kids) key D _ (HL.out.below HB5.out) HG.out rfl HPP.out).mono ?_
    rintro e w6 ⟨hf, hb6⟩
    obtain ⟨k6, -⟩ := bblk hb6 (b := w.heap.size) (by omega)
    have HB6 := Lib.hid (HB5.out.trans (hb6.mono HB5.out.size))
    have HX6 := Lib.hid (HX5.out.trans (hb6.mono HX5.out.size))
    have hz6 : w.heap.size < w6.heap.size := by have := hb6.size; omega
    clear hb6
    rcases hf with ⟨j, p, x, y, E2, m2, hfa, rfl, hS2, hL2⟩ | ⟨hno, rfl⟩
    · have HFA := Lib.hid hfa
      have HS2 := Lib.hid hS2
      have HL2 := Lib.hid hL2
      clear hfa hS2 hL2
      go_wp2_with fail
      have HBv := Lib.hid (HB6.out.alloc (Nat.le_of_lt hz6) (.cells #[.int .i64 m2.kind, .string m2.text, .string m2.more, .int .u64 m2.num, .slice m2.ao m2.kids.length m2.cap] 25))
      have HKv := Lib.hid ((Below.refl w6.heap.size w6).alloc (Nat.le_refl _) (.cells #[.int .i64 m2.kind, .string m2.text, .string m2.more, .int .u64 m2.num, .slice m2.ao m2.kids.length m2.cap] 25))
      refine (property_at D (.mk 28 t m u ao cap kids) key _ (HL.out.below HBv.out) (keyable_of HG.out rfl)).mono ?_
      rintro e w7 ⟨z, rfl, hz, hb7⟩
      obtain ⟨k7, -⟩ := bblk hb7 (b := w.heap.size) (by simp; omega)
      obtain ⟨k7v, -⟩ := bblk hb7 (b := w6.heap.size) (by simp)
      have HB7 := Lib.hid (HBv.out.trans (hb7.mono HBv.out.size))
      have HK7 := Lib.hid (HKv.out.trans (hb7.mono HKv.out.size))
      have HX7 := Lib.hid (HX6.out.trans (HK7.out.mono HX6.out.size))
      have hz7 : w6.heap.size < w7.heap.size := by have := hb7.size; simp at this; omega
      clear hb7
      rcases hz with ⟨i, p', q', rfl, hi, hp', hq', ht', hfst⟩ | ⟨rfl, hnone⟩
      · obtain ⟨rfl, rfl⟩ := first_same HFA.out hi hp' hq' ht' hfst HPP.out
        clear hq' ht' hfst
        obtain ⟨D, rfl⟩ : ∃ F, D = F + 1 := by cases D with | zero => exact HL.out.elim | succ F => exact ⟨F, rfl⟩
        obtain ⟨b, o, hao, -, -, -, -, c4, hLp⟩ := kid_cells HL.out hp' HB7.out
        obtain rfl : ao = some ⟨b, o, none⟩ := hao
        have hil : (i : Int) < (kids.length : Int) := by have := (List.getElem?_eq_some_iff.1 hp').1; simp only [Nd.kids] at this; omega
        have hpk : p'.kids = [x, y] := HFA.out.2.2.1
        obtain ⟨kp2, t2, mm2, u2, ao2, cap2, kids2⟩ := p'
        obtain rfl : kids2 = [x, y] := hpk
        obtain ⟨D, rfl⟩ : ∃ F, D = F + 1 := by cases D with | zero => exact hLp.elim | succ F => exact ⟨F, rfl⟩
        obtain ⟨b2, o2, hao2, d0, d1, d2, d3, d4, hLy⟩ := kid_cells hLp (j := 1) rfl (Below.refl _ _)
        obtain rfl : ao2 = some ⟨b2, o2, none⟩ := hao2
        simp only [Nd.ao, Nd.kids, Nd.cap, List.length_cons, List.length_nil, Nat.zero_add, Nat.reduceAdd] at c4
        simp only [Nat.one_mul] at d0 d1 d2 d3 d4
        have hi0 : (0 : Int) ≤ (i : Int) := by omega
        have hi1 : ¬ (i : Int) < 0 := by omega
        have HLY := Lib.hid hLy
        clear hp' hi hLp hLy
        have n4 : w7.cell? ⟨w.heap.size, 4, none⟩ = some (.slice (some ⟨b, o, none⟩) kids.length cap) := by
          rw [HX7.out.cell (p := ⟨w.heap.size, 4, none⟩) (by simp)]; simp [go_sem]
        have v0 : w7.cell? ⟨w6.heap.size, 0, none⟩ = some (.int .i64 m2.kind) := by rw [k7v]; simp [go_sem]
        have v1 : w7.cell? ⟨w6.heap.size, 1, none⟩ = some (.string m2.text) := by rw [k7v]; simp [go_sem]
        have v2 : w7.cell? ⟨w6.heap.size, 2, none⟩ = some (.string m2.more) := by rw [k7v]; simp [go_sem]
        have v3 : w7.cell? ⟨w6.heap.size, 3, none⟩ = some (.int .u64 m2.num) := by rw [k7v]; simp [go_sem]
        have v4 : w7.cell? ⟨w6.heap.size, 4, none⟩ = some (.slice m2.ao m2.kids.length m2.cap) := by rw [k7v]; simp [go_sem]
        clear k0 k2 k3 ka kc k5 k6 k7 k7v
        generalize kids.length = len at hil c4 n4 ⊢
        go_wp2_with fail
        go_region_held3 (fun w' => (w'.cell? ⟨w6.heap.size, 0, none⟩ = some (.int .i64 m2.kind) ∧ w'.cell? ⟨w6.heap.size, 1, none⟩ = some (.string m2.text) ∧ w'.cell? ⟨w6.heap.size, 2, none⟩ = some (.string m2.more) ∧ w'.cell? ⟨w6.heap.size, 3, none⟩ = some (.int .u64 m2.num) ∧ w'.cell? ⟨w6.heap.size, 4, none⟩ = some (.slice m2.ao m2.kids.length m2.cap) ∧ w'.cell? ⟨w.heap.size, 4, none⟩ = some (.slice (some ⟨b, o, none⟩) len cap) ∧ w'.cell? ⟨b, o + i * 5 + 4, none⟩ = some (.slice (some ⟨b2, o2, none⟩) 2 cap2) ∧ w'.cell? ⟨b2, o2 + 5, none⟩ = some (.int .i64 y.kind) ∧ w'.cell? ⟨b2, o2 + 5 + 1, none⟩ = some (.string y.text) ∧ w'.cell? ⟨b2, o2 + 5 + 2, none⟩ = some (.string y.more) ∧ w'.cell? ⟨b2, o2 + 5 + 3, none⟩ = some (.int .u64 y.num) ∧ w'.cell? ⟨b2, o2 + 5 + 4, none⟩ = some (.slice y.ao y.kids.length y.cap))) (go_keep) (first | (go_at_call 15; refine (same_all E2 E2 _ m2 y _ HS2.out.symm (by first | exact HL2.out.below HK7.out | exact HL2.out.below HK7.out.drew) (by first | exact HLY.out | exact HLY.out.below (Below.drew (Below.refl _ _)))).mono ?_; rintro e wf2 ⟨rfl, hbf⟩; have HBf := Lib.hid (show Below w.heap.size w wf2 from by first | exact HB7.out.trans (hbf.mono HB7.out.size) | exact HB7.out.drew.trans (hbf.mono (by have := HB7.out.size; first | exact this | (simp; done) | (simp; omega)))); obtain ⟨ka, -⟩ := bblk hbf (b := w.heap.size) (by first | omega | (simp; done) | (simp; omega)); obtain ⟨kb, -⟩ := bblk hbf (b := w6.heap.size) (by first | omega | (simp; done) | (simp; omega)); obtain ⟨kc, -⟩ := bblk hbf (b := b) (by have := World.block_lt_of_cell? _ _ c4; first | omega | (simp; omega)); obtain ⟨kd, -⟩ := bblk hbf (b := b2) (by have := World.block_lt_of_cell? _ _ d0; first | omega | (simp; omega)); clear hbf))
        go_wp2_with fail
        go_ret
        exact ⟨rfl, HBf.out⟩
      · exact absurd HFA.out.2.2.2.1 (hnone j p x HFA.out.1 HFA.out.2.1 (by rw [HFA.out.2.2.1]; rfl))
    · have HNO := Lib.hid hno
      clear hno
      go_wp2_with fail
      have HBv := Lib.hid (HB6.out.alloc (Nat.le_of_lt hz6) (.cells #[.int .i64 0, .string ⟨#[]⟩, .string ⟨#[]⟩, .int .u64 0, .slice none 0 0] 25))
      refine (property_at D (.mk 28 t m u ao cap kids) key _ (HL.out.below HBv.out) (keyable_of HG.out rfl)).mono ?_
      rintro e w7 ⟨z, rfl, hz, hb7⟩
      have HB7 := Lib.hid (HBv.out.trans (hb7.mono HBv.out.size))
      clear hb7
      rcases hz with ⟨i, p', q', rfl, hi, hp', hq', ht', hfst⟩ | ⟨rfl, hnone⟩
      · obtain ⟨-, x', y', hxy, -⟩ := HPP.out i p' hi hp'
        have e : q' = x' := by rw [hxy] at hq'; simpa using hq'.symm
        exact absurd (by rw [← e]; exact ht') (HNO.out i p' x' y' hi hp' hxy)
      · clear hnone
        go_wp2_with fail
        go_ret
        exact ⟨rfl, HB7.out⟩
  · have HS := Lib.hid hs
    have hs1 : (2147483647 : Int) < (key.size : Int) := by omega
    clear hs
    go_enter Tryz.func8, Tryz.ntmps8
    go_wp2_with fail
    refine (fits1_any k t m u ao kids.length cap _).mono ?_
    rintro e w1 ⟨b1, rfl, -, hb1⟩
    have HB1 := Lib.hid (((Below.refl w.heap.size w).alloc (Nat.le_refl _) _).trans (hb1.mono (by simp)))
    clear hb1
    cases b1
    all_goals
      go_wp2_with fail
      go_ret
      exact ⟨rfl, HB1.out⟩

set_option maxRecDepth 100000 in
theorem lifted (os : Os) (started : os.Started) (H : Type) (enc : TypeId × Value → H) :
    ReturnsInHanded {} Tryz.checked os 8 .any (fun w args => (Rows.fnGetPropertySpec.pre enc Tryz.prog Tryz.f8 Rows.fnGetPropertyRow.domain false w args ∧ laidMetH Tryz.prog Rows.fnGetPropertyRow.laid w) ∧ sizedMet enc Tryz.prog Tryz.f8 (OpenSpec.ofChange Rows.fnGetPropertySpec) false w args)
      (Rows.fnGetPropertySpec.post enc Tryz.prog Tryz.f8 false true false false) := by
  refine returnsInHanded_of_change_and (C := Tryz.checked) (X := fun w _ => laidMetH Tryz.prog Rows.fnGetPropertyRow.laid w) (fun _ _ _ hh h => h.of_heap hh) own started (by kernel_rfl) Tryz.func8
    (ChangeSpec.witness_shaped (enc := enc) (C := Tryz.checked) (os := os) (X := fun w _ => laidMetH Tryz.prog Rows.fnGetPropertyRow.laid w) false (World.laidAll Tryz.prog os Rows.fnGetPropertyRow.laid) #[.agg #[.int .i64 0, .string ByteArray.empty, .string ByteArray.empty, .int .u64 0, .slice none 0 0], .string ByteArray.empty] 8 (World.laidAll_os _ _ _)
      (World.shaped_of_ZipB (by kernel_rfl) (by kernel_rfl)) (by kernel_rfl) (by kernel_rfl) (by kernel_rfl)
      (by rw [MakeChecks.laidMetH_plain _ _ _ (by kernel_rfl)]; exact laidMet_laidAll _ (by kernel_rfl) (by kernel_rfl))) ?_
  intro W base args ds gs before hval0 hW hc _ hL _
  have hval : ∀ (j : Nat) t v, Tryz.f8.params[j]? = some t → args[j]? = some v → Value.okWide Tryz.prog W .any base t v := hval0
  have hW' := hW
  obtain ⟨p, q, hA0, hV, rfl, _, _⟩ := hW
  have hA : DataW.TrodAll enc Tryz.prog W 0 (fun _ => true) true Tryz.f8.params.toList args.toList ds p := hA0
  rw [Tryz.params8] at hA hval
  obtain ⟨v0, vs0, d0, ds0, p0, q0, hargs, rfl, rfl, h0, r0⟩ := trodAll_cons hA
  obtain ⟨v1, vs1, d1, ds1, p1, q1, rfl, rfl, rfl, h1, r1⟩ := trodAll_cons r0
  obtain ⟨rfl, rfl, rfl⟩ := trodAll_nil r1
  obtain rfl : args = #[v0, v1] := by cases args; simp_all
  obtain ⟨rfl, rfl⟩ := trodVars_none hV
  have k0 := h0
  have lt0 : ∀ x ∈ p0, x.block < W.heap.size := by obtain ⟨m, hm⟩ := k0; exact DataW.trod_lt m _ _ _ hm
  obtain ⟨D, n, rfl, hLn, hRn⟩ := open_node (hval 0 25 v0 rfl rfl) h0
  have k1 := h1
  have lt1 : ∀ x ∈ p1, x.block < W.heap.size := by obtain ⟨m, hm⟩ := k1; exact DataW.trod_lt m _ _ _ hm
  obtain ⟨s, rfl, -, hsz, -⟩ := open_string Tryz.underlying9 (hval 1 9 v1 rfl rfl) h1
  clear hA0 hval0
  rw [MakeChecks.laidMetH_plain _ _ _ (by kernel_rfl)] at hL
  refine (walk D n s W hLn hRn (tabs_of hL (by simp [Rows.fnGetPropertyRow, Rows.laid_unicode_utf8_first]) (by simp [Rows.fnGetPropertyRow]))).mono fun e W' ⟨he, bel⟩ => ?_
  subst he
  exact ⟨_, rfl, _, _, _, [], _, [], hW', trodAll_mk1 (shut_bool Tryz.underlying4 _), (trodAll_cons_mk (Below.trod laidOut (by kernel_rfl) (of_decide_eq_true (by kernel_rfl)) k0 bel lt0) (trodAll_cons_mk (Below.trod laidOut (by kernel_rfl) (of_decide_eq_true (by kernel_rfl)) k1 bel lt1) trodAll_mk0)), rfl, bel.frame _, fun h => by cases h⟩

theorem j1 : (Rows.fnGetPropertyRow.inPlace == Tryz.prog.inPlace 8) = true := by kernel_rfl
theorem j2 : (Rows.fnGetPropertyRow.unfollowed == Tryz.prog.unfollowed 8) = true := by kernel_rfl
theorem j3 : (Rows.fnGetPropertyRow.recurses == Tryz.prog.recurses 8) = true := by kernel_rfl
theorem j4 : (Rows.fnGetPropertyRow.named == Tryz.prog.varsNamed 8) = true := by kernel_rfl
theorem j5 : (Tryz.prog.stops == []) = true := by kernel_rfl
theorem j6 : (Tryz.prog.stopKnobs == []) = true := by kernel_rfl

theorem facts : joinedFacts Tryz.prog 8 Tryz.f8 Rows.fnGetPropertySpec Rows.fnGetPropertyRow = true := by
  unfold joinedFacts
  rw [j1, j2, j3, j4, j5, j6]
  kernel_rfl

theorem fnm : Tryz.pinned.checked.prog.funcNamed Rows.fnGetPropertyRow.func = some 8 := by kernel_rfl
theorem inst : Tryz.f8.isInstance Tryz.pinned.checked.prog Rows.fnGetPropertyRow.origin Rows.fnGetPropertyRow.targs := of_decide_eq_true (by kernel_rfl)
theorem wrp : Tryz.f8.isWrapper Tryz.pinned.checked.prog Rows.fnGetPropertyRow.wrapper Rows.fnGetPropertyRow.mainSum := by unfold Func.isWrapper; first | (rw [if_pos (by decide +kernel)]; kernel_rfl) | (rw [if_neg (by decide +kernel)]; exact ⟨rfl, rfl⟩)

theorem said : Rows.FnGetPropertySaid :=
  OpenClaim.holds_of_wide 8 Tryz.f8 rfl rfl rfl rfl rfl rfl rfl ⟨rfl, rfl, rfl, rfl, rfl⟩ rfl rfl rfl rfl rfl fnm Tryz.func8 facts inst wrp
    (fun os started H enc _ => lifted os started H enc)

theorem plain (f : FuncId) (fn : Func) (hf : Tryz.pinned.checked.prog.funcNamed "given.example/pub-brazing/laws.FnGetProperty" = some f) (hfn : Tryz.pinned.checked.prog.funcs[f]? = some fn) :
    true = Tryz.pinned.checked.prog.looks [] ∧ ∀ (j : Nat) t, fn.params[j]? = some t → Tryz.pinned.checked.prog.wantsStandIn t = false := by
  obtain rfl : f = 8 := Option.some.inj ((show Tryz.prog.funcNamed "given.example/pub-brazing/laws.FnGetProperty" = some 8 by kernel_rfl).symm.trans hf) |>.symm
  obtain rfl : fn = Tryz.f8 := (Option.some.inj (Tryz.func8.symm.trans hfn)).symm
  refine ⟨by kernel_rfl, fun j t ht => ?_⟩
  rw [Tryz.params8] at ht
  have hm : t ∈ [25, 9] := by simpa using Array.mem_of_getElem? ht
  have hall : ([25, 9].all fun u => !Tryz.prog.wantsStandIn u) = true := by kernel_rfl
  exact (show Tryz.prog.wantsStandIn t = false by simpa using List.all_eq_true.1 hall t hm)

/-- THE CARD. -/
theorem card : Rows.FnGetPropertyCardSaid :=
  Claim7.holds_tied_plain_at .later [] _ _ _ _ said (fun _ h => by cases h) (by kernel_rfl) (fun _ h => by cases h) fnGetProperty_row_tie rfl ⟨rfl, rfl⟩ (by kernel_rfl) rfl plain (by kernel_rfl)
#print axioms card
end Go.Proofs.YtongafghllkomaaGreatDoor.fnGetProperty
