/-
  FnGetOption: for every file and name the law returns true. No conditions beyond the tables that its card ties.
-/
import Derived.Test.YtongafghllkomaaGreatDoorImplGetO
import Derived.Test.YtongafghllkomaaGreatDoorOptioned
import Derived.Test.YtongafghllkomaaGreatDoorAFile
import Derived.Test.YtongafghllkomaaGreatDoorSame
import Derived.Test.YtongafghllkomaaGreatDoorGetP
import Derived.Test.YtongafghllkomaaGreatDoorLaid
import Derived.WalkKit
import Derived.ProofKit
import Derived.OpenShut
import Derived.Lib.Hide
namespace Go.Proofs.YtongafghllkomaaGreatDoor.fnGetOption
open Go.ChangeShapes Go.WideShapes Go.ChangeAt Go.RowKit
open Go.ChangeMaps (open_string shut_string)
set_option linter.unusedVariables false

/-- An option's value lies where the file does. -/
theorem opt_lies {D : Nat} {n s a x v : Nd} {i : Nat} {w : World} (hL : LiesD D w n) (h3 : n.kids.length = 3) (hs : (n.kid 2).kids[i]? = some s) (hsa : s.kids = [a]) (hax : a.kids = [x, v]) : ∃ D2, LiesD D2 w v := by
  have h2 : n.kids[2]? = some (n.kid 2) := by unfold Nd.kid; rw [List.getD_eq_getElem?_getD, List.getElem?_eq_getElem (by omega)]; rfl
  have ha : s.kids[0]? = some a := by rw [hsa]; rfl
  have hv : a.kids[1]? = some v := by rw [hax]; rfl
  cases D with
  | zero => exact hL.elim
  | succ D =>
    have l2 := (hL.2 2 _ h2).2
    cases D with
    | zero => exact l2.elim
    | succ D =>
      have l3 := (l2.2 i s hs).2
      cases D with
      | zero => exact l3.elim
      | succ D =>
        have l4 := (l3.2 0 a ha).2
        cases D with
        | zero => exact l4.elim
        | succ D => exact ⟨D, (l4.2 1 v hv).2⟩

/-- The place that spec.Option tells and the first one are one. -/
theorem first_opt {ss : List Nd} {name : ByteArray} {i j : Nat} {s r : Nd} (h : FirstOpt ss name i s) (g : FirstOpt ss name j r) : i = j ∧ s = r := by
  have hij : i = j := by
    rcases Nat.lt_trichotomy i j with h1 | h1 | h1
    · exact absurd h.2.1 (g.2.2 i s h1 h.1)
    · exact h1
    · exact absurd g.2.1 (h.2.2 j r h1 g.1)
  subst hij
  have := h.1.symm.trans g.1
  exact ⟨rfl, Option.some.inj this⟩

/-- Of the file with the option a the value is five. -/
theorem file_got {a1 a2 a3 a4 : Option Addr} {w : World} {e : Ending} {w' : World} (h : OptGet ((fileN a1 a2 a3 a4).kid 2).kids ⟨#[97]⟩ w e w') :
    ∃ (D : Nat) (m : Nd), e = .returned (.tuple #[.agg #[.int .i64 m.kind, .string m.text, .string m.more, .int .u64 m.num, .slice m.ao m.kids.length m.cap], .bool true]) ∧ SameD D m fiveN ∧ LiesD D w' m ∧ Below w.heap.size w w' := by
  have h0 : ((fileN a1 a2 a3 a4).kid 2).kids = [optN a3 a4] := rfl
  rw [h0] at h
  obtain ⟨h | h, hb⟩ := h
  · obtain ⟨i, s, D, m, hF, he, hS, hl⟩ := h
    obtain ⟨rfl, rfl⟩ := at1 hF.1
    exact ⟨D, m, he, (show SameD D fiveN m from hS).symm, hl, hb⟩
  · exact absurd ⟨rfl, rfl⟩ (h.1 0 (optN a3 a4) rfl)

set_option maxRecDepth 100000 in
set_option maxHeartbeats 1000000 in
theorem walk (D : Nat) (n : Nd) (name : ByteArray) (w : World) (hL : LiesD D w n) (hR : RoomD D n) (hT : Lib.Utf8Tabs 1 2 w) :
    Calls Tryz.prog 6 #[n.val, .string name] w fun e w' => e = .returned (.bool true) ∧ Below w.heap.size w w' := by
  obtain ⟨k, t, m, u, ao, cap, kids⟩ := n
  have HL := Lib.hid hL
  have HR := Lib.hid hR
  have HT := Lib.hid hT
  clear hL hT hR
  show Calls _ _ #[.agg #[.int .i64 k, .string t, .string m, .int .u64 u, .slice ao kids.length cap], _] w _
  by_cases hs : name.size ≤ 2147483647
  · have HS := Lib.hid hs
    have hs1 : (name.size : Int) ≤ 2147483647 := by omega
    clear hs
    go_enter Tryz.func6, Tryz.ntmps6
    go_wp2_with fail
    refine (fits1_any k t m u ao kids.length cap _).mono ?_
    rintro e w1 ⟨b1, rfl, -, hb1⟩
    obtain ⟨k0, -⟩ := bblk hb1 (b := w.heap.size) (by simp)
    have HB1 := Lib.hid (((Below.refl w.heap.size w).alloc (Nat.le_refl _) _).trans (hb1.mono (by simp)))
    have HX1 := Lib.hid hb1
    have hz1 : w.heap.size < w1.heap.size := by have := hb1.size; simp at this; omega
    clear hb1
    cases b1
    · go_wp2_with fail
      go_ret
      exact ⟨rfl, HB1.out⟩
    go_wp2_with fail
    refine (aFile_any _).mono ?_
    rintro e w2 ⟨oa, oa2, oa3, oa4, rfl, hLo, hb2⟩
    obtain ⟨k2, -⟩ := bblk hb2 (b := w.heap.size) (by omega)
    have HB2 := Lib.hid (HB1.out.trans (hb2.mono HB1.out.size))
    have HX2 := Lib.hid (HX1.out.trans (hb2.mono HX1.out.size))
    have HLO := Lib.hid hLo
    have hz2 : w.heap.size < w2.heap.size := by have := hb2.size; omega
    clear hb2 hLo
    go_wp2_with fail
    refine (implOpt (fileN oa oa2 oa3 oa4) ⟨#[97]⟩ 5 _ HLO.out (file_good oa oa2 oa3 oa4) rfl (file_stmts oa oa2 oa3 oa4)).mono ?_
    intro e w3 hgot
    obtain ⟨E, m1, rfl, hS1, hL1, hb3⟩ := file_got hgot
    obtain ⟨k3, -⟩ := bblk hb3 (b := w.heap.size) (by omega)
    have HB3 := Lib.hid (HB2.out.trans (hb3.mono HB2.out.size))
    have HX3 := Lib.hid (HX2.out.trans (hb3.mono HX2.out.size))
    have hz3 : w.heap.size < w3.heap.size := by have := hb3.size; omega
    have HS1 := Lib.hid hS1
    have HL1 := Lib.hid hL1
    clear hb3 hS1 hL1 hgot
    go_wp2_with fail
    have HBr := Lib.hid (HB3.out.alloc (Nat.le_of_lt hz3) (.cells #[.int .i64 m1.kind, .string m1.text, .string m1.more, .int .u64 m1.num, .slice m1.ao m1.kids.length m1.cap] 25))
    have HKr := Lib.hid ((Below.refl w3.heap.size w3).alloc (Nat.le_refl _) (.cells #[.int .i64 m1.kind, .string m1.text, .string m1.more, .int .u64 m1.num, .slice m1.ao m1.kids.length m1.cap] 25))
    go_region_held3 (fun w' => (w'.cell? ⟨w3.heap.size, 0, none⟩ = some (.int .i64 m1.kind) ∧ w'.cell? ⟨w3.heap.size, 1, none⟩ = some (.string m1.text) ∧ w'.cell? ⟨w3.heap.size, 2, none⟩ = some (.string m1.more) ∧ w'.cell? ⟨w3.heap.size, 3, none⟩ = some (.int .u64 m1.num) ∧ w'.cell? ⟨w3.heap.size, 4, none⟩ = some (.slice m1.ao m1.kids.length m1.cap))) (go_keep) (first | (go_at_call 11; refine (five_any _).mono ?_; rintro e wf ⟨rfl, hbf⟩; have HBr := Lib.hid (show Below w.heap.size w wf from by first | exact HBr.out.trans (hbf.mono HBr.out.size) | exact HBr.out.drew.trans (hbf.mono (by have := HBr.out.size; first | exact this | (simp; done) | (simp; omega)))); have HKr := Lib.hid (show Below w3.heap.size w3 wf from by first | exact HKr.out.trans (hbf.mono HKr.out.size) | exact HKr.out.drew.trans (hbf.mono (by have := HKr.out.size; first | exact this | (simp; done) | (simp; omega)))); obtain ⟨ka, -⟩ := bblk hbf (b := w3.heap.size) (by first | omega | (simp; done) | (simp; omega)); obtain ⟨kc, -⟩ := bblk hbf (b := w.heap.size) (by first | omega | (simp; done) | (simp; omega)); have hzr : w3.heap.size < wf.heap.size := (by have := hbf.size; (try simp at this); omega); clear hbf) | (go_at_call 15; refine (same_all E E 1 m1 fiveN _ HS1.out (by first | exact HL1.out.below HKr.out | exact HL1.out.below HKr.out.drew) (five_lies _)).mono ?_; rintro e wf ⟨rfl, hbf⟩; have HBr := Lib.hid (show Below w.heap.size w wf from by first | exact HBr.out.trans (hbf.mono HBr.out.size) | exact HBr.out.drew.trans (hbf.mono (by have := HBr.out.size; first | exact this | (simp; done) | (simp; omega)))); have HKr := Lib.hid (show Below w3.heap.size w3 wf from by first | exact HKr.out.trans (hbf.mono HKr.out.size) | exact HKr.out.drew.trans (hbf.mono (by have := HKr.out.size; first | exact this | (simp; done) | (simp; omega)))); obtain ⟨ka, -⟩ := bblk hbf (b := w3.heap.size) (by first | omega | (simp; done) | (simp; omega)); obtain ⟨kc, -⟩ := bblk hbf (b := w.heap.size) (by first | omega | (simp; done) | (simp; omega)); have hzr : w3.heap.size < wf.heap.size := (by have := hbf.size; (try simp at this); omega); clear hbf))
    have hz4 : w.heap.size < wf.heap.size := by omega
    have HX4 := Lib.hid (HX3.out.trans (HKr.out.mono HX3.out.size))
    go_wp2_with fail
    refine (optioned_any D (.mk k t m u ao cap kids) name _ (HL.out.below HBr.out) HR.out HS.out (tabs_below HT.out HBr.out)).mono ?_
    rintro e w5 ⟨b5, rfl, hp5, hb5⟩
    obtain ⟨k5, -⟩ := bblk hb5 (b := w.heap.size) (by omega)
    have HP5 := Lib.hid hp5
    have HB5 := Lib.hid (HBr.out.trans (hb5.mono HBr.out.size))
    have HX5 := Lib.hid (HX4.out.trans (hb5.mono HX4.out.size))
    have hz5 : w.heap.size < w5.heap.size := by have := hb5.size; omega
    clear hp5 hb5
    cases b5
    · go_wp2_with fail
      go_ret
      exact ⟨rfl, HB5.out⟩
    obtain ⟨hWp, hk, hKy⟩ := HP5.out (by first | rfl | trivial)
    obtain rfl : k = 3 := hk
    have HG := Lib.hid hWp.1
    have HPP := Lib.hid hKy
    have H3 := Lib.hid (file_kids hWp.1 rfl).1
    clear hWp hKy
    go_wp2_with fail
    refine (implOpt (.mk 3 t m u ao cap kids) name D _ (HL.out.below HB5.out) HG.out rfl HPP.out).mono ?_
    rintro e w6 ⟨hf, hb6⟩
    obtain ⟨k6, -⟩ := bblk hb6 (b := w.heap.size) (by omega)
    have HB6 := Lib.hid (HB5.out.trans (hb6.mono HB5.out.size))
    have HX6 := Lib.hid (HX5.out.trans (hb6.mono HX5.out.size))
    have hz6 : w.heap.size < w6.heap.size := by have := hb6.size; omega
    clear hb6
    rcases hf with ⟨i, s, E2, m2, hfo, rfl, hS2, hL2⟩ | ⟨hno, rfl⟩
    · have HFO := Lib.hid hfo
      have HS2 := Lib.hid hS2
      have HL2 := Lib.hid hL2
      clear hfo hS2 hL2
      go_wp2_with fail
      have HBv := Lib.hid (HB6.out.alloc (Nat.le_of_lt hz6) (.cells #[.int .i64 m2.kind, .string m2.text, .string m2.more, .int .u64 m2.num, .slice m2.ao m2.kids.length m2.cap] 25))
      have HKv := Lib.hid ((Below.refl w6.heap.size w6).alloc (Nat.le_refl _) (.cells #[.int .i64 m2.kind, .string m2.text, .string m2.more, .int .u64 m2.num, .slice m2.ao m2.kids.length m2.cap] 25))
      refine (option_at D (.mk 3 t m u ao cap kids) name _ (HL.out.below HBv.out) H3.out HPP.out).mono ?_
      rintro e w7 ⟨z, rfl, hz, hb7⟩
      obtain ⟨k7, -⟩ := bblk hb7 (b := w.heap.size) (by simp; omega)
      obtain ⟨k7v, -⟩ := bblk hb7 (b := w6.heap.size) (by simp)
      have HBr := Lib.hid (HBv.out.trans (hb7.mono HBv.out.size))
      have HKr := Lib.hid (HKv.out.trans (hb7.mono HKv.out.size))
      have HX7 := Lib.hid (HX6.out.trans (HKr.out.mono HX6.out.size))
      have hz7 : w6.heap.size < w7.heap.size := by have := hb7.size; simp at this; omega
      clear hb7
      rcases hz with ⟨i2, s2, rfl, hfo2⟩ | ⟨rfl, hnone⟩
      · obtain ⟨rfl, rfl⟩ := first_opt HFO.out hfo2
        clear hfo2
        obtain ⟨a, x, v, hsa, hka, hax, hkx, hkv⟩ := (HPP.out i s HFO.out.1).2 HFO.out.2.1.1
        have ev : (s.kid 0).kid 1 = v := by unfold Nd.kid; rw [hsa]; show a.kids.getD 1 _ = v; rw [hax]; rfl
        have HSV := Lib.hid (show SameD E2 v m2 by have h := HS2.out; rw [ev] at h; exact h)
        obtain ⟨D2, hlv⟩ : ∃ D2, LiesD D2 w v := by
          exact opt_lies HL.out H3.out HFO.out.1 hsa hax
        have HLV := Lib.hid hlv
        have HOV := Lib.hid (fun (W : World) (hb : Below w.heap.size w W) => optValue_any D (.mk 3 t m u ao cap kids) i s a x v W (HL.out.below hb) H3.out HFO.out.1 hsa hax)
        have n0 : w7.cell? ⟨w.heap.size, 0, none⟩ = some (.int .i64 3) := by rw [HX7.out.cell (p := ⟨w.heap.size, 0, none⟩) (by simp)]; simp [go_sem]
        have n1 : w7.cell? ⟨w.heap.size, 1, none⟩ = some (.string t) := by rw [HX7.out.cell (p := ⟨w.heap.size, 1, none⟩) (by simp)]; simp [go_sem]
        have n2 : w7.cell? ⟨w.heap.size, 2, none⟩ = some (.string m) := by rw [HX7.out.cell (p := ⟨w.heap.size, 2, none⟩) (by simp)]; simp [go_sem]
        have n3 : w7.cell? ⟨w.heap.size, 3, none⟩ = some (.int .u64 u) := by rw [HX7.out.cell (p := ⟨w.heap.size, 3, none⟩) (by simp)]; simp [go_sem]
        have n4 : w7.cell? ⟨w.heap.size, 4, none⟩ = some (.slice ao kids.length cap) := by rw [HX7.out.cell (p := ⟨w.heap.size, 4, none⟩) (by simp)]; simp [go_sem]
        have v0 : w7.cell? ⟨w6.heap.size, 0, none⟩ = some (.int .i64 m2.kind) := by rw [k7v]; simp [go_sem]
        have v1 : w7.cell? ⟨w6.heap.size, 1, none⟩ = some (.string m2.text) := by rw [k7v]; simp [go_sem]
        have v2 : w7.cell? ⟨w6.heap.size, 2, none⟩ = some (.string m2.more) := by rw [k7v]; simp [go_sem]
        have v3 : w7.cell? ⟨w6.heap.size, 3, none⟩ = some (.int .u64 m2.num) := by rw [k7v]; simp [go_sem]
        have v4 : w7.cell? ⟨w6.heap.size, 4, none⟩ = some (.slice m2.ao m2.kids.length m2.cap) := by rw [k7v]; simp [go_sem]
        have hi1 : ¬ (i : Int) < 0 := by omega
        clear k0 k2 k3 ka kc k5 k6 k7 k7v hsa hka hax hkx hkv ev hlv
        have HOV := Lib.hid (show ∀ W, Below w.heap.size w W → Calls Tryz.prog 24 #[.agg #[.int .i64 3, .string t, .string m, .int .u64 u, .slice ao kids.length cap], .int .i64 (i : Int)] W fun e w' => e = .returned (.agg #[.int .i64 v.kind, .string v.text, .string v.more, .int .u64 v.num, .slice v.ao v.kids.length v.cap]) ∧ Below W.heap.size W w' from HOV.out)
        generalize kids.length = len at n4 HOV ⊢
        go_wp2_with fail
        go_region_held3 (fun w' => (w'.cell? ⟨w6.heap.size, 0, none⟩ = some (.int .i64 m2.kind) ∧ w'.cell? ⟨w6.heap.size, 1, none⟩ = some (.string m2.text) ∧ w'.cell? ⟨w6.heap.size, 2, none⟩ = some (.string m2.more) ∧ w'.cell? ⟨w6.heap.size, 3, none⟩ = some (.int .u64 m2.num) ∧ w'.cell? ⟨w6.heap.size, 4, none⟩ = some (.slice m2.ao m2.kids.length m2.cap) ∧ w'.cell? ⟨w.heap.size, 0, none⟩ = some (.int .i64 3) ∧ w'.cell? ⟨w.heap.size, 1, none⟩ = some (.string t) ∧ w'.cell? ⟨w.heap.size, 2, none⟩ = some (.string m) ∧ w'.cell? ⟨w.heap.size, 3, none⟩ = some (.int .u64 u) ∧ w'.cell? ⟨w.heap.size, 4, none⟩ = some (.slice ao len cap))) (go_keep) (first | (go_at_call 24; refine (HOV.out _ (by first | exact HBr.out | exact HBr.out.drew)).mono ?_; rintro e wf ⟨rfl, hbf⟩; have HBr := Lib.hid (show Below w.heap.size w wf from by first | exact HBr.out.trans (hbf.mono HBr.out.size) | exact HBr.out.drew.trans (hbf.mono (by have := HBr.out.size; first | exact this | (simp; done) | (simp; omega)))); have HKr := Lib.hid (show Below w6.heap.size w6 wf from by first | exact HKr.out.trans (hbf.mono HKr.out.size) | exact HKr.out.drew.trans (hbf.mono (by have := HKr.out.size; first | exact this | (simp; done) | (simp; omega)))); obtain ⟨ka, -⟩ := bblk hbf (b := w.heap.size) (by first | omega | (simp; done) | (simp; omega)); obtain ⟨kb, -⟩ := bblk hbf (b := w6.heap.size) (by first | omega | (simp; done) | (simp; omega)); have hzr : w6.heap.size < wf.heap.size := (by have := hbf.size; (try simp at this); omega); clear hbf) | (go_at_call 15; refine (same_all E2 E2 D2 m2 v _ HSV.out.symm (by first | exact HL2.out.below HKr.out | exact HL2.out.below HKr.out.drew) (by first | exact HLV.out.below HBr.out | exact HLV.out.below HBr.out.drew)).mono ?_; rintro e wf ⟨rfl, hbf⟩; have HBr := Lib.hid (show Below w.heap.size w wf from by first | exact HBr.out.trans (hbf.mono HBr.out.size) | exact HBr.out.drew.trans (hbf.mono (by have := HBr.out.size; first | exact this | (simp; done) | (simp; omega)))); have HKr := Lib.hid (show Below w6.heap.size w6 wf from by first | exact HKr.out.trans (hbf.mono HKr.out.size) | exact HKr.out.drew.trans (hbf.mono (by have := HKr.out.size; first | exact this | (simp; done) | (simp; omega)))); obtain ⟨ka, -⟩ := bblk hbf (b := w.heap.size) (by first | omega | (simp; done) | (simp; omega)); obtain ⟨kb, -⟩ := bblk hbf (b := w6.heap.size) (by first | omega | (simp; done) | (simp; omega)); have hzr : w6.heap.size < wf.heap.size := (by have := hbf.size; (try simp at this); omega); clear hbf))
        go_wp2_with fail
        go_ret
        exact ⟨rfl, HBr.out⟩
      · exact absurd HFO.out.2.1 (hnone i s HFO.out.1)
    · have HNO := Lib.hid hno
      clear hno
      go_wp2_with fail
      have HBv := Lib.hid (HB6.out.alloc (Nat.le_of_lt hz6) (.cells #[.int .i64 0, .string ⟨#[]⟩, .string ⟨#[]⟩, .int .u64 0, .slice none 0 0] 25))
      refine (option_at D (.mk 3 t m u ao cap kids) name _ (HL.out.below HBv.out) H3.out HPP.out).mono ?_
      rintro e w7 ⟨z, rfl, hz, hb7⟩
      have HB7 := Lib.hid (HBv.out.trans (hb7.mono HBv.out.size))
      clear hb7
      rcases hz with ⟨i2, s2, rfl, hfo2⟩ | ⟨rfl, hnone⟩
      · exact absurd hfo2.2.1 (HNO.out i2 s2 hfo2.1)
      · clear hnone
        go_wp2_with fail
        go_ret
        exact ⟨rfl, HB7.out⟩
  · have HS := Lib.hid hs
    have hs1 : (2147483647 : Int) < (name.size : Int) := by omega
    clear hs
    go_enter Tryz.func6, Tryz.ntmps6
    go_wp2_with fail
    refine (fits1_any k t m u ao kids.length cap _).mono ?_
    rintro e w1 ⟨b1, rfl, -, hb1⟩
    have HB1 := Lib.hid (((Below.refl w.heap.size w).alloc (Nat.le_refl _) _).trans (hb1.mono (by simp)))
    clear hb1
    cases b1
    all_goals
      go_wp2_with fail
      go_ret
      exact ⟨rfl, HB1.out⟩

set_option maxRecDepth 100000 in
theorem lifted (os : Os) (started : os.Started) (H : Type) (enc : TypeId × Value → H) :
    ReturnsInHanded {} Tryz.checked os 6 .any (fun w args => (Rows.fnGetOptionSpec.pre enc Tryz.prog Tryz.f6 Rows.fnGetOptionRow.domain false w args ∧ laidMetH Tryz.prog Rows.fnGetOptionRow.laid w) ∧ sizedMet enc Tryz.prog Tryz.f6 (OpenSpec.ofChange Rows.fnGetOptionSpec) false w args)
      (Rows.fnGetOptionSpec.post enc Tryz.prog Tryz.f6 false true false false) := by
  refine returnsInHanded_of_change_and (C := Tryz.checked) (X := fun w _ => laidMetH Tryz.prog Rows.fnGetOptionRow.laid w) (fun _ _ _ hh h => h.of_heap hh) own started (by kernel_rfl) Tryz.func6
    (ChangeSpec.witness_shaped (enc := enc) (C := Tryz.checked) (os := os) (X := fun w _ => laidMetH Tryz.prog Rows.fnGetOptionRow.laid w) false (World.laidAll Tryz.prog os Rows.fnGetOptionRow.laid) #[.agg #[.int .i64 0, .string ByteArray.empty, .string ByteArray.empty, .int .u64 0, .slice none 0 0], .string ByteArray.empty] 8 (World.laidAll_os _ _ _)
      (World.shaped_of_ZipB (by kernel_rfl) (by kernel_rfl)) (by kernel_rfl) (by kernel_rfl) (by kernel_rfl)
      (by rw [MakeChecks.laidMetH_plain _ _ _ (by kernel_rfl)]; exact laidMet_laidAll _ (by kernel_rfl) (by kernel_rfl))) ?_
  intro W base args ds gs before hval0 hW hc _ hL _
  have hval : ∀ (j : Nat) t v, Tryz.f6.params[j]? = some t → args[j]? = some v → Value.okWide Tryz.prog W .any base t v := hval0
  have hW' := hW
  obtain ⟨p, q, hA0, hV, rfl, _, _⟩ := hW
  have hA : DataW.TrodAll enc Tryz.prog W 0 (fun _ => true) true Tryz.f6.params.toList args.toList ds p := hA0
  rw [Tryz.params6] at hA hval
  obtain ⟨v0, vs0, d0, ds0, p0, q0, hargs, rfl, rfl, h0, r0⟩ := trodAll_cons hA
  obtain ⟨v1, vs1, d1, ds1, p1, q1, rfl, rfl, rfl, h1, r1⟩ := trodAll_cons r0
  obtain ⟨rfl, rfl, rfl⟩ := trodAll_nil r1
  obtain rfl : args = #[v0, v1] := by cases args; simp_all
  obtain ⟨rfl, rfl⟩ := trodVars_none hV
  have k0 := h0
  have lt0 : ∀ x ∈ p0, x.block < W.heap.size := by obtain ⟨m, hm⟩ := k0; exact DataW.trod_lt m _ _ _ hm
  obtain ⟨D, n, rfl, hLn, hRn⟩ := open_node (hval 0 25 v0 rfl rfl) h0
  have k1 := h1
  have lt1 : ∀ x ∈ p1, x.block < W.heap.size := by obtain ⟨m, hm⟩ := k1; exact DataW.trod_lt m _ _ _ hm
  obtain ⟨s, rfl, -, hsz, -⟩ := open_string Tryz.underlying9 (hval 1 9 v1 rfl rfl) h1
  clear hA0 hval0
  rw [MakeChecks.laidMetH_plain _ _ _ (by kernel_rfl)] at hL
  refine (walk D n s W hLn hRn (tabs_of hL (by simp [Rows.fnGetOptionRow, Rows.laid_unicode_utf8_first]) (by simp [Rows.fnGetOptionRow]))).mono fun e W' ⟨he, bel⟩ => ?_
  subst he
  exact ⟨_, rfl, _, _, _, [], _, [], hW', trodAll_mk1 (shut_bool Tryz.underlying4 _), (trodAll_cons_mk (Below.trod laidOut (by kernel_rfl) (of_decide_eq_true (by kernel_rfl)) k0 bel lt0) (trodAll_cons_mk (Below.trod laidOut (by kernel_rfl) (of_decide_eq_true (by kernel_rfl)) k1 bel lt1) trodAll_mk0)), rfl, bel.frame _, fun h => by cases h⟩

theorem j1 : (Rows.fnGetOptionRow.inPlace == Tryz.prog.inPlace 6) = true := by kernel_rfl
theorem j2 : (Rows.fnGetOptionRow.unfollowed == Tryz.prog.unfollowed 6) = true := by kernel_rfl
theorem j3 : (Rows.fnGetOptionRow.recurses == Tryz.prog.recurses 6) = true := by kernel_rfl
theorem j4 : (Rows.fnGetOptionRow.named == Tryz.prog.varsNamed 6) = true := by kernel_rfl
theorem j5 : (Tryz.prog.stops == []) = true := by kernel_rfl
theorem j6 : (Tryz.prog.stopKnobs == []) = true := by kernel_rfl

theorem facts : joinedFacts Tryz.prog 6 Tryz.f6 Rows.fnGetOptionSpec Rows.fnGetOptionRow = true := by
  unfold joinedFacts
  rw [j1, j2, j3, j4, j5, j6]
  kernel_rfl

theorem fnm : Tryz.pinned.checked.prog.funcNamed Rows.fnGetOptionRow.func = some 6 := by kernel_rfl
theorem inst : Tryz.f6.isInstance Tryz.pinned.checked.prog Rows.fnGetOptionRow.origin Rows.fnGetOptionRow.targs := of_decide_eq_true (by kernel_rfl)
theorem wrp : Tryz.f6.isWrapper Tryz.pinned.checked.prog Rows.fnGetOptionRow.wrapper Rows.fnGetOptionRow.mainSum := by unfold Func.isWrapper; first | (rw [if_pos (by decide +kernel)]; kernel_rfl) | (rw [if_neg (by decide +kernel)]; exact ⟨rfl, rfl⟩)

theorem said : Rows.FnGetOptionSaid :=
  OpenClaim.holds_of_wide 6 Tryz.f6 rfl rfl rfl rfl rfl rfl rfl ⟨rfl, rfl, rfl, rfl, rfl⟩ rfl rfl rfl rfl rfl fnm Tryz.func6 facts inst wrp
    (fun os started H enc _ => lifted os started H enc)

theorem plain (f : FuncId) (fn : Func) (hf : Tryz.pinned.checked.prog.funcNamed "given.example/pub-brazing/laws.FnGetOption" = some f) (hfn : Tryz.pinned.checked.prog.funcs[f]? = some fn) :
    true = Tryz.pinned.checked.prog.looks [] ∧ ∀ (j : Nat) t, fn.params[j]? = some t → Tryz.pinned.checked.prog.wantsStandIn t = false := by
  obtain rfl : f = 6 := Option.some.inj ((show Tryz.prog.funcNamed "given.example/pub-brazing/laws.FnGetOption" = some 6 by kernel_rfl).symm.trans hf) |>.symm
  obtain rfl : fn = Tryz.f6 := (Option.some.inj (Tryz.func6.symm.trans hfn)).symm
  refine ⟨by kernel_rfl, fun j t ht => ?_⟩
  rw [Tryz.params6] at ht
  have hm : t ∈ [25, 9] := by simpa using Array.mem_of_getElem? ht
  have hall : ([25, 9].all fun u => !Tryz.prog.wantsStandIn u) = true := by kernel_rfl
  exact (show Tryz.prog.wantsStandIn t = false by simpa using List.all_eq_true.1 hall t hm)

/-- THE CARD. -/
theorem card : Rows.FnGetOptionCardSaid :=
  Claim7.holds_tied_plain_at .later [] _ _ _ _ said (fun _ h => by cases h) (by kernel_rfl) (fun _ h => by cases h) fnGetOption_row_tie rfl ⟨rfl, rfl⟩ (by kernel_rfl) rfl plain (by kernel_rfl)
#print axioms card
end Go.Proofs.YtongafghllkomaaGreatDoor.fnGetOption
