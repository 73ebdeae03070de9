/-
  FnDeleteOption: for every file and name the law returns true. No conditions beyond the tables that its card ties.
-/
import Derived.Test.YtongafghllkomaaGreatDoorImplDelO
import Derived.Test.YtongafghllkomaaGreatDoorOptioned
import Derived.Test.YtongafghllkomaaGreatDoorWith
import Derived.Test.YtongafghllkomaaGreatDoorWithout
import Derived.Test.YtongafghllkomaaGreatDoorSame
import Derived.Test.YtongafghllkomaaGreatDoorGetP
import Derived.Test.YtongafghllkomaaGreatDoorLaid
import Derived.WalkKit
import Derived.ProofKit
import Derived.OpenShut
import Derived.Lib.Hide
namespace Go.Proofs.YtongafghllkomaaGreatDoor.fnDeleteOption
open Go.ChangeShapes Go.WideShapes Go.ChangeAt Go.RowKit
open Go.ChangeMaps (open_string shut_string)
set_option linter.unusedVariables false

/-- The place that spec.Option tells and the first one are one. -/
theorem first_opt {ss : List Nd} {name : ByteArray} {i j : Nat} {s r : Nd} (h : FirstOpt ss name i s) (g : FirstOpt ss name j r) : i = j ∧ s = r := by
  have hij : i = j := by
    rcases Nat.lt_trichotomy i j with h1 | h1 | h1
    · exact absurd h.2.1 (g.2.2 i s h1 h.1)
    · exact h1
    · exact absurd g.2.1 (h.2.2 j r h1 g.1)
  subst hij
  have := h.1.symm.trans g.1
  exact ⟨rfl, Option.some.inj this⟩

/-- Of the file with the option a a file with no statement is left. -/
theorem file_del {a1 a2 a3 a4 : Option Addr} {w : World} {e : Ending} {w' : World} (h : DelOImp (fileN a1 a2 a3 a4) ⟨#[97]⟩ w e w') :
    ∃ (D : Nat) (t m : ByteArray) (u : Int) (ao : Option Addr) (cap : Nat) (x0 x1 : Nd) (t2 m2 : ByteArray) (u2 : Int) (ao2 : Option Addr) (cap2 : Nat), e = .returned (.tuple #[.agg #[.int .i64 3, .string t, .string m, .int .u64 u, .slice ao 3 cap], .bool true]) ∧ LiesD D w' (.mk 3 t m u ao cap [x0, x1, .mk 1 t2 m2 u2 ao2 cap2 []]) ∧ Below w.heap.size w w' := by
  have h0 : ((fileN a1 a2 a3 a4).kid 2).kids = [optN a3 a4] := rfl
  obtain ⟨D, m, he, hl, h, hb⟩ := h
  rw [h0] at h
  rcases h with ⟨i, s, hF, hS⟩ | ⟨hno, -⟩
  · obtain ⟨rfl, rfl⟩ := at1 hF.1
    cases D with
    | zero => exact hS.elim
    | succ D =>
      obtain ⟨k, t, mo, u, ao, cap, kids⟩ := m
      obtain ⟨h1, h2, h3, h4, h5, h6⟩ := hS
      obtain rfl : 3 = k := h1
      obtain ⟨x0, x1, x2, rfl⟩ : ∃ x y z, kids = [x, y, z] := kids3 (n := .mk 3 t mo u ao cap kids) h5.symm
      have h7 := h6 2 _ x2 rfl rfl
      cases D with
      | zero => exact h7.elim
      | succ D =>
        obtain ⟨g1, g2, g3, g4, g5, -⟩ := h7
        obtain ⟨k2, t2, m2, u2, ao2, cap2, kids2⟩ := x2
        obtain rfl : 1 = k2 := g1
        obtain rfl : kids2 = [] := List.eq_nil_of_length_eq_zero g5.symm
        exact ⟨_, t, mo, u, ao, cap, x0, x1, t2, m2, u2, ao2, cap2, he, hl, hb⟩
  · exact absurd ⟨rfl, rfl⟩ (hno 0 (optN a3 a4) rfl)

theorem same_with {E i : Nat} {n m mF mW : Nd} (h : SameD E (dropStmt n i) m) (h1 : mF.kind = n.kind) (h2 : mF.text = n.text) (h3 : mF.more = n.more) (h4 : mF.num = n.num) (h5 : mF.kids = [n.kid 0, n.kid 1, mW]) (g1 : mW.kind = (n.kid 2).kind) (g2 : mW.text = (n.kid 2).text) (g3 : mW.more = (n.kid 2).more) (g4 : mW.num = (n.kid 2).num) (g5 : mW.kids = (n.kid 2).kids.eraseIdx i) : SameD E mF m := by
  cases E with
  | zero => exact h.elim
  | succ E =>
    obtain ⟨e1, e2, e3, e4, e5, e6⟩ := h
    refine ⟨h1.trans e1, h2.trans e2, h3.trans e3, h4.trans e4, by rw [h5]; exact e5, fun j x y hx hy => ?_⟩
    rw [h5] at hx
    rcases at3 hx with ⟨rfl, rfl⟩ | ⟨rfl, rfl⟩ | ⟨rfl, rfl⟩
    · exact e6 0 _ y rfl hy
    · exact e6 1 _ y rfl hy
    · exact (e6 2 _ y rfl hy).re g1 g2 g3 g4 g5

theorem lies_lt {D : Nat} {w : World} {n : Nd} (h : LiesD D w n) : LiesIn (fun c => c < w.heap.size) D w n :=
  (LiesD.inn h).carry (fun b o _ hb => ⟨hb, (Array.getElem?_eq_some_iff.1 hb).1⟩)

theorem room_one {D : Nat} {w : World} {n : Nd} (h : LiesD D w n) (hr : RoomD D n) : n.kids.length ≤ n.cap := by
  cases D with
  | zero => exact h.elim
  | succ D => exact hr.1

set_option maxRecDepth 100000 in
set_option maxHeartbeats 2000000 in
theorem walk (D : Nat) (n : Nd) (name : ByteArray) (w : World) (hL : LiesD D w n) (hR : RoomD D n) (hT : Lib.Utf8Tabs 1 2 w) :
    Calls Tryz.prog 5 #[n.val, .string name] w fun e w' => e = .returned (.bool true) ∧ Below w.heap.size w w' := by
  obtain ⟨k, t, m, u, ao, cap, kids⟩ := n
  have HL := Lib.hid hL
  have HR := Lib.hid hR
  have HT := Lib.hid hT
  clear hL hT hR
  show Calls _ _ #[.agg #[.int .i64 k, .string t, .string m, .int .u64 u, .slice ao kids.length cap], _] w _
  by_cases hs : name.size ≤ 2147483647
  · have HS := Lib.hid hs
    have hs1 : (name.size : Int) ≤ 2147483647 := by omega
    clear hs
    go_enter Tryz.func5, Tryz.ntmps5
    go_wp2_with fail
    refine (fits1_any k t m u ao kids.length cap _).mono ?_
    rintro e w1 ⟨b1, rfl, -, hb1⟩
    obtain ⟨k0, -⟩ := bblk hb1 (b := w.heap.size) (by simp)
    have HB1 := Lib.hid (((Below.refl w.heap.size w).alloc (Nat.le_refl _) _).trans (hb1.mono (by simp)))
    have HX1 := Lib.hid hb1
    have hz1 : w.heap.size < w1.heap.size := by have := hb1.size; simp at this; omega
    clear hb1
    cases b1
    · go_wp2_with fail
      go_ret
      exact ⟨rfl, HB1.out⟩
    go_wp2_with fail
    refine (aFile_any _).mono ?_
    rintro e w2 ⟨oa, oa2, oa3, oa4, rfl, hLo, hb2⟩
    obtain ⟨k2, -⟩ := bblk hb2 (b := w.heap.size) (by omega)
    have HB2 := Lib.hid (HB1.out.trans (hb2.mono HB1.out.size))
    have HX2 := Lib.hid (HX1.out.trans (hb2.mono HX1.out.size))
    have HLO := Lib.hid hLo
    have hz2 : w.heap.size < w2.heap.size := by have := hb2.size; omega
    clear hb2 hLo
    go_wp2_with fail
    refine (implDelO (fileN oa oa2 oa3 oa4) ⟨#[97]⟩ 5 _ HLO.out (file_good oa oa2 oa3 oa4) rfl (file_stmts oa oa2 oa3 oa4)).mono ?_
    intro e w3 hgot
    obtain ⟨DM, f1t, f1m, f1u, f1ao, f1cap, f1x, f1y, f1t2, f1m2, f1u2, f1ao2, f1cap2, rfl, hL1, hb3⟩ := file_del hgot
    obtain ⟨DM, rfl⟩ : ∃ E, DM = E + 1 := by cases DM with | zero => exact hL1.elim | succ E => exact ⟨E, rfl⟩
    obtain ⟨f1b, f1o, hf1e, hf1c, hf1z, -⟩ := third hL1
    obtain rfl := hf1e
    clear hL1
    have fc : (w3.alloc (.cells #[.int .i64 3, .string f1t, .string f1m, .int .u64 f1u, .slice (some ⟨f1b, f1o, none⟩) 3 f1cap] 25)).cell? ⟨f1b, f1o + 10 + 4, none⟩ = some (.slice f1ao2 0 f1cap2) := hf1c _ ((Below.refl _ _).alloc (Nat.le_refl _) _)
    clear hf1c
    obtain ⟨k3, -⟩ := bblk hb3 (b := w.heap.size) (by omega)
    have HB3 := Lib.hid (HB2.out.trans (hb3.mono HB2.out.size))
    have HX3 := Lib.hid (HX2.out.trans (hb3.mono HX2.out.size))
    have hz3 : w.heap.size < w3.heap.size := by have := hb3.size; omega
    clear hb3 hgot
    go_wp2_with fail
    have HB4 := Lib.hid (HB3.out.alloc (Nat.le_of_lt hz3) (.cells #[.int .i64 3, .string f1t, .string f1m, .int .u64 f1u, .slice (some ⟨f1b, f1o, none⟩) 3 f1cap] 25))
    refine (optioned_any D (.mk k t m u ao cap kids) name _ (HL.out.below HB4.out) HR.out HS.out (tabs_below HT.out HB4.out)).mono ?_
    rintro e w5 ⟨b5, rfl, hp5, hb5⟩
    obtain ⟨k5, -⟩ := bblk hb5 (b := w.heap.size) (by simp; omega)
    have HP5 := Lib.hid hp5
    have HB5 := Lib.hid (HB4.out.trans (hb5.mono HB4.out.size))
    have HX5 := Lib.hid (HX3.out.trans (((Below.refl w3.heap.size w3).alloc (Nat.le_refl _) (.cells #[.int .i64 3, .string f1t, .string f1m, .int .u64 f1u, .slice (some ⟨f1b, f1o, none⟩) 3 f1cap] 25)).trans (hb5.mono (by simp)) |>.mono HX3.out.size))
    have hz5 : w.heap.size < w5.heap.size := by have := hb5.size; simp at this; omega
    clear hp5 hb5
    cases b5
    · go_wp2_with fail
      go_ret
      exact ⟨rfl, HB5.out⟩
    obtain ⟨hWp, hk, hKy⟩ := HP5.out (by first | rfl | trivial)
    obtain rfl : k = 3 := hk
    have HG := Lib.hid hWp.1
    have HPP := Lib.hid hKy
    have HFK := Lib.hid (file_kids hWp.1 rfl)
    clear hWp hKy
    go_wp2_with fail
    have HB5n := Lib.hid (HB5.out.alloc (Nat.le_of_lt hz5) (.cells #[.int .i64 3, .string t, .string m, .int .u64 u, .slice ao kids.length cap] 25))
    refine (option_at D (.mk 3 t m u ao cap kids) name _ (HL.out.below HB5n.out) HFK.out.1 HPP.out).mono ?_
    rintro e w6 ⟨z, rfl, hz, hb6⟩
    obtain ⟨k6, -⟩ := bblk hb6 (b := w.heap.size) (by simp; omega)
    obtain ⟨q6, qf6⟩ := bblk hb6 (b := w5.heap.size) (by simp)
    have HB6 := Lib.hid (HB5n.out.trans (hb6.mono HB5n.out.size))
    have HX6 := Lib.hid (HX5.out.trans (((Below.refl w5.heap.size w5).alloc (Nat.le_refl _) (.cells #[.int .i64 3, .string t, .string m, .int .u64 u, .slice ao kids.length cap] 25)).trans (hb6.mono (by simp)) |>.mono HX5.out.size))
    have hz6 : w5.heap.size < w6.heap.size := by have := hb6.size; simp at this; omega
    clear hb6
    rcases hz with ⟨i, s, rfl, hfo⟩ | ⟨rfl, hnone⟩
    · have hi0 : (0 : Int) ≤ (i : Int) := by omega
      have HFO := Lib.hid hfo
      clear hfo
      obtain ⟨x0, x1, x2, rfl⟩ : ∃ x y z, kids = [x, y, z] := kids3 (n := .mk 3 t m u ao cap kids) HFK.out.1
      obtain ⟨D, rfl⟩ : ∃ F, D = F + 1 := by cases D with | zero => exact HL.out.elim | succ F => exact ⟨F, rfl⟩
      obtain ⟨b, o, hao, g0, g1, g2, g3, g4, hL2⟩ := kid_cells HL.out (j := 2) rfl HB6.out
      obtain rfl : ao = some ⟨b, o, none⟩ := hao
      simp only [Nat.reduceMul] at g0 g1 g2 g3 g4
      have hbz := World.block_lt_of_cell? _ _ g0
      have HI2 := Lib.hid (((lies_lt HL.out).2 2 x2 rfl).2)
      have HR2 := Lib.hid (show x2.kids.length ≤ x2.cap from room_one hL2 (HR.out.2 2 x2 rfl))
      clear hL2
      have HWO := Lib.hid (show ∀ W, Below w.heap.size w W → Calls Tryz.prog 22 #[.agg #[.int .i64 x2.kind, .string x2.text, .string x2.more, .int .u64 x2.num, .slice x2.ao x2.kids.length x2.cap], .int .i64 (i : Int)] W (WithoutPost (fun c => c < w.heap.size) x2 i W) from fun W hb => by
        have hil : i < x2.kids.length := (List.getElem?_eq_some_iff.1 HFO.out.1).1
        have hlm : x2.kids.length ≤ 1001 := Nat.le_trans HFK.out.2.1 (by omega)
        rcases Nat.eq_zero_or_pos i with h0 | h0
        · subst h0
          exact without_zero (fun c => c < w.heap.size) D x2 W (HI2.out.below hb) HR2.out hil hlm
        · exact without_any (fun c => c < w.heap.size) D x2 i W (HI2.out.below hb) HR2.out h0 hil hlm)
      have HWI := Lib.hid (show ∀ (W : World) (A : Nat → Prop) (E : Nat) (kn : Nd), Below w.heap.size w W → (∀ c, c < w.heap.size → A c) → LiesIn A E W kn → Calls Tryz.prog 21 #[.agg #[.int .i64 3, .string t, .string m, .int .u64 u, .slice (some ⟨b, o, none⟩) 3 cap], .int .i64 2, .agg #[.int .i64 kn.kind, .string kn.text, .string kn.more, .int .u64 kn.num, .slice kn.ao kn.kids.length kn.cap]] W (WithPost A (.mk 3 t m u (some ⟨b, o, none⟩) cap [x0, x1, x2]) kn W) from fun W A E kn hb hA hk =>
        with_any A (D + 1 + E) (.mk 3 t m u (some ⟨b, o, none⟩) cap [x0, x1, x2]) kn W ((((lies_lt HL.out).mono hA).below hb).up (by omega)) (hk.up (by omega)) rfl (room_one HL.out HR.out))
      have n0 : w6.cell? ⟨w.heap.size, 0, none⟩ = some (.int .i64 3) := by rw [HX6.out.cell (p := ⟨w.heap.size, 0, none⟩) (by simp)]; simp [go_sem]
      have n1 : w6.cell? ⟨w.heap.size, 1, none⟩ = some (.string t) := by rw [HX6.out.cell (p := ⟨w.heap.size, 1, none⟩) (by simp)]; simp [go_sem]
      have n2 : w6.cell? ⟨w.heap.size, 2, none⟩ = some (.string m) := by rw [HX6.out.cell (p := ⟨w.heap.size, 2, none⟩) (by simp)]; simp [go_sem]
      have n3 : w6.cell? ⟨w.heap.size, 3, none⟩ = some (.int .u64 u) := by rw [HX6.out.cell (p := ⟨w.heap.size, 3, none⟩) (by simp)]; simp [go_sem]
      have n4 : w6.cell? ⟨w.heap.size, 4, none⟩ = some (.slice (some ⟨b, o, none⟩) 3 cap) := by rw [HX6.out.cell (p := ⟨w.heap.size, 4, none⟩) (by simp)]; simp [go_sem]
      have hz6b : b < w6.heap.size := hbz
      have hz6a : w.heap.size < w6.heap.size := by omega
      have hbw : b < w.heap.size := by
        obtain ⟨b', o', e, -, h, -⟩ := third HL.out
        cases e
        exact h
      have hn1 : ¬ w.heap.size = w5.heap.size := by omega
      have hn2 : ¬ w5.heap.size = w.heap.size := by omega
      have hn3 : ¬ b = w5.heap.size := by omega
      have hn4 : ¬ w5.heap.size = b := by omega
      clear k0 k2 k3 k5 k6
      go_wp2_with fail
      go_region_held3 (fun w' => (w'.cell? ⟨w.heap.size, 0, none⟩ = some (.int .i64 3) ∧ w'.cell? ⟨w.heap.size, 1, none⟩ = some (.string t) ∧ w'.cell? ⟨w.heap.size, 2, none⟩ = some (.string m) ∧ w'.cell? ⟨w.heap.size, 3, none⟩ = some (.int .u64 u) ∧ w'.cell? ⟨w.heap.size, 4, none⟩ = some (.slice (some ⟨b, o, none⟩) 3 cap) ∧ w'.cell? ⟨b, o + 10, none⟩ = some (.int .i64 x2.kind) ∧ w'.cell? ⟨b, o + 10 + 1, none⟩ = some (.string x2.text) ∧ w'.cell? ⟨b, o + 10 + 2, none⟩ = some (.string x2.more) ∧ w'.cell? ⟨b, o + 10 + 3, none⟩ = some (.int .u64 x2.num) ∧ w'.cell? ⟨b, o + 10 + 4, none⟩ = some (.slice x2.ao x2.kids.length x2.cap))) (go_keep) (first | (go_at_call 22; refine (HWO.out _ (by first | exact HB6.out | exact HB6.out.drew)).mono ?_; rintro e w7 ⟨EW, mW, rfl, h1, h2, h3, h4, h5, hLW, hb7⟩; have HLW := Lib.hid hLW; have HEQ := Lib.hid (show mW.kind = x2.kind ∧ mW.text = x2.text ∧ mW.more = x2.more ∧ mW.num = x2.num ∧ mW.kids = x2.kids.eraseIdx i from ⟨h1, h2, h3, h4, h5⟩); have HB7 := Lib.hid (show Below w.heap.size w w7 from by first | exact HB6.out.trans (hb7.mono HB6.out.size) | exact HB6.out.drew.trans (hb7.mono (by have := HB6.out.size; first | exact this | (simp; done) | (simp; omega)))); obtain ⟨k7a, kf7a⟩ := bblk hb7 (b := w.heap.size) (by first | omega | (simp; done) | (simp; omega)); obtain ⟨k7b, kf7b⟩ := bblk hb7 (b := b) (by first | omega | (simp; done) | (simp; omega)); obtain ⟨k7c, kf7c⟩ := bblk hb7 (b := w5.heap.size) (by first | omega | (simp; done) | (simp; omega)); have hz7 : w6.heap.size ≤ w7.heap.size := (by have := hb7.size; (try simp at this); omega); clear hb7 hLW h1 h2 h3 h4 h5) | (go_at_call 21; refine (HWI.out _ _ _ mW (by first | exact HB7.out | exact HB7.out.drew) (fun c hc => Or.inl hc) HLW.out).mono ?_; rintro e w8 ⟨EF, mF, rfl, h1, h2, h3, h4, h5, hLF, hb8⟩; have HLF := Lib.hid hLF; have HEF := Lib.hid (show mF.kind = 3 ∧ mF.text = t ∧ mF.more = m ∧ mF.num = u ∧ mF.kids = [x0, x1, mW] from ⟨h1, h2, h3, h4, h5⟩); have HB8 := Lib.hid (show Below w.heap.size w w8 from by first | exact HB7.out.trans (hb8.mono HB7.out.size) | exact HB7.out.drew.trans (hb8.mono (by have := HB7.out.size; first | exact this | (simp; done) | (simp; omega)))); obtain ⟨k8a, kf8a⟩ := bblk hb8 (b := w.heap.size) (by first | omega | (simp; done) | (simp; omega)); obtain ⟨k8b, kf8b⟩ := bblk hb8 (b := b) (by first | omega | (simp; done) | (simp; omega)); obtain ⟨k8c, kf8c⟩ := bblk hb8 (b := w5.heap.size) (by first | omega | (simp; done) | (simp; omega)); have hz8 : w7.heap.size ≤ w8.heap.size := (by have := hb8.size; (try simp at this); omega); clear hb8 hLF h1 h2 h3 h4 h5))
      have hw5 : w.heap.size ≤ w5.heap.size := Nat.le_of_lt hz5
      have HB8s := Lib.hid (((((HB8.out.setCell (p := ⟨w5.heap.size, 0, none⟩) hw5 (.int .i64 mF.kind)).setCell (p := ⟨w5.heap.size, 1, none⟩) hw5 (.string mF.text)).setCell (p := ⟨w5.heap.size, 2, none⟩) hw5 (.string mF.more)).setCell (p := ⟨w5.heap.size, 3, none⟩) hw5 (.int .u64 mF.num)).setCell (p := ⟨w5.heap.size, 4, none⟩) hw5 (.slice mF.ao mF.kids.length mF.cap))
      have hz8c : w5.heap.size < w8.heap.size := by omega
      go_wp2_with fail
      refine (implDelO (.mk 3 t m u (some ⟨b, o, none⟩) cap [x0, x1, x2]) name (D + 1) _ (HL.out.below HB8s.out) HG.out rfl HPP.out).mono ?_
      rintro e w9 ⟨E2, m2, rfl, hL2, hf, hb9⟩
      obtain ⟨q9, qf9⟩ := bblk hb9 (b := w5.heap.size) (by first | omega | (simp; omega))
      have HB9 := Lib.hid (HB8s.out.trans (hb9.mono HB8s.out.size))
      have HL2 := Lib.hid hL2
      have HF2 := Lib.hid hf
      have HBZ := Lib.hid hb9
      have HB9o := Lib.hid (HB9.out.alloc HB9.out.size (.cells #[.int .i64 m2.kind, .string m2.text, .string m2.more, .int .u64 m2.num, .slice m2.ao m2.kids.length m2.cap] 25))
      have HK9 := Lib.hid ((Below.refl w9.heap.size w9).alloc (Nat.le_refl _) (.cells #[.int .i64 m2.kind, .string m2.text, .string m2.more, .int .u64 m2.num, .slice m2.ao m2.kids.length m2.cap] 25))
      have hz9 : w5.heap.size < w9.heap.size := by have := hb9.size; (try simp at this); omega
      clear hb9 hL2 hf
      have HS2 := Lib.hid (show SameD E2 m2 mF from by
        obtain ⟨e1, e2, e3, e4, e5⟩ := HEF.out
        obtain ⟨d1, d2, d3, d4, d5⟩ := HEQ.out
        rcases HF2.out with ⟨j, s', hF, hS⟩ | ⟨hno, -⟩
        · obtain ⟨rfl, -⟩ := first_opt hF HFO.out
          exact (same_with hS e1 e2 e3 e4 e5 d1 d2 d3 d4 d5).symm
        · exact absurd HFO.out.2.1 (hno i s HFO.out.1))
      have HLF9 := Lib.hid (show LiesD EF w9 mF from (HLF.out.carry (A' := fun _ => True) (fun c ob hA ho => ⟨by
        have hc := (Array.getElem?_eq_some_iff.1 ho).1
        have hne : c ≠ w5.heap.size := by
          rcases hA with (h | h) | h
          · have h : c < w.heap.size := h
            omega
          · (try simp at h); omega
          · (try simp at h); omega
        rw [HBZ.out.block c (by simpa using hc), Below.heap_setCell _ _ _ _ hne, Below.heap_setCell _ _ _ _ hne, Below.heap_setCell _ _ _ _ hne, Below.heap_setCell _ _ _ _ hne, Below.heap_setCell _ _ _ _ hne]
        exact ho, trivial⟩)).lies)
      have b0 : w9.cell? ⟨w5.heap.size, 0, none⟩ = some (.int .i64 mF.kind) := by rw [q9]; simp [go_sem, k8c, k7c, q6]
      have b1 : w9.cell? ⟨w5.heap.size, 1, none⟩ = some (.string mF.text) := by rw [q9]; simp [go_sem, k8c, k7c, q6]
      have b2 : w9.cell? ⟨w5.heap.size, 2, none⟩ = some (.string mF.more) := by rw [q9]; simp [go_sem, k8c, k7c, q6]
      have b3 : w9.cell? ⟨w5.heap.size, 3, none⟩ = some (.int .u64 mF.num) := by rw [q9]; simp [go_sem, k8c, k7c, q6]
      have b4 : w9.cell? ⟨w5.heap.size, 4, none⟩ = some (.slice mF.ao mF.kids.length mF.cap) := by rw [q9]; simp [go_sem, k8c, k7c, q6]
      have HSM := Lib.hid (show ∀ W, Below w.heap.size w W → Below w9.heap.size w9 W → Calls Tryz.prog 15 #[.agg #[.int .i64 m2.kind, .string m2.text, .string m2.more, .int .u64 m2.num, .slice m2.ao m2.kids.length m2.cap], .agg #[.int .i64 mF.kind, .string mF.text, .string mF.more, .int .u64 mF.num, .slice mF.ao mF.kids.length mF.cap]] W fun e w' => e = .returned (.bool true) ∧ Below W.heap.size W w' from fun W hb hb9 => same_all E2 E2 EF m2 mF W HS2.out (HL2.out.below hb9) (HLF9.out.below hb9))
      clear q9 k8c k7c q6 qf9 kf8c kf7c qf6 k8a k8b k7a k7b kf8a kf8b kf7a kf7b
      go_wp2_with fail
      refine (HSM.out _ HB9o.out HK9.out).mono ?_
      rintro e wf ⟨rfl, hbf⟩
      have HBf := Lib.hid (HB9o.out.trans (hbf.mono HB9o.out.size))
      clear hbf
      go_wp2_with fail
      go_ret
      exact ⟨rfl, HBf.out⟩
    · go_wp2_with fail
      refine (implDelO (.mk 3 t m u ao cap kids) name D _ (HL.out.below HB6.out) HG.out rfl HPP.out).mono ?_
      rintro e w8 ⟨E2, m2, rfl, hL2, hf, hb8⟩
      obtain ⟨q8, qf8⟩ := bblk hb8 (b := w5.heap.size) (by first | omega | (simp; omega))
      have HB8 := Lib.hid (HB6.out.trans (hb8.mono HB6.out.size))
      have HL2 := Lib.hid hL2
      have HF2 := Lib.hid hf
      have hz8 : w5.heap.size < w8.heap.size := by have := hb8.size; (try simp at this); omega
      have HB8o := Lib.hid (HB8.out.alloc HB8.out.size (.cells #[.int .i64 m2.kind, .string m2.text, .string m2.more, .int .u64 m2.num, .slice m2.ao m2.kids.length m2.cap] 25))
      have HK8 := Lib.hid ((Below.refl w8.heap.size w8).alloc (Nat.le_refl _) (.cells #[.int .i64 m2.kind, .string m2.text, .string m2.more, .int .u64 m2.num, .slice m2.ao m2.kids.length m2.cap] 25))
      clear hb8 hL2 hf
      have HS2 := Lib.hid (show SameD E2 m2 (.mk 3 t m u ao cap kids) from by
        rcases HF2.out with ⟨j, s, hF, -⟩ | ⟨-, hS⟩
        · exact absurd hF.2.1 (hnone j s hF.1)
        · exact hS.symm)
      clear hnone
      have b0 : w8.cell? ⟨w5.heap.size, 0, none⟩ = some (.int .i64 3) := by rw [q8, q6]; simp [go_sem]
      have b1 : w8.cell? ⟨w5.heap.size, 1, none⟩ = some (.string t) := by rw [q8, q6]; simp [go_sem]
      have b2 : w8.cell? ⟨w5.heap.size, 2, none⟩ = some (.string m) := by rw [q8, q6]; simp [go_sem]
      have b3 : w8.cell? ⟨w5.heap.size, 3, none⟩ = some (.int .u64 u) := by rw [q8, q6]; simp [go_sem]
      have b4 : w8.cell? ⟨w5.heap.size, 4, none⟩ = some (.slice ao kids.length cap) := by rw [q8, q6]; simp [go_sem]
      have HSM := Lib.hid (show ∀ W, Below w.heap.size w W → Below w8.heap.size w8 W → Calls Tryz.prog 15 #[.agg #[.int .i64 m2.kind, .string m2.text, .string m2.more, .int .u64 m2.num, .slice m2.ao m2.kids.length m2.cap], .agg #[.int .i64 3, .string t, .string m, .int .u64 u, .slice ao kids.length cap]] W fun e w' => e = .returned (.bool true) ∧ Below W.heap.size W w' from fun W hb hb8 => same_all E2 E2 D m2 (.mk 3 t m u ao cap kids) W HS2.out (HL2.out.below hb8) (HL.out.below hb))
      clear q8 q6 qf8 qf6 k0 k2 k3 k5 k6
      generalize kids.length = len at b4 HSM ⊢
      go_wp2_with fail
      refine (HSM.out _ HB8o.out HK8.out).mono ?_
      rintro e wf ⟨rfl, hbf⟩
      have HBf := Lib.hid (HB8o.out.trans (hbf.mono HB8o.out.size))
      clear hbf
      go_wp2_with fail
      go_ret
      exact ⟨rfl, HBf.out⟩
  · have HS := Lib.hid hs
    have hs1 : (2147483647 : Int) < (name.size : Int) := by omega
    clear hs
    go_enter Tryz.func5, Tryz.ntmps5
    go_wp2_with fail
    refine (fits1_any k t m u ao kids.length cap _).mono ?_
    rintro e w1 ⟨b1, rfl, -, hb1⟩
    have HB1 := Lib.hid (((Below.refl w.heap.size w).alloc (Nat.le_refl _) _).trans (hb1.mono (by simp)))
    clear hb1
    cases b1
    all_goals
      go_wp2_with fail
      go_ret
      exact ⟨rfl, HB1.out⟩

set_option maxRecDepth 100000 in
theorem lifted (os : Os) (started : os.Started) (H : Type) (enc : TypeId × Value → H) :
    ReturnsInHanded {} Tryz.checked os 5 .any (fun w args => (Rows.fnDeleteOptionSpec.pre enc Tryz.prog Tryz.f5 Rows.fnDeleteOptionRow.domain false w args ∧ laidMetH Tryz.prog Rows.fnDeleteOptionRow.laid w) ∧ sizedMet enc Tryz.prog Tryz.f5 (OpenSpec.ofChange Rows.fnDeleteOptionSpec) false w args)
      (Rows.fnDeleteOptionSpec.post enc Tryz.prog Tryz.f5 false true false false) := by
  refine returnsInHanded_of_change_and (C := Tryz.checked) (X := fun w _ => laidMetH Tryz.prog Rows.fnDeleteOptionRow.laid w) (fun _ _ _ hh h => h.of_heap hh) own started (by kernel_rfl) Tryz.func5
    (ChangeSpec.witness_shaped (enc := enc) (C := Tryz.checked) (os := os) (X := fun w _ => laidMetH Tryz.prog Rows.fnDeleteOptionRow.laid w) false (World.laidAll Tryz.prog os Rows.fnDeleteOptionRow.laid) #[.agg #[.int .i64 0, .string ByteArray.empty, .string ByteArray.empty, .int .u64 0, .slice none 0 0], .string ByteArray.empty] 8 (World.laidAll_os _ _ _)
      (World.shaped_of_ZipB (by kernel_rfl) (by kernel_rfl)) (by kernel_rfl) (by kernel_rfl) (by kernel_rfl)
      (by rw [MakeChecks.laidMetH_plain _ _ _ (by kernel_rfl)]; exact laidMet_laidAll _ (by kernel_rfl) (by kernel_rfl))) ?_
  intro W base args ds gs before hval0 hW hc _ hL _
  have hval : ∀ (j : Nat) t v, Tryz.f5.params[j]? = some t → args[j]? = some v → Value.okWide Tryz.prog W .any base t v := hval0
  have hW' := hW
  obtain ⟨p, q, hA0, hV, rfl, _, _⟩ := hW
  have hA : DataW.TrodAll enc Tryz.prog W 0 (fun _ => true) true Tryz.f5.params.toList args.toList ds p := hA0
  rw [Tryz.params5] at hA hval
  obtain ⟨v0, vs0, d0, ds0, p0, q0, hargs, rfl, rfl, h0, r0⟩ := trodAll_cons hA
  obtain ⟨v1, vs1, d1, ds1, p1, q1, rfl, rfl, rfl, h1, r1⟩ := trodAll_cons r0
  obtain ⟨rfl, rfl, rfl⟩ := trodAll_nil r1
  obtain rfl : args = #[v0, v1] := by cases args; simp_all
  obtain ⟨rfl, rfl⟩ := trodVars_none hV
  have k0 := h0
  have lt0 : ∀ x ∈ p0, x.block < W.heap.size := by obtain ⟨m, hm⟩ := k0; exact DataW.trod_lt m _ _ _ hm
  obtain ⟨D, n, rfl, hLn, hRn⟩ := open_node (hval 0 25 v0 rfl rfl) h0
  have k1 := h1
  have lt1 : ∀ x ∈ p1, x.block < W.heap.size := by obtain ⟨m, hm⟩ := k1; exact DataW.trod_lt m _ _ _ hm
  obtain ⟨s, rfl, -, hsz, -⟩ := open_string Tryz.underlying9 (hval 1 9 v1 rfl rfl) h1
  clear hA0 hval0
  rw [MakeChecks.laidMetH_plain _ _ _ (by kernel_rfl)] at hL
  refine (walk D n s W hLn hRn (tabs_of hL (by simp [Rows.fnDeleteOptionRow, Rows.laid_unicode_utf8_first]) (by simp [Rows.fnDeleteOptionRow]))).mono fun e W' ⟨he, bel⟩ => ?_
  subst he
  exact ⟨_, rfl, _, _, _, [], _, [], hW', trodAll_mk1 (shut_bool Tryz.underlying4 _), (trodAll_cons_mk (Below.trod laidOut (by kernel_rfl) (of_decide_eq_true (by kernel_rfl)) k0 bel lt0) (trodAll_cons_mk (Below.trod laidOut (by kernel_rfl) (of_decide_eq_true (by kernel_rfl)) k1 bel lt1) trodAll_mk0)), rfl, bel.frame _, fun h => by cases h⟩

theorem j1 : (Rows.fnDeleteOptionRow.inPlace == Tryz.prog.inPlace 5) = true := by kernel_rfl
theorem j2 : (Rows.fnDeleteOptionRow.unfollowed == Tryz.prog.unfollowed 5) = true := by kernel_rfl
theorem j3 : (Rows.fnDeleteOptionRow.recurses == Tryz.prog.recurses 5) = true := by kernel_rfl
theorem j4 : (Rows.fnDeleteOptionRow.named == Tryz.prog.varsNamed 5) = true := by kernel_rfl
theorem j5 : (Tryz.prog.stops == []) = true := by kernel_rfl
theorem j6 : (Tryz.prog.stopKnobs == []) = true := by kernel_rfl

theorem facts : joinedFacts Tryz.prog 5 Tryz.f5 Rows.fnDeleteOptionSpec Rows.fnDeleteOptionRow = true := by
  unfold joinedFacts
  rw [j1, j2, j3, j4, j5, j6]
  kernel_rfl

theorem fnm : Tryz.pinned.checked.prog.funcNamed Rows.fnDeleteOptionRow.func = some 5 := by kernel_rfl
theorem inst : Tryz.f5.isInstance Tryz.pinned.checked.prog Rows.fnDeleteOptionRow.origin Rows.fnDeleteOptionRow.targs := of_decide_eq_true (by kernel_rfl)
theorem wrp : Tryz.f5.isWrapper Tryz.pinned.checked.prog Rows.fnDeleteOptionRow.wrapper Rows.fnDeleteOptionRow.mainSum := by unfold Func.isWrapper; first | (rw [if_pos (by decide +kernel)]; kernel_rfl) | (rw [if_neg (by decide +kernel)]; exact ⟨rfl, rfl⟩)

theorem said : Rows.FnDeleteOptionSaid :=
  OpenClaim.holds_of_wide 5 Tryz.f5 rfl rfl rfl rfl rfl rfl rfl ⟨rfl, rfl, rfl, rfl, rfl⟩ rfl rfl rfl rfl rfl fnm Tryz.func5 facts inst wrp
    (fun os started H enc _ => lifted os started H enc)

theorem plain (f : FuncId) (fn : Func) (hf : Tryz.pinned.checked.prog.funcNamed "given.example/pub-brazing/laws.FnDeleteOption" = some f) (hfn : Tryz.pinned.checked.prog.funcs[f]? = some fn) :
    true = Tryz.pinned.checked.prog.looks [] ∧ ∀ (j : Nat) t, fn.params[j]? = some t → Tryz.pinned.checked.prog.wantsStandIn t = false := by
  obtain rfl : f = 5 := Option.some.inj ((show Tryz.prog.funcNamed "given.example/pub-brazing/laws.FnDeleteOption" = some 5 by kernel_rfl).symm.trans hf) |>.symm
  obtain rfl : fn = Tryz.f5 := (Option.some.inj (Tryz.func5.symm.trans hfn)).symm
  refine ⟨by kernel_rfl, fun j t ht => ?_⟩
  rw [Tryz.params5] at ht
  have hm : t ∈ [25, 9] := by simpa using Array.mem_of_getElem? ht
  have hall : ([25, 9].all fun u => !Tryz.prog.wantsStandIn u) = true := by kernel_rfl
  exact (show Tryz.prog.wantsStandIn t = false by simpa using List.all_eq_true.1 hall t hm)

/-- THE CARD. -/
theorem card : Rows.FnDeleteOptionCardSaid :=
  Claim7.holds_tied_plain_at .later [] _ _ _ _ said (fun _ h => by cases h) (by kernel_rfl) (fun _ h => by cases h) fnDeleteOption_row_tie rfl ⟨rfl, rfl⟩ (by kernel_rfl) rfl plain (by kernel_rfl)
#print axioms card
end Go.Proofs.YtongafghllkomaaGreatDoor.fnDeleteOption
