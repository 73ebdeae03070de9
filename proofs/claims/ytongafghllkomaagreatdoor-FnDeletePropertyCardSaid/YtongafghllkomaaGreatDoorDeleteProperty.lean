/-
  FnDeleteProperty: for every object and key the law returns true. No conditions beyond the tables that its card ties.
-/
import Derived.Test.YtongafghllkomaaGreatDoorImplDel
import Derived.Test.YtongafghllkomaaGreatDoorWithout
import Derived.Test.YtongafghllkomaaGreatDoorSame
import Derived.Test.YtongafghllkomaaGreatDoorGetP
import Derived.Test.YtongafghllkomaaGreatDoorLaid
import Derived.WalkKit
import Derived.ProofKit
import Derived.OpenShut
import Derived.Lib.Hide
namespace Go.Proofs.YtongafghllkomaaGreatDoor.fnDeleteProperty
open Go.ChangeShapes Go.WideShapes Go.ChangeAt Go.RowKit
open Go.ChangeMaps (open_string shut_string)
set_option linter.unusedVariables false

/-- An object that keyed takes has properties with keys and values. -/
theorem props_keyed {n : Nd} (hG : GoodD 12 n) (hk : n.kind = 28) (hK : KeyedP n) : PropsP n := by
  intro i p hi hp
  obtain ⟨hkp, x, y, hxy⟩ := (props_of hG hk).2.2 i p hi hp
  obtain ⟨hPp, -⟩ := hG.pre.kid (i := i) (x := p) (by omega) hp
  have hx0 : p.kids[0]? = some x := by rw [hxy]; rfl
  obtain ⟨-, hC⟩ := hPp.kid (i := 0) (x := x) (by omega) hx0
  have h6 : ofClassB x 6 = true := by
    have h := hC (by omega)
    rw [hkp, show (fixedL 29).getD 0 (restL 29) = 6 from by decide] at h
    exact h
  have hkx : x.kind ∈ ([33, 34] : List Int) := class_few [33, 34] rfl h6
  refine ⟨hkp, x, y, hxy, by simpa using hkx, ?_⟩
  have h := (hK i p hi hp).1
  unfold Nd.kid at h
  rw [hxy] at h
  exact h

/-- The place that spec.Property tells and the first one are one. -/
theorem first_same {n : Nd} {key : ByteArray} {j i : Nat} {p x y p2 q : Nd} (h : FirstAt n key j p x y) (hi : 0 < i) (hp : n.kids[i]? = some p2) (hq : p2.kids[0]? = some q) (ht : q.text = key) (hf : ∀ (l : Nat) (p q : Nd), 0 < l → l < i → n.kids[l]? = some p → p.kids[0]? = some q → q.text ≠ key) (hP : PropsP n) : i = j ∧ p2 = p := by
  obtain ⟨h0, h1, h2, h3, h4⟩ := h
  have hij : i = j := by
    rcases Nat.lt_trichotomy i j with h | h | h
    · obtain ⟨-, x', y', hxy, -⟩ := hP i p2 hi hp
      have e : q = x' := by rw [hxy] at hq; simpa using hq.symm
      exact absurd (by rw [← e]; exact ht) (h4 i p2 x' y' hi h hp hxy)
    · exact h
    · exact absurd h3 (hf j p x h0 h h1 (by rw [h2]; rfl))
  subst hij
  rw [h1] at hp
  exact ⟨rfl, (Option.some.inj hp).symm⟩

theorem obj_props (ao ao2 : Option Addr) : PropsP (objN ao ao2) := by
  intro i p hi hp
  rcases at2 hp with ⟨rfl, rfl⟩ | ⟨rfl, rfl⟩
  · omega
  · exact ⟨rfl, _, _, rfl, Or.inl rfl, by show (36 : Int) ≠ 0; decide⟩

/-- Of the object with the property a an object with nothing but its head is left. -/
theorem obj_del {ao ao2 : Option Addr} {w : World} {e : Ending} {w' : World} (h : DelImp (objN ao ao2) ⟨#[97]⟩ w e w') :
    ∃ (m : Nd), e = .returned (.tuple #[.agg #[.int .i64 28, .string m.text, .string m.more, .int .u64 m.num, .slice m.ao 1 m.cap], .bool true]) ∧ Below w.heap.size w w' := by
  obtain ⟨D, m, he, hl, h | h, hb⟩ := h
  · obtain ⟨j, p, x, y, hF, hS⟩ := h
    rcases at2 hF.2.1 with ⟨rfl, rfl⟩ | ⟨rfl, rfl⟩
    · exact absurd hF.1 (by omega)
    · cases D with
      | zero => exact hS.elim
      | succ D =>
        obtain ⟨h1, h2, h3, h4, h5, -⟩ := hS
        have e1 : m.kind = 28 := h1.symm
        have e2 : m.kids.length = 1 := h5.symm
        exact ⟨m, by rw [he, e1, e2], hb⟩
  · exact absurd rfl (h.1 1 (propN ao2) (leafN 33 ⟨#[97]⟩) fiveN (by omega) rfl rfl)

theorem lies_lt {D : Nat} {w : World} {n : Nd} (h : LiesD D w n) : LiesIn (fun c => c < w.heap.size) D w n :=
  (LiesD.inn h).carry (fun b o _ hb => ⟨hb, (Array.getElem?_eq_some_iff.1 hb).1⟩)

theorem room_one {D : Nat} {w : World} {n : Nd} (h : LiesD D w n) (hr : RoomD D n) : n.kids.length ≤ n.cap := by
  cases D with
  | zero => exact h.elim
  | succ D => exact hr.1

set_option maxRecDepth 100000 in
set_option maxHeartbeats 2000000 in
theorem walk (D : Nat) (n : Nd) (key : ByteArray) (w : World) (hL : LiesD D w n) (hR : RoomD D n) (hT : Lib.Utf8Tabs 1 2 w) :
    Calls Tryz.prog 7 #[n.val, .string key] w fun e w' => e = .returned (.bool true) ∧ Below w.heap.size w w' := by
  obtain ⟨k, t, m, u, ao, cap, kids⟩ := n
  have HL := Lib.hid hL
  have HR := Lib.hid hR
  have HT := Lib.hid hT
  clear hL hT hR
  show Calls _ _ #[.agg #[.int .i64 k, .string t, .string m, .int .u64 u, .slice ao kids.length cap], _] w _
  by_cases hs : key.size ≤ 2147483647
  · have HS := Lib.hid hs
    have hs1 : (key.size : Int) ≤ 2147483647 := by omega
    clear hs
    go_enter Tryz.func7, Tryz.ntmps7
    go_wp2_with fail
    refine (fits1_any k t m u ao kids.length cap _).mono ?_
    rintro e w1 ⟨b1, rfl, -, hb1⟩
    obtain ⟨k0, -⟩ := bblk hb1 (b := w.heap.size) (by simp)
    have HB1 := Lib.hid (((Below.refl w.heap.size w).alloc (Nat.le_refl _) _).trans (hb1.mono (by simp)))
    have HX1 := Lib.hid hb1
    have hz1 : w.heap.size < w1.heap.size := by have := hb1.size; simp at this; omega
    clear hb1
    cases b1
    · go_wp2_with fail
      go_ret
      exact ⟨rfl, HB1.out⟩
    go_wp2_with fail
    refine (anObject_any _).mono ?_
    rintro e w2 ⟨oa, oa2, rfl, hLo, hb2⟩
    obtain ⟨k2, -⟩ := bblk hb2 (b := w.heap.size) (by omega)
    have HB2 := Lib.hid (HB1.out.trans (hb2.mono HB1.out.size))
    have HX2 := Lib.hid (HX1.out.trans (hb2.mono HX1.out.size))
    have HLO := Lib.hid hLo
    have hz2 : w.heap.size < w2.heap.size := by have := hb2.size; omega
    clear hb2 hLo
    go_wp2_with fail
    refine (implDel (objN oa oa2) ⟨#[97]⟩ 3 _ HLO.out (obj_good oa oa2) rfl (obj_props oa oa2)).mono ?_
    intro e w3 hgot
    obtain ⟨m1, rfl, hb3⟩ := obj_del hgot
    obtain ⟨k3, -⟩ := bblk hb3 (b := w.heap.size) (by omega)
    have HB3 := Lib.hid (HB2.out.trans (hb3.mono HB2.out.size))
    have HX3 := Lib.hid (HX2.out.trans (hb3.mono HX2.out.size))
    have hz3 : w.heap.size < w3.heap.size := by have := hb3.size; omega
    clear hb3 hgot
    go_wp2_with fail
    have HB4 := Lib.hid (HB3.out.alloc (Nat.le_of_lt hz3) (.cells #[.int .i64 28, .string m1.text, .string m1.more, .int .u64 m1.num, .slice m1.ao 1 m1.cap] 25))
    refine (keyed_any D (.mk k t m u ao cap kids) key _ (HL.out.below HB4.out) HR.out HS.out (tabs_below HT.out HB4.out)).mono ?_
    rintro e w5 ⟨b5, rfl, hp5, hb5⟩
    obtain ⟨k5, -⟩ := bblk hb5 (b := w.heap.size) (by simp; omega)
    have HP5 := Lib.hid hp5
    have HB5 := Lib.hid (HB4.out.trans (hb5.mono HB4.out.size))
    have HX5 := Lib.hid (HX3.out.trans (((Below.refl w3.heap.size w3).alloc (Nat.le_refl _) (.cells #[.int .i64 28, .string m1.text, .string m1.more, .int .u64 m1.num, .slice m1.ao 1 m1.cap] 25)).trans (hb5.mono (by simp)) |>.mono HX3.out.size))
    have hz5 : w.heap.size < w5.heap.size := by have := hb5.size; simp at this; omega
    clear hp5 hb5
    cases b5
    · go_wp2_with fail
      go_ret
      exact ⟨rfl, HB5.out⟩
    obtain ⟨hWp, hk, hKy⟩ := HP5.out (by first | rfl | trivial)
    obtain rfl : k = 28 := hk
    have HG := Lib.hid hWp.1
    have HPP := Lib.hid (props_keyed hWp.1 rfl hKy)
    have HPS := Lib.hid (props_of hWp.1 rfl)
    clear hWp hKy
    go_wp2_with fail
    have HB5n := Lib.hid (HB5.out.alloc (Nat.le_of_lt hz5) (.cells #[.int .i64 28, .string t, .string m, .int .u64 u, .slice ao kids.length cap] 25))
    refine (property_at D (.mk 28 t m u ao cap kids) key _ (HL.out.below HB5n.out) (keyable_of HG.out rfl)).mono ?_
    rintro e w6 ⟨z, rfl, hz, hb6⟩
    obtain ⟨k6, -⟩ := bblk hb6 (b := w.heap.size) (by simp; omega)
    obtain ⟨q6, qf6⟩ := bblk hb6 (b := w5.heap.size) (by simp)
    have HB6 := Lib.hid (HB5n.out.trans (hb6.mono HB5n.out.size))
    have hz6 : w5.heap.size < w6.heap.size := by have := hb6.size; simp at this; omega
    clear hb6
    rcases hz with ⟨i, p', q', rfl, hi, hp', hq', ht', hfst⟩ | ⟨rfl, hnone⟩
    · have hi0 : (0 : Int) ≤ (i : Int) := by omega
      have HPA := Lib.hid (show 0 < i ∧ kids[i]? = some p' ∧ p'.kids[0]? = some q' ∧ q'.text = key ∧ ∀ (l : Nat) (p q : Nd), 0 < l → l < i → kids[l]? = some p → p.kids[0]? = some q → q.text ≠ key from ⟨hi, hp', hq', ht', hfst⟩)
      clear hi hp' hq' ht' hfst
      go_wp2_with fail
      refine (without_any (fun c => c < w.heap.size) D (.mk 28 t m u ao cap kids) i _ ((lies_lt HL.out).below HB6.out) (room_one HL.out HR.out) HPA.out.1 (List.getElem?_eq_some_iff.1 HPA.out.2.1).1 HPS.out.2.1).mono ?_
      rintro e w7 ⟨EW, mW, rfl, h1, h2, h3, h4, h5, hLW, hb7⟩
      have HLW := Lib.hid hLW
      have HEQ := Lib.hid (show mW.kind = 28 ∧ mW.text = t ∧ mW.more = m ∧ mW.num = u ∧ mW.kids = kids.eraseIdx i from ⟨h1, h2, h3, h4, h5⟩)
      obtain ⟨q7, qf7⟩ := bblk hb7 (b := w5.heap.size) (by omega)
      obtain ⟨k7, -⟩ := bblk hb7 (b := w.heap.size) (by omega)
      have HB7 := Lib.hid (HB6.out.trans (hb7.mono HB6.out.size))
      have hz7 : w5.heap.size < w7.heap.size := by have := hb7.size; omega
      clear hb7 hLW h1 h2 h3 h4 h5
      go_wp2_with fail
      have HB7s := Lib.hid (((((HB7.out.setCell (p := ⟨w5.heap.size, 0, none⟩) (Nat.le_of_lt hz5) (.int .i64 mW.kind)).setCell (p := ⟨w5.heap.size, 1, none⟩) (Nat.le_of_lt hz5) (.string mW.text)).setCell (p := ⟨w5.heap.size, 2, none⟩) (Nat.le_of_lt hz5) (.string mW.more)).setCell (p := ⟨w5.heap.size, 3, none⟩) (Nat.le_of_lt hz5) (.int .u64 mW.num)).setCell (p := ⟨w5.heap.size, 4, none⟩) (Nat.le_of_lt hz5) (.slice mW.ao mW.kids.length mW.cap))
      refine (implDel (.mk 28 t m u ao cap kids) key D _ (HL.out.below HB7s.out) HG.out rfl HPP.out).mono ?_
      rintro e w8 ⟨E2, m2, rfl, hL2, hf, hb8⟩
      obtain ⟨q8, qf8⟩ := bblk hb8 (b := w5.heap.size) (by first | omega | (simp; omega))
      have HB8 := Lib.hid (HB7s.out.trans (hb8.mono HB7s.out.size))
      have HL2 := Lib.hid hL2
      have HF2 := Lib.hid hf
      have hz8 : w5.heap.size < w8.heap.size := by have := hb8.size; (try simp at this); omega
      have HB8o := Lib.hid (HB8.out.alloc HB8.out.size (.cells #[.int .i64 m2.kind, .string m2.text, .string m2.more, .int .u64 m2.num, .slice m2.ao m2.kids.length m2.cap] 25))
      have HK8 := Lib.hid ((Below.refl w8.heap.size w8).alloc (Nat.le_refl _) (.cells #[.int .i64 m2.kind, .string m2.text, .string m2.more, .int .u64 m2.num, .slice m2.ao m2.kids.length m2.cap] 25))
      have HBZ := Lib.hid hb8
      clear hb8 hL2 hf
      have HS2 := Lib.hid (show SameD E2 m2 mW from by
        obtain ⟨e1, e2, e3, e4, e5⟩ := HEQ.out
        rcases HF2.out with ⟨j, p, x, y, hF, hS⟩ | ⟨hno, -⟩
        · obtain ⟨rfl, -⟩ := first_same hF HPA.out.1 HPA.out.2.1 HPA.out.2.2.1 HPA.out.2.2.2.1 HPA.out.2.2.2.2 HPP.out
          exact (hS.re e1 e2 e3 e4 e5).symm
        · obtain ⟨-, x', y', hxy, -⟩ := HPP.out i p' HPA.out.1 HPA.out.2.1
          have e : q' = x' := by have h := HPA.out.2.2.1; rw [hxy] at h; simpa using h.symm
          exact absurd (by rw [← e]; exact HPA.out.2.2.2.1) (hno i p' x' y' HPA.out.1 HPA.out.2.1 hxy))
      have HLW8 := Lib.hid (show LiesD EW w8 mW from (HLW.out.carry (A' := fun _ => True) (fun c o hA ho => ⟨by
        have hc := (Array.getElem?_eq_some_iff.1 ho).1
        have hne : c ≠ w5.heap.size := by rcases hA with h | h <;> omega
        rw [HBZ.out.block c (by simpa using hc), Below.heap_setCell _ _ _ _ hne, Below.heap_setCell _ _ _ _ hne, Below.heap_setCell _ _ _ _ hne, Below.heap_setCell _ _ _ _ hne, Below.heap_setCell _ _ _ _ hne]
        exact ho, trivial⟩)).lies)
      have b0 : w8.cell? ⟨w5.heap.size, 0, none⟩ = some (.int .i64 mW.kind) := by rw [q8]; simp [go_sem, q7, q6]
      have b1 : w8.cell? ⟨w5.heap.size, 1, none⟩ = some (.string mW.text) := by rw [q8]; simp [go_sem, q7, q6]
      have b2 : w8.cell? ⟨w5.heap.size, 2, none⟩ = some (.string mW.more) := by rw [q8]; simp [go_sem, q7, q6]
      have b3 : w8.cell? ⟨w5.heap.size, 3, none⟩ = some (.int .u64 mW.num) := by rw [q8]; simp [go_sem, q7, q6]
      have b4 : w8.cell? ⟨w5.heap.size, 4, none⟩ = some (.slice mW.ao mW.kids.length mW.cap) := by rw [q8]; simp [go_sem, q7, q6]
      have HSM := Lib.hid (show ∀ W, Below w.heap.size w W → Below w8.heap.size w8 W → Calls Tryz.prog 15 #[.agg #[.int .i64 m2.kind, .string m2.text, .string m2.more, .int .u64 m2.num, .slice m2.ao m2.kids.length m2.cap], .agg #[.int .i64 mW.kind, .string mW.text, .string mW.more, .int .u64 mW.num, .slice mW.ao mW.kids.length mW.cap]] W fun e w' => e = .returned (.bool true) ∧ Below W.heap.size W w' from fun W hb hb8 => same_all E2 E2 EW m2 mW W HS2.out (HL2.out.below hb8) (HLW8.out.below hb8))
      clear q8 q7 q6 qf8 qf7 qf6 k0 k2 k3 k5 k6 k7
      go_wp2_with fail
      refine (HSM.out _ HB8o.out HK8.out).mono ?_
      rintro e wf ⟨rfl, hbf⟩
      have HBf := Lib.hid (HB8o.out.trans (hbf.mono HB8o.out.size))
      clear hbf
      go_wp2_with fail
      go_ret
      exact ⟨rfl, HBf.out⟩
    · go_wp2_with fail
      refine (implDel (.mk 28 t m u ao cap kids) key D _ (HL.out.below HB6.out) HG.out rfl HPP.out).mono ?_
      rintro e w8 ⟨E2, m2, rfl, hL2, hf, hb8⟩
      obtain ⟨q8, qf8⟩ := bblk hb8 (b := w5.heap.size) (by first | omega | (simp; omega))
      have HB8 := Lib.hid (HB6.out.trans (hb8.mono HB6.out.size))
      have HL2 := Lib.hid hL2
      have HF2 := Lib.hid hf
      have hz8 : w5.heap.size < w8.heap.size := by have := hb8.size; (try simp at this); omega
      have HB8o := Lib.hid (HB8.out.alloc HB8.out.size (.cells #[.int .i64 m2.kind, .string m2.text, .string m2.more, .int .u64 m2.num, .slice m2.ao m2.kids.length m2.cap] 25))
      have HK8 := Lib.hid ((Below.refl w8.heap.size w8).alloc (Nat.le_refl _) (.cells #[.int .i64 m2.kind, .string m2.text, .string m2.more, .int .u64 m2.num, .slice m2.ao m2.kids.length m2.cap] 25))
      clear hb8 hL2 hf
      have HS2 := Lib.hid (show SameD E2 m2 (.mk 28 t m u ao cap kids) from by
        rcases HF2.out with ⟨j, p, x, y, hF, -⟩ | ⟨-, hS⟩
        · exact absurd hF.2.2.2.1 (hnone j p x hF.1 hF.2.1 (by rw [hF.2.2.1]; rfl))
        · exact hS.symm)
      clear hnone
      have b0 : w8.cell? ⟨w5.heap.size, 0, none⟩ = some (.int .i64 28) := by rw [q8, q6]; simp [go_sem]
      have b1 : w8.cell? ⟨w5.heap.size, 1, none⟩ = some (.string t) := by rw [q8, q6]; simp [go_sem]
      have b2 : w8.cell? ⟨w5.heap.size, 2, none⟩ = some (.string m) := by rw [q8, q6]; simp [go_sem]
      have b3 : w8.cell? ⟨w5.heap.size, 3, none⟩ = some (.int .u64 u) := by rw [q8, q6]; simp [go_sem]
      have b4 : w8.cell? ⟨w5.heap.size, 4, none⟩ = some (.slice ao kids.length cap) := by rw [q8, q6]; simp [go_sem]
      have HSM := Lib.hid (show ∀ W, Below w.heap.size w W → Below w8.heap.size w8 W → Calls Tryz.prog 15 #[.agg #[.int .i64 m2.kind, .string m2.text, .string m2.more, .int .u64 m2.num, .slice m2.ao m2.kids.length m2.cap], .agg #[.int .i64 28, .string t, .string m, .int .u64 u, .slice ao kids.length cap]] W fun e w' => e = .returned (.bool true) ∧ Below W.heap.size W w' from fun W hb hb8 => same_all E2 E2 D m2 (.mk 28 t m u ao cap kids) W HS2.out (HL2.out.below hb8) (HL.out.below hb))
      clear q8 q6 qf8 qf6 k0 k2 k3 k5 k6
      generalize kids.length = len at b4 HSM ⊢
      go_wp2_with fail
      refine (HSM.out _ HB8o.out HK8.out).mono ?_
      rintro e wf ⟨rfl, hbf⟩
      have HBf := Lib.hid (HB8o.out.trans (hbf.mono HB8o.out.size))
      clear hbf
      go_wp2_with fail
      go_ret
      exact ⟨rfl, HBf.out⟩
  · have HS := Lib.hid hs
    have hs1 : (2147483647 : Int) < (key.size : Int) := by omega
    clear hs
    go_enter Tryz.func7, Tryz.ntmps7
    go_wp2_with fail
    refine (fits1_any k t m u ao kids.length cap _).mono ?_
    rintro e w1 ⟨b1, rfl, -, hb1⟩
    have HB1 := Lib.hid (((Below.refl w.heap.size w).alloc (Nat.le_refl _) _).trans (hb1.mono (by simp)))
    clear hb1
    cases b1
    all_goals
      go_wp2_with fail
      go_ret
      exact ⟨rfl, HB1.out⟩

set_option maxRecDepth 100000 in
theorem lifted (os : Os) (started : os.Started) (H : Type) (enc : TypeId × Value → H) :
    ReturnsInHanded {} Tryz.checked os 7 .any (fun w args => (Rows.fnDeletePropertySpec.pre enc Tryz.prog Tryz.f7 Rows.fnDeletePropertyRow.domain false w args ∧ laidMetH Tryz.prog Rows.fnDeletePropertyRow.laid w) ∧ sizedMet enc Tryz.prog Tryz.f7 (OpenSpec.ofChange Rows.fnDeletePropertySpec) false w args)
      (Rows.fnDeletePropertySpec.post enc Tryz.prog Tryz.f7 false true false false) := by
  refine returnsInHanded_of_change_and (C := Tryz.checked) (X := fun w _ => laidMetH Tryz.prog Rows.fnDeletePropertyRow.laid w) (fun _ _ _ hh h => h.of_heap hh) own started (by kernel_rfl) Tryz.func7
    (ChangeSpec.witness_shaped (enc := enc) (C := Tryz.checked) (os := os) (X := fun w _ => laidMetH Tryz.prog Rows.fnDeletePropertyRow.laid w) false (World.laidAll Tryz.prog os Rows.fnDeletePropertyRow.laid) #[.agg #[.int .i64 0, .string ByteArray.empty, .string ByteArray.empty, .int .u64 0, .slice none 0 0], .string ByteArray.empty] 8 (World.laidAll_os _ _ _)
      (World.shaped_of_ZipB (by kernel_rfl) (by kernel_rfl)) (by kernel_rfl) (by kernel_rfl) (by kernel_rfl)
      (by rw [MakeChecks.laidMetH_plain _ _ _ (by kernel_rfl)]; exact laidMet_laidAll _ (by kernel_rfl) (by kernel_rfl))) ?_
  intro W base args ds gs before hval0 hW hc _ hL _
  have hval : ∀ (j : Nat) t v, Tryz.f7.params[j]? = some t → args[j]? = some v → Value.okWide Tryz.prog W .any base t v := hval0
  have hW' := hW
  obtain ⟨p, q, hA0, hV, rfl, _, _⟩ := hW
  have hA : DataW.TrodAll enc Tryz.prog W 0 (fun _ => true) true Tryz.f7.params.toList args.toList ds p := hA0
  rw [Tryz.params7] at hA hval
  obtain ⟨v0, vs0, d0, ds0, p0, q0, hargs, rfl, rfl, h0, r0⟩ := trodAll_cons hA
  obtain ⟨v1, vs1, d1, ds1, p1, q1, rfl, rfl, rfl, h1, r1⟩ := trodAll_cons r0
  obtain ⟨rfl, rfl, rfl⟩ := trodAll_nil r1
  obtain rfl : args = #[v0, v1] := by cases args; simp_all
  obtain ⟨rfl, rfl⟩ := trodVars_none hV
  have k0 := h0
  have lt0 : ∀ x ∈ p0, x.block < W.heap.size := by obtain ⟨m, hm⟩ := k0; exact DataW.trod_lt m _ _ _ hm
  obtain ⟨D, n, rfl, hLn, hRn⟩ := open_node (hval 0 25 v0 rfl rfl) h0
  have k1 := h1
  have lt1 : ∀ x ∈ p1, x.block < W.heap.size := by obtain ⟨m, hm⟩ := k1; exact DataW.trod_lt m _ _ _ hm
  obtain ⟨s, rfl, -, hsz, -⟩ := open_string Tryz.underlying9 (hval 1 9 v1 rfl rfl) h1
  clear hA0 hval0
  rw [MakeChecks.laidMetH_plain _ _ _ (by kernel_rfl)] at hL
  refine (walk D n s W hLn hRn (tabs_of hL (by simp [Rows.fnDeletePropertyRow, Rows.laid_unicode_utf8_first]) (by simp [Rows.fnDeletePropertyRow]))).mono fun e W' ⟨he, bel⟩ => ?_
  subst he
  exact ⟨_, rfl, _, _, _, [], _, [], hW', trodAll_mk1 (shut_bool Tryz.underlying4 _), (trodAll_cons_mk (Below.trod laidOut (by kernel_rfl) (of_decide_eq_true (by kernel_rfl)) k0 bel lt0) (trodAll_cons_mk (Below.trod laidOut (by kernel_rfl) (of_decide_eq_true (by kernel_rfl)) k1 bel lt1) trodAll_mk0)), rfl, bel.frame _, fun h => by cases h⟩

theorem j1 : (Rows.fnDeletePropertyRow.inPlace == Tryz.prog.inPlace 7) = true := by kernel_rfl
theorem j2 : (Rows.fnDeletePropertyRow.unfollowed == Tryz.prog.unfollowed 7) = true := by kernel_rfl
theorem j3 : (Rows.fnDeletePropertyRow.recurses == Tryz.prog.recurses 7) = true := by kernel_rfl
theorem j4 : (Rows.fnDeletePropertyRow.named == Tryz.prog.varsNamed 7) = true := by kernel_rfl
theorem j5 : (Tryz.prog.stops == []) = true := by kernel_rfl
theorem j6 : (Tryz.prog.stopKnobs == []) = true := by kernel_rfl

theorem facts : joinedFacts Tryz.prog 7 Tryz.f7 Rows.fnDeletePropertySpec Rows.fnDeletePropertyRow = true := by
  unfold joinedFacts
  rw [j1, j2, j3, j4, j5, j6]
  kernel_rfl

theorem fnm : Tryz.pinned.checked.prog.funcNamed Rows.fnDeletePropertyRow.func = some 7 := by kernel_rfl
theorem inst : Tryz.f7.isInstance Tryz.pinned.checked.prog Rows.fnDeletePropertyRow.origin Rows.fnDeletePropertyRow.targs := of_decide_eq_true (by kernel_rfl)
theorem wrp : Tryz.f7.isWrapper Tryz.pinned.checked.prog Rows.fnDeletePropertyRow.wrapper Rows.fnDeletePropertyRow.mainSum := by unfold Func.isWrapper; first | (rw [if_pos (by decide +kernel)]; kernel_rfl) | (rw [if_neg (by decide +kernel)]; exact ⟨rfl, rfl⟩)

theorem said : Rows.FnDeletePropertySaid :=
  OpenClaim.holds_of_wide 7 Tryz.f7 rfl rfl rfl rfl rfl rfl rfl ⟨rfl, rfl, rfl, rfl, rfl⟩ rfl rfl rfl rfl rfl fnm Tryz.func7 facts inst wrp
    (fun os started H enc _ => lifted os started H enc)

theorem plain (f : FuncId) (fn : Func) (hf : Tryz.pinned.checked.prog.funcNamed "given.example/pub-brazing/laws.FnDeleteProperty" = some f) (hfn : Tryz.pinned.checked.prog.funcs[f]? = some fn) :
    true = Tryz.pinned.checked.prog.looks [] ∧ ∀ (j : Nat) t, fn.params[j]? = some t → Tryz.pinned.checked.prog.wantsStandIn t = false := by
  obtain rfl : f = 7 := Option.some.inj ((show Tryz.prog.funcNamed "given.example/pub-brazing/laws.FnDeleteProperty" = some 7 by kernel_rfl).symm.trans hf) |>.symm
  obtain rfl : fn = Tryz.f7 := (Option.some.inj (Tryz.func7.symm.trans hfn)).symm
  refine ⟨by kernel_rfl, fun j t ht => ?_⟩
  rw [Tryz.params7] at ht
  have hm : t ∈ [25, 9] := by simpa using Array.mem_of_getElem? ht
  have hall : ([25, 9].all fun u => !Tryz.prog.wantsStandIn u) = true := by kernel_rfl
  exact (show Tryz.prog.wantsStandIn t = false by simpa using List.all_eq_true.1 hall t hm)

/-- THE CARD. -/
theorem card : Rows.FnDeletePropertyCardSaid :=
  Claim7.holds_tied_plain_at .later [] _ _ _ _ said (fun _ h => by cases h) (by kernel_rfl) (fun _ h => by cases h) fnDeleteProperty_row_tie rfl ⟨rfl, rfl⟩ (by kernel_rfl) rfl plain (by kernel_rfl)
#print axioms card
end Go.Proofs.YtongafghllkomaaGreatDoor.fnDeleteProperty
