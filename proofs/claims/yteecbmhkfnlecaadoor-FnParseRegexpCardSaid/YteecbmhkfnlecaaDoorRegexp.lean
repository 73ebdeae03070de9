/-
  FnParseRegexp: for every text the law returns true: parsing "/" + the text with its slashes escaped + "/" gives the text. Conditions: the list's tables.
-/
import Derived.Test.YteecbmhkfnlecaaDoorLex
import Derived.Test.YteecbmhkfnlecaaDoorLaid
import Derived.Test.YteecbmhkfnlecaaDoorValid
import Derived.Lib.Hide
import Derived.Deep.LoopGhost
import Derived.Deep.AppendLies
namespace Go.Proofs.YteecbmhkfnlecaaDoor.fnParseRegexp
open Go.ChangeShapes Go.WideShapes Go.ChangeAt Go.RowKit Go.Lib
open Go.ChangeMaps (open_string shut_string)
set_option linter.unusedVariables false

/-- The text within two slashes, its escaped slashes bare. -/
def un : List UInt8 → List UInt8
  | [] => []
  | x :: t => if x = 92 ∧ t.head? = some 47 then un t else x :: un t
def esc (l : List UInt8) : List UInt8 := l.flatMap fun x => if x = 47 then [92, 47] else [x]

theorem un_esc : ∀ l : List UInt8, (∀ x ∈ l, x ≠ 92) → un (esc l) = l
  | [], _ => rfl
  | x :: t, h => by
    have ih := un_esc t fun y hy => h y (List.mem_cons_of_mem _ hy)
    have hx := h x (List.mem_cons_self ..)
    by_cases e : x = 47
    · subst e
      simp [esc, un] at ih ⊢
      exact ih
    · simp [esc, un, e, hx] at ih ⊢
      exact ih

def NoEsc (l : List UInt8) : Prop := ∀ i : Nat, ¬ (l[i]? = some 92 ∧ l[i + 1]? = some 47)

theorem un_of_noEsc : ∀ l : List UInt8, NoEsc l → un l = l
  | [], _ => rfl
  | x :: t, h => by
    have ih := un_of_noEsc t fun i hi => h (i + 1) (by simpa using hi)
    have h0 := h 0
    simp [un]
    rw [if_neg (by simpa [List.head?_eq_getElem?] using h0), ih]

theorem new_any (s : ByteArray) (w : World) : Calls Tryd.prog 36 #[.string s] w fun e w' => e = .returned (.pointer (some ⟨w.heap.size, 0, none⟩)) ∧ w' = w.alloc (.cells #[.string s] 94) := by
  go_enter Tryd.func36, Tryd.ntmps36
  go_wp2_with fail
  go_ret
  exact ⟨rfl, rfl⟩

theorem str_any (s : ByteArray) (b : Nat) (w : World) (hc : w.cell? ⟨b, 0, none⟩ = some (.string s)) : Calls Tryd.prog 23 #[.pointer (some ⟨b, 0, none⟩)] w fun e w' => e = .returned (.string s) ∧ w' = w := by
  go_enter Tryd.func23, Tryd.ntmps23
  go_wp2_with fail
  go_ret
  exact ⟨rfl, rfl⟩

theorem two_iff (l : List UInt8) (k : Nat) (h : k + 2 ≤ l.length) : ((l.drop k).take 2 == [92, 47]) = true ↔ l[k]? = some 92 ∧ l[k + 1]? = some 47 := by
  rw [List.drop_eq_getElem_cons (by omega : k < l.length), List.drop_eq_getElem_cons (by omega : k + 1 < l.length), List.getElem?_eq_getElem (by omega : k < l.length), List.getElem?_eq_getElem (by omega : k + 1 < l.length)]
  simp only [List.take_succ_cons, List.take_zero, beq_iff_eq, List.cons.injEq, Option.some.injEq, and_true]
theorem size_list (s : ByteArray) : s.data.toList.length = s.size := by simp

theorem byte_at (S : ByteArray) (k : Nat) (h : k < S.size) (h' : k < S.data.toList.length) : S[k]'h = S.data.toList[k]'h' := by
  show S.data[k]'h = _
  simp

theorem byte_eq (S : ByteArray) (k : Nat) (x : UInt8) (h : k < S.size) (hx : S.data.toList[k]? = some x) : (S[k]'h).toNat = x.toNat := by
  obtain ⟨h', e⟩ := List.getElem?_eq_some_iff.1 hx
  rw [byte_at S k h h', e]

theorem un_ne : ∀ l : List UInt8, (47 : UInt8) ∈ l → un l ≠ []
  | [], h => by cases h
  | x :: t, h => by
    by_cases hc : x = 92 ∧ t.head? = some 47
    · simp only [un, hc, and_self, if_true]
      refine un_ne t ?_
      cases t with
      | nil => simp at hc
      | cons y t => simp at hc; simp [hc.2]
    · simp [un, hc]

theorem un_step (l : List UInt8) (k : Nat) (x : UInt8) (hx : l[k]? = some x) : un (l.drop k) = if x = 92 ∧ l[k + 1]? = some 47 then un (l.drop (k + 1)) else x :: un (l.drop (k + 1)) := by
  obtain ⟨h, rfl⟩ := List.getElem?_eq_some_iff.1 hx
  rw [List.drop_eq_getElem_cons h]
  simp only [un, List.head?_drop]

set_option maxHeartbeats 400000 in
set_option maxRecDepth 100000 in
theorem index_any (s : ByteArray) (w : World) (hs : s.size ≤ 4294967296) :
    Calls Tryd.prog 35 #[.string s, .string ⟨#[92, 47]⟩] w fun e w' => w' = w ∧ ((e = .returned (.int .i64 (-1)) ∧ NoEsc s.data.toList) ∨ ∃ k : Nat, e = .returned (.int .i64 k) ∧ s.data.toList[k]? = some 92 ∧ s.data.toList[k + 1]? = some 47) := by
  go_enter Tryd.func35, Tryd.ntmps35
  go_wp2_with fail
  go_loopg [5] (s.size + 2) (fun gk i wr => wr = w ∧ ∃ k : Nat, k + gk = s.size + 2 ∧ i = .int .i64 (k : Int) ∧ Hid (∀ j, j < k → ¬ (s.data.toList[j]? = some 92 ∧ s.data.toList[j + 1]? = some 47)))
  case atStart => exact ⟨rfl, 0, by omega, rfl, Lib.hid (fun j h => by omega)⟩
  case round =>
    obtain ⟨rfl, k, hk, rfl, hall⟩ := hrel
    by_cases hkn : k + 2 ≤ s.size
    · have hkz : (k : Int) + 2 ≤ (s.size : Int) := by omega
      have hsl := run_slice_string (P := Tryd.prog) wr 9 s .i64 .i64 (k : Int) ((k : Int) + 2) Tryd.underlying9 (by omega) (by omega) hkz
      rw [show (k : Int).toNat = k by omega, show ((k : Int) + 2).toNat = k + 2 by omega] at hsl
      by_cases he : ((s.extract k (k + 2)).toList == [92, 47]) = true
      · go_wp2_with fail
        go_ret
        rw [extract_toList, show k + 2 - k = 2 by omega, two_iff _ _ (by rw [size_list]; omega)] at he
        exact ⟨rfl, Or.inr ⟨k, rfl, by simpa using he.1, by simpa using he.2⟩⟩
      · rw [Bool.not_eq_true] at he
        go_wp2_with fail
        go_roundg (gk - 1)
        case measure => omega
        case rel =>
          refine ⟨rfl, k + 1, by omega, by push_cast; rfl, Lib.hid fun j hj hm => ?_⟩
          by_cases hjk : j < k
          · exact hall.out j hjk hm
          · obtain rfl : j = k := by omega
            rw [extract_toList, show j + 2 - j = 2 by omega, (two_iff _ _ (by rw [size_list]; omega)).2 hm] at he
            cases he
    · have hkz : ¬ (k : Int) + 2 ≤ (s.size : Int) := by omega
      go_wp2_with fail
      go_ret
      refine ⟨rfl, Or.inl ⟨rfl, fun i hi => ?_⟩⟩
      by_cases hik : i < k
      · exact hall.out i hik hi
      · have := (List.getElem?_eq_some_iff.1 hi.2).1
        simp at this
        have hsz : s.data.size = s.size := rfl
        omega

theorem cells_snoc (P : List UInt8) (x : UInt8) : byteCells P ++ [Value.int .u8 (x.toNat : Int)] = byteCells (P ++ [x]) := by simp [byteCells]

theorem infoByte : (Tryd.prog.info? 5).map (fun i => (i.zero, i.size, i.bytes)) = some (some (.int .u8 0), 1, 1) := by kernel_rfl

set_option maxHeartbeats 400000 in
set_option maxRecDepth 100000 in
theorem regexp_any (S : ByteArray) (l : List UInt8) (w : World) (hS : S.data.toList = 47 :: (l ++ [47])) (h0 : l ≠ []) (hl : l.length ≤ 4294967290) :
    Calls Tryd.prog 22 #[.string S] w fun e w' => ∃ b, e = .returned (.tuple #[.pointer (some ⟨b, 0, none⟩), .nilIface]) ∧ w'.cell? ⟨b, 0, none⟩ = some (.string ⟨(un l).toArray⟩) ∧ Below w.heap.size w w' := by
  have hlp : 0 < l.length := List.length_pos_iff.2 h0
  have hsz : S.size = l.length + 2 := by rw [← size_list, hS]; simp
  obtain ⟨s, hse, hsl⟩ : ∃ s, s = S.extract 1 (S.size - 1) ∧ s.data.toList = l := ⟨_, rfl, by rw [extract_data, hS, hsz]; simp⟩
  have hss : s.size = l.length := by rw [← size_list, hsl]
  have hsl1 := run_slice_string (P := Tryd.prog) w 9 S .i64 .i64 1 ((l.length : Int) + 2 - 1) Tryd.underlying9 (by omega) (by omega) (by omega)
  rw [show ((l.length : Int) + 2 - 1).toNat = S.size - 1 by omega, show (1 : Int).toNat = 1 by rfl, ← hse] at hsl1
  have hS0 : (S[0]'(by omega)).toNat = 47 := byte_eq S 0 47 _ (by rw [hS]; rfl)
  have hS1 : (S[l.length + 1]'(by omega)).toNat = 47 := byte_eq S (l.length + 1) 47 _ (by rw [hS]; simp)
  clear hse
  have HSL := Lib.hid hsl
  have HS := Lib.hid hS
  clear hsl hS
  go_enter Tryd.func22, Tryd.ntmps22
  go_wp2_with fail
  refine (index_any s w (by omega)).mono ?_
  rintro e w1 ⟨rfl, ⟨rfl, hno⟩ | ⟨q, rfl, hq1, hq2⟩⟩
  · rw [HSL.out] at hno
    have hes : s = ⟨(un l).toArray⟩ := by
      rw [un_of_noEsc l hno, ← HSL.out]
    clear hno
    have HE := Lib.hid hes
    clear hes
    go_wp2_with fail
    refine (new_any s _).mono ?_
    rintro e w2 ⟨rfl, rfl⟩
    go_wp2_with fail
    go_ret2
    exact ⟨_, rfl, by rw [← HE.out] <;> simp, (Below.refl _ _).alloc (Nat.le_refl _) _⟩
  · rw [HSL.out] at hq2
    have hne := un_ne l (List.mem_of_getElem? hq2)
    have hqz : ((q : Int) != -1) = true := by simp
    have HNE := Lib.hid hne
    clear hq1 hq2 hne
    obtain ⟨i0, hi, hiz, his, hib⟩ := info_parts infoByte
    go_wp2_with fail
    go_loopg [6, 7] l.length (fun gk v i wr => ∃ (k : Nat) (P : List UInt8) (vo : Option Addr) (vc : Nat), k ≤ l.length ∧ gk = l.length - k ∧ i = .int .i64 (k : Int) ∧ v = .slice vo P.length vc ∧ P.length ≤ k ∧ Hid (wr.ownsRow w1.heap.size 5 1 (.slice vo P.length vc) P.length (byteCells P)) ∧ Hid (Below w1.heap.size w1 wr) ∧ Hid (P ++ un (l.drop k) = un l))
    case atStart => exact ⟨0, [], none, 0, by omega, by omega, rfl, rfl, by simp, Lib.hid ⟨rfl, .inl ⟨rfl, rfl⟩⟩, Lib.hid (Below.refl _ _), Lib.hid rfl⟩
    case round =>
      obtain ⟨k, P, vo, vc, hk, rfl, rfl, rfl, hPk, HO, HB, HP⟩ := hrel
      by_cases hkn : k < l.length
      · have hkz : (k : Int) < (l.length : Int) := by omega
        obtain ⟨x, hx⟩ : ∃ x, l[k]? = some x := ⟨l[k]'hkn, List.getElem?_eq_getElem _⟩
        have hxs : (s[k]'(by omega)).toNat = x.toNat := byte_eq s k x _ (by rw [HSL.out]; exact hx)
        have HX := Lib.hid hx
        have kb : (P.length + 1) * 1 ≤ 140737488355328 := by omega
        have km : P.length + 1 ≤ maxLen := by unfold maxLen; omega
        clear hx
        by_cases h92 : x = 92
        · subst h92
          replace hxs : (s[k]'(by omega)).toNat = 92 := hxs
          have cs : byteCells P ++ [Value.int .u8 92] = byteCells (P ++ [92]) := cells_snoc P 92
          by_cases hk1 : k + 1 < l.length
          · have hk1z : (k : Int) + 1 < (l.length : Int) := by omega
            obtain ⟨y, hy⟩ : ∃ y, l[k + 1]? = some y := ⟨l[k + 1]'hk1, List.getElem?_eq_getElem _⟩
            have hys : (s[k + 1]'(by omega)).toNat = y.toNat := byte_eq s (k + 1) y _ (by rw [HSL.out]; exact hy)
            have HY := Lib.hid hy
            clear hy
            by_cases h47 : y = 47
            · have hy2 : y.toNat = 47 := by rw [h47]; rfl
              go_wp2_with fail
              go_roundg (l.length - (k + 1))
              case measure => omega
              case rel =>
                refine ⟨k + 1, P, vo, vc, by omega, rfl, by push_cast; rfl, rfl, by omega, HO, HB, Lib.hid ?_⟩
                rw [← HP.out, un_step l k 92 HX.out, if_pos ⟨rfl, by rw [HY.out, h47]⟩]
            · have hy2 : ((y.toNat : Int) == 47) = false := by
                have : y.toNat ≠ 47 := fun e => h47 (UInt8.toNat.inj e)
                simp; omega
              have HC : Hid (¬ ((92 : UInt8) = 92 ∧ l[k + 1]? = some 47)) := Lib.hid (by rw [HY.out]; simp [h47])
              go_wp2_with (at_builtin; refine wpList_append_lies _ rfl _ _ 67 rfl w1.heap.size 5 i0 (.int .u8 0) 1 1 Tryd.underlying67 hi hiz his hib rfl (by decide) (.slice vo P.length vc) P.length _ rfl (HO.out.alloc _) ⟨wr.heap.size, 0, none⟩ 1 1 [.int .u8 92] rfl rfl (cell_one_new _ _ _) (by intro u hu; simp at hu; subst hu; rfl) (by decide) km kb (by have := HB.out.size; simp; omega) _ rfl ?_; intro g' cap' w4 hown' hgrow hat hlt; rw [cs] at hown')
              have HO2 := Lib.hid hown'
              have HB2 : Hid (Below w1.heap.size w1 w4) := Lib.hid ((HB.out.alloc HB.out.size _).grown hgrow (by have := HB.out.size; simp; omega) (fun q hq => (HO.out.lt q hq).1))
              clear hown' hgrow hat hlt
              go_wp2_with fail
              go_roundg (l.length - (k + 1))
              case measure => omega
              case rel =>
                refine ⟨k + 1, P ++ [92], some ⟨g', 0, none⟩, cap', by omega, rfl, by push_cast; rfl, by simp, by simp; omega, ?_, HB2, Lib.hid ?_⟩
                · simpa using HO2
                · rw [← HP.out, un_step l k 92 HX.out, if_neg (fun h => HC.out ⟨trivial, h.2⟩)]; simp
          · have hk1z : ¬ (k : Int) + 1 < (l.length : Int) := by omega
            have HC : Hid (¬ ((92 : UInt8) = 92 ∧ l[k + 1]? = some 47)) := Lib.hid (by rw [List.getElem?_eq_none (by omega)]; simp)
            go_wp2_with (at_builtin; refine wpList_append_lies _ rfl _ _ 67 rfl w1.heap.size 5 i0 (.int .u8 0) 1 1 Tryd.underlying67 hi hiz his hib rfl (by decide) (.slice vo P.length vc) P.length _ rfl (HO.out.alloc _) ⟨wr.heap.size, 0, none⟩ 1 1 [.int .u8 92] rfl rfl (cell_one_new _ _ _) (by intro u hu; simp at hu; subst hu; rfl) (by decide) km kb (by have := HB.out.size; simp; omega) _ rfl ?_; intro g' cap' w4 hown' hgrow hat hlt; rw [cs] at hown')
            have HO2 := Lib.hid hown'
            have HB2 : Hid (Below w1.heap.size w1 w4) := Lib.hid ((HB.out.alloc HB.out.size _).grown hgrow (by have := HB.out.size; simp; omega) (fun q hq => (HO.out.lt q hq).1))
            clear hown' hgrow hat hlt
            go_wp2_with fail
            go_roundg (l.length - (k + 1))
            case measure => omega
            case rel =>
              refine ⟨k + 1, P ++ [92], some ⟨g', 0, none⟩, cap', by omega, rfl, by push_cast; rfl, by simp, by simp; omega, ?_, HB2, Lib.hid ?_⟩
              · simpa using HO2
              · rw [← HP.out, un_step l k 92 HX.out, if_neg (fun h => HC.out ⟨trivial, h.2⟩)]; simp
        · have hx2 : ((x.toNat : Int) == 92) = false := by
            have : x.toNat ≠ 92 := fun e => h92 (UInt8.toNat.inj e)
            simp; omega
          have HC : Hid (¬ (x = 92 ∧ l[k + 1]? = some 47)) := Lib.hid (by simp [h92])
          go_wp2_with (at_builtin; refine wpList_append_lies _ rfl _ _ 67 rfl w1.heap.size 5 i0 (.int .u8 0) 1 1 Tryd.underlying67 hi hiz his hib rfl (by decide) (.slice vo P.length vc) P.length _ rfl (HO.out.alloc _) ⟨wr.heap.size, 0, none⟩ 1 1 [.int .u8 (x.toNat : Int)] rfl rfl (cell_one_new _ _ _) (by intro u hu; simp at hu; subst hu; rfl) (by decide) km kb (by have := HB.out.size; simp; omega) _ rfl ?_; intro g' cap' w4 hown' hgrow hat hlt; rw [cells_snoc] at hown')
          have HO2 := Lib.hid hown'
          have HB2 : Hid (Below w1.heap.size w1 w4) := Lib.hid ((HB.out.alloc HB.out.size _).grown hgrow (by have := HB.out.size; simp; omega) (fun q hq => (HO.out.lt q hq).1))
          clear hown' hgrow hat hlt
          go_wp2_with fail
          go_roundg (l.length - (k + 1))
          case measure => omega
          case rel =>
            refine ⟨k + 1, P ++ [x], some ⟨g', 0, none⟩, cap', by omega, rfl, by push_cast; rfl, by simp, by simp; omega, ?_, HB2, Lib.hid ?_⟩
            · simpa using HO2
            · rw [← HP.out, un_step l k x HX.out, if_neg HC.out]; simp
      · have hkz : ¬ (k : Int) < (l.length : Int) := by omega
        obtain rfl : k = l.length := by omega
        have hP := HP.out
        rw [List.drop_length] at hP
        simp only [un, List.append_nil] at hP
        have hPl : 0 < P.length := List.length_pos_iff.2 (by rw [hP]; exact HNE.out)
        obtain ⟨g, cap, he, hg0, hg1⟩ := HO.out.form hPl
        cases he
        have kq := run_convert_bytes_back (P := Tryd.prog) wr 67 9 5 ⟨g, 0, none⟩ vc P Tryd.underlying67 Tryd.underlying5 Tryd.underlying9 (fun j hj => HO.out.cells (g := g) rfl j _ (by simp [byteCells, hj]))
        have HP2 := Lib.hid hP
        clear hP
        go_wp2_with fail
        refine (new_any _ _).mono ?_
        rintro e w2 ⟨rfl, rfl⟩
        go_wp2_with fail
        go_ret2
        exact ⟨_, rfl, by rw [← HP2.out] <;> simp, HB.out.alloc HB.out.size _⟩

theorem parse_any (S : ByteArray) (l : List UInt8) (w : World) (hS : S.data.toList = 47 :: (l ++ [47])) (h0 : l ≠ []) (hl : l.length ≤ 4294967290) :
    Calls Tryd.prog 10 #[.string S] w fun e w' => e = .returned (.tuple #[.string ⟨(un l).toArray⟩, .bool true]) ∧ Below w.heap.size w w' := by
  have HR : Hid (Calls Tryd.prog 22 #[.string S] w _) := Lib.hid (regexp_any S l w hS h0 hl)
  clear hS h0 hl
  go_enter Tryd.func10, Tryd.ntmps10
  go_wp2_with fail
  refine HR.out.mono ?_
  rintro e w1 ⟨b, rfl, hc, hb⟩
  go_wp2_with fail
  refine (str_any _ b w1 hc).mono ?_
  rintro e w2 ⟨rfl, rfl⟩
  go_wp2_with fail
  go_ret2
  exact ⟨rfl, hb⟩

theorem slashes (o : ByteArray) : ((⟨#[47]⟩ : ByteArray) ++ o ++ ⟨#[47]⟩).data.toList = 47 :: (o.data.toList ++ [47]) := by
  simp [ByteArray.data_append]

theorem esc_snoc (l : List UInt8) (k : Nat) (x : UInt8) (hx : l[k]? = some x) : esc (l.take (k + 1)) = esc (l.take k) ++ (if x = 47 then [92, 47] else [x]) := by
  simp [esc, List.take_add_one, hx]

theorem esc_len : ∀ l : List UInt8, (esc l).length ≤ 2 * l.length
  | [] => by simp [esc]
  | x :: t => by
    have := esc_len t
    by_cases e : x = 47 <;> simp [esc, e] at this ⊢ <;> omega

set_option maxHeartbeats 800000 in
set_option maxRecDepth 100000 in
theorem walk (s : ByteArray) (w : World) (hT : Lib.Utf8Tabs 0 1 w) :
    Calls Tryd.prog 4 #[.string s] w fun e w' => e = .returned (.bool true) ∧ Below w.heap.size w w' := by
  have HT := Lib.hid hT
  clear hT
  by_cases hs : 2147483647 < s.size
  · go_enter Tryd.func4, Tryd.ntmps4
    go_wp2_with fail
    go_ret
    exact ⟨rfl, Below.refl _ _⟩
  obtain ⟨l, hl⟩ : ∃ l, s.data.toList = l := ⟨_, rfl⟩
  have hsl : s.size = l.length := by rw [← size_list, hl]
  have HL := Lib.hid hl
  clear hl
  go_enter Tryd.func4, Tryd.ntmps4
  go_wp2_with fail
  refine (parse_any ⟨#[47, 97, 47]⟩ [97] w rfl (by decide) (by decide)).mono ?_
  rintro e w1 ⟨rfl, hb1⟩
  have hu : (un [97]).toArray = #[97] := by rfl
  rw [hu]
  have HB1 := Lib.hid hb1
  clear hb1 hu
  go_wp2_with fail
  go_loopg [6, 7] l.length (fun gk o i wr => wr = w1 ∧ ∃ (k : Nat) (out : ByteArray), k ≤ l.length ∧ gk = l.length - k ∧ i = .int .i64 (k : Int) ∧ o = .string out ∧ Hid (out.data.toList = esc (l.take k)) ∧ Hid (∀ x ∈ l.take k, x ≠ 92))
  case atStart => exact ⟨rfl, 0, _, by omega, by omega, rfl, rfl, Lib.hid (by simp [esc]), Lib.hid (by simp)⟩
  case round =>
    obtain ⟨rfl, k, out, hk, rfl, rfl, rfl, HO, HF⟩ := hrel
    by_cases hkn : k < l.length
    · have hkz : (k : Int) < (l.length : Int) := by omega
      obtain ⟨x, hx⟩ : ∃ x, l[k]? = some x := ⟨l[k]'hkn, List.getElem?_eq_getElem _⟩
      have hxs : (s[k]'(by omega)).toNat = x.toNat := byte_eq s k x _ (by rw [HL.out]; exact hx)
      have HX := Lib.hid hx
      have hsl1 := run_slice_string (P := Tryd.prog) wr 9 s .i64 .i64 (k : Int) ((k : Int) + 1) Tryd.underlying9 (by omega) (by omega) (by omega)
      rw [show (k : Int).toNat = k by omega, show ((k : Int) + 1).toNat = k + 1 by omega] at hsl1
      have hex : (s.extract k (k + 1)).data.toList = [x] := by
        rw [extract_data, HL.out, show k + 1 - k = 1 by omega, List.drop_eq_getElem_cons hkn]
        simp [(List.getElem?_eq_some_iff.1 hx).2]
      have HE := Lib.hid hex
      have h1s : (s.extract k (k + 1)).size = 1 := by rw [← size_list, hex]; rfl
      generalize s.extract k (k + 1) = one at hsl1 HE h1s
      have hos : out.size ≤ 8589934592 := by
        have h1 := esc_len (l.take k)
        rw [← HO.out, size_list] at h1
        simp at h1
        omega
      clear hx hex
      by_cases h92 : x = 92
      · subst h92
        replace hxs : (s[k]'(by omega)).toNat = 92 := hxs
        go_wp2_with fail
        go_ret
        exact ⟨rfl, HB1.out⟩
      have hx92 : ((x.toNat : Int) == 92) = false := by
        have : x.toNat ≠ 92 := fun e => h92 (UInt8.toNat.inj e)
        simp; omega
      have H92 := Lib.hid h92
      clear h92
      by_cases h32 : (x.toNat : Int) < 32
      · go_wp2_with fail
        go_ret
        exact ⟨rfl, HB1.out⟩
      by_cases h47 : x = 47
      · have hx2 : ((x.toNat : Int) == 47) = true := by rw [h47]; rfl
        have H47 := Lib.hid h47
        clear h47
        go_wp2_with fail
        go_roundg (l.length - (k + 1))
        case measure => omega
        case rel =>
          refine ⟨rfl, k + 1, out ++ ⟨#[92]⟩ ++ one, by omega, rfl, by push_cast; rfl, rfl, Lib.hid ?_, Lib.hid ?_⟩
          · rw [esc_snoc l k x HX.out, if_pos H47.out, ← HO.out]
            simp [ByteArray.data_append, HE.out, H47.out]
          · intro y hy
            rw [List.take_add_one, HX.out] at hy
            rcases List.mem_append.1 hy with h | h
            · exact HF.out y h
            · simp at h; subst h; exact H92.out
      · have hx2 : ((x.toNat : Int) == 47) = false := by
          have : x.toNat ≠ 47 := fun e => h47 (UInt8.toNat.inj e)
          simp; omega
        have H47 := Lib.hid h47
        clear h47
        go_wp2_with fail
        go_roundg (l.length - (k + 1))
        case measure => omega
        case rel =>
          refine ⟨rfl, k + 1, out ++ one, by omega, rfl, by push_cast; rfl, rfl, Lib.hid ?_, Lib.hid ?_⟩
          · rw [esc_snoc l k x HX.out, if_neg H47.out, ← HO.out]
            simp [ByteArray.data_append, HE.out]
          · intro y hy
            rw [List.take_add_one, HX.out] at hy
            rcases List.mem_append.1 hy with h | h
            · exact HF.out y h
            · simp at h; subst h; exact H92.out
    · have hkz : ¬ (k : Int) < (l.length : Int) := by omega
      obtain rfl : k = l.length := by omega
      have hO := HO.out
      have hF := HF.out
      rw [List.take_length] at hO hF
      by_cases he : (s.toList == []) = true
      · go_wp2_with fail
        go_ret
        exact ⟨rfl, HB1.out⟩
      rw [Bool.not_eq_true] at he
      by_cases h3 : (300 : Int) < (l.length : Int)
      · go_wp2_with fail
        go_ret
        exact ⟨rfl, HB1.out⟩
      have hl0 : l ≠ [] := by
        intro e
        have h1 : s = ⟨#[]⟩ := ByteArray.ext (Array.toList_inj.1 (by rw [HL.out, e]))
        have h2 : (s.toList == []) = true := by rw [h1]; simp
        rw [h2] at he
        cases he
      have hol : (esc l).length ≤ 600 := by have := esc_len l; omega
      have ho0 : esc l ≠ [] := by
        intro e
        have := un_esc l hF
        rw [e] at this
        exact hl0 this.symm
      have hun : (⟨(un (esc l)).toArray⟩ : ByteArray) = s := by rw [un_esc l hF, ← HL.out]
      have HP : Hid (∀ w2, Calls Tryd.prog 10 #[.string (⟨#[47]⟩ ++ out ++ ⟨#[47]⟩)] w2 fun e w' => e = .returned (.tuple #[.string s, .bool true]) ∧ Below w2.heap.size w2 w') := by
        refine Lib.hid fun w2 => ?_
        have := parse_any (⟨#[47]⟩ ++ out ++ ⟨#[47]⟩) (esc l) w2 (by rw [slashes, hO]) ho0 (by omega)
        rwa [hun] at this
      clear hO hF hl0 hol ho0 hun
      have hself : (s.toList == s.toList) = true := by simp
      have hos : out.size ≤ 8589934592 := by
        have h1 := esc_len (l.take l.length)
        rw [← HO.out, size_list] at h1
        simp at h1
        omega
      go_wp2_with fail
      refine (Tryd.utf8_ValidString s wr (by omega) (tabs_below HT.out HB1.out)).mono ?_
      rintro e w3 ⟨rfl, hb3⟩
      have HB3 := Lib.hid (HB1.out.trans (hb3.mono HB1.out.size))
      clear hb3
      generalize Lib.validD s.data.toList = vd
      cases vd
      · go_wp2_with fail
        go_ret
        exact ⟨rfl, HB3.out⟩
      · go_wp2_with fail
        refine (HP.out _).mono ?_
        rintro e w4 ⟨rfl, hb4⟩
        go_wp2_with fail
        go_ret
        exact ⟨rfl, HB3.out.trans (hb4.mono HB3.out.size)⟩
set_option maxRecDepth 100000 in
theorem lifted (os : Os) (started : os.Started) (H : Type) (enc : TypeId × Value → H) :
    ReturnsInHanded {} Tryd.checked os 4 .any (fun w args => (Rows.fnParseRegexpSpec.pre enc Tryd.prog Tryd.f4 Rows.fnParseRegexpRow.domain false w args ∧ laidMetH Tryd.prog Rows.fnParseRegexpRow.laid w) ∧ sizedMet enc Tryd.prog Tryd.f4 (OpenSpec.ofChange Rows.fnParseRegexpSpec) false w args)
      (Rows.fnParseRegexpSpec.post enc Tryd.prog Tryd.f4 false true false false) := by
  refine returnsInHanded_of_change_and (C := Tryd.checked) (X := fun w _ => laidMetH Tryd.prog Rows.fnParseRegexpRow.laid w) (fun _ _ _ hh h => h.of_heap hh) own started (by kernel_rfl) Tryd.func4
    (ChangeSpec.witness_shaped (enc := enc) (C := Tryd.checked) (os := os) (X := fun w _ => laidMetH Tryd.prog Rows.fnParseRegexpRow.laid w) false (World.laidAll Tryd.prog os Rows.fnParseRegexpRow.laid) #[.string ByteArray.empty] 8 (World.laidAll_os _ _ _)
      (World.shaped_of_ZipB (by kernel_rfl) (by kernel_rfl)) (by kernel_rfl) (by kernel_rfl) (by kernel_rfl)
      (by rw [MakeChecks.laidMetH_plain _ _ _ (by kernel_rfl)]; exact laidMet_laidAll _ (by kernel_rfl) (by kernel_rfl))) ?_
  intro W base args ds gs before hval0 hW hc _ hL _
  have hval : ∀ (j : Nat) t v, Tryd.f4.params[j]? = some t → args[j]? = some v → Value.okWide Tryd.prog W .any base t v := hval0
  have hW' := hW
  obtain ⟨p, q, hA0, hV, rfl, _, _⟩ := hW
  have hA : DataW.TrodAll enc Tryd.prog W 0 (fun _ => true) true Tryd.f4.params.toList args.toList ds p := hA0
  rw [Tryd.params4] at hA hval
  obtain ⟨v0, vs0, d0, ds0, p0, q0, hargs, rfl, rfl, h0, r0⟩ := trodAll_cons hA
  obtain ⟨rfl, rfl, rfl⟩ := trodAll_nil r0
  obtain rfl : args = #[v0] := by cases args; simp_all
  obtain ⟨rfl, rfl⟩ := trodVars_none hV
  have k0 := h0
  have lt0 : ∀ x ∈ p0, x.block < W.heap.size := by obtain ⟨m, hm⟩ := k0; exact DataW.trod_lt m _ _ _ hm
  obtain ⟨s, rfl, -, -, -⟩ := open_string Tryd.underlying9 (hval 0 9 v0 rfl rfl) h0
  clear hA0 hval0
  rw [MakeChecks.laidMetH_plain _ _ _ (by kernel_rfl)] at hL
  refine (walk s W (tabs_of hL (by simp [Rows.fnParseRegexpRow, Rows.laid_unicode_utf8_first]) (by simp [Rows.fnParseRegexpRow]))).mono fun e W' ⟨he, bel⟩ => ?_
  subst he
  exact ⟨_, rfl, _, _, _, [], _, [], hW', trodAll_mk1 (shut_bool Tryd.underlying4 _), (trodAll_cons_mk (Below.trod laidOut (by kernel_rfl) (of_decide_eq_true (by kernel_rfl)) k0 bel lt0) trodAll_mk0), rfl, bel.frame _, fun h => by cases h⟩

theorem said : Rows.FnParseRegexpSaid :=
  OpenClaim.holds_of_wide 4 Tryd.f4 rfl rfl rfl rfl rfl rfl rfl ⟨rfl, rfl, rfl, rfl, rfl⟩ rfl rfl rfl rfl rfl (by kernel_rfl) Tryd.func4 (by kernel_rfl)
    (of_decide_eq_true (by kernel_rfl)) (by unfold Func.isWrapper; first | (rw [if_pos (by decide +kernel)]; kernel_rfl) | (rw [if_neg (by decide +kernel)]; exact ⟨rfl, rfl⟩))
    (fun os started H enc _ => lifted os started H enc)

theorem plain (f : FuncId) (fn : Func) (hf : Tryd.pinned.checked.prog.funcNamed "given.example/pub-brazing/laws.FnParseRegexp" = some f) (hfn : Tryd.pinned.checked.prog.funcs[f]? = some fn) :
    false = Tryd.pinned.checked.prog.looks [] ∧ ∀ (j : Nat) t, fn.params[j]? = some t → Tryd.pinned.checked.prog.wantsStandIn t = false := by
  obtain rfl : f = 4 := Option.some.inj ((show Tryd.prog.funcNamed "given.example/pub-brazing/laws.FnParseRegexp" = some 4 by kernel_rfl).symm.trans hf) |>.symm
  obtain rfl : fn = Tryd.f4 := (Option.some.inj (Tryd.func4.symm.trans hfn)).symm
  refine ⟨by kernel_rfl, fun j t ht => ?_⟩
  rw [Tryd.params4] at ht
  have hm : t ∈ [9] := by simpa using Array.mem_of_getElem? ht
  have hall : ([9].all fun u => !Tryd.prog.wantsStandIn u) = true := by kernel_rfl
  exact (show Tryd.prog.wantsStandIn t = false by simpa using List.all_eq_true.1 hall t hm)

/-- ████ THE CARD ████ -/
theorem card : Rows.FnParseRegexpCardSaid :=
  Claim7.holds_tied_plain_at .later [] _ _ _ _ said (fun _ h => by cases h) (by kernel_rfl) (fun _ h => by cases h) fnParseRegexp_row_tie rfl ⟨rfl, rfl⟩ (by kernel_rfl) rfl plain (by kernel_rfl)
#print axioms card
end Go.Proofs.YteecbmhkfnlecaaDoor.fnParseRegexp
