/-
  The reader of a quoted text at this seat's numbers: fromHexChar, writeNextUnescapedRune, ParseText, ParseString.
-/
import Derived.Test.YteecbmhkfnlecaaDoorQuote
import Derived.Test.YteecbmhkfnlecaaDoorLex
import Derived.Test.YteecbmhkfnlecaaDoorBuilder
import Derived.Test.YteecbmhkfnlecaaDoorShelf
import Derived.Lib.Hide
import Derived.Deep.LoopGhost
import Derived.Lib.Strings
import Derived.BigQuiet
import Derived.Lib.QuietBelow
namespace Go.Proofs.YteecbmhkfnlecaaDoor.fnParseString
open Go.RowKit Go.Lib
set_option linter.unusedVariables false

theorem hex_any (d : Nat) (hd : d < 16) (w : World) : Calls Tryd.prog 64 #[.int .u8 (hexc d).toNat] w fun e w' => e = .returned (.tuple #[.int .u8 d, .bool true]) ∧ w' = w := by
  by_cases h : d < 10
  · have e : (hexc d).toNat = 48 + d := by unfold hexc; rw [if_pos h, ofNat_toNat _ (by omega)]
    rw [e]
    push_cast
    have h1 : (48 : Int) ≤ 48 + (d : Int) := by omega
    have h2 : 48 + (d : Int) ≤ 57 := by omega
    go_enter Tryd.func64, Tryd.ntmps64
    go_wp2_with fail
    go_ret2
    simp
    omega
  · have e : (hexc d).toNat = 87 + d := by unfold hexc; rw [if_neg h, ofNat_toNat _ (by omega)]
    rw [e]
    push_cast
    have h1 : (48 : Int) ≤ 87 + (d : Int) := by omega
    have h2 : ¬ 87 + (d : Int) ≤ 57 := by omega
    have h3 : (97 : Int) ≤ 87 + (d : Int) := by omega
    have h4 : 87 + (d : Int) ≤ 102 := by omega
    go_enter Tryd.func64, Tryd.ntmps64
    go_wp2_with fail
    go_ret2
    simp
    omega

theorem builder_below {B b : Nat} {bs : List Value} {W W1 : World} (h : Lib.IsBuilderF 102 5 B b bs W) (hb : Below W.heap.size W W1) : Lib.IsBuilderF 102 5 B b bs W1 := by
  have key : ∀ p, Lib.BuilderAtF 102 5 B b p bs W → Lib.BuilderAtF 102 5 B b p bs W1 := by
    rintro p ⟨h1, v, h2, h3, h4⟩
    exact ⟨h1, v, (hb.block b (Array.getElem?_eq_some_iff.1 h2).1).trans h2, h3.kept ⟨hb.os, hb.tape, hb.output, hb.size, fun i hi _ => hb.block i hi⟩ (row := none) (Classical.em _), h4⟩
  exact h.elim (fun x => .inl (key _ x)) (fun x => .inr (key _ x))

/-- What one step of the reader does with the text S: it takes n bytes and adds the bytes o to the builder. -/
def Step (S : List UInt8) (n : Nat) (o : List UInt8) : Prop :=
  ∀ (s : ByteArray) (B b : Nat) (l : List UInt8) (w : World), s.data.toList = S → s.size ≤ 4294967296 → l.length ≤ 4294967296 → Lib.Utf8Tabs 0 1 w → Lib.IsBuilderF 102 5 B b (byteCells l) w → B ≤ w.heap.size →
    Calls Tryd.prog 53 #[.string s, .pointer (some ⟨b, 0, none⟩)] w fun e w' => e = .returned (.tuple #[.int .i64 n, .nilIface]) ∧ Lib.IsBuilderF 102 5 B b (byteCells (l ++ o)) w' ∧ Below B w w'

set_option maxHeartbeats 400000 in
set_option maxRecDepth 100000 in
theorem step_rune (S : List UInt8) (r n : Nat) (h0 : S ≠ []) (hd : decodeL S = (r, n)) (hr : r ≠ 92) (hr2 : r ≤ 1114111) (hn : 0 < n) : Step S n (encodeRune (r : Int)) := by
  intro s B b l w hs hsz hl hT hI hB
  have hdg : decodeGo s = (r, n) := by rw [decodeGo_list s S hs h0, hd]
  have H1 := Lib.hid (Tryd.utf8_DecodeRuneInString s w hT)
  rw [hdg] at H1
  have hrz : ((r : Int) == 92) = false := by simp; omega
  have hnz : (0 : Int) < (n : Int) := by omega
  clear hT hd hdg hs hr
  go_enter Tryd.func53, Tryd.ntmps53
  go_wp2_with fail
  refine H1.out.mono ?_
  rintro e w1 ⟨rfl, hb1⟩
  have HI := Lib.hid (builder_below hI hb1)
  have HB := Lib.hid (hb1.mono (B' := B) hB)
  have hB1 : B ≤ w1.heap.size := by have := hb1.size; omega
  clear hI hb1 H1
  have HW := Lib.hid (writeRune_k B b (byteCells l) r (by omega) (by omega) w1 HI.out (by rw [byteCells_length]; omega) hB1)
  clear HI
  go_wp2_with fail
  refine HW.out.mono ?_
  rintro e w2 ⟨rfl, h3, h4, -⟩
  go_wp2_with fail
  go_ret2
  refine ⟨rfl, .inr ?_, HB.out.trans h4⟩
  rw [byteCells_append, byteCells_encodeRune]
  exact h3

theorem ascii_any (s : ByteArray) (x : UInt8) (w : World) (h0 : s.data.toList[0]? = some x) (hx : x.toNat < 128) :
    Calls Tryd.prog 33 #[.string s] w fun e w' => e = .returned (.tuple #[.int .i32 x.toNat, .int .i64 1]) ∧ w' = w := Tryd.utf8_DecodeRuneInString_ascii s x w h0 hx

set_option maxHeartbeats 800000 in
set_option maxRecDepth 100000 in
theorem step_esc (c m : Nat) (T : List UInt8) (hcm : (c, m) = (110, 10) ∨ (c, m) = (114, 13) ∨ (c, m) = (116, 9) ∨ (c, m) = (92, 92) ∨ (c, m) = (34, 34)) : Step (92 :: UInt8.ofNat c :: T) 2 [UInt8.ofNat m] := by
  intro s B b l w hs hsz hl hT hI hB
  have hlen : 2 ≤ s.size := by rw [size_eq, hs]; simp
  have hm : m < 128 := by simp at hcm; omega
  have hc : c < 128 := by simp at hcm; omega
  have hcz : (UInt8.ofNat c).toNat = c := ofNat_toNat c (by omega)
  have A1 := Lib.hid (ascii_any s 92 w (by rw [hs]; rfl) (by decide))
  obtain ⟨s1, hs1e, hs1⟩ : ∃ s1, s1 = s.extract 1 s.size ∧ s1.data.toList = UInt8.ofNat c :: T := ⟨_, rfl, by rw [extract_data, hs]; simp [size_eq, hs]⟩
  have A2 := ascii_any s1 (UInt8.ofNat c) w (by rw [hs1]; rfl) (by omega)
  rw [hcz] at A2
  have A2 := Lib.hid A2
  have hsl := run_slice_string_l (P := Tryd.prog) w 9 s Tryd.underlying9 .i64 1 (by omega) (by omega)
  rw [show (1 : Int).toNat = 1 by rfl, ← hs1e] at hsl
  have HW := writeRune_k B b (byteCells l) m (by omega) (by omega) w hI (by rw [byteCells_length]; omega) hB
  rw [runeCells_ascii m hm, ← byteCells_append] at HW
  have HW := Lib.hid HW
  clear hT hI hs hs1 hs1e
  simp only [Prod.mk.injEq] at hcm
  rcases hcm with ⟨rfl, rfl⟩ | ⟨rfl, rfl⟩ | ⟨rfl, rfl⟩ | ⟨rfl, rfl⟩ | ⟨rfl, rfl⟩
  all_goals
    go_enter Tryd.func53, Tryd.ntmps53
    go_wp2_with fail
    refine A1.out.mono ?_
    rintro e w1 ⟨rfl, rfl⟩
    go_wp2_with fail
    refine A2.out.mono ?_
    rintro e w2 ⟨rfl, rfl⟩
    go_wp2_with fail
    refine HW.out.mono ?_
    rintro e w2 ⟨rfl, h3, h4, -⟩
    go_wp2_with fail
    go_ret2
    exact ⟨rfl, .inr h3, h4⟩

theorem byte_at (S : ByteArray) (k : Nat) (h : k < S.size) (h' : k < S.data.toList.length) : S[k]'h = S.data.toList[k]'h' := by
  show S.data[k]'h = _
  simp

theorem byte_eq (S : ByteArray) (k : Nat) (x : UInt8) (h : k < S.size) (hx : S.data.toList[k]? = some x) : (S[k]'h).toNat = x.toNat := by
  obtain ⟨h', e⟩ := List.getElem?_eq_some_iff.1 hx
  rw [byte_at S k h h', e]

theorem or_byte : ∀ X : Fin 256, bits .or .u8 ((X.val : Int) / 16 * 16) ((X.val : Int) % 16) = X.val := by decide +kernel

set_option maxHeartbeats 800000 in
set_option maxRecDepth 100000 in
theorem step_hex (x : UInt8) (T : List UInt8) : Step (92 :: 120 :: hexc (x.toNat / 16) :: hexc (x.toNat % 16) :: T) 4 [x] := by
  intro s B b l w hs hsz hl hT hI hB
  have hx256 := x.toNat_lt
  have hlen : 4 ≤ s.size := by rw [size_eq, hs]; simp
  have A1 := Lib.hid (ascii_any s 92 w (by rw [hs]; rfl) (by decide))
  obtain ⟨s1, hs1e, hs1⟩ : ∃ s1, s1 = s.extract 1 s.size ∧ s1.data.toList = 120 :: hexc (x.toNat / 16) :: hexc (x.toNat % 16) :: T := ⟨_, rfl, by rw [extract_data, hs]; simp [size_eq, hs]⟩
  obtain ⟨s2, hs2e, hs2⟩ : ∃ s2, s2 = s.extract 2 s.size ∧ s2.size = s.size - 2 := ⟨_, rfl, by rw [ByteArray.size_extract]; omega⟩
  have A2 := Lib.hid (ascii_any s1 120 w (by rw [hs1]; rfl) (by decide))
  have hsl := run_slice_string_l (P := Tryd.prog) w 9 s Tryd.underlying9 .i64 1 (by omega) (by omega)
  rw [show (1 : Int).toNat = 1 by rfl, ← hs1e] at hsl
  have hsl2 := run_slice_string_l (P := Tryd.prog) w 9 s Tryd.underlying9 .i64 2 (by omega) (by omega)
  rw [show (2 : Int).toNat = 2 by rfl, ← hs2e] at hsl2
  have hb2 : (s[2]'(by omega)).toNat = (hexc (x.toNat / 16)).toNat := byte_eq s 2 _ _ (by rw [hs]; rfl)
  have hb3 : (s[3]'(by omega)).toNat = (hexc (x.toNat % 16)).toNat := byte_eq s 3 _ _ (by rw [hs]; rfl)
  have hlt : ¬ ((s2.size : Int) < 2) := by omega
  have X1 := Lib.hid (hex_any (x.toNat / 16) (by omega) w)
  have X2 := Lib.hid (hex_any (x.toNat % 16) (by omega) w)
  have HW := Lib.hid (writeByte_k B b (byteCells l) x.toNat w hI (by rw [byteCells_length]; omega) hB)
  have hor := or_byte ⟨x.toNat, hx256⟩
  simp only at hor
  clear hT hI hs hs1 hs1e hs2e
  generalize hexc (x.toNat / 16) = h1 at hb2 X1
  generalize hexc (x.toNat % 16) = h2 at hb3 X2
  go_enter Tryd.func53, Tryd.ntmps53
  go_wp2_with fail
  refine A1.out.mono ?_
  rintro e w1 ⟨rfl, rfl⟩
  go_wp2_with fail
  refine A2.out.mono ?_
  rintro e w2 ⟨rfl, rfl⟩
  go_wp2_with fail
  refine X1.out.mono ?_
  rintro e w2 ⟨rfl, rfl⟩
  go_wp2_with fail
  refine X2.out.mono ?_
  rintro e w2 ⟨rfl, rfl⟩
  go_wp2_with fail
  refine HW.out.mono ?_
  rintro e w2 ⟨rfl, h3, h4, -⟩
  go_wp2_with fail
  go_ret2
  refine ⟨rfl, .inr ?_, h4⟩
  rw [byteCells_append, show byteCells [x] = [Value.int .u8 (x.toNat : Int)] by simp [byteCells]]
  exact h3

theorem byteOf (x : UInt8) (hx : x.toNat < 128) : [x] = encodeRune (x.toNat : Int) := by
  simp only [encodeRune, encodeRuneZ_one (r := (x.toNat : Int)) (by omega) (by omega), List.map_cons, List.map_nil]
  simp

/-- One step at the place k of the text: what it takes of the quoted text, what it adds. -/
theorem step_at (ev : Bool) (x : UInt8) (t : List UInt8) (hv : validD (x :: t) = true) :
    ∃ n j : Nat, 0 < n ∧ 0 < j ∧ j ≤ (x :: t).length ∧ Step (q ev (x :: t)) n ((x :: t).take j) ∧ (q ev (x :: t)).drop n = q ev ((x :: t).drop j) ∧ n ≤ (q ev (x :: t)).length ∧ validD ((x :: t).drop j) = true := by
  have ofN : ∀ c : Nat, c < 256 → ∀ y : UInt8, y.toNat = c → y = UInt8.ofNat c := fun c _ y h => by rw [← h]; simp
  by_cases hx : x.toNat < 128
  · have hvt : validD t = true := by rw [← validD_cons x t hx]; exact hv
    rw [q_cons]
    unfold qb
    by_cases a1 : x = 34 ∨ x = 92
    · rw [if_pos a1]
      refine ⟨2, 1, by omega, by omega, by simp, ?_, by simp, by simp, by simpa using hvt⟩
      rcases a1 with rfl | rfl
      · exact step_esc 34 34 _ (by simp)
      · exact step_esc 92 92 _ (by simp)
    rw [if_neg a1]
    by_cases a2 : x = 10
    · subst a2
      exact ⟨2, 1, by omega, by omega, by simp, step_esc 110 10 _ (by simp), by simp, by simp, by simpa using hvt⟩
    rw [if_neg a2]
    by_cases a3 : x = 13
    · subst a3
      exact ⟨2, 1, by omega, by omega, by simp, step_esc 114 13 _ (by simp), by simp, by simp, by simpa using hvt⟩
    rw [if_neg a3]
    by_cases a4 : x = 9
    · subst a4
      exact ⟨2, 1, by omega, by omega, by simp, step_esc 116 9 _ (by simp), by simp, by simp, by simpa using hvt⟩
    rw [if_neg a4]
    by_cases a5 : (x.toNat < 128 ∧ ev = true) ∨ x = 36
    · rw [if_pos a5]
      exact ⟨4, 1, by omega, by omega, by simp, step_hex x _, by simp, by simp, by simpa using hvt⟩
    rw [if_neg a5]
    have h92 : x.toNat ≠ 92 := fun e => a1 (Or.inr (ofN 92 (by omega) x e))
    refine ⟨1, 1, by omega, by omega, by simp, ?_, by simp, by simp, by simpa using hvt⟩
    have := step_rune (x :: q ev t) x.toNat 1 (by simp) (by rw [decodeL_N]; simp [decodeN, hx]) h92 (by omega) (by omega)
    rw [← byteOf x hx] at this
    exact this
  · obtain ⟨r, n, hd, h1, h2, h3, h4, h5, h6, h7⟩ := lead ev x t (by omega) hv
    have hqn : q ev (x :: t) ≠ [] := by
      rw [h4]
      intro e
      have := congrArg List.length e
      simp at this
      omega
    refine ⟨n, n, by omega, by omega, h2, ?_, ?_, ?_, h5⟩
    · rw [← h3]
      exact step_rune _ r n hqn hd (by omega) h7 (by omega)
    · rw [h4]
      have : ((x :: t).take n).length = n := by rw [List.length_take]; omega
      rw [List.drop_append_of_le_length (by omega), List.drop_of_length_le (by omega)]
      rfl
    · rw [h4, List.length_append, List.length_take]
      omega

theorem q_nil (ev : Bool) (l : List UInt8) (h : q ev l = []) : l = [] := by
  cases l with
  | nil => rfl
  | cons x t =>
    rw [q_cons] at h
    have : qb ev x ≠ [] := by unfold qb; repeat' split
                              all_goals simp
    simp [this] at h

set_option maxHeartbeats 800000 in
set_option maxRecDepth 100000 in
theorem text_any (ev : Bool) (s : ByteArray) (l : List UInt8) (w : World) (hs : s.data.toList = q ev l) (hv : validD l = true) (hl : l.length ≤ 1000000) (hT : Lib.Utf8Tabs 0 1 w) :
    Calls Tryd.prog 39 #[.string s] w fun e w' => e = .returned (.tuple #[.string ⟨l.toArray⟩, .nilIface]) ∧ Below w.heap.size w w' := by
  have hsz : s.size ≤ 4000000 := by rw [size_eq, hs]; have := q_len ev l; omega
  have hbk := (MapKept.heap_alloc w (.cells #[.pointer none, .slice none 0 0] 102)).1
  have HG := Lib.hid (Tryd.Builder_Grow_fresh w.heap.size w.heap.size s.size (w.alloc (.cells #[.pointer none, .slice none 0 0] 102)) (Nat.le_refl _) hbk (by simp) (by omega))
  have HT := Lib.hid hT
  have HS := Lib.hid hs
  have HV := Lib.hid hv
  clear hs hv hT hbk
  go_enter Tryd.func39, Tryd.ntmps39
  go_wp2_with fail
  refine HG.out.mono ?_
  rintro e w1 ⟨rfl, h1, h2⟩
  have HI := Lib.hid (Lib.IsBuilderF.of (.inr h1) : Lib.IsBuilderF 102 5 w.heap.size w.heap.size (byteCells (l.take 0)) w1)
  have HB := Lib.hid (((Below.refl _ _).alloc (Nat.le_refl _) _).trans h2)
  clear h1 h2 HG
  go_wp2_with fail
  go_loopg [6] l.length (fun gk i wr => ∃ k off : Nat, k ≤ l.length ∧ gk = l.length - k ∧ i = .int .i64 (off : Int) ∧ off ≤ s.size ∧ Hid (s.data.toList.drop off = q ev (l.drop k)) ∧ Hid (validD (l.drop k) = true) ∧ Hid (Lib.IsBuilderF 102 5 w.heap.size w.heap.size (byteCells (l.take k)) wr) ∧ Hid (Below w.heap.size w wr))
  case atStart => exact ⟨0, 0, by omega, by omega, rfl, by omega, Lib.hid (by simpa using HS.out), Lib.hid (by simpa using HV.out), HI, HB⟩
  case round =>
    obtain ⟨k, off, hk, rfl, rfl, hoff, HD, HV2, HI2, HB2⟩ := hrel
    clear HI HB
    by_cases hlt : off < s.size
    · have hltz : (off : Int) < (s.size : Int) := by omega
      have hkl : k < l.length := by
        rcases Nat.lt_or_ge k l.length with h | h
        · exact h
        · have h1 := HD.out
          rw [List.drop_of_length_le h] at h1
          have := congrArg List.length h1
          simp [q] at this
          have : s.data.toList.length = s.size := by rw [size_eq]
          simp at this
          omega
      have hdk := List.drop_eq_getElem_cons hkl
      obtain ⟨n, j, hn, hj, hjl, hstep, hdrop, hnl, hv2⟩ := step_at ev _ _ (by rw [← hdk]; exact HV2.out)
      rw [← hdk] at hjl hstep hdrop hnl hv2
      obtain ⟨s1, hs1e, hs1⟩ : ∃ s1, s1 = s.extract off s.size ∧ s1.data.toList = q ev (l.drop k) := ⟨_, rfl, by rw [extract_data, ← HD.out, List.take_of_length_le]; rw [List.length_drop, size_eq]; exact Nat.le_refl _⟩
      have hsl := run_slice_string_l (P := Tryd.prog) wr 9 s Tryd.underlying9 .i64 (off : Int) (by omega) (by omega)
      rw [show (off : Int).toNat = off by omega, ← hs1e] at hsl
      have hs1z : s1.size ≤ 4294967296 := by rw [hs1e, ByteArray.size_extract]; omega
      have HC := Lib.hid (hstep s1 w.heap.size w.heap.size (l.take k) wr hs1 hs1z (by simp; omega) (tabs_below HT.out HB2.out) HI2.out HB2.out.size)
      have hjk : k + j ≤ l.length := by rw [List.length_drop] at hjl; omega
      have hno : off + n ≤ s.size := by
        rw [← HD.out, List.length_drop] at hnl
        have : s.data.toList.length = s.size := by rw [size_eq]
        omega
      have htk : l.take k ++ (l.drop k).take j = l.take (k + j) := by rw [List.take_add]
      rw [htk] at HC
      have HD3 : Hid (s.data.toList.drop (off + n) = q ev (l.drop (k + j))) := Lib.hid (by rw [← List.drop_drop, HD.out, hdrop, List.drop_drop])
      have HV3 : Hid (validD (l.drop (k + j)) = true) := Lib.hid (by rw [← List.drop_drop]; exact hv2)
      clear hstep hdrop hnl hv2 hs1 hs1e hs1z hdk hjl HI2 HD HV2
      go_wp2_with fail
      refine HC.out.mono ?_
      rintro e w3 ⟨rfl, h3, h4⟩
      have HI3 := Lib.hid h3
      have HB3 := Lib.hid (HB2.out.trans h4)
      clear h3 h4
      go_wp2_with fail
      go_roundg (l.length - (k + j))
      case measure => omega
      case rel => exact ⟨k + j, off + n, hjk, rfl, by push_cast; rfl, hno, HD3, HV3, HI3, HB3⟩
    · have hltz : ¬ (off : Int) < (s.size : Int) := by omega
      have h1 := HD.out
      rw [List.drop_of_length_le (by have : s.data.toList.length = s.size := by rw [size_eq]
                                     omega)] at h1
      have h2 := q_nil ev _ h1.symm
      have h3 : l.take k = l := by
        have h4 := List.take_append_drop k l
        rw [h2, List.append_nil] at h4
        exact h4
      have hI := HI2.out
      rw [h3] at hI
      have HW := Lib.hid (Tryd.Builder_String_any_k w.heap.size w.heap.size l wr hI HB2.out.size)
      clear h1 h2 h3 hI
      go_wp2_with fail
      refine HW.out.mono ?_
      rintro e w4 ⟨rfl, -, h5, -⟩
      go_wp2_with fail
      go_ret2
      exact ⟨rfl, HB2.out.trans h5⟩

set_option maxHeartbeats 400000 in
set_option maxRecDepth 100000 in
theorem inner_any (ev : Bool) (S : ByteArray) (l : List UInt8) (w : World) (hS : S.data.toList = 34 :: (q ev l ++ [34])) (hv : validD l = true) (hl : l.length ≤ 1000000) (hT : Lib.Utf8Tabs 0 1 w) :
    Calls Tryd.prog 26 #[.string S] w fun e w' => e = .returned (.tuple #[.string ⟨l.toArray⟩, .nilIface]) ∧ Below w.heap.size w w' := by
  have hql := q_len ev l
  obtain ⟨qn, hq⟩ : ∃ qn, qn = (q ev l).length := ⟨_, rfl⟩
  rw [← hq] at hql
  have hsz : S.size = qn + 2 := by rw [size_eq, hS, hq]; simp
  obtain ⟨s, hse, hsl⟩ : ∃ s, s = S.extract 1 (S.size - 1) ∧ s.data.toList = q ev l := ⟨_, rfl, by rw [extract_data, hS, hsz, hq]; simp⟩
  have hsl1 := run_slice_string (P := Tryd.prog) w 9 S .i64 .i64 1 ((qn : Int) + 2 - 1) Tryd.underlying9 (by omega) (by omega) (by omega)
  rw [show ((qn : Int) + 2 - 1).toNat = S.size - 1 by omega, show (1 : Int).toNat = 1 by rfl, ← hse] at hsl1
  have i0 : 0 < S.size := by omega
  have i1 : qn + 1 < S.size := by omega
  have hS0 : (S[0]'i0).toNat = 34 := byte_eq S 0 34 _ (by rw [hS]; rfl)
  have hS1 : (S[qn + 1]'i1).toNat = 34 := byte_eq S (qn + 1) 34 _ (by rw [hS, hq]; simp)
  have HC := Lib.hid (text_any ev s l w hsl hv hl hT)
  clear hse hS hsl hT hv hq
  go_enter Tryd.func26, Tryd.ntmps26
  go_wp2_with fail
  refine HC.out.mono ?_
  rintro e w1 ⟨rfl, hb⟩
  go_wp2_with fail
  go_ret2
  exact ⟨rfl, hb⟩

theorem parse_any (ev : Bool) (S : ByteArray) (l : List UInt8) (w : World) (hS : S.data.toList = 34 :: (q ev l ++ [34])) (hv : validD l = true) (hl : l.length ≤ 1000000) (hT : Lib.Utf8Tabs 0 1 w) :
    Calls Tryd.prog 14 #[.string S] w fun e w' => e = .returned (.tuple #[.string ⟨l.toArray⟩, .bool true]) ∧ Below w.heap.size w w' := by
  have HC := Lib.hid (inner_any ev S l w hS hv hl hT)
  clear hS hv hT
  go_enter Tryd.func14, Tryd.ntmps14
  go_wp2_with fail
  refine HC.out.mono ?_
  rintro e w1 ⟨rfl, hb⟩
  go_wp2_with fail
  go_quiet (fail)
  go_wp2_with fail
  go_ret2
  exact ⟨rfl, hb.trans ⟨rfl, rfl, rfl, Nat.le_refl _, fun _ _ => rfl⟩⟩
end Go.Proofs.YteecbmhkfnlecaaDoor.fnParseString
