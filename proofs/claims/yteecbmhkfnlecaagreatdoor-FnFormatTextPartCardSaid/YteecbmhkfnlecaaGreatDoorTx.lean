/-
  ast.escapeStr: the text with a backslash ahead of each quote and backslash. Conditions: valid UTF-8, at most 300 bytes.
-/
import Derived.Test.YteecbmhkfnlecaaGreatDoorEsc
import Derived.Test.YteecbmhkfnlecaaGreatDoorBu
import Derived.Test.YteecbmhkfnlecaaGreatDoorRdD
import Derived.Lib.Hide
import Derived.Lib.OthersKept
import Derived.Deep.LoopGhost
import Derived.WalkKit
namespace Go.Proofs.YteecbmhkfnlecaaGreatDoor
open Go.RowKit Go.Lib
set_option linter.unusedVariables false
set_option linter.unusedSimpArgs false

theorem esc_at (s : ByteArray) (pos : Nat) (hp : pos < s.size) (hv : validD (s.data.toList.drop pos) = true) :
    1 ≤ (Utf8.decode s pos).2 ∧ pos + (Utf8.decode s pos).2 ≤ s.size ∧ validD (s.data.toList.drop (pos + (Utf8.decode s pos).2)) = true ∧ (Utf8.decode s pos).1 ≤ 1114111 ∧
      escB (s.data.toList.take (pos + (Utf8.decode s pos).2)) = escB (s.data.toList.take pos) ++ (if (Utf8.decode s pos).1 = 34 ∨ (Utf8.decode s pos).1 = 92 then [92] ++ encodeRune ((Utf8.decode s pos).1 : Int) else encodeRune ((Utf8.decode s pos).1 : Int)) ∧
      s.data.toList.take (pos + (Utf8.decode s pos).2) = s.data.toList.take pos ++ encodeRune ((Utf8.decode s pos).1 : Int) := by
  have hlen : s.data.toList.length = s.size := by simp
  have hne : s.data.toList.drop pos ≠ [] := by
    intro e
    have := congrArg List.length e
    rw [List.length_drop] at this
    simp at this
    omega
  have h := esc_step _ hne hv
  rw [decodeL_drop] at h
  obtain ⟨h1, h2, h3, h4, h5, h6⟩ := h
  rw [List.length_drop, hlen] at h2
  have ht : s.data.toList.take (pos + (Utf8.decode s pos).2) = s.data.toList.take pos ++ (s.data.toList.drop pos).take (Utf8.decode s pos).2 := List.take_add
  refine ⟨h1, by omega, by rw [← List.drop_drop]; exact h4, h5, ?_, ?_⟩
  · rw [ht, escB_append, h6]
  · rw [ht, h3]

def chars : ByteArray := ⟨#[34, 92]⟩

theorem next0 (W : World) : ∀ ty, (Instr.next (.pointer (some ⟨W.heap.size, 0, none⟩)) true ty).run Tryz.prog (W.iter ⟨#[34, 92]⟩ 0) = .ok (.tuple #[.bool true, .int .i64 0, .int .i32 34]) (W.iter ⟨#[34, 92]⟩ 1) := fun ty => run_next_ascii W ⟨#[34, 92]⟩ 0 ty (by decide) (by decide)
theorem next1 (W : World) : ∀ ty, (Instr.next (.pointer (some ⟨W.heap.size, 0, none⟩)) true ty).run Tryz.prog (W.iter ⟨#[34, 92]⟩ 1) = .ok (.tuple #[.bool true, .int .i64 1, .int .i32 92]) (W.iter ⟨#[34, 92]⟩ 2) := fun ty => run_next_ascii W ⟨#[34, 92]⟩ 1 ty (by decide) (by decide)
theorem next2 (W : World) : ∀ ty, (Instr.next (.pointer (some ⟨W.heap.size, 0, none⟩)) true ty).run Tryz.prog (W.iter ⟨#[34, 92]⟩ 2) = .ok (.tuple #[.bool false]) (W.iter ⟨#[34, 92]⟩ 2) := fun ty => run_next_end W ⟨#[34, 92]⟩ 2 ty (by decide)

set_option maxRecDepth 100000 in
set_option maxHeartbeats 1000000 in
theorem index_esc (s : ByteArray) (w : World) (hs : s.size ≤ 2147483647) (hv : validD s.data.toList = true) :
    Calls Tryz.prog 86 #[.string s, .string ⟨#[34, 92]⟩] w fun e w' => ∃ z : Int, e = .returned (.int .i64 z) ∧ (z < 0 → escB s.data.toList = s.data.toList) ∧ Below w.heap.size w w' := by
  have HV := Lib.hid hv
  clear hv
  go_enter Tryz.func86, Tryz.ntmps86
  go_wp2_with fail
  go_loopg [] s.size (fun gk wr => ∃ pos : Nat, pos ≤ s.size ∧ gk = s.size - pos ∧ Hid (wr.heap[w.heap.size]? = some (.stringIter s pos)) ∧ Hid (Below w.heap.size w wr) ∧ Hid (validD (s.data.toList.drop pos) = true) ∧ Hid (escB (s.data.toList.take pos) = s.data.toList.take pos))
  case atStart => exact ⟨0, by omega, by omega, Lib.hid (World.iter_heap w s 0), Lib.hid ((Below.refl _ _).alloc (Nat.le_refl _) _), Lib.hid (by simpa using HV.out), Lib.hid rfl⟩
  case round =>
    obtain ⟨pos, hpos, hgk, HI, HB, HVp, HE⟩ := hrel
    have HK := Lib.hid hgk
    clear hgk
    have hsz : w.heap.size < wr.heap.size := (Array.getElem?_eq_some_iff.1 HI.out).1
    by_cases hp : pos < s.size
    · obtain ⟨n1, n2, n3, n4, n5, n6⟩ := esc_at s pos hp HVp.out
      have hnx : ∀ ty, (Instr.next (.pointer (some ⟨w.heap.size, 0, none⟩)) true ty).run Tryz.prog wr = _ := fun ty => Lib.run_next_any_at wr w.heap.size s pos ty HI.out hp
      have hit2 := Lib.hid (Lib.iterAt_heap wr w.heap.size s pos (pos + (Utf8.decode s pos).2) HI.out)
      have hbw2 := Lib.hid (Lib.below_iterAt HB.out (k := w.heap.size) (Nat.le_refl _) s (pos + (Utf8.decode s pos).2))
      obtain ⟨W1, hW1⟩ : ∃ W1, wr.iterAt w.heap.size s (pos + (Utf8.decode s pos).2) = W1 := ⟨_, rfl⟩
      obtain ⟨r, hr⟩ : ∃ r, (Utf8.decode s pos).1 = r := ⟨_, rfl⟩
      obtain ⟨n, hn⟩ : ∃ n, (Utf8.decode s pos).2 = n := ⟨_, rfl⟩
      rw [hW1] at hit2 hbw2
      rw [hn] at hit2 n1 n2 n3 n5 n6 hW1
      rw [hr] at n4 n5 n6
      rw [hr, hn, hW1] at hnx
      have N3 := Lib.hid n3
      have N5 := Lib.hid n5
      have N6 := Lib.hid n6
      clear n3 n5 n6 hr hn hW1
      go_wp2_with fail
      clear hnx
      go_loopg [] 2 (fun gk2 wr2 => ∃ p : Nat, p ≤ 2 ∧ gk2 = 2 - p ∧ wr2 = W1.iter ⟨#[34, 92]⟩ p ∧ Hid ((1 ≤ p → r ≠ 34) ∧ (2 ≤ p → r ≠ 92)))
      case atStart => exact ⟨0, by omega, rfl, rfl, Lib.hid ⟨fun h => by omega, fun h => by omega⟩⟩
      case round =>
        obtain ⟨p, hp2, hgk2, rfl, HR⟩ := hrel
        have HK2 := Lib.hid hgk2
        clear hgk2
        match p, hp2 with
        | 0, _ =>
          have hn0 := next0 W1
          by_cases h34 : r = 34
          · have hq : ((r : Int) == 34) = true := by simp [h34]
            have HB3 := Lib.hid (hbw2.out.alloc hbw2.out.size (.stringIter ⟨#[34, 92]⟩ 1))
            go_wp2_with fail
            go_ret
            exact ⟨_, rfl, fun h => by omega, HB3.out⟩
          · have hq : ((r : Int) == 34) = false := by simp; omega
            have H34 := Lib.hid h34
            clear h34
            go_wp2_with fail
            go_roundg 1
            case measure => rw [HK2.out]; omega
            case rel => exact ⟨1, by omega, rfl, rfl, Lib.hid ⟨fun _ => H34.out, fun h => by omega⟩⟩
        | 1, _ =>
          have hn0 := next1 W1
          by_cases h92 : r = 92
          · have hq : ((r : Int) == 92) = true := by simp [h92]
            have HB3 := Lib.hid (hbw2.out.alloc hbw2.out.size (.stringIter ⟨#[34, 92]⟩ 2))
            go_wp2_with fail
            go_ret
            exact ⟨_, rfl, fun h => by omega, HB3.out⟩
          · have hq : ((r : Int) == 92) = false := by simp; omega
            have H92 := Lib.hid h92
            clear h92
            go_wp2_with fail
            go_roundg 0
            case measure => rw [HK2.out]; omega
            case rel => exact ⟨2, by omega, rfl, rfl, Lib.hid ⟨fun _ => HR.out.1 (by omega), fun _ => H92.out⟩⟩
        | 2, _ =>
          have hn0 := next2 W1
          have h1 : w.heap.size < W1.heap.size := (Array.getElem?_eq_some_iff.1 hit2.out).1
          go_wp2_with fail
          go_roundg (s.size - (pos + n))
          case measure => rw [HK.out]; omega
          case rel =>
            refine ⟨pos + n, n2, rfl, Lib.hid ?_, Lib.hid (hbw2.out.alloc hbw2.out.size _), N3, Lib.hid ?_⟩
            · exact (Below.heap_alloc W1 _ _ h1).trans hit2.out
            · have h := N5.out
              rw [if_neg (by intro e; rcases e with e | e; exact HR.out.1 (by omega) e; exact HR.out.2 (by omega) e), HE.out] at h
              rw [h, N6.out]
    · have hnx : ∀ ty, (Instr.next (.pointer (some ⟨w.heap.size, 0, none⟩)) true ty).run Tryz.prog wr = _ := fun ty => Lib.run_next_end_at wr w.heap.size s pos ty HI.out hp
      obtain rfl : pos = s.size := by omega
      go_wp2_with fail
      go_ret
      refine ⟨_, rfl, fun _ => ?_, HB.out⟩
      have h := HE.out
      rw [List.take_of_length_le (by simp)] at h
      exact h

theorem contains_esc (s : ByteArray) (w : World) (hs : s.size ≤ 2147483647) (hv : validD s.data.toList = true) :
    Calls Tryz.prog 63 #[.string s, .string ⟨#[34, 92]⟩] w fun e w' => ∃ b : Bool, e = .returned (.bool b) ∧ (b = false → escB s.data.toList = s.data.toList) ∧ Below w.heap.size w w' := by
  have HI := Lib.hid (index_esc s w hs hv)
  clear hv
  go_enter Tryz.func63, Tryz.ntmps63
  go_wp2_with fail
  refine HI.out.mono ?_
  rintro e w1 ⟨z, rfl, hz, hb⟩
  have HZ := Lib.hid hz
  have HB := Lib.hid hb
  clear hz hb
  go_wp2_with fail
  go_ret
  exact ⟨_, rfl, fun h => HZ.out (by simpa using h), HB.out⟩

theorem runeCells_asc (c : Nat) (h : c < 128) : runeCells (c : Int) = byteCells [UInt8.ofNat c] := by
  have h2 : (UInt8.ofNat c).toNat = c := by rw [UInt8.toNat_ofNat']; omega
  simp only [runeCells, encodeRuneZ_one (r := (c : Int)) (by omega) (by omega), byteCells, List.map_cons, List.map_nil, h2]

set_option maxRecDepth 100000 in
set_option maxHeartbeats 1000000 in
theorem escape_any (s : ByteArray) (w : World) (hs : s.size ≤ 1000000) (hv : validD s.data.toList = true) :
    Calls Tryz.prog 42 #[.string s] w fun e w' => e = .returned (.string ⟨(escB s.data.toList).toArray⟩) ∧ Below w.heap.size w w' := by
  have HC := Lib.hid (contains_esc s w (by omega) hv)
  have HV := Lib.hid hv
  clear hv
  go_enter Tryz.func42, Tryz.ntmps42
  go_wp2_with fail
  refine HC.out.mono ?_
  rintro e w1 ⟨cb, rfl, hcb, hb1⟩
  have HB1 := Lib.hid hb1
  have HCB := Lib.hid hcb
  clear hb1 hcb
  cases cb
  · have he : s = ⟨(escB s.data.toList).toArray⟩ := by rw [HCB.out rfl]
    have HE := Lib.hid he
    clear he
    go_wp2_with fail
    go_ret
    exact ⟨congrArg (fun x => Ending.returned (.string x)) HE.out, HB1.out⟩
  have hbk := (MapKept.heap_alloc w1 (.cells #[.pointer none, .slice none 0 0] 70)).1
  have HG := Lib.hid (Tryz.Builder_Grow_fresh w1.heap.size w1.heap.size (s.size * 2) (w1.alloc (.cells #[.pointer none, .slice none 0 0] 70)) (Nat.le_refl _) hbk (by simp) (by omega))
  clear hbk HCB
  go_wp2_with fail
  refine HG.out.mono ?_
  rintro e w2 ⟨rfl, h1, h2⟩
  have HI := Lib.hid (Lib.IsBuilderF.of (.inr h1) : Lib.IsBuilderF 70 5 w1.heap.size w1.heap.size (byteCells (escB (s.data.toList.take 0))) w2)
  have HB := Lib.hid (HB1.out.trans ((((Below.refl _ _).alloc (Nat.le_refl _) _).trans h2).mono HB1.out.size))
  have HBs := Lib.hid (((Below.refl w1.heap.size w1).alloc (Nat.le_refl _) _).trans h2)
  have hz2 : w1.heap.size + 1 ≤ w2.heap.size := by have := h2.size; simpa using this
  clear h1 h2 HG
  go_wp2_with fail
  go_loopg [] s.size (fun gk wr => ∃ pos : Nat, pos ≤ s.size ∧ gk = s.size - pos ∧ Hid (wr.heap[w2.heap.size]? = some (.stringIter s pos)) ∧ Hid (Below w.heap.size w wr) ∧ Hid (validD (s.data.toList.drop pos) = true) ∧ Hid (Lib.IsBuilderF 70 5 w1.heap.size w1.heap.size (byteCells (escB (s.data.toList.take pos))) wr))
  case atStart => exact ⟨0, by omega, by omega, Lib.hid (World.iter_heap w2 s 0), Lib.hid (HB.out.alloc HB.out.size _), Lib.hid (by simpa using HV.out), Lib.hid (HI.out.alloc _)⟩
  case round =>
    obtain ⟨pos, hpos, hgk, hit, HBr, HVp, HIr⟩ := hrel
    have HK := Lib.hid hgk
    clear hgk HI HB HBs
    have hsz : w2.heap.size < wr.heap.size := (Array.getElem?_eq_some_iff.1 hit.out).1
    by_cases hp : pos < s.size
    · obtain ⟨n1, n2, n3, n4, n5, n6⟩ := esc_at s pos hp HVp.out
      have hnx : ∀ ty, (Instr.next (.pointer (some ⟨w2.heap.size, 0, none⟩)) true ty).run Tryz.prog wr = _ := fun ty => Lib.run_next_any_at wr w2.heap.size s pos ty hit.out hp
      have hit2 := Lib.hid (Lib.iterAt_heap wr w2.heap.size s pos (pos + (Utf8.decode s pos).2) hit.out)
      have hbw2 := Lib.hid (Lib.below_iterAt HBr.out (k := w2.heap.size) (by have := HB1.out.size; omega) s (pos + (Utf8.decode s pos).2))
      have hI2 := Lib.hid (HIr.out.iterAt hit.out (pos + (Utf8.decode s pos).2))
      have hz3 : w1.heap.size ≤ (wr.iterAt w2.heap.size s (pos + (Utf8.decode s pos).2)).heap.size := by rw [Lib.iterAt_size]; omega
      obtain ⟨W1, hW1⟩ : ∃ W1, wr.iterAt w2.heap.size s (pos + (Utf8.decode s pos).2) = W1 := ⟨_, rfl⟩
      obtain ⟨r, hr⟩ : ∃ r, (Utf8.decode s pos).1 = r := ⟨_, rfl⟩
      obtain ⟨n, hn⟩ : ∃ n, (Utf8.decode s pos).2 = n := ⟨_, rfl⟩
      rw [hW1] at hit2 hbw2 hI2 hz3
      rw [hn] at hit2 n1 n2 n3 n5 n6 hW1
      rw [hr] at n4 n5 n6
      rw [hr, hn, hW1] at hnx
      have N3 := Lib.hid n3
      have N5 := Lib.hid n5
      have hlen : (byteCells (escB (s.data.toList.take pos))).length ≤ 2000000 := by
        rw [byteCells_length]
        have := escB_len (s.data.toList.take pos)
        rw [List.length_take] at this
        omega
      clear n3 n5 n6 hr hn hW1 hit HIr
      by_cases hq : r = 34 ∨ r = 92
      · have HW := Lib.hid (writeRune_k w1.heap.size w1.heap.size (byteCells (escB (s.data.toList.take pos))) (92 : Nat) (by omega) (by omega) W1 hI2.out (by omega) hz3)
        have N6 := N5.out
        rw [if_pos hq] at N6
        have N7 := Lib.hid N6
        clear N6
        rcases hq with rfl | rfl
        all_goals
          go_wp2_with fail
          refine HW.out.mono ?_
          rintro e W2 ⟨rfl, h3, h4, h5⟩
          have hit3 := Lib.hid (h5.iter hit2.out (by omega))
          have HB3 := Lib.hid (hbw2.out.trans (h4.mono HB1.out.size))
          have hz4 : w1.heap.size ≤ W2.heap.size := Nat.le_trans hz3 h4.size
          have HW2 := Lib.hid (fun (r : Nat) (hr : r ≤ 1114111) => writeRune_k w1.heap.size w1.heap.size (byteCells (escB (s.data.toList.take pos)) ++ runeCells ((92 : Nat) : Int)) r (by omega) (by omega) W2 (.inr h3) (by rw [List.length_append]; have := Lib.runeCells_le ((92 : Nat) : Int); omega) hz4)
          clear h3 h4 h5 HW
          go_wp2_with fail
          refine (HW2.out _ n4).mono ?_
          rintro e W3 ⟨rfl, h6, h7, h8⟩
          have hit4 := Lib.hid (h8.iter hit3.out (by omega))
          have HB4 := Lib.hid (HB3.out.trans (h7.mono HB1.out.size))
          have HI6 := Lib.hid h6
          clear h6 h7 h8 HW2
          go_wp2_with fail
          go_roundg (s.size - (pos + n))
          case measure => rw [HK.out]; omega
          case rel =>
            refine ⟨pos + n, n2, rfl, hit4, HB4, N3, Lib.hid (.inr ?_)⟩
            have h := HI6.out
            rw [N7.out, byteCells_append, byteCells_append, byteCells_encodeRune, ← List.append_assoc]
            rw [runeCells_asc 92 (by omega)] at h
            exact h
      · have HW := Lib.hid (writeRune_k w1.heap.size w1.heap.size (byteCells (escB (s.data.toList.take pos))) r (by omega) (by omega) W1 hI2.out (by omega) hz3)
        have N6 := N5.out
        rw [if_neg hq] at N6
        have N7 := Lib.hid N6
        clear N6
        have q1 : ((r : Int) == 34) = false := by simp; omega
        have q2 : ((r : Int) == 92) = false := by simp; omega
        clear hq
        go_wp2_with fail
        refine HW.out.mono ?_
        rintro e W2 ⟨rfl, h3, h4, h5⟩
        have hit3 := Lib.hid (h5.iter hit2.out (by omega))
        have HB3 := Lib.hid (hbw2.out.trans (h4.mono HB1.out.size))
        have HI6 := Lib.hid h3
        clear h3 h4 h5 HW
        go_wp2_with fail
        go_roundg (s.size - (pos + n))
        case measure => rw [HK.out]; omega
        case rel =>
          refine ⟨pos + n, n2, rfl, hit3, HB3, N3, Lib.hid (.inr ?_)⟩
          have h := HI6.out
          rw [N7.out, byteCells_append, byteCells_encodeRune]
          exact h
    · have hnx : ∀ ty, (Instr.next (.pointer (some ⟨w2.heap.size, 0, none⟩)) true ty).run Tryz.prog wr = _ := fun ty => Lib.run_next_end_at wr w2.heap.size s pos ty hit.out hp
      obtain rfl : pos = s.size := by omega
      have hI := HIr.out
      rw [List.take_of_length_le (by simp)] at hI
      have HS := Lib.hid (Tryz.Builder_String_any_k w1.heap.size w1.heap.size (escB s.data.toList) wr hI (by omega))
      clear hI
      go_wp2_with fail
      refine HS.out.mono ?_
      rintro e W1 ⟨rfl, -, h1, -⟩
      have HB3 := Lib.hid (HBr.out.trans (h1.mono HB1.out.size))
      clear h1
      go_wp2_with fail
      go_ret
      exact ⟨rfl, HB3.out⟩
end Go.Proofs.YteecbmhkfnlecaaGreatDoor
