/-
  Types: written, read and taken back, all levels. No conditions.
-/
import Derived.Test.YtcbcdgifakcooaaGreatDoorTyW
import Derived.Test.YtcbcdgifakcooaaGreatDoorTf
import Derived.Test.YtcbcdgifakcooaaGreatDoorTp
import Derived.Test.YtcbcdgifakcooaaGreatDoorImB
namespace Go.Proofs.YtcbcdgifakcooaaGreatDoor
open Go.RowKit
set_option linter.unusedVariables false
set_option linter.unusedSimpArgs false

/-- All that FromBuf and DecodeMonoType do, so many levels down. -/
structure ReadC (d : Nat) : Prop where
  dec : DecC d
  f47 : FromC 18 (.agg #[.pointer none, .slice none 0 0, .slice none 0 0, .nilIface]) d 47
  f49 : FromC 25 (.agg #[.pointer none, .slice none 0 0, .slice none 0 0, .slice none 0 0, .pointer none]) d 49
  f50 : FromC 76 (.agg #[.pointer none, .slice none 0 0, .slice none 0 0, .pointer none, .nilIface]) d 50
  f51 : FromC 23 (.agg #[.pointer none, .slice none 0 0, .slice none 0 0, .slice none 0 0, .nilIface]) d 51
  f52 : FromC 69 (.agg #[.pointer none, .slice none 0 0, .slice none 0 0, .pointer none, .nilIface, .string ⟨#[]⟩]) d 52

theorem readAll : ∀ d, ReadC d
  | 0 => ⟨fun _ _ _ _ _ _ _ _ h => h.elim, fun _ _ _ _ _ _ _ _ h => h.elim, fun _ _ _ _ _ _ _ _ h => h.elim, fun _ _ _ _ _ _ _ _ h => h.elim, fun _ _ _ _ _ _ _ _ h => h.elim, fun _ _ _ _ _ _ _ _ h => h.elim⟩
  | d + 1 => by
    have ih := readAll d
    have f45 := from_45 d
    have f46 := from_46 d
    have f47 := from_47 d ih.dec
    have f48 := from_48 d ih.dec
    have f49 := from_49 d ih.f50
    have f51 := from_51 d ih.dec ih.f52
    refine ⟨fun n tb rb cap p B w hk hT hR h => ?_, f47, f49, from_50 d ih.dec, f51, from_52 d ih.dec⟩
    rcases hk with hk | hk | hk | hk | hk | hk
    · have q := dec_45 (d + 1) f45 n tb rb cap p B w hk hT hR h
      rw [hk]
      exact q
    · have q := dec_46 (d + 1) f46 n tb rb cap p B w hk hT hR h
      rw [hk]
      exact q
    · have q := dec_47 (d + 1) f47 n tb rb cap p B w hk hT hR h
      rw [hk]
      exact q
    · have q := dec_48 (d + 1) f48 n tb rb cap p B w hk hT hR h
      rw [hk]
      exact q
    · have q := dec_49 (d + 1) f49 n tb rb cap p B w hk hT hR h
      rw [hk]
      exact q
    · have q := dec_51 (d + 1) f51 n tb rb cap p B w hk hT hR h
      rw [hk]
      exact q

theorem id_tame {x : Nd} (h : IdP x) : ∀ D, TameD D x := leaf_tame h.2.2.1 (by rw [h.1]; decide)
theorem may_tame {x : Nd} (h : MayP x) : ∀ D, TameD D x := by
  rcases h with h | h
  · exact leaf_tame h.2.2.2.2 (by rw [h.1]; decide)
  · exact id_tame h

theorem tyTame : ∀ (d : Nat) (n : Nd), TyP d n → ∀ D, TameD D n
  | 0, _, h, _ => h.elim
  | _ + 1, _, _, 0 => trivial
  | d + 1, n, h, D + 1 => by
    have hk : n.kind ≠ 27 ∧ n.kind ≠ 13 ∧ n.kind ≠ 15 ∧ n.kind ≠ 16 := by
      rcases h.2.2.2.2.2.2.2 with h | h | h | h | h | h | h <;> (have := h.1; omega)
    refine ⟨hk, fun i y hy => ?_⟩
    rcases h.2.2.2.2.2.2.2 with h | h | h | h | h | h | h
    · obtain ⟨-, x, hkx, hx⟩ := h
      rw [hkx] at hy
      match i, hy with
      | 0, hy => obtain rfl : x = y := by simpa using hy
                 exact id_tame hx D
      | i + 1, hy => simp at hy
    · obtain ⟨-, x, hkx, -, hx⟩ := h
      rw [hkx] at hy
      match i, hy with
      | 0, hy => obtain rfl : x = y := by simpa using hy
                 exact tyTame d x hx D
      | i + 1, hy => simp at hy
    · obtain ⟨-, x, z, hkx, -, hx, -, hz⟩ := h
      rw [hkx] at hy
      match i, hy with
      | 0, hy => obtain rfl : x = y := by simpa using hy
                 exact tyTame d x hx D
      | 1, hy => obtain rfl : z = y := by simpa using hy
                 exact tyTame d z hz D
      | i + 2, hy => simp at hy
    · obtain ⟨-, x, xs, hkx, hx, hxs⟩ := h
      rw [hkx] at hy
      match i, hy with
      | 0, hy => obtain rfl : x = y := by simpa using hy
                 exact may_tame hx D
      | i + 1, hy => exact tyTame d y (hxs y (List.mem_of_getElem? (by simpa using hy))).2 D
    · obtain ⟨-, x, z, hkx, hx, -, hz⟩ := h
      rw [hkx] at hy
      match i, hy with
      | 0, hy => obtain rfl : x = y := by simpa using hy
                 exact id_tame hx D
      | 1, hy => obtain rfl : z = y := by simpa using hy
                 exact tyTame d z hz D
      | i + 2, hy => simp at hy
    · obtain ⟨-, x, xs, hkx, -, hx, hxs⟩ := h
      rw [hkx] at hy
      match i, hy with
      | 0, hy => obtain rfl : x = y := by simpa using hy
                 exact tyTame d x hx D
      | i + 1, hy => exact tyTame d y (hxs y (List.mem_of_getElem? (by simpa using hy))).2 D
    · obtain ⟨-, x, z, hkx, hx, -, hz⟩ := h
      rw [hkx] at hy
      match i, hy with
      | 0, hy => obtain rfl : x = y := by simpa using hy
                 exact may_tame hx D
      | 1, hy => obtain rfl : z = y := by simpa using hy
                 exact tyTame d z hz D
      | i + 2, hy => simp at hy

/-- What the laws know of a tree that is asked. -/
def TyQ (D : Nat) (K : Int) (n : Nd) : Prop := n.kind = K ∧ TyP 12 n ∧ Nd.countD D n ≤ 400

theorem tyQ_of {D : Nat} {K : Int} {n : Nd} {w : World} (hL : LiesD D w n) (hR : RoomD D n) (h1 : 45 ≤ K) (h2 : K ≤ 52) (hF : FitsP D n) (hk : n.kind = K) : TyQ D K n :=
  ⟨hk, tyP_of 12 D n w hL hF.1 (small_of hL hR hF.2) (by omega) (by omega), hF.2⟩

theorem tyNodeW {D : Nat} {K : Int} {n : Nd} {W : World} (bs : Bool) (h : TyQ D K n) (hL : LiesD D W n) (hR : RoomD D n) : NodeW W bs 120000000 n (TyR 12 n) :=
  (tyW bs 12 D n W h.2.1 hL hR).mono (by have := h.2.2; omega)

end Go.Proofs.YtcbcdgifakcooaaGreatDoor
