/-
  The readers of numbers in a flatbuffer: package flatbuffers' encode.go. No conditions.
-/
import Derived.Test.YtcbcdgifakcooaaGreatDoorBytes
import Derived.Test.YtcbcdgifakcooaaGreatDoorProg
import Derived.WalkKit
import Derived.Lib.Hide
import Derived.Lib.EndianBits
import Derived.BigQuiet
namespace Go.Proofs.YtcbcdgifakcooaaGreatDoor
open Go.RowKit
set_option linter.unusedVariables false
set_option linter.unusedSimpArgs false

/-- Bytes lie in a block. -/
def BufIn (w : World) (rb : Nat) (B : By) : Prop := ∀ (j : Nat) (x : UInt8), B[j]? = some x → w.cell? ⟨rb, j, none⟩ = some (.int .u8 x.toNat)

/-- 'y | x' where y lies below 2^i and x is a multiple of 2^i, in so many bits. -/
theorem or_nat (n i a b : Nat) (hb : b < 2 ^ i) (ha : a % 2 ^ i = 0) (hbn : b < 2 ^ n) (han : a < 2 ^ n) : (BitVec.ofNat n b ||| BitVec.ofNat n a).toNat = b + a := by
  rw [BitVec.toNat_or, BitVec.toNat_ofNat, BitVec.toNat_ofNat, Nat.mod_eq_of_lt hbn, Nat.mod_eq_of_lt han]
  have hq : a = 2 ^ i * (a / 2 ^ i) := by
    have := Nat.div_add_mod a (2 ^ i)
    omega
  rw [hq, Nat.or_comm, ← Nat.two_pow_add_eq_or_of_lt hb (a / 2 ^ i)]
  omega

theorem wrap_u16 (m : Int) : IntKind.u16.wrap m = m % 65536 := by simp [IntKind.wrap, IntKind.bits, IntKind.signed]
theorem or_u16 (i : Nat) (b a : Nat) (hi : i ≤ 16) (hb : b < 2 ^ i) (ha : a % 2 ^ i = 0) (han : a < 65536) : bits .or .u16 (b : Int) (IntKind.u16.wrap (a : Int)) = IntKind.u16.wrap ((b + a : Nat) : Int) := by
  have hbn : b < 2 ^ 16 := Nat.lt_of_lt_of_le hb (Nat.pow_le_pow_right (by decide) hi)
  have e1 : BitVec.ofInt 16 (b : Int) = BitVec.ofNat 16 b := by
    apply BitVec.eq_of_toNat_eq
    simp
  have e2 : BitVec.ofInt 16 (IntKind.u16.wrap (a : Int)) = BitVec.ofNat 16 a := by
    apply BitVec.eq_of_toNat_eq
    rw [BitVec.toNat_ofInt, BitVec.toNat_ofNat, wrap_u16]
    omega
  show IntKind.u16.wrap (((BitVec.ofInt 16 (b : Int) ||| BitVec.ofInt 16 (IntKind.u16.wrap (a : Int))).toNat : Nat) : Int) = _
  rw [e1, e2, or_nat 16 i a b hb ha hbn (by omega)]

theorem wrap_i32 (m : Int) : IntKind.i32.wrap m = if m % 4294967296 ≥ 2147483648 then m % 4294967296 - 4294967296 else m % 4294967296 := by simp [IntKind.wrap, IntKind.bits, IntKind.signed]
theorem or_i32 (i : Nat) (b a : Nat) (hi : i ≤ 32) (hb : b < 2 ^ i) (ha : a % 2 ^ i = 0) (han : a < 4294967296) : bits .or .i32 (b : Int) (IntKind.i32.wrap (a : Int)) = IntKind.i32.wrap ((b + a : Nat) : Int) := by
  have hbn : b < 2 ^ 32 := Nat.lt_of_lt_of_le hb (Nat.pow_le_pow_right (by decide) hi)
  have e1 : BitVec.ofInt 32 (b : Int) = BitVec.ofNat 32 b := by
    apply BitVec.eq_of_toNat_eq
    simp
  have e2 : BitVec.ofInt 32 (IntKind.i32.wrap (a : Int)) = BitVec.ofNat 32 a := by
    apply BitVec.eq_of_toNat_eq
    rw [BitVec.toNat_ofInt, BitVec.toNat_ofNat, wrap_i32]
    split <;> omega
  show IntKind.i32.wrap (((BitVec.ofInt 32 (b : Int) ||| BitVec.ofInt 32 (IntKind.i32.wrap (a : Int))).toNat : Nat) : Int) = _
  rw [e1, e2, or_nat 32 i a b hb ha hbn (by omega)]

theorem wrap_u32 (m : Int) : IntKind.u32.wrap m = m % 4294967296 := by simp [IntKind.wrap, IntKind.bits, IntKind.signed]
theorem wrap_i64 (m : Int) : IntKind.i64.wrap m = if m % 18446744073709551616 ≥ 9223372036854775808 then m % 18446744073709551616 - 18446744073709551616 else m % 18446744073709551616 := by simp [IntKind.wrap, IntKind.bits, IntKind.signed]
theorem leAt2 {B : By} {p : Nat} {x0 x1 : UInt8} (h0 : B[p]? = some x0) (h1 : B[p + 1]? = some x1) : leAt B p 2 = x0.toNat + 256 * x1.toNat := by
  have e : (B.drop p).take 2 = [x0, x1] := by
    apply List.ext_getElem?
    intro i
    rw [List.getElem?_take, List.getElem?_drop]
    match i with
    | 0 => simpa using h0
    | 1 => simpa using h1
    | i + 2 => rw [if_neg (by omega)]; simp
  unfold leAt
  rw [e]
  simp [Lib.leNat]

theorem leAt4 {B : By} {p : Nat} {x0 x1 x2 x3 : UInt8} (h0 : B[p]? = some x0) (h1 : B[p + 1]? = some x1) (h2 : B[p + 2]? = some x2) (h3 : B[p + 3]? = some x3) : leAt B p 4 = x0.toNat + 256 * (x1.toNat + 256 * (x2.toNat + 256 * x3.toNat)) := by
  have e : (B.drop p).take 4 = [x0, x1, x2, x3] := by
    apply List.ext_getElem?
    intro i
    rw [List.getElem?_take, List.getElem?_drop]
    match i with
    | 0 => simpa using h0
    | 1 => simpa using h1
    | 2 => simpa using h2
    | 3 => simpa using h3
    | i + 4 => rw [if_neg (by omega)]; simp
  unfold leAt
  rw [e]
  simp [Lib.leNat]

theorem leAt8 {B : By} {p : Nat} {x0 x1 x2 x3 x4 x5 x6 x7 : UInt8} (h0 : B[p]? = some x0) (h1 : B[p + 1]? = some x1) (h2 : B[p + 2]? = some x2) (h3 : B[p + 3]? = some x3) (h4 : B[p + 4]? = some x4) (h5 : B[p + 5]? = some x5) (h6 : B[p + 6]? = some x6) (h7 : B[p + 7]? = some x7) : leAt B p 8 = x0.toNat + 256 * (x1.toNat + 256 * (x2.toNat + 256 * (x3.toNat + 256 * (x4.toNat + 256 * (x5.toNat + 256 * (x6.toNat + 256 * x7.toNat)))))) := by
  have e : (B.drop p).take 8 = [x0, x1, x2, x3, x4, x5, x6, x7] := by
    apply List.ext_getElem?
    intro i
    rw [List.getElem?_take, List.getElem?_drop]
    match i with
    | 0 => simpa using h0
    | 1 => simpa using h1
    | 2 => simpa using h2
    | 3 => simpa using h3
    | 4 => simpa using h4
    | 5 => simpa using h5
    | 6 => simpa using h6
    | 7 => simpa using h7
    | i + 8 => rw [if_neg (by omega)]; simp
  unfold leAt
  rw [e]
  simp [Lib.leNat]

theorem small_u16 (b : Nat) (hb : b < 256) : IntKind.u16.wrap (b : Int) = (b : Int) := by
  rw [wrap_u16]
  omega
theorem zero_u16 (x : Nat) (hx : x < 256) : bits .or .u16 0 (IntKind.u16.wrap (x : Int)) = IntKind.u16.wrap (x : Int) := by
  have h := or_u16 0 0 x (by decide) (by decide) (by simp [Nat.mod_one]) (by omega)
  rw [Nat.zero_add] at h
  exact h
theorem step_u16 (i b x : Nat) (M : Int) (hM : M = ((2 ^ i : Nat) : Int)) (hi : i + 8 ≤ 16) (hb : b < 2 ^ i) (hx : x < 256) : bits .or .u16 (IntKind.u16.wrap (b : Int)) (IntKind.u16.wrap (IntKind.u16.wrap (x : Int) * M)) = IntKind.u16.wrap ((b + x * 2 ^ i : Nat) : Int) := by
  subst hM
  have h2 : 2 ^ i ≤ 2 ^ 8 := Nat.pow_le_pow_right (by decide) (by omega)
  have h3 : x * 2 ^ i < 256 * 2 ^ 8 := by
    have h4 : x * 2 ^ i ≤ 255 * 2 ^ i := Nat.mul_le_mul_right _ (by omega)
    have h5 : 255 * 2 ^ i ≤ 255 * 2 ^ 8 := Nat.mul_le_mul_left _ h2
    omega
  rw [small_u16 b (Nat.lt_of_lt_of_le hb h2)]
  have hw : IntKind.u16.wrap (IntKind.u16.wrap (x : Int) * ((2 ^ i : Nat) : Int)) = IntKind.u16.wrap ((x * 2 ^ i : Nat) : Int) := by
    have hxx : IntKind.u16.wrap (x : Int) = (x : Int) := by
      rw [wrap_u16]
      omega
    rw [hxx, Int.natCast_mul]
  rw [hw]
  exact or_u16 i b (x * 2 ^ i) (by omega) hb (Nat.mul_mod_left _ _) (by omega)
theorem val_u16 (x0 x1 : Nat) (h0 : x0 < 256) (h1 : x1 < 256) : bits .or .u16 (bits .or .u16 0 (IntKind.u16.wrap (x0 : Int))) (IntKind.u16.wrap ((IntKind.u16.wrap (x1 : Int)) * 256)) = IntKind.u16.wrap ((x0 + 256 * x1 : Nat) : Int) := by
  have s1 := step_u16 8 (x0) x1 256 (by decide) (by decide) (by omega) h1
  have z := zero_u16 x0 h0
  rw [z, s1]
  congr 2
  omega

theorem small_i32 (b : Nat) (hb : b < 16777216) : IntKind.i32.wrap (b : Int) = (b : Int) := by
  rw [wrap_i32]
  split <;> omega
theorem zero_i32 (x : Nat) (hx : x < 256) : bits .or .i32 0 (IntKind.i32.wrap (x : Int)) = IntKind.i32.wrap (x : Int) := by
  have h := or_i32 0 0 x (by decide) (by decide) (by simp [Nat.mod_one]) (by omega)
  rw [Nat.zero_add] at h
  exact h
theorem step_i32 (i b x : Nat) (M : Int) (hM : M = ((2 ^ i : Nat) : Int)) (hi : i + 8 ≤ 32) (hb : b < 2 ^ i) (hx : x < 256) : bits .or .i32 (IntKind.i32.wrap (b : Int)) (IntKind.i32.wrap (IntKind.i32.wrap (x : Int) * M)) = IntKind.i32.wrap ((b + x * 2 ^ i : Nat) : Int) := by
  subst hM
  have h2 : 2 ^ i ≤ 2 ^ 24 := Nat.pow_le_pow_right (by decide) (by omega)
  have h3 : x * 2 ^ i < 256 * 2 ^ 24 := by
    have h4 : x * 2 ^ i ≤ 255 * 2 ^ i := Nat.mul_le_mul_right _ (by omega)
    have h5 : 255 * 2 ^ i ≤ 255 * 2 ^ 24 := Nat.mul_le_mul_left _ h2
    omega
  rw [small_i32 b (Nat.lt_of_lt_of_le hb h2)]
  have hw : IntKind.i32.wrap (IntKind.i32.wrap (x : Int) * ((2 ^ i : Nat) : Int)) = IntKind.i32.wrap ((x * 2 ^ i : Nat) : Int) := by
    have hxx : IntKind.i32.wrap (x : Int) = (x : Int) := by
      rw [wrap_i32]
      split <;> omega
    rw [hxx, Int.natCast_mul]
  rw [hw]
  exact or_i32 i b (x * 2 ^ i) (by omega) hb (Nat.mul_mod_left _ _) (by omega)
theorem val_i32 (x0 x1 x2 x3 : Nat) (h0 : x0 < 256) (h1 : x1 < 256) (h2 : x2 < 256) (h3 : x3 < 256) : bits .or .i32 (bits .or .i32 (bits .or .i32 (bits .or .i32 0 (wrap32 (x0 : Int))) (wrap32 ((wrap32 (x1 : Int)) * 256))) (wrap32 ((wrap32 (x2 : Int)) * 65536))) (wrap32 ((wrap32 (x3 : Int)) * 16777216)) = IntKind.i32.wrap ((x0 + 256 * (x1 + 256 * (x2 + 256 * x3)) : Nat) : Int) := by
  have s1 := step_i32 8 (x0) x1 256 (by decide) (by decide) (by omega) h1
  have s2 := step_i32 16 (x0 + x1 * 2 ^ 8) x2 65536 (by decide) (by decide) (by omega) h2
  have s3 := step_i32 24 (x0 + x1 * 2 ^ 8 + x2 * 2 ^ 16) x3 16777216 (by decide) (by decide) (by omega) h3
  have z := zero_i32 x0 h0
  simp only [IntWalk.i32_left] at z s1 s2 s3 ⊢
  rw [z, s1, s2, s3]
  congr 2
  omega

set_option maxRecDepth 100000 in
theorem u16_any (rb p len cap : Nat) (B : By) (w : World) (hB : BufIn w rb B) (hp : p + 2 ≤ B.length) (hl : 2 ≤ len) :
    Calls Tryz.prog 219 #[.slice (some ⟨rb, p, none⟩) len cap] w fun e w' => e = .returned (.int .u16 (leAt B p 2 : Nat)) ∧ w' = w := by
  obtain ⟨x0, h0⟩ : ∃ x, B[p]? = some x := ⟨_, List.getElem?_eq_getElem (by omega)⟩
  obtain ⟨x1, h1⟩ : ∃ x, B[p + 1]? = some x := ⟨_, List.getElem?_eq_getElem (by omega)⟩
  have c0 := hB (p) x0 h0
  have c1 := hB (p + 1) x1 h1
  have z0 : (0 : Int) < (len : Int) := by omega
  have z1 : (1 : Int) < (len : Int) := by omega
  have hle := leAt2 h0 h1
  clear hB
  go_enter Tryz.func219, Tryz.ntmps219
  go_wp2_with fail
  have t0 := x0.toNat_lt
  have t1 := x1.toNat_lt
  have hv := val_u16 x0.toNat x1.toNat t0 t1
  rw [← hle] at hv
  rw [show IntKind.u16.wrap ((leAt B p 2 : Nat) : Int) = ((leAt B p 2 : Nat) : Int) from by rw [wrap_u16, hle]; omega] at hv
  rw [hv]
  go_ret
  exact ⟨rfl, rfl⟩

set_option maxRecDepth 100000 in
theorem i32_any (rb p len cap : Nat) (B : By) (w : World) (hB : BufIn w rb B) (hp : p + 4 ≤ B.length) (hl : 4 ≤ len) :
    Calls Tryz.prog 109 #[.slice (some ⟨rb, p, none⟩) len cap] w fun e w' => e = .returned (.int .i32 (IntKind.i32.wrap (leAt B p 4 : Nat))) ∧ w' = w := by
  obtain ⟨x0, h0⟩ : ∃ x, B[p]? = some x := ⟨_, List.getElem?_eq_getElem (by omega)⟩
  obtain ⟨x1, h1⟩ : ∃ x, B[p + 1]? = some x := ⟨_, List.getElem?_eq_getElem (by omega)⟩
  obtain ⟨x2, h2⟩ : ∃ x, B[p + 2]? = some x := ⟨_, List.getElem?_eq_getElem (by omega)⟩
  obtain ⟨x3, h3⟩ : ∃ x, B[p + 3]? = some x := ⟨_, List.getElem?_eq_getElem (by omega)⟩
  have c0 := hB (p) x0 h0
  have c1 := hB (p + 1) x1 h1
  have c2 := hB (p + 2) x2 h2
  have c3 := hB (p + 3) x3 h3
  have z0 : (0 : Int) < (len : Int) := by omega
  have z1 : (1 : Int) < (len : Int) := by omega
  have z2 : (2 : Int) < (len : Int) := by omega
  have z3 : (3 : Int) < (len : Int) := by omega
  have hle := leAt4 h0 h1 h2 h3
  clear hB
  go_enter Tryz.func109, Tryz.ntmps109
  go_wp2_with fail
  have t0 := x0.toNat_lt
  have t1 := x1.toNat_lt
  have t2 := x2.toNat_lt
  have t3 := x3.toNat_lt
  have hv := val_i32 x0.toNat x1.toNat x2.toNat x3.toNat t0 t1 t2 t3
  rw [← hle] at hv
  
  rw [hv]
  go_ret
  exact ⟨rfl, rfl⟩

end Go.Proofs.YtcbcdgifakcooaaGreatDoor
