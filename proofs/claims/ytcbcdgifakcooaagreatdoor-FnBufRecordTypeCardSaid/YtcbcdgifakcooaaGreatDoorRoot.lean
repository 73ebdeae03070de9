/-
  A flatbuffer's root; the accessors of a byte, of a union, of a vector's elements. No conditions.
-/
import Derived.Test.YtcbcdgifakcooaaGreatDoorAcc
namespace Go.Proofs.YtcbcdgifakcooaaGreatDoor
open Go.RowKit
set_option linter.unusedVariables false
set_option linter.unusedSimpArgs false

set_option maxRecDepth 100000 in
theorem root_ArrayType (rb cap p : Nat) (B : By) (hd : leAt B 0 4 = p) (hl : B.length < 2147483648) (h4 : 4 ≤ B.length) (hp : p < B.length) (hc : B.length ≤ cap) (w : World) (h : BufIn w rb B) :
    Calls Tryz.prog 19 #[.slice (some ⟨rb, 0, none⟩) (B.length : Nat) cap, .int .u32 0] w fun e w' => ∃ k, e = .returned (.pointer (some ⟨k, 0, none⟩)) ∧ w.heap.size ≤ k ∧ TabIn w' k 0 rb cap B p ∧ Below w.heap.size w w' := by
  have hrb := h.lt (by omega)
  have hq0 : (0 : Int) ≤ (B.length : Int) := by omega
  have U : Hid (Calls Tryz.prog 57 #[.slice (some ⟨rb, 0, none⟩) (B.length : Nat) cap] w fun e w' => e = .returned (.int .u32 (p : Nat)) ∧ w' = w) := Lib.hid (by
    have := uoff_any rb 0 B.length cap B w h (by omega) h4
    rw [hd] at this
    exact this)
  go_enter Tryz.func19, Tryz.ntmps19
  go_wp2_with fail
  refine U.out.mono ?_
  rintro e w1 ⟨rfl, rfl⟩
  clear hd U
  go_upto_region 3 with fail
  obtain ⟨ka0, ka1, kf0, kf1⟩ := two_new w1 (.slice none 0 0) (.int .u32 0) 258
  have HBA := Lib.hid (Below.alloc (Below.refl w1.heap.size w1) (Nat.le_refl _) (.cells #[.slice none 0 0, .int .u32 0] 258))
  obtain ⟨k, hk⟩ : ∃ k, k = w1.heap.size := ⟨_, rfl⟩
  rw [← hk] at ka0 ka1 kf0 kf1 ⊢
  have HK := Lib.hid hk
  clear hk
  generalize w1.alloc (.cells #[.slice none 0 0, .int .u32 0] 258) = U at *
  go_wp2_with fail
  refine (init_ArrayType k rb cap p B _ _ U ka0 ka1 kf0 kf1 (h.below HBA.out hrb) (by rw [HK.out]; omega) hc hl hp).mono ?_
  rintro e w2 ⟨rfl, hT, hB1⟩
  clear ka0 ka1 kf0 kf1
  go_wp2_with fail
  go_ret
  have hK := HK.out
  subst hK
  exact ⟨_, rfl, Nat.le_refl _, hT, HBA.out.trans hB1⟩

set_option maxRecDepth 100000 in
theorem root_FunctionType (rb cap p : Nat) (B : By) (hd : leAt B 0 4 = p) (hl : B.length < 2147483648) (h4 : 4 ≤ B.length) (hp : p < B.length) (hc : B.length ≤ cap) (w : World) (h : BufIn w rb B) :
    Calls Tryz.prog 24 #[.slice (some ⟨rb, 0, none⟩) (B.length : Nat) cap, .int .u32 0] w fun e w' => ∃ k, e = .returned (.pointer (some ⟨k, 0, none⟩)) ∧ w.heap.size ≤ k ∧ TabIn w' k 0 rb cap B p ∧ Below w.heap.size w w' := by
  have hrb := h.lt (by omega)
  have hq0 : (0 : Int) ≤ (B.length : Int) := by omega
  have U : Hid (Calls Tryz.prog 57 #[.slice (some ⟨rb, 0, none⟩) (B.length : Nat) cap] w fun e w' => e = .returned (.int .u32 (p : Nat)) ∧ w' = w) := Lib.hid (by
    have := uoff_any rb 0 B.length cap B w h (by omega) h4
    rw [hd] at this
    exact this)
  go_enter Tryz.func24, Tryz.ntmps24
  go_wp2_with fail
  refine U.out.mono ?_
  rintro e w1 ⟨rfl, rfl⟩
  clear hd U
  go_upto_region 3 with fail
  obtain ⟨ka0, ka1, kf0, kf1⟩ := two_new w1 (.slice none 0 0) (.int .u32 0) 279
  have HBA := Lib.hid (Below.alloc (Below.refl w1.heap.size w1) (Nat.le_refl _) (.cells #[.slice none 0 0, .int .u32 0] 279))
  obtain ⟨k, hk⟩ : ∃ k, k = w1.heap.size := ⟨_, rfl⟩
  rw [← hk] at ka0 ka1 kf0 kf1 ⊢
  have HK := Lib.hid hk
  clear hk
  generalize w1.alloc (.cells #[.slice none 0 0, .int .u32 0] 279) = U at *
  go_wp2_with fail
  refine (init_FunctionType k rb cap p B _ _ U ka0 ka1 kf0 kf1 (h.below HBA.out hrb) (by rw [HK.out]; omega) hc hl hp).mono ?_
  rintro e w2 ⟨rfl, hT, hB1⟩
  clear ka0 ka1 kf0 kf1
  go_wp2_with fail
  go_ret
  have hK := HK.out
  subst hK
  exact ⟨_, rfl, Nat.le_refl _, hT, HBA.out.trans hB1⟩

set_option maxRecDepth 100000 in
theorem root_RecordType (rb cap p : Nat) (B : By) (hd : leAt B 0 4 = p) (hl : B.length < 2147483648) (h4 : 4 ≤ B.length) (hp : p < B.length) (hc : B.length ≤ cap) (w : World) (h : BufIn w rb B) :
    Calls Tryz.prog 26 #[.slice (some ⟨rb, 0, none⟩) (B.length : Nat) cap, .int .u32 0] w fun e w' => ∃ k, e = .returned (.pointer (some ⟨k, 0, none⟩)) ∧ w.heap.size ≤ k ∧ TabIn w' k 0 rb cap B p ∧ Below w.heap.size w w' := by
  have hrb := h.lt (by omega)
  have hq0 : (0 : Int) ≤ (B.length : Int) := by omega
  have U : Hid (Calls Tryz.prog 57 #[.slice (some ⟨rb, 0, none⟩) (B.length : Nat) cap] w fun e w' => e = .returned (.int .u32 (p : Nat)) ∧ w' = w) := Lib.hid (by
    have := uoff_any rb 0 B.length cap B w h (by omega) h4
    rw [hd] at this
    exact this)
  go_enter Tryz.func26, Tryz.ntmps26
  go_wp2_with fail
  refine U.out.mono ?_
  rintro e w1 ⟨rfl, rfl⟩
  clear hd U
  go_upto_region 3 with fail
  obtain ⟨ka0, ka1, kf0, kf1⟩ := two_new w1 (.slice none 0 0) (.int .u32 0) 290
  have HBA := Lib.hid (Below.alloc (Below.refl w1.heap.size w1) (Nat.le_refl _) (.cells #[.slice none 0 0, .int .u32 0] 290))
  obtain ⟨k, hk⟩ : ∃ k, k = w1.heap.size := ⟨_, rfl⟩
  rw [← hk] at ka0 ka1 kf0 kf1 ⊢
  have HK := Lib.hid hk
  clear hk
  generalize w1.alloc (.cells #[.slice none 0 0, .int .u32 0] 290) = U at *
  go_wp2_with fail
  refine (init_RecordType k rb cap p B _ _ U ka0 ka1 kf0 kf1 (h.below HBA.out hrb) (by rw [HK.out]; omega) hc hl hp).mono ?_
  rintro e w2 ⟨rfl, hT, hB1⟩
  clear ka0 ka1 kf0 kf1
  go_wp2_with fail
  go_ret
  have hK := HK.out
  subst hK
  exact ⟨_, rfl, Nat.le_refl _, hT, HBA.out.trans hB1⟩

set_option maxRecDepth 100000 in
theorem gGetUint8_any (rb p len cap : Nat) (B : By) (x : UInt8) (w : World) (hB : BufIn w rb B) (hx : B[p]? = some x) (hl : 1 ≤ len) :
    Calls Tryz.prog 198 #[.slice (some ⟨rb, p, none⟩) len cap] w fun e w' => e = .returned (.int .u8 (x.toNat : Int)) ∧ w' = w := by
  go_enter Tryz.func198, Tryz.ntmps198
  have c0 := hB p x hx
  have z0 : (0 : Int) < (len : Int) := by omega
  have hx8 : (x.toNat : Int) < 256 := by have := x.toNat_lt; omega
  clear hB
  go_wp2_with fail
  go_ret
  exact ⟨rfl, rfl⟩

set_option maxRecDepth 100000 in
theorem gGetInt8_any (rb p len cap : Nat) (B : By) (x : UInt8) (w : World) (hB : BufIn w rb B) (hx : B[p]? = some x) (hl : 1 ≤ len) :
    Calls Tryz.prog 213 #[.slice (some ⟨rb, p, none⟩) len cap] w fun e w' => e = .returned (.int .i8 (IntKind.i8.wrap (x.toNat : Int))) ∧ w' = w := by
  go_enter Tryz.func213, Tryz.ntmps213
  have c0 := hB p x hx
  have z0 : (0 : Int) < (len : Int) := by omega
  have hx8 : (x.toNat : Int) < 256 := by have := x.toNat_lt; omega
  clear hB
  go_wp2_with fail
  go_ret
  exact ⟨rfl, rfl⟩

set_option maxRecDepth 100000 in
theorem gGetByte_any (rb p len cap : Nat) (B : By) (x : UInt8) (w : World) (hB : BufIn w rb B) (hx : B[p]? = some x) (hl : 1 ≤ len) :
    Calls Tryz.prog 172 #[.slice (some ⟨rb, p, none⟩) len cap] w fun e w' => e = .returned (.int .u8 (x.toNat : Int)) ∧ w' = w := by
  go_enter Tryz.func172, Tryz.ntmps172
  go_wp2_with fail
  refine (gGetUint8_any rb p len cap B x w hB hx hl).mono ?_
  rintro e w1 ⟨rfl, rfl⟩
  go_wp2_with fail
  go_ret
  exact ⟨rfl, rfl⟩

set_option maxRecDepth 100000 in
theorem tGetByte_any (tb t0 rb cap p q : Nat) (B : By) (x : UInt8) (w : World) (h : TabIn w tb t0 rb cap B p) (hx : B[q]? = some x) :
    Calls Tryz.prog 108 #[.pointer (some ⟨tb, t0, none⟩), .int .u32 (q : Nat)] w fun e w' => e = .returned (.int .u8 (x.toNat : Int)) ∧ w' = w := by
  obtain ⟨hs, hp, hB, hc, hl, hpl⟩ := h
  have hq1 : (q : Int) ≤ (B.length : Int) := by (have := (List.getElem?_eq_some_iff.1 hx).1; omega)
  have hq0 : (0 : Int) ≤ (q : Int) := by omega
  go_enter Tryz.func108, Tryz.ntmps108
  have hq := (List.getElem?_eq_some_iff.1 hx).1
  go_wp2_with fail
  refine (gGetByte_any rb q (B.length - q) (cap - q) B x w hB hx (by omega)).mono ?_
  rintro e w1 ⟨rfl, rfl⟩
  go_wp2_with fail
  go_ret
  exact ⟨rfl, rfl⟩

set_option maxRecDepth 100000 in
theorem tGetInt8_any (tb t0 rb cap p q : Nat) (B : By) (x : UInt8) (w : World) (h : TabIn w tb t0 rb cap B p) (hx : B[q]? = some x) :
    Calls Tryz.prog 185 #[.pointer (some ⟨tb, t0, none⟩), .int .u32 (q : Nat)] w fun e w' => e = .returned (.int .i8 (IntKind.i8.wrap (x.toNat : Int))) ∧ w' = w := by
  obtain ⟨hs, hp, hB, hc, hl, hpl⟩ := h
  have hq1 : (q : Int) ≤ (B.length : Int) := by (have := (List.getElem?_eq_some_iff.1 hx).1; omega)
  have hq0 : (0 : Int) ≤ (q : Int) := by omega
  go_enter Tryz.func185, Tryz.ntmps185
  have hq := (List.getElem?_eq_some_iff.1 hx).1
  go_wp2_with fail
  refine (gGetInt8_any rb q (B.length - q) (cap - q) B x w hB hx (by omega)).mono ?_
  rintro e w1 ⟨rfl, rfl⟩
  go_wp2_with fail
  go_ret
  exact ⟨rfl, rfl⟩

set_option maxRecDepth 100000 in
theorem ArrayType_ElementType_none (tb rb cap p : Nat) (B : By) (ps : List Nat) (hx : ps.getD 1 0 = 0) (w : World) (h : TabIn w tb 0 rb cap B p) (ht : TabAt B p ps) :
    Calls Tryz.prog 56 #[.pointer (some ⟨tb, 0, none⟩)] w fun e w' => e = .returned (.int .u8 0) ∧ ∃ m, w' = w.drewN m := by
  go_enter Tryz.func56, Tryz.ntmps56
  go_wp2_with fail
  refine (offset_any tb 0 rb cap p 1 6 (by decide) B ps 0 hx (by decide) w h ht).mono ?_
  rintro e w1 ⟨rfl, m, rfl⟩
  go_wp2_with fail
  go_ret
  exact ⟨rfl, m, rfl⟩

set_option maxRecDepth 100000 in
theorem ArrayType_ElementType (tb rb cap p : Nat) (B : By) (ps : List Nat) (x : Nat) (hx : ps.getD 1 0 = x) (h0 : x ≠ 0) (w : World) (h : TabIn w tb 0 rb cap B p) (ht : TabAt B p ps) (u : UInt8) (hl : x < 65536) (hq : B[x + p]? = some u) :
    Calls Tryz.prog 56 #[.pointer (some ⟨tb, 0, none⟩)] w fun e w' => e = .returned (.int .u8 (u.toNat : Int)) ∧ ∃ m, w' = w.drewN m := by
  have hs := h.hs
  have hp : w.cell? ⟨tb, 1, none⟩ = some (.int .u32 (p : Nat)) := h.hp
  have h01 : ((x : Int) == 0) = false := by simpa using h0
  have h02 : ((x : Int) != 0) = true := by simpa using h0
  have hxl : (x : Int) < 65536 := by omega
  have hpl : (p : Int) < 2147483648 := by have := h.hq; have := h.hl; omega
  go_enter Tryz.func56, Tryz.ntmps56
  go_wp2_with fail
  refine (offset_any tb 0 rb cap p 1 6 (by decide) B ps x hx (by decide) w h ht).mono ?_
  rintro e w1 ⟨rfl, m, rfl⟩
  have D : Hid (∀ n, Calls Tryz.prog 108 #[.pointer (some ⟨tb, 0, none⟩), .int .u32 ((x : Int) + (p : Int))] ((w.drewN m).drewN n) fun e w' => e = .returned (.int .u8 (u.toNat : Int)) ∧ w' = (w.drewN m).drewN n) := Lib.hid fun n => tGetByte_any tb 0 rb cap p (x + p) B u _ ((h.drew m).drew n) hq
  clear hx h0
  go_upto_region 3 with fail
  have hsW : (w.drewN m).cell? ⟨tb, 0, none⟩ = some (.slice (some ⟨rb, 0, none⟩) (B.length : Nat) cap) := hs
  have hpW : (w.drewN m).cell? ⟨tb, 1, none⟩ = some (.int .u32 (p : Nat)) := hp
  clear hs hp h
  obtain ⟨W, hW⟩ : ∃ W, W = w.drewN m := ⟨_, rfl⟩
  rw [← hW] at hsW hpW D ⊢
  have HW := Lib.hid hW
  clear hW
  go_quiet (first | (go_at_call 108; exact Calls.quiet_of_same (D.out _)))
  go_wp2_with fail
  go_ret
  have hW := HW.out
  subst hW
  exact ⟨rfl, m + nq, World.drewN_drewN _ _ _⟩

set_option maxRecDepth 100000 in
theorem DictType_KeyType_none (tb rb cap p : Nat) (B : By) (ps : List Nat) (hx : ps.getD 1 0 = 0) (w : World) (h : TabIn w tb 0 rb cap B p) (ht : TabAt B p ps) :
    Calls Tryz.prog 168 #[.pointer (some ⟨tb, 0, none⟩)] w fun e w' => e = .returned (.int .u8 0) ∧ ∃ m, w' = w.drewN m := by
  go_enter Tryz.func168, Tryz.ntmps168
  go_wp2_with fail
  refine (offset_any tb 0 rb cap p 1 6 (by decide) B ps 0 hx (by decide) w h ht).mono ?_
  rintro e w1 ⟨rfl, m, rfl⟩
  go_wp2_with fail
  go_ret
  exact ⟨rfl, m, rfl⟩

set_option maxRecDepth 100000 in
theorem DictType_KeyType (tb rb cap p : Nat) (B : By) (ps : List Nat) (x : Nat) (hx : ps.getD 1 0 = x) (h0 : x ≠ 0) (w : World) (h : TabIn w tb 0 rb cap B p) (ht : TabAt B p ps) (u : UInt8) (hl : x < 65536) (hq : B[x + p]? = some u) :
    Calls Tryz.prog 168 #[.pointer (some ⟨tb, 0, none⟩)] w fun e w' => e = .returned (.int .u8 (u.toNat : Int)) ∧ ∃ m, w' = w.drewN m := by
  have hs := h.hs
  have hp : w.cell? ⟨tb, 1, none⟩ = some (.int .u32 (p : Nat)) := h.hp
  have h01 : ((x : Int) == 0) = false := by simpa using h0
  have h02 : ((x : Int) != 0) = true := by simpa using h0
  have hxl : (x : Int) < 65536 := by omega
  have hpl : (p : Int) < 2147483648 := by have := h.hq; have := h.hl; omega
  go_enter Tryz.func168, Tryz.ntmps168
  go_wp2_with fail
  refine (offset_any tb 0 rb cap p 1 6 (by decide) B ps x hx (by decide) w h ht).mono ?_
  rintro e w1 ⟨rfl, m, rfl⟩
  have D : Hid (∀ n, Calls Tryz.prog 108 #[.pointer (some ⟨tb, 0, none⟩), .int .u32 ((x : Int) + (p : Int))] ((w.drewN m).drewN n) fun e w' => e = .returned (.int .u8 (u.toNat : Int)) ∧ w' = (w.drewN m).drewN n) := Lib.hid fun n => tGetByte_any tb 0 rb cap p (x + p) B u _ ((h.drew m).drew n) hq
  clear hx h0
  go_upto_region 3 with fail
  have hsW : (w.drewN m).cell? ⟨tb, 0, none⟩ = some (.slice (some ⟨rb, 0, none⟩) (B.length : Nat) cap) := hs
  have hpW : (w.drewN m).cell? ⟨tb, 1, none⟩ = some (.int .u32 (p : Nat)) := hp
  clear hs hp h
  obtain ⟨W, hW⟩ : ∃ W, W = w.drewN m := ⟨_, rfl⟩
  rw [← hW] at hsW hpW D ⊢
  have HW := Lib.hid hW
  clear hW
  go_quiet (first | (go_at_call 108; exact Calls.quiet_of_same (D.out _)))
  go_wp2_with fail
  go_ret
  have hW := HW.out
  subst hW
  exact ⟨rfl, m + nq, World.drewN_drewN _ _ _⟩

set_option maxRecDepth 100000 in
theorem DictType_ValType_none (tb rb cap p : Nat) (B : By) (ps : List Nat) (hx : ps.getD 3 0 = 0) (w : World) (h : TabIn w tb 0 rb cap B p) (ht : TabAt B p ps) :
    Calls Tryz.prog 170 #[.pointer (some ⟨tb, 0, none⟩)] w fun e w' => e = .returned (.int .u8 0) ∧ ∃ m, w' = w.drewN m := by
  go_enter Tryz.func170, Tryz.ntmps170
  go_wp2_with fail
  refine (offset_any tb 0 rb cap p 3 10 (by decide) B ps 0 hx (by decide) w h ht).mono ?_
  rintro e w1 ⟨rfl, m, rfl⟩
  go_wp2_with fail
  go_ret
  exact ⟨rfl, m, rfl⟩

set_option maxRecDepth 100000 in
theorem DictType_ValType (tb rb cap p : Nat) (B : By) (ps : List Nat) (x : Nat) (hx : ps.getD 3 0 = x) (h0 : x ≠ 0) (w : World) (h : TabIn w tb 0 rb cap B p) (ht : TabAt B p ps) (u : UInt8) (hl : x < 65536) (hq : B[x + p]? = some u) :
    Calls Tryz.prog 170 #[.pointer (some ⟨tb, 0, none⟩)] w fun e w' => e = .returned (.int .u8 (u.toNat : Int)) ∧ ∃ m, w' = w.drewN m := by
  have hs := h.hs
  have hp : w.cell? ⟨tb, 1, none⟩ = some (.int .u32 (p : Nat)) := h.hp
  have h01 : ((x : Int) == 0) = false := by simpa using h0
  have h02 : ((x : Int) != 0) = true := by simpa using h0
  have hxl : (x : Int) < 65536 := by omega
  have hpl : (p : Int) < 2147483648 := by have := h.hq; have := h.hl; omega
  go_enter Tryz.func170, Tryz.ntmps170
  go_wp2_with fail
  refine (offset_any tb 0 rb cap p 3 10 (by decide) B ps x hx (by decide) w h ht).mono ?_
  rintro e w1 ⟨rfl, m, rfl⟩
  have D : Hid (∀ n, Calls Tryz.prog 108 #[.pointer (some ⟨tb, 0, none⟩), .int .u32 ((x : Int) + (p : Int))] ((w.drewN m).drewN n) fun e w' => e = .returned (.int .u8 (u.toNat : Int)) ∧ w' = (w.drewN m).drewN n) := Lib.hid fun n => tGetByte_any tb 0 rb cap p (x + p) B u _ ((h.drew m).drew n) hq
  clear hx h0
  go_upto_region 3 with fail
  have hsW : (w.drewN m).cell? ⟨tb, 0, none⟩ = some (.slice (some ⟨rb, 0, none⟩) (B.length : Nat) cap) := hs
  have hpW : (w.drewN m).cell? ⟨tb, 1, none⟩ = some (.int .u32 (p : Nat)) := hp
  clear hs hp h
  obtain ⟨W, hW⟩ : ∃ W, W = w.drewN m := ⟨_, rfl⟩
  rw [← hW] at hsW hpW D ⊢
  have HW := Lib.hid hW
  clear hW
  go_quiet (first | (go_at_call 108; exact Calls.quiet_of_same (D.out _)))
  go_wp2_with fail
  go_ret
  have hW := HW.out
  subst hW
  exact ⟨rfl, m + nq, World.drewN_drewN _ _ _⟩

set_option maxRecDepth 100000 in
theorem PropertyType_MonotypeType_none (tb rb cap p : Nat) (B : By) (ps : List Nat) (hx : ps.getD 2 0 = 0) (w : World) (h : TabIn w tb 0 rb cap B p) (ht : TabAt B p ps) :
    Calls Tryz.prog 134 #[.pointer (some ⟨tb, 0, none⟩)] w fun e w' => e = .returned (.int .u8 0) ∧ ∃ m, w' = w.drewN m := by
  go_enter Tryz.func134, Tryz.ntmps134
  go_wp2_with fail
  refine (offset_any tb 0 rb cap p 2 8 (by decide) B ps 0 hx (by decide) w h ht).mono ?_
  rintro e w1 ⟨rfl, m, rfl⟩
  go_wp2_with fail
  go_ret
  exact ⟨rfl, m, rfl⟩

set_option maxRecDepth 100000 in
theorem PropertyType_MonotypeType (tb rb cap p : Nat) (B : By) (ps : List Nat) (x : Nat) (hx : ps.getD 2 0 = x) (h0 : x ≠ 0) (w : World) (h : TabIn w tb 0 rb cap B p) (ht : TabAt B p ps) (u : UInt8) (hl : x < 65536) (hq : B[x + p]? = some u) :
    Calls Tryz.prog 134 #[.pointer (some ⟨tb, 0, none⟩)] w fun e w' => e = .returned (.int .u8 (u.toNat : Int)) ∧ ∃ m, w' = w.drewN m := by
  have hs := h.hs
  have hp : w.cell? ⟨tb, 1, none⟩ = some (.int .u32 (p : Nat)) := h.hp
  have h01 : ((x : Int) == 0) = false := by simpa using h0
  have h02 : ((x : Int) != 0) = true := by simpa using h0
  have hxl : (x : Int) < 65536 := by omega
  have hpl : (p : Int) < 2147483648 := by have := h.hq; have := h.hl; omega
  go_enter Tryz.func134, Tryz.ntmps134
  go_wp2_with fail
  refine (offset_any tb 0 rb cap p 2 8 (by decide) B ps x hx (by decide) w h ht).mono ?_
  rintro e w1 ⟨rfl, m, rfl⟩
  have D : Hid (∀ n, Calls Tryz.prog 108 #[.pointer (some ⟨tb, 0, none⟩), .int .u32 ((x : Int) + (p : Int))] ((w.drewN m).drewN n) fun e w' => e = .returned (.int .u8 (u.toNat : Int)) ∧ w' = (w.drewN m).drewN n) := Lib.hid fun n => tGetByte_any tb 0 rb cap p (x + p) B u _ ((h.drew m).drew n) hq
  clear hx h0
  go_upto_region 3 with fail
  have hsW : (w.drewN m).cell? ⟨tb, 0, none⟩ = some (.slice (some ⟨rb, 0, none⟩) (B.length : Nat) cap) := hs
  have hpW : (w.drewN m).cell? ⟨tb, 1, none⟩ = some (.int .u32 (p : Nat)) := hp
  clear hs hp h
  obtain ⟨W, hW⟩ : ∃ W, W = w.drewN m := ⟨_, rfl⟩
  rw [← hW] at hsW hpW D ⊢
  have HW := Lib.hid hW
  clear hW
  go_quiet (first | (go_at_call 108; exact Calls.quiet_of_same (D.out _)))
  go_wp2_with fail
  go_ret
  have hW := HW.out
  subst hW
  exact ⟨rfl, m + nq, World.drewN_drewN _ _ _⟩

set_option maxRecDepth 100000 in
theorem ParameterType_MonotypeType_none (tb rb cap p : Nat) (B : By) (ps : List Nat) (hx : ps.getD 2 0 = 0) (w : World) (h : TabIn w tb 0 rb cap B p) (ht : TabAt B p ps) :
    Calls Tryz.prog 124 #[.pointer (some ⟨tb, 0, none⟩)] w fun e w' => e = .returned (.int .u8 0) ∧ ∃ m, w' = w.drewN m := by
  go_enter Tryz.func124, Tryz.ntmps124
  go_wp2_with fail
  refine (offset_any tb 0 rb cap p 2 8 (by decide) B ps 0 hx (by decide) w h ht).mono ?_
  rintro e w1 ⟨rfl, m, rfl⟩
  go_wp2_with fail
  go_ret
  exact ⟨rfl, m, rfl⟩

set_option maxRecDepth 100000 in
theorem ParameterType_MonotypeType (tb rb cap p : Nat) (B : By) (ps : List Nat) (x : Nat) (hx : ps.getD 2 0 = x) (h0 : x ≠ 0) (w : World) (h : TabIn w tb 0 rb cap B p) (ht : TabAt B p ps) (u : UInt8) (hl : x < 65536) (hq : B[x + p]? = some u) :
    Calls Tryz.prog 124 #[.pointer (some ⟨tb, 0, none⟩)] w fun e w' => e = .returned (.int .u8 (u.toNat : Int)) ∧ ∃ m, w' = w.drewN m := by
  have hs := h.hs
  have hp : w.cell? ⟨tb, 1, none⟩ = some (.int .u32 (p : Nat)) := h.hp
  have h01 : ((x : Int) == 0) = false := by simpa using h0
  have h02 : ((x : Int) != 0) = true := by simpa using h0
  have hxl : (x : Int) < 65536 := by omega
  have hpl : (p : Int) < 2147483648 := by have := h.hq; have := h.hl; omega
  go_enter Tryz.func124, Tryz.ntmps124
  go_wp2_with fail
  refine (offset_any tb 0 rb cap p 2 8 (by decide) B ps x hx (by decide) w h ht).mono ?_
  rintro e w1 ⟨rfl, m, rfl⟩
  have D : Hid (∀ n, Calls Tryz.prog 108 #[.pointer (some ⟨tb, 0, none⟩), .int .u32 ((x : Int) + (p : Int))] ((w.drewN m).drewN n) fun e w' => e = .returned (.int .u8 (u.toNat : Int)) ∧ w' = (w.drewN m).drewN n) := Lib.hid fun n => tGetByte_any tb 0 rb cap p (x + p) B u _ ((h.drew m).drew n) hq
  clear hx h0
  go_upto_region 3 with fail
  have hsW : (w.drewN m).cell? ⟨tb, 0, none⟩ = some (.slice (some ⟨rb, 0, none⟩) (B.length : Nat) cap) := hs
  have hpW : (w.drewN m).cell? ⟨tb, 1, none⟩ = some (.int .u32 (p : Nat)) := hp
  clear hs hp h
  obtain ⟨W, hW⟩ : ∃ W, W = w.drewN m := ⟨_, rfl⟩
  rw [← hW] at hsW hpW D ⊢
  have HW := Lib.hid hW
  clear hW
  go_quiet (first | (go_at_call 108; exact Calls.quiet_of_same (D.out _)))
  go_wp2_with fail
  go_ret
  have hW := HW.out
  subst hW
  exact ⟨rfl, m + nq, World.drewN_drewN _ _ _⟩

set_option maxRecDepth 100000 in
theorem FunctionType_MonotypeType_none (tb rb cap p : Nat) (B : By) (ps : List Nat) (hx : ps.getD 2 0 = 0) (w : World) (h : TabIn w tb 0 rb cap B p) (ht : TabAt B p ps) :
    Calls Tryz.prog 65 #[.pointer (some ⟨tb, 0, none⟩)] w fun e w' => e = .returned (.int .u8 0) ∧ ∃ m, w' = w.drewN m := by
  go_enter Tryz.func65, Tryz.ntmps65
  go_wp2_with fail
  refine (offset_any tb 0 rb cap p 2 8 (by decide) B ps 0 hx (by decide) w h ht).mono ?_
  rintro e w1 ⟨rfl, m, rfl⟩
  go_wp2_with fail
  go_ret
  exact ⟨rfl, m, rfl⟩

set_option maxRecDepth 100000 in
theorem FunctionType_MonotypeType (tb rb cap p : Nat) (B : By) (ps : List Nat) (x : Nat) (hx : ps.getD 2 0 = x) (h0 : x ≠ 0) (w : World) (h : TabIn w tb 0 rb cap B p) (ht : TabAt B p ps) (u : UInt8) (hl : x < 65536) (hq : B[x + p]? = some u) :
    Calls Tryz.prog 65 #[.pointer (some ⟨tb, 0, none⟩)] w fun e w' => e = .returned (.int .u8 (u.toNat : Int)) ∧ ∃ m, w' = w.drewN m := by
  have hs := h.hs
  have hp : w.cell? ⟨tb, 1, none⟩ = some (.int .u32 (p : Nat)) := h.hp
  have h01 : ((x : Int) == 0) = false := by simpa using h0
  have h02 : ((x : Int) != 0) = true := by simpa using h0
  have hxl : (x : Int) < 65536 := by omega
  have hpl : (p : Int) < 2147483648 := by have := h.hq; have := h.hl; omega
  go_enter Tryz.func65, Tryz.ntmps65
  go_wp2_with fail
  refine (offset_any tb 0 rb cap p 2 8 (by decide) B ps x hx (by decide) w h ht).mono ?_
  rintro e w1 ⟨rfl, m, rfl⟩
  have D : Hid (∀ n, Calls Tryz.prog 108 #[.pointer (some ⟨tb, 0, none⟩), .int .u32 ((x : Int) + (p : Int))] ((w.drewN m).drewN n) fun e w' => e = .returned (.int .u8 (u.toNat : Int)) ∧ w' = (w.drewN m).drewN n) := Lib.hid fun n => tGetByte_any tb 0 rb cap p (x + p) B u _ ((h.drew m).drew n) hq
  clear hx h0
  go_upto_region 3 with fail
  have hsW : (w.drewN m).cell? ⟨tb, 0, none⟩ = some (.slice (some ⟨rb, 0, none⟩) (B.length : Nat) cap) := hs
  have hpW : (w.drewN m).cell? ⟨tb, 1, none⟩ = some (.int .u32 (p : Nat)) := hp
  clear hs hp h
  obtain ⟨W, hW⟩ : ∃ W, W = w.drewN m := ⟨_, rfl⟩
  rw [← hW] at hsW hpW D ⊢
  have HW := Lib.hid hW
  clear hW
  go_quiet (first | (go_at_call 108; exact Calls.quiet_of_same (D.out _)))
  go_wp2_with fail
  go_ret
  have hW := HW.out
  subst hW
  exact ⟨rfl, m + nq, World.drewN_drewN _ _ _⟩

set_option maxRecDepth 100000 in
theorem ParameterType_Kind_none (tb rb cap p : Nat) (B : By) (ps : List Nat) (hx : ps.getD 4 0 = 0) (w : World) (h : TabIn w tb 0 rb cap B p) (ht : TabAt B p ps) :
    Calls Tryz.prog 126 #[.pointer (some ⟨tb, 0, none⟩)] w fun e w' => e = .returned (.int .i8 0) ∧ ∃ m, w' = w.drewN m := by
  go_enter Tryz.func126, Tryz.ntmps126
  go_wp2_with fail
  refine (offset_any tb 0 rb cap p 4 12 (by decide) B ps 0 hx (by decide) w h ht).mono ?_
  rintro e w1 ⟨rfl, m, rfl⟩
  go_wp2_with fail
  go_ret
  exact ⟨rfl, m, rfl⟩

set_option maxRecDepth 100000 in
theorem ParameterType_Kind (tb rb cap p : Nat) (B : By) (ps : List Nat) (x : Nat) (hx : ps.getD 4 0 = x) (h0 : x ≠ 0) (w : World) (h : TabIn w tb 0 rb cap B p) (ht : TabAt B p ps) (u : UInt8) (hl : x < 65536) (hq : B[x + p]? = some u) :
    Calls Tryz.prog 126 #[.pointer (some ⟨tb, 0, none⟩)] w fun e w' => e = .returned (.int .i8 (IntKind.i8.wrap (u.toNat : Int))) ∧ ∃ m, w' = w.drewN m := by
  have hs := h.hs
  have hp : w.cell? ⟨tb, 1, none⟩ = some (.int .u32 (p : Nat)) := h.hp
  have h01 : ((x : Int) == 0) = false := by simpa using h0
  have h02 : ((x : Int) != 0) = true := by simpa using h0
  have hxl : (x : Int) < 65536 := by omega
  have hpl : (p : Int) < 2147483648 := by have := h.hq; have := h.hl; omega
  go_enter Tryz.func126, Tryz.ntmps126
  go_wp2_with fail
  refine (offset_any tb 0 rb cap p 4 12 (by decide) B ps x hx (by decide) w h ht).mono ?_
  rintro e w1 ⟨rfl, m, rfl⟩
  have D : Hid (∀ n, Calls Tryz.prog 185 #[.pointer (some ⟨tb, 0, none⟩), .int .u32 ((x : Int) + (p : Int))] ((w.drewN m).drewN n) fun e w' => e = .returned (.int .i8 (IntKind.i8.wrap (u.toNat : Int))) ∧ w' = (w.drewN m).drewN n) := Lib.hid fun n => tGetInt8_any tb 0 rb cap p (x + p) B u _ ((h.drew m).drew n) hq
  clear hx h0
  go_upto_region 3 with fail
  have hsW : (w.drewN m).cell? ⟨tb, 0, none⟩ = some (.slice (some ⟨rb, 0, none⟩) (B.length : Nat) cap) := hs
  have hpW : (w.drewN m).cell? ⟨tb, 1, none⟩ = some (.int .u32 (p : Nat)) := hp
  clear hs hp h
  obtain ⟨W, hW⟩ : ∃ W, W = w.drewN m := ⟨_, rfl⟩
  rw [← hW] at hsW hpW D ⊢
  have HW := Lib.hid hW
  clear hW
  go_quiet (first | (go_at_call 185; exact Calls.quiet_of_same (D.out _)))
  go_wp2_with fail
  go_ret
  have hW := HW.out
  subst hW
  exact ⟨rfl, m + nq, World.drewN_drewN _ _ _⟩

theorem tab_set' {k rb cap p : Nat} {B : By} {c0 c1 : Value} {w : World} (h0 : w.cell? ⟨k, 0, none⟩ = some c0) (h1 : w.cell? ⟨k, 1, none⟩ = some c1) (hB : BufIn w rb B) (hk : rb ≠ k) (hc : B.length ≤ cap) (hl : B.length < 2147483648) (hp : p < B.length) :
    TabIn ((w.setCell ⟨k, 1, none⟩ (.int .u32 (p : Nat))).setCell ⟨k, 0, none⟩ (.slice (some ⟨rb, 0, none⟩) (B.length : Nat) cap)) k 0 rb cap B p := by
  refine ⟨?_, ?_, ?_, hc, hl, hp⟩
  · refine World.cell?_setCell_same _ _ _ (u := c0) ?_
    rw [World.cell?_setCell_other _ _ _ _ (by simp)]
    exact h0
  · rw [World.cell?_setCell_other _ _ _ _ (by simp)]
    exact World.cell?_setCell_same _ _ _ h1
  · intro j x hj
    rw [World.cell?_of_block (Below.heap_setCell _ _ _ _ hk), World.cell?_of_block (Below.heap_setCell _ _ _ _ hk)]
    exact hB j x hj

theorem tuoff_any (tb t0 rb cap p q : Nat) (B : By) (w : World) (h : TabIn w tb t0 rb cap B p) (hq : q + 4 ≤ B.length) :
    Calls Tryz.prog 171 #[.pointer (some ⟨tb, t0, none⟩), .int .u32 (q : Nat)] w fun e w' => e = .returned (.int .u32 (leAt B q 4 : Nat)) ∧ w' = w := by
  obtain ⟨hs, hp, hB, hc, hl, hpl⟩ := h
  have hq1 : (q : Int) ≤ (B.length : Int) := by omega
  have hq0 : (0 : Int) ≤ (q : Int) := by omega
  go_enter Tryz.func171, Tryz.ntmps171
  go_wp2_with fail
  refine (uoff_any rb q (B.length - q) (cap - q) B w hB hq (by omega)).mono ?_
  rintro e w1 ⟨rfl, rfl⟩
  go_wp2_with fail
  go_ret
  exact ⟨rfl, rfl⟩

set_option maxRecDepth 100000 in
theorem union_any (tb rb cap p q : Nat) (B : By) (w : World) (h : TabIn w tb 0 rb cap B p) (hq : q + p + 4 ≤ B.length) (d : Nat) (hd : leAt B (q + p) 4 = d) (hz : q + p + d < B.length)
    (k : Nat) (u0 u1 : Value) (k0 : w.cell? ⟨k, 0, none⟩ = some u0) (k1 : w.cell? ⟨k, 1, none⟩ = some u1) (f0 : w.frozen? ⟨k, 0, none⟩ = false) (f1 : w.frozen? ⟨k, 1, none⟩ = false) (hrk : rb ≠ k) (htk : tb < k) :
    Calls Tryz.prog 107 #[.pointer (some ⟨tb, 0, none⟩), .pointer (some ⟨k, 0, none⟩), .int .u32 (q : Nat)] w fun e w' => e = .returned (.tuple #[]) ∧ TabIn w' k 0 rb cap B (q + p + d) ∧ Below k w w' := by
  have hs := h.hs
  have hp : w.cell? ⟨tb, 1, none⟩ = some (.int .u32 (p : Nat)) := h.hp
  have htk1 : ¬ tb = k := by omega
  have htk2 : ¬ k = tb := by omega
  have hpl : (q : Int) + (p : Int) < 2147483648 := by have := h.hl; omega
  have hdl : (q : Int) + (p : Int) + (d : Int) < 2147483648 := by have := h.hl; omega
  have HT := Lib.hid h
  clear h
  go_enter Tryz.func107, Tryz.ntmps107
  go_wp2_with fail
  refine (tuoff_any tb 0 rb cap p (q + p) B w HT.out hq).mono ?_
  rintro e w1 ⟨rfl, rfl⟩
  rw [hd]
  go_wp2_with fail
  go_end0
  exact ⟨rfl, tab_set' k0 k1 HT.out.hi hrk HT.out.hc HT.out.hl hz, below_set _ _ _ _ _ _⟩

set_option maxRecDepth 100000 in
theorem ArrayType_Element (tb rb cap p : Nat) (B : By) (ps : List Nat) (x : Nat) (hx : ps.getD 2 0 = x) (h0 : x ≠ 0) (w : World) (h : TabIn w tb 0 rb cap B p) (ht : TabAt B p ps) (hl : x < 65536) (hq : x + p + 4 ≤ B.length) (d : Nat) (hd : leAt B (x + p) 4 = d) (hz : x + p + d < B.length)
    (k : Nat) (u0 u1 : Value) (k0 : w.cell? ⟨k, 0, none⟩ = some u0) (k1 : w.cell? ⟨k, 1, none⟩ = some u1) (f0 : w.frozen? ⟨k, 0, none⟩ = false) (f1 : w.frozen? ⟨k, 1, none⟩ = false) (hrk : rb ≠ k) (htk : tb < k) :
    Calls Tryz.prog 55 #[.pointer (some ⟨tb, 0, none⟩), .pointer (some ⟨k, 0, none⟩)] w fun e w' => e = .returned (.bool true) ∧ TabIn w' k 0 rb cap B (x + p + d) ∧ Below k w w' := by
  have h01 : ((x : Int) == 0) = false := by simpa using h0
  have h02 : ((x : Int) != 0) = true := by simpa using h0
  have hxl : (x : Int) < 65536 := by omega
  go_enter Tryz.func55, Tryz.ntmps55
  go_wp2_with fail
  refine (offset_any tb 0 rb cap p 2 8 (by decide) B ps x hx (by decide) w h ht).mono ?_
  rintro e w1 ⟨rfl, m, rfl⟩
  have HT := Lib.hid (h.drew m)
  have HBK := Lib.hid (below_drewN' (Below.refl k w) m)
  have hk0 : (w.drewN m).cell? ⟨k, 0, none⟩ = some u0 := k0
  have hk1 : (w.drewN m).cell? ⟨k, 1, none⟩ = some u1 := k1
  have hf0 : (w.drewN m).frozen? ⟨k, 0, none⟩ = false := f0
  have hf1 : (w.drewN m).frozen? ⟨k, 1, none⟩ = false := f1
  clear hx h0 k0 k1 f0 f1 h
  obtain ⟨W, hW⟩ : ∃ W, W = w.drewN m := ⟨_, rfl⟩
  rw [← hW] at HT HBK hk0 hk1 hf0 hf1 ⊢
  clear hW
  go_wp2_with fail
  refine (union_any tb rb cap p x B W HT.out hq d hd hz k u0 u1 hk0 hk1 hf0 hf1 hrk htk).mono ?_
  rintro e w4 ⟨rfl, hT4, hb4⟩
  have HT4 := Lib.hid hT4
  have HB4 := Lib.hid hb4
  clear hk0 hk1 hf0 hf1 hT4 hb4
  go_wp2_with fail
  go_ret
  exact ⟨rfl, HT4.out, HBK.out.trans HB4.out⟩

set_option maxRecDepth 100000 in
theorem DictType_Key (tb rb cap p : Nat) (B : By) (ps : List Nat) (x : Nat) (hx : ps.getD 2 0 = x) (h0 : x ≠ 0) (w : World) (h : TabIn w tb 0 rb cap B p) (ht : TabAt B p ps) (hl : x < 65536) (hq : x + p + 4 ≤ B.length) (d : Nat) (hd : leAt B (x + p) 4 = d) (hz : x + p + d < B.length)
    (k : Nat) (u0 u1 : Value) (k0 : w.cell? ⟨k, 0, none⟩ = some u0) (k1 : w.cell? ⟨k, 1, none⟩ = some u1) (f0 : w.frozen? ⟨k, 0, none⟩ = false) (f1 : w.frozen? ⟨k, 1, none⟩ = false) (hrk : rb ≠ k) (htk : tb < k) :
    Calls Tryz.prog 167 #[.pointer (some ⟨tb, 0, none⟩), .pointer (some ⟨k, 0, none⟩)] w fun e w' => e = .returned (.bool true) ∧ TabIn w' k 0 rb cap B (x + p + d) ∧ Below k w w' := by
  have h01 : ((x : Int) == 0) = false := by simpa using h0
  have h02 : ((x : Int) != 0) = true := by simpa using h0
  have hxl : (x : Int) < 65536 := by omega
  go_enter Tryz.func167, Tryz.ntmps167
  go_wp2_with fail
  refine (offset_any tb 0 rb cap p 2 8 (by decide) B ps x hx (by decide) w h ht).mono ?_
  rintro e w1 ⟨rfl, m, rfl⟩
  have HT := Lib.hid (h.drew m)
  have HBK := Lib.hid (below_drewN' (Below.refl k w) m)
  have hk0 : (w.drewN m).cell? ⟨k, 0, none⟩ = some u0 := k0
  have hk1 : (w.drewN m).cell? ⟨k, 1, none⟩ = some u1 := k1
  have hf0 : (w.drewN m).frozen? ⟨k, 0, none⟩ = false := f0
  have hf1 : (w.drewN m).frozen? ⟨k, 1, none⟩ = false := f1
  clear hx h0 k0 k1 f0 f1 h
  obtain ⟨W, hW⟩ : ∃ W, W = w.drewN m := ⟨_, rfl⟩
  rw [← hW] at HT HBK hk0 hk1 hf0 hf1 ⊢
  clear hW
  go_wp2_with fail
  refine (union_any tb rb cap p x B W HT.out hq d hd hz k u0 u1 hk0 hk1 hf0 hf1 hrk htk).mono ?_
  rintro e w4 ⟨rfl, hT4, hb4⟩
  have HT4 := Lib.hid hT4
  have HB4 := Lib.hid hb4
  clear hk0 hk1 hf0 hf1 hT4 hb4
  go_wp2_with fail
  go_ret
  exact ⟨rfl, HT4.out, HBK.out.trans HB4.out⟩

set_option maxRecDepth 100000 in
theorem DictType_Val (tb rb cap p : Nat) (B : By) (ps : List Nat) (x : Nat) (hx : ps.getD 4 0 = x) (h0 : x ≠ 0) (w : World) (h : TabIn w tb 0 rb cap B p) (ht : TabAt B p ps) (hl : x < 65536) (hq : x + p + 4 ≤ B.length) (d : Nat) (hd : leAt B (x + p) 4 = d) (hz : x + p + d < B.length)
    (k : Nat) (u0 u1 : Value) (k0 : w.cell? ⟨k, 0, none⟩ = some u0) (k1 : w.cell? ⟨k, 1, none⟩ = some u1) (f0 : w.frozen? ⟨k, 0, none⟩ = false) (f1 : w.frozen? ⟨k, 1, none⟩ = false) (hrk : rb ≠ k) (htk : tb < k) :
    Calls Tryz.prog 169 #[.pointer (some ⟨tb, 0, none⟩), .pointer (some ⟨k, 0, none⟩)] w fun e w' => e = .returned (.bool true) ∧ TabIn w' k 0 rb cap B (x + p + d) ∧ Below k w w' := by
  have h01 : ((x : Int) == 0) = false := by simpa using h0
  have h02 : ((x : Int) != 0) = true := by simpa using h0
  have hxl : (x : Int) < 65536 := by omega
  go_enter Tryz.func169, Tryz.ntmps169
  go_wp2_with fail
  refine (offset_any tb 0 rb cap p 4 12 (by decide) B ps x hx (by decide) w h ht).mono ?_
  rintro e w1 ⟨rfl, m, rfl⟩
  have HT := Lib.hid (h.drew m)
  have HBK := Lib.hid (below_drewN' (Below.refl k w) m)
  have hk0 : (w.drewN m).cell? ⟨k, 0, none⟩ = some u0 := k0
  have hk1 : (w.drewN m).cell? ⟨k, 1, none⟩ = some u1 := k1
  have hf0 : (w.drewN m).frozen? ⟨k, 0, none⟩ = false := f0
  have hf1 : (w.drewN m).frozen? ⟨k, 1, none⟩ = false := f1
  clear hx h0 k0 k1 f0 f1 h
  obtain ⟨W, hW⟩ : ∃ W, W = w.drewN m := ⟨_, rfl⟩
  rw [← hW] at HT HBK hk0 hk1 hf0 hf1 ⊢
  clear hW
  go_wp2_with fail
  refine (union_any tb rb cap p x B W HT.out hq d hd hz k u0 u1 hk0 hk1 hf0 hf1 hrk htk).mono ?_
  rintro e w4 ⟨rfl, hT4, hb4⟩
  have HT4 := Lib.hid hT4
  have HB4 := Lib.hid hb4
  clear hk0 hk1 hf0 hf1 hT4 hb4
  go_wp2_with fail
  go_ret
  exact ⟨rfl, HT4.out, HBK.out.trans HB4.out⟩

set_option maxRecDepth 100000 in
theorem PropertyType_Monotype (tb rb cap p : Nat) (B : By) (ps : List Nat) (x : Nat) (hx : ps.getD 3 0 = x) (h0 : x ≠ 0) (w : World) (h : TabIn w tb 0 rb cap B p) (ht : TabAt B p ps) (hl : x < 65536) (hq : x + p + 4 ≤ B.length) (d : Nat) (hd : leAt B (x + p) 4 = d) (hz : x + p + d < B.length)
    (k : Nat) (u0 u1 : Value) (k0 : w.cell? ⟨k, 0, none⟩ = some u0) (k1 : w.cell? ⟨k, 1, none⟩ = some u1) (f0 : w.frozen? ⟨k, 0, none⟩ = false) (f1 : w.frozen? ⟨k, 1, none⟩ = false) (hrk : rb ≠ k) (htk : tb < k) :
    Calls Tryz.prog 133 #[.pointer (some ⟨tb, 0, none⟩), .pointer (some ⟨k, 0, none⟩)] w fun e w' => e = .returned (.bool true) ∧ TabIn w' k 0 rb cap B (x + p + d) ∧ Below k w w' := by
  have h01 : ((x : Int) == 0) = false := by simpa using h0
  have h02 : ((x : Int) != 0) = true := by simpa using h0
  have hxl : (x : Int) < 65536 := by omega
  go_enter Tryz.func133, Tryz.ntmps133
  go_wp2_with fail
  refine (offset_any tb 0 rb cap p 3 10 (by decide) B ps x hx (by decide) w h ht).mono ?_
  rintro e w1 ⟨rfl, m, rfl⟩
  have HT := Lib.hid (h.drew m)
  have HBK := Lib.hid (below_drewN' (Below.refl k w) m)
  have hk0 : (w.drewN m).cell? ⟨k, 0, none⟩ = some u0 := k0
  have hk1 : (w.drewN m).cell? ⟨k, 1, none⟩ = some u1 := k1
  have hf0 : (w.drewN m).frozen? ⟨k, 0, none⟩ = false := f0
  have hf1 : (w.drewN m).frozen? ⟨k, 1, none⟩ = false := f1
  clear hx h0 k0 k1 f0 f1 h
  obtain ⟨W, hW⟩ : ∃ W, W = w.drewN m := ⟨_, rfl⟩
  rw [← hW] at HT HBK hk0 hk1 hf0 hf1 ⊢
  clear hW
  go_wp2_with fail
  refine (union_any tb rb cap p x B W HT.out hq d hd hz k u0 u1 hk0 hk1 hf0 hf1 hrk htk).mono ?_
  rintro e w4 ⟨rfl, hT4, hb4⟩
  have HT4 := Lib.hid hT4
  have HB4 := Lib.hid hb4
  clear hk0 hk1 hf0 hf1 hT4 hb4
  go_wp2_with fail
  go_ret
  exact ⟨rfl, HT4.out, HBK.out.trans HB4.out⟩

set_option maxRecDepth 100000 in
theorem ParameterType_Monotype (tb rb cap p : Nat) (B : By) (ps : List Nat) (x : Nat) (hx : ps.getD 3 0 = x) (h0 : x ≠ 0) (w : World) (h : TabIn w tb 0 rb cap B p) (ht : TabAt B p ps) (hl : x < 65536) (hq : x + p + 4 ≤ B.length) (d : Nat) (hd : leAt B (x + p) 4 = d) (hz : x + p + d < B.length)
    (k : Nat) (u0 u1 : Value) (k0 : w.cell? ⟨k, 0, none⟩ = some u0) (k1 : w.cell? ⟨k, 1, none⟩ = some u1) (f0 : w.frozen? ⟨k, 0, none⟩ = false) (f1 : w.frozen? ⟨k, 1, none⟩ = false) (hrk : rb ≠ k) (htk : tb < k) :
    Calls Tryz.prog 123 #[.pointer (some ⟨tb, 0, none⟩), .pointer (some ⟨k, 0, none⟩)] w fun e w' => e = .returned (.bool true) ∧ TabIn w' k 0 rb cap B (x + p + d) ∧ Below k w w' := by
  have h01 : ((x : Int) == 0) = false := by simpa using h0
  have h02 : ((x : Int) != 0) = true := by simpa using h0
  have hxl : (x : Int) < 65536 := by omega
  go_enter Tryz.func123, Tryz.ntmps123
  go_wp2_with fail
  refine (offset_any tb 0 rb cap p 3 10 (by decide) B ps x hx (by decide) w h ht).mono ?_
  rintro e w1 ⟨rfl, m, rfl⟩
  have HT := Lib.hid (h.drew m)
  have HBK := Lib.hid (below_drewN' (Below.refl k w) m)
  have hk0 : (w.drewN m).cell? ⟨k, 0, none⟩ = some u0 := k0
  have hk1 : (w.drewN m).cell? ⟨k, 1, none⟩ = some u1 := k1
  have hf0 : (w.drewN m).frozen? ⟨k, 0, none⟩ = false := f0
  have hf1 : (w.drewN m).frozen? ⟨k, 1, none⟩ = false := f1
  clear hx h0 k0 k1 f0 f1 h
  obtain ⟨W, hW⟩ : ∃ W, W = w.drewN m := ⟨_, rfl⟩
  rw [← hW] at HT HBK hk0 hk1 hf0 hf1 ⊢
  clear hW
  go_wp2_with fail
  refine (union_any tb rb cap p x B W HT.out hq d hd hz k u0 u1 hk0 hk1 hf0 hf1 hrk htk).mono ?_
  rintro e w4 ⟨rfl, hT4, hb4⟩
  have HT4 := Lib.hid hT4
  have HB4 := Lib.hid hb4
  clear hk0 hk1 hf0 hf1 hT4 hb4
  go_wp2_with fail
  go_ret
  exact ⟨rfl, HT4.out, HBK.out.trans HB4.out⟩

set_option maxRecDepth 100000 in
theorem FunctionType_Monotype (tb rb cap p : Nat) (B : By) (ps : List Nat) (x : Nat) (hx : ps.getD 3 0 = x) (h0 : x ≠ 0) (w : World) (h : TabIn w tb 0 rb cap B p) (ht : TabAt B p ps) (hl : x < 65536) (hq : x + p + 4 ≤ B.length) (d : Nat) (hd : leAt B (x + p) 4 = d) (hz : x + p + d < B.length)
    (k : Nat) (u0 u1 : Value) (k0 : w.cell? ⟨k, 0, none⟩ = some u0) (k1 : w.cell? ⟨k, 1, none⟩ = some u1) (f0 : w.frozen? ⟨k, 0, none⟩ = false) (f1 : w.frozen? ⟨k, 1, none⟩ = false) (hrk : rb ≠ k) (htk : tb < k) :
    Calls Tryz.prog 64 #[.pointer (some ⟨tb, 0, none⟩), .pointer (some ⟨k, 0, none⟩)] w fun e w' => e = .returned (.bool true) ∧ TabIn w' k 0 rb cap B (x + p + d) ∧ Below k w w' := by
  have h01 : ((x : Int) == 0) = false := by simpa using h0
  have h02 : ((x : Int) != 0) = true := by simpa using h0
  have hxl : (x : Int) < 65536 := by omega
  go_enter Tryz.func64, Tryz.ntmps64
  go_wp2_with fail
  refine (offset_any tb 0 rb cap p 3 10 (by decide) B ps x hx (by decide) w h ht).mono ?_
  rintro e w1 ⟨rfl, m, rfl⟩
  have HT := Lib.hid (h.drew m)
  have HBK := Lib.hid (below_drewN' (Below.refl k w) m)
  have hk0 : (w.drewN m).cell? ⟨k, 0, none⟩ = some u0 := k0
  have hk1 : (w.drewN m).cell? ⟨k, 1, none⟩ = some u1 := k1
  have hf0 : (w.drewN m).frozen? ⟨k, 0, none⟩ = false := f0
  have hf1 : (w.drewN m).frozen? ⟨k, 1, none⟩ = false := f1
  clear hx h0 k0 k1 f0 f1 h
  obtain ⟨W, hW⟩ : ∃ W, W = w.drewN m := ⟨_, rfl⟩
  rw [← hW] at HT HBK hk0 hk1 hf0 hf1 ⊢
  clear hW
  go_wp2_with fail
  refine (union_any tb rb cap p x B W HT.out hq d hd hz k u0 u1 hk0 hk1 hf0 hf1 hrk htk).mono ?_
  rintro e w4 ⟨rfl, hT4, hb4⟩
  have HT4 := Lib.hid hT4
  have HB4 := Lib.hid hb4
  clear hk0 hk1 hf0 hf1 hT4 hb4
  go_wp2_with fail
  go_ret
  exact ⟨rfl, HT4.out, HBK.out.trans HB4.out⟩

set_option maxRecDepth 100000 in
theorem RecordType_Properties (tb rb cap p : Nat) (B : By) (ps : List Nat) (x : Nat) (hx : ps.getD 1 0 = x) (h0 : x ≠ 0) (w : World) (h : TabIn w tb 0 rb cap B p) (ht : TabAt B p ps) (hl : x < 65536) (hq : x + p + 4 ≤ B.length) (d : Nat) (hd : leAt B (x + p) 4 = d) (hz : x + p + d + 4 ≤ B.length)
    (j : Nat) (hj : x + p + d + 4 + 4 * j + 4 ≤ B.length) (d2 : Nat) (hd2 : leAt B (x + p + d + 4 + 4 * j) 4 = d2) (hz2 : x + p + d + 4 + 4 * j + d2 < B.length)
    (k : Nat) (u0 u1 : Value) (k0 : w.cell? ⟨k, 0, none⟩ = some u0) (k1 : w.cell? ⟨k, 1, none⟩ = some u1) (f0 : w.frozen? ⟨k, 0, none⟩ = false) (f1 : w.frozen? ⟨k, 1, none⟩ = false) (hrk : rb ≠ k) (htk : tb < k) :
    Calls Tryz.prog 75 #[.pointer (some ⟨tb, 0, none⟩), .pointer (some ⟨k, 0, none⟩), .int .i64 (j : Nat)] w fun e w' => e = .returned (.bool true) ∧ TabIn w' k 0 rb cap B (x + p + d + 4 + 4 * j + d2) ∧ Below k w w' := by
  have hs := h.hs
  have hp : w.cell? ⟨tb, 1, none⟩ = some (.int .u32 (p : Nat)) := h.hp
  have h01 : ((x : Int) == 0) = false := by simpa using h0
  have h02 : ((x : Int) != 0) = true := by simpa using h0
  have hxl : (x : Int) < 65536 := by omega
  have hpl : (p : Int) < 2147483648 := by have := h.hq; have := h.hl; omega
  have hjl : (j : Int) < 2147483648 := by have := h.hl; omega
  have hjw : IntKind.u32.wrap (j : Int) = (j : Int) := by rw [IntKind.wrap_u32]; omega
  have hjw4 : IntKind.u32.wrap ((j : Int) * 4) = (j : Int) * 4 := by rw [IntKind.wrap_u32]; have := h.hl; omega
  have hvl : (x : Int) + (p : Int) + (d : Int) + 4 + (j : Int) * 4 < 4294967296 := by have := h.hl; omega
  have hrb := h.hi.lt (by have := h.hq; omega)
  go_enter Tryz.func75, Tryz.ntmps75
  go_wp2_with fail
  refine (offset_any tb 0 rb cap p 1 6 (by decide) B ps x hx (by decide) w h ht).mono ?_
  rintro e w1 ⟨rfl, m, rfl⟩
  have HT := Lib.hid (h.drew m)
  have hsW : (w.drewN m).cell? ⟨tb, 0, none⟩ = some (.slice (some ⟨rb, 0, none⟩) (B.length : Nat) cap) := hs
  have hpW : (w.drewN m).cell? ⟨tb, 1, none⟩ = some (.int .u32 (p : Nat)) := hp
  have HBK := Lib.hid (below_drewN' (Below.refl k w) m)
  have hk0 : (w.drewN m).cell? ⟨k, 0, none⟩ = some u0 := k0
  have hk1 : (w.drewN m).cell? ⟨k, 1, none⟩ = some u1 := k1
  have hf0 : (w.drewN m).frozen? ⟨k, 0, none⟩ = false := f0
  have hf1 : (w.drewN m).frozen? ⟨k, 1, none⟩ = false := f1
  clear hx h0 hs hp k0 k1 f0 f1 h
  obtain ⟨W, hW⟩ : ∃ W, W = w.drewN m := ⟨_, rfl⟩
  rw [← hW] at hsW hpW HT HBK hk0 hk1 hf0 hf1 ⊢
  clear hW
  go_wp2_with fail
  refine (vector_any tb 0 rb cap p x B W HT.out hq d hd hz).mono ?_
  rintro e w2 ⟨rfl, hww⟩
  obtain rfl : W = w2 := hww.symm
  go_wp2_with fail
  rw [show (x : Int) + (p : Int) + (d : Int) + 4 + (j : Int) * 4 = ((x + p + d + 4 + 4 * j : Nat) : Int) from by omega]
  refine (indirect_any tb 0 rb cap p (x + p + d + 4 + 4 * j) B _ HT.out hj d2 hd2 hz2).mono ?_
  rintro e w3 ⟨rfl, hww⟩
  obtain rfl : W = w3 := hww.symm
  go_wp2_with fail
  have hrl := HT.out.hi
  refine (init_PropertyType k rb cap (x + p + d + 4 + 4 * j + d2) B _ _ W hk0 hk1 hf0 hf1 HT.out.hi hrk HT.out.hc HT.out.hl hz2).mono ?_
  rintro e w4 ⟨rfl, hT4, hb4⟩
  have HT4 := Lib.hid hT4
  have HB4 := Lib.hid hb4
  clear hk0 hk1 hf0 hf1 hsW hpW hT4 hb4
  go_wp2_with fail
  go_ret
  exact ⟨rfl, HT4.out, HBK.out.trans HB4.out⟩

set_option maxRecDepth 100000 in
theorem FunctionType_Parameters (tb rb cap p : Nat) (B : By) (ps : List Nat) (x : Nat) (hx : ps.getD 1 0 = x) (h0 : x ≠ 0) (w : World) (h : TabIn w tb 0 rb cap B p) (ht : TabAt B p ps) (hl : x < 65536) (hq : x + p + 4 ≤ B.length) (d : Nat) (hd : leAt B (x + p) 4 = d) (hz : x + p + d + 4 ≤ B.length)
    (j : Nat) (hj : x + p + d + 4 + 4 * j + 4 ≤ B.length) (d2 : Nat) (hd2 : leAt B (x + p + d + 4 + 4 * j) 4 = d2) (hz2 : x + p + d + 4 + 4 * j + d2 < B.length)
    (k : Nat) (u0 u1 : Value) (k0 : w.cell? ⟨k, 0, none⟩ = some u0) (k1 : w.cell? ⟨k, 1, none⟩ = some u1) (f0 : w.frozen? ⟨k, 0, none⟩ = false) (f1 : w.frozen? ⟨k, 1, none⟩ = false) (hrk : rb ≠ k) (htk : tb < k) :
    Calls Tryz.prog 67 #[.pointer (some ⟨tb, 0, none⟩), .pointer (some ⟨k, 0, none⟩), .int .i64 (j : Nat)] w fun e w' => e = .returned (.bool true) ∧ TabIn w' k 0 rb cap B (x + p + d + 4 + 4 * j + d2) ∧ Below k w w' := by
  have hs := h.hs
  have hp : w.cell? ⟨tb, 1, none⟩ = some (.int .u32 (p : Nat)) := h.hp
  have h01 : ((x : Int) == 0) = false := by simpa using h0
  have h02 : ((x : Int) != 0) = true := by simpa using h0
  have hxl : (x : Int) < 65536 := by omega
  have hpl : (p : Int) < 2147483648 := by have := h.hq; have := h.hl; omega
  have hjl : (j : Int) < 2147483648 := by have := h.hl; omega
  have hjw : IntKind.u32.wrap (j : Int) = (j : Int) := by rw [IntKind.wrap_u32]; omega
  have hjw4 : IntKind.u32.wrap ((j : Int) * 4) = (j : Int) * 4 := by rw [IntKind.wrap_u32]; have := h.hl; omega
  have hvl : (x : Int) + (p : Int) + (d : Int) + 4 + (j : Int) * 4 < 4294967296 := by have := h.hl; omega
  have hrb := h.hi.lt (by have := h.hq; omega)
  go_enter Tryz.func67, Tryz.ntmps67
  go_wp2_with fail
  refine (offset_any tb 0 rb cap p 1 6 (by decide) B ps x hx (by decide) w h ht).mono ?_
  rintro e w1 ⟨rfl, m, rfl⟩
  have HT := Lib.hid (h.drew m)
  have hsW : (w.drewN m).cell? ⟨tb, 0, none⟩ = some (.slice (some ⟨rb, 0, none⟩) (B.length : Nat) cap) := hs
  have hpW : (w.drewN m).cell? ⟨tb, 1, none⟩ = some (.int .u32 (p : Nat)) := hp
  have HBK := Lib.hid (below_drewN' (Below.refl k w) m)
  have hk0 : (w.drewN m).cell? ⟨k, 0, none⟩ = some u0 := k0
  have hk1 : (w.drewN m).cell? ⟨k, 1, none⟩ = some u1 := k1
  have hf0 : (w.drewN m).frozen? ⟨k, 0, none⟩ = false := f0
  have hf1 : (w.drewN m).frozen? ⟨k, 1, none⟩ = false := f1
  clear hx h0 hs hp k0 k1 f0 f1 h
  obtain ⟨W, hW⟩ : ∃ W, W = w.drewN m := ⟨_, rfl⟩
  rw [← hW] at hsW hpW HT HBK hk0 hk1 hf0 hf1 ⊢
  clear hW
  go_wp2_with fail
  refine (vector_any tb 0 rb cap p x B W HT.out hq d hd hz).mono ?_
  rintro e w2 ⟨rfl, hww⟩
  obtain rfl : W = w2 := hww.symm
  go_wp2_with fail
  rw [show (x : Int) + (p : Int) + (d : Int) + 4 + (j : Int) * 4 = ((x + p + d + 4 + 4 * j : Nat) : Int) from by omega]
  refine (indirect_any tb 0 rb cap p (x + p + d + 4 + 4 * j) B _ HT.out hj d2 hd2 hz2).mono ?_
  rintro e w3 ⟨rfl, hww⟩
  obtain rfl : W = w3 := hww.symm
  go_wp2_with fail
  have hrl := HT.out.hi
  refine (init_ParameterType k rb cap (x + p + d + 4 + 4 * j + d2) B _ _ W hk0 hk1 hf0 hf1 HT.out.hi hrk HT.out.hc HT.out.hl hz2).mono ?_
  rintro e w4 ⟨rfl, hT4, hb4⟩
  have HT4 := Lib.hid hT4
  have HB4 := Lib.hid hb4
  clear hk0 hk1 hf0 hf1 hsW hpW hT4 hb4
  go_wp2_with fail
  go_ret
  exact ⟨rfl, HT4.out, HBK.out.trans HB4.out⟩

end Go.Proofs.YtcbcdgifakcooaaGreatDoor
