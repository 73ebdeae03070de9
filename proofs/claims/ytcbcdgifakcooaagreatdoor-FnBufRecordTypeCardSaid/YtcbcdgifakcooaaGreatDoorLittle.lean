/-
  A number in so many bytes, the lowest first. No conditions.
-/
import Derived.Test.YtcbcdgifakcooaaGreatDoorBrd
import Derived.Deep.LoopGhost
import Derived.Deep.AppendLies
import Derived.Laws.BytesArg
namespace Go.Proofs.YtcbcdgifakcooaaGreatDoor
open Go.RowKit
set_option linter.unusedVariables false
set_option linter.unusedSimpArgs false

theorem infoByte' : (Tryz.prog.info? 5).map (fun i => (i.zero, i.size, i.bytes)) = some (some (.int .u8 0), 1, 1) := by kernel_rfl
theorem info_parts' {P : Program} {t : TypeId} (h : (P.info? t).map (fun i => (i.zero, i.size, i.bytes)) = some (some (.int .u8 0), 1, 1)) : ∃ i, P.info? t = some i ∧ i.zero = some (.int .u8 0) ∧ i.size = 1 ∧ i.bytes = 1 := by
  obtain ⟨i, hi, h⟩ := Option.map_eq_some_iff.1 h
  simp only [Prod.mk.injEq] at h
  exact ⟨i, hi, h.1, h.2.1, h.2.2⟩
theorem cell_new (W : World) (v : Value) (T : TypeId) (n : Nat) (hn : n = W.heap.size) : (W.alloc (.cells #[v] T)).cell? ⟨n, 0, none⟩ = some v := by
  subst hn
  simp [go_sem]

theorem leBytes_snoc : ∀ (k u : Nat), Lib.leBytes (k + 1) u = Lib.leBytes k u ++ [(u / 2 ^ (8 * k) % 256).toUInt8]
  | 0, u => by simp [Lib.leBytes]
  | k + 1, u => by
    have h := leBytes_snoc k (u / 256)
    rw [Lib.leBytes, h, Lib.leBytes, List.cons_append]
    rw [Nat.div_div_eq_div_mul, show 256 * 2 ^ (8 * k) = 2 ^ (8 * (k + 1)) from by rw [show 8 * (k + 1) = 8 + 8 * k from by omega, Nat.pow_add]]

set_option maxRecDepth 100000 in
theorem little_any (u n : Nat) (hn : n ≤ 8) (hu : u < 18446744073709551616) (w : World) :
    Calls Tryz.prog 21 #[.int .u64 (u : Nat), .int .i64 (n : Nat)] w fun e w' => ∃ (vo : Option Addr) (vc : Nat), e = .returned (.slice vo n vc) ∧ w'.ownsRow w.heap.size 5 1 (.slice vo n vc) n ((Lib.leBytes n u).map fun x => Value.int .u8 (x.toNat : Int)) ∧ Below w.heap.size w w' := by
  go_enter Tryz.func21, Tryz.ntmps21
  obtain ⟨i0, hi, hiz, his, hib⟩ := info_parts' infoByte'
  go_wp2_with fail
  go_loopg [6, 5] (n + 1) (fun gk i v wr => ∃ (k : Nat) (vo : Option Addr) (vc : Nat), k ≤ n ∧ gk = n + 1 - k ∧ i = .int .i64 (k : Nat) ∧ v = .slice vo k vc ∧ Hid (wr.ownsRow w.heap.size 5 1 (.slice vo k vc) k ((Lib.leBytes k u).map fun x => Value.int .u8 (x.toNat : Int))) ∧ Hid (Below w.heap.size w wr))
  case atStart => exact ⟨0, none, 0, by omega, by omega, rfl, rfl, Lib.hid ⟨rfl, .inl ⟨rfl, rfl⟩⟩, Lib.hid (Below.refl _ _)⟩
  case round =>
    obtain ⟨k, vo, vc, hk, hgk, rfl, rfl, HO, HB⟩ := hrel
    have HK := Lib.hid hgk
    clear hgk
    by_cases hkn : k < n
    · have hki : (k : Int) < (n : Int) := by omega
      have hk8 : (k : Int) < 8 := by omega
      have kb : (k + 1) * 1 ≤ 140737488355328 := by omega
      have km : k + 1 ≤ maxLen := by unfold maxLen; omega
      have HZ : w.heap.size ≤ wr.heap.size := HB.out.size
      go_wp2_with (at_builtin; refine wpList_append_lies _ rfl _ _ 30 rfl w.heap.size 5 i0 (.int .u8 0) 1 1 Tryz.underlying30 hi hiz his hib rfl (by decide) (.slice vo k vc) k _ rfl (HO.out.alloc _) ⟨wr.heap.size, 0, none⟩ 1 1 [.int .u8 ((u : Int) / 2 ^ (8 * k) % 256)] rfl rfl (by intro j x hx; match j, hx with | 0, hx => (rw [← Option.some.inj hx]; exact cell_new _ _ _ _ rfl) | j + 1, hx => simp at hx) (by intro x hx; rw [List.mem_singleton.1 hx]; rfl) (by decide) km kb (by first | exact HZ | (simp; omega)) _ rfl ?_; intro g' cap' w4 hown' hgrow hat hlt')
      go_roundg (n + 1 - (k + 1))
      case measure => rw [HK.out]; omega
      case rel =>
        refine ⟨k + 1, some ⟨g', 0, none⟩, cap', by omega, rfl, rfl, rfl, Lib.hid ?_, Lib.hid ?_⟩
        · rw [leBytes_snoc, List.map_append]
          have e : (((u / 2 ^ (8 * k) % 256).toUInt8.toNat : Nat) : Int) = (u : Int) / 2 ^ (8 * k) % 256 := by
            have h1 : (u / 2 ^ (8 * k) % 256).toUInt8.toNat = u / 2 ^ (8 * k) % 256 := by simp
            rw [h1]
            push_cast
            rfl
          rw [List.map_cons, List.map_nil, e]
          exact hown'
        · refine (HB.out.alloc HZ (.cells #[.int .u8 ((u : Int) / 2 ^ (8 * k) % 256)] 5)).grown hgrow (by simp; omega) (fun r hr => ?_)
          rcases HO.out.2 with ⟨hv, _⟩ | ⟨g1, c1, cur1, hv, hBg, _⟩
          · rw [hv] at hr; simp [Value.ownBlock] at hr
          · rw [hv] at hr; cases hr; exact hBg
    · obtain rfl : k = n := by omega
      go_wp2_with fail
      go_ret
      exact ⟨vo, vc, rfl, HO.out, HB.out⟩

end Go.Proofs.YtcbcdgifakcooaaGreatDoor
