/-
  Literals of values, and the values of literals; impl's Literal over them. No conditions.
-/
import Derived.Test.YtongafghllkomaaGreatDoorNdA
import Derived.Test.YtongafghllkomaaGreatDoorTests
import Derived.Test.YtongafghllkomaaGreatDoorSame
import Derived.Defers
import Derived.Recover
namespace Go.Proofs.YtongafghllkomaaGreatDoor
open Go.RowKit
set_option linter.unusedVariables false

theorem nodeC_zero : NodeC 0 := fun _ _ _ _ _ _ h => h.elim

def litCells_36 (v : Int) : Obj := .cells #[.pointer none, .slice none 0 0, .slice none 0 0, .int .i64 v] 57
theorem lit_cell_36 (v : Int) (w : World) : (w.alloc (litCells_36 v)).cell? ⟨w.heap.size, 3, none⟩ = some (.int .i64 v) := by
  unfold litCells_36
  rw [Lib.cell_of_heap (heap_alloc_new _ _)]
  rfl
theorem ofValue_36 (v : Int) (w : World) : Calls Tryz.prog 35 #[.int .i64 v] w fun e w' => e = .returned (.pointer (some ⟨w.heap.size, 0, none⟩)) ∧ w' = w.alloc (litCells_36 v) := by
  go_enter Tryz.func35, Tryz.ntmps35
  go_wp2_with fail
  go_ret
  exact ⟨rfl, rfl⟩
theorem valueOf_36 (b : Nat) (v : Int) (w : World) (hc : w.cell? ⟨b, 3, none⟩ = some (.int .i64 v)) : Calls Tryz.prog 37 #[.pointer (some ⟨b, 0, none⟩)] w fun e w' => e = .returned (.int .i64 v) ∧ w = w' := by
  go_enter Tryz.func37, Tryz.ntmps37
  go_wp2_with fail
  go_ret
  exact ⟨rfl, rfl⟩

def litCells_37 (v : Int) : Obj := .cells #[.pointer none, .slice none 0 0, .slice none 0 0, .int .u64 v] 63
theorem lit_cell_37 (v : Int) (w : World) : (w.alloc (litCells_37 v)).cell? ⟨w.heap.size, 3, none⟩ = some (.int .u64 v) := by
  unfold litCells_37
  rw [Lib.cell_of_heap (heap_alloc_new _ _)]
  rfl
theorem ofValue_37 (v : Int) (w : World) : Calls Tryz.prog 38 #[.int .u64 v] w fun e w' => e = .returned (.pointer (some ⟨w.heap.size, 0, none⟩)) ∧ w' = w.alloc (litCells_37 v) := by
  go_enter Tryz.func38, Tryz.ntmps38
  go_wp2_with fail
  go_ret
  exact ⟨rfl, rfl⟩
theorem valueOf_37 (b : Nat) (v : Int) (w : World) (hc : w.cell? ⟨b, 3, none⟩ = some (.int .u64 v)) : Calls Tryz.prog 39 #[.pointer (some ⟨b, 0, none⟩)] w fun e w' => e = .returned (.int .u64 v) ∧ w = w' := by
  go_enter Tryz.func39, Tryz.ntmps39
  go_wp2_with fail
  go_ret
  exact ⟨rfl, rfl⟩

def litCells_34 (v : ByteArray) : Obj := .cells #[.pointer none, .slice none 0 0, .slice none 0 0, .string v] 68
theorem lit_cell_34 (v : ByteArray) (w : World) : (w.alloc (litCells_34 v)).cell? ⟨w.heap.size, 3, none⟩ = some (.string v) := by
  unfold litCells_34
  rw [Lib.cell_of_heap (heap_alloc_new _ _)]
  rfl
theorem ofValue_34 (v : ByteArray) (w : World) : Calls Tryz.prog 40 #[.string v] w fun e w' => e = .returned (.pointer (some ⟨w.heap.size, 0, none⟩)) ∧ w' = w.alloc (litCells_34 v) := by
  go_enter Tryz.func40, Tryz.ntmps40
  go_wp2_with fail
  go_ret
  exact ⟨rfl, rfl⟩
theorem valueOf_34 (b : Nat) (v : ByteArray) (w : World) (hc : w.cell? ⟨b, 3, none⟩ = some (.string v)) : Calls Tryz.prog 41 #[.pointer (some ⟨b, 0, none⟩)] w fun e w' => e = .returned (.string v) ∧ w = w' := by
  go_enter Tryz.func41, Tryz.ntmps41
  go_wp2_with fail
  go_ret
  exact ⟨rfl, rfl⟩

def litCells_35 (v : Bool) : Obj := .cells #[.pointer none, .slice none 0 0, .slice none 0 0, .bool v] 73
theorem lit_cell_35 (v : Bool) (w : World) : (w.alloc (litCells_35 v)).cell? ⟨w.heap.size, 3, none⟩ = some (.bool v) := by
  unfold litCells_35
  rw [Lib.cell_of_heap (heap_alloc_new _ _)]
  rfl
theorem ofValue_35 (v : Bool) (w : World) : Calls Tryz.prog 42 #[.bool v] w fun e w' => e = .returned (.pointer (some ⟨w.heap.size, 0, none⟩)) ∧ w' = w.alloc (litCells_35 v) := by
  go_enter Tryz.func42, Tryz.ntmps42
  go_wp2_with fail
  go_ret
  exact ⟨rfl, rfl⟩
theorem valueOf_35 (b : Nat) (v : Bool) (w : World) (hc : w.cell? ⟨b, 3, none⟩ = some (.bool v)) : Calls Tryz.prog 43 #[.pointer (some ⟨b, 0, none⟩)] w fun e w' => e = .returned (.bool v) ∧ w = w' := by
  go_enter Tryz.func43, Tryz.ntmps43
  go_wp2_with fail
  go_ret
  exact ⟨rfl, rfl⟩

/-- Two trees like the one that came in are handed back. -/
def LitPost (n : Nd) (w : World) (e : Ending) (w' : World) : Prop :=
  ∃ (E : Nat) (m1 m2 : Nd), e = .returned (.tuple #[.agg #[.int .i64 m1.kind, .string m1.text, .string m1.more, .int .u64 m1.num, .slice m1.ao m1.kids.length m1.cap], .agg #[.int .i64 m2.kind, .string m2.text, .string m2.more, .int .u64 m2.num, .slice m2.ao m2.kids.length m2.cap], .bool true]) ∧
    SameD E n m1 ∧ LiesD E w' m1 ∧ SameD E n m2 ∧ LiesD E w' m2 ∧ Below w.heap.size w w'

theorem lit_idle (p q r : Addr) (w : World) : CallsD Tryz.prog 34 #[.pointer (some p), .pointer (some q), .pointer (some r)] .returning w fun e u' w' => u' = .returning ∧ e = .returned (.tuple #[]) ∧ w' = w := by
  refine callsD_of_wpS Tryz.func34 rfl fun c₀ cs hu => ?_
  apply wpS_seq
  apply wpS_region
  simp [wpOpsS, go_sem, recoverD, hu, Tryz.ntmps34, Exit.thenS]
  refine wpS_cond (t := false) (by simp [Act.eval, Array.replicate]) ?_
  simp only [Bool.false_eq_true, if_false]
  refine wpS_of_wp (wp_skip ?_)
  cases c₀
  simp_all [bodyPostS, results, Tryz.results34]

/-- Behind the stores into the three results. -/
theorem lit_stored {w w3 W : World} {n m1 m2 : Nd} {E B : Nat} (hS : SameD E n m1) (hl : LiesIn (From B) E w3 m1) (hB : w.heap.size + 3 < B) (hb : Below w.heap.size w w3) (hk2 : m2.kids = []) (hwf : m2.wf) (hs2 : SameD 1 n m2)
    (hst : ∀ b, w.heap.size + 3 < b → W.heap[b]? = w3.heap[b]?) (hbW : Below w.heap.size w w3 → Below w.heap.size w W) :
    LitPost n w (.returned (.tuple #[.agg #[.int .i64 m1.kind, .string m1.text, .string m1.more, .int .u64 m1.num, .slice m1.ao m1.kids.length m1.cap], .agg #[.int .i64 m2.kind, .string m2.text, .string m2.more, .int .u64 m2.num, .slice m2.ao m2.kids.length m2.cap], .bool true])) W := by
  refine ⟨E + 1, m1, m2, rfl, hS.up (by omega), ((hl.carry (A' := From B) (fun b o hA ho => ⟨by rw [hst b (by unfold From at hA; omega)]; exact ho, hA⟩)).lies).mono (by omega), hs2.up (by omega), ⟨hwf, fun i x hx => ?_⟩, hbW hb⟩
  rw [hk2] at hx
  simp at hx

set_option maxRecDepth 100000 in
set_option maxHeartbeats 1000000 in
theorem implLit_36 (n : Nd) (D : Nat) (w : World) (hL : LiesD D w n) (hG : GoodD 12 n) (hk : n.kind = 36) :
    Calls Tryz.prog 14 #[n.val] w (LitPost n w) := by
  have hP := hG.pre
  obtain ⟨k, t, m, u, ao, cap, kids⟩ := n
  obtain rfl : k = 36 := hk
  have hn0 : (Nd.mk 36 t m u ao cap kids).kind ≠ 0 := by show (36 : Int) ≠ 0; decide
  have hn1 : (Nd.mk 36 t m u ao cap kids).kind ≠ 1 := by show (36 : Int) ≠ 1; decide
  have hPl := (hP.fit hn0).2.2.1
  obtain rfl : t = ⟨#[]⟩ := hPl.1 (show hasText 36 = false by decide)
  obtain rfl : m = ⟨#[]⟩ := hPl.2.2.1 (show (36 : Int) ≠ 2 by decide) (show (36 : Int) ≠ 3 by decide)
  have hln : kids.length = 0 := by
    have h1 := ((hP.fit hn0).2.2.2.1 hn1)
    have e1 : (fixedL 36).length = 0 := by decide
    have e2 : restL 36 = 28 := by decide
    simp only [Nd.kind, Nd.kids] at h1
    rw [e1, e2] at h1
    omega
  obtain rfl : kids = [] := List.eq_nil_of_length_eq_zero hln
  have HWN := Lib.hid (show WfN (.mk 36 ⟨#[]⟩ ⟨#[]⟩ u ao cap []) from ⟨D, w, hL⟩)
  have HL := Lib.hid hL
  have HG := Lib.hid hG
  have HP := Lib.hid hP
  have hu1 : 0 ≤ u := HWN.out.wf.2.2.2.1
  have hu2 : u < 18446744073709551616 := HWN.out.wf.2.2.2.2.1
  have hwr : IntKind.u64.wrap (wrap64 u) = u := by simp only [IntKind.wrap, IntKind.bits, IntKind.signed]; unfold wrap64; simp; omega
  clear hL hG hP hPl hn0 hn1 hln
  show Calls _ _ #[.agg #[.int .i64 36, .string ⟨#[]⟩, .string ⟨#[]⟩, .int .u64 u, .slice ao 0 cap]] w _
  have q36 := yes_36
  go_enter_defers Tryz.func14, Tryz.ntmps14
  go_wp2_with fail
  have HB0 := Lib.hid (((((Below.refl w.heap.size w).alloc (Nat.le_refl _) (.cells #[.int .i64 36, .string ⟨#[]⟩, .string ⟨#[]⟩, .int .u64 u, .slice ao 0 cap] 25)).alloc (by simp) (.cells #[.int .i64 0, .string ⟨#[]⟩, .string ⟨#[]⟩, .int .u64 0, .slice none 0 0] 25)).alloc (by first | omega | (simp; done) | (simp; omega)) (.cells #[.int .i64 0, .string ⟨#[]⟩, .string ⟨#[]⟩, .int .u64 0, .slice none 0 0] 25)).alloc (by first | omega | (simp; done) | (simp; omega)) (.cells #[.bool false] 4))
  refine (un_all 12 (.mk 36 ⟨#[]⟩ ⟨#[]⟩ u ao cap []) D _ (HL.out.below HB0.out) HG.out).mono ?_
  rintro e w1 ⟨b, rfl, hR, hb⟩
  rw [show pTy (Nd.kind (.mk 36 ⟨#[]⟩ ⟨#[]⟩ u ao cap [])) = 49 from ptrTy_36]
  obtain ⟨-, cs, hbb, hs⟩ := hR
  rw [slots_36 _ rfl] at hs
  match cs, hs with
  | [v0, v1, v2, v3], ⟨e0, e1, e2, e3, _⟩ =>
    have c3 : w1.cell? ⟨b, 3, none⟩ = some (.int .i64 (wrap64 u)) := by rw [Lib.cell_of_heap hbb]; exact congrArg some e3
    obtain ⟨k1, f1⟩ := bblk hb (b := w.heap.size + 1) (by first | omega | (simp; done) | (simp; omega))
    obtain ⟨k2, f2⟩ := bblk hb (b := w.heap.size + 1 + 1) (by first | omega | (simp; done) | (simp; omega))
    obtain ⟨k3, f3⟩ := bblk hb (b := w.heap.size + 1 + 1 + 1) (by first | omega | (simp; done) | (simp; omega))
    have hz1 : w.heap.size + 1 + 1 + 1 < w1.heap.size := by have := hb.size; simp at this; omega
    have HBW := Lib.hid hb
    have HB1 := Lib.hid (HB0.out.trans (hb.mono HB0.out.size))
    clear hb hbb
    go_wp2_with fail
    refine (ofValue_36 _ _).mono ?_
    rintro e w2 ⟨rfl, rfl⟩
    have hR2 : RepD (fun _ => True) 1 (w1.alloc (litCells_36 (wrap64 u))) (.mk 36 ⟨#[]⟩ ⟨#[]⟩ u ao cap []) w1.heap.size := by
      refine ⟨trivial, [.pointer none, .slice none 0 0, .slice none 0 0, .int .i64 (wrap64 u)], ?_, ?_⟩
      · rw [show sTy (Nd.kind (.mk 36 ⟨#[]⟩ ⟨#[]⟩ u ao cap [])) = 57 from sTy_36]
        exact heap_alloc_new _ _
      · rw [slots_36 _ rfl]; exact ⟨rfl, rfl, rfl, rfl, trivial⟩
    have HNC := Lib.hid (show ∀ W, Below (w1.alloc (litCells_36 (wrap64 u))).heap.size (w1.alloc (litCells_36 (wrap64 u))) W → Calls Tryz.prog 36 #[.iface 49 (.pointer (some ⟨w1.heap.size, 0, none⟩))] W (NodePost (.mk 36 ⟨#[]⟩ ⟨#[]⟩ u ao cap []) W) from fun W hbW => by
      have h := nd_36 0 nodeC_zero 11 _ (.mk 36 ⟨#[]⟩ ⟨#[]⟩ u ao cap []) w1.heap.size W HP.out HWN.out (hR2.below hbW) rfl
      rw [show pTy (Nd.kind (.mk 36 ⟨#[]⟩ ⟨#[]⟩ u ao cap [])) = 49 from ptrTy_36] at h
      exact h)
    have hcl := lit_cell_36 (wrap64 u) w1
    clear hR2
    go_wp2_with fail
    refine (HNC.out _ (by first | exact Below.refl _ _ | exact (Below.refl _ _).alloc (Nat.le_refl _) _)).mono ?_
    rintro e w3 ⟨E, m1, rfl, hS, hl, hb3⟩
    have hbx := (by first | exact (HBW.out.alloc HBW.out.size (litCells_36 (wrap64 u))).trans (hb3.mono (by have := HBW.out.size; (try simp at this); simp; omega)) | exact ((HBW.out.alloc HBW.out.size (litCells_36 (wrap64 u))).alloc (by have := HBW.out.size; (try simp at this); simp; omega) _).trans (hb3.mono (by have := HBW.out.size; (try simp at this); simp; omega)) : Below _ _ w3)
    clear k1 k2 k3 f1 f2 f3
    obtain ⟨k11, f11⟩ := bblk hbx (b := w.heap.size + 1) (by first | omega | (simp; done) | (simp; omega))
    obtain ⟨k12, f12⟩ := bblk hbx (b := w.heap.size + 1 + 1) (by first | omega | (simp; done) | (simp; omega))
    obtain ⟨k13, f13⟩ := bblk hbx (b := w.heap.size + 1 + 1 + 1) (by first | omega | (simp; done) | (simp; omega))
    clear hbx
    have cn : w3.cell? ⟨w1.heap.size, 3, none⟩ = some (.int .i64 (wrap64 u)) := by
      rw [hb3.cell (p := ⟨w1.heap.size, 3, none⟩) (by first | omega | (simp; done) | (simp; omega))]
      first | exact lit_cell_36 _ _ | (rw [((Below.refl _ _).alloc (Nat.le_refl _) _).cell (p := ⟨w1.heap.size, 3, none⟩) (by simp)]; exact lit_cell_36 _ _)
    have HB3 : Hid (Below w.heap.size w w3) := Lib.hid (by first | exact (HB1.out.alloc HB1.out.size (litCells_36 (wrap64 u))).trans (hb3.mono (by have := HB1.out.size; simp; omega)) | exact ((HB1.out.alloc HB1.out.size (litCells_36 (wrap64 u))).alloc (by have := HB1.out.size; simp; omega) _).trans (hb3.mono (by have := HB1.out.size; simp; omega)))
    have HS := Lib.hid hS
    have Hl := Lib.hid hl
    clear hS hl hb3
    go_wp2_with fail
    refine (valueOf_36 _ _ _ cn).mono ?_
    rintro e w4 ⟨rfl, rfl⟩
    go_wp2_with fail
    refine leaves_cons (f := 34) (args := #[.pointer (some ⟨w.heap.size + 1, 0, none⟩), .pointer (some ⟨w.heap.size + 1 + 1, 0, none⟩), .pointer (some ⟨w.heap.size + 1 + 1 + 1, 0, none⟩)]) (by simp) (by simp [go_sem]) ?_
    refine (lit_idle _ _ _ _).mono ?_
    rintro e u2 w4 ⟨rfl, rfl, rfl⟩
    simp [Leaves, settle, results, Tryz.results14, go_sem, k11, k12, k13]
    refine lit_stored (m2 := .mk 36 ⟨#[]⟩ ⟨#[]⟩ u none 0 []) HS.out Hl.out (by simp; omega) HB3.out rfl HWN.out.wf ⟨rfl, rfl, rfl, rfl, rfl, fun i x y hx _ => ?_⟩ (fun c hc => ?_) (fun h => ?_)
    · have : ([] : List Nd)[i]? = some x := hx
      simp at this
    · rw [Below.heap_setCell _ _ _ _ (by first | omega | (simp; done) | (simp; omega)), Below.heap_setCell _ _ _ _ (by first | omega | (simp; done) | (simp; omega)), Below.heap_setCell _ _ _ _ (by first | omega | (simp; done) | (simp; omega)), Below.heap_setCell _ _ _ _ (by first | omega | (simp; done) | (simp; omega)), Below.heap_setCell _ _ _ _ (by first | omega | (simp; done) | (simp; omega)), Below.heap_setCell _ _ _ _ (by first | omega | (simp; done) | (simp; omega)), Below.heap_setCell _ _ _ _ (by first | omega | (simp; done) | (simp; omega)), Below.heap_setCell _ _ _ _ (by first | omega | (simp; done) | (simp; omega)), Below.heap_setCell _ _ _ _ (by first | omega | (simp; done) | (simp; omega)), Below.heap_setCell _ _ _ _ (by first | omega | (simp; done) | (simp; omega)), Below.heap_setCell _ _ _ _ (by first | omega | (simp; done) | (simp; omega))]
    · exact (((((((((((h.setCell (p := ⟨w.heap.size + 1, 0, none⟩) (by first | omega | (simp; done) | (simp; omega)) _).setCell (p := ⟨w.heap.size + 1, 1, none⟩) (by first | omega | (simp; done) | (simp; omega)) _).setCell (p := ⟨w.heap.size + 1, 2, none⟩) (by first | omega | (simp; done) | (simp; omega)) _).setCell (p := ⟨w.heap.size + 1, 3, none⟩) (by first | omega | (simp; done) | (simp; omega)) _).setCell (p := ⟨w.heap.size + 1, 4, none⟩) (by first | omega | (simp; done) | (simp; omega)) _).setCell (p := ⟨w.heap.size + 1 + 1, 0, none⟩) (by first | omega | (simp; done) | (simp; omega)) _).setCell (p := ⟨w.heap.size + 1 + 1, 1, none⟩) (by first | omega | (simp; done) | (simp; omega)) _).setCell (p := ⟨w.heap.size + 1 + 1, 2, none⟩) (by first | omega | (simp; done) | (simp; omega)) _).setCell (p := ⟨w.heap.size + 1 + 1, 3, none⟩) (by first | omega | (simp; done) | (simp; omega)) _).setCell (p := ⟨w.heap.size + 1 + 1, 4, none⟩) (by first | omega | (simp; done) | (simp; omega)) _).setCell (p := ⟨w.heap.size + 1 + 1 + 1, 0, none⟩) (by first | omega | (simp; done) | (simp; omega)) _)

set_option maxRecDepth 100000 in
set_option maxHeartbeats 1000000 in
theorem implLit_37 (n : Nd) (D : Nat) (w : World) (hL : LiesD D w n) (hG : GoodD 12 n) (hk : n.kind = 37) :
    Calls Tryz.prog 14 #[n.val] w (LitPost n w) := by
  have hP := hG.pre
  obtain ⟨k, t, m, u, ao, cap, kids⟩ := n
  obtain rfl : k = 37 := hk
  have hn0 : (Nd.mk 37 t m u ao cap kids).kind ≠ 0 := by show (37 : Int) ≠ 0; decide
  have hn1 : (Nd.mk 37 t m u ao cap kids).kind ≠ 1 := by show (37 : Int) ≠ 1; decide
  have hPl := (hP.fit hn0).2.2.1
  obtain rfl : t = ⟨#[]⟩ := hPl.1 (show hasText 37 = false by decide)
  obtain rfl : m = ⟨#[]⟩ := hPl.2.2.1 (show (37 : Int) ≠ 2 by decide) (show (37 : Int) ≠ 3 by decide)
  have hln : kids.length = 0 := by
    have h1 := ((hP.fit hn0).2.2.2.1 hn1)
    have e1 : (fixedL 37).length = 0 := by decide
    have e2 : restL 37 = 28 := by decide
    simp only [Nd.kind, Nd.kids] at h1
    rw [e1, e2] at h1
    omega
  obtain rfl : kids = [] := List.eq_nil_of_length_eq_zero hln
  have HWN := Lib.hid (show WfN (.mk 37 ⟨#[]⟩ ⟨#[]⟩ u ao cap []) from ⟨D, w, hL⟩)
  have HL := Lib.hid hL
  have HG := Lib.hid hG
  have HP := Lib.hid hP
  have hu1 : 0 ≤ u := HWN.out.wf.2.2.2.1
  have hu2 : u < 18446744073709551616 := HWN.out.wf.2.2.2.2.1
  clear hL hG hP hPl hn0 hn1 hln
  show Calls _ _ #[.agg #[.int .i64 37, .string ⟨#[]⟩, .string ⟨#[]⟩, .int .u64 u, .slice ao 0 cap]] w _
  have q36 := no_36 60 (by decide)
  have q37 := yes_37
  go_enter_defers Tryz.func14, Tryz.ntmps14
  go_wp2_with fail
  have HB0 := Lib.hid (((((Below.refl w.heap.size w).alloc (Nat.le_refl _) (.cells #[.int .i64 37, .string ⟨#[]⟩, .string ⟨#[]⟩, .int .u64 u, .slice ao 0 cap] 25)).alloc (by simp) (.cells #[.int .i64 0, .string ⟨#[]⟩, .string ⟨#[]⟩, .int .u64 0, .slice none 0 0] 25)).alloc (by first | omega | (simp; done) | (simp; omega)) (.cells #[.int .i64 0, .string ⟨#[]⟩, .string ⟨#[]⟩, .int .u64 0, .slice none 0 0] 25)).alloc (by first | omega | (simp; done) | (simp; omega)) (.cells #[.bool false] 4))
  refine (un_all 12 (.mk 37 ⟨#[]⟩ ⟨#[]⟩ u ao cap []) D _ (HL.out.below HB0.out) HG.out).mono ?_
  rintro e w1 ⟨b, rfl, hR, hb⟩
  rw [show pTy (Nd.kind (.mk 37 ⟨#[]⟩ ⟨#[]⟩ u ao cap [])) = 60 from ptrTy_37]
  obtain ⟨-, cs, hbb, hs⟩ := hR
  rw [slots_37 _ rfl] at hs
  match cs, hs with
  | [v0, v1, v2, v3], ⟨e0, e1, e2, e3, _⟩ =>
    have c3 : w1.cell? ⟨b, 3, none⟩ = some (.int .u64 u) := by rw [Lib.cell_of_heap hbb]; exact congrArg some e3
    obtain ⟨k1, f1⟩ := bblk hb (b := w.heap.size + 1) (by first | omega | (simp; done) | (simp; omega))
    obtain ⟨k2, f2⟩ := bblk hb (b := w.heap.size + 1 + 1) (by first | omega | (simp; done) | (simp; omega))
    obtain ⟨k3, f3⟩ := bblk hb (b := w.heap.size + 1 + 1 + 1) (by first | omega | (simp; done) | (simp; omega))
    have hz1 : w.heap.size + 1 + 1 + 1 < w1.heap.size := by have := hb.size; simp at this; omega
    have HBW := Lib.hid hb
    have HB1 := Lib.hid (HB0.out.trans (hb.mono HB0.out.size))
    clear hb hbb
    go_wp2_with fail
    refine (ofValue_37 _ _).mono ?_
    rintro e w2 ⟨rfl, rfl⟩
    have hR2 : RepD (fun _ => True) 1 (w1.alloc (litCells_37 u)) (.mk 37 ⟨#[]⟩ ⟨#[]⟩ u ao cap []) w1.heap.size := by
      refine ⟨trivial, [.pointer none, .slice none 0 0, .slice none 0 0, .int .u64 u], ?_, ?_⟩
      · rw [show sTy (Nd.kind (.mk 37 ⟨#[]⟩ ⟨#[]⟩ u ao cap [])) = 63 from sTy_37]
        exact heap_alloc_new _ _
      · rw [slots_37 _ rfl]; exact ⟨rfl, rfl, rfl, rfl, trivial⟩
    have HNC := Lib.hid (show ∀ W, Below (w1.alloc (litCells_37 u)).heap.size (w1.alloc (litCells_37 u)) W → Calls Tryz.prog 36 #[.iface 60 (.pointer (some ⟨w1.heap.size, 0, none⟩))] W (NodePost (.mk 37 ⟨#[]⟩ ⟨#[]⟩ u ao cap []) W) from fun W hbW => by
      have h := nd_37 0 nodeC_zero 11 _ (.mk 37 ⟨#[]⟩ ⟨#[]⟩ u ao cap []) w1.heap.size W HP.out HWN.out (hR2.below hbW) rfl
      rw [show pTy (Nd.kind (.mk 37 ⟨#[]⟩ ⟨#[]⟩ u ao cap [])) = 60 from ptrTy_37] at h
      exact h)
    have hcl := lit_cell_37 u w1
    clear hR2
    go_wp2_with fail
    refine (HNC.out _ (by first | exact Below.refl _ _ | exact (Below.refl _ _).alloc (Nat.le_refl _) _)).mono ?_
    rintro e w3 ⟨E, m1, rfl, hS, hl, hb3⟩
    have hbx := (by first | exact (HBW.out.alloc HBW.out.size (litCells_37 u)).trans (hb3.mono (by have := HBW.out.size; (try simp at this); simp; omega)) | exact ((HBW.out.alloc HBW.out.size (litCells_37 u)).alloc (by have := HBW.out.size; (try simp at this); simp; omega) _).trans (hb3.mono (by have := HBW.out.size; (try simp at this); simp; omega)) : Below _ _ w3)
    clear k1 k2 k3 f1 f2 f3
    obtain ⟨k11, f11⟩ := bblk hbx (b := w.heap.size + 1) (by first | omega | (simp; done) | (simp; omega))
    obtain ⟨k12, f12⟩ := bblk hbx (b := w.heap.size + 1 + 1) (by first | omega | (simp; done) | (simp; omega))
    obtain ⟨k13, f13⟩ := bblk hbx (b := w.heap.size + 1 + 1 + 1) (by first | omega | (simp; done) | (simp; omega))
    clear hbx
    have cn : w3.cell? ⟨w1.heap.size, 3, none⟩ = some (.int .u64 u) := by
      rw [hb3.cell (p := ⟨w1.heap.size, 3, none⟩) (by first | omega | (simp; done) | (simp; omega))]
      first | exact lit_cell_37 _ _ | (rw [((Below.refl _ _).alloc (Nat.le_refl _) _).cell (p := ⟨w1.heap.size, 3, none⟩) (by simp)]; exact lit_cell_37 _ _)
    have HB3 : Hid (Below w.heap.size w w3) := Lib.hid (by first | exact (HB1.out.alloc HB1.out.size (litCells_37 u)).trans (hb3.mono (by have := HB1.out.size; simp; omega)) | exact ((HB1.out.alloc HB1.out.size (litCells_37 u)).alloc (by have := HB1.out.size; simp; omega) _).trans (hb3.mono (by have := HB1.out.size; simp; omega)))
    have HS := Lib.hid hS
    have Hl := Lib.hid hl
    clear hS hl hb3
    go_wp2_with fail
    refine (valueOf_37 _ _ _ cn).mono ?_
    rintro e w4 ⟨rfl, rfl⟩
    go_wp2_with fail
    refine leaves_cons (f := 34) (args := #[.pointer (some ⟨w.heap.size + 1, 0, none⟩), .pointer (some ⟨w.heap.size + 1 + 1, 0, none⟩), .pointer (some ⟨w.heap.size + 1 + 1 + 1, 0, none⟩)]) (by simp) (by simp [go_sem]) ?_
    refine (lit_idle _ _ _ _).mono ?_
    rintro e u2 w4 ⟨rfl, rfl, rfl⟩
    simp [Leaves, settle, results, Tryz.results14, go_sem, k11, k12, k13]
    refine lit_stored (m2 := .mk 37 ⟨#[]⟩ ⟨#[]⟩ u none 0 []) HS.out Hl.out (by simp; omega) HB3.out rfl HWN.out.wf ⟨rfl, rfl, rfl, rfl, rfl, fun i x y hx _ => ?_⟩ (fun c hc => ?_) (fun h => ?_)
    · have : ([] : List Nd)[i]? = some x := hx
      simp at this
    · rw [Below.heap_setCell _ _ _ _ (by first | omega | (simp; done) | (simp; omega)), Below.heap_setCell _ _ _ _ (by first | omega | (simp; done) | (simp; omega)), Below.heap_setCell _ _ _ _ (by first | omega | (simp; done) | (simp; omega)), Below.heap_setCell _ _ _ _ (by first | omega | (simp; done) | (simp; omega)), Below.heap_setCell _ _ _ _ (by first | omega | (simp; done) | (simp; omega)), Below.heap_setCell _ _ _ _ (by first | omega | (simp; done) | (simp; omega)), Below.heap_setCell _ _ _ _ (by first | omega | (simp; done) | (simp; omega)), Below.heap_setCell _ _ _ _ (by first | omega | (simp; done) | (simp; omega)), Below.heap_setCell _ _ _ _ (by first | omega | (simp; done) | (simp; omega)), Below.heap_setCell _ _ _ _ (by first | omega | (simp; done) | (simp; omega)), Below.heap_setCell _ _ _ _ (by first | omega | (simp; done) | (simp; omega))]
    · exact (((((((((((h.setCell (p := ⟨w.heap.size + 1, 0, none⟩) (by first | omega | (simp; done) | (simp; omega)) _).setCell (p := ⟨w.heap.size + 1, 1, none⟩) (by first | omega | (simp; done) | (simp; omega)) _).setCell (p := ⟨w.heap.size + 1, 2, none⟩) (by first | omega | (simp; done) | (simp; omega)) _).setCell (p := ⟨w.heap.size + 1, 3, none⟩) (by first | omega | (simp; done) | (simp; omega)) _).setCell (p := ⟨w.heap.size + 1, 4, none⟩) (by first | omega | (simp; done) | (simp; omega)) _).setCell (p := ⟨w.heap.size + 1 + 1, 0, none⟩) (by first | omega | (simp; done) | (simp; omega)) _).setCell (p := ⟨w.heap.size + 1 + 1, 1, none⟩) (by first | omega | (simp; done) | (simp; omega)) _).setCell (p := ⟨w.heap.size + 1 + 1, 2, none⟩) (by first | omega | (simp; done) | (simp; omega)) _).setCell (p := ⟨w.heap.size + 1 + 1, 3, none⟩) (by first | omega | (simp; done) | (simp; omega)) _).setCell (p := ⟨w.heap.size + 1 + 1, 4, none⟩) (by first | omega | (simp; done) | (simp; omega)) _).setCell (p := ⟨w.heap.size + 1 + 1 + 1, 0, none⟩) (by first | omega | (simp; done) | (simp; omega)) _)

set_option maxRecDepth 100000 in
set_option maxHeartbeats 1000000 in
theorem implLit_34 (n : Nd) (D : Nat) (w : World) (hL : LiesD D w n) (hG : GoodD 12 n) (hk : n.kind = 34) :
    Calls Tryz.prog 14 #[n.val] w (LitPost n w) := by
  have hP := hG.pre
  obtain ⟨k, t, m, u, ao, cap, kids⟩ := n
  obtain rfl : k = 34 := hk
  have hn0 : (Nd.mk 34 t m u ao cap kids).kind ≠ 0 := by show (34 : Int) ≠ 0; decide
  have hn1 : (Nd.mk 34 t m u ao cap kids).kind ≠ 1 := by show (34 : Int) ≠ 1; decide
  have hPl := (hP.fit hn0).2.2.1
  obtain rfl : u = 0 := hPl.2.1 (show hasNum 34 = false by decide)
  obtain rfl : m = ⟨#[]⟩ := hPl.2.2.1 (show (34 : Int) ≠ 2 by decide) (show (34 : Int) ≠ 3 by decide)
  have hln : kids.length = 0 := by
    have h1 := ((hP.fit hn0).2.2.2.1 hn1)
    have e1 : (fixedL 34).length = 0 := by decide
    have e2 : restL 34 = 28 := by decide
    simp only [Nd.kind, Nd.kids] at h1
    rw [e1, e2] at h1
    omega
  obtain rfl : kids = [] := List.eq_nil_of_length_eq_zero hln
  have HWN := Lib.hid (show WfN (.mk 34 t ⟨#[]⟩ 0 ao cap []) from ⟨D, w, hL⟩)
  have HL := Lib.hid hL
  have HG := Lib.hid hG
  have HP := Lib.hid hP
  have hu1 : 0 ≤ (0 : Int) := HWN.out.wf.2.2.2.1
  have hu2 : (0 : Int) < 18446744073709551616 := HWN.out.wf.2.2.2.2.1
  clear hL hG hP hPl hn0 hn1 hln
  show Calls _ _ #[.agg #[.int .i64 34, .string t, .string ⟨#[]⟩, .int .u64 0, .slice ao 0 cap]] w _
  have q36 := no_36 65 (by decide)
  have q37 := no_37 65 (by decide)
  have q34 := yes_34
  go_enter_defers Tryz.func14, Tryz.ntmps14
  go_wp2_with fail
  have HB0 := Lib.hid (((((Below.refl w.heap.size w).alloc (Nat.le_refl _) (.cells #[.int .i64 34, .string t, .string ⟨#[]⟩, .int .u64 0, .slice ao 0 cap] 25)).alloc (by simp) (.cells #[.int .i64 0, .string ⟨#[]⟩, .string ⟨#[]⟩, .int .u64 0, .slice none 0 0] 25)).alloc (by first | omega | (simp; done) | (simp; omega)) (.cells #[.int .i64 0, .string ⟨#[]⟩, .string ⟨#[]⟩, .int .u64 0, .slice none 0 0] 25)).alloc (by first | omega | (simp; done) | (simp; omega)) (.cells #[.bool false] 4))
  refine (un_all 12 (.mk 34 t ⟨#[]⟩ 0 ao cap []) D _ (HL.out.below HB0.out) HG.out).mono ?_
  rintro e w1 ⟨b, rfl, hR, hb⟩
  rw [show pTy (Nd.kind (.mk 34 t ⟨#[]⟩ 0 ao cap [])) = 65 from ptrTy_34]
  obtain ⟨-, cs, hbb, hs⟩ := hR
  rw [slots_34 _ rfl] at hs
  match cs, hs with
  | [v0, v1, v2, v3], ⟨e0, e1, e2, e3, _⟩ =>
    have c3 : w1.cell? ⟨b, 3, none⟩ = some (.string t) := by rw [Lib.cell_of_heap hbb]; exact congrArg some e3
    obtain ⟨k1, f1⟩ := bblk hb (b := w.heap.size + 1) (by first | omega | (simp; done) | (simp; omega))
    obtain ⟨k2, f2⟩ := bblk hb (b := w.heap.size + 1 + 1) (by first | omega | (simp; done) | (simp; omega))
    obtain ⟨k3, f3⟩ := bblk hb (b := w.heap.size + 1 + 1 + 1) (by first | omega | (simp; done) | (simp; omega))
    have hz1 : w.heap.size + 1 + 1 + 1 < w1.heap.size := by have := hb.size; simp at this; omega
    have HBW := Lib.hid hb
    have HB1 := Lib.hid (HB0.out.trans (hb.mono HB0.out.size))
    clear hb hbb
    go_wp2_with fail
    refine (ofValue_34 _ _).mono ?_
    rintro e w2 ⟨rfl, rfl⟩
    have hR2 : RepD (fun _ => True) 1 (w1.alloc (litCells_34 t)) (.mk 34 t ⟨#[]⟩ 0 ao cap []) w1.heap.size := by
      refine ⟨trivial, [.pointer none, .slice none 0 0, .slice none 0 0, .string t], ?_, ?_⟩
      · rw [show sTy (Nd.kind (.mk 34 t ⟨#[]⟩ 0 ao cap [])) = 68 from sTy_34]
        exact heap_alloc_new _ _
      · rw [slots_34 _ rfl]; exact ⟨rfl, rfl, rfl, rfl, trivial⟩
    have HNC := Lib.hid (show ∀ W, Below (w1.alloc (litCells_34 t)).heap.size (w1.alloc (litCells_34 t)) W → Calls Tryz.prog 36 #[.iface 65 (.pointer (some ⟨w1.heap.size, 0, none⟩))] W (NodePost (.mk 34 t ⟨#[]⟩ 0 ao cap []) W) from fun W hbW => by
      have h := nd_34 0 nodeC_zero 11 _ (.mk 34 t ⟨#[]⟩ 0 ao cap []) w1.heap.size W HP.out HWN.out (hR2.below hbW) rfl
      rw [show pTy (Nd.kind (.mk 34 t ⟨#[]⟩ 0 ao cap [])) = 65 from ptrTy_34] at h
      exact h)
    have hcl := lit_cell_34 t w1
    clear hR2
    go_wp2_with fail
    refine (HNC.out _ (by first | exact Below.refl _ _ | exact (Below.refl _ _).alloc (Nat.le_refl _) _)).mono ?_
    rintro e w3 ⟨E, m1, rfl, hS, hl, hb3⟩
    have hbx := (by first | exact (HBW.out.alloc HBW.out.size (litCells_34 t)).trans (hb3.mono (by have := HBW.out.size; (try simp at this); simp; omega)) | exact ((HBW.out.alloc HBW.out.size (litCells_34 t)).alloc (by have := HBW.out.size; (try simp at this); simp; omega) _).trans (hb3.mono (by have := HBW.out.size; (try simp at this); simp; omega)) : Below _ _ w3)
    clear k1 k2 k3 f1 f2 f3
    obtain ⟨k11, f11⟩ := bblk hbx (b := w.heap.size + 1) (by first | omega | (simp; done) | (simp; omega))
    obtain ⟨k12, f12⟩ := bblk hbx (b := w.heap.size + 1 + 1) (by first | omega | (simp; done) | (simp; omega))
    obtain ⟨k13, f13⟩ := bblk hbx (b := w.heap.size + 1 + 1 + 1) (by first | omega | (simp; done) | (simp; omega))
    clear hbx
    have cn : w3.cell? ⟨w1.heap.size, 3, none⟩ = some (.string t) := by
      rw [hb3.cell (p := ⟨w1.heap.size, 3, none⟩) (by first | omega | (simp; done) | (simp; omega))]
      first | exact lit_cell_34 _ _ | (rw [((Below.refl _ _).alloc (Nat.le_refl _) _).cell (p := ⟨w1.heap.size, 3, none⟩) (by simp)]; exact lit_cell_34 _ _)
    have HB3 : Hid (Below w.heap.size w w3) := Lib.hid (by first | exact (HB1.out.alloc HB1.out.size (litCells_34 t)).trans (hb3.mono (by have := HB1.out.size; simp; omega)) | exact ((HB1.out.alloc HB1.out.size (litCells_34 t)).alloc (by have := HB1.out.size; simp; omega) _).trans (hb3.mono (by have := HB1.out.size; simp; omega)))
    have HS := Lib.hid hS
    have Hl := Lib.hid hl
    clear hS hl hb3
    go_wp2_with fail
    refine (valueOf_34 _ _ _ cn).mono ?_
    rintro e w4 ⟨rfl, rfl⟩
    go_wp2_with fail
    refine leaves_cons (f := 34) (args := #[.pointer (some ⟨w.heap.size + 1, 0, none⟩), .pointer (some ⟨w.heap.size + 1 + 1, 0, none⟩), .pointer (some ⟨w.heap.size + 1 + 1 + 1, 0, none⟩)]) (by simp) (by simp [go_sem]) ?_
    refine (lit_idle _ _ _ _).mono ?_
    rintro e u2 w4 ⟨rfl, rfl, rfl⟩
    simp [Leaves, settle, results, Tryz.results14, go_sem, k11, k12, k13]
    refine lit_stored (m2 := .mk 34 t ⟨#[]⟩ 0 none 0 []) HS.out Hl.out (by simp; omega) HB3.out rfl HWN.out.wf ⟨rfl, rfl, rfl, rfl, rfl, fun i x y hx _ => ?_⟩ (fun c hc => ?_) (fun h => ?_)
    · have : ([] : List Nd)[i]? = some x := hx
      simp at this
    · rw [Below.heap_setCell _ _ _ _ (by first | omega | (simp; done) | (simp; omega)), Below.heap_setCell _ _ _ _ (by first | omega | (simp; done) | (simp; omega)), Below.heap_setCell _ _ _ _ (by first | omega | (simp; done) | (simp; omega)), Below.heap_setCell _ _ _ _ (by first | omega | (simp; done) | (simp; omega)), Below.heap_setCell _ _ _ _ (by first | omega | (simp; done) | (simp; omega)), Below.heap_setCell _ _ _ _ (by first | omega | (simp; done) | (simp; omega)), Below.heap_setCell _ _ _ _ (by first | omega | (simp; done) | (simp; omega)), Below.heap_setCell _ _ _ _ (by first | omega | (simp; done) | (simp; omega)), Below.heap_setCell _ _ _ _ (by first | omega | (simp; done) | (simp; omega)), Below.heap_setCell _ _ _ _ (by first | omega | (simp; done) | (simp; omega)), Below.heap_setCell _ _ _ _ (by first | omega | (simp; done) | (simp; omega))]
    · exact (((((((((((h.setCell (p := ⟨w.heap.size + 1, 0, none⟩) (by first | omega | (simp; done) | (simp; omega)) _).setCell (p := ⟨w.heap.size + 1, 1, none⟩) (by first | omega | (simp; done) | (simp; omega)) _).setCell (p := ⟨w.heap.size + 1, 2, none⟩) (by first | omega | (simp; done) | (simp; omega)) _).setCell (p := ⟨w.heap.size + 1, 3, none⟩) (by first | omega | (simp; done) | (simp; omega)) _).setCell (p := ⟨w.heap.size + 1, 4, none⟩) (by first | omega | (simp; done) | (simp; omega)) _).setCell (p := ⟨w.heap.size + 1 + 1, 0, none⟩) (by first | omega | (simp; done) | (simp; omega)) _).setCell (p := ⟨w.heap.size + 1 + 1, 1, none⟩) (by first | omega | (simp; done) | (simp; omega)) _).setCell (p := ⟨w.heap.size + 1 + 1, 2, none⟩) (by first | omega | (simp; done) | (simp; omega)) _).setCell (p := ⟨w.heap.size + 1 + 1, 3, none⟩) (by first | omega | (simp; done) | (simp; omega)) _).setCell (p := ⟨w.heap.size + 1 + 1, 4, none⟩) (by first | omega | (simp; done) | (simp; omega)) _).setCell (p := ⟨w.heap.size + 1 + 1 + 1, 0, none⟩) (by first | omega | (simp; done) | (simp; omega)) _)

set_option maxRecDepth 100000 in
set_option maxHeartbeats 1000000 in
theorem implLit_35_0 (n : Nd) (D : Nat) (w : World) (hL : LiesD D w n) (hG : GoodD 12 n) (hk : n.kind = 35) (hbit : n.num = 0) :
    Calls Tryz.prog 14 #[n.val] w (LitPost n w) := by
  have hP := hG.pre
  obtain ⟨k, t, m, u, ao, cap, kids⟩ := n
  obtain rfl : k = 35 := hk
  have hn0 : (Nd.mk 35 t m u ao cap kids).kind ≠ 0 := by show (35 : Int) ≠ 0; decide
  have hn1 : (Nd.mk 35 t m u ao cap kids).kind ≠ 1 := by show (35 : Int) ≠ 1; decide
  have hPl := (hP.fit hn0).2.2.1
  obtain rfl : t = ⟨#[]⟩ := hPl.1 (show hasText 35 = false by decide)
  obtain rfl : m = ⟨#[]⟩ := hPl.2.2.1 (show (35 : Int) ≠ 2 by decide) (show (35 : Int) ≠ 3 by decide)
  obtain rfl : u = 0 := hbit
  have hln : kids.length = 0 := by
    have h1 := ((hP.fit hn0).2.2.2.1 hn1)
    have e1 : (fixedL 35).length = 0 := by decide
    have e2 : restL 35 = 28 := by decide
    simp only [Nd.kind, Nd.kids] at h1
    rw [e1, e2] at h1
    omega
  obtain rfl : kids = [] := List.eq_nil_of_length_eq_zero hln
  have HWN := Lib.hid (show WfN (.mk 35 ⟨#[]⟩ ⟨#[]⟩ 0 ao cap []) from ⟨D, w, hL⟩)
  have HL := Lib.hid hL
  have HG := Lib.hid hG
  have HP := Lib.hid hP
  have hu1 : 0 ≤ (0 : Int) := HWN.out.wf.2.2.2.1
  have hu2 : (0 : Int) < 18446744073709551616 := HWN.out.wf.2.2.2.2.1
  clear hL hG hP hPl hn0 hn1 hln
  show Calls _ _ #[.agg #[.int .i64 35, .string ⟨#[]⟩, .string ⟨#[]⟩, .int .u64 0, .slice ao 0 cap]] w _
  have q36 := no_36 70 (by decide)
  have q37 := no_37 70 (by decide)
  have q34 := no_34 70 (by decide)
  have q35 := yes_35
  go_enter_defers Tryz.func14, Tryz.ntmps14
  go_wp2_with fail
  have HB0 := Lib.hid (((((Below.refl w.heap.size w).alloc (Nat.le_refl _) (.cells #[.int .i64 35, .string ⟨#[]⟩, .string ⟨#[]⟩, .int .u64 0, .slice ao 0 cap] 25)).alloc (by simp) (.cells #[.int .i64 0, .string ⟨#[]⟩, .string ⟨#[]⟩, .int .u64 0, .slice none 0 0] 25)).alloc (by first | omega | (simp; done) | (simp; omega)) (.cells #[.int .i64 0, .string ⟨#[]⟩, .string ⟨#[]⟩, .int .u64 0, .slice none 0 0] 25)).alloc (by first | omega | (simp; done) | (simp; omega)) (.cells #[.bool false] 4))
  refine (un_all 12 (.mk 35 ⟨#[]⟩ ⟨#[]⟩ 0 ao cap []) D _ (HL.out.below HB0.out) HG.out).mono ?_
  rintro e w1 ⟨b, rfl, hR, hb⟩
  rw [show pTy (Nd.kind (.mk 35 ⟨#[]⟩ ⟨#[]⟩ 0 ao cap [])) = 70 from ptrTy_35]
  obtain ⟨-, cs, hbb, hs⟩ := hR
  rw [slots_35 _ rfl] at hs
  match cs, hs with
  | [v0, v1, v2, v3], ⟨e0, e1, e2, e3, _⟩ =>
    have c3 : w1.cell? ⟨b, 3, none⟩ = some (.bool false) := by rw [Lib.cell_of_heap hbb]; exact congrArg some e3
    obtain ⟨k1, f1⟩ := bblk hb (b := w.heap.size + 1) (by first | omega | (simp; done) | (simp; omega))
    obtain ⟨k2, f2⟩ := bblk hb (b := w.heap.size + 1 + 1) (by first | omega | (simp; done) | (simp; omega))
    obtain ⟨k3, f3⟩ := bblk hb (b := w.heap.size + 1 + 1 + 1) (by first | omega | (simp; done) | (simp; omega))
    have hz1 : w.heap.size + 1 + 1 + 1 < w1.heap.size := by have := hb.size; simp at this; omega
    have HBW := Lib.hid hb
    have HB1 := Lib.hid (HB0.out.trans (hb.mono HB0.out.size))
    clear hb hbb
    go_wp2_with fail
    refine (ofValue_35 _ _).mono ?_
    rintro e w2 ⟨rfl, rfl⟩
    have hR2 : RepD (fun _ => True) 1 (w1.alloc (litCells_35 false)) (.mk 35 ⟨#[]⟩ ⟨#[]⟩ 0 ao cap []) w1.heap.size := by
      refine ⟨trivial, [.pointer none, .slice none 0 0, .slice none 0 0, .bool false], ?_, ?_⟩
      · rw [show sTy (Nd.kind (.mk 35 ⟨#[]⟩ ⟨#[]⟩ 0 ao cap [])) = 73 from sTy_35]
        exact heap_alloc_new _ _
      · rw [slots_35 _ rfl]; exact ⟨rfl, rfl, rfl, rfl, trivial⟩
    have HNC := Lib.hid (show ∀ W, Below (w1.alloc (litCells_35 false)).heap.size (w1.alloc (litCells_35 false)) W → Calls Tryz.prog 36 #[.iface 70 (.pointer (some ⟨w1.heap.size, 0, none⟩))] W (NodePost (.mk 35 ⟨#[]⟩ ⟨#[]⟩ 0 ao cap []) W) from fun W hbW => by
      have h := nd_35 0 nodeC_zero 11 _ (.mk 35 ⟨#[]⟩ ⟨#[]⟩ 0 ao cap []) w1.heap.size W HP.out HWN.out (hR2.below hbW) rfl
      rw [show pTy (Nd.kind (.mk 35 ⟨#[]⟩ ⟨#[]⟩ 0 ao cap [])) = 70 from ptrTy_35] at h
      exact h)
    have hcl := lit_cell_35 false w1
    clear hR2
    go_wp2_with fail
    refine (valueOf_35 _ false _ (by rw [((Below.refl _ _).alloc (Nat.le_refl _) _).cell (p := ⟨w1.heap.size, 3, none⟩) (by simp)]; exact lit_cell_35 _ _)).mono ?_
    rintro e wv ⟨rfl, rfl⟩
    go_wp2_with fail
    have hq0 : ¬ w.heap.size = w1.heap.size := by omega
    have hq1 : ¬ w1.heap.size = w.heap.size := by omega
    have hq2 : ¬ w.heap.size + 1 = w1.heap.size := by omega
    have hq3 : ¬ w1.heap.size = w.heap.size + 1 := by omega
    have hq4 : ¬ w.heap.size + 1 + 1 = w1.heap.size := by omega
    have hq5 : ¬ w1.heap.size = w.heap.size + 1 + 1 := by omega
    have HXW : Below w.heap.size w ((w1.alloc (litCells_35 false)).alloc (.cells #[.int .i64 35, .string ⟨#[]⟩, .string ⟨#[]⟩, .int .u64 0, .slice none 0 0] 25)) := (HB1.out.alloc HB1.out.size _).alloc (by have := HB1.out.size; simp; omega) _
    have HXB := (HBW.out.alloc HBW.out.size (litCells_35 false)).alloc (by have := HBW.out.size; (try simp at this); simp; omega) (.cells #[.int .i64 35, .string ⟨#[]⟩, .string ⟨#[]⟩, .int .u64 0, .slice none 0 0] 25)
    go_region_held3 (fun w' => (w'.cell? ⟨w1.heap.size + 1, 0, none⟩ = some (.int .i64 35) ∧ w'.cell? ⟨w1.heap.size + 1, 1, none⟩ = some (.string ⟨#[]⟩) ∧ w'.cell? ⟨w1.heap.size + 1, 2, none⟩ = some (.string ⟨#[]⟩) ∧ w'.cell? ⟨w1.heap.size + 1, 3, none⟩ = some (.int .u64 0) ∧ w'.cell? ⟨w1.heap.size + 1, 4, none⟩ = some (.slice none 0 0))) (go_keep) ((go_at_call 36; refine (HNC.out _ (by first | exact (Below.refl _ _).alloc (Nat.le_refl _) _ | exact ((Below.refl _ _).alloc (Nat.le_refl _) _).drew)).mono ?_; rintro e w3 ⟨E, m1, rfl, hS, hl, hb3⟩; have HB3 : Below w.heap.size w w3 := (by first | exact HXW.trans (hb3.mono HXW.size) | exact HXW.drew.trans (hb3.mono (by have := HXW.size; simpa using this))); have hbx : Below _ _ w3 := (by first | exact HXB.trans (hb3.mono HXB.size) | exact HXB.drew.trans (hb3.mono (by have := HXB.size; simpa using this))); clear k1 k2 k3 f1 f2 f3; obtain ⟨k11, f11⟩ := bblk hbx (b := w.heap.size + 1) (by first | omega | (simp; done) | (simp; omega)); obtain ⟨k12, f12⟩ := bblk hbx (b := w.heap.size + 1 + 1) (by first | omega | (simp; done) | (simp; omega)); obtain ⟨k13, f13⟩ := bblk hbx (b := w.heap.size + 1 + 1 + 1) (by first | omega | (simp; done) | (simp; omega)); obtain ⟨k14, -⟩ := bblk hb3 (b := w1.heap.size + 1) (by first | omega | (simp; done) | (simp; omega)); have HS := Lib.hid hS; have Hl := Lib.hid hl; clear hS hl hbx))
    have HB3 := Lib.hid HB3
    go_wp2_with fail
    refine leaves_cons (f := 34) (args := #[.pointer (some ⟨w.heap.size + 1, 0, none⟩), .pointer (some ⟨w.heap.size + 1 + 1, 0, none⟩), .pointer (some ⟨w.heap.size + 1 + 1 + 1, 0, none⟩)]) (by simp) (by simp [go_sem]) ?_
    refine (lit_idle _ _ _ _).mono ?_
    rintro e u2 w4 ⟨rfl, rfl, rfl⟩
    simp [Leaves, settle, results, Tryz.results14, go_sem, k11, k12, k13]
    refine lit_stored (m2 := .mk 35 ⟨#[]⟩ ⟨#[]⟩ 0 none 0 []) HS.out Hl.out (by simp; omega) HB3.out rfl HWN.out.wf ⟨rfl, rfl, rfl, rfl, rfl, fun i x y hx _ => ?_⟩ (fun c hc => ?_) (fun h => ?_)
    · have : ([] : List Nd)[i]? = some x := hx
      simp at this
    · rw [Below.heap_setCell _ _ _ _ (by first | omega | (simp; done) | (simp; omega)), Below.heap_setCell _ _ _ _ (by first | omega | (simp; done) | (simp; omega)), Below.heap_setCell _ _ _ _ (by first | omega | (simp; done) | (simp; omega)), Below.heap_setCell _ _ _ _ (by first | omega | (simp; done) | (simp; omega)), Below.heap_setCell _ _ _ _ (by first | omega | (simp; done) | (simp; omega)), Below.heap_setCell _ _ _ _ (by first | omega | (simp; done) | (simp; omega)), Below.heap_setCell _ _ _ _ (by first | omega | (simp; done) | (simp; omega)), Below.heap_setCell _ _ _ _ (by first | omega | (simp; done) | (simp; omega)), Below.heap_setCell _ _ _ _ (by first | omega | (simp; done) | (simp; omega)), Below.heap_setCell _ _ _ _ (by first | omega | (simp; done) | (simp; omega)), Below.heap_setCell _ _ _ _ (by first | omega | (simp; done) | (simp; omega))]
    · exact (((((((((((h.setCell (p := ⟨w.heap.size + 1, 0, none⟩) (by first | omega | (simp; done) | (simp; omega)) _).setCell (p := ⟨w.heap.size + 1, 1, none⟩) (by first | omega | (simp; done) | (simp; omega)) _).setCell (p := ⟨w.heap.size + 1, 2, none⟩) (by first | omega | (simp; done) | (simp; omega)) _).setCell (p := ⟨w.heap.size + 1, 3, none⟩) (by first | omega | (simp; done) | (simp; omega)) _).setCell (p := ⟨w.heap.size + 1, 4, none⟩) (by first | omega | (simp; done) | (simp; omega)) _).setCell (p := ⟨w.heap.size + 1 + 1, 0, none⟩) (by first | omega | (simp; done) | (simp; omega)) _).setCell (p := ⟨w.heap.size + 1 + 1, 1, none⟩) (by first | omega | (simp; done) | (simp; omega)) _).setCell (p := ⟨w.heap.size + 1 + 1, 2, none⟩) (by first | omega | (simp; done) | (simp; omega)) _).setCell (p := ⟨w.heap.size + 1 + 1, 3, none⟩) (by first | omega | (simp; done) | (simp; omega)) _).setCell (p := ⟨w.heap.size + 1 + 1, 4, none⟩) (by first | omega | (simp; done) | (simp; omega)) _).setCell (p := ⟨w.heap.size + 1 + 1 + 1, 0, none⟩) (by first | omega | (simp; done) | (simp; omega)) _)

set_option maxRecDepth 100000 in
set_option maxHeartbeats 1000000 in
theorem implLit_35_1 (n : Nd) (D : Nat) (w : World) (hL : LiesD D w n) (hG : GoodD 12 n) (hk : n.kind = 35) (hbit : n.num = 1) :
    Calls Tryz.prog 14 #[n.val] w (LitPost n w) := by
  have hP := hG.pre
  obtain ⟨k, t, m, u, ao, cap, kids⟩ := n
  obtain rfl : k = 35 := hk
  have hn0 : (Nd.mk 35 t m u ao cap kids).kind ≠ 0 := by show (35 : Int) ≠ 0; decide
  have hn1 : (Nd.mk 35 t m u ao cap kids).kind ≠ 1 := by show (35 : Int) ≠ 1; decide
  have hPl := (hP.fit hn0).2.2.1
  obtain rfl : t = ⟨#[]⟩ := hPl.1 (show hasText 35 = false by decide)
  obtain rfl : m = ⟨#[]⟩ := hPl.2.2.1 (show (35 : Int) ≠ 2 by decide) (show (35 : Int) ≠ 3 by decide)
  obtain rfl : u = 1 := hbit
  have hln : kids.length = 0 := by
    have h1 := ((hP.fit hn0).2.2.2.1 hn1)
    have e1 : (fixedL 35).length = 0 := by decide
    have e2 : restL 35 = 28 := by decide
    simp only [Nd.kind, Nd.kids] at h1
    rw [e1, e2] at h1
    omega
  obtain rfl : kids = [] := List.eq_nil_of_length_eq_zero hln
  have HWN := Lib.hid (show WfN (.mk 35 ⟨#[]⟩ ⟨#[]⟩ 1 ao cap []) from ⟨D, w, hL⟩)
  have HL := Lib.hid hL
  have HG := Lib.hid hG
  have HP := Lib.hid hP
  have hu1 : 0 ≤ (1 : Int) := HWN.out.wf.2.2.2.1
  have hu2 : (1 : Int) < 18446744073709551616 := HWN.out.wf.2.2.2.2.1
  clear hL hG hP hPl hn0 hn1 hln
  show Calls _ _ #[.agg #[.int .i64 35, .string ⟨#[]⟩, .string ⟨#[]⟩, .int .u64 1, .slice ao 0 cap]] w _
  have q36 := no_36 70 (by decide)
  have q37 := no_37 70 (by decide)
  have q34 := no_34 70 (by decide)
  have q35 := yes_35
  go_enter_defers Tryz.func14, Tryz.ntmps14
  go_wp2_with fail
  have HB0 := Lib.hid (((((Below.refl w.heap.size w).alloc (Nat.le_refl _) (.cells #[.int .i64 35, .string ⟨#[]⟩, .string ⟨#[]⟩, .int .u64 1, .slice ao 0 cap] 25)).alloc (by simp) (.cells #[.int .i64 0, .string ⟨#[]⟩, .string ⟨#[]⟩, .int .u64 0, .slice none 0 0] 25)).alloc (by first | omega | (simp; done) | (simp; omega)) (.cells #[.int .i64 0, .string ⟨#[]⟩, .string ⟨#[]⟩, .int .u64 0, .slice none 0 0] 25)).alloc (by first | omega | (simp; done) | (simp; omega)) (.cells #[.bool false] 4))
  refine (un_all 12 (.mk 35 ⟨#[]⟩ ⟨#[]⟩ 1 ao cap []) D _ (HL.out.below HB0.out) HG.out).mono ?_
  rintro e w1 ⟨b, rfl, hR, hb⟩
  rw [show pTy (Nd.kind (.mk 35 ⟨#[]⟩ ⟨#[]⟩ 1 ao cap [])) = 70 from ptrTy_35]
  obtain ⟨-, cs, hbb, hs⟩ := hR
  rw [slots_35 _ rfl] at hs
  match cs, hs with
  | [v0, v1, v2, v3], ⟨e0, e1, e2, e3, _⟩ =>
    have c3 : w1.cell? ⟨b, 3, none⟩ = some (.bool true) := by rw [Lib.cell_of_heap hbb]; exact congrArg some e3
    obtain ⟨k1, f1⟩ := bblk hb (b := w.heap.size + 1) (by first | omega | (simp; done) | (simp; omega))
    obtain ⟨k2, f2⟩ := bblk hb (b := w.heap.size + 1 + 1) (by first | omega | (simp; done) | (simp; omega))
    obtain ⟨k3, f3⟩ := bblk hb (b := w.heap.size + 1 + 1 + 1) (by first | omega | (simp; done) | (simp; omega))
    have hz1 : w.heap.size + 1 + 1 + 1 < w1.heap.size := by have := hb.size; simp at this; omega
    have HBW := Lib.hid hb
    have HB1 := Lib.hid (HB0.out.trans (hb.mono HB0.out.size))
    clear hb hbb
    go_wp2_with fail
    refine (ofValue_35 _ _).mono ?_
    rintro e w2 ⟨rfl, rfl⟩
    have hR2 : RepD (fun _ => True) 1 (w1.alloc (litCells_35 true)) (.mk 35 ⟨#[]⟩ ⟨#[]⟩ 1 ao cap []) w1.heap.size := by
      refine ⟨trivial, [.pointer none, .slice none 0 0, .slice none 0 0, .bool true], ?_, ?_⟩
      · rw [show sTy (Nd.kind (.mk 35 ⟨#[]⟩ ⟨#[]⟩ 1 ao cap [])) = 73 from sTy_35]
        exact heap_alloc_new _ _
      · rw [slots_35 _ rfl]; exact ⟨rfl, rfl, rfl, rfl, trivial⟩
    have HNC := Lib.hid (show ∀ W, Below (w1.alloc (litCells_35 true)).heap.size (w1.alloc (litCells_35 true)) W → Calls Tryz.prog 36 #[.iface 70 (.pointer (some ⟨w1.heap.size, 0, none⟩))] W (NodePost (.mk 35 ⟨#[]⟩ ⟨#[]⟩ 1 ao cap []) W) from fun W hbW => by
      have h := nd_35 0 nodeC_zero 11 _ (.mk 35 ⟨#[]⟩ ⟨#[]⟩ 1 ao cap []) w1.heap.size W HP.out HWN.out (hR2.below hbW) rfl
      rw [show pTy (Nd.kind (.mk 35 ⟨#[]⟩ ⟨#[]⟩ 1 ao cap [])) = 70 from ptrTy_35] at h
      exact h)
    have hcl := lit_cell_35 true w1
    clear hR2
    go_wp2_with fail
    refine (valueOf_35 _ true _ (by rw [((Below.refl _ _).alloc (Nat.le_refl _) _).cell (p := ⟨w1.heap.size, 3, none⟩) (by simp)]; exact lit_cell_35 _ _)).mono ?_
    rintro e wv ⟨rfl, rfl⟩
    go_wp2_with fail
    have hq0 : ¬ w.heap.size = w1.heap.size := by omega
    have hq1 : ¬ w1.heap.size = w.heap.size := by omega
    have hq2 : ¬ w.heap.size + 1 = w1.heap.size := by omega
    have hq3 : ¬ w1.heap.size = w.heap.size + 1 := by omega
    have hq4 : ¬ w.heap.size + 1 + 1 = w1.heap.size := by omega
    have hq5 : ¬ w1.heap.size = w.heap.size + 1 + 1 := by omega
    have HXW : Below w.heap.size w ((w1.alloc (litCells_35 true)).alloc (.cells #[.int .i64 35, .string ⟨#[]⟩, .string ⟨#[]⟩, .int .u64 1, .slice none 0 0] 25)) := (HB1.out.alloc HB1.out.size _).alloc (by have := HB1.out.size; simp; omega) _
    have HXB := (HBW.out.alloc HBW.out.size (litCells_35 true)).alloc (by have := HBW.out.size; (try simp at this); simp; omega) (.cells #[.int .i64 35, .string ⟨#[]⟩, .string ⟨#[]⟩, .int .u64 1, .slice none 0 0] 25)
    go_region_held3 (fun w' => (w'.cell? ⟨w1.heap.size + 1, 0, none⟩ = some (.int .i64 35) ∧ w'.cell? ⟨w1.heap.size + 1, 1, none⟩ = some (.string ⟨#[]⟩) ∧ w'.cell? ⟨w1.heap.size + 1, 2, none⟩ = some (.string ⟨#[]⟩) ∧ w'.cell? ⟨w1.heap.size + 1, 3, none⟩ = some (.int .u64 1) ∧ w'.cell? ⟨w1.heap.size + 1, 4, none⟩ = some (.slice none 0 0))) (go_keep) ((go_at_call 36; refine (HNC.out _ (by first | exact (Below.refl _ _).alloc (Nat.le_refl _) _ | exact ((Below.refl _ _).alloc (Nat.le_refl _) _).drew)).mono ?_; rintro e w3 ⟨E, m1, rfl, hS, hl, hb3⟩; have HB3 : Below w.heap.size w w3 := (by first | exact HXW.trans (hb3.mono HXW.size) | exact HXW.drew.trans (hb3.mono (by have := HXW.size; simpa using this))); have hbx : Below _ _ w3 := (by first | exact HXB.trans (hb3.mono HXB.size) | exact HXB.drew.trans (hb3.mono (by have := HXB.size; simpa using this))); clear k1 k2 k3 f1 f2 f3; obtain ⟨k11, f11⟩ := bblk hbx (b := w.heap.size + 1) (by first | omega | (simp; done) | (simp; omega)); obtain ⟨k12, f12⟩ := bblk hbx (b := w.heap.size + 1 + 1) (by first | omega | (simp; done) | (simp; omega)); obtain ⟨k13, f13⟩ := bblk hbx (b := w.heap.size + 1 + 1 + 1) (by first | omega | (simp; done) | (simp; omega)); obtain ⟨k14, -⟩ := bblk hb3 (b := w1.heap.size + 1) (by first | omega | (simp; done) | (simp; omega)); have HS := Lib.hid hS; have Hl := Lib.hid hl; clear hS hl hbx))
    have HB3 := Lib.hid HB3
    go_wp2_with fail
    refine leaves_cons (f := 34) (args := #[.pointer (some ⟨w.heap.size + 1, 0, none⟩), .pointer (some ⟨w.heap.size + 1 + 1, 0, none⟩), .pointer (some ⟨w.heap.size + 1 + 1 + 1, 0, none⟩)]) (by simp) (by simp [go_sem]) ?_
    refine (lit_idle _ _ _ _).mono ?_
    rintro e u2 w4 ⟨rfl, rfl, rfl⟩
    simp [Leaves, settle, results, Tryz.results14, go_sem, k11, k12, k13]
    refine lit_stored (m2 := .mk 35 ⟨#[]⟩ ⟨#[]⟩ 1 none 0 []) HS.out Hl.out (by simp; omega) HB3.out rfl HWN.out.wf ⟨rfl, rfl, rfl, rfl, rfl, fun i x y hx _ => ?_⟩ (fun c hc => ?_) (fun h => ?_)
    · have : ([] : List Nd)[i]? = some x := hx
      simp at this
    · rw [Below.heap_setCell _ _ _ _ (by first | omega | (simp; done) | (simp; omega)), Below.heap_setCell _ _ _ _ (by first | omega | (simp; done) | (simp; omega)), Below.heap_setCell _ _ _ _ (by first | omega | (simp; done) | (simp; omega)), Below.heap_setCell _ _ _ _ (by first | omega | (simp; done) | (simp; omega)), Below.heap_setCell _ _ _ _ (by first | omega | (simp; done) | (simp; omega)), Below.heap_setCell _ _ _ _ (by first | omega | (simp; done) | (simp; omega)), Below.heap_setCell _ _ _ _ (by first | omega | (simp; done) | (simp; omega)), Below.heap_setCell _ _ _ _ (by first | omega | (simp; done) | (simp; omega)), Below.heap_setCell _ _ _ _ (by first | omega | (simp; done) | (simp; omega)), Below.heap_setCell _ _ _ _ (by first | omega | (simp; done) | (simp; omega)), Below.heap_setCell _ _ _ _ (by first | omega | (simp; done) | (simp; omega))]
    · exact (((((((((((h.setCell (p := ⟨w.heap.size + 1, 0, none⟩) (by first | omega | (simp; done) | (simp; omega)) _).setCell (p := ⟨w.heap.size + 1, 1, none⟩) (by first | omega | (simp; done) | (simp; omega)) _).setCell (p := ⟨w.heap.size + 1, 2, none⟩) (by first | omega | (simp; done) | (simp; omega)) _).setCell (p := ⟨w.heap.size + 1, 3, none⟩) (by first | omega | (simp; done) | (simp; omega)) _).setCell (p := ⟨w.heap.size + 1, 4, none⟩) (by first | omega | (simp; done) | (simp; omega)) _).setCell (p := ⟨w.heap.size + 1 + 1, 0, none⟩) (by first | omega | (simp; done) | (simp; omega)) _).setCell (p := ⟨w.heap.size + 1 + 1, 1, none⟩) (by first | omega | (simp; done) | (simp; omega)) _).setCell (p := ⟨w.heap.size + 1 + 1, 2, none⟩) (by first | omega | (simp; done) | (simp; omega)) _).setCell (p := ⟨w.heap.size + 1 + 1, 3, none⟩) (by first | omega | (simp; done) | (simp; omega)) _).setCell (p := ⟨w.heap.size + 1 + 1, 4, none⟩) (by first | omega | (simp; done) | (simp; omega)) _).setCell (p := ⟨w.heap.size + 1 + 1 + 1, 0, none⟩) (by first | omega | (simp; done) | (simp; omega)) _)

theorem implLit_any (n : Nd) (D : Nat) (w : World) (hL : LiesD D w n) (hG : GoodD 12 n) (hk : n.kind = 36 ∨ n.kind = 37 ∨ n.kind = 34 ∨ n.kind = 35) :
    Calls Tryz.prog 14 #[n.val] w (LitPost n w) := by
  rcases hk with h | h | h | h
  · exact implLit_36 n D w hL hG h
  · exact implLit_37 n D w hL hG h
  · exact implLit_34 n D w hL hG h
  · have h1 := (hG.pre.fit (by omega)).2.2.1.2.2.2.2.2.2.2.2.1 h
    have h2 : 0 ≤ n.num := (show WfN n from ⟨D, w, hL⟩).wf.2.2.2.1
    obtain h3 | h3 : n.num = 0 ∨ n.num = 1 := by omega
    · exact implLit_35_0 n D w hL hG h h3
    · exact implLit_35_1 n D w hL hG h h3
end Go.Proofs.YtongafghllkomaaGreatDoor
