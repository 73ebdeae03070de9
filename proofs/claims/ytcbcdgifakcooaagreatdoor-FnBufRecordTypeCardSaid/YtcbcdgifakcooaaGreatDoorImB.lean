/-
  impl.BufX: a tree read from a flatbuffer of its own, as a plain tree. The bytes are at most 2^30.
-/
import Derived.Test.YtcbcdgifakcooaaGreatDoorTabR
import Derived.Test.YtcbcdgifakcooaaGreatDoorRoot
import Derived.Test.YtcbcdgifakcooaaGreatDoorNdA
import Derived.Defers
import Derived.Recover
namespace Go.Proofs.YtcbcdgifakcooaaGreatDoor
open Go.RowKit
set_option linter.unusedVariables false
set_option linter.unusedSimpArgs false

theorem noNode_idle (p q : Addr) (w : World) : CallsD Tryz.prog 16 #[.pointer (some p), .pointer (some q)] .returning w fun e u' w' => u' = .returning ∧ e = .returned (.tuple #[]) ∧ w' = w := by
  refine callsD_of_wpS Tryz.func16 rfl fun c₀ cs hu => ?_
  apply wpS_seq
  apply wpS_region
  simp [wpOpsS, go_sem, recoverD, hu, Tryz.ntmps16, Exit.thenS]
  refine wpS_cond (t := false) (by simp [Act.eval, Array.replicate]) ?_
  simp only [Bool.false_eq_true, if_false]
  refine wpS_of_wp (wp_skip ?_)
  cases c₀
  simp_all [bodyPostS, results, Tryz.results16]

/-- What impl.BufX hands back: the tree as it was. -/
def BufPost (n : Nd) (w : World) (e : Ending) (w' : World) : Prop :=
  ∃ (D : Nat) (m : Nd), e = .returned (.tuple #[.agg #[.int .i64 m.kind, .string m.text, .string m.more, .int .u64 m.num, .slice m.ao m.kids.length m.cap], .bool true]) ∧ SameD D n m ∧ LiesD D w' m ∧ Below w.heap.size w w'

theorem buf_lies {w w3 W : World} {m : Nd} {E B : Nat} (hl : LiesIn (From B) E w3 m) (hB : w.heap.size + 1 < B) (hst : ∀ b, w.heap.size + 1 < b → W.heap[b]? = w3.heap[b]?) : LiesD E W m :=
  (hl.carry (A' := From B) (fun b o hA ho => ⟨by rw [hst b (by unfold From at hA; omega)]; exact ho, hA⟩)).lies

theorem bufIn_own {w : World} {K g n cap : Nat} {B : By} (h : w.ownsRow K 5 1 (.slice (some ⟨g, 0, none⟩) n cap) n (bytesV B)) : BufIn w g B := by
  intro i x hx
  have hc := h.cells (g := g) rfl i (.int .u8 (x.toNat : Int)) (by unfold bytesV; rw [List.getElem?_map, hx]; rfl)
  have e : (⟨g, 0, none⟩ : Addr).add i = ⟨g, i, none⟩ := by unfold Addr.add; split <;> simp_all
  rw [e] at hc
  exact hc

theorem own_empty (W : World) (K : Nat) (h : K ≤ W.heap.size) : (W.alloc (.cells #[] 5)).ownsRow K 5 1 (.slice (some ⟨W.heap.size, 0, none⟩) 0 0) 0 [] :=
  World.ownsRow_made W #[] 0 h (by decide) rfl

theorem own_room {w : World} {K g n cap : Nat} {xs : List Value} (h : w.ownsRow K 5 1 (.slice (some ⟨g, 0, none⟩) n cap) n xs) : n ≤ cap := by
  rcases h.2 with ⟨hv, _⟩ | ⟨g', cap', cur, hv, hb, hg, h1, _⟩
  · cases hv
  · cases hv
    exact h1

set_option maxHeartbeats 1000000 in
set_option maxRecDepth 100000 in
theorem implArrayType (n : Nd) (Q : World → Nat → Prop) (B : By) (p : Nat) (hl : B.length ≤ 1073000000) (h4 : 4 ≤ B.length) (hd : leAt B 0 4 = p) (hp : p < B.length)
    (hFrom : ∀ (W : World) (tb rb1 cap1 : Nat), TabIn W tb 0 rb1 cap1 B p → Calls Tryz.prog 18 #[.agg #[.pointer none, .slice none 0 0, .slice none 0 0, .nilIface], .pointer (some ⟨tb, 0, none⟩)] W fun e w' => ∃ k, e = .returned (.pointer (some ⟨k, 0, none⟩)) ∧ Q w' k ∧ Below W.heap.size W w')
    (hNode : ∀ (b : Nat) (W : World), Q W b → Calls Tryz.prog 17 #[.iface 38 (.pointer (some ⟨b, 0, none⟩))] W (NodePost n W))
    (w : World) (rb cap K : Nat) (hown : w.ownsRow K 5 1 (.slice (some ⟨rb, 0, none⟩) B.length cap) B.length (bytesV B)) :
    Calls Tryz.prog 8 #[.slice (some ⟨rb, 0, none⟩) B.length cap] w (BufPost n w) := by
  have HOW := Lib.hid hown
  have hrl : rb < w.heap.size := (hown.lt rb rfl).2
  have HD := Lib.hid hd
  have HF := Lib.hid hFrom
  have HN := Lib.hid hNode
  obtain ⟨i0, hi, hiz, his, hib⟩ := info_parts' infoByte'
  clear hown hd hFrom hNode
  go_enter_defers Tryz.func8, Tryz.ntmps8
  go_upto_region 2 with fail
  have hcN : ∀ j, ((w.alloc (.cells #[.int .i64 0, .string ⟨#[]⟩, .string ⟨#[]⟩, .int .u64 0, .slice none 0 0] 25)).alloc (.cells #[.bool false] 4)).cell? ⟨w.heap.size, j, none⟩ = (#[.int .i64 0, .string ⟨#[]⟩, .string ⟨#[]⟩, .int .u64 0, .slice none 0 0] : Array Value)[j]? := fun j => (World.cell?_of_block (Below.heap_alloc _ _ _ (by simp))).trans (World.cell?_alloc_at _ _ _ _ rfl)
  have hcO : ∀ j, ((w.alloc (.cells #[.int .i64 0, .string ⟨#[]⟩, .string ⟨#[]⟩, .int .u64 0, .slice none 0 0] 25)).alloc (.cells #[.bool false] 4)).cell? ⟨w.heap.size + 1, j, none⟩ = (#[.bool false] : Array Value)[j]? := fun j => World.cell?_alloc_at _ _ _ _ (by simp)
  have hfN : ∀ j, ((w.alloc (.cells #[.int .i64 0, .string ⟨#[]⟩, .string ⟨#[]⟩, .int .u64 0, .slice none 0 0] 25)).alloc (.cells #[.bool false] 4)).frozen? ⟨w.heap.size, j, none⟩ = false := fun j => (World.frozen?_of_block (Below.heap_alloc _ _ _ (by simp))).trans (World.frozen?_alloc_at _ _ _ _ rfl)
  have hfO : ∀ j, ((w.alloc (.cells #[.int .i64 0, .string ⟨#[]⟩, .string ⟨#[]⟩, .int .u64 0, .slice none 0 0] 25)).alloc (.cells #[.bool false] 4)).frozen? ⟨w.heap.size + 1, j, none⟩ = false := fun j => World.frozen?_alloc_at _ _ _ _ (by simp)
  have hUs : ((w.alloc (.cells #[.int .i64 0, .string ⟨#[]⟩, .string ⟨#[]⟩, .int .u64 0, .slice none 0 0] 25)).alloc (.cells #[.bool false] 4)).heap.size = w.heap.size + 1 + 1 := by simp
  have hBU : Below w.heap.size w ((w.alloc (.cells #[.int .i64 0, .string ⟨#[]⟩, .string ⟨#[]⟩, .int .u64 0, .slice none 0 0] 25)).alloc (.cells #[.bool false] 4)) := ((Below.refl _ _).alloc (Nat.le_refl _) _).alloc (by simp) _
  have HBU := Lib.hid hBU
  generalize ((w.alloc (.cells #[.int .i64 0, .string ⟨#[]⟩, .string ⟨#[]⟩, .int .u64 0, .slice none 0 0] 25)).alloc (.cells #[.bool false] 4)) = V at *
  have hrl2 : rb < V.heap.size := by omega
  have HOE := Lib.hid (own_empty V (w.heap.size + 1 + 1) (by omega))
  have HSRC : Hid (∀ j u, (bytesV B)[j]? = some u → (V.alloc (.cells #[] 5)).cell? ((⟨rb, 0, none⟩ : Addr).add j) = some u) := Lib.hid fun j u hj => by
    have e : (⟨rb, 0, none⟩ : Addr).add j = ⟨rb, j, none⟩ := by unfold Addr.add; split <;> simp_all
    have hc := HOW.out.cells (g := rb) rfl j u hj
    rw [e] at hc ⊢
    exact ((World.cell?_of_block (Below.heap_alloc V _ rb hrl2)).trans (HBU.out.cell (p := ⟨rb, j, none⟩) hrl)).trans hc
  have HUS := Lib.hid hUs
  have HCN := Lib.hid hcN
  have HCO := Lib.hid hcO
  have HFN := Lib.hid hfN
  have HFO := Lib.hid hfO
  clear hcN hcO hfN hfO hUs hBU
  go_wp2_with (at_builtin; refine wpList_append_lies _ rfl _ _ 30 rfl (w.heap.size + 1 + 1) 5 i0 (.int .u8 0) 1 1 Tryz.underlying30 hi hiz his hib rfl (by decide) (.slice (some ⟨V.heap.size, 0, none⟩) 0 0) 0 [] rfl HOE.out ⟨rb, 0, none⟩ B.length cap (bytesV B) rfl (by rw [bytesV_length, Nat.mul_one]) HSRC.out (bytesV_one B) (by omega) (by unfold maxLen; omega) (by omega) (by have := HUS.out; simp; omega) _ rfl ?_; intro g cap' w4 HO4 HG4 HR4 hlt4)
  have hB4 : BufIn w4 g B := by
    intro i x hx
    have hc := HO4.cells (g := g) rfl i (.int .u8 (x.toNat : Int)) (by rw [List.nil_append]; unfold bytesV; rw [List.getElem?_map, hx]; rfl)
    have e : (⟨g, 0, none⟩ : Addr).add i = ⟨g, i, none⟩ := by unfold Addr.add; split <;> simp_all
    rw [e] at hc
    exact hc
  have hrm := own_room HO4
  have hbV4 : Below V.heap.size V w4 := ((Below.refl V.heap.size V).alloc (Nat.le_refl _) (.cells #[] 5)).grown HG4 (by simp) (fun r hr => by cases hr; exact Nat.le_refl _)
  have HBV4 := Lib.hid hbV4
  have HG44 := Lib.hid HG4
  clear hbV4 HG4 HR4 hlt4 HO4
  refine (root_ArrayType g cap' p B HD.out (by omega) h4 hp (by omega) w4 hB4).mono ?_
  rintro e w5 ⟨k5, rfl, hk5, hT5, hb5⟩
  have HT5 := Lib.hid hT5
  have HBV5 := Lib.hid (HBV4.out.trans (hb5.mono HBV4.out.size))
  clear hT5 hb5 hB4 hk5
  go_wp2_with fail
  refine (HF.out w5 k5 g cap' HT5.out).mono ?_
  rintro e w6 ⟨k6, rfl, hR6, hb6⟩
  have HR6 := Lib.hid hR6
  have HBV6 := Lib.hid (HBV5.out.trans (hb6.mono HBV5.out.size))
  clear hR6 hb6
  go_wp2_with fail
  refine (HN.out k6 w6 HR6.out).mono ?_
  rintro e w7 ⟨D, m, rfl, hS, hl7, hb7⟩
  have HS := Lib.hid hS
  have HL7 := Lib.hid hl7
  have HBV7 := Lib.hid (HBV6.out.trans (hb7.mono HBV6.out.size))
  have hz7 : w.heap.size + 1 < w6.heap.size := by have := HUS.out; have := HBV6.out.size; omega
  have kn := (belBlk HBV7.out (b := w.heap.size) (by have := HUS.out; omega))
  have ko := (belBlk HBV7.out (b := w.heap.size + 1) (by have := HUS.out; omega))
  have n0 := (kn.1 0).trans (HCN.out 0)
  have n1 := (kn.1 1).trans (HCN.out 1)
  have n2 := (kn.1 2).trans (HCN.out 2)
  have n3 := (kn.1 3).trans (HCN.out 3)
  have n4 := (kn.1 4).trans (HCN.out 4)
  have o0 := (ko.1 0).trans (HCO.out 0)
  have g0 := (kn.2 0).trans (HFN.out 0)
  have g1 := (kn.2 1).trans (HFN.out 1)
  have g2 := (kn.2 2).trans (HFN.out 2)
  have g3 := (kn.2 3).trans (HFN.out 3)
  have g4 := (kn.2 4).trans (HFN.out 4)
  have q0 := (ko.2 0).trans (HFO.out 0)
  clear hS hl7 hb7 kn ko
  go_wp2_with fail
  refine leaves_cons (f := 16) (args := #[.pointer (some ⟨w.heap.size, 0, none⟩), .pointer (some ⟨w.heap.size + 1, 0, none⟩)]) (by simp) (by simp [go_sem]) ?_
  refine (noNode_idle _ _ _).mono ?_
  rintro e u2 w8 ⟨rfl, rfl, rfl⟩
  simp [Leaves, settle, results, Tryz.results8, go_sem, n0, n1, n2, n3, n4, o0]
  refine ⟨D, m, rfl, HS.out, buf_lies HL7.out hz7 (fun c hc => ?_), ?_⟩
  · rw [Below.heap_setCell _ _ _ _ (by first | omega | (simp; done) | (simp; omega)), Below.heap_setCell _ _ _ _ (by first | omega | (simp; done) | (simp; omega)), Below.heap_setCell _ _ _ _ (by first | omega | (simp; done) | (simp; omega)), Below.heap_setCell _ _ _ _ (by first | omega | (simp; done) | (simp; omega)), Below.heap_setCell _ _ _ _ (by first | omega | (simp; done) | (simp; omega)), Below.heap_setCell _ _ _ _ (by first | omega | (simp; done) | (simp; omega))]
  · exact ((((((HBU.out.trans (HBV7.out.mono HBU.out.size)).setCell (p := ⟨w.heap.size, 0, none⟩) (by first | omega | (simp; done) | (simp; omega)) _).setCell (p := ⟨w.heap.size, 1, none⟩) (by first | omega | (simp; done) | (simp; omega)) _).setCell (p := ⟨w.heap.size, 2, none⟩) (by first | omega | (simp; done) | (simp; omega)) _).setCell (p := ⟨w.heap.size, 3, none⟩) (by first | omega | (simp; done) | (simp; omega)) _).setCell (p := ⟨w.heap.size, 4, none⟩) (by first | omega | (simp; done) | (simp; omega)) _).setCell (p := ⟨w.heap.size + 1, 0, none⟩) (by first | omega | (simp; done) | (simp; omega)) _

set_option maxHeartbeats 1000000 in
set_option maxRecDepth 100000 in
theorem implFunctionType (n : Nd) (Q : World → Nat → Prop) (B : By) (p : Nat) (hl : B.length ≤ 1073000000) (h4 : 4 ≤ B.length) (hd : leAt B 0 4 = p) (hp : p < B.length)
    (hFrom : ∀ (W : World) (tb rb1 cap1 : Nat), TabIn W tb 0 rb1 cap1 B p → Calls Tryz.prog 23 #[.agg #[.pointer none, .slice none 0 0, .slice none 0 0, .slice none 0 0, .nilIface], .pointer (some ⟨tb, 0, none⟩)] W fun e w' => ∃ k, e = .returned (.pointer (some ⟨k, 0, none⟩)) ∧ Q w' k ∧ Below W.heap.size W w')
    (hNode : ∀ (b : Nat) (W : World), Q W b → Calls Tryz.prog 17 #[.iface 59 (.pointer (some ⟨b, 0, none⟩))] W (NodePost n W))
    (w : World) (rb cap K : Nat) (hown : w.ownsRow K 5 1 (.slice (some ⟨rb, 0, none⟩) B.length cap) B.length (bytesV B)) :
    Calls Tryz.prog 11 #[.slice (some ⟨rb, 0, none⟩) B.length cap] w (BufPost n w) := by
  have HOW := Lib.hid hown
  have hrl : rb < w.heap.size := (hown.lt rb rfl).2
  have HD := Lib.hid hd
  have HF := Lib.hid hFrom
  have HN := Lib.hid hNode
  obtain ⟨i0, hi, hiz, his, hib⟩ := info_parts' infoByte'
  clear hown hd hFrom hNode
  go_enter_defers Tryz.func11, Tryz.ntmps11
  go_upto_region 2 with fail
  have hcN : ∀ j, ((w.alloc (.cells #[.int .i64 0, .string ⟨#[]⟩, .string ⟨#[]⟩, .int .u64 0, .slice none 0 0] 25)).alloc (.cells #[.bool false] 4)).cell? ⟨w.heap.size, j, none⟩ = (#[.int .i64 0, .string ⟨#[]⟩, .string ⟨#[]⟩, .int .u64 0, .slice none 0 0] : Array Value)[j]? := fun j => (World.cell?_of_block (Below.heap_alloc _ _ _ (by simp))).trans (World.cell?_alloc_at _ _ _ _ rfl)
  have hcO : ∀ j, ((w.alloc (.cells #[.int .i64 0, .string ⟨#[]⟩, .string ⟨#[]⟩, .int .u64 0, .slice none 0 0] 25)).alloc (.cells #[.bool false] 4)).cell? ⟨w.heap.size + 1, j, none⟩ = (#[.bool false] : Array Value)[j]? := fun j => World.cell?_alloc_at _ _ _ _ (by simp)
  have hfN : ∀ j, ((w.alloc (.cells #[.int .i64 0, .string ⟨#[]⟩, .string ⟨#[]⟩, .int .u64 0, .slice none 0 0] 25)).alloc (.cells #[.bool false] 4)).frozen? ⟨w.heap.size, j, none⟩ = false := fun j => (World.frozen?_of_block (Below.heap_alloc _ _ _ (by simp))).trans (World.frozen?_alloc_at _ _ _ _ rfl)
  have hfO : ∀ j, ((w.alloc (.cells #[.int .i64 0, .string ⟨#[]⟩, .string ⟨#[]⟩, .int .u64 0, .slice none 0 0] 25)).alloc (.cells #[.bool false] 4)).frozen? ⟨w.heap.size + 1, j, none⟩ = false := fun j => World.frozen?_alloc_at _ _ _ _ (by simp)
  have hUs : ((w.alloc (.cells #[.int .i64 0, .string ⟨#[]⟩, .string ⟨#[]⟩, .int .u64 0, .slice none 0 0] 25)).alloc (.cells #[.bool false] 4)).heap.size = w.heap.size + 1 + 1 := by simp
  have hBU : Below w.heap.size w ((w.alloc (.cells #[.int .i64 0, .string ⟨#[]⟩, .string ⟨#[]⟩, .int .u64 0, .slice none 0 0] 25)).alloc (.cells #[.bool false] 4)) := ((Below.refl _ _).alloc (Nat.le_refl _) _).alloc (by simp) _
  have HBU := Lib.hid hBU
  generalize ((w.alloc (.cells #[.int .i64 0, .string ⟨#[]⟩, .string ⟨#[]⟩, .int .u64 0, .slice none 0 0] 25)).alloc (.cells #[.bool false] 4)) = V at *
  have hrl2 : rb < V.heap.size := by omega
  have HOE := Lib.hid (own_empty V (w.heap.size + 1 + 1) (by omega))
  have HSRC : Hid (∀ j u, (bytesV B)[j]? = some u → (V.alloc (.cells #[] 5)).cell? ((⟨rb, 0, none⟩ : Addr).add j) = some u) := Lib.hid fun j u hj => by
    have e : (⟨rb, 0, none⟩ : Addr).add j = ⟨rb, j, none⟩ := by unfold Addr.add; split <;> simp_all
    have hc := HOW.out.cells (g := rb) rfl j u hj
    rw [e] at hc ⊢
    exact ((World.cell?_of_block (Below.heap_alloc V _ rb hrl2)).trans (HBU.out.cell (p := ⟨rb, j, none⟩) hrl)).trans hc
  have HUS := Lib.hid hUs
  have HCN := Lib.hid hcN
  have HCO := Lib.hid hcO
  have HFN := Lib.hid hfN
  have HFO := Lib.hid hfO
  clear hcN hcO hfN hfO hUs hBU
  go_wp2_with (at_builtin; refine wpList_append_lies _ rfl _ _ 30 rfl (w.heap.size + 1 + 1) 5 i0 (.int .u8 0) 1 1 Tryz.underlying30 hi hiz his hib rfl (by decide) (.slice (some ⟨V.heap.size, 0, none⟩) 0 0) 0 [] rfl HOE.out ⟨rb, 0, none⟩ B.length cap (bytesV B) rfl (by rw [bytesV_length, Nat.mul_one]) HSRC.out (bytesV_one B) (by omega) (by unfold maxLen; omega) (by omega) (by have := HUS.out; simp; omega) _ rfl ?_; intro g cap' w4 HO4 HG4 HR4 hlt4)
  have hB4 : BufIn w4 g B := by
    intro i x hx
    have hc := HO4.cells (g := g) rfl i (.int .u8 (x.toNat : Int)) (by rw [List.nil_append]; unfold bytesV; rw [List.getElem?_map, hx]; rfl)
    have e : (⟨g, 0, none⟩ : Addr).add i = ⟨g, i, none⟩ := by unfold Addr.add; split <;> simp_all
    rw [e] at hc
    exact hc
  have hrm := own_room HO4
  have hbV4 : Below V.heap.size V w4 := ((Below.refl V.heap.size V).alloc (Nat.le_refl _) (.cells #[] 5)).grown HG4 (by simp) (fun r hr => by cases hr; exact Nat.le_refl _)
  have HBV4 := Lib.hid hbV4
  have HG44 := Lib.hid HG4
  clear hbV4 HG4 HR4 hlt4 HO4
  refine (root_FunctionType g cap' p B HD.out (by omega) h4 hp (by omega) w4 hB4).mono ?_
  rintro e w5 ⟨k5, rfl, hk5, hT5, hb5⟩
  have HT5 := Lib.hid hT5
  have HBV5 := Lib.hid (HBV4.out.trans (hb5.mono HBV4.out.size))
  clear hT5 hb5 hB4 hk5
  go_wp2_with fail
  refine (HF.out w5 k5 g cap' HT5.out).mono ?_
  rintro e w6 ⟨k6, rfl, hR6, hb6⟩
  have HR6 := Lib.hid hR6
  have HBV6 := Lib.hid (HBV5.out.trans (hb6.mono HBV5.out.size))
  clear hR6 hb6
  go_wp2_with fail
  refine (HN.out k6 w6 HR6.out).mono ?_
  rintro e w7 ⟨D, m, rfl, hS, hl7, hb7⟩
  have HS := Lib.hid hS
  have HL7 := Lib.hid hl7
  have HBV7 := Lib.hid (HBV6.out.trans (hb7.mono HBV6.out.size))
  have hz7 : w.heap.size + 1 < w6.heap.size := by have := HUS.out; have := HBV6.out.size; omega
  have kn := (belBlk HBV7.out (b := w.heap.size) (by have := HUS.out; omega))
  have ko := (belBlk HBV7.out (b := w.heap.size + 1) (by have := HUS.out; omega))
  have n0 := (kn.1 0).trans (HCN.out 0)
  have n1 := (kn.1 1).trans (HCN.out 1)
  have n2 := (kn.1 2).trans (HCN.out 2)
  have n3 := (kn.1 3).trans (HCN.out 3)
  have n4 := (kn.1 4).trans (HCN.out 4)
  have o0 := (ko.1 0).trans (HCO.out 0)
  have g0 := (kn.2 0).trans (HFN.out 0)
  have g1 := (kn.2 1).trans (HFN.out 1)
  have g2 := (kn.2 2).trans (HFN.out 2)
  have g3 := (kn.2 3).trans (HFN.out 3)
  have g4 := (kn.2 4).trans (HFN.out 4)
  have q0 := (ko.2 0).trans (HFO.out 0)
  clear hS hl7 hb7 kn ko
  go_wp2_with fail
  refine leaves_cons (f := 16) (args := #[.pointer (some ⟨w.heap.size, 0, none⟩), .pointer (some ⟨w.heap.size + 1, 0, none⟩)]) (by simp) (by simp [go_sem]) ?_
  refine (noNode_idle _ _ _).mono ?_
  rintro e u2 w8 ⟨rfl, rfl, rfl⟩
  simp [Leaves, settle, results, Tryz.results11, go_sem, n0, n1, n2, n3, n4, o0]
  refine ⟨D, m, rfl, HS.out, buf_lies HL7.out hz7 (fun c hc => ?_), ?_⟩
  · rw [Below.heap_setCell _ _ _ _ (by first | omega | (simp; done) | (simp; omega)), Below.heap_setCell _ _ _ _ (by first | omega | (simp; done) | (simp; omega)), Below.heap_setCell _ _ _ _ (by first | omega | (simp; done) | (simp; omega)), Below.heap_setCell _ _ _ _ (by first | omega | (simp; done) | (simp; omega)), Below.heap_setCell _ _ _ _ (by first | omega | (simp; done) | (simp; omega)), Below.heap_setCell _ _ _ _ (by first | omega | (simp; done) | (simp; omega))]
  · exact ((((((HBU.out.trans (HBV7.out.mono HBU.out.size)).setCell (p := ⟨w.heap.size, 0, none⟩) (by first | omega | (simp; done) | (simp; omega)) _).setCell (p := ⟨w.heap.size, 1, none⟩) (by first | omega | (simp; done) | (simp; omega)) _).setCell (p := ⟨w.heap.size, 2, none⟩) (by first | omega | (simp; done) | (simp; omega)) _).setCell (p := ⟨w.heap.size, 3, none⟩) (by first | omega | (simp; done) | (simp; omega)) _).setCell (p := ⟨w.heap.size, 4, none⟩) (by first | omega | (simp; done) | (simp; omega)) _).setCell (p := ⟨w.heap.size + 1, 0, none⟩) (by first | omega | (simp; done) | (simp; omega)) _

set_option maxHeartbeats 1000000 in
set_option maxRecDepth 100000 in
theorem implRecordType (n : Nd) (Q : World → Nat → Prop) (B : By) (p : Nat) (hl : B.length ≤ 1073000000) (h4 : 4 ≤ B.length) (hd : leAt B 0 4 = p) (hp : p < B.length)
    (hFrom : ∀ (W : World) (tb rb1 cap1 : Nat), TabIn W tb 0 rb1 cap1 B p → Calls Tryz.prog 25 #[.agg #[.pointer none, .slice none 0 0, .slice none 0 0, .slice none 0 0, .pointer none], .pointer (some ⟨tb, 0, none⟩)] W fun e w' => ∃ k, e = .returned (.pointer (some ⟨k, 0, none⟩)) ∧ Q w' k ∧ Below W.heap.size W w')
    (hNode : ∀ (b : Nat) (W : World), Q W b → Calls Tryz.prog 17 #[.iface 66 (.pointer (some ⟨b, 0, none⟩))] W (NodePost n W))
    (w : World) (rb cap K : Nat) (hown : w.ownsRow K 5 1 (.slice (some ⟨rb, 0, none⟩) B.length cap) B.length (bytesV B)) :
    Calls Tryz.prog 12 #[.slice (some ⟨rb, 0, none⟩) B.length cap] w (BufPost n w) := by
  have HOW := Lib.hid hown
  have hrl : rb < w.heap.size := (hown.lt rb rfl).2
  have HD := Lib.hid hd
  have HF := Lib.hid hFrom
  have HN := Lib.hid hNode
  obtain ⟨i0, hi, hiz, his, hib⟩ := info_parts' infoByte'
  clear hown hd hFrom hNode
  go_enter_defers Tryz.func12, Tryz.ntmps12
  go_upto_region 2 with fail
  have hcN : ∀ j, ((w.alloc (.cells #[.int .i64 0, .string ⟨#[]⟩, .string ⟨#[]⟩, .int .u64 0, .slice none 0 0] 25)).alloc (.cells #[.bool false] 4)).cell? ⟨w.heap.size, j, none⟩ = (#[.int .i64 0, .string ⟨#[]⟩, .string ⟨#[]⟩, .int .u64 0, .slice none 0 0] : Array Value)[j]? := fun j => (World.cell?_of_block (Below.heap_alloc _ _ _ (by simp))).trans (World.cell?_alloc_at _ _ _ _ rfl)
  have hcO : ∀ j, ((w.alloc (.cells #[.int .i64 0, .string ⟨#[]⟩, .string ⟨#[]⟩, .int .u64 0, .slice none 0 0] 25)).alloc (.cells #[.bool false] 4)).cell? ⟨w.heap.size + 1, j, none⟩ = (#[.bool false] : Array Value)[j]? := fun j => World.cell?_alloc_at _ _ _ _ (by simp)
  have hfN : ∀ j, ((w.alloc (.cells #[.int .i64 0, .string ⟨#[]⟩, .string ⟨#[]⟩, .int .u64 0, .slice none 0 0] 25)).alloc (.cells #[.bool false] 4)).frozen? ⟨w.heap.size, j, none⟩ = false := fun j => (World.frozen?_of_block (Below.heap_alloc _ _ _ (by simp))).trans (World.frozen?_alloc_at _ _ _ _ rfl)
  have hfO : ∀ j, ((w.alloc (.cells #[.int .i64 0, .string ⟨#[]⟩, .string ⟨#[]⟩, .int .u64 0, .slice none 0 0] 25)).alloc (.cells #[.bool false] 4)).frozen? ⟨w.heap.size + 1, j, none⟩ = false := fun j => World.frozen?_alloc_at _ _ _ _ (by simp)
  have hUs : ((w.alloc (.cells #[.int .i64 0, .string ⟨#[]⟩, .string ⟨#[]⟩, .int .u64 0, .slice none 0 0] 25)).alloc (.cells #[.bool false] 4)).heap.size = w.heap.size + 1 + 1 := by simp
  have hBU : Below w.heap.size w ((w.alloc (.cells #[.int .i64 0, .string ⟨#[]⟩, .string ⟨#[]⟩, .int .u64 0, .slice none 0 0] 25)).alloc (.cells #[.bool false] 4)) := ((Below.refl _ _).alloc (Nat.le_refl _) _).alloc (by simp) _
  have HBU := Lib.hid hBU
  generalize ((w.alloc (.cells #[.int .i64 0, .string ⟨#[]⟩, .string ⟨#[]⟩, .int .u64 0, .slice none 0 0] 25)).alloc (.cells #[.bool false] 4)) = V at *
  have hrl2 : rb < V.heap.size := by omega
  have HOE := Lib.hid (own_empty V (w.heap.size + 1 + 1) (by omega))
  have HSRC : Hid (∀ j u, (bytesV B)[j]? = some u → (V.alloc (.cells #[] 5)).cell? ((⟨rb, 0, none⟩ : Addr).add j) = some u) := Lib.hid fun j u hj => by
    have e : (⟨rb, 0, none⟩ : Addr).add j = ⟨rb, j, none⟩ := by unfold Addr.add; split <;> simp_all
    have hc := HOW.out.cells (g := rb) rfl j u hj
    rw [e] at hc ⊢
    exact ((World.cell?_of_block (Below.heap_alloc V _ rb hrl2)).trans (HBU.out.cell (p := ⟨rb, j, none⟩) hrl)).trans hc
  have HUS := Lib.hid hUs
  have HCN := Lib.hid hcN
  have HCO := Lib.hid hcO
  have HFN := Lib.hid hfN
  have HFO := Lib.hid hfO
  clear hcN hcO hfN hfO hUs hBU
  go_wp2_with (at_builtin; refine wpList_append_lies _ rfl _ _ 30 rfl (w.heap.size + 1 + 1) 5 i0 (.int .u8 0) 1 1 Tryz.underlying30 hi hiz his hib rfl (by decide) (.slice (some ⟨V.heap.size, 0, none⟩) 0 0) 0 [] rfl HOE.out ⟨rb, 0, none⟩ B.length cap (bytesV B) rfl (by rw [bytesV_length, Nat.mul_one]) HSRC.out (bytesV_one B) (by omega) (by unfold maxLen; omega) (by omega) (by have := HUS.out; simp; omega) _ rfl ?_; intro g cap' w4 HO4 HG4 HR4 hlt4)
  have hB4 : BufIn w4 g B := by
    intro i x hx
    have hc := HO4.cells (g := g) rfl i (.int .u8 (x.toNat : Int)) (by rw [List.nil_append]; unfold bytesV; rw [List.getElem?_map, hx]; rfl)
    have e : (⟨g, 0, none⟩ : Addr).add i = ⟨g, i, none⟩ := by unfold Addr.add; split <;> simp_all
    rw [e] at hc
    exact hc
  have hrm := own_room HO4
  have hbV4 : Below V.heap.size V w4 := ((Below.refl V.heap.size V).alloc (Nat.le_refl _) (.cells #[] 5)).grown HG4 (by simp) (fun r hr => by cases hr; exact Nat.le_refl _)
  have HBV4 := Lib.hid hbV4
  have HG44 := Lib.hid HG4
  clear hbV4 HG4 HR4 hlt4 HO4
  refine (root_RecordType g cap' p B HD.out (by omega) h4 hp (by omega) w4 hB4).mono ?_
  rintro e w5 ⟨k5, rfl, hk5, hT5, hb5⟩
  have HT5 := Lib.hid hT5
  have HBV5 := Lib.hid (HBV4.out.trans (hb5.mono HBV4.out.size))
  clear hT5 hb5 hB4 hk5
  go_wp2_with fail
  refine (HF.out w5 k5 g cap' HT5.out).mono ?_
  rintro e w6 ⟨k6, rfl, hR6, hb6⟩
  have HR6 := Lib.hid hR6
  have HBV6 := Lib.hid (HBV5.out.trans (hb6.mono HBV5.out.size))
  clear hR6 hb6
  go_wp2_with fail
  refine (HN.out k6 w6 HR6.out).mono ?_
  rintro e w7 ⟨D, m, rfl, hS, hl7, hb7⟩
  have HS := Lib.hid hS
  have HL7 := Lib.hid hl7
  have HBV7 := Lib.hid (HBV6.out.trans (hb7.mono HBV6.out.size))
  have hz7 : w.heap.size + 1 < w6.heap.size := by have := HUS.out; have := HBV6.out.size; omega
  have kn := (belBlk HBV7.out (b := w.heap.size) (by have := HUS.out; omega))
  have ko := (belBlk HBV7.out (b := w.heap.size + 1) (by have := HUS.out; omega))
  have n0 := (kn.1 0).trans (HCN.out 0)
  have n1 := (kn.1 1).trans (HCN.out 1)
  have n2 := (kn.1 2).trans (HCN.out 2)
  have n3 := (kn.1 3).trans (HCN.out 3)
  have n4 := (kn.1 4).trans (HCN.out 4)
  have o0 := (ko.1 0).trans (HCO.out 0)
  have g0 := (kn.2 0).trans (HFN.out 0)
  have g1 := (kn.2 1).trans (HFN.out 1)
  have g2 := (kn.2 2).trans (HFN.out 2)
  have g3 := (kn.2 3).trans (HFN.out 3)
  have g4 := (kn.2 4).trans (HFN.out 4)
  have q0 := (ko.2 0).trans (HFO.out 0)
  clear hS hl7 hb7 kn ko
  go_wp2_with fail
  refine leaves_cons (f := 16) (args := #[.pointer (some ⟨w.heap.size, 0, none⟩), .pointer (some ⟨w.heap.size + 1, 0, none⟩)]) (by simp) (by simp [go_sem]) ?_
  refine (noNode_idle _ _ _).mono ?_
  rintro e u2 w8 ⟨rfl, rfl, rfl⟩
  simp [Leaves, settle, results, Tryz.results12, go_sem, n0, n1, n2, n3, n4, o0]
  refine ⟨D, m, rfl, HS.out, buf_lies HL7.out hz7 (fun c hc => ?_), ?_⟩
  · rw [Below.heap_setCell _ _ _ _ (by first | omega | (simp; done) | (simp; omega)), Below.heap_setCell _ _ _ _ (by first | omega | (simp; done) | (simp; omega)), Below.heap_setCell _ _ _ _ (by first | omega | (simp; done) | (simp; omega)), Below.heap_setCell _ _ _ _ (by first | omega | (simp; done) | (simp; omega)), Below.heap_setCell _ _ _ _ (by first | omega | (simp; done) | (simp; omega)), Below.heap_setCell _ _ _ _ (by first | omega | (simp; done) | (simp; omega))]
  · exact ((((((HBU.out.trans (HBV7.out.mono HBU.out.size)).setCell (p := ⟨w.heap.size, 0, none⟩) (by first | omega | (simp; done) | (simp; omega)) _).setCell (p := ⟨w.heap.size, 1, none⟩) (by first | omega | (simp; done) | (simp; omega)) _).setCell (p := ⟨w.heap.size, 2, none⟩) (by first | omega | (simp; done) | (simp; omega)) _).setCell (p := ⟨w.heap.size, 3, none⟩) (by first | omega | (simp; done) | (simp; omega)) _).setCell (p := ⟨w.heap.size, 4, none⟩) (by first | omega | (simp; done) | (simp; omega)) _).setCell (p := ⟨w.heap.size + 1, 0, none⟩) (by first | omega | (simp; done) | (simp; omega)) _

end Go.Proofs.YtcbcdgifakcooaaGreatDoor
