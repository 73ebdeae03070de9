/-
  impl.GetProperty: the value of the first property of a key, as a plain tree. No conditions.
-/
import Derived.Test.YtongafghllkomaaGreatDoorGetP
import Derived.Test.YtongafghllkomaaGreatDoorOrNone
import Derived.Defers
import Derived.Recover
namespace Go.Proofs.YtongafghllkomaaGreatDoor
open Go.RowKit
set_option linter.unusedVariables false

theorem val_good {n p x y : Nd} {j : Nat} (hG : GoodD 12 n) (hk : n.kind = 28) (hj : 0 < j) (hp : n.kids[j]? = some p) (hxy : p.kids = [x, y]) (hy : y.kind ≠ 0) (hW : WfN n) : GoodW 10 y := by
  obtain ⟨hkp, -⟩ := (props_of hG hk).2.2 j p hj hp
  obtain ⟨hPp, -⟩ := hG.pre.kid (i := j) (x := p) (by omega) hp
  have hy1 : p.kids[1]? = some y := by rw [hxy]; rfl
  obtain ⟨hPy, hC⟩ := hPp.kid (i := 1) (x := y) (by omega) hy1
  have h8 : ofClassB y 8 = true := by
    have h := hC (by omega)
    rw [hkp, show (fixedL 29).getD 1 (restL 29) = 8 from by decide] at h
    exact h
  exact ⟨hPy.good (expr_walk (class_8 h8 hy)), (hW.kid hp).kid hy1⟩

theorem noNode_idle (p q : Addr) (w : World) : CallsD Tryz.prog 46 #[.pointer (some p), .pointer (some q)] .returning w fun e u' w' => u' = .returning ∧ e = .returned (.tuple #[]) ∧ w' = w := by
  refine callsD_of_wpS Tryz.func46 rfl fun c₀ cs hu => ?_
  apply wpS_seq
  apply wpS_region
  simp [wpOpsS, go_sem, recoverD, hu, Tryz.ntmps46, Exit.thenS]
  refine wpS_cond (t := false) (by simp [Act.eval, Array.replicate]) ?_
  simp only [Bool.false_eq_true, if_false]
  refine wpS_of_wp (wp_skip ?_)
  cases c₀
  simp_all [bodyPostS, results, Tryz.results46]

/-- What impl.GetProperty hands back. -/
def GetPost (n : Nd) (key : ByteArray) (w : World) (e : Ending) (w' : World) : Prop :=
  ((∃ (j : Nat) (p x y : Nd) (D : Nat) (m : Nd), FirstAt n key j p x y ∧ e = .returned (.tuple #[.agg #[.int .i64 m.kind, .string m.text, .string m.more, .int .u64 m.num, .slice m.ao m.kids.length m.cap], .bool true]) ∧ SameD D y m ∧ LiesD D w' m) ∨
  (NoAt n key ∧ e = .returned (.tuple #[.agg #[.int .i64 0, .string ⟨#[]⟩, .string ⟨#[]⟩, .int .u64 0, .slice none 0 0], .bool false]))) ∧ Below w.heap.size w w'

/-- Behind the stores into the two results. -/
theorem get_lies {w w3 W : World} {m : Nd} {E B : Nat} (hl : LiesIn (From B) E w3 m) (hB : w.heap.size + 2 < B) (hst : ∀ b, w.heap.size + 2 < b → W.heap[b]? = w3.heap[b]?) : LiesD E W m :=
  (hl.carry (A' := From B) (fun b o hA ho => ⟨by rw [hst b (by unfold From at hA; omega)]; exact ho, hA⟩)).lies

set_option maxRecDepth 100000 in
set_option maxHeartbeats 1000000 in
theorem implGet (n : Nd) (key : ByteArray) (D : Nat) (w : World) (hL : LiesD D w n) (hG : GoodD 12 n) (hk : n.kind = 28) (hP : PropsP n) :
    Calls Tryz.prog 29 #[n.val, .string key] w (GetPost n key w) := by
  have hps := props_of hG hk
  have HWN := Lib.hid (show WfN n from ⟨D, w, hL⟩)
  have HVG := Lib.hid (fun (j : Nat) (p x y : Nd) (hj : 0 < j) (hp : n.kids[j]? = some p) (hxy : p.kids = [x, y]) (hy : y.kind ≠ 0) => val_good hG hk hj hp hxy hy ⟨D, w, hL⟩)
  have HE := Lib.hid (fun (A : Nat → Prop) (b : Nat) (W : World) (hR : RepD A (10 + 2) W n b) => editGet 10 A n b key W hR hk hps.1 hps.2.1 hP)
  have HP := Lib.hid hP
  have HL := Lib.hid hL
  have HG := Lib.hid hG
  have HK := Lib.hid hk
  clear hps hP hL hG hk
  obtain ⟨k, t, m, u, ao, cap, kids⟩ := n
  obtain rfl : k = 28 := HK.out
  show Calls _ _ #[.agg #[.int .i64 28, .string t, .string m, .int .u64 u, .slice ao kids.length cap], _] w _
  go_enter_defers Tryz.func29, Tryz.ntmps29
  go_wp2_with fail
  refine (nodeOf_28 12 (un_all 12) (.mk 28 t m u ao cap kids) D _ (HL.out.below ((((Below.refl _ _).alloc (Nat.le_refl _) _).alloc (by simp) _).alloc (by first | omega | (simp; done) | (simp; omega)) _)) HG.out rfl).mono ?_
  rintro e w1 ⟨b, rfl, hR, hb⟩
  have HR := Lib.hid hR
  have HB := Lib.hid (((((Below.refl w.heap.size w).alloc (Nat.le_refl _) _).alloc (by simp) _).alloc (by first | omega | (simp; done) | (simp; omega)) _).trans (hb.mono (by first | omega | (simp; done) | (simp; omega))))
  obtain ⟨k1, f1⟩ := bblk hb (b := w.heap.size + 1) (by first | omega | (simp; done) | (simp; omega))
  obtain ⟨k2, f2⟩ := bblk hb (b := w.heap.size + 1 + 1) (by first | omega | (simp; done) | (simp; omega))
  have hz1 : w.heap.size + 1 + 1 < w1.heap.size := by have := hb.size; simp at this; omega
  clear hb hR
  go_wp2_with fail
  refine (HE.out _ b _ HR.out).mono ?_
  rintro e w2 ⟨hf, hb2⟩
  have HB2 := Lib.hid (HB.out.trans (hb2.mono HB.out.size))
  obtain ⟨k11, f11⟩ := bblk hb2 (b := w.heap.size + 1) (by omega)
  obtain ⟨k12, f12⟩ := bblk hb2 (b := w.heap.size + 1 + 1) (by omega)
  have hz2 : w.heap.size + 1 + 1 < w2.heap.size := by have := hb2.size; omega
  have hb2' := Lib.hid hb2
  clear hb2
  rcases hf with ⟨j, p, x, y, b2, hfa, rfl, hRy⟩ | ⟨hno, T, p, rfl⟩
  · have HFA := Lib.hid hfa
    obtain ⟨-, x', y', hxy', -, hy0⟩ := HP.out j p hfa.1 hfa.2.1
    obtain ⟨rfl, rfl⟩ : x = x' ∧ y = y' := by rw [hfa.2.2.1] at hxy'; simpa using hxy'
    have HRY := Lib.hid (hRy.below hb2'.out)
    have HGY := Lib.hid (HVG.out j p x y hfa.1 hfa.2.1 hfa.2.2.1 hy0)
    have HX := Lib.hid (fun W (hbW : Below w2.heap.size w2 W) => exprOrNone 10 (node_all 10) 10 _ y b2 W HGY.out (HRY.out.below hbW))
    clear hfa hRy hy0 hxy'
    generalize pTy y.kind = T at HX ⊢
    go_wp2_with fail
    refine (HX.out _ (Below.refl _ _)).mono ?_
    rintro e w3 ⟨E, m3, rfl, hS, hl, hb3⟩
    have HS := Lib.hid hS
    have Hl := Lib.hid hl
    obtain ⟨k21, f21⟩ := bblk hb3 (b := w.heap.size + 1) (by omega)
    obtain ⟨k22, f22⟩ := bblk hb3 (b := w.heap.size + 1 + 1) (by omega)
    have HB3 := Lib.hid (HB2.out.trans (hb3.mono HB2.out.size))
    clear hS hl hb3
    go_wp2_with fail
    refine leaves_cons (f := 46) (args := #[.pointer (some ⟨w.heap.size + 1, 0, none⟩), .pointer (some ⟨w.heap.size + 1 + 1, 0, none⟩)]) (by simp) (by simp [go_sem]) ?_
    refine (noNode_idle _ _ _).mono ?_
    rintro e u2 w4 ⟨rfl, rfl, rfl⟩
    simp [Leaves, settle, results, Tryz.results29, go_sem, k21, k22, k11, k12, k1, k2]
    refine ⟨Or.inl ⟨j, p, x, y, E, m3, HFA.out, rfl, HS.out, get_lies Hl.out hz2 (fun c hc => ?_)⟩, ?_⟩
    · rw [Below.heap_setCell _ _ _ _ (by first | omega | (simp; done) | (simp; omega)), Below.heap_setCell _ _ _ _ (by first | omega | (simp; done) | (simp; omega)), Below.heap_setCell _ _ _ _ (by first | omega | (simp; done) | (simp; omega)), Below.heap_setCell _ _ _ _ (by first | omega | (simp; done) | (simp; omega)), Below.heap_setCell _ _ _ _ (by first | omega | (simp; done) | (simp; omega)), Below.heap_setCell _ _ _ _ (by first | omega | (simp; done) | (simp; omega))]
    · exact (((((HB3.out.setCell (p := ⟨w.heap.size + 1, 0, none⟩) (by first | omega | (simp; done) | (simp; omega)) _).setCell (p := ⟨w.heap.size + 1, 1, none⟩) (by first | omega | (simp; done) | (simp; omega)) _).setCell (p := ⟨w.heap.size + 1, 2, none⟩) (by first | omega | (simp; done) | (simp; omega)) _).setCell (p := ⟨w.heap.size + 1, 3, none⟩) (by first | omega | (simp; done) | (simp; omega)) _).setCell (p := ⟨w.heap.size + 1, 4, none⟩) (by first | omega | (simp; done) | (simp; omega)) _).setCell (p := ⟨w.heap.size + 1 + 1, 0, none⟩) (by first | omega | (simp; done) | (simp; omega)) _
  · have HNO := Lib.hid hno
    clear hno
    go_wp2_with fail
    refine leaves_cons (f := 46) (args := #[.pointer (some ⟨w.heap.size + 1, 0, none⟩), .pointer (some ⟨w.heap.size + 1 + 1, 0, none⟩)]) (by simp) (by simp [go_sem]) ?_
    refine (noNode_idle _ _ _).mono ?_
    rintro e u2 w4 ⟨rfl, rfl, rfl⟩
    simp [Leaves, settle, results, Tryz.results29, go_sem, k11, k12, k1, k2]
    refine ⟨Or.inr ⟨HNO.out, rfl⟩, ?_⟩
    exact (((((HB2.out.setCell (p := ⟨w.heap.size + 1, 0, none⟩) (by first | omega | (simp; done) | (simp; omega)) _).setCell (p := ⟨w.heap.size + 1, 1, none⟩) (by first | omega | (simp; done) | (simp; omega)) _).setCell (p := ⟨w.heap.size + 1, 2, none⟩) (by first | omega | (simp; done) | (simp; omega)) _).setCell (p := ⟨w.heap.size + 1, 3, none⟩) (by first | omega | (simp; done) | (simp; omega)) _).setCell (p := ⟨w.heap.size + 1, 4, none⟩) (by first | omega | (simp; done) | (simp; omega)) _).setCell (p := ⟨w.heap.size + 1 + 1, 0, none⟩) (by first | omega | (simp; done) | (simp; omega)) _
end Go.Proofs.YtongafghllkomaaGreatDoor
