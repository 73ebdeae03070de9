/-
  impl.GetOption: the value of the first option of a name, as a plain tree. No conditions.
-/
import Derived.Test.YtongafghllkomaaGreatDoorGetO
import Derived.Test.YtongafghllkomaaGreatDoorImplGet
namespace Go.Proofs.YtongafghllkomaaGreatDoor
open Go.RowKit
set_option linter.unusedVariables false

/-- What impl.GetOption hands back. -/
def OptGet (ss : List Nd) (name : ByteArray) (w : World) (e : Ending) (w' : World) : Prop :=
  ((∃ (i : Nat) (s : Nd) (D : Nat) (m : Nd), FirstOpt ss name i s ∧ e = .returned (.tuple #[.agg #[.int .i64 m.kind, .string m.text, .string m.more, .int .u64 m.num, .slice m.ao m.kids.length m.cap], .bool true]) ∧ SameD D ((s.kid 0).kid 1) m ∧ LiesD D w' m) ∨
  (NoOpt ss name ∧ e = .returned (.tuple #[.agg #[.int .i64 0, .string ⟨#[]⟩, .string ⟨#[]⟩, .int .u64 0, .slice none 0 0], .bool false]))) ∧ Below w.heap.size w w'

/-- A file's statements. -/
theorem file_kids {n : Nd} (hG : GoodD 12 n) (hk : n.kind = 3) : n.kids.length = 3 ∧ (n.kid 2).kids.length ≤ 400 ∧ PreD 11 (n.kid 2) ∧ (n.kid 2).kind = 1 ∧ (∀ x ∈ (n.kid 2).kids, isStmtB x.kind = true) ∧ n.kids[2]? = some (n.kid 2) := by
  have hP := hG.pre
  have h1 := (hP.fit (by omega)).2.2.2.1 (by omega)
  rw [hk, show (fixedL 3).length = 3 from by decide, show restL 3 = 28 from by decide] at h1
  have hl : n.kids.length = 3 := by omega
  have h2 : n.kids[2]? = some (n.kid 2) := by
    unfold Nd.kid
    rw [List.getD_eq_getElem?_getD, List.getElem?_eq_getElem (by omega)]; rfl
  obtain ⟨hP2, hC⟩ := hP.kid (i := 2) (by omega) h2
  have h18 := hC (by omega)
  rw [hk, show (fixedL 3).getD 2 (restL 3) = 18 from by decide] at h18
  obtain ⟨h3, h4⟩ := class_18 h18
  exact ⟨hl, hP2.small, hP2, h3, h4, h2⟩

theorem opt_val_good {n s : Nd} {i : Nat} (hG : GoodD 12 n) (hk : n.kind = 3) (hs : (n.kid 2).kids[i]? = some s) (h12 : s.kind = 12) (hP : StmtsP (n.kid 2).kids) (hW : WfN n) : GoodW 8 ((s.kid 0).kid 1) := by
  obtain ⟨-, -, hP2, hk2, -, hk2'⟩ := file_kids hG hk
  obtain ⟨-, hop⟩ := hP i s hs
  obtain ⟨a, x, v, hsa, hka, hax, hkx, hkv⟩ := hop h12
  have ev : (s.kid 0).kid 1 = v := by unfold Nd.kid; rw [hsa]; show a.kids.getD 1 _ = v; rw [hax]; rfl
  obtain ⟨hPs, -⟩ := hP2.kid (i := i) (x := s) (by omega) hs
  have ha0 : s.kids[0]? = some a := by rw [hsa]; rfl
  obtain ⟨hPa, -⟩ := hPs.kid (i := 0) (x := a) (by omega) ha0
  have hv1 : a.kids[1]? = some v := by rw [hax]; rfl
  obtain ⟨hPv, hC⟩ := hPa.kid (i := 1) (x := v) (by omega) hv1
  have h0 : ofClassB v 0 = true := by
    have h := hC (by omega)
    rw [hka, show (fixedL 10).getD 1 (restL 10) = 0 from by decide] at h
    exact h
  rw [ev]
  exact ⟨hPv.good (expr_walk (class_0 h0)), (((hW.kid hk2').kid hs).kid ha0).kid hv1⟩

set_option maxRecDepth 100000 in
set_option maxHeartbeats 1000000 in
theorem implOpt (n : Nd) (name : ByteArray) (D : Nat) (w : World) (hL : LiesD D w n) (hG : GoodD 12 n) (hk : n.kind = 3) (hP : StmtsP (n.kid 2).kids) :
    Calls Tryz.prog 23 #[n.val, .string name] w (OptGet (n.kid 2).kids name w) := by
  have hfk := file_kids hG hk
  have HVG := Lib.hid (fun (i : Nat) (s : Nd) (hs : (n.kid 2).kids[i]? = some s) (h12 : s.kind = 12) => opt_val_good hG hk hs h12 hP ⟨D, w, hL⟩)
  have HE := Lib.hid (fun (A : Nat → Prop) (b : Nat) (W : World) (hR : RepD A (8 + 4) W n b) => editOpt 8 A n b name W hR hk (by have := hfk.2.1; omega) hP)
  have HL := Lib.hid hL
  have HG := Lib.hid hG
  have HK := Lib.hid hk
  clear hfk hP hL hG hk
  obtain ⟨k, t, m, u, ao, cap, kids⟩ := n
  obtain rfl : k = 3 := HK.out
  show Calls _ _ #[.agg #[.int .i64 3, .string t, .string m, .int .u64 u, .slice ao kids.length cap], _] w _
  go_enter_defers Tryz.func23, Tryz.ntmps23
  go_wp2_with fail
  refine (nodeOf_3 12 (un_all 12) (.mk 3 t m u ao cap kids) D _ (HL.out.below ((((Below.refl _ _).alloc (Nat.le_refl _) _).alloc (by simp) _).alloc (by first | omega | (simp; done) | (simp; omega)) _)) HG.out rfl).mono ?_
  rintro e w1 ⟨b, rfl, hR, hb⟩
  have HR := Lib.hid hR
  have HB := Lib.hid (((((Below.refl w.heap.size w).alloc (Nat.le_refl _) _).alloc (by simp) _).alloc (by first | omega | (simp; done) | (simp; omega)) _).trans (hb.mono (by first | omega | (simp; done) | (simp; omega))))
  obtain ⟨k1, f1⟩ := bblk hb (b := w.heap.size + 1) (by first | omega | (simp; done) | (simp; omega))
  obtain ⟨k2, f2⟩ := bblk hb (b := w.heap.size + 1 + 1) (by first | omega | (simp; done) | (simp; omega))
  have hz1 : w.heap.size + 1 + 1 < w1.heap.size := by have := hb.size; simp at this; omega
  clear hb hR
  go_wp2_with fail
  refine (HE.out _ b _ HR.out).mono ?_
  rintro e w2 ⟨hf, hb2⟩
  have HB2 := Lib.hid (HB.out.trans (hb2.mono HB.out.size))
  obtain ⟨k11, f11⟩ := bblk hb2 (b := w.heap.size + 1) (by omega)
  obtain ⟨k12, f12⟩ := bblk hb2 (b := w.heap.size + 1 + 1) (by omega)
  have hz2 : w.heap.size + 1 + 1 < w2.heap.size := by have := hb2.size; omega
  have hb2' := Lib.hid hb2
  clear hb2
  rcases hf with ⟨i, s, b2, hfa, rfl, hRy⟩ | ⟨hno, T, p, rfl⟩
  · have HFA := Lib.hid hfa
    have HRY := Lib.hid (hRy.below hb2'.out)
    have HGY := Lib.hid (HVG.out i s hfa.1 hfa.2.1.1)
    have HX := Lib.hid (fun W (hbW : Below w2.heap.size w2 W) => exprOrNone 9 (node_all 9) 8 _ _ b2 W HGY.out (HRY.out.below hbW))
    clear hfa hRy
    generalize pTy ((s.kid 0).kid 1).kind = T at HX ⊢
    go_wp2_with fail
    refine (HX.out _ (Below.refl _ _)).mono ?_
    rintro e w3 ⟨E, m3, rfl, hS, hl, hb3⟩
    have HS := Lib.hid hS
    have Hl := Lib.hid hl
    obtain ⟨k21, f21⟩ := bblk hb3 (b := w.heap.size + 1) (by omega)
    obtain ⟨k22, f22⟩ := bblk hb3 (b := w.heap.size + 1 + 1) (by omega)
    have HB3 := Lib.hid (HB2.out.trans (hb3.mono HB2.out.size))
    clear hS hl hb3
    go_wp2_with fail
    refine leaves_cons (f := 46) (args := #[.pointer (some ⟨w.heap.size + 1, 0, none⟩), .pointer (some ⟨w.heap.size + 1 + 1, 0, none⟩)]) (by simp) (by simp [go_sem]) ?_
    refine (noNode_idle _ _ _).mono ?_
    rintro e u2 w4 ⟨rfl, rfl, rfl⟩
    simp [Leaves, settle, results, Tryz.results23, go_sem, k21, k22, k11, k12, k1, k2]
    refine ⟨Or.inl ⟨i, s, E, m3, HFA.out, rfl, HS.out, get_lies Hl.out hz2 (fun c hc => ?_)⟩, ?_⟩
    · rw [Below.heap_setCell _ _ _ _ (by first | omega | (simp; done) | (simp; omega)), Below.heap_setCell _ _ _ _ (by first | omega | (simp; done) | (simp; omega)), Below.heap_setCell _ _ _ _ (by first | omega | (simp; done) | (simp; omega)), Below.heap_setCell _ _ _ _ (by first | omega | (simp; done) | (simp; omega)), Below.heap_setCell _ _ _ _ (by first | omega | (simp; done) | (simp; omega)), Below.heap_setCell _ _ _ _ (by first | omega | (simp; done) | (simp; omega))]
    · exact (((((HB3.out.setCell (p := ⟨w.heap.size + 1, 0, none⟩) (by first | omega | (simp; done) | (simp; omega)) _).setCell (p := ⟨w.heap.size + 1, 1, none⟩) (by first | omega | (simp; done) | (simp; omega)) _).setCell (p := ⟨w.heap.size + 1, 2, none⟩) (by first | omega | (simp; done) | (simp; omega)) _).setCell (p := ⟨w.heap.size + 1, 3, none⟩) (by first | omega | (simp; done) | (simp; omega)) _).setCell (p := ⟨w.heap.size + 1, 4, none⟩) (by first | omega | (simp; done) | (simp; omega)) _).setCell (p := ⟨w.heap.size + 1 + 1, 0, none⟩) (by first | omega | (simp; done) | (simp; omega)) _
  · have HNO := Lib.hid hno
    clear hno
    go_wp2_with fail
    refine leaves_cons (f := 46) (args := #[.pointer (some ⟨w.heap.size + 1, 0, none⟩), .pointer (some ⟨w.heap.size + 1 + 1, 0, none⟩)]) (by simp) (by simp [go_sem]) ?_
    refine (noNode_idle _ _ _).mono ?_
    rintro e u2 w4 ⟨rfl, rfl, rfl⟩
    simp [Leaves, settle, results, Tryz.results23, go_sem, k11, k12, k1, k2]
    refine ⟨Or.inr ⟨HNO.out, rfl⟩, ?_⟩
    exact (((((HB2.out.setCell (p := ⟨w.heap.size + 1, 0, none⟩) (by first | omega | (simp; done) | (simp; omega)) _).setCell (p := ⟨w.heap.size + 1, 1, none⟩) (by first | omega | (simp; done) | (simp; omega)) _).setCell (p := ⟨w.heap.size + 1, 2, none⟩) (by first | omega | (simp; done) | (simp; omega)) _).setCell (p := ⟨w.heap.size + 1, 3, none⟩) (by first | omega | (simp; done) | (simp; omega)) _).setCell (p := ⟨w.heap.size + 1, 4, none⟩) (by first | omega | (simp; done) | (simp; omega)) _).setCell (p := ⟨w.heap.size + 1 + 1, 0, none⟩) (by first | omega | (simp; done) | (simp; omega)) _
end Go.Proofs.YtongafghllkomaaGreatDoor
