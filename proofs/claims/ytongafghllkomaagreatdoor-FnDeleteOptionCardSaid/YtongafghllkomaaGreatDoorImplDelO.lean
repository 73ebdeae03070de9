/-
  impl.DeleteOption: the file without the first option of a name, as a plain tree. No conditions.
-/
import Derived.Test.YtongafghllkomaaGreatDoorDelO
import Derived.Test.YtongafghllkomaaGreatDoorImplDel
import Derived.Test.YtongafghllkomaaGreatDoorOptioned
namespace Go.Proofs.YtongafghllkomaaGreatDoor
open Go.RowKit
set_option linter.unusedVariables false

/-- What unnode hands back at a file, with a package clause or without. -/
theorem sepf_any (d : Nat) (hU : UnC (d + 1)) (hU2 : UnC d) (n : Nd) (D : Nat) (w : World) (hL : LiesD D w n) (hG : PreD (d + 1 + 1) n) (hk : n.kind = 3) : Calls Tryz.prog 31 #[n.val] w (FilePostS (d + 1) n w) := by
  by_cases h0 : (n.kid 0).kind = 0
  · exact sep_3_none d hU hU2 n D w hL hG hk h0
  · exact sep_3 d hU hU2 n D w hL hG hk h0

def SepFPtr (d : Nat) (n : Nd) (w : World) (e : Ending) (w' : World) : Prop := ∃ b, e = .returned (.pointer (some ⟨b, 0, none⟩)) ∧ SepFile w.heap.size d w' n b ∧ Below w.heap.size w w'

theorem SepFile.from {B B' d : Nat} {w : World} {n : Nd} {b : Nat} (h : SepFile B d w n b) (hB : B' ≤ B) : SepFile B' d w n b := by
  obtain ⟨h1, v5, v6, v7, hb, hne, hrt, h5, h6, h7⟩ := h
  have hO : ∀ c, Off B b v7 c → Off B' b v7 c := fun c hc => ⟨Nat.le_trans hB hc.1, hc.2⟩
  refine ⟨Nat.le_trans hB h1, v5, v6, v7, hb, hne, hrt, h5.carry (fun m c hr => hr.mono hO) (fun c o hA ho => ⟨ho, hO c hA⟩), h6.carry (fun m c hr => hr.mono hO) (fun c o hA ho => ⟨ho, hO c hA⟩), ?_⟩
  refine CellsAre.carry h7 (fun c o hA ho => ⟨ho, Nat.le_trans hB hA⟩) (fun i x _ hx p hp => ?_)
  obtain ⟨y, g1, g2⟩ := hx p hp
  exact ⟨y, g1, g2.imp fun c hr => hr.mono hO⟩

set_option maxRecDepth 100000 in
theorem nodeOf_3S (d : Nat) (hU : UnC (d + 1)) (hU2 : UnC d) (n : Nd) (D : Nat) (w : World) (hL : LiesD D w n) (hG : GoodD (d + 1 + 1) n) (hk : n.kind = 3) : Calls Tryz.prog 47 #[n.val] w (SepFPtr (d + 1) n w) := by
  obtain ⟨k, t, m, u, ao, cap, kids⟩ := n
  obtain rfl : k = 3 := hk
  have HL := Lib.hid hL
  have HG := Lib.hid hG
  show Calls _ _ #[.agg #[.int .i64 3, .string t, .string m, .int .u64 u, .slice ao kids.length cap]] w _
  clear hL hG
  have ha := as_3
  go_enter Tryz.func47, Tryz.ntmps47
  go_wp2_with fail
  refine (sepf_any d hU hU2 (.mk 3 t m u ao cap kids) D _ (HL.out.below ((Below.refl _ _).alloc (Nat.le_refl _) _)) HG.out.pre rfl).mono ?_
  rintro e w1 ⟨b, rfl, hR, hb⟩
  rw [show pTy (Nd.kind (.mk 3 t m u ao cap kids)) = 80 from pTy_3]
  have HR := Lib.hid (hR.from (show w.heap.size ≤ _ by simp))
  have HB := Lib.hid (((Below.refl w.heap.size w).alloc (Nat.le_refl _) _).trans (hb.mono (by simp)))
  clear hR hb
  go_wp2_with fail
  go_ret
  exact ⟨b, rfl, HR.out, HB.out⟩

/-- What impl.DeleteOption hands back. -/
def DelOImp (n : Nd) (name : ByteArray) (w : World) (e : Ending) (w' : World) : Prop :=
  ∃ (D : Nat) (m : Nd), e = .returned (.tuple #[.agg #[.int .i64 m.kind, .string m.text, .string m.more, .int .u64 m.num, .slice m.ao m.kids.length m.cap], .bool true]) ∧ LiesD D w' m ∧ ((∃ (i : Nat) (s : Nd), FirstOpt (n.kid 2).kids name i s ∧ SameD D (dropStmt n i) m) ∨ (NoOpt (n.kid 2).kids name ∧ SameD D n m)) ∧ Below w.heap.size w w'

theorem three_of {n : Nd} (h : n.kids.length = 3) : n.kids = [n.kid 0, n.kid 1, n.kid 2] := by
  obtain ⟨x, y, z, e⟩ := kids3 h
  unfold Nd.kid
  rw [e]
  rfl

/-- A file without a statement, its lists at other places. -/
def dropAt (n : Nd) (i : Nat) (a1 a2 : Option Addr) : Nd := .mk n.kind n.text n.more n.num a1 n.cap [n.kid 0, n.kid 1, .mk (n.kid 2).kind (n.kid 2).text (n.kid 2).more (n.kid 2).num a2 (n.kid 2).cap ((n.kid 2).kids.eraseIdx i)]

theorem FitP.list {d : Nat} {x : Nd} {i : Nat} {ao : Option Addr} (h : FitP (d + 1) x) (hk : x.kind = 1) : FitP (d + 1) (.mk x.kind x.text x.more x.num ao x.cap (x.kids.eraseIdx i)) := by
  rcases h with h | ⟨h1, h2, h3, h4, h5, h6⟩
  · omega
  · refine Or.inr ⟨h1, h2, h3, fun h => absurd hk h, fun j y hy => ⟨fun h => absurd hk h, ?_⟩, fun h => absurd (show x.kind = 27 from h) (by omega)⟩
    rcases erase_at hy with ⟨-, g⟩ | ⟨-, g⟩
    · exact (h5 _ y g).2
    · exact (h5 _ y g).2

theorem good_drop {n : Nd} {i : Nat} {a1 a2 : Option Addr} (hG : GoodD 12 n) (hk : n.kind = 3) (hi : i < (n.kid 2).kids.length) : GoodD 12 (dropAt n i a1 a2) := by
  obtain ⟨hl, -, hP2, hk2, hst, hk2'⟩ := file_kids hG hk
  have e3 := three_of hl
  have hP := hG.pre
  have hf := hP.fit (by omega)
  have hlen : ((n.kid 2).kids.eraseIdx i).length = (n.kid 2).kids.length - 1 := by rw [List.length_eraseIdx, if_pos hi]
  have hx0 : n.kids[0]? = some (n.kid 0) := by rw [e3]; rfl
  have hx1 : n.kids[1]? = some (n.kid 1) := by rw [e3]; rfl
  have hsub : ∀ (j : Nat) (y : Nd), ((n.kid 2).kids.eraseIdx i)[j]? = some y → ∃ j', (n.kid 2).kids[j']? = some y := fun j y hy => by
    rcases erase_at hy with ⟨-, g⟩ | ⟨-, g⟩
    · exact ⟨_, g⟩
    · exact ⟨_, g⟩
  refine ⟨Or.inr ⟨hf.1, hf.2.1, hf.2.2.1, fun _ => ⟨?_, Or.inl ?_⟩, fun j x hx => ?_, fun h => absurd (show n.kind = 27 from h) (by omega)⟩, ⟨by show n.kind ≠ 13; omega, fun j x hx => ?_⟩, ⟨⟨by show 3 ≤ 400; omega, ?_⟩, fun j x hx => ?_⟩, by show n.kind ∈ walkL; rw [hk]; decide⟩
  · show (fixedL n.kind).length ≤ 3
    rw [hk]; decide
  · show 3 ≤ (fixedL n.kind).length
    rw [hk]; decide
  · rcases at3 hx with ⟨rfl, rfl⟩ | ⟨rfl, rfl⟩ | ⟨rfl, rfl⟩
    · exact hf.2.2.2.2.1 0 _ hx0
    · exact hf.2.2.2.2.1 1 _ hx1
    · refine ⟨fun _ => ?_, FitP.list (hf.2.2.2.2.1 2 _ hk2').2 hk2⟩
      show ofClassB _ ((fixedL n.kind).getD 2 (restL n.kind)) = true
      rw [hk, show (fixedL 3).getD 2 (restL 3) = 18 from by decide]
      show (((n.kid 2).kind == 1) && ((n.kid 2).kids.eraseIdx i).all (fun x => isStmtB x.kind)) = true
      rw [hk2, Bool.and_eq_true]
      refine ⟨rfl, ?_⟩
      rw [List.all_eq_true]
      intro y hy
      obtain ⟨j, hj⟩ := List.mem_iff_getElem?.1 hy
      obtain ⟨j', hj'⟩ := hsub j y hj
      exact hst y (List.mem_of_getElem? hj')
  · rcases at3 hx with ⟨rfl, rfl⟩ | ⟨rfl, rfl⟩ | ⟨rfl, rfl⟩
    · exact hG.2.1.2 0 _ hx0
    · exact hG.2.1.2 1 _ hx1
    · refine ⟨by show (n.kid 2).kind ≠ 13; omega, fun j y hy => ?_⟩
      obtain ⟨j', hj'⟩ := hsub j y hy
      exact (hG.2.1.2 2 _ hk2').2 j' y hj'
  · show 3 ≤ n.cap
    have := hP.room
    omega
  · rcases at3 hx with ⟨rfl, rfl⟩ | ⟨rfl, rfl⟩ | ⟨rfl, rfl⟩
    · exact hG.2.2.1.2 0 _ hx0
    · exact hG.2.2.1.2 1 _ hx1
    · have hs := hG.2.2.1.2 2 _ hk2'
      refine ⟨⟨?_, ?_⟩, fun j y hy => ?_⟩
      · show ((n.kid 2).kids.eraseIdx i).length ≤ 400
        have := hs.1.1
        omega
      · show ((n.kid 2).kids.eraseIdx i).length ≤ (n.kid 2).cap
        have := hs.1.2
        omega
      · obtain ⟨j', hj'⟩ := hsub j y hy
        exact hs.2 j' y hj'

/-- It lies in some world. -/
theorem wf_drop {n : Nd} {i D : Nat} {w : World} (hL : LiesD D w n) (hl : n.kids.length = 3) (hi : i < (n.kid 2).kids.length) : ∃ a1 a2, WfN (dropAt n i a1 a2) := by
  have e3 := three_of hl
  have hx0 : n.kids[0]? = some (n.kid 0) := by rw [e3]; rfl
  have hx1 : n.kids[1]? = some (n.kid 1) := by rw [e3]; rfl
  have hx2 : n.kids[2]? = some (n.kid 2) := by rw [e3]; rfl
  cases D with
  | zero => exact hL.elim
  | succ D =>
    have l0 := (hL.2 0 _ hx0).2
    have l1 := (hL.2 1 _ hx1).2
    have l2 := (hL.2 2 _ hx2).2
    obtain ⟨w1, w2, w3, w4, w5, w6, w7⟩ := hL.1
    cases D with
    | zero => exact l0.elim
    | succ D =>
      obtain ⟨u1, u2, u3, u4, u5, u6, u7⟩ := l2.1
      have hlen : ((n.kid 2).kids.eraseIdx i).length = (n.kid 2).kids.length - 1 := by rw [List.length_eraseIdx, if_pos hi]
      have hk2 := lies_row (A := fun _ => True) (w := w) (D := D) (k := (n.kid 2).kind) (t := (n.kid 2).text) (mo := (n.kid 2).more) (u := (n.kid 2).num) (cap := (n.kid 2).cap) (ms := (n.kid 2).kids.eraseIdx i) (T := 25) ⟨u1, u2, (by show ((n.kid 2).kids.eraseIdx i).length ≤ maxLen; omega), u4, u5, u6, u7⟩ trivial (fun z hz => by
        obtain ⟨j, hj⟩ := List.mem_iff_getElem?.1 hz
        rcases erase_at hj with ⟨-, g⟩ | ⟨-, g⟩
        · exact ((l2.2 _ z g).2).inn
        · exact ((l2.2 _ z g).2).inn)
      have hb : Below w.heap.size w (w.alloc (.cells (((n.kid 2).kids.eraseIdx i).flatMap Nd.cells5).toArray 25)) := (Below.refl _ _).alloc (Nat.le_refl _) _
      refine ⟨_, _, D + 2, _, (lies_row (A := fun _ => True) (w := w.alloc (.cells (((n.kid 2).kids.eraseIdx i).flatMap Nd.cells5).toArray 25)) (D := D + 1) (k := n.kind) (t := n.text) (mo := n.more) (u := n.num) (cap := n.cap) (ms := [n.kid 0, n.kid 1, .mk (n.kid 2).kind (n.kid 2).text (n.kid 2).more (n.kid 2).num (some ⟨w.heap.size, 0, none⟩) (n.kid 2).cap ((n.kid 2).kids.eraseIdx i)]) (T := 25) ⟨w1, w2, (by show 3 ≤ maxLen; decide), w4, w5, w6, w7⟩ trivial (fun z hz => ?_)).lies⟩
      simp only [List.mem_cons, List.not_mem_nil, or_false] at hz
      rcases hz with rfl | rfl | rfl
      · exact (l0.below hb).inn
      · exact (l1.below hb).inn
      · exact hk2

/-- Two that are the same kid by kid. -/
theorem same_drop {n m : Nd} {E i : Nat} {a1 a2 : Option Addr} (h : SameD E (dropAt n i a1 a2) m) : SameD E (dropStmt n i) m := by
  cases E with
  | zero => exact h.elim
  | succ E =>
    obtain ⟨h1, h2, h3, h4, h5, h6⟩ := h
    refine ⟨h1, h2, h3, h4, h5, fun j x y hx hy => ?_⟩
    rcases at3 hx with ⟨rfl, rfl⟩ | ⟨rfl, rfl⟩ | ⟨rfl, rfl⟩
    · exact h6 0 _ y rfl hy
    · exact h6 1 _ y rfl hy
    · exact (h6 2 _ y rfl hy).re rfl rfl rfl rfl rfl

theorem rep_drop {A : Nat → Prop} {d : Nat} {w : World} {n : Nd} {i b : Nat} {a1 a2 : Option Addr} (hk : n.kind = 3) (h : RepD A d w (dropStmt n i) b) : RepD A d w (dropAt n i a1 a2) b := by
  cases d with
  | zero => exact h.elim
  | succ d =>
    obtain ⟨hA, cs, h1, h2⟩ := h
    refine ⟨hA, cs, h1, ?_⟩
    rw [slots_3 _ (show (dropStmt n i).kind = 3 from hk)] at h2
    rw [slots_3 _ (show (dropAt n i a1 a2).kind = 3 from hk)]
    exact h2

theorem delo_node {n : Nd} {D : Nat} {w : World} (hL : LiesD D w n) (hG : GoodD 12 n) (hk : n.kind = 3) {B b : Nat} {name : ByteArray} {W : World} (h : (∃ (i : Nat) (s : Nd), FirstOpt (n.kid 2).kids name i s ∧ RepD (From B) 12 W (dropStmt n i) b) ∨ (NoOpt (n.kid 2).kids name ∧ RepD (From B) 12 W n b)) :
    Calls Tryz.prog 36 #[.iface 80 (.pointer (some ⟨b, 0, none⟩))] W fun e w' => ∃ (E : Nat) (m : Nd), e = .returned (.agg #[.int .i64 m.kind, .string m.text, .string m.more, .int .u64 m.num, .slice m.ao m.kids.length m.cap]) ∧ ((∃ (i : Nat) (s : Nd), FirstOpt (n.kid 2).kids name i s ∧ SameD E (dropStmt n i) m) ∨ (NoOpt (n.kid 2).kids name ∧ SameD E n m)) ∧ LiesIn (From W.heap.size) E w' m ∧ Below W.heap.size W w' := by
  rcases h with ⟨i, s, hF, hR⟩ | ⟨hno, hR⟩
  · have hil : i < (n.kid 2).kids.length := (List.getElem?_eq_some_iff.1 hF.1).1
    obtain ⟨a1, a2, hw⟩ := wf_drop hL (file_kids hG hk).1 hil
    have hc := node_all 12 12 _ (dropAt n i a1 a2) b W ⟨good_drop hG hk hil, hw⟩ (rep_drop hk hR)
    rw [show Nd.kind (dropAt n i a1 a2) = 3 from hk, ptrTy_3] at hc
    refine hc.mono ?_
    rintro e w' ⟨E, m, he, hS, hl, hb⟩
    exact ⟨E, m, he, Or.inl ⟨i, s, hF, same_drop hS⟩, hl, hb⟩
  · have hc := node_all 12 12 _ n b W ⟨hG, D, w, hL⟩ hR
    rw [hk, ptrTy_3] at hc
    refine hc.mono ?_
    rintro e w' ⟨E, m, he, hS, hl, hb⟩
    exact ⟨E, m, he, Or.inr ⟨hno, hS⟩, hl, hb⟩

set_option maxRecDepth 100000 in
set_option maxHeartbeats 1000000 in
theorem implDelO (n : Nd) (name : ByteArray) (D : Nat) (w : World) (hL : LiesD D w n) (hG : GoodD 12 n) (hk : n.kind = 3) (hP : StmtsP (n.kid 2).kids) :
    Calls Tryz.prog 17 #[n.val, .string name] w (DelOImp n name w) := by
  have hfk := file_kids hG hk
  have HE := Lib.hid (fun (B b : Nat) (w0 W : World) (hR : SepFile B (8 + 3) W n b) (hB : Below B w0 W) => editDelO B 8 n b name w0 W hR hk (by have := hfk.2.1; omega) hP hB)
  have HN := Lib.hid (fun (B b : Nat) (W : World) (h : (∃ (i : Nat) (s : Nd), FirstOpt (n.kid 2).kids name i s ∧ RepD (From B) 12 W (dropStmt n i) b) ∨ (NoOpt (n.kid 2).kids name ∧ RepD (From B) 12 W n b)) => delo_node hL hG hk h)
  have HL := Lib.hid hL
  have HG := Lib.hid hG
  have HK := Lib.hid hk
  clear hfk hP hL hG hk
  obtain ⟨k, t, m, u, ao, cap, kids⟩ := n
  obtain rfl : k = 3 := HK.out
  show Calls _ _ #[.agg #[.int .i64 3, .string t, .string m, .int .u64 u, .slice ao kids.length cap], _] w _
  go_enter_defers Tryz.func17, Tryz.ntmps17
  go_wp2_with fail
  refine (nodeOf_3S 10 (un_all 11) (un_all 10) (.mk 3 t m u ao cap kids) D _ (HL.out.below ((((Below.refl _ _).alloc (Nat.le_refl _) _).alloc (by simp) _).alloc (by first | omega | (simp; done) | (simp; omega)) _)) HG.out rfl).mono ?_
  rintro e w1 ⟨b, rfl, hR, hb⟩
  have hBx := Lib.hid hb
  have HR := Lib.hid hR
  have HB := Lib.hid (((((Below.refl w.heap.size w).alloc (Nat.le_refl _) _).alloc (by simp) _).alloc (by first | omega | (simp; done) | (simp; omega)) _).trans (hb.mono (by first | omega | (simp; done) | (simp; omega))))
  have hz1 : w.heap.size + 1 + 1 < w1.heap.size := by have := hb.size; simp at this; omega
  clear hb hR
  go_wp2_with fail
  refine (HE.out _ b _ _ HR.out hBx.out).mono ?_
  rintro e w2 ⟨rfl, hf, hb2⟩
  obtain ⟨k11, f11⟩ := bblk hb2 (b := w.heap.size + 1) (by first | omega | (simp; done) | (simp; omega))
  obtain ⟨k12, f12⟩ := bblk hb2 (b := w.heap.size + 1 + 1) (by first | omega | (simp; done) | (simp; omega))
  have hz2 : w.heap.size + 1 + 1 < w2.heap.size := by have := hb2.size; simp at this; omega
  have HB2 := Lib.hid (((((Below.refl w.heap.size w).alloc (Nat.le_refl _) _).alloc (by simp) _).alloc (by first | omega | (simp; done) | (simp; omega)) _).trans (hb2.mono (by first | omega | (simp; done) | (simp; omega))))
  have HF := Lib.hid hf
  clear hb2 hf
  go_wp2_with fail
  refine (HN.out _ b _ HF.out).mono ?_
  rintro e w3 ⟨E, m3, rfl, hS, hl, hb3⟩
  have HS := Lib.hid hS
  have Hl := Lib.hid hl
  obtain ⟨k21, f21⟩ := bblk hb3 (b := w.heap.size + 1) (by omega)
  obtain ⟨k22, f22⟩ := bblk hb3 (b := w.heap.size + 1 + 1) (by omega)
  have HB3 := Lib.hid (HB2.out.trans (hb3.mono HB2.out.size))
  clear hS hl hb3
  go_wp2_with fail
  refine leaves_cons (f := 46) (args := #[.pointer (some ⟨w.heap.size + 1, 0, none⟩), .pointer (some ⟨w.heap.size + 1 + 1, 0, none⟩)]) (by simp) (by simp [go_sem]) ?_
  refine (noNode_idle _ _ _).mono ?_
  rintro e u2 w4 ⟨rfl, rfl, rfl⟩
  simp [Leaves, settle, results, Tryz.results17, go_sem, k21, k22, k11, k12]
  refine ⟨E, m3, rfl, get_lies Hl.out hz2 (fun c hc => ?_), HS.out, ?_⟩
  · rw [Below.heap_setCell _ _ _ _ (by first | omega | (simp; done) | (simp; omega)), Below.heap_setCell _ _ _ _ (by first | omega | (simp; done) | (simp; omega)), Below.heap_setCell _ _ _ _ (by first | omega | (simp; done) | (simp; omega)), Below.heap_setCell _ _ _ _ (by first | omega | (simp; done) | (simp; omega)), Below.heap_setCell _ _ _ _ (by first | omega | (simp; done) | (simp; omega)), Below.heap_setCell _ _ _ _ (by first | omega | (simp; done) | (simp; omega))]
  · exact (((((HB3.out.setCell (p := ⟨w.heap.size + 1, 0, none⟩) (by first | omega | (simp; done) | (simp; omega)) _).setCell (p := ⟨w.heap.size + 1, 1, none⟩) (by first | omega | (simp; done) | (simp; omega)) _).setCell (p := ⟨w.heap.size + 1, 2, none⟩) (by first | omega | (simp; done) | (simp; omega)) _).setCell (p := ⟨w.heap.size + 1, 3, none⟩) (by first | omega | (simp; done) | (simp; omega)) _).setCell (p := ⟨w.heap.size + 1, 4, none⟩) (by first | omega | (simp; done) | (simp; omega)) _).setCell (p := ⟨w.heap.size + 1 + 1, 0, none⟩) (by first | omega | (simp; done) | (simp; omega)) _
end Go.Proofs.YtongafghllkomaaGreatDoor
