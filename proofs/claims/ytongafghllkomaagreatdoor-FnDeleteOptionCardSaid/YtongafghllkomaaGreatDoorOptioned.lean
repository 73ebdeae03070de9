/-
  edit.GetOption over the package's files: the value of the first option of a name. No conditions.
  impl.GetOption: the value of the first option of a name, as a plain tree. No conditions.
  laws.aFile: a file with the option a, whose value is five. No conditions.
  spec.Option, spec.Options and optionName: the place of the first option of a name. No conditions.
  laws.optioned: what its yes tells of a file. No conditions beyond the tables of the decoder.
-/
import Derived.Test.YtongafghllkomaaGreatDoorGetP
import Derived.Test.YtongafghllkomaaGreatDoorList
import Derived.Test.YtongafghllkomaaGreatDoorImplGet
import Derived.IntWalk
import Derived.Test.YtongafghllkomaaGreatDoorPlain
namespace Go.Proofs.YtongafghllkomaaGreatDoor
open Go.RowKit
set_option linter.unusedVariables false

/-- Statements as walked takes them, none of whose options are of members. -/
def StmtsP (ss : List Nd) : Prop := ∀ (i : Nat) (s : Nd), ss[i]? = some s → s.kind ∈ stmtL ∧ (s.kind = 12 → ∃ a x v, s.kids = [a] ∧ a.kind = 10 ∧ a.kids = [x, v] ∧ x.kind = 33 ∧ v.kind ≠ 0)

/-- An option of a name; the first one; none. -/
def IsOpt (s : Nd) (name : ByteArray) : Prop := s.kind = 12 ∧ ((s.kid 0).kid 0).text = name
def FirstOpt (ss : List Nd) (name : ByteArray) (i : Nat) (s : Nd) : Prop := ss[i]? = some s ∧ IsOpt s name ∧ ∀ (l : Nat) (r : Nd), l < i → ss[l]? = some r → ¬ IsOpt r name
def NoOpt (ss : List Nd) (name : ByteArray) : Prop := ∀ (l : Nat) (r : Nd), ss[l]? = some r → ¬ IsOpt r name

theorem optNo (T : TypeId) (h : T ≠ 141) (p : Value) (w : World) : Sem.run Tryz.prog (Instr.typeAssert (.iface T p) 108 141 true) w = .ok (.tuple #[.pointer none, .bool false]) w := by
  have hz : Sem.run Tryz.prog (zeroValue 141) w = .ok (.pointer none) w := by kernel_rfl
  unfold Instr.typeAssert
  simp [go_sem, hz, h]
theorem optYes (p : Value) (w : World) : Sem.run Tryz.prog (Instr.typeAssert (.iface 141 p) 108 141 true) w = .ok (.tuple #[p, .bool true]) w := by kernel_rfl
theorem varYes (p : Value) (w : World) : Sem.run Tryz.prog (Instr.typeAssert (.iface 133 p) 143 133 true) w = .ok (.tuple #[p, .bool true]) w := by kernel_rfl

theorem stmt_ty {k : Int} (h : k ∈ stmtL) (h2 : k ≠ 12) : pTy k ≠ 141 := by
  unfold stmtL at h
  simp only [List.mem_cons, List.not_mem_nil, or_false] at h
  rcases h with rfl | rfl | rfl | rfl | rfl | rfl | rfl | rfl
  all_goals first | decide | exact absurd rfl h2

/-- A statement that sets an option: its cells, and those of what it sets. -/
theorem opt_cells {A : Nat → Prop} {d : Nat} {w : World} {s a x v : Nd} {b : Nat} (hR : RepD A (d + 3) w s b) (hk : s.kind = 12) (hs : s.kids = [a]) (ha : a.kind = 10) (hxv : a.kids = [x, v]) (hx : x.kind = 33) :
    ∃ ba bx bv, w.cell? ⟨b, 3, none⟩ = some (.iface 133 (.pointer (some ⟨ba, 0, none⟩))) ∧ w.cell? ⟨ba, 3, none⟩ = some (.pointer (some ⟨bx, 0, none⟩)) ∧ w.cell? ⟨bx, 3, none⟩ = some (.string x.text) ∧
      w.cell? ⟨ba, 4, none⟩ = some (.iface (pTy v.kind) (.pointer (some ⟨bv, 0, none⟩))) ∧ RepD A (d + 1) w v bv := by
  obtain ⟨hA, cs, hb, hsl⟩ := hR
  rw [slots_12 _ hk] at hsl
  have e0 : s.kid 0 = a := by unfold Nd.kid; rw [hs]; rfl
  rw [e0] at hsl
  match cs, hsl with
  | [v0, v1, v2, v3], ⟨_, _, _, h3, _⟩ =>
    obtain ⟨ba, rfl, hRa⟩ := (show IfcTo (RepD A (d + 2)) w a v3 from h3)
    obtain ⟨hA2, cs2, hb2, hsl2⟩ := hRa
    rw [slots_10 _ ha] at hsl2
    have e1 : a.kid 0 = x := by unfold Nd.kid; rw [hxv]; rfl
    have e2 : a.kid 1 = v := by unfold Nd.kid; rw [hxv]; rfl
    rw [e1, e2] at hsl2
    match cs2, hsl2 with
    | [u0, u1, u2, u3, u4], ⟨_, _, _, g3, g4, _⟩ =>
      obtain ⟨bx, rfl, hRx⟩ := (show PtrTo (RepD A (d + 1)) w x u3 from g3)
      obtain ⟨bv, rfl, hRv⟩ := (show IfcTo (RepD A (d + 1)) w v u4 from g4)
      refine ⟨ba, bx, bv, ?_, ?_, text_cell hRx (Or.inl hx), ?_, hRv⟩
      · rw [Lib.cell_of_heap hb, ha, show pTy 10 = 133 from ptrTy_10]; rfl
      · rw [Lib.cell_of_heap hb2]; rfl
      · rw [Lib.cell_of_heap hb2]; rfl

/-- What is found among a file's options. -/
def OptPost (A : Nat → Prop) (d : Nat) (ss : List Nd) (name : ByteArray) (w : World) (e : Ending) (w' : World) : Prop :=
  ((∃ (i : Nat) (s : Nd) (b : Nat), FirstOpt ss name i s ∧ e = .returned (.tuple #[.iface (pTy ((s.kid 0).kid 1).kind) (.pointer (some ⟨b, 0, none⟩)), .nilIface]) ∧ RepD A d w ((s.kid 0).kid 1) b) ∨
    (NoOpt ss name ∧ ∃ T p, e = .returned (.tuple #[.nilIface, .iface T p]))) ∧ Below w.heap.size w w'

set_option maxRecDepth 100000 in
theorem editOpt (d : Nat) (A : Nat → Prop) (n : Nd) (b : Nat) (name : ByteArray) (w : World) (hR : RepD A (d + 4) w n b) (hk : n.kind = 3) (hm : (n.kid 2).kids.length ≤ 1000) (hP : StmtsP (n.kid 2).kids) :
    Calls Tryz.prog 53 #[.pointer (some ⟨b, 0, none⟩), .string name] w (OptPost A (d + 1) (n.kid 2).kids name w) := by
  obtain ⟨hA, cs, hb, hs⟩ := hR
  rw [slots_3 _ hk] at hs
  match cs, hs with
  | [v0, v1, v2, v3, v4, v5, v6, v7, v8], ⟨_, _, _, _, _, _, _, e7, _, _⟩ =>
    generalize (n.kid 2).kids = ss at hm hP e7 ⊢
    obtain ⟨aoL, capL, rfl, hHL⟩ := HeldList.of (ptr := false) (R := RepD A (d + 3)) (ns := ss) (v := v7) (w := w) (A := A) e7
    have c7 : w.cell? ⟨b, 7, none⟩ = some (.slice aoL ss.length capL) := by rw [Lib.cell_of_heap hb]; rfl
    obtain ⟨len, hlen⟩ : ∃ len, ss.length = len := ⟨_, rfl⟩
    rw [hlen] at c7 hm
    have HN := Lib.hid hlen
    have HHL := Lib.hid hHL
    have HP := Lib.hid hP
    clear hlen hHL hP e7 hb hA hk
    go_enter Tryz.func53, Tryz.ntmps53
    go_wp2_with fail
    go_loopg [18] len (fun gk i wr => wr = w ∧ ∃ (j : Nat), j ≤ len ∧ gk = len - j ∧ i = .int .i64 (j : Int) ∧ Hid (∀ (l : Nat) (r : Nd), l < j → ss[l]? = some r → ¬ IsOpt r name))
    case atStart => exact ⟨rfl, 0, by omega, by omega, rfl, Lib.hid (fun l r h => absurd h (by omega))⟩
    case round =>
      obtain ⟨rfl, j, hj, rfl, rfl, hD⟩ := hrel
      by_cases hjn : j < len
      · have hjz : (j : Int) < (len : Int) := by omega
        obtain ⟨s, hs⟩ : ∃ s, ss[j]? = some s := ⟨ss[j]'(by have := HN.out; omega), List.getElem?_eq_getElem _⟩
        obtain ⟨g0, z, rfl, c0, hh⟩ := HHL.out j s hs
        obtain ⟨bs, rfl, hRs⟩ := (show IfcTo (RepD A (d + 3)) wr s z from hh)
        obtain ⟨hks, hop⟩ := HP.out j s hs
        have HS := Lib.hid hs
        by_cases h12 : s.kind = 12
        · obtain ⟨a, x, v, hsa, hka, hax, hkx, hkv⟩ := hop h12
          obtain ⟨ba, bx, bv, d3, d4, d5, d6, hRv⟩ := opt_cells hRs h12 hsa hka hax hkx
          rw [h12, show pTy 12 = 141 from ptrTy_12] at c0
          have q1 := optYes (.pointer (some ⟨bs, 0, none⟩)) wr
          have q2 := varYes (.pointer (some ⟨ba, 0, none⟩)) wr
          have ev : (s.kid 0).kid 1 = v := by unfold Nd.kid; rw [hsa]; show a.kids.getD 1 _ = v; rw [hax]; rfl
          have ex : (s.kid 0).kid 0 = x := by unfold Nd.kid; rw [hsa]; show a.kids.getD 0 _ = x; rw [hax]; rfl
          have HEV := Lib.hid ev
          have HIS := Lib.hid (show IsOpt s name ↔ x.text = name from ⟨fun h => by rw [← ex]; exact h.2, fun h => ⟨h12, by rw [ex]; exact h⟩⟩)
          have HR := Lib.hid hRv
          generalize hT2 : pTy v.kind = T2 at d6
          have HT2 := Lib.hid hT2
          clear hs hh hRs hks hop h12 hsa hka hax hkx hkv hRv ev ex hT2
          by_cases hkey : x.text.toList = name.toList
          · have hke : (x.text.toList == name.toList) = true := by simpa using hkey
            have HE := Lib.hid (bytes_eq hkey)
            clear hkey
            go_wp2_with fail
            go_ret2
            refine ⟨Or.inl ⟨j, s, bv, ⟨HS.out, HIS.out.2 HE.out, hD.out⟩, ?_, ?_⟩, Below.refl _ _⟩
            · rw [HEV.out, HT2.out]; rfl
            · rw [HEV.out]; exact HR.out
          · have hke : (x.text.toList == name.toList) = false := by simpa using hkey
            have HE := Lib.hid hkey
            clear hkey
            go_wp2_with fail
            go_roundg (len - (j + 1))
            case measure => omega
            case rel =>
              refine ⟨rfl, j + 1, by omega, rfl, by push_cast; rfl, Lib.hid (fun l r hl hr => ?_)⟩
              by_cases e : l = j
              · subst e
                rw [HS.out] at hr
                cases hr
                exact fun h => HE.out (by rw [HIS.out.1 h])
              · exact hD.out l r (by omega) hr
        · have q1 := optNo (pTy s.kind) (stmt_ty hks h12) (.pointer (some ⟨bs, 0, none⟩)) wr
          have HK := Lib.hid h12
          generalize pTy s.kind = T at q1 c0
          clear hs hh hRs hks hop h12
          go_wp2_with fail
          go_roundg (len - (j + 1))
          case measure => omega
          case rel =>
            refine ⟨rfl, j + 1, by omega, rfl, by push_cast; rfl, Lib.hid (fun l r hl hr => ?_)⟩
            by_cases e : l = j
            · subst e
              rw [HS.out] at hr
              cases hr
              exact fun h => HK.out h.1
            · exact hD.out l r (by omega) hr
      · have hjz : ¬ (j : Int) < (len : Int) := by omega
        obtain rfl : j = len := by omega
        go_wp2_with fail
        refine (newError _ _).mono ?_
        rintro e w1 ⟨T, p, rfl, hb1⟩
        have HB := Lib.hid hb1
        clear hb1
        go_wp2_with fail
        go_ret2
        refine ⟨Or.inr ⟨fun l r hr => hD.out l r (by have := (List.getElem?_eq_some_iff.1 hr).1; have := HN.out; omega) hr, _, _, rfl⟩, HB.out⟩
end Go.Proofs.YtongafghllkomaaGreatDoor

namespace Go.Proofs.YtongafghllkomaaGreatDoor
open Go.RowKit
set_option linter.unusedVariables false

/-- What impl.GetOption hands back. -/
def OptGet (ss : List Nd) (name : ByteArray) (w : World) (e : Ending) (w' : World) : Prop :=
  ((∃ (i : Nat) (s : Nd) (D : Nat) (m : Nd), FirstOpt ss name i s ∧ e = .returned (.tuple #[.agg #[.int .i64 m.kind, .string m.text, .string m.more, .int .u64 m.num, .slice m.ao m.kids.length m.cap], .bool true]) ∧ SameD D ((s.kid 0).kid 1) m ∧ LiesD D w' m) ∨
  (NoOpt ss name ∧ e = .returned (.tuple #[.agg #[.int .i64 0, .string ⟨#[]⟩, .string ⟨#[]⟩, .int .u64 0, .slice none 0 0], .bool false]))) ∧ Below w.heap.size w w'

/-- A file's statements. -/
theorem file_kids {n : Nd} (hG : GoodD 12 n) (hk : n.kind = 3) : n.kids.length = 3 ∧ (n.kid 2).kids.length ≤ 400 ∧ PreD 11 (n.kid 2) ∧ (n.kid 2).kind = 1 ∧ (∀ x ∈ (n.kid 2).kids, isStmtB x.kind = true) ∧ n.kids[2]? = some (n.kid 2) := by
  have hP := hG.pre
  have h1 := (hP.fit (by omega)).2.2.2.1 (by omega)
  rw [hk, show (fixedL 3).length = 3 from by decide, show restL 3 = 28 from by decide] at h1
  have hl : n.kids.length = 3 := by omega
  have h2 : n.kids[2]? = some (n.kid 2) := by
    unfold Nd.kid
    rw [List.getD_eq_getElem?_getD, List.getElem?_eq_getElem (by omega)]; rfl
  obtain ⟨hP2, hC⟩ := hP.kid (i := 2) (by omega) h2
  have h18 := hC (by omega)
  rw [hk, show (fixedL 3).getD 2 (restL 3) = 18 from by decide] at h18
  obtain ⟨h3, h4⟩ := class_18 h18
  exact ⟨hl, hP2.small, hP2, h3, h4, h2⟩

theorem opt_val_good {n s : Nd} {i : Nat} (hG : GoodD 12 n) (hk : n.kind = 3) (hs : (n.kid 2).kids[i]? = some s) (h12 : s.kind = 12) (hP : StmtsP (n.kid 2).kids) (hW : WfN n) : GoodW 8 ((s.kid 0).kid 1) := by
  obtain ⟨-, -, hP2, hk2, -, hk2'⟩ := file_kids hG hk
  obtain ⟨-, hop⟩ := hP i s hs
  obtain ⟨a, x, v, hsa, hka, hax, hkx, hkv⟩ := hop h12
  have ev : (s.kid 0).kid 1 = v := by unfold Nd.kid; rw [hsa]; show a.kids.getD 1 _ = v; rw [hax]; rfl
  obtain ⟨hPs, -⟩ := hP2.kid (i := i) (x := s) (by omega) hs
  have ha0 : s.kids[0]? = some a := by rw [hsa]; rfl
  obtain ⟨hPa, -⟩ := hPs.kid (i := 0) (x := a) (by omega) ha0
  have hv1 : a.kids[1]? = some v := by rw [hax]; rfl
  obtain ⟨hPv, hC⟩ := hPa.kid (i := 1) (x := v) (by omega) hv1
  have h0 : ofClassB v 0 = true := by
    have h := hC (by omega)
    rw [hka, show (fixedL 10).getD 1 (restL 10) = 0 from by decide] at h
    exact h
  rw [ev]
  exact ⟨hPv.good (expr_walk (class_0 h0)), (((hW.kid hk2').kid hs).kid ha0).kid hv1⟩

set_option maxRecDepth 100000 in
set_option maxHeartbeats 1000000 in
theorem implOpt (n : Nd) (name : ByteArray) (D : Nat) (w : World) (hL : LiesD D w n) (hG : GoodD 12 n) (hk : n.kind = 3) (hP : StmtsP (n.kid 2).kids) :
    Calls Tryz.prog 23 #[n.val, .string name] w (OptGet (n.kid 2).kids name w) := by
  have hfk := file_kids hG hk
  have HVG := Lib.hid (fun (i : Nat) (s : Nd) (hs : (n.kid 2).kids[i]? = some s) (h12 : s.kind = 12) => opt_val_good hG hk hs h12 hP ⟨D, w, hL⟩)
  have HE := Lib.hid (fun (A : Nat → Prop) (b : Nat) (W : World) (hR : RepD A (8 + 4) W n b) => editOpt 8 A n b name W hR hk (by have := hfk.2.1; omega) hP)
  have HL := Lib.hid hL
  have HG := Lib.hid hG
  have HK := Lib.hid hk
  clear hfk hP hL hG hk
  obtain ⟨k, t, m, u, ao, cap, kids⟩ := n
  obtain rfl : k = 3 := HK.out
  show Calls _ _ #[.agg #[.int .i64 3, .string t, .string m, .int .u64 u, .slice ao kids.length cap], _] w _
  go_enter_defers Tryz.func23, Tryz.ntmps23
  go_wp2_with fail
  refine (nodeOf_3 12 (un_all 12) (.mk 3 t m u ao cap kids) D _ (HL.out.below ((((Below.refl _ _).alloc (Nat.le_refl _) _).alloc (by simp) _).alloc (by first | omega | (simp; done) | (simp; omega)) _)) HG.out rfl).mono ?_
  rintro e w1 ⟨b, rfl, hR, hb⟩
  have HR := Lib.hid hR
  have HB := Lib.hid (((((Below.refl w.heap.size w).alloc (Nat.le_refl _) _).alloc (by simp) _).alloc (by first | omega | (simp; done) | (simp; omega)) _).trans (hb.mono (by first | omega | (simp; done) | (simp; omega))))
  obtain ⟨k1, f1⟩ := bblk hb (b := w.heap.size + 1) (by first | omega | (simp; done) | (simp; omega))
  obtain ⟨k2, f2⟩ := bblk hb (b := w.heap.size + 1 + 1) (by first | omega | (simp; done) | (simp; omega))
  have hz1 : w.heap.size + 1 + 1 < w1.heap.size := by have := hb.size; simp at this; omega
  clear hb hR
  go_wp2_with fail
  refine (HE.out _ b _ HR.out).mono ?_
  rintro e w2 ⟨hf, hb2⟩
  have HB2 := Lib.hid (HB.out.trans (hb2.mono HB.out.size))
  obtain ⟨k11, f11⟩ := bblk hb2 (b := w.heap.size + 1) (by omega)
  obtain ⟨k12, f12⟩ := bblk hb2 (b := w.heap.size + 1 + 1) (by omega)
  have hz2 : w.heap.size + 1 + 1 < w2.heap.size := by have := hb2.size; omega
  have hb2' := Lib.hid hb2
  clear hb2
  rcases hf with ⟨i, s, b2, hfa, rfl, hRy⟩ | ⟨hno, T, p, rfl⟩
  · have HFA := Lib.hid hfa
    have HRY := Lib.hid (hRy.below hb2'.out)
    have HGY := Lib.hid (HVG.out i s hfa.1 hfa.2.1.1)
    have HX := Lib.hid (fun W (hbW : Below w2.heap.size w2 W) => exprOrNone 9 (node_all 9) 8 _ _ b2 W HGY.out (HRY.out.below hbW))
    clear hfa hRy
    generalize pTy ((s.kid 0).kid 1).kind = T at HX ⊢
    go_wp2_with fail
    refine (HX.out _ (Below.refl _ _)).mono ?_
    rintro e w3 ⟨E, m3, rfl, hS, hl, hb3⟩
    have HS := Lib.hid hS
    have Hl := Lib.hid hl
    obtain ⟨k21, f21⟩ := bblk hb3 (b := w.heap.size + 1) (by omega)
    obtain ⟨k22, f22⟩ := bblk hb3 (b := w.heap.size + 1 + 1) (by omega)
    have HB3 := Lib.hid (HB2.out.trans (hb3.mono HB2.out.size))
    clear hS hl hb3
    go_wp2_with fail
    refine leaves_cons (f := 46) (args := #[.pointer (some ⟨w.heap.size + 1, 0, none⟩), .pointer (some ⟨w.heap.size + 1 + 1, 0, none⟩)]) (by simp) (by simp [go_sem]) ?_
    refine (noNode_idle _ _ _).mono ?_
    rintro e u2 w4 ⟨rfl, rfl, rfl⟩
    simp [Leaves, settle, results, Tryz.results23, go_sem, k21, k22, k11, k12, k1, k2]
    refine ⟨Or.inl ⟨i, s, E, m3, HFA.out, rfl, HS.out, get_lies Hl.out hz2 (fun c hc => ?_)⟩, ?_⟩
    · rw [Below.heap_setCell _ _ _ _ (by first | omega | (simp; done) | (simp; omega)), Below.heap_setCell _ _ _ _ (by first | omega | (simp; done) | (simp; omega)), Below.heap_setCell _ _ _ _ (by first | omega | (simp; done) | (simp; omega)), Below.heap_setCell _ _ _ _ (by first | omega | (simp; done) | (simp; omega)), Below.heap_setCell _ _ _ _ (by first | omega | (simp; done) | (simp; omega)), Below.heap_setCell _ _ _ _ (by first | omega | (simp; done) | (simp; omega))]
    · exact (((((HB3.out.setCell (p := ⟨w.heap.size + 1, 0, none⟩) (by first | omega | (simp; done) | (simp; omega)) _).setCell (p := ⟨w.heap.size + 1, 1, none⟩) (by first | omega | (simp; done) | (simp; omega)) _).setCell (p := ⟨w.heap.size + 1, 2, none⟩) (by first | omega | (simp; done) | (simp; omega)) _).setCell (p := ⟨w.heap.size + 1, 3, none⟩) (by first | omega | (simp; done) | (simp; omega)) _).setCell (p := ⟨w.heap.size + 1, 4, none⟩) (by first | omega | (simp; done) | (simp; omega)) _).setCell (p := ⟨w.heap.size + 1 + 1, 0, none⟩) (by first | omega | (simp; done) | (simp; omega)) _
  · have HNO := Lib.hid hno
    clear hno
    go_wp2_with fail
    refine leaves_cons (f := 46) (args := #[.pointer (some ⟨w.heap.size + 1, 0, none⟩), .pointer (some ⟨w.heap.size + 1 + 1, 0, none⟩)]) (by simp) (by simp [go_sem]) ?_
    refine (noNode_idle _ _ _).mono ?_
    rintro e u2 w4 ⟨rfl, rfl, rfl⟩
    simp [Leaves, settle, results, Tryz.results23, go_sem, k11, k12, k1, k2]
    refine ⟨Or.inr ⟨HNO.out, rfl⟩, ?_⟩
    exact (((((HB2.out.setCell (p := ⟨w.heap.size + 1, 0, none⟩) (by first | omega | (simp; done) | (simp; omega)) _).setCell (p := ⟨w.heap.size + 1, 1, none⟩) (by first | omega | (simp; done) | (simp; omega)) _).setCell (p := ⟨w.heap.size + 1, 2, none⟩) (by first | omega | (simp; done) | (simp; omega)) _).setCell (p := ⟨w.heap.size + 1, 3, none⟩) (by first | omega | (simp; done) | (simp; omega)) _).setCell (p := ⟨w.heap.size + 1, 4, none⟩) (by first | omega | (simp; done) | (simp; omega)) _).setCell (p := ⟨w.heap.size + 1 + 1, 0, none⟩) (by first | omega | (simp; done) | (simp; omega)) _
end Go.Proofs.YtongafghllkomaaGreatDoor

namespace Go.Proofs.YtongafghllkomaaGreatDoor
open Go.RowKit
set_option linter.unusedVariables false

def varN (ao : Option Addr) : Nd := .mk 10 ⟨#[]⟩ ⟨#[]⟩ 0 ao 2 [leafN 33 ⟨#[97]⟩, fiveN]
def optN (ao ao2 : Option Addr) : Nd := .mk 12 ⟨#[]⟩ ⟨#[]⟩ 0 ao 1 [varN ao2]
def bodyN (ao ao2 ao3 : Option Addr) : Nd := .mk 1 ⟨#[]⟩ ⟨#[]⟩ 0 ao 1 [optN ao2 ao3]
def fileN (ao ao2 ao3 ao4 : Option Addr) : Nd := .mk 3 ⟨#[]⟩ ⟨#[]⟩ 0 ao 3 [Nd.none, leafN 1 ⟨#[]⟩, bodyN ao2 ao3 ao4]

theorem at1 {a x : Nd} {i : Nat} (h : [a][i]? = some x) : i = 0 ∧ x = a := by
  match i, h with
  | 0, h => exact ⟨rfl, by simpa using h.symm⟩
  | n + 1, h => simp at h
theorem at3 {a b c x : Nd} {i : Nat} (h : [a, b, c][i]? = some x) : (i = 0 ∧ x = a) ∨ (i = 1 ∧ x = b) ∨ (i = 2 ∧ x = c) := by
  match i, h with
  | 0, h => exact Or.inl ⟨rfl, by simpa using h.symm⟩
  | 1, h => exact Or.inr (Or.inl ⟨rfl, by simpa using h.symm⟩)
  | 2, h => exact Or.inr (Or.inr ⟨rfl, by simpa using h.symm⟩)
  | n + 3, h => simp at h

theorem var_fit (d : Nat) (ao : Option Addr) : FitP (d + 2) (varN ao) := by
  refine Or.inr ⟨by show (0 : Int) < 10; decide, by show (10 : Int) < 54; decide, plain_of (Or.inr trivial) (by decide), fun _ => ⟨by show (fixedL 10).length ≤ 2; decide, Or.inl (by show 2 ≤ (fixedL 10).length; decide)⟩, fun i x hx => ?_, fun h => absurd h (by show (10 : Int) ≠ 27; decide)⟩
  rcases at2 hx with ⟨rfl, rfl⟩ | ⟨rfl, rfl⟩
  · exact ⟨fun _ => by show ofClassB (leafN 33 ⟨#[97]⟩) ((fixedL 10).getD 0 (restL 10)) = true; decide, ident_fit d _ (by decide)⟩
  · exact ⟨fun _ => by show ofClassB fiveN ((fixedL 10).getD 1 (restL 10)) = true; decide, five_fit d⟩

theorem opt_fit (d : Nat) (ao ao2 : Option Addr) : FitP (d + 3) (optN ao ao2) := by
  refine Or.inr ⟨by show (0 : Int) < 12; decide, by show (12 : Int) < 54; decide, plain_of (Or.inr trivial) (by decide), fun _ => ⟨by show (fixedL 12).length ≤ 1; decide, Or.inl (by show 1 ≤ (fixedL 12).length; decide)⟩, fun i x hx => ?_, fun h => absurd h (by show (12 : Int) ≠ 27; decide)⟩
  obtain ⟨rfl, rfl⟩ := at1 hx
  exact ⟨fun _ => by show ofClassB (Nd.mk 10 ⟨#[]⟩ ⟨#[]⟩ 0 ao2 2 [leafN 33 ⟨#[97]⟩, fiveN]) ((fixedL 12).getD 0 (restL 12)) = true; rw [show (fixedL 12).getD 0 (restL 12) = 12 from by decide]; rfl, var_fit d ao2⟩

theorem body_fit (d : Nat) (ao ao2 ao3 : Option Addr) : FitP (d + 4) (bodyN ao ao2 ao3) := by
  refine Or.inr ⟨by show (0 : Int) < 1; decide, by show (1 : Int) < 54; decide, plain_of (Or.inr trivial) (by decide), fun h => absurd rfl h, fun i x hx => ?_, fun h => absurd h (by show (1 : Int) ≠ 27; decide)⟩
  obtain ⟨rfl, rfl⟩ := at1 hx
  exact ⟨fun h => absurd rfl h, opt_fit d ao2 ao3⟩

theorem list_fit (d : Nat) : FitP (d + 1) (leafN 1 ⟨#[]⟩) :=
  Or.inr ⟨by show (0 : Int) < 1; decide, by show (1 : Int) < 54; decide, plain_of (Or.inr trivial) (by decide), fun h => absurd rfl h, fun i x hx => nil_at hx, fun h => absurd h (by show (1 : Int) ≠ 27; decide)⟩

theorem file_fit (d : Nat) (ao ao2 ao3 ao4 : Option Addr) : FitP (d + 5) (fileN ao ao2 ao3 ao4) := by
  refine Or.inr ⟨by show (0 : Int) < 3; decide, by show (3 : Int) < 54; decide, plain_of (Or.inr trivial) (by decide), fun _ => ⟨by show (fixedL 3).length ≤ 3; decide, Or.inl (by show 3 ≤ (fixedL 3).length; decide)⟩, fun i x hx => ?_, fun h => absurd h (by show (3 : Int) ≠ 27; decide)⟩
  rcases at3 hx with ⟨rfl, rfl⟩ | ⟨rfl, rfl⟩ | ⟨rfl, rfl⟩
  · exact ⟨fun _ => by show ofClassB Nd.none ((fixedL 3).getD 0 (restL 3)) = true; decide, none_fit _⟩
  · exact ⟨fun _ => by show ofClassB (leafN 1 ⟨#[]⟩) ((fixedL 3).getD 1 (restL 3)) = true; decide, list_fit _⟩
  · exact ⟨fun _ => by show ofClassB (Nd.mk 1 ⟨#[]⟩ ⟨#[]⟩ 0 ao2 1 [optN ao3 ao4]) ((fixedL 3).getD 2 (restL 3)) = true; rw [show (fixedL 3).getD 2 (restL 3) = 18 from by decide]; rfl, body_fit d ao2 ao3 ao4⟩

theorem var_none (d : Nat) (ao : Option Addr) : NoneD d (varN ao) 13 := by
  cases d with
  | zero => exact trivial
  | succ d =>
    refine ⟨by show (10 : Int) ≠ 13; decide, fun i x hx => ?_⟩
    rcases at2 hx with ⟨rfl, rfl⟩ | ⟨rfl, rfl⟩
    · exact leaf_none d _ _ _ (by decide)
    · exact five_none d
theorem var_small (d : Nat) (ao : Option Addr) : SmallD d (varN ao) := by
  cases d with
  | zero => exact trivial
  | succ d =>
    refine ⟨⟨by show 2 ≤ 400; decide, Nat.le_refl 2⟩, fun i x hx => ?_⟩
    rcases at2 hx with ⟨rfl, rfl⟩ | ⟨rfl, rfl⟩
    · exact leaf_small d _ _
    · exact five_small d
theorem opt_none (d : Nat) (ao ao2 : Option Addr) : NoneD d (optN ao ao2) 13 := by
  cases d with
  | zero => exact trivial
  | succ d =>
    refine ⟨by show (12 : Int) ≠ 13; decide, fun i x hx => ?_⟩
    obtain ⟨rfl, rfl⟩ := at1 hx
    exact var_none d ao2
theorem opt_small (d : Nat) (ao ao2 : Option Addr) : SmallD d (optN ao ao2) := by
  cases d with
  | zero => exact trivial
  | succ d =>
    refine ⟨⟨by show 1 ≤ 400; decide, Nat.le_refl 1⟩, fun i x hx => ?_⟩
    obtain ⟨rfl, rfl⟩ := at1 hx
    exact var_small d ao2
theorem body_none (d : Nat) (ao ao2 ao3 : Option Addr) : NoneD d (bodyN ao ao2 ao3) 13 := by
  cases d with
  | zero => exact trivial
  | succ d =>
    refine ⟨by show (1 : Int) ≠ 13; decide, fun i x hx => ?_⟩
    obtain ⟨rfl, rfl⟩ := at1 hx
    exact opt_none d ao2 ao3
theorem body_small (d : Nat) (ao ao2 ao3 : Option Addr) : SmallD d (bodyN ao ao2 ao3) := by
  cases d with
  | zero => exact trivial
  | succ d =>
    refine ⟨⟨by show 1 ≤ 400; decide, Nat.le_refl 1⟩, fun i x hx => ?_⟩
    obtain ⟨rfl, rfl⟩ := at1 hx
    exact opt_small d ao2 ao3

theorem file_good (ao ao2 ao3 ao4 : Option Addr) : GoodD 12 (fileN ao ao2 ao3 ao4) := by
  refine ⟨file_fit 7 ao ao2 ao3 ao4, ⟨by show (3 : Int) ≠ 13; decide, fun i x hx => ?_⟩, ⟨⟨by show 3 ≤ 400; decide, Nat.le_refl 3⟩, fun i x hx => ?_⟩, by show (3 : Int) ∈ walkL; decide⟩
  · rcases at3 hx with ⟨rfl, rfl⟩ | ⟨rfl, rfl⟩ | ⟨rfl, rfl⟩
    · exact leaf_none 11 0 ⟨#[]⟩ 13 (by decide)
    · exact leaf_none 11 1 ⟨#[]⟩ 13 (by decide)
    · exact body_none 11 ao2 ao3 ao4
  · rcases at3 hx with ⟨rfl, rfl⟩ | ⟨rfl, rfl⟩ | ⟨rfl, rfl⟩
    · exact leaf_small 11 0 ⟨#[]⟩
    · exact leaf_small 11 1 ⟨#[]⟩
    · exact body_small 11 ao2 ao3 ao4

theorem file_stmts (ao ao2 ao3 ao4 : Option Addr) : StmtsP ((fileN ao ao2 ao3 ao4).kid 2).kids := by
  intro i s hs
  obtain ⟨rfl, rfl⟩ := at1 (show [optN ao3 ao4][i]? = some s from hs)
  exact ⟨by show (12 : Int) ∈ stmtL; decide, fun _ => ⟨varN ao4, leafN 33 ⟨#[97]⟩, fiveN, rfl, rfl, rfl, rfl, by show (36 : Int) ≠ 0; decide⟩⟩

/-- What aFile hands back. -/
def FilePost (w : World) (e : Ending) (w' : World) : Prop := ∃ ao ao2 ao3 ao4, e = .returned (.agg #[.int .i64 3, .string ⟨#[]⟩, .string ⟨#[]⟩, .int .u64 0, .slice ao 3 3]) ∧ LiesD 5 w' (fileN ao ao2 ao3 ao4) ∧ Below w.heap.size w w'
theorem aFile_any (w : World) : Calls Tryz.prog 18 #[] w (FilePost w) := by
  go_enter Tryz.func18, Tryz.ntmps18
  go_wp2_with fail
  refine (tree_any 1 ⟨#[]⟩ none 0 0 _).mono ?_
  rintro e w1 ⟨rfl, hb1⟩
  have HZ1 := Lib.hid hb1
  have hz1 : w.heap.size < w1.heap.size := by have := hb1.size; simp at this; omega
  clear hb1
  go_wp2_with fail
  refine (tree_any 33 ⟨#[97]⟩ none 0 0 _).mono ?_
  rintro e w2 ⟨rfl, hb2⟩
  have HZ2 := Lib.hid (HZ1.out.trans (hb2.mono HZ1.out.size))
  have hz2 : w.heap.size < w2.heap.size := by have := hb2.size; omega
  clear hb2
  go_wp2_with fail
  refine (five_any _).mono ?_
  rintro e w3 ⟨rfl, hb3⟩
  have HZ3 := Lib.hid (HZ2.out.trans (hb3.mono HZ2.out.size))
  have hz3 : w.heap.size < w3.heap.size := by have := hb3.size; omega
  clear hb3
  unfold fiveN Nd.val
  simp only [Nd.kind, Nd.text, Nd.more, Nd.num, Nd.ao, Nd.kids, Nd.cap, List.length_nil]
  go_wp2_with fail
  refine (tree_any 10 ⟨#[]⟩ (some ⟨w3.heap.size, 0, none⟩) 2 2 _).mono ?_
  rintro e w4 ⟨rfl, hb4⟩
  have HV := Lib.hid (LiesIn.below (lies_row (A := From (w.heap.size + 1)) (w := w3) (D := 1) (k := 10) (t := ⟨#[]⟩) (mo := ⟨#[]⟩) (u := 0) (cap := 2) (ms := [leafN 33 ⟨#[97]⟩, fiveN]) (T := 25) (wf_plain (by decide) (by show 2 ≤ maxLen; decide)) (by unfold From; omega) (fun x hx => by
    simp only [List.mem_cons, List.not_mem_nil, or_false] at hx
    rcases hx with rfl | rfl
    · exact leaf_lies _ 33 ⟨#[97]⟩ w3 (by decide) (by decide)
    · exact five_in _ w3) ) hb4)
  have HZ4 := Lib.hid ((HZ3.out.alloc HZ3.out.size (.cells #[.int .i64 33, .string ⟨#[97]⟩, .string ⟨#[]⟩, .int .u64 0, .slice none 0 0, .int .i64 36, .string ⟨#[]⟩, .string ⟨#[]⟩, .int .u64 5, .slice none 0 0] 25)).trans (hb4.mono (by simp; omega)))
  have hz4 : w.heap.size < w4.heap.size := by have := hb4.size; simp at this; omega
  clear hb4
  go_wp2_with fail
  refine (tree_any 12 ⟨#[]⟩ (some ⟨w4.heap.size, 0, none⟩) 1 1 _).mono ?_
  rintro e w5 ⟨rfl, hb5⟩
  have HO := Lib.hid (LiesIn.below (lies_row (A := From (w.heap.size + 1)) (w := w4) (D := 2) (k := 12) (t := ⟨#[]⟩) (mo := ⟨#[]⟩) (u := 0) (cap := 1) (ms := [varN (some ⟨w3.heap.size, 0, none⟩)]) (T := 25) (wf_plain (by decide) (by show 1 ≤ maxLen; decide)) (by unfold From; omega) (fun x hx => by
    simp only [List.mem_cons, List.not_mem_nil, or_false] at hx
    subst hx
    exact HV.out) ) hb5)
  have HZ5 := Lib.hid ((HZ4.out.alloc HZ4.out.size (.cells #[.int .i64 10, .string ⟨#[]⟩, .string ⟨#[]⟩, .int .u64 0, .slice (some ⟨w3.heap.size, 0, none⟩) 2 2] 25)).trans (hb5.mono (by simp; omega)))
  have hz5 : w.heap.size < w5.heap.size := by have := hb5.size; simp at this; omega
  clear hb5
  go_wp2_with fail
  refine (tree_any 1 ⟨#[]⟩ (some ⟨w5.heap.size, 0, none⟩) 1 1 _).mono ?_
  rintro e w6 ⟨rfl, hb6⟩
  have HBd := Lib.hid (LiesIn.below (lies_row (A := From (w.heap.size + 1)) (w := w5) (D := 3) (k := 1) (t := ⟨#[]⟩) (mo := ⟨#[]⟩) (u := 0) (cap := 1) (ms := [optN (some ⟨w4.heap.size, 0, none⟩) (some ⟨w3.heap.size, 0, none⟩)]) (T := 25) (wf_plain (by decide) (by show 1 ≤ maxLen; decide)) (by unfold From; omega) (fun x hx => by
    simp only [List.mem_cons, List.not_mem_nil, or_false] at hx
    subst hx
    exact HO.out) ) hb6)
  have HZ6 := Lib.hid ((HZ5.out.alloc HZ5.out.size (.cells #[.int .i64 12, .string ⟨#[]⟩, .string ⟨#[]⟩, .int .u64 0, .slice (some ⟨w4.heap.size, 0, none⟩) 1 1] 25)).trans (hb6.mono (by simp; omega)))
  have hz6 : w.heap.size < w6.heap.size := by have := hb6.size; simp at this; omega
  clear hb6
  go_wp2_with fail
  refine (tree_any 3 ⟨#[]⟩ (some ⟨w6.heap.size, 0, none⟩) 3 3 _).mono ?_
  rintro e w7 ⟨rfl, hb7⟩
  have HF := Lib.hid (LiesIn.below (lies_row (A := From (w.heap.size + 1)) (w := w6) (D := 4) (k := 3) (t := ⟨#[]⟩) (mo := ⟨#[]⟩) (u := 0) (cap := 3) (ms := [Nd.none, leafN 1 ⟨#[]⟩, bodyN (some ⟨w5.heap.size, 0, none⟩) (some ⟨w4.heap.size, 0, none⟩) (some ⟨w3.heap.size, 0, none⟩)]) (T := 25) (wf_plain (by decide) (by show 3 ≤ maxLen; decide)) (by unfold From; omega) (fun x hx => by
    simp only [List.mem_cons, List.not_mem_nil, or_false] at hx
    rcases hx with rfl | rfl | rfl
    · exact (leaf_lies _ 0 ⟨#[]⟩ w6 (by decide) (by decide)).up (by omega)
    · exact (leaf_lies _ 1 ⟨#[]⟩ w6 (by decide) (by decide)).up (by omega)
    · exact HBd.out) ) hb7)
  have HZ7 := Lib.hid ((HZ6.out.alloc HZ6.out.size (.cells #[.int .i64 0, .string ⟨#[]⟩, .string ⟨#[]⟩, .int .u64 0, .slice none 0 0, .int .i64 1, .string ⟨#[]⟩, .string ⟨#[]⟩, .int .u64 0, .slice none 0 0, .int .i64 1, .string ⟨#[]⟩, .string ⟨#[]⟩, .int .u64 0, .slice (some ⟨w5.heap.size, 0, none⟩) 1 1] 25)).trans (hb7.mono (by simp; omega)))
  have hz7 : w.heap.size < w7.heap.size := by have := hb7.size; simp at this; omega
  obtain ⟨k7, f7⟩ := bblk HZ7.out (b := w.heap.size) (by simp)
  have HB7 := Lib.hid (((Below.refl w.heap.size w).alloc (Nat.le_refl _) (.cells #[.int .i64 0, .string ⟨#[]⟩, .string ⟨#[]⟩, .int .u64 0, .slice none 0 0] 25)).trans (HZ7.out.mono (by simp)))
  clear hb7
  go_wp2_with fail
  refine bodyPost_ret (v := .agg #[.int .i64 3, .string ⟨#[]⟩, .string ⟨#[]⟩, .int .u64 0, .slice (some ⟨w6.heap.size, 0, none⟩) 3 3]) (by simp [results, Tryz.f18, go_sem, k7]) rfl ⟨some ⟨w6.heap.size, 0, none⟩, some ⟨w5.heap.size, 0, none⟩, some ⟨w4.heap.size, 0, none⟩, some ⟨w3.heap.size, 0, none⟩, rfl, ?_, ?_⟩
  · exact (HF.out.store5 (by omega) _ _ _ _ _).lies
  · exact ((((HB7.out.setCell (p := ⟨w.heap.size, 0, none⟩) (by simp) _).setCell (p := ⟨w.heap.size, 1, none⟩) (by simp) _).setCell (p := ⟨w.heap.size, 2, none⟩) (by simp) _).setCell (p := ⟨w.heap.size, 3, none⟩) (by simp) _).setCell (p := ⟨w.heap.size, 4, none⟩) (by simp) _
end Go.Proofs.YtongafghllkomaaGreatDoor

namespace Go.Proofs.YtongafghllkomaaGreatDoor
open Go.RowKit
set_option linter.unusedVariables false

/-- The name that an assignment sets. -/
def optName (a : Nd) : ByteArray := if a.kind = 10 then (a.kid 0).text else ⟨#[]⟩

set_option maxRecDepth 100000 in
theorem optName_any (D : Nat) (a : Nd) (w : World) (hL : LiesD D w a) (hk : a.kind = 10 → 0 < a.kids.length) :
    Calls Tryz.prog 52 #[a.val] w fun e w' => e = .returned (.string (optName a)) ∧ Below w.heap.size w w' := by
  obtain ⟨D, rfl⟩ : ∃ E, D = E + 1 := by cases D with | zero => exact hL.elim | succ E => exact ⟨E, rfl⟩
  obtain ⟨k, t, m, u, ao, cap, kids⟩ := a
  show Calls _ _ #[.agg #[.int .i64 k, .string t, .string m, .int .u64 u, .slice ao kids.length cap]] w _
  by_cases h10 : k = 10
  · subst h10
    have hl : 0 < kids.length := hk rfl
    obtain ⟨x, hx⟩ : ∃ x, kids[0]? = some x := ⟨kids[0]'hl, List.getElem?_eq_getElem _⟩
    obtain ⟨b, o, hao, -, c1, -⟩ := kid_cells hL hx ((Below.refl _ _).alloc (Nat.le_refl _) (.cells #[.int .i64 10, .string t, .string m, .int .u64 u, .slice ao kids.length cap] 25))
    obtain rfl : ao = some ⟨b, o, none⟩ := hao
    simp only [Nat.zero_mul, Nat.add_zero] at c1
    have he : optName (.mk 10 t m u (some ⟨b, o, none⟩) cap kids) = x.text := by
      unfold optName Nd.kid
      simp only [Nd.kind, Nd.kids, if_true]
      rw [List.getD_eq_getElem?_getD, hx]; rfl
    rw [he]
    generalize kids.length = len at hl c1 ⊢
    clear he hL hk hx
    go_enter Tryz.func52, Tryz.ntmps52
    go_wp2_with fail
    go_ret
    exact ⟨rfl, (Below.refl _ _).alloc (Nat.le_refl _) _⟩
  · have g0 : (k == 10) = false := by simpa using h10
    have he : optName (.mk k t m u ao cap kids) = ⟨#[]⟩ := by
      unfold optName
      rw [if_neg (show ¬ (Nd.mk k t m u ao cap kids).kind = 10 from h10)]
    rw [he]
    clear he h10 hL hk
    go_enter Tryz.func52, Tryz.ntmps52
    go_wp2_with fail
    go_ret
    exact ⟨rfl, (Below.refl _ _).alloc (Nat.le_refl _) _⟩

/-- A file's statements, in its third kid. -/
theorem file_of {n : Nd} (h : n.kids.length = 3) : ∃ x y z, n.kids = [x, y, z] := kids3 h

/-- The place of the first option of a name; none. -/
def OptAt (ss : List Nd) (name : ByteArray) (z : Int) : Prop := (∃ (i : Nat) (s : Nd), z = (i : Int) ∧ FirstOpt ss name i s) ∨ (z = -1 ∧ NoOpt ss name)

theorem optName_is {s a x v : Nd} {name : ByteArray} (h12 : s.kind = 12) (hsa : s.kids = [a]) (hka : a.kind = 10) (hax : a.kids = [x, v]) : IsOpt s name ↔ optName a = name := by
  have ea : s.kid 0 = a := by unfold Nd.kid; rw [hsa]; rfl
  unfold IsOpt optName
  rw [ea, if_pos hka]
  exact ⟨fun h => h.2, fun h => ⟨h12, h⟩⟩

/-- A file's third kid: its statements, in a later world. -/
theorem third {D : Nat} {w : World} {k : Int} {t m : ByteArray} {u : Int} {no : Option Addr} {ncap : Nat} {x0 x1 x2 : Nd} (hL : LiesD (D + 1) w (.mk k t m u no ncap [x0, x1, x2])) :
    ∃ b o, no = some ⟨b, o, none⟩ ∧ (∀ W, Below w.heap.size w W → W.cell? ⟨b, o + 10 + 4, none⟩ = some (.slice x2.ao x2.kids.length x2.cap)) ∧ b < w.heap.size ∧ LiesD D w x2 := by
  obtain ⟨b, o, hao, -, -, -, -, c4, hL2⟩ := kid_cells hL (j := 2) rfl (Below.refl _ _)
  refine ⟨b, o, hao, fun W hb => ?_, World.block_lt_of_cell? _ _ c4, hL2⟩
  exact (hb.cell (p := ⟨b, o + 2 * 5 + 4, none⟩) (World.block_lt_of_cell? _ _ c4)).trans c4

set_option maxRecDepth 100000 in
theorem option_at (D : Nat) (n : Nd) (name : ByteArray) (w : World) (hL : LiesD D w n) (h3 : n.kids.length = 3) (hP : StmtsP (n.kid 2).kids) :
    Calls Tryz.prog 20 #[n.val, .string name] w fun e w' => ∃ z : Int, e = .returned (.int .i64 z) ∧ OptAt (n.kid 2).kids name z ∧ Below w.heap.size w w' := by
  obtain ⟨D, rfl⟩ : ∃ E, D = E + 1 := by cases D with | zero => exact hL.elim | succ E => exact ⟨E, rfl⟩
  obtain ⟨k, t, m, u, no, ncap, kids⟩ := n
  obtain ⟨x0, x1, x2, rfl⟩ : ∃ x y z, kids = [x, y, z] := file_of (n := .mk k t m u no ncap kids) h3
  show Calls _ _ #[.agg #[.int .i64 k, .string t, .string m, .int .u64 u, .slice no 3 ncap], _] w _
  have e2 : (Nd.mk k t m u no ncap [x0, x1, x2]).kid 2 = x2 := rfl
  rw [e2] at hP ⊢
  obtain ⟨b, o, rfl, hc4, hbz, hL2⟩ := third hL
  obtain ⟨D, rfl⟩ : ∃ E, D = E + 1 := by cases D with | zero => exact hL2.elim | succ E => exact ⟨E, rfl⟩
  obtain ⟨k2, t2, m2, u2, ao2, cap2, ss⟩ := x2
  have c4 := hc4 _ ((Below.refl w.heap.size w).alloc (Nat.le_refl _) (.cells #[.int .i64 k, .string t, .string m, .int .u64 u, .slice (some ⟨b, o, none⟩) 3 ncap] 25))
  simp only [Nd.kids, Nd.ao, Nd.cap] at c4 hP ⊢
  have hM := hL2.len_le
  obtain ⟨len, hlen⟩ : ∃ len, ss.length = len := ⟨_, rfl⟩
  rw [hlen] at hM c4
  have HN := Lib.hid hlen
  have HL := Lib.hid hL2
  have HP := Lib.hid hP
  have H0 := Lib.hid (show Below w.heap.size w (w.alloc (.cells #[.int .i64 k, .string t, .string m, .int .u64 u, .slice (some ⟨b, o, none⟩) 3 ncap] 25)) from (Below.refl w.heap.size w).alloc (Nat.le_refl _) _)
  clear hlen hL hL2 hP h3 e2 hc4
  go_enter Tryz.func20, Tryz.ntmps20
  go_wp2_with fail
  go_loopg [13] len (fun gk i wr => ∃ (j : Nat), j ≤ len ∧ gk = len - j ∧ i = .int .i64 (j : Int) ∧ Hid (∀ (l : Nat) (r : Nd), l < j → ss[l]? = some r → ¬ IsOpt r name) ∧ Hid (Below w.heap.size w wr))
  case atStart => exact ⟨0, by omega, by omega, rfl, Lib.hid (fun l r h => absurd h (by omega)), H0⟩
  case round =>
    obtain ⟨j, hj, rfl, rfl, hD, hB⟩ := hrel
    by_cases hjn : j < len
    · have hjz : (j : Int) < (len : Int) := by omega
      obtain ⟨s, hs⟩ : ∃ s, ss[j]? = some s := ⟨ss[j]'(by have := HN.out; omega), List.getElem?_eq_getElem _⟩
      obtain ⟨bq, oq, hao, d0, d1, d2, d3, d4, hLs⟩ := kid_cells HL.out hs hB.out
      obtain rfl : ao2 = some ⟨bq, oq, none⟩ := hao
      have HS := Lib.hid hs
      obtain ⟨hks, hop⟩ := HP.out j s hs
      by_cases h12 : s.kind = 12
      · obtain ⟨a, x, v, hsa, hka, hax, hkx, hkv⟩ := hop h12
        have HIS := Lib.hid (optName_is (name := name) h12 hsa hka hax)
        obtain ⟨D, rfl⟩ : ∃ E, D = E + 1 := by cases D with | zero => exact hLs.elim | succ E => exact ⟨E, rfl⟩
        obtain ⟨k3, t3, m3, u3, ao3, cap3, kids3⟩ := s
        obtain rfl : k3 = 12 := h12
        obtain rfl : kids3 = [a] := hsa
        simp only [Nd.kind, Nd.text, Nd.more, Nd.num, Nd.ao, Nd.kids, Nd.cap, List.length_cons, List.length_nil, Nat.zero_add] at d0 d1 d2 d3 d4
        have HBs := Lib.hid (hB.out.alloc hB.out.size (.cells #[.int .i64 12, .string t3, .string m3, .int .u64 u3, .slice ao3 1 cap3] 25))
        obtain ⟨br, orr, hao3, g0, g1, g2, g3, g4, hLa⟩ := kid_cells hLs (j := 0) rfl ((Below.refl _ _).alloc (Nat.le_refl _) (.cells #[.int .i64 12, .string t3, .string m3, .int .u64 u3, .slice ao3 1 cap3] 25))
        obtain rfl : ao3 = some ⟨br, orr, none⟩ := hao3
        simp only [Nat.zero_mul, Nat.add_zero] at g0 g1 g2 g3 g4
        have HLA := Lib.hid hLa
        have HKA := Lib.hid (show a.kind = 10 → 0 < a.kids.length from fun _ => by rw [hax]; simp)
        clear hs hLs hks hop hka hax hkx hkv hLa
        by_cases hkey : (optName a).toList = name.toList
        · have hke : ((optName a).toList == name.toList) = true := by simpa using hkey
          have HE := Lib.hid (bytes_eq hkey)
          clear hkey
          generalize hon : optName a = nm at hke
          have HON := Lib.hid hon
          clear hon
          go_wp2_with fail
          refine (optName_any _ a _ HLA.out HKA.out).mono ?_
          rintro e w1 ⟨rfl, hb1⟩
          rw [HON.out]
          have HB1 := Lib.hid (HBs.out.trans (hb1.mono HBs.out.size))
          clear hb1
          go_wp2_with fail
          go_ret
          exact ⟨_, rfl, Or.inl ⟨j, _, rfl, HS.out, HIS.out.2 HE.out, hD.out⟩, HB1.out⟩
        · have hke : ((optName a).toList == name.toList) = false := by simpa using hkey
          have HE := Lib.hid hkey
          clear hkey
          generalize hon : optName a = nm at hke
          have HON := Lib.hid hon
          clear hon
          go_wp2_with fail
          refine (optName_any _ a _ HLA.out HKA.out).mono ?_
          rintro e w1 ⟨rfl, hb1⟩
          rw [HON.out]
          have HB1 := Lib.hid (HBs.out.trans (hb1.mono HBs.out.size))
          clear hb1
          go_wp2_with fail
          go_roundg (len - (j + 1))
          case measure => omega
          case rel =>
            refine ⟨j + 1, by omega, rfl, by push_cast; rfl, Lib.hid (fun l r hl hr => ?_), HB1⟩
            by_cases e : l = j
            · subst e
              rw [HS.out] at hr
              cases hr
              exact fun h => HE.out (by rw [HIS.out.1 h])
            · exact hD.out l r (by omega) hr
      · have h12b : (s.kind == 12) = false := by simpa using h12
        have HK := Lib.hid h12
        clear hs hLs hks hop h12
        go_wp2_with fail
        go_roundg (len - (j + 1))
        case measure => omega
        case rel =>
          refine ⟨j + 1, by omega, rfl, by push_cast; rfl, Lib.hid (fun l r hl hr => ?_), Lib.hid (hB.out.alloc hB.out.size _)⟩
          by_cases e : l = j
          · subst e
            rw [HS.out] at hr
            cases hr
            exact fun h => HK.out h.1
          · exact hD.out l r (by omega) hr
    · have hjz : ¬ (j : Int) < (len : Int) := by omega
      obtain rfl : j = len := by omega
      go_wp2_with fail
      go_ret
      exact ⟨_, rfl, Or.inr ⟨rfl, fun l r hr => hD.out l r (by have := (List.getElem?_eq_some_iff.1 hr).1; have := HN.out; omega) hr⟩, hB.out⟩

set_option maxRecDepth 100000 in
theorem optValue_any (D : Nat) (n : Nd) (i : Nat) (s a x v : Nd) (w : World) (hL : LiesD D w n) (h3 : n.kids.length = 3) (hs : (n.kid 2).kids[i]? = some s) (hsa : s.kids = [a]) (hax : a.kids = [x, v]) :
    Calls Tryz.prog 24 #[n.val, .int .i64 (i : Int)] w fun e w' => e = .returned (.agg #[.int .i64 v.kind, .string v.text, .string v.more, .int .u64 v.num, .slice v.ao v.kids.length v.cap]) ∧ Below w.heap.size w w' := by
  obtain ⟨D, rfl⟩ : ∃ E, D = E + 1 := by cases D with | zero => exact hL.elim | succ E => exact ⟨E, rfl⟩
  obtain ⟨k, t, m, u, no, ncap, kids⟩ := n
  obtain ⟨x0, x1, x2, rfl⟩ : ∃ x y z, kids = [x, y, z] := file_of (n := .mk k t m u no ncap kids) h3
  show Calls _ _ #[.agg #[.int .i64 k, .string t, .string m, .int .u64 u, .slice no 3 ncap], _] w _
  have e2 : (Nd.mk k t m u no ncap [x0, x1, x2]).kid 2 = x2 := rfl
  rw [e2] at hs
  obtain ⟨b, o, rfl, hc4, hbz, hL2⟩ := third hL
  have hW : Below w.heap.size w ((w.alloc (.cells #[.int .i64 k, .string t, .string m, .int .u64 u, .slice (some ⟨b, o, none⟩) 3 ncap] 25)).alloc (.cells #[.int .i64 0, .string ⟨#[]⟩, .string ⟨#[]⟩, .int .u64 0, .slice none 0 0] 25)) := ((Below.refl w.heap.size w).alloc (Nat.le_refl _) _).alloc (by simp) _
  have HW := Lib.hid ((Below.refl w.heap.size w).alloc (Nat.le_refl _) (.cells #[.int .i64 k, .string t, .string m, .int .u64 u, .slice (some ⟨b, o, none⟩) 3 ncap] 25))
  obtain ⟨D, rfl⟩ : ∃ E, D = E + 1 := by cases D with | zero => exact hL2.elim | succ E => exact ⟨E, rfl⟩
  obtain ⟨k2, t2, m2, u2, ao2, cap2, ss⟩ := x2
  have hs : ss[i]? = some s := hs
  have c4 := hc4 _ hW
  obtain ⟨bq, oq, hao, -, -, -, -, d4, hLs⟩ := kid_cells hL2 hs hW
  obtain rfl : ao2 = some ⟨bq, oq, none⟩ := hao
  obtain ⟨D, rfl⟩ : ∃ E, D = E + 1 := by cases D with | zero => exact hLs.elim | succ E => exact ⟨E, rfl⟩
  obtain ⟨k3, t3, m3, u3, ao3, cap3, kids3⟩ := s
  obtain rfl : kids3 = [a] := hsa
  obtain ⟨br, orr, hao3, -, -, -, -, g4, hLa⟩ := kid_cells hLs (j := 0) rfl (Below.refl _ _)
  obtain rfl : ao3 = some ⟨br, orr, none⟩ := hao3
  obtain ⟨D, rfl⟩ : ∃ E, D = E + 1 := by cases D with | zero => exact hLa.elim | succ E => exact ⟨E, rfl⟩
  obtain ⟨k4, t4, m4, u4, ao4, cap4, kids4⟩ := a
  obtain rfl : kids4 = [x, v] := hax
  obtain ⟨bs, os, hao4, q0, q1, q2, q3, q4, -⟩ := kid_cells hLa (j := 1) rfl (Below.refl _ _)
  obtain rfl : ao4 = some ⟨bs, os, none⟩ := hao4
  simp only [Nd.kids, Nd.ao, Nd.cap, List.length_cons, List.length_nil, Nat.zero_add, Nat.reduceAdd, Nat.zero_mul, Nat.add_zero] at c4 d4 g4
  simp only [Nat.one_mul] at q0 q1 q2 q3 q4
  have hi' : i < ss.length := (List.getElem?_eq_some_iff.1 hs).1
  have hil : (i : Int) < (ss.length : Int) := by omega
  clear hi'
  have hi0 : (0 : Int) ≤ (i : Int) := by omega
  generalize ss.length = len at hil c4
  clear hL hL2 hLs hLa h3 e2 hs hc4 hW
  go_enter Tryz.func24, Tryz.ntmps24
  go_wp2_with fail
  refine bodyPost_ret (v := .agg #[.int .i64 v.kind, .string v.text, .string v.more, .int .u64 v.num, .slice v.ao v.kids.length v.cap]) (by simp [results, Tryz.f24, go_sem]) rfl ⟨rfl, ?_⟩
  exact HW.out.alloc HW.out.size _
end Go.Proofs.YtongafghllkomaaGreatDoor

namespace Go.Proofs.YtongafghllkomaaGreatDoor
open Go.RowKit
set_option linter.unusedVariables false

/-- What is known of a file's statements by their form alone. -/
theorem stmts_of {n : Nd} (hG : GoodD 12 n) (hk : n.kind = 3) : ∀ (i : Nat) (s : Nd), (n.kid 2).kids[i]? = some s → s.kind ∈ stmtL ∧ (s.kind = 12 → ∃ a, s.kids = [a] ∧ (a.kind = 10 ∨ a.kind = 11) ∧ ∃ x v, a.kids = [x, v] ∧ (a.kind = 10 → x.kind = 33) ∧ v.kind ≠ 0) := by
  obtain ⟨-, -, hP2, hk2, hst, -⟩ := file_kids hG hk
  intro i s hs
  obtain ⟨hPs, -⟩ := hP2.kid (i := i) (x := s) (by omega) hs
  refine ⟨stmt_of hPs (hst s (List.mem_of_getElem? hs)), fun h12 => ?_⟩
  have h1 := (hPs.fit (by omega)).2.2.2.1 (by omega)
  rw [h12, show (fixedL 12).length = 1 from by decide, show restL 12 = 28 from by decide] at h1
  obtain ⟨a, ha⟩ := kids1 (n := s) (by omega)
  have ha0 : s.kids[0]? = some a := by rw [ha]; rfl
  obtain ⟨hPa, hC⟩ := hPs.kid (i := 0) (x := a) (by omega) ha0
  have hca := hC (by omega)
  rw [h12, show (fixedL 12).getD 0 (restL 12) = 12 from by decide] at hca
  have hka : a.kind ∈ ([10, 11] : List Int) := class_few [10, 11] rfl hca
  have hka2 : a.kind = 10 ∨ a.kind = 11 := by simpa using hka
  refine ⟨a, ha, hka2, ?_⟩
  have h2 := (hPa.fit (by omega)).2.2.2.1 (by omega)
  have e1 : (fixedL a.kind).length = 2 ∧ restL a.kind = 28 ∧ (fixedL a.kind).getD 1 (restL a.kind) = 0 := by rcases hka2 with h | h <;> rw [h] <;> decide
  rw [e1.1, e1.2.1] at h2
  obtain ⟨x, v, hxv⟩ := kids2 (n := a) (by omega)
  have hx0 : a.kids[0]? = some x := by rw [hxv]; rfl
  have hv1 : a.kids[1]? = some v := by rw [hxv]; rfl
  obtain ⟨-, hCx⟩ := hPa.kid (i := 0) (x := x) (by omega) hx0
  obtain ⟨-, hCv⟩ := hPa.kid (i := 1) (x := v) (by omega) hv1
  refine ⟨x, v, hxv, fun h10 => ?_, ?_⟩
  · have h := hCx (by omega)
    rw [h10, show (fixedL 10).getD 0 (restL 10) = 3 from by decide] at h
    have := class_few [33] rfl h
    simpa using this
  · have h := hCv (by omega)
    rw [e1.2.2] at h
    exact expr_ne0 (class_0 h)

theorem stmts_ok {n : Nd} (hG : GoodD 12 n) (hk : n.kind = 3) (h : ∀ (i : Nat) (s : Nd), (n.kid 2).kids[i]? = some s → s.kind = 12 → (s.kid 0).kind ≠ 11) : StmtsP (n.kid 2).kids := by
  intro i s hs
  obtain ⟨h1, h2⟩ := stmts_of hG hk i s hs
  refine ⟨h1, fun h12 => ?_⟩
  obtain ⟨a, ha, hka, x, v, hxv, hx, hv⟩ := h2 h12
  have h11 := h i s hs h12
  have ea : s.kid 0 = a := by unfold Nd.kid; rw [ha]; rfl
  rw [ea] at h11
  have h10 : a.kind = 10 := hka.resolve_right h11
  exact ⟨a, x, v, ha, h10, hxv, hx h10, hv⟩

set_option maxRecDepth 100000 in
theorem options_some (D : Nat) (n : Nd) (name : ByteArray) (w : World) (hL : LiesD D w n) (h3 : n.kids.length = 3) (hP : StmtsP (n.kid 2).kids) :
    Calls Tryz.prog 51 #[n.val, .string name] w fun e w' => ∃ z : Int, e = .returned (.int .i64 z) ∧ Below w.heap.size w w' := by
  obtain ⟨D, rfl⟩ : ∃ E, D = E + 1 := by cases D with | zero => exact hL.elim | succ E => exact ⟨E, rfl⟩
  obtain ⟨k, t, m, u, no, ncap, kids⟩ := n
  obtain ⟨x0, x1, x2, rfl⟩ : ∃ x y z, kids = [x, y, z] := file_of (n := .mk k t m u no ncap kids) h3
  show Calls _ _ #[.agg #[.int .i64 k, .string t, .string m, .int .u64 u, .slice no 3 ncap], _] w _
  have e2 : (Nd.mk k t m u no ncap [x0, x1, x2]).kid 2 = x2 := rfl
  rw [e2] at hP
  obtain ⟨b, o, rfl, hc4, hbz, hL2⟩ := third hL
  obtain ⟨D, rfl⟩ : ∃ E, D = E + 1 := by cases D with | zero => exact hL2.elim | succ E => exact ⟨E, rfl⟩
  obtain ⟨k2, t2, m2, u2, ao2, cap2, ss⟩ := x2
  have c4 := hc4 _ ((Below.refl w.heap.size w).alloc (Nat.le_refl _) (.cells #[.int .i64 k, .string t, .string m, .int .u64 u, .slice (some ⟨b, o, none⟩) 3 ncap] 25))
  simp only [Nd.kids, Nd.ao, Nd.cap] at c4 hP
  have hM := hL2.len_le
  obtain ⟨len, hlen⟩ : ∃ len, ss.length = len := ⟨_, rfl⟩
  rw [hlen] at hM c4
  have HN := Lib.hid hlen
  have HL := Lib.hid hL2
  have HP := Lib.hid hP
  have H0 := Lib.hid (show Below w.heap.size w (w.alloc (.cells #[.int .i64 k, .string t, .string m, .int .u64 u, .slice (some ⟨b, o, none⟩) 3 ncap] 25)) from (Below.refl w.heap.size w).alloc (Nat.le_refl _) _)
  clear hlen hL hL2 hP h3 e2 hc4
  go_enter Tryz.func51, Tryz.ntmps51
  go_wp2_with fail
  go_loopg [5, 14] len (fun gk nn i wr => ∃ (j c : Nat), j ≤ len ∧ c ≤ j ∧ gk = len - j ∧ i = .int .i64 (j : Int) ∧ nn = .int .i64 (c : Int) ∧ Hid (Below w.heap.size w wr))
  case atStart => exact ⟨0, 0, by omega, by omega, by omega, rfl, rfl, H0⟩
  case round =>
    obtain ⟨j, c, hj, hcj, rfl, rfl, rfl, hB⟩ := hrel

    by_cases hjn : j < len
    · have hjz : (j : Int) < (len : Int) := by omega
      have hlm : len ≤ 9223372036854775807 := hM
      have hc1 : IntKind.i64.wrap ((c : Int) + 1) = (c : Int) + 1 := IntWalk.i64_in _ (by omega)
      clear hlm
      obtain ⟨s, hs⟩ : ∃ s, ss[j]? = some s := ⟨ss[j]'(by have := HN.out; omega), List.getElem?_eq_getElem _⟩
      obtain ⟨bq, oq, hao, d0, d1, d2, d3, d4, hLs⟩ := kid_cells HL.out hs hB.out
      obtain rfl : ao2 = some ⟨bq, oq, none⟩ := hao
      have HS := Lib.hid hs
      obtain ⟨hks, hop⟩ := HP.out j s hs
      by_cases h12 : s.kind = 12
      · obtain ⟨a, x, v, hsa, hka, hax, hkx, hkv⟩ := hop h12
        have HIS := Lib.hid (optName_is (name := name) h12 hsa hka hax)
        obtain ⟨D, rfl⟩ : ∃ E, D = E + 1 := by cases D with | zero => exact hLs.elim | succ E => exact ⟨E, rfl⟩
        obtain ⟨k3, t3, m3, u3, ao3, cap3, kids3⟩ := s
        obtain rfl : k3 = 12 := h12
        obtain rfl : kids3 = [a] := hsa
        simp only [Nd.kind, Nd.text, Nd.more, Nd.num, Nd.ao, Nd.kids, Nd.cap, List.length_cons, List.length_nil, Nat.zero_add] at d0 d1 d2 d3 d4
        have HBs := Lib.hid (hB.out.alloc hB.out.size (.cells #[.int .i64 12, .string t3, .string m3, .int .u64 u3, .slice ao3 1 cap3] 25))
        obtain ⟨br, orr, hao3, g0, g1, g2, g3, g4, hLa⟩ := kid_cells hLs (j := 0) rfl ((Below.refl _ _).alloc (Nat.le_refl _) (.cells #[.int .i64 12, .string t3, .string m3, .int .u64 u3, .slice ao3 1 cap3] 25))
        obtain rfl : ao3 = some ⟨br, orr, none⟩ := hao3
        simp only [Nat.zero_mul, Nat.add_zero] at g0 g1 g2 g3 g4
        have HLA := Lib.hid hLa
        have HKA := Lib.hid (show a.kind = 10 → 0 < a.kids.length from fun _ => by rw [hax]; simp)
        clear hs hLs hks hop hka hax hkx hkv hLa
        by_cases hkey : (optName a).toList = name.toList
        · have hke : ((optName a).toList == name.toList) = true := by simpa using hkey
          have HE := Lib.hid (bytes_eq hkey)
          clear hkey
          generalize hon : optName a = nm at hke
          have HON := Lib.hid hon
          clear hon
          go_wp2_with fail
          refine (optName_any _ a _ HLA.out HKA.out).mono ?_
          rintro e w1 ⟨rfl, hb1⟩
          rw [HON.out]
          have HB1 := Lib.hid (HBs.out.trans (hb1.mono HBs.out.size))
          clear hb1
          go_wp2_with fail
          go_roundg (len - (j + 1))
          case measure => omega
          case rel => exact ⟨j + 1, c + 1, by omega, by omega, rfl, by push_cast; rfl, by push_cast; rfl, HB1⟩
        · have hke : ((optName a).toList == name.toList) = false := by simpa using hkey
          have HE := Lib.hid hkey
          clear hkey
          generalize hon : optName a = nm at hke
          have HON := Lib.hid hon
          clear hon
          go_wp2_with fail
          refine (optName_any _ a _ HLA.out HKA.out).mono ?_
          rintro e w1 ⟨rfl, hb1⟩
          rw [HON.out]
          have HB1 := Lib.hid (HBs.out.trans (hb1.mono HBs.out.size))
          clear hb1
          go_wp2_with fail
          go_roundg (len - (j + 1))
          case measure => omega
          case rel => exact ⟨j + 1, c, by omega, by omega, rfl, by push_cast; rfl, rfl, HB1⟩
      · have h12b : (s.kind == 12) = false := by simpa using h12
        have HK := Lib.hid h12
        clear hs hLs hks hop h12
        go_wp2_with fail
        go_roundg (len - (j + 1))
        case measure => omega
        case rel => exact ⟨j + 1, c, by omega, by omega, rfl, by push_cast; rfl, rfl, Lib.hid (hB.out.alloc hB.out.size _)⟩
    · have hjz : ¬ (j : Int) < (len : Int) := by omega
      obtain rfl : j = len := by omega
      go_wp2_with fail
      go_ret
      exact ⟨⟨_, rfl⟩, hB.out⟩

set_option maxRecDepth 100000 in
theorem optioned_any (D : Nat) (n : Nd) (name : ByteArray) (w : World) (hL : LiesD D w n) (hR : RoomD D n) (hs : name.size ≤ 2147483647) (hT : Lib.Utf8Tabs 1 2 w) :
    Calls Tryz.prog 19 #[n.val, .string name] w (SomeB (WalkedP n ∧ n.kind = 3 ∧ StmtsP (n.kid 2).kids) w) := by
  have HLN := Lib.hid hL
  have HR := Lib.hid hR
  have HT := Lib.hid hT
  have HS := Lib.hid hs
  have HW := Lib.hid (show ∀ w', Below w.heap.size w w' → Calls Tryz.prog 12 #[n.val] w' (SomeB (WalkedP n) w') from fun w' hb => walked_any D n w' (hL.below hb) hR (tabs_below hT hb))
  clear hL hR hT hs
  obtain ⟨k, t, m, u, no, ncap, kids⟩ := n
  show Calls _ _ #[.agg #[.int .i64 k, .string t, .string m, .int .u64 u, .slice no kids.length ncap], _] w _
  have HW2 := Lib.hid (show ∀ w', Below w.heap.size w w' → Calls Tryz.prog 12 #[.agg #[.int .i64 k, .string t, .string m, .int .u64 u, .slice no kids.length ncap]] w' (SomeB (WalkedP (.mk k t m u no ncap kids)) w') from HW.out)
  clear HW
  by_cases hk : k = 3
  · subst hk
    go_enter Tryz.func19, Tryz.ntmps19
    go_wp2_with fail
    refine (HW2.out _ ((Below.refl _ _).alloc (Nat.le_refl _) _)).mono ?_
    rintro e w1 ⟨b1, rfl, hp1, hb1⟩
    obtain ⟨k0, -⟩ := bblk hb1 (b := w.heap.size) (by simp)
    have HB1 := Lib.hid (((Below.refl w.heap.size w).alloc (Nat.le_refl _) _).trans (hb1.mono (by simp)))
    have HZ1 := Lib.hid hb1
    have HP1 := Lib.hid hp1
    have hz1 : w.heap.size < w1.heap.size := by have := hb1.size; simp at this; omega
    clear hp1 hb1
    cases b1
    · go_wp2_with fail
      go_ret
      exact ⟨_, rfl, (by intro h; cases h), HB1.out⟩
    go_wp2_with fail
    refine (name_some name _ HS.out (tabs_below HT.out HB1.out)).mono ?_
    rintro e w2 ⟨b2, rfl, hb2⟩
    obtain ⟨k1, -⟩ := bblk hb2 (b := w.heap.size) hz1
    have HB2 := Lib.hid (HB1.out.trans (hb2.mono HB1.out.size))
    have HZ2 := Lib.hid (HZ1.out.trans (hb2.mono HZ1.out.size))
    have hz2 : w.heap.size < w2.heap.size := by have := hb2.size; omega
    clear hb2
    cases b2
    · go_wp2_with fail
      go_ret
      exact ⟨_, rfl, (by intro h; cases h), HB2.out⟩
    have HWp := Lib.hid (HP1.out (by first | rfl | trivial))
    have hfk := file_kids HWp.out.1 rfl
    have hsf := stmts_of HWp.out.1 rfl
    obtain ⟨D, rfl⟩ : ∃ E, D = E + 1 := by cases D with | zero => exact HLN.out.elim | succ E => exact ⟨E, rfl⟩
    obtain ⟨x0, x1, x2, rfl⟩ : ∃ x y z, kids = [x, y, z] := file_of (n := .mk 3 t m u no ncap kids) hfk.1
    obtain ⟨b, o, rfl, hc4, hbz, hL2⟩ := third HLN.out
    obtain ⟨D, rfl⟩ : ∃ E, D = E + 1 := by cases D with | zero => exact hL2.elim | succ E => exact ⟨E, rfl⟩
    obtain ⟨k2, t2, m2, u2, ao2, cap2, ss⟩ := x2
    have c4 := hc4 _ HB2.out
    have HL := Lib.hid hL2
    have HSF := Lib.hid (show ∀ (i : Nat) (s : Nd), ss[i]? = some s → s.kind ∈ stmtL ∧ (s.kind = 12 → ∃ a, s.kids = [a] ∧ (a.kind = 10 ∨ a.kind = 11) ∧ ∃ x v, a.kids = [x, v] ∧ (a.kind = 10 → x.kind = 33) ∧ v.kind ≠ 0) from hsf)
    have hM := hL2.len_le
    obtain ⟨len, hlen⟩ : ∃ len, ss.length = len := ⟨_, rfl⟩
    simp only [Nd.kids, Nd.ao, Nd.cap] at c4
    rw [hlen] at hM c4
    have HN := Lib.hid hlen
    clear hlen hL2 hc4 hfk hsf
    go_wp2_with fail
    go_loopg [26] len (fun gk i wr => ∃ (j : Nat), j ≤ len ∧ gk = len - j ∧ i = .int .i64 (j : Int) ∧ Hid (∀ (l : Nat) (r : Nd), l < j → ss[l]? = some r → r.kind = 12 → (r.kid 0).kind ≠ 11) ∧ Hid (Below (w.alloc (.cells #[.int .i64 3, .string t, .string m, .int .u64 u, .slice (some ⟨b, o, none⟩) 3 ncap] 25)).heap.size (w.alloc (.cells #[.int .i64 3, .string t, .string m, .int .u64 u, .slice (some ⟨b, o, none⟩) 3 ncap] 25)) wr))
    case atStart => exact ⟨0, by omega, by omega, rfl, Lib.hid (fun l r h => absurd h (by omega)), HZ2⟩
    case round =>
      obtain ⟨j, hj, rfl, rfl, hD, hZ⟩ := hrel
      have HB := Lib.hid (((Below.refl w.heap.size w).alloc (Nat.le_refl _) (.cells #[.int .i64 3, .string t, .string m, .int .u64 u, .slice (some ⟨b, o, none⟩) 3 ncap] 25)).trans (hZ.out.mono (by simp)))
      obtain ⟨kz, -⟩ := bblk hZ.out (b := w.heap.size) (by simp)
      by_cases hjn : j < len
      · have hjz : (j : Int) < (len : Int) := by omega
        obtain ⟨s, hs⟩ : ∃ s, ss[j]? = some s := ⟨ss[j]'(by have := HN.out; omega), List.getElem?_eq_getElem _⟩
        obtain ⟨bq, oq, hao, d0, d1, d2, d3, d4, hLs⟩ := kid_cells HL.out hs HB.out
        obtain rfl : ao2 = some ⟨bq, oq, none⟩ := hao
        have HSx := Lib.hid hs
        obtain ⟨hks, hop⟩ := HSF.out j s hs
        by_cases h12 : s.kind = 12
        · obtain ⟨a, hsa, hka, -⟩ := hop h12
          obtain ⟨D, rfl⟩ : ∃ E, D = E + 1 := by cases D with | zero => exact hLs.elim | succ E => exact ⟨E, rfl⟩
          obtain ⟨k3, t3, m3, u3, ao3, cap3, kids3⟩ := s
          obtain rfl : k3 = 12 := h12
          obtain rfl : kids3 = [a] := hsa
          simp only [Nd.kind, Nd.text, Nd.more, Nd.num, Nd.ao, Nd.kids, Nd.cap, List.length_cons, List.length_nil, Nat.zero_add] at d0 d1 d2 d3 d4
          obtain ⟨br, orr, hao3, g0, -⟩ := kid_cells hLs (j := 0) rfl ((Below.refl _ _).alloc (Nat.le_refl _) (.cells #[.int .i64 12, .string t3, .string m3, .int .u64 u3, .slice ao3 1 cap3] 25))
          obtain rfl : ao3 = some ⟨br, orr, none⟩ := hao3
          simp only [Nat.zero_mul, Nat.add_zero] at g0
          clear hs hLs hks hop
          rcases hka with hka | hka
          · rw [hka] at g0
            have HKA := Lib.hid hka
            clear hka
            go_wp2_with fail
            go_roundg (len - (j + 1))
            case measure => omega
            case rel =>
              refine ⟨j + 1, by omega, rfl, by push_cast; rfl, Lib.hid (fun l r hl hr hr12 => ?_), Lib.hid (hZ.out.alloc hZ.out.size _)⟩
              by_cases e : l = j
              · subst e
                rw [HSx.out] at hr
                cases hr
                show a.kind ≠ 11
                rw [HKA.out]; decide
              · exact hD.out l r (by omega) hr hr12
          · rw [hka] at g0
            clear hka
            go_wp2_with fail
            go_ret
            exact ⟨_, rfl, (by intro h; cases h), HB.out.alloc HB.out.size _⟩
        · have h12b : (s.kind == 12) = false := by simpa using h12
          have HK := Lib.hid h12
          clear hs hLs hks hop h12
          go_wp2_with fail
          go_roundg (len - (j + 1))
          case measure => omega
          case rel =>
            refine ⟨j + 1, by omega, rfl, by push_cast; rfl, Lib.hid (fun l r hl hr hr12 => ?_), Lib.hid (hZ.out.alloc hZ.out.size _)⟩
            by_cases e : l = j
            · subst e
              rw [HSx.out] at hr
              cases hr
              exact absurd hr12 HK.out
            · exact hD.out l r (by omega) hr hr12
      · have hjz : ¬ (j : Int) < (len : Int) := by omega
        obtain rfl : j = len := by omega
        have HST := Lib.hid (show StmtsP ss from stmts_ok HWp.out.1 rfl (fun l r hr hr12 => hD.out l r (by have h1 : l < ss.length := (List.getElem?_eq_some_iff.1 hr).1; have := HN.out; omega) hr hr12))
        go_wp2_with fail
        refine (options_some (D + 1 + 1) (.mk 3 t m u (some ⟨b, o, none⟩) ncap [x0, x1, .mk k2 t2 m2 u2 ao2 cap2 ss]) name _ (HLN.out.below HB.out) rfl HST.out).mono ?_
        rintro e w3 ⟨z, rfl, hb3⟩
        have HB3 := Lib.hid (HB.out.trans (hb3.mono HB.out.size))
        clear hb3
        go_wp2_with fail
        go_ret
        exact ⟨_, rfl, fun _ => ⟨HWp.out, rfl, HST.out⟩, HB3.out⟩
  · have g0 : (k != 3) = true := by simpa using hk
    clear hk
    go_enter Tryz.func19, Tryz.ntmps19
    go_wp2_with fail
    refine (HW2.out _ ((Below.refl _ _).alloc (Nat.le_refl _) _)).mono ?_
    rintro e w1 ⟨b1, rfl, hp1, hb1⟩
    obtain ⟨k0, -⟩ := bblk hb1 (b := w.heap.size) (by simp)
    have HB1 := Lib.hid (((Below.refl w.heap.size w).alloc (Nat.le_refl _) _).trans (hb1.mono (by simp)))
    clear hp1 hb1
    cases b1
    · go_wp2_with fail
      go_ret
      exact ⟨_, rfl, (by intro h; cases h), HB1.out⟩
    · go_wp2_with fail
      go_ret
      exact ⟨_, rfl, (by intro h; cases h), HB1.out⟩
end Go.Proofs.YtongafghllkomaaGreatDoor
