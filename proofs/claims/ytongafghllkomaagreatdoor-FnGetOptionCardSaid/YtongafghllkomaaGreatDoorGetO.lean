/-
  edit.GetOption over the package's files: the value of the first option of a name. No conditions.
-/
import Derived.Test.YtongafghllkomaaGreatDoorGetP
import Derived.Test.YtongafghllkomaaGreatDoorList
namespace Go.Proofs.YtongafghllkomaaGreatDoor
open Go.RowKit
set_option linter.unusedVariables false

/-- Statements as walked takes them, none of whose options are of members. -/
def StmtsP (ss : List Nd) : Prop := ∀ (i : Nat) (s : Nd), ss[i]? = some s → s.kind ∈ stmtL ∧ (s.kind = 12 → ∃ a x v, s.kids = [a] ∧ a.kind = 10 ∧ a.kids = [x, v] ∧ x.kind = 33 ∧ v.kind ≠ 0)

/-- An option of a name; the first one; none. -/
def IsOpt (s : Nd) (name : ByteArray) : Prop := s.kind = 12 ∧ ((s.kid 0).kid 0).text = name
def FirstOpt (ss : List Nd) (name : ByteArray) (i : Nat) (s : Nd) : Prop := ss[i]? = some s ∧ IsOpt s name ∧ ∀ (l : Nat) (r : Nd), l < i → ss[l]? = some r → ¬ IsOpt r name
def NoOpt (ss : List Nd) (name : ByteArray) : Prop := ∀ (l : Nat) (r : Nd), ss[l]? = some r → ¬ IsOpt r name

theorem optNo (T : TypeId) (h : T ≠ 141) (p : Value) (w : World) : Sem.run Tryz.prog (Instr.typeAssert (.iface T p) 108 141 true) w = .ok (.tuple #[.pointer none, .bool false]) w := by
  have hz : Sem.run Tryz.prog (zeroValue 141) w = .ok (.pointer none) w := by kernel_rfl
  unfold Instr.typeAssert
  simp [go_sem, hz, h]
theorem optYes (p : Value) (w : World) : Sem.run Tryz.prog (Instr.typeAssert (.iface 141 p) 108 141 true) w = .ok (.tuple #[p, .bool true]) w := by kernel_rfl
theorem varYes (p : Value) (w : World) : Sem.run Tryz.prog (Instr.typeAssert (.iface 133 p) 143 133 true) w = .ok (.tuple #[p, .bool true]) w := by kernel_rfl

theorem stmt_ty {k : Int} (h : k ∈ stmtL) (h2 : k ≠ 12) : pTy k ≠ 141 := by
  unfold stmtL at h
  simp only [List.mem_cons, List.not_mem_nil, or_false] at h
  rcases h with rfl | rfl | rfl | rfl | rfl | rfl | rfl | rfl
  all_goals first | decide | exact absurd rfl h2

/-- A statement that sets an option: its cells, and those of what it sets. -/
theorem opt_cells {A : Nat → Prop} {d : Nat} {w : World} {s a x v : Nd} {b : Nat} (hR : RepD A (d + 3) w s b) (hk : s.kind = 12) (hs : s.kids = [a]) (ha : a.kind = 10) (hxv : a.kids = [x, v]) (hx : x.kind = 33) :
    ∃ ba bx bv, w.cell? ⟨b, 3, none⟩ = some (.iface 133 (.pointer (some ⟨ba, 0, none⟩))) ∧ w.cell? ⟨ba, 3, none⟩ = some (.pointer (some ⟨bx, 0, none⟩)) ∧ w.cell? ⟨bx, 3, none⟩ = some (.string x.text) ∧
      w.cell? ⟨ba, 4, none⟩ = some (.iface (pTy v.kind) (.pointer (some ⟨bv, 0, none⟩))) ∧ RepD A (d + 1) w v bv := by
  obtain ⟨hA, cs, hb, hsl⟩ := hR
  rw [slots_12 _ hk] at hsl
  have e0 : s.kid 0 = a := by unfold Nd.kid; rw [hs]; rfl
  rw [e0] at hsl
  match cs, hsl with
  | [v0, v1, v2, v3], ⟨_, _, _, h3, _⟩ =>
    obtain ⟨ba, rfl, hRa⟩ := (show IfcTo (RepD A (d + 2)) w a v3 from h3)
    obtain ⟨hA2, cs2, hb2, hsl2⟩ := hRa
    rw [slots_10 _ ha] at hsl2
    have e1 : a.kid 0 = x := by unfold Nd.kid; rw [hxv]; rfl
    have e2 : a.kid 1 = v := by unfold Nd.kid; rw [hxv]; rfl
    rw [e1, e2] at hsl2
    match cs2, hsl2 with
    | [u0, u1, u2, u3, u4], ⟨_, _, _, g3, g4, _⟩ =>
      obtain ⟨bx, rfl, hRx⟩ := (show PtrTo (RepD A (d + 1)) w x u3 from g3)
      obtain ⟨bv, rfl, hRv⟩ := (show IfcTo (RepD A (d + 1)) w v u4 from g4)
      refine ⟨ba, bx, bv, ?_, ?_, text_cell hRx (Or.inl hx), ?_, hRv⟩
      · rw [Lib.cell_of_heap hb, ha, show pTy 10 = 133 from ptrTy_10]; rfl
      · rw [Lib.cell_of_heap hb2]; rfl
      · rw [Lib.cell_of_heap hb2]; rfl

/-- What is found among a file's options. -/
def OptPost (A : Nat → Prop) (d : Nat) (ss : List Nd) (name : ByteArray) (w : World) (e : Ending) (w' : World) : Prop :=
  ((∃ (i : Nat) (s : Nd) (b : Nat), FirstOpt ss name i s ∧ e = .returned (.tuple #[.iface (pTy ((s.kid 0).kid 1).kind) (.pointer (some ⟨b, 0, none⟩)), .nilIface]) ∧ RepD A d w ((s.kid 0).kid 1) b) ∨
    (NoOpt ss name ∧ ∃ T p, e = .returned (.tuple #[.nilIface, .iface T p]))) ∧ Below w.heap.size w w'

set_option maxRecDepth 100000 in
theorem editOpt (d : Nat) (A : Nat → Prop) (n : Nd) (b : Nat) (name : ByteArray) (w : World) (hR : RepD A (d + 4) w n b) (hk : n.kind = 3) (hm : (n.kid 2).kids.length ≤ 1000) (hP : StmtsP (n.kid 2).kids) :
    Calls Tryz.prog 53 #[.pointer (some ⟨b, 0, none⟩), .string name] w (OptPost A (d + 1) (n.kid 2).kids name w) := by
  obtain ⟨hA, cs, hb, hs⟩ := hR
  rw [slots_3 _ hk] at hs
  match cs, hs with
  | [v0, v1, v2, v3, v4, v5, v6, v7, v8], ⟨_, _, _, _, _, _, _, e7, _, _⟩ =>
    generalize (n.kid 2).kids = ss at hm hP e7 ⊢
    obtain ⟨aoL, capL, rfl, hHL⟩ := HeldList.of (ptr := false) (R := RepD A (d + 3)) (ns := ss) (v := v7) (w := w) (A := A) e7
    have c7 : w.cell? ⟨b, 7, none⟩ = some (.slice aoL ss.length capL) := by rw [Lib.cell_of_heap hb]; rfl
    obtain ⟨len, hlen⟩ : ∃ len, ss.length = len := ⟨_, rfl⟩
    rw [hlen] at c7 hm
    have HN := Lib.hid hlen
    have HHL := Lib.hid hHL
    have HP := Lib.hid hP
    clear hlen hHL hP e7 hb hA hk
    go_enter Tryz.func53, Tryz.ntmps53
    go_wp2_with fail
    go_loopg [18] len (fun gk i wr => wr = w ∧ ∃ (j : Nat), j ≤ len ∧ gk = len - j ∧ i = .int .i64 (j : Int) ∧ Hid (∀ (l : Nat) (r : Nd), l < j → ss[l]? = some r → ¬ IsOpt r name))
    case atStart => exact ⟨rfl, 0, by omega, by omega, rfl, Lib.hid (fun l r h => absurd h (by omega))⟩
    case round =>
      obtain ⟨rfl, j, hj, rfl, rfl, hD⟩ := hrel
      by_cases hjn : j < len
      · have hjz : (j : Int) < (len : Int) := by omega
        obtain ⟨s, hs⟩ : ∃ s, ss[j]? = some s := ⟨ss[j]'(by have := HN.out; omega), List.getElem?_eq_getElem _⟩
        obtain ⟨g0, z, rfl, c0, hh⟩ := HHL.out j s hs
        obtain ⟨bs, rfl, hRs⟩ := (show IfcTo (RepD A (d + 3)) wr s z from hh)
        obtain ⟨hks, hop⟩ := HP.out j s hs
        have HS := Lib.hid hs
        by_cases h12 : s.kind = 12
        · obtain ⟨a, x, v, hsa, hka, hax, hkx, hkv⟩ := hop h12
          obtain ⟨ba, bx, bv, d3, d4, d5, d6, hRv⟩ := opt_cells hRs h12 hsa hka hax hkx
          rw [h12, show pTy 12 = 141 from ptrTy_12] at c0
          have q1 := optYes (.pointer (some ⟨bs, 0, none⟩)) wr
          have q2 := varYes (.pointer (some ⟨ba, 0, none⟩)) wr
          have ev : (s.kid 0).kid 1 = v := by unfold Nd.kid; rw [hsa]; show a.kids.getD 1 _ = v; rw [hax]; rfl
          have ex : (s.kid 0).kid 0 = x := by unfold Nd.kid; rw [hsa]; show a.kids.getD 0 _ = x; rw [hax]; rfl
          have HEV := Lib.hid ev
          have HIS := Lib.hid (show IsOpt s name ↔ x.text = name from ⟨fun h => by rw [← ex]; exact h.2, fun h => ⟨h12, by rw [ex]; exact h⟩⟩)
          have HR := Lib.hid hRv
          generalize hT2 : pTy v.kind = T2 at d6
          have HT2 := Lib.hid hT2
          clear hs hh hRs hks hop h12 hsa hka hax hkx hkv hRv ev ex hT2
          by_cases hkey : x.text.toList = name.toList
          · have hke : (x.text.toList == name.toList) = true := by simpa using hkey
            have HE := Lib.hid (bytes_eq hkey)
            clear hkey
            go_wp2_with fail
            go_ret2
            refine ⟨Or.inl ⟨j, s, bv, ⟨HS.out, HIS.out.2 HE.out, hD.out⟩, ?_, ?_⟩, Below.refl _ _⟩
            · rw [HEV.out, HT2.out]; rfl
            · rw [HEV.out]; exact HR.out
          · have hke : (x.text.toList == name.toList) = false := by simpa using hkey
            have HE := Lib.hid hkey
            clear hkey
            go_wp2_with fail
            go_roundg (len - (j + 1))
            case measure => omega
            case rel =>
              refine ⟨rfl, j + 1, by omega, rfl, by push_cast; rfl, Lib.hid (fun l r hl hr => ?_)⟩
              by_cases e : l = j
              · subst e
                rw [HS.out] at hr
                cases hr
                exact fun h => HE.out (by rw [HIS.out.1 h])
              · exact hD.out l r (by omega) hr
        · have q1 := optNo (pTy s.kind) (stmt_ty hks h12) (.pointer (some ⟨bs, 0, none⟩)) wr
          have HK := Lib.hid h12
          generalize pTy s.kind = T at q1 c0
          clear hs hh hRs hks hop h12
          go_wp2_with fail
          go_roundg (len - (j + 1))
          case measure => omega
          case rel =>
            refine ⟨rfl, j + 1, by omega, rfl, by push_cast; rfl, Lib.hid (fun l r hl hr => ?_)⟩
            by_cases e : l = j
            · subst e
              rw [HS.out] at hr
              cases hr
              exact fun h => HK.out h.1
            · exact hD.out l r (by omega) hr
      · have hjz : ¬ (j : Int) < (len : Int) := by omega
        obtain rfl : j = len := by omega
        go_wp2_with fail
        refine (newError _ _).mono ?_
        rintro e w1 ⟨T, p, rfl, hb1⟩
        have HB := Lib.hid hb1
        clear hb1
        go_wp2_with fail
        go_ret2
        refine ⟨Or.inr ⟨fun l r hr => hD.out l r (by have := (List.getElem?_eq_some_iff.1 hr).1; have := HN.out; omega) hr, _, _, rfl⟩, HB.out⟩
end Go.Proofs.YtongafghllkomaaGreatDoor
