/-
  Small functions of the trees' specification at this seat's numbers: in, the classes' tests, few. No conditions.
-/
import Derived.Test.YteecbmhkfnlecaaGreatDoorFit
import Derived.Test.YteecbmhkfnlecaaGreatDoorProg
import Derived.WalkKit
import Derived.Lib.Hide
import Derived.Lib.Builder
import Derived.Deep.LoopGhost
import Derived.BigQuiet
import Derived.Lib.QuietBelow
namespace Go.Proofs.YteecbmhkfnlecaaGreatDoor
open Go.RowKit
set_option linter.unusedVariables false

/-- A slice of integers that a world holds. -/
def IntsIn (ao : Option Addr) (zs : List Int) (w : World) : Prop := ∀ k z, zs[k]? = some z → ∃ a, ao = some a ∧ w.cell? (a.add k) = some (.int .i64 z)

theorem IntsIn.below {ao : Option Addr} {zs : List Int} {w w' : World} (h : IntsIn ao zs w) (hb : Below w.heap.size w w') : IntsIn ao zs w' := by
  intro k z hk
  obtain ⟨a, ha, hc⟩ := h k z hk
  exact ⟨a, ha, (hb.cell (World.block_lt_of_cell? _ _ hc)).trans hc⟩

/-- A number is one of some. -/
def inB (n : Int) (zs : List Int) : Bool := zs.contains n

theorem ret_bool {a b : Bool} (h : a = b) : Ending.returned (.bool a) = .returned (.bool b) := by rw [h]
theorem ret_int {k : IntKind} {a b : Int} (h : a = b) : Ending.returned (.int k a) = .returned (.int k b) := by rw [h]

theorem bcell {W w1 : World} (hb : Below W.heap.size W w1) : (∀ b o, b < W.heap.size → w1.cell? ⟨b, o, none⟩ = W.cell? ⟨b, o, none⟩) ∧ (∀ b o, b < W.heap.size → w1.frozen? ⟨b, o, none⟩ = W.frozen? ⟨b, o, none⟩) :=
  ⟨fun b o h => hb.cell (p := ⟨b, o, none⟩) h, fun b o h => hb.frozen (p := ⟨b, o, none⟩) h⟩

theorem bblk {W w1 : World} (hb : Below W.heap.size W w1) {b : Nat} (h : b < W.heap.size) : (∀ o, w1.cell? ⟨b, o, none⟩ = W.cell? ⟨b, o, none⟩) ∧ (∀ o, w1.frozen? ⟨b, o, none⟩ = W.frozen? ⟨b, o, none⟩) :=
  ⟨fun o => hb.cell (p := ⟨b, o, none⟩) h, fun o => hb.frozen (p := ⟨b, o, none⟩) h⟩

theorem add0 (b j : Nat) : (⟨b, 0, none⟩ : Addr).add j = ⟨b, j, none⟩ := by unfold Addr.add; split <;> simp_all

/-- A list of literal numbers that has just been laid. -/
theorem intsIn_new (w : World) (zs : List Int) (T : TypeId) (m : Nat × Nat) : IntsIn (some ⟨w.heap.size, 0, none⟩) zs (w.alloc (.cells (zs.map (Value.int .i64)).toArray T m)) := by
  intro k z hk
  refine ⟨_, rfl, ?_⟩
  rw [add0, Lib.cell_of_heap (heap_alloc_new w _)]
  simp [hk]

theorem in_any (n : Int) (ao : Option Addr) (zs : List Int) (m cap : Nat) (w : World) (hm : zs.length = m) (hM : m ≤ 2147483647) (HL : IntsIn ao zs w) :
    Calls Tryz.prog 30 #[.int .i64 n, .slice ao m cap] w fun e w' => e = .returned (.bool (inB n zs)) ∧ w = w' := by
  have HL := Lib.hid HL
  have HN := Lib.hid hm
  clear hm
  go_enter Tryz.func30, Tryz.ntmps30
  go_wp2_with fail
  go_loopg [9] m (fun gk i wr => wr = w ∧ ∃ k : Nat, k ≤ m ∧ gk = m - k ∧ i = .int .i64 (k : Int) ∧ Hid (∀ j, j < k → zs[j]? ≠ some n))
  case atStart => exact ⟨rfl, 0, by omega, by omega, rfl, Lib.hid (fun j h => by omega)⟩
  case round =>
    obtain ⟨rfl, k, hk, rfl, rfl, hall⟩ := hrel
    by_cases hkm : k < m
    · have hkz : (k : Int) < (m : Int) := by omega
      have hlen := HN.out
      obtain ⟨y, hy⟩ : ∃ y, zs[k]? = some y := ⟨zs[k]'(by omega), List.getElem?_eq_getElem _⟩
      obtain ⟨a, rfl, hc⟩ := HL.out k y hy
      have HY := Lib.hid hy
      clear hy hlen
      by_cases h1 : y = n
      · subst h1
        go_wp2_with fail
        go_ret
        refine ⟨?_, rfl⟩
        exact ret_bool (by unfold inB; simp; exact List.mem_of_getElem? HY.out)
      · have h2 : (y == n) = false := by simpa using h1
        have H1 := Lib.hid h1
        clear h1
        go_wp2_with fail
        go_roundg (m - (k + 1))
        case measure => omega
        case rel =>
          refine ⟨rfl, k + 1, by omega, rfl, by push_cast; rfl, Lib.hid ?_⟩
          intro j hj
          by_cases hjk : j < k
          · exact hall.out j hjk
          · obtain rfl : j = k := by omega
            rw [HY.out]; intro e; exact H1.out (Option.some.inj e)
    · have hkz : ¬ (k : Int) < (m : Int) := by omega
      obtain rfl : k = m := by omega
      go_wp2_with fail
      go_ret
      refine ⟨?_, rfl⟩
      refine ret_bool (Eq.symm ?_)
      unfold inB
      simp only [List.contains_eq_mem, decide_eq_false_iff_not]
      intro hmem
      obtain ⟨j, hj, e⟩ := List.mem_iff_getElem.1 hmem
      exact hall.out j (by rw [HN.out] at hj; exact hj) (by rw [List.getElem?_eq_getElem hj, e])

theorem isExpr_any (k : Int) (w : World) :
    Calls Tryz.prog 49 #[.int .i64 k] w fun e w' => e = .returned (.bool (isExprB k)) ∧ Below w.heap.size w w' := by
  by_cases h : 16 ≤ k ∧ k ≤ 43
  · obtain ⟨h1, h2⟩ := h
    go_enter Tryz.func49, Tryz.ntmps49
    go_wp2_with fail
    refine (in_any _ _ [29, 31, 32, 40] 4 _ _ rfl (by omega) (intsIn_new w _ _ _)).mono ?_
    rintro e w1 ⟨rfl, rfl⟩
    go_wp2_with fail
    go_ret
    exact ⟨ret_bool (by unfold isExprB inB; rw [Bool.eq_iff_iff]; simp; omega), (Below.refl _ _).alloc (Nat.le_refl _) _⟩
  · have hF : isExprB k = false := by
      cases hb : isExprB k with
      | false => rfl
      | true => unfold isExprB at hb; simp at hb; omega
    have HF := Lib.hid hF
    clear hF
    by_cases h1 : 16 ≤ k
    · have h2 : ¬ k ≤ 43 := by omega
      clear h
      go_enter Tryz.func49, Tryz.ntmps49
      go_wp2_with fail
      go_ret
      exact ⟨ret_bool HF.out.symm, Below.refl _ _⟩
    · clear h
      go_enter Tryz.func49, Tryz.ntmps49
      go_wp2_with fail
      go_ret
      exact ⟨ret_bool HF.out.symm, Below.refl _ _⟩

theorem isStmt_any (k : Int) (w : World) :
    Calls Tryz.prog 15 #[.int .i64 k] w fun e w' => e = .returned (.bool (isStmtB k)) ∧ w = w' := by
  by_cases h1 : 7 ≤ k
  · go_enter Tryz.func15, Tryz.ntmps15
    go_wp2_with fail
    go_ret
    exact ⟨ret_bool (by unfold isStmtB; simp [h1]), rfl⟩
  · have HF := Lib.hid (show isStmtB k = false by unfold isStmtB; simp; omega)
    go_enter Tryz.func15, Tryz.ntmps15
    go_wp2_with fail
    go_ret
    exact ⟨ret_bool HF.out.symm, rfl⟩

theorem isType_any (k : Int) (w : World) :
    Calls Tryz.prog 50 #[.int .i64 k] w fun e w' => e = .returned (.bool (isTypeB k)) ∧ Below w.heap.size w w' := by
  go_enter Tryz.func50, Tryz.ntmps50
  go_wp2_with fail
  refine (in_any _ _ [45, 46, 47, 48, 49, 51] 6 _ _ rfl (by omega) (intsIn_new w _ _ _)).mono ?_
  rintro e w1 ⟨rfl, rfl⟩
  go_wp2_with fail
  go_ret
  exact ⟨ret_bool (by unfold isTypeB inB; rw [Bool.eq_iff_iff]; simp; omega), (Below.refl _ _).alloc (Nat.le_refl _) _⟩

/-- A kid's five cells in a later world. -/
theorem kid_cells {d : Nat} {w wr : World} {k : Int} {t m : ByteArray} {u : Int} {ao : Option Addr} {cap : Nat} {kids : List Nd} {j : Nat} {x : Nd} (hL : LiesD (d + 1) w (.mk k t m u ao cap kids)) (hx : kids[j]? = some x) (hB : Below w.heap.size w wr) :
    ∃ b o, ao = some ⟨b, o, none⟩ ∧ wr.cell? ⟨b, o + j * 5, none⟩ = some (.int .i64 x.kind) ∧ wr.cell? ⟨b, o + j * 5 + 1, none⟩ = some (.string x.text) ∧ wr.cell? ⟨b, o + j * 5 + 2, none⟩ = some (.string x.more) ∧ wr.cell? ⟨b, o + j * 5 + 3, none⟩ = some (.int .u64 x.num) ∧ wr.cell? ⟨b, o + j * 5 + 4, none⟩ = some (.slice x.ao x.kids.length x.cap) ∧ LiesD d wr x := by
  obtain ⟨⟨b, o, ha, hc⟩, hl⟩ := hL.2 j x hx
  have h := hc.below hB hc.lt
  exact ⟨b, o, ha, h.1, h.2.1, h.2.2.1, h.2.2.2.1, h.2.2.2.2, hl.below hB⟩

theorem LiesD.len_le {d : Nat} {w : World} {k : Int} {t m : ByteArray} {u : Int} {ao : Option Addr} {cap : Nat} {kids : List Nd} (hL : LiesD d w (.mk k t m u ao cap kids)) : kids.length ≤ 9223372036854775807 := by
  cases d with
  | zero => exact hL.elim
  | succ d =>
    have := hL.1.2.2.1
    unfold maxLen at this
    exact this

theorem kidsAre_any (d : Nat) (n : Nd) (kind : Int) (w : World) (hL : LiesD (d + 1) w n) :
    Calls Tryz.prog 52 #[n.val, .int .i64 kind] w fun e w' => e = .returned (.bool (n.kids.all (fun x => x.kind == kind))) ∧ Below w.heap.size w w' := by
  obtain ⟨k, t, m, u, ao, cap, kids⟩ := n
  have hM := hL.len_le
  obtain ⟨len, hlen⟩ : ∃ len, kids.length = len := ⟨_, rfl⟩
  show Calls _ _ #[.agg #[.int .i64 k, .string t, .string m, .int .u64 u, .slice ao kids.length cap], _] w (fun e w' => e = .returned (.bool (kids.all (fun x => x.kind == kind))) ∧ Below w.heap.size w w')
  rw [hlen]
  rw [hlen] at hM
  have HN := Lib.hid hlen
  have HL := Lib.hid hL
  clear hlen hL
  go_enter Tryz.func52, Tryz.ntmps52
  go_wp2_with fail
  go_loopg [10] len (fun gk i wr => ∃ j : Nat, j ≤ len ∧ gk = len - j ∧ i = .int .i64 (j : Int) ∧ Hid (∀ i x, i < j → kids[i]? = some x → x.kind = kind) ∧ Hid (Below w.heap.size w wr))
  case atStart => exact ⟨0, by omega, by omega, rfl, Lib.hid (fun i x h => by omega), Lib.hid ((Below.refl _ _).alloc (Nat.le_refl _) _)⟩
  case round =>
    obtain ⟨j, hj, rfl, rfl, hall, hB⟩ := hrel
    by_cases hjn : j < len
    · have hjz : (j : Int) < (len : Int) := by omega
      obtain ⟨x, hx⟩ : ∃ x, kids[j]? = some x := ⟨kids[j]'(by have := HN.out; omega), List.getElem?_eq_getElem _⟩
      obtain ⟨b, o, hao, c0, c1, c2, c3, c4, -⟩ := kid_cells HL.out hx hB.out
      obtain rfl : ao = some ⟨b, o, none⟩ := hao
      have HX := Lib.hid hx
      clear hx
      by_cases hk : x.kind = kind
      · have hk2 : (x.kind != kind) = false := by simpa using hk
        have HK := Lib.hid hk
        clear hk
        go_wp2_with fail
        go_roundg (len - (j + 1))
        case measure => omega
        case rel =>
          refine ⟨j + 1, by omega, rfl, by push_cast; rfl, Lib.hid ?_, Lib.hid (hB.out.alloc hB.out.size _)⟩
          intro i y hi hy
          by_cases hij : i < j
          · exact hall.out i y hij hy
          · obtain rfl : i = j := by omega
            rw [HX.out] at hy
            cases hy
            exact HK.out
      · have hk2 : (x.kind != kind) = true := by simpa using hk
        have HK := Lib.hid hk
        clear hk
        go_wp2_with fail
        go_ret
        refine ⟨ret_bool (Eq.symm ?_), hB.out.alloc hB.out.size _⟩
        rw [List.all_eq_false]
        exact ⟨x, List.mem_of_getElem? HX.out, by simpa using HK.out⟩
    · have hjz : ¬ (j : Int) < (len : Int) := by omega
      obtain rfl : j = len := by omega
      go_wp2_with fail
      go_ret
      refine ⟨ret_bool (Eq.symm ?_), hB.out⟩
      rw [List.all_eq_true]
      intro x hx
      obtain ⟨i, hi, e⟩ := List.mem_iff_getElem.1 hx
      simpa using hall.out i x (by have := HN.out; omega) (by rw [List.getElem?_eq_getElem hi, e])

end Go.Proofs.YteecbmhkfnlecaaGreatDoor
