/-
  unnode kind by kind, part I: what it lays, given its own contract a level down. No conditions.
  durations, and unnode at a duration: what it lays. No conditions.
-/
import Derived.Test.YtongafghllkomaaGreatDoorOps2
import Derived.Test.YtongafghllkomaaGreatDoorUnF
namespace Go.Proofs.YtongafghllkomaaGreatDoor
open Go.RowKit
set_option linter.unusedVariables false

set_option maxRecDepth 100000 in
theorem un_42 (d : Nat) (hU : UnC d) (n : Nd) (D : Nat) (w : World) (hL : LiesD D w n) (hG : PreD (d + 1) n) (hk : n.kind = 42) :
    Calls Tryz.prog 31 #[n.val] w (UnPost (d + 1) n w) := by
  obtain ⟨k, t, m, u, ao, cap, kids⟩ := n
  obtain rfl : k = 42 := hk
  have hu : 0 ≤ u ∧ u < 18446744073709551616 := by
    cases D with
    | zero => exact hL.elim
    | succ D => exact ⟨hL.1.2.2.2.1, hL.1.2.2.2.2.1⟩
  obtain ⟨hu1, hu2⟩ := hu
  clear hL hG
  show Calls _ _ #[.agg #[.int .i64 42, .string t, .string m, .int .u64 u, .slice ao kids.length cap]] w _
  go_enter Tryz.func31, Tryz.ntmps31
  go_wp2_with fail
  refine (regexp_any _ _).mono ?_
  rintro e w1 ⟨rfl, rfl⟩
  go_wp2_with fail
  go_ret
  refine unpost _ ptrTy_42 sTy_42 (by simp) (((Below.refl _ _).alloc (Nat.le_refl _) _).alloc (by simp) _) ?_
  rw [slots_42 _ rfl]
  exact ⟨rfl, rfl, rfl, ⟨w.heap.size + 1, (show w.heap.size ≤ w.heap.size + 1 by omega), rfl, by show _ = some (Obj.cells #[.string t] 304 (0, 0)); rw [heap_alloc_old _ _ (by simp)]; have h := heap_alloc_new (w.alloc (.cells #[.int .i64 42, .string t, .string m, .int .u64 u, .slice ao kids.length cap] 25)) (.cells #[.string t] 304); simpa using h⟩, trivial⟩

set_option maxRecDepth 100000 in
theorem un_41 (d : Nat) (hU : UnC d) (n : Nd) (D : Nat) (w : World) (hL : LiesD D w n) (hG : PreD (d + 1) n) (hk : n.kind = 41) :
    Calls Tryz.prog 31 #[n.val] w (UnPost (d + 1) n w) := by
  obtain ⟨k, t, m, u, ao, cap, kids⟩ := n
  obtain rfl : k = 41 := hk
  have hu : 0 ≤ u ∧ u < 18446744073709551616 := by
    cases D with
    | zero => exact hL.elim
    | succ D => exact ⟨hL.1.2.2.2.1, hL.1.2.2.2.2.1⟩
  obtain ⟨hu1, hu2⟩ := hu
  clear hL hG
  show Calls _ _ #[.agg #[.int .i64 41, .string t, .string m, .int .u64 u, .slice ao kids.length cap]] w _
  go_enter Tryz.func31, Tryz.ntmps31
  go_wp2_with fail
  refine (unix_any (wrap64 u) (wrap64_bd u).1 (wrap64_bd u).2 _).mono ?_
  rintro e w1 ⟨rfl, hb1⟩
  go_wp2_with fail
  go_ret
  refine unpost _ ptrTy_41 sTy_41 rfl (((Below.refl w.heap.size w).alloc (Nat.le_refl _) _).trans (hb1.mono (by simp))) ?_
  rw [slots_41 _ rfl]
  exact ⟨rfl, rfl, rfl, rfl, rfl, rfl, trivial⟩

theorem frombits (u : Int) (w : World) : Sem.run Tryz.prog (callFunc 82 #[.int .u64 u]) w = .ok (Next.value (Value.float .f64 u.toNat)) w := by kernel_rfl
set_option maxRecDepth 100000 in
theorem un_38 (d : Nat) (hU : UnC d) (n : Nd) (D : Nat) (w : World) (hL : LiesD D w n) (hG : PreD (d + 1) n) (hk : n.kind = 38) :
    Calls Tryz.prog 31 #[n.val] w (UnPost (d + 1) n w) := by
  obtain ⟨k, t, m, u, ao, cap, kids⟩ := n
  obtain rfl : k = 38 := hk
  clear hL hG
  have hf := frombits u
  show Calls _ _ #[.agg #[.int .i64 38, .string t, .string m, .int .u64 u, .slice ao kids.length cap]] w _
  go_enter Tryz.func31, Tryz.ntmps31
  go_wp2_with fail
  go_ret
  refine unpost _ ptrTy_38 sTy_38 (by simp) ((Below.refl _ _).alloc (Nat.le_refl _) _) ?_
  rw [slots_38 _ rfl]
  exact ⟨rfl, rfl, rfl, rfl, trivial⟩

end Go.Proofs.YtongafghllkomaaGreatDoor

namespace Go.Proofs.YtongafghllkomaaGreatDoor
open Go.RowKit
set_option linter.unusedVariables false

def durCells (n : Nd) : List Value := [.int .i64 (wrap64 n.num), .string n.text]
def durRow (ns : List Nd) : List Value := ns.flatMap durCells

theorem durRow_get (ns : List Nd) : ∀ (i : Nat) (n : Nd), ns[i]? = some n → (durRow ns)[2 * i]? = some (.int .i64 (wrap64 n.num)) ∧ (durRow ns)[2 * i + 1]? = some (.string n.text) := by
  induction ns with
  | nil => intro i n h; simp at h
  | cons m ns ih =>
    intro i n h
    cases i with
    | zero =>
      simp at h
      subst h
      exact ⟨rfl, rfl⟩
    | succ i =>
      have h2 := ih i n (by simpa using h)
      have e : durRow (m :: ns) = Value.int .i64 (wrap64 m.num) :: Value.string m.text :: durRow ns := rfl
      rw [e, show 2 * (i + 1) = 2 * i + 1 + 1 by omega]
      simpa using h2

theorem durRow_len (ns : List Nd) : (durRow ns).length = ns.length * 2 := by
  induction ns with
  | nil => rfl
  | cons m ns ih =>
    have e : durRow (m :: ns) = Value.int .i64 (wrap64 m.num) :: Value.string m.text :: durRow ns := rfl
    rw [e]; simp [ih]; omega

theorem durRow_succ {ns : List Nd} {j : Nat} {x : Nd} (h : ns[j]? = some x) : durRow (ns.take (j + 1)) = durRow (ns.take j) ++ durCells x := by
  unfold durRow
  rw [List.take_add_one, h]
  simp

theorem infoDur : (Tryz.prog.info? 302).map (fun i => (i.zero, i.size, i.bytes)) = some (some (.agg #[.int .i64 0, .string ⟨#[]⟩]), 2, 24) := by kernel_rfl
theorem undDur : Tryz.prog.underlying 240 = some (.slice 302) := by kernel_rfl

/-- The slice that durations makes. -/
def DurPost (ns : List Nd) (w : World) (e : Ending) (w' : World) : Prop :=
  ∃ ao cap, e = .returned (.slice ao ns.length cap) ∧ CellsAre (From w.heap.size) w' (.slice ao ns.length cap) ns.length 2 (fun i cur => ∀ n, ns[i]? = some n → cur[2 * i]? = some (.int .i64 (wrap64 n.num)) ∧ cur[2 * i + 1]? = some (.string n.text)) ∧ Below w.heap.size w w'

set_option maxRecDepth 100000 in
set_option maxHeartbeats 1000000 in
theorem durations_any (D : Nat) (k : Int) (t m : ByteArray) (u : Int) (ao : Option Addr) (cap : Nat) (ns : List Nd) (w : World) (hlen4 : ns.length ≤ 1000) (hL : ListLies D w ao ns) (hk : ∀ x ∈ ns, x.kind = 40) :
    Calls Tryz.prog 83 #[.agg #[.int .i64 k, .string t, .string m, .int .u64 u, .slice ao ns.length cap]] w (DurPost ns w) := by
  obtain ⟨len, hlen⟩ : ∃ len, ns.length = len := ⟨_, rfl⟩
  rw [hlen] at hlen4 ⊢
  obtain ⟨i0, hi, hz0, hz1, hz2⟩ := info_parts infoDur
  have HN := Lib.hid hlen
  have HL := Lib.hid hL
  have HK := Lib.hid hk
  clear hlen hL hk
  go_enter Tryz.func83, Tryz.ntmps83
  go_wp2_with fail
  go_loopg [3, 9] len (fun gk out i wr => ∃ (j : Nat) (ao' : Option Addr) (cap' : Nat), j ≤ len ∧ gk = len - j ∧ i = .int .i64 (j : Int) ∧ out = .slice ao' j cap' ∧ Hid (wr.ownsRow w.heap.size 302 2 (.slice ao' j cap') j (durRow (ns.take j))) ∧ Hid (Below w.heap.size w wr))
  case atStart => exact ⟨0, none, 0, by omega, by omega, rfl, rfl, Lib.hid ⟨rfl, Or.inl ⟨rfl, rfl⟩⟩, Lib.hid ((Below.refl _ _).alloc (Nat.le_refl _) _)⟩
  case round =>
    obtain ⟨j, ao', cap', hj, rfl, rfl, rfl, hO, hB⟩ := hrel
    by_cases hjn : j < len
    · have hjz : (j : Int) < (len : Int) := by omega
      obtain ⟨x, hx⟩ : ∃ x, ns[j]? = some x := ⟨ns[j]'(by have := HN.out; omega), List.getElem?_eq_getElem _⟩
      obtain ⟨b, o, hao, c0, c1, c2, c3, c4, -⟩ := list_cells HL.out hx hB.out
      obtain rfl : ao = some ⟨b, o, none⟩ := hao
      have hk40 : (x.kind != 40) = false := by simpa using HK.out x (List.mem_of_getElem? hx)
      have HX := Lib.hid hx
      have hBs : w.heap.size ≤ wr.heap.size := hB.out.size
      have HOW := fun o1 o2 => Lib.hid ((hO.out.alloc o1).alloc o2)
      clear hx
      go_wp2_with (at_builtin; refine wpList_append_lies _ rfl _ _ 240 rfl w.heap.size 302 i0 (.agg #[.int .i64 0, .string ⟨#[]⟩]) 2 24 undDur hi hz0 hz1 hz2 rfl (by decide) _ _ _ rfl (HOW _ _).out ⟨wr.heap.size + 1, 0, none⟩ 1 1 [.int .i64 (wrap64 x.num), .string x.text] rfl rfl ?c1 ?c2 (by decide) ?c3 ?c4 ?c5 _ rfl ?_)
      case c1 =>
        intro i v hv
        have hblk : ∀ o1 o2, ((wr.alloc o1).alloc o2).heap[wr.heap.size + 1]? = some o2 := fun o1 o2 => by have := heap_alloc_new (wr.alloc o1) o2; simpa using this
        rw [add0, Lib.cell_of_heap (hblk _ _)]
        simpa using hv
      case c2 => intro v hv; simp at hv; rcases hv with rfl | rfl <;> rfl
      case c3 => unfold maxLen; omega
      case c4 => omega
      case c5 => simp; omega
      intro g cap2 w2 hown' hgrow hat hglt
      have HO2 : Hid (w2.ownsRow w.heap.size 302 2 (.slice (some ⟨g, 0, none⟩) (j + 1) cap2) (j + 1) (durRow (ns.take (j + 1)))) := Lib.hid (by rw [durRow_succ HX.out]; exact hown')
      have HB2 := Lib.hid (((hB.out.alloc hBs _).alloc (by simp; omega) _).grown hgrow (by simp; omega) (by
        intro k hk
        rcases hO.out.2 with ⟨hv, _⟩ | ⟨g1, c1, cur1, hv, hBg, _⟩
        · rw [hv] at hk; simp [Value.ownBlock] at hk
        · rw [hv] at hk; simp [Value.ownBlock] at hk; omega))
      clear hown' hgrow hat
      go_wp2_with fail
      go_roundg (len - (j + 1))
      case measure => omega
      case rel => exact ⟨j + 1, some ⟨g, 0, none⟩, cap2, by omega, rfl, by push_cast; rfl, rfl, HO2, HB2⟩
    · have hjz : ¬ (j : Int) < (len : Int) := by omega
      obtain rfl : j = len := by omega
      go_wp2_with fail
      go_ret
      have hl := HN.out
      have hO2 := hO.out
      rw [List.take_of_length_le (by omega)] at hO2
      unfold DurPost
      rw [hl]
      refine ⟨_, _, rfl, ?_, hB.out⟩
      have hlr := hO2.1
      rcases hO2.2 with ⟨hv, h0⟩ | ⟨g, cp, cur, hv, hBg, hg, hc1, hc2, hc3, hc4⟩
      · exact Or.inl ⟨h0, hv⟩
      · refine Or.inr ⟨g, cp, cur, _, hBg, hv, hg, hc1, hc2, hc3, fun i hi n hn => ?_⟩
        obtain ⟨h1, h2⟩ := durRow_get ns i n hn
        rw [← hc4] at h1 h2
        rw [List.getElem?_take] at h1 h2
        rw [if_pos (by omega)] at h1 h2
        exact ⟨by simpa using h1, by simpa using h2⟩

set_option maxRecDepth 100000 in
theorem un_39 (d : Nat) (hU : UnC d) (n : Nd) (D : Nat) (w : World) (hL : LiesD D w n) (hG : PreD (d + 1) n) (hk : n.kind = 39) :
    Calls Tryz.prog 31 #[n.val] w (UnPost (d + 1) n w) := by
  obtain ⟨D, rfl⟩ : ∃ E, D = E + 1 := by cases D with | zero => exact hL.elim | succ E => exact ⟨E, rfl⟩
  obtain ⟨k, t, m, u, ao, cap, kids⟩ := n
  obtain rfl : k = 39 := hk
  have hn0 : (Nd.mk 39 t m u ao cap kids).kind ≠ 0 := by show (39 : Int) ≠ 0; decide
  have hn1 : (Nd.mk 39 t m u ao cap kids).kind ≠ 1 := by show (39 : Int) ≠ 1; decide
  have hks : ∀ x ∈ kids, x.kind = 40 := by
    intro x hx
    obtain ⟨i, hi, e⟩ := List.mem_iff_getElem.1 hx
    obtain ⟨hP, hC⟩ := hG.kid (i := i) (x := x) hn0 (by show kids[i]? = some x; rw [List.getElem?_eq_getElem hi, e])
    have hC1 := hC hn1
    have e1 : (fixedL 39).getD i (restL 39) = 23 := by rw [show fixedL 39 = [] from by decide, show restL 39 = 23 from by decide]; simp
    have hC2 : ofClassB x 23 = true := by rw [← e1]; exact hC1
    simpa using class_few [40] rfl hC2
  have HKS := Lib.hid hks
  have HSM := Lib.hid (show kids.length ≤ 1000 from by have := hG.small; simp only [Nd.kids] at this; omega)
  have HLL := Lib.hid (show ListLies D w ao kids from hL.2)
  clear hn0 hn1 hks hL hG
  show Calls _ _ #[.agg #[.int .i64 39, .string t, .string m, .int .u64 u, .slice ao kids.length cap]] w _
  go_enter Tryz.func31, Tryz.ntmps31
  go_wp2_with fail
  refine (durations_any D 39 t m u ao cap kids _ HSM.out (HLL.out.below ((Below.refl _ _).alloc (Nat.le_refl _) _)) HKS.out).mono ?_
  rintro e w1 ⟨ao1, cap1, rfl, hcs, hb1⟩
  have HB1 := Lib.hid (((Below.refl w.heap.size w).alloc (Nat.le_refl _) _).trans (hb1.mono (by simp)))
  go_wp2_with fail
  go_ret
  refine unpost _ ptrTy_39 sTy_39 rfl HB1.out ?_
  rw [slots_39 _ rfl]
  exact ⟨rfl, rfl, rfl, CellsAre.carry hcs (fun b o hA hb' => ⟨(Carries.of_below (A := From _) ((Below.refl _ _).alloc (Nat.le_refl _) _) b o hA hb').1, Nat.le_trans (by simp) hA⟩) (fun i x _ hx => hx), trivial⟩
end Go.Proofs.YtongafghllkomaaGreatDoor
