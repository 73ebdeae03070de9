/-
  The choices of unions; pairs of slots, slots that may lack, lists of slots joined. No conditions.
-/
import Derived.Test.YtcbcdgifakcooaaGreatDoorTyD
import Derived.Test.YtcbcdgifakcooaaGreatDoorShape
import Derived.Deep.AppendLies
import Derived.Deep.LoopGhost
import Derived.Deep.RegionLaw
import Derived.Deep.RegionHeld3
namespace Go.Proofs.YtcbcdgifakcooaaGreatDoor
open Go.RowKit
set_option linter.unusedVariables false
set_option linter.unusedSimpArgs false

theorem undMU : Tryz.prog.underlying 423 = some (.map 3 22) := by kernel_rfl
theorem zeroU (w : World) : (zeroValue 22).run Tryz.prog w = .ok (.int .u64 0) w := by kernel_rfl

def choiceTab : List (Int × Int) := [(30, 1), (25, 2), (26, 3), (27, 4), (20, 5), (21, 6), (35, 7), (16, 8), (24, 9), (41, 10), (39, 11), (38, 12), (33, 13), (36, 14), (23, 15), (17, 16), (18, 17), (28, 18), (19, 19), (43, 20), (42, 21), (34, 22), (22, 23), (37, 24), (45, 1), (46, 2), (47, 3), (48, 4), (49, 5), (51, 6), (7, 1), (10, 2), (11, 3), (8, 4), (9, 5), (12, 6), (13, 7), (14, 8), (15, 9)]
theorem chT_look {k : Int} (h : isTyP k) : lookI choiceTab k = (chT k : Nat) := by
  unfold isTyP at h
  rcases h with rfl | rfl | rfl | rfl | rfl | rfl <;> decide

theorem lookV_us (c : Int) : ∀ (t : List (Int × Int)) (z : Int), lookV (t.map fun p => (p.1, Value.int .u64 p.2)) (.int .u64 z) c = .int .u64 (t.foldl (fun acc p => if p.1 = c then p.2 else acc) z) := by
  intro t
  induction t with
  | nil => intro z; rfl
  | cons p t ih =>
    intro z
    unfold lookV at ih ⊢
    simp only [List.map_cons, List.foldl_cons]
    rw [← ih]
    by_cases hp : p.1 = c
    · rw [if_pos hp, if_pos hp]
    · rw [if_neg hp, if_neg hp]

/-- A map of numbers, and nothing else has turned since w0. -/
def UMap (w0 w : World) (b n : Nat) (T : List (Int × Int)) : Prop := T.length = n ∧ VMap w0 w b (T.map fun p => (p.1, Value.int .u64 p.2))
theorem UMap.made (w : World) : UMap w (w.alloc (.map #[] 0)) w.heap.size 0 [] := ⟨rfl, VMap.made w⟩

theorem wpList_insert_u {w0 w : World} {ops : Array Oper} {rest : List Oper} {o : Oper} {a : Act} {Q : Exit → Act → World → Prop} {b n : Nat} {T : List (Int × Int)} (h : UMap w0 w b n T)
    (hg : o.guard = none) (m : Operand) (t : TypeId) (k u : Int) (hop : o.op = Op.insert t m (.const (.int .i64 k)) (.const (.int .u64 u))) (e : TypeId) (ht : Tryz.prog.underlying t = some (.map 3 e)) (hl : n < 1000)
    (hm : a.eval m = .map (some b)) (hk : (Lit.int .i64 k).wf = true)
    (hK : ∀ w', UMap w0 w' b (n + 1) (T ++ [(k, u)]) → wpList Tryz.prog ops Q rest (a.put o.dst undef) w') : wpList Tryz.prog ops Q (o :: rest) a w := by
  refine wpList_plain hg fun K' hK' => ?_
  obtain ⟨w', hrun, h1, -⟩ := h.2.insert ht (by rw [List.length_map, h.1]; exact hl) k (.int .u64 u) hk
  unfold Oper.wp
  have e1 : a.eval (.const (.int .i64 k)) = .int .i64 k := rfl
  have e2 : a.eval (.const (.int .u64 u)) = .int .u64 u := rfl
  simp [execOp, hop, hm, e1, e2, hrun, Result.andThen]
  exact hK' _ _ (hK w' ⟨by simp [h.1], by rw [List.map_append]; exact h1⟩)

theorem wpList_lookup_u {w0 w : World} {ops : Array Oper} {rest : List Oper} {o : Oper} {a : Act} {Q : Exit → Act → World → Prop} {b n : Nat} {T : List (Int × Int)} (h : UMap w0 w b n T) (hT : T = choiceTab)
    (hg : o.guard = none) (m x : Operand) (t : TypeId) (hop : o.op = Op.lookup t m x false) (e : TypeId) (ht : Tryz.prog.underlying t = some (.map 3 e)) (hz : (zeroValue e).run Tryz.prog w = .ok (.int .u64 0) w)
    (hm : a.eval m = .map (some b)) (c : Int) (hx : a.eval x = .int .i64 c) (hc : (Lit.int .i64 c).wf = true)
    (hK : wpList Tryz.prog ops Q rest (a.put o.dst (.int .u64 (lookI choiceTab c))) w) : wpList Tryz.prog ops Q (o :: rest) a w := by
  subst hT
  refine wpList_plain hg fun K' hK' => ?_
  have hrun := h.2.2.2.lookup ht (.int .u64 0) hz c hc
  rw [lookV_us] at hrun
  unfold Oper.wp
  simp [execOp, hop, hm, hx, hrun, Result.andThen]
  exact hK' _ _ hK

theorem UMap.cell {w0 w : World} {b n : Nat} {T : List (Int × Int)} (h : UMap w0 w b n T) {c o : Nat} {v : Value} (hc : w0.cell? ⟨c, o, none⟩ = some v) : w.cell? ⟨c, o, none⟩ = some v :=
  (h.2.1.cell (World.block_lt_of_cell? _ _ hc)).trans hc

set_option maxHeartbeats 4000000 in
set_option maxRecDepth 100000 in
theorem choice_any (k : Int) (t m : ByteArray) (u : Int) (ao : Option Addr) (len cap : Nat) (w : World) (hk : isTyP k) :
    Calls Tryz.prog 200 #[.agg #[.int .i64 k, .string t, .string m, .int .u64 u, .slice ao len cap]] w fun e w' => e = .returned (.int .u64 (chT k : Nat)) ∧ Below w.heap.size w w' := by
  have hmm := @run_makeMap Tryz.prog
  have hc : (Lit.int .i64 k).wf = true := by
    unfold isTyP at hk
    rcases hk with rfl | rfl | rfl | rfl | rfl | rfl <;> decide
  rw [← chT_look hk]
  clear hk
  go_enter Tryz.func200, Tryz.ntmps200
  go_upto_region 1 with fail
  have HBA := Lib.hid ((Below.refl w.heap.size w).alloc (Nat.le_refl _) (.cells #[.int .i64 k, .string t, .string m, .int .u64 u, .slice ao len cap] 25))
  have n0 : (w.alloc (.cells #[.int .i64 k, .string t, .string m, .int .u64 u, .slice ao len cap] 25)).cell? ⟨w.heap.size, 0, none⟩ = some (.int .i64 k) := World.cell?_alloc_at _ _ _ _ rfl
  obtain ⟨nb, hnb⟩ : ∃ nb, nb = w.heap.size := ⟨_, rfl⟩
  rw [← hnb] at n0 ⊢
  clear hnb
  generalize w.alloc (.cells #[.int .i64 k, .string t, .string m, .int .u64 u, .slice ao len cap] 25) = U at *
  have HN0 := Lib.hid n0
  go_wp2_with (first | (rename UMap _ _ _ _ _ => hS; refine wpList_insert_u hS rfl _ _ _ _ rfl 22 undMU (by decide) rfl ?_ ?_; (next => decide); clear hS; intro w1 h1; clear n0; have n0 := h1.cell HN0.out) | (refine wpList_insert_u (UMap.made _) rfl _ _ _ _ rfl 22 undMU (by decide) rfl ?_ ?_; (next => decide); intro w1 h1; clear n0; have n0 := h1.cell HN0.out) | (refine wpList_lookup_u ‹UMap _ _ _ _ _› rfl rfl _ _ 423 rfl 22 undMU (zeroU _) rfl k rfl hc ?_))
  go_ret
  exact ⟨rfl, HBA.out.trans ((VMap.bel (And.right ‹UMap _ _ _ _ _›)).mono HBA.out.size)⟩

/-- A value holds these slots. -/
def SlV (w : World) (v : Value) (sl : List Sl) : Prop :=
  (sl = [] ∧ v = .slice none 0 0) ∨ (0 < sl.length ∧ ∃ g cap, v = .slice (some ⟨g, 0, none⟩) sl.length cap ∧ ∀ j u, (sl.flatMap Sl.cells)[j]? = some u → w.cell? ⟨g, j, none⟩ = some u)
theorem SlV.below {w w' : World} {v : Value} {sl : List Sl} (h : SlV w v sl) (hb : Below w.heap.size w w') : SlV w' v sl := by
  rcases h with h | ⟨h0, g, cap, hv, hc⟩
  · exact .inl h
  · exact .inr ⟨h0, g, cap, hv, fun j u hj => (hb.cell (World.block_lt_of_cell? _ _ (hc j u hj))).trans (hc j u hj)⟩
theorem slv_new (W : World) (sl : List Sl) (T : TypeId) (h : 0 < sl.length) : SlV (W.alloc (.cells (sl.flatMap Sl.cells).toArray T)) (.slice (some ⟨W.heap.size, 0, none⟩) sl.length sl.length) sl :=
  .inr ⟨h, _, _, rfl, fun j u hj => (World.cell?_alloc_at _ _ _ _ rfl).trans (by rw [List.getElem?_toArray]; exact hj)⟩
theorem LitPost.slv {w wa w' : World} {sl : List Sl} {e : Ending} (h : LitPost w sl wa e w') (h0 : 0 < sl.length) : SlV w' (.slice (some ⟨wa.heap.size, 0, none⟩) sl.length sl.length) sl := by
  rw [h.2.1]
  exact slv_new _ _ _ h0

theorem sls_take {sls : List (List Sl)} {j : Nat} {s : List Sl} (h : sls[j]? = some s) : (sls.take (j + 1)).flatten = (sls.take j).flatten ++ s := by
  rw [List.take_add_one, h, Option.toList_some, List.flatten_append]
  simp
theorem sls_le (sls : List (List Sl)) (j : Nat) : (sls.take j).flatten.length ≤ sls.flatten.length := by
  have e : sls.flatten = (sls.take j).flatten ++ (sls.drop j).flatten := by rw [← List.flatten_append, List.take_append_drop]
  rw [e, List.length_append]
  omega

theorem wpList_append_nothing {P : Program} {ops : Array Oper} {rest : List Oper} {o : Oper} {a : Act} {w : World} {Q : Exit → Act → World → Prop} (hgd : o.guard = none) (s x : Operand) (t : TypeId)
    (ho : o.op = .call { callee := .builtin .append, args := #[s, x], argTypes := #[t, t] }) (v : Value) (hs : a.eval s = v) (hx : a.eval x = .slice none 0 0) (hrun : (Builtin.append_ #[t, t] o.type #[v, .slice none 0 0]).run P w = .ok v w)
    (h : wpList P ops Q rest (a.put o.dst v) w) : wpList P ops Q (o :: rest) a w := by
  refine wpList_plain hgd fun Kn hK => ?_
  refine step_of_run ho (v := v) (w' := w) ?_ (hK _ _ h)
  rw [hs, hx]
  exact hrun

theorem append_nothing (so : Option Addr) (m cap : Nat) (h : m ≤ cap) (T : TypeId) (w : World) : (Builtin.append_ #[260, 260] T #[.slice so m cap, .slice none 0 0]).run Tryz.prog w = .ok (.slice so m cap) w := by
  obtain ⟨i, hi, hh⟩ := Option.map_eq_some_iff.1 infoSlot
  simp only [Prod.mk.injEq] at hh
  cases so <;> simp [Builtin.append_, run_underlying Tryz.underlying260, sizeOf, typeInfo, hi, hh.2.1, Builtin.lenOf, Builtin.firstCells, storeCells, h]

theorem own_cap {w : World} {B E s : Nat} {so : Option Addr} {m cap : Nat} {xs : List Value} (h : w.ownsRow B E s (.slice so m cap) m xs) : m ≤ cap := by
  rcases h.2 with ⟨hv, _⟩ | ⟨g', cap', cur, hv, hb, hg, h1, _⟩
  · cases hv
    exact Nat.le_refl _
  · cases hv
    exact h1

set_option maxHeartbeats 1000000 in
set_option maxRecDepth 100000 in
theorem join_any (sls : List (List Sl)) (vs : List Value) (lb k : Nat) (w : World) (hk : sls.length = k) (hvl : vs.length = k) (hk10 : k ≤ 10) (hv : ∀ (i : Nat) (v : Value) (sl : List Sl), vs[i]? = some v → sls[i]? = some sl → SlV w v sl)
    (hc : ∀ (i : Nat) (v : Value), vs[i]? = some v → w.cell? ⟨lb, i, none⟩ = some v) (N : Nat) (hN : sls.flatten.length = N) (hn : N ≤ 1000) :
    Calls Tryz.prog 175 #[.slice (some ⟨lb, 0, none⟩) k k] w fun e w' => ∃ so cap, e = .returned (.slice so N cap) ∧ w'.ownsRow w.heap.size 265 4 (.slice so N cap) N (sls.flatten.flatMap Sl.cells) ∧ Below w.heap.size w w' := by
  obtain ⟨i0, hi, hiz, his, hib⟩ : ∃ i, Tryz.prog.info? 265 = some i ∧ i.zero = some (.agg #[.int .i64 0, .int .i64 0, .int .u64 0, .nilFunc]) ∧ i.size = 4 ∧ i.bytes = 32 := by
    obtain ⟨i, hi, h⟩ := Option.map_eq_some_iff.1 infoSlot
    simp only [Prod.mk.injEq] at h
    exact ⟨i, hi, h.1, h.2.1, h.2.2⟩
  have HK := Lib.hid hk
  have HVL := Lib.hid hvl
  have HV := Lib.hid hv
  have HC := Lib.hid hc
  have HN := Lib.hid hn
  have HNN := Lib.hid hN
  clear hk hvl hv hc hn hN
  go_enter Tryz.func175, Tryz.ntmps175
  go_wp2_with fail
  go_loopg [3, 8] k (fun gk out i wr => ∃ (j : Nat) (so : Option Addr) (cap m : Nat), j ≤ k ∧ gk = k - j ∧ i = .int .i64 (j : Int) ∧ out = .slice so m cap ∧ Hid (m = (sls.take j).flatten.length) ∧ Hid (wr.ownsRow w.heap.size 265 4 (.slice so m cap) m ((sls.take j).flatten.flatMap Sl.cells)) ∧ Hid (Below w.heap.size w wr))
  case atStart => exact ⟨0, none, 0, 0, by omega, by omega, rfl, rfl, Lib.hid rfl, Lib.hid ⟨rfl, Or.inl ⟨rfl, rfl⟩⟩, Lib.hid (Below.refl _ _)⟩
  case round =>
    obtain ⟨j, so, cap, m, hj, rfl, rfl, rfl, hM, hO, hB⟩ := hrel
    by_cases hjk : j < k
    · have hjz : (j : Int) < (k : Int) := by omega
      obtain ⟨v, hv⟩ : ∃ v, vs[j]? = some v := ⟨vs[j]'(by have := HVL.out; omega), List.getElem?_eq_getElem _⟩
      obtain ⟨s, hs⟩ : ∃ s, sls[j]? = some s := ⟨sls[j]'(by have := HK.out; omega), List.getElem?_eq_getElem _⟩
      have c0 : wr.cell? ⟨lb, j, none⟩ = some v := (hB.out.cell (World.block_lt_of_cell? _ _ (HC.out j v hv))).trans (HC.out j v hv)
      have hsv := (HV.out j v s hv hs).below hB.out
      have htk := sls_take hs
      have HTK := Lib.hid htk
      have hle := sls_le sls (j + 1)
      have hroom : m ≤ cap := own_cap hO.out
      have HLE := Lib.hid (show m + s.length ≤ 1000 by have := HN.out; have := HNN.out; rw [htk, List.length_append, ← hM.out] at hle; omega)
      clear htk hle hv hs
      rcases hsv with ⟨rfl, rfl⟩ | ⟨h0, g0, cap0, rfl, hcells⟩
      · go_wp2_with (at_builtin; refine wpList_append_nothing rfl _ _ 260 rfl (.slice so m cap) rfl rfl (append_nothing so m cap hroom _ wr) ?_)
        go_roundg (k - (j + 1))
        case measure => omega
        case rel => exact ⟨j + 1, so, cap, m, by omega, rfl, by push_cast; rfl, rfl, Lib.hid (by rw [HTK.out, List.append_nil]; exact hM.out), Lib.hid (by rw [HTK.out, List.append_nil]; exact hO.out), hB⟩
      · have HCE := Lib.hid hcells
        have hBs : w.heap.size ≤ wr.heap.size := hB.out.size
        clear hcells
        go_wp2_with (at_builtin; refine wpList_append_lies _ rfl _ _ 260 rfl w.heap.size 265 i0 (.agg #[.int .i64 0, .int .i64 0, .int .u64 0, .nilFunc]) 4 32 Tryz.underlying260 hi hiz his hib rfl (by decide) (.slice so m cap) m _ rfl hO.out ⟨g0, 0, none⟩ s.length cap0 (s.flatMap Sl.cells) rfl (flat_length4 s) ?c1 ?c2 h0 ?c3 ?c4 ?c5 _ rfl ?_)
        case c1 => intro q uu hq; rw [add_at, Nat.zero_add]; exact HCE.out q uu hq
        case c2 =>
          intro uu hu
          obtain ⟨s1, -, h1⟩ := List.mem_flatMap.1 hu
          exact one_cell_slot s1 uu h1
        case c3 => have := HLE.out; unfold maxLen; omega
        case c4 => have := HLE.out; omega
        case c5 => exact hBs
        intro g cap2 w2 hown' hgrow hat hglt
        have HO2 : Hid (w2.ownsRow w.heap.size 265 4 (.slice (some ⟨g, 0, none⟩) (m + s.length) cap2) (m + s.length) ((sls.take (j + 1)).flatten.flatMap Sl.cells)) := Lib.hid (by rw [HTK.out, List.flatMap_append]; exact hown')
        have HB2 := Lib.hid (hB.out.grown hgrow hBs (fun r hr => (World.ownsRow.lt hO.out r hr).1))
        clear hown' hgrow hat
        go_wp2_with fail
        go_roundg (k - (j + 1))
        case measure => omega
        case rel => exact ⟨j + 1, some ⟨g, 0, none⟩, cap2, m + s.length, by omega, rfl, by push_cast; rfl, rfl, Lib.hid (by rw [HTK.out, List.length_append, ← hM.out]), HO2, HB2⟩
    · have hjz : ¬ (j : Int) < (k : Int) := by omega
      obtain rfl : j = k := by omega
      go_wp2_with fail
      go_ret
      have hM2 := hM.out
      have hO2 := hO.out
      rw [List.take_of_length_le (by have := HK.out; omega)] at hM2 hO2
      rw [HNN.out] at hM2
      subst hM2
      exact ⟨so, cap, rfl, hO2, hB.out⟩

/-- The two slots of a union. -/
def pairSl (i : Nat) (k : Int) (c : Array Value) (R : By → Nat → Prop) (bd : Nat) : List Sl := [⟨i, 1, chT k, none, fun _ _ => True, 0⟩, ⟨i + 1, 4, 0, some (199, c), R, bd⟩]

set_option maxHeartbeats 1000000 in
set_option maxRecDepth 100000 in
theorem either_any (i : Nat) (ii : Int) (hii : ii = (i : Int)) (hi : i ≤ 10) (n : Nd) (hk : isTyP n.kind) (R : By → Nat → Prop) (bd : Nat) (w : World) :
    Calls Tryz.prog 174 #[.int .i64 ii, n.val] w fun e w' => ∃ cb wa, LitPost w (pairSl i n.kind #[.pointer (some ⟨cb, 0, none⟩)] R bd) wa e w' ∧ w.heap.size ≤ cb ∧ NdCells wa cb 0 n := by
  obtain ⟨k, t, m, u, ao, cap, kids⟩ := n
  have hk0 : ((k : Int) == 0) = false := by
    have hk : isTyP k := hk
    unfold isTyP at hk
    rcases hk with rfl | rfl | rfl | rfl | rfl | rfl <;> rfl
  show Calls _ _ #[_, .agg #[.int .i64 k, .string t, .string m, .int .u64 u, .slice ao kids.length cap]] w _
  have HK := Lib.hid (show isTyP k from hk)
  have hi10 : ii ≤ 10 := by omega
  have hi0 : 0 ≤ ii := by omega
  have HII := Lib.hid hii
  have hwi : IntKind.i64.wrap (ii + 1) = ii + 1 := by rw [IntKind.wrap_i64]; omega
  clear hk hi hii
  go_enter Tryz.func174, Tryz.ntmps174
  go_upto_region 3 with fail
  have HBA := Lib.hid ((Below.refl w.heap.size w).alloc (Nat.le_refl _) (.cells #[.int .i64 k, .string t, .string m, .int .u64 u, .slice ao kids.length cap] 25))
  have hsz : w.heap.size < (w.alloc (.cells #[.int .i64 k, .string t, .string m, .int .u64 u, .slice ao kids.length cap] 25)).heap.size := by simp
  have hcell : ∀ j, (w.alloc (.cells #[.int .i64 k, .string t, .string m, .int .u64 u, .slice ao kids.length cap] 25)).cell? ⟨w.heap.size, j, none⟩ = (#[.int .i64 k, .string t, .string m, .int .u64 u, .slice ao kids.length cap] : Array Value)[j]? := fun j => World.cell?_alloc_at _ _ _ _ rfl
  obtain ⟨nb, hnb⟩ : ∃ nb, nb = w.heap.size := ⟨_, rfl⟩
  rw [← hnb] at hsz hcell ⊢
  have HNB := Lib.hid hnb
  clear hnb
  generalize w.alloc (.cells #[.int .i64 k, .string t, .string m, .int .u64 u, .slice ao kids.length cap] 25) = U at *
  have n0 := hcell 0
  have n1 := hcell 1
  have n2 := hcell 2
  have n3 := hcell 3
  have n4 := hcell 4
  clear hcell
  go_region_held3 (fun w' => (w'.cell? ⟨nb, 0, none⟩ = some (.int .i64 k) ∧ w'.cell? ⟨nb, 1, none⟩ = some (.string t) ∧ w'.cell? ⟨nb, 2, none⟩ = some (.string m) ∧ w'.cell? ⟨nb, 3, none⟩ = some (.int .u64 u) ∧ w'.cell? ⟨nb, 4, none⟩ = some (.slice ao kids.length cap))) (go_keep) (first | (go_at_call 200; refine (choice_any k t m u ao kids.length cap _ HK.out).mono ?_; rintro e c0w ⟨rfl, hb0⟩; have hz0 : U.heap.size ≤ c0w.heap.size := (by have h := hb0.size; first | exact h | (simp at h; omega)); obtain ⟨ka0, -⟩ := bblk hb0 (b := nb) (by first | omega | (simp; omega))) | (go_at_call 116; refine (number_any _ _ _ _).mono ?_; rintro e c1w ⟨rfl, hb1⟩; have hz1 : c0w.heap.size ≤ c1w.heap.size := (by have h := hb1.size; first | exact h | (simp at h; omega)); obtain ⟨ka1, -⟩ := bblk hb1 (b := nb) (by first | omega | (simp; omega))) | (go_at_call 173; show Calls _ _ #[_, (Nd.mk k t m u ao cap kids).val] _ _; refine (nodeAt_any _ (Nd.mk k t m u ao cap kids) _).mono ?_; rintro e c2w ⟨cb, rfl, hcb, hct, hb2⟩; obtain ⟨ka2, -⟩ := bblk hb2 (b := nb) (by first | omega | (simp; omega))))
  all_goals
    have hzw : w.heap.size ≤ U.heap.size := HBA.out.size
    go_wp2_with fail
    go_ret
    refine ⟨cb, c2w, ⟨rfl, ?_, ?_⟩, ?_, hct⟩
    · have hi2 := HII.out
      subst hi2
      simp [pairSl, Sl.cells, Sl.fv, Nd.kind]
    · exact HBA.out.trans (((Below.refl U.heap.size U).drew.trans (hb0.trans ((hb1.trans (hb2.mono hz1)).mono hz0))).mono hzw)
    · omega

end Go.Proofs.YtcbcdgifakcooaaGreatDoor
