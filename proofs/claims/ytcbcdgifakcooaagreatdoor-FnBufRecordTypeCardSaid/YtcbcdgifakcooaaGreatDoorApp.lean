/-
  Behind the maker's bytes: a string is appended, or so many zeros. No conditions.
-/
import Derived.Test.YtcbcdgifakcooaaGreatDoorMk
import Derived.Deep.AppendSrc
namespace Go.Proofs.YtcbcdgifakcooaaGreatDoor
open Go.RowKit
set_option linter.unusedVariables false
set_option linter.unusedSimpArgs false

/-- Both ways of an append onto the maker's slice: there is room, or a new row is laid. -/
theorem Mk.after {K : Nat} {w : World} {mb rb cap : Nat} {O X : By} {bs : Bool} (hm : Mk K w mb rb cap O bs) (hbig : O.length + X.length ≤ 140737488355328) {R : Result Value}
    (h1 : ∀ cur : Array Value, w.heap[rb]? = some (.cells cur 5 (0, 0)) → O.length + X.length ≤ cap → O.length + (bytesV X).length ≤ cur.size → R = .ok (.slice (some ⟨rb, 0, none⟩) (O.length + X.length) cap) (w.setRow rb (cur.toList.take O.length ++ bytesV X ++ cur.toList.drop (O.length + (bytesV X).length)).toArray))
    (h2 : (∀ j u, (bytesV O)[j]? = some u → w.cell? ((⟨rb, 0, none⟩ : Addr).add j) = some u) → cap < O.length + X.length → R = .ok (.slice (some ⟨w.heap.size, 0, none⟩) (O.length + X.length) (grownCap w (O.length + X.length) cap 5)) (w.drew.alloc (.cells ((bytesV O ++ bytesV X).toArray ++ Builtin.zeroCells #[.int .u8 0] (grownCap w (O.length + X.length) cap 5 - (O.length + X.length))) 5))) :
    ∃ g cap' w', R = .ok (.slice (some ⟨g, 0, none⟩) (O.length + X.length) cap') w' ∧ w'.ownsRow K 5 1 (.slice (some ⟨g, 0, none⟩) (O.length + X.length) cap') (O.length + X.length) (bytesV O ++ bytesV X) ∧ w.grownBy w' (some rb) ∧ (rb = g ∨ g = w.heap.size) ∧ g < w'.heap.size := by
  have hl : (bytesV O ++ bytesV X).length = (O.length + X.length) * 1 := by rw [List.length_append, bytesV_length, bytesV_length, Nat.mul_one]
  have hrow := hm.row
  have h63 : O.length + X.length ≤ maxLen := by unfold maxLen; omega
  rcases hm.own.2 with ⟨hv, _⟩ | ⟨g, cap', cur, hv, hb, hg, a1, a2, a3, a4⟩
  · cases hv
  · obtain ⟨rfl, rfl⟩ : g = rb ∧ cap' = cap := by cases hv; exact ⟨rfl, rfl⟩
    rw [Nat.mul_one] at a3 a4
    have hcl : cur.toList.length = cap' := by simpa using a3
    by_cases hroom : O.length + X.length ≤ cap'
    · have hr := h1 cur hg hroom (by rw [bytesV_length]; omega)
      refine ⟨g, cap', _, hr, ⟨hl, .inr ⟨g, cap', _, rfl, hb, setRow_heap w g cur _ _ _ hg, hroom, a2, ?_, ?_⟩⟩, ⟨rfl, rfl, rfl, by simp [World.setRow], fun k _ hk => setRow_other w g k _ (fun e => hk (by rw [e]))⟩, .inl rfl, by simpa [World.setRow] using hrow.2⟩
      · rw [Nat.mul_one]
        simp [bytesV_length]
        omega
      · rw [Nat.mul_one, a4]
        simp only
        rw [List.take_append_of_le_length (by rw [List.length_append, bytesV_length, bytesV_length]; exact Nat.le_refl _), List.take_of_length_le (by rw [List.length_append, bytesV_length, bytesV_length]; exact Nat.le_refl _)]
    · have hr := h2 (hm.own.cells rfl) (by omega)
      have hge := grownCap_ge w (O.length + X.length) cap' 5
      have hcm := grownCap_le_maxLen w (O.length + X.length) cap' 5 h63
      refine ⟨_, _, _, hr, ⟨hl, .inr ⟨w.heap.size, _, _, rfl, by omega, heap_alloc_new w.drew _, hge, hcm, ?_, ?_⟩⟩, ⟨rfl, rfl, rfl, by simp, fun k hk _ => Below.heap_alloc w.drew _ k hk⟩, .inr rfl, by simp⟩
      · rw [Nat.mul_one] at hl ⊢
        simp only [Array.size_append, List.size_toArray, size_zeroCells, hl]
        simp
        omega
      · simp only [Array.toList_append]
        rw [← hl]
        exact List.take_left

theorem step_of_run {P : Program} {o : Oper} {a : Act} {w : World} {Kn : Act → World → Prop} {Q : Exit → Act → World → Prop} {s x : Operand} {t tx : TypeId}
    (ho : o.op = .call { callee := .builtin .append, args := #[s, x], argTypes := #[t, tx] }) {v : Value} {w' : World} (hr : (Builtin.append_ #[t, tx] o.type #[a.eval s, a.eval x]).run P w = .ok v w') (h : Kn (a.put o.dst v) w') : Oper.wp P o a w Kn Q := by
  unfold Oper.wp execOp
  simp only [ho, resolve, invoke, builtin, Sem.run_bind, Sem.run_pure, Result.andThen_ok, List.map_toArray, List.map_cons, List.map_nil, hr]
  exact h

/-- append(m.out, s...), s a string. -/
theorem wp_append_text {P : Program} {o : Oper} {a : Act} {w : World} {Kn : Act → World → Prop} {Q : Exit → Act → World → Prop} (s x : Operand) (t tx : TypeId)
    (ho : o.op = .call { callee := .builtin .append, args := #[s, x], argTypes := #[t, tx] }) (ht : P.underlying t = some (.slice 5)) (htx : P.underlying tx = some .string) (hi : (P.info? 5).map (fun i => (i.zero, i.size, i.bytes)) = some (some (.int .u8 0), 1, 1))
    {K mb rb cap : Nat} {O : By} {bs : Bool} (hm : Mk K w mb rb cap O bs) (S : ByteArray) (hs : a.eval s = .slice (some ⟨rb, 0, none⟩) O.length cap) (hx : a.eval x = .string S)
    (hbig : O.length + S.size ≤ 140737488355328)
    (h : ∀ g cap' w', Hid (w'.ownsRow K 5 1 (.slice (some ⟨g, 0, none⟩) (O.length + S.size) cap') (O.length + S.size) (bytesV O ++ bytesV S.data.toList)) → Hid (w.grownBy w' (some rb)) → Hid (rb = g ∨ w.heap.size ≤ g) → g < w'.heap.size → Kn (a.put o.dst (.slice (some ⟨g, 0, none⟩) (O.length + S.size) cap')) w') : Oper.wp P o a w Kn Q := by
  obtain ⟨i0, hi, hiz, his, hib⟩ := info_parts' hi
  have hsz : S.data.toList.length = S.size := by rw [Array.length_toList]; rfl
  have hsrc : Src P i0.size tx (.string S) S.size (bytesV S.data.toList) w := by rw [his]; exact Src.ofString w htx S
  obtain ⟨g, cap', w', hr, b1, b2, b3, b4⟩ := hm.after (X := S.data.toList) (by rw [hsz]; exact hbig) (R := (Builtin.append_ #[t, tx] o.type #[.slice (some ⟨rb, 0, none⟩) O.length cap, .string S]).run P w)
    (fun cur hg hroom hfit => by
      rw [hsz] at hroom ⊢
      have hst := run_storeCells_at P rb O.length 5 (bytesV S.data.toList) 0 cur w hg hfit hsrc.one
      simp only [Nat.add_zero] at hst
      have hc := hsrc.cells
      rw [his] at hc
      simp [Builtin.append_, run_underlying ht, run_underlying htx, sizeOf, typeInfo, hi, hsrc.len, hroom, hc, Addr.add_lit, his, hst])
    (fun hold hg => by
      rw [hsz] at hg ⊢
      have h := run_append_grow_src (P := P) w t tx o.type 5 i0 (.int .u8 0) ht hi hiz (some ⟨rb, 0, none⟩) O.length cap (bytesV O) (by rw [his]; exact run_firstCells_some w.drew 1 O.length ⟨rb, 0, none⟩ O.length cap (bytesV O) (by rw [bytesV_length, Nat.mul_one]) (by simpa using hold)) (.string S) S.size _ hsrc hg (by omega) (by rw [hib]; exact growslice_fits (by omega) (by omega))
      exact h)
  rw [hsz] at hr b1
  exact step_of_run ho (by rw [hs, hx]; exact hr) (h g cap' w' (Lib.hid b1) (Lib.hid b2) (Lib.hid (b3.imp id fun e => Nat.le_of_eq e.symm)) b4)

theorem wpList_append_text {P : Program} {ops : Array Oper} {rest : List Oper} {o : Oper} {a : Act} {w : World} {Q : Exit → Act → World → Prop} (hgd : o.guard = none) (s x : Operand) (t tx : TypeId)
    (ho : o.op = .call { callee := .builtin .append, args := #[s, x], argTypes := #[t, tx] }) (ht : P.underlying t = some (.slice 5)) (htx : P.underlying tx = some .string) (hi : (P.info? 5).map (fun i => (i.zero, i.size, i.bytes)) = some (some (.int .u8 0), 1, 1))
    {K mb rb cap : Nat} {O : By} {bs : Bool} (hm : Mk K w mb rb cap O bs) (S : ByteArray) (hs : a.eval s = .slice (some ⟨rb, 0, none⟩) O.length cap) (hx : a.eval x = .string S)
    (hbig : O.length + S.size ≤ 140737488355328)
    (h : ∀ g cap' w', Hid (w'.ownsRow K 5 1 (.slice (some ⟨g, 0, none⟩) (O.length + S.size) cap') (O.length + S.size) (bytesV O ++ bytesV S.data.toList)) → Hid (w.grownBy w' (some rb)) → Hid (rb = g ∨ w.heap.size ≤ g) → g < w'.heap.size → wpList P ops Q rest (a.put o.dst (.slice (some ⟨g, 0, none⟩) (O.length + S.size) cap')) w') : wpList P ops Q (o :: rest) a w :=
  wpList_plain hgd fun Kn hK => wp_append_text s x t tx ho ht htx hi hm S hs hx hbig fun g cap' w' h1 h2 h3 h4 => hK _ _ (h g cap' w' h1 h2 h3 h4)

/-- append(m.out, make([]byte, n)...). -/
theorem wp_append_zeros {P : Program} {o : Oper} {a : Act} {w : World} {Kn : Act → World → Prop} {Q : Exit → Act → World → Prop} (s x : Operand) (t tx : TypeId)
    (ho : o.op = .call { callee := .builtin .append, args := #[s, x], argTypes := #[t, tx] }) (ht : P.underlying t = some (.slice 5)) (htx : P.underlying tx = some (.int .i64)) (hi : (P.info? 5).map (fun i => (i.zero, i.size, i.bytes)) = some (some (.int .u8 0), 1, 1))
    {K mb rb cap : Nat} {O : By} {bs : Bool} (hm : Mk K w mb rb cap O bs) (n : Nat) (hn : 0 < n) (hs : a.eval s = .slice (some ⟨rb, 0, none⟩) O.length cap) (hx : a.eval x = .int .i64 (n : Int))
    (hbig : O.length + n ≤ 140737488355328)
    (h : ∀ g cap' w', Hid (w'.ownsRow K 5 1 (.slice (some ⟨g, 0, none⟩) (O.length + n) cap') (O.length + n) (bytesV O ++ bytesV (List.replicate n 0))) → Hid (w.grownBy w' (some rb)) → Hid (rb = g ∨ w.heap.size ≤ g) → g < w'.heap.size → Kn (a.put o.dst (.slice (some ⟨g, 0, none⟩) (O.length + n) cap')) w') : Oper.wp P o a w Kn Q := by
  obtain ⟨i0, hi, hiz, his, hib⟩ := info_parts' hi
  have hsz : (List.replicate n (0 : UInt8)).length = n := List.length_replicate
  have hzc : (Builtin.zeroCells #[.int .u8 0] n) = (bytesV (List.replicate n 0)).toArray := by
    apply Array.ext
    · simp [Builtin.zeroCells, bytesV]
    · intro i h1 h2
      simp [Builtin.zeroCells, bytesV, Nat.mod_one]
  have hw : IntKind.i64.wrap (n : Int) = n := by rw [IntKind.wrap_i64]; omega
  have n1 : ¬ ((n : Int) < 0) := by omega
  have n2 : ¬ (281474976710656 < (n : Int)) := by omega
  obtain ⟨g, cap', w', hr, b1, b2, b3, b4⟩ := hm.after (X := List.replicate n 0) (by rw [hsz]; exact hbig) (R := (Builtin.append_ #[t, tx] o.type #[.slice (some ⟨rb, 0, none⟩) O.length cap, .int .i64 (n : Int)]).run P w)
    (fun cur hg hroom hfit => by
      rw [hsz] at hroom ⊢
      have hst := run_storeCells_at P rb O.length 5 (bytesV (List.replicate n 0)) 0 cur w hg hfit (bytesV_one _)
      simp only [Nat.add_zero] at hst
      simp [Builtin.append_, run_underlying ht, run_underlying htx, sizeOf, typeInfo, zeroValue, asInt, asIntOf, hi, hiz, his, hib, hw, n1, n2, hroom, Addr.add_lit, hst, hzc, Value.cells, Nat.pos_iff_ne_zero.1 hn])
    (fun hold hg => by
      rw [hsz] at hg ⊢
      have hn' : ¬ (O.length + n ≤ cap) := by omega
      have h63' : ¬ (9223372036854775807 < ((O.length : Int) + (n : Int))) := by omega
      have h48' : ¬ (281474976710656 < Builtin.nextslicecap (O.length + n) cap) := by have := growslice_fits (need := O.length + n) (old := cap) (bytes := 1) (by omega) (by omega); omega
      have hold' := run_firstCells_some (P := P) w.drew 1 O.length ⟨rb, 0, none⟩ O.length cap (bytesV O) (by rw [bytesV_length, Nat.mul_one]) (by simpa using hold)
      simp [Builtin.append_, run_underlying ht, run_underlying htx, sizeOf, typeInfo, zeroValue, asInt, asIntOf, hi, hiz, his, hib, hw, n1, n2, hn', h63', h48', hzc, Value.cells, Nat.pos_iff_ne_zero.1 hn, Question.forced, hold', newRow, grownCap]
      congr 2
      apply Array.ext'
      simp [List.append_assoc])
  rw [hsz] at hr b1
  exact step_of_run ho (by rw [hs, hx]; exact hr) (h g cap' w' (Lib.hid b1) (Lib.hid b2) (Lib.hid (b3.imp id fun e => Nat.le_of_eq e.symm)) b4)

theorem wpList_append_zeros {P : Program} {ops : Array Oper} {rest : List Oper} {o : Oper} {a : Act} {w : World} {Q : Exit → Act → World → Prop} (hgd : o.guard = none) (s x : Operand) (t tx : TypeId)
    (ho : o.op = .call { callee := .builtin .append, args := #[s, x], argTypes := #[t, tx] }) (ht : P.underlying t = some (.slice 5)) (htx : P.underlying tx = some (.int .i64)) (hi : (P.info? 5).map (fun i => (i.zero, i.size, i.bytes)) = some (some (.int .u8 0), 1, 1))
    {K mb rb cap : Nat} {O : By} {bs : Bool} (hm : Mk K w mb rb cap O bs) (n : Nat) (hn : 0 < n) (hs : a.eval s = .slice (some ⟨rb, 0, none⟩) O.length cap) (hx : a.eval x = .int .i64 (n : Int))
    (hbig : O.length + n ≤ 140737488355328)
    (h : ∀ g cap' w', Hid (w'.ownsRow K 5 1 (.slice (some ⟨g, 0, none⟩) (O.length + n) cap') (O.length + n) (bytesV O ++ bytesV (List.replicate n 0))) → Hid (w.grownBy w' (some rb)) → Hid (rb = g ∨ w.heap.size ≤ g) → g < w'.heap.size → wpList P ops Q rest (a.put o.dst (.slice (some ⟨g, 0, none⟩) (O.length + n) cap')) w') : wpList P ops Q (o :: rest) a w :=
  wpList_plain hgd fun Kn hK => wp_append_zeros s x t tx ho ht htx hi hm n hn hs hx hbig fun g cap' w' h1 h2 h3 h4 => hK _ _ (h g cap' w' h1 h2 h3 h4)

end Go.Proofs.YtcbcdgifakcooaaGreatDoor
