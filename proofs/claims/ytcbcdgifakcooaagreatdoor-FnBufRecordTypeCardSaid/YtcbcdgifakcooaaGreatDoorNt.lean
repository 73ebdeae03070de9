/-
  node at types and what stands in them, level by level. No conditions.
-/
import Derived.Test.YtcbcdgifakcooaaGreatDoorTyD
import Derived.Deep.LoopGhost
import Derived.Deep.AppendLies
import Derived.Deep.RegionLaw
import Derived.Deep.RegionHeld3
namespace Go.Proofs.YtcbcdgifakcooaaGreatDoor
open Go.RowKit
set_option linter.unusedVariables false
set_option linter.unusedSimpArgs false

theorem infoNode : (Tryz.prog.info? 25).map (fun i => (i.zero, i.size, i.bytes)) = some (some (.agg #[.int .i64 0, .string ⟨#[]⟩, .string ⟨#[]⟩, .int .u64 0, .slice none 0 0]), 5, 72) := by kernel_rfl
theorem undNodes : Tryz.prog.underlying 23 = some (.slice 25) := by kernel_rfl

/-- The pointer's type of a node of types. -/
def nTy (k : Int) : TypeId := if k = 50 then 286 else if k = 52 then 274 else tTy k
theorem nTy_ty {k : Int} (h : isTyP k) : nTy k = tTy k := by
  unfold isTyP at h
  unfold nTy
  rw [if_neg (by omega), if_neg (by omega)]

/-- node's contract for types, so many levels down. -/
def NodeTC (d : Nat) : Prop := ∀ (A : Nat → Prop) (n : Nd) (b : Nat) (w : World), TyP d n → RepT A d w n b →
  Calls Tryz.prog 17 #[.iface (nTy n.kind) (.pointer (some ⟨b, 0, none⟩))] w (NodePost n w)

theorem none_post {x : Nd} {w w' : World} (h : NoP x) (hb : Below w.heap.size w w') : NodePost x w (.returned (.agg #[.int .i64 0, .string ⟨#[]⟩, .string ⟨#[]⟩, .int .u64 0, .slice none 0 0])) w' := by
  obtain ⟨k, t, m, u, ao, cap, kids⟩ := x
  obtain ⟨h1, h2, h3, h4, h5⟩ := h
  obtain rfl : k = 0 := h1
  obtain rfl : t = ⟨#[]⟩ := h2
  obtain rfl : m = ⟨#[]⟩ := h3
  obtain rfl : u = 0 := h4
  obtain rfl : kids = [] := h5
  exact back_leaf ⟨Nat.zero_le _, Nat.zero_le _, Nat.zero_le _, (show (0 : Int) ≤ 0 by decide), (show (0 : Int) < 18446744073709551616 by decide), (show (-9223372036854775808 : Int) ≤ 0 by decide), (show (0 : Int) ≤ 9223372036854775807 by decide)⟩ hb

theorem orNoneI_none (w : World) : Calls Tryz.prog 34 #[.pointer none] w fun e w' => e = .returned (.agg #[.int .i64 0, .string ⟨#[]⟩, .string ⟨#[]⟩, .int .u64 0, .slice none 0 0]) ∧ Below w.heap.size w w' := by
  go_enter Tryz.func34, Tryz.ntmps34
  go_wp2_with fail
  refine bodyPost_ret (v := .agg #[.int .i64 0, .string ⟨#[]⟩, .string ⟨#[]⟩, .int .u64 0, .slice none 0 0]) (by simp [results, Tryz.f34, go_sem]) rfl ⟨rfl, ?hb⟩
  exact (Below.refl _ _).alloc (Nat.le_refl _) _

/-- An identifier's node as RepD has it. -/
theorem idRep {A : Nat → Prop} {w : World} {x : Nd} {v : Value} (hx : x.kind = 33) (h : IdV A w x v) : ∃ k, v = .pointer (some ⟨k, 0, none⟩) ∧ RepD (fun _ => True) 1 w x k := by
  obtain ⟨k, hA, rfl, hk⟩ := h
  exact ⟨k, rfl, trivial, _, by rw [hx]; exact hk, by rw [slots_33 x hx]; exact ⟨rfl, rfl, rfl, rfl, trivial⟩⟩

theorem idNone (A : Nat → Prop) (x : Nd) (v : Value) (w : World) (hP : IdP x) (hV : IdV A w x v) : Calls Tryz.prog 34 #[v] w (NodePost x w) := by
  obtain ⟨hx, -, -, e, hG⟩ := hP
  obtain ⟨k, rfl, hR⟩ := idRep hx hV
  exact orNoneK_33 1 node33 e _ x k w hG hR hx

theorem mayNone (A : Nat → Prop) (x : Nd) (v : Value) (w : World) (hP : MayP x) (hV : MayV A w x v) : Calls Tryz.prog 34 #[v] w (NodePost x w) := by
  rcases hV with ⟨h0, rfl⟩ | ⟨h33, hV⟩
  · rcases hP with hP | hP
    · refine (orNoneI_none w).mono ?_
      rintro e w' ⟨rfl, hb⟩
      exact none_post hP hb
    · exact absurd (h0.symm.trans hP.1) (by decide)
  · rcases hP with hP | hP
    · exact absurd (h33.symm.trans hP.1) (by decide)
    · exact idNone A x v w hP hV

theorem tyNone (d : Nat) (hN : NodeTC d) (A : Nat → Prop) (x : Nd) (v : Value) (w : World) (hT : TyP d x) (hk : isTyP x.kind) (hV : TyV (RepT A d) w x v) : Calls Tryz.prog 36 #[v] w (NodePost x w) := by
  obtain ⟨b, rfl, hR⟩ := hV
  have h := fun w' hb => hN A x b w' hT (hR.below hb)
  rw [nTy_ty hk] at h
  obtain ⟨T, hT'⟩ : ∃ T, tTy x.kind = T := ⟨_, rfl⟩
  rw [hT'] at h ⊢
  have H := Lib.hid h
  clear h hT' hR hT hk
  go_enter Tryz.func36, Tryz.ntmps36
  go_wp2_with fail
  refine (H.out _ ((Below.refl _ _).alloc (Nat.le_refl _) _)).mono ?_
  rintro e w1 ⟨E, m, rfl, hS, hl, hb1⟩
  have HS := Lib.hid hS
  have Hl := Lib.hid hl
  have HB := Lib.hid hb1
  obtain ⟨k0, f0⟩ := bblk hb1 (b := w.heap.size) (by simp)
  clear hS hl hb1
  go_wp2_with fail
  refine bodyPost_ret (v := .agg #[.int .i64 m.kind, .string m.text, .string m.more, .int .u64 m.num, .slice m.ao m.kids.length m.cap]) ?_ rfl (NodePost.stored _ _ _ _ _ (NodePost.keep HS.out Hl.out HB.out))
  simp [results, Tryz.f36, go_sem, k0]

theorem news5 (w : World) (m : Nd) (T : TypeId) : ∀ j u, m.cells5[j]? = some u → (w.alloc (.cells m.cells5.toArray T)).cell? ((⟨w.heap.size, 0, none⟩ : Addr).add j) = some u := by
  intro j u hu
  exact World.news_of_block (heap_alloc_new w _) j u hu

/-- A plain node whose kids lie in a row that a call has made. -/
theorem back_row {w0 w2 : World} {k : Int} {t mo : ByteArray} {u : Int} {oa : Option Addr} {c L : Nat} {kids ms : List Nd} {g cap : Nat} (hlen : ms.length = kids.length) (hwf : (Nd.mk k t mo u oa c kids).wf) (hB : Below w0.heap.size w0 w2)
    (hown : w2.ownsRow w0.heap.size 25 5 (.slice (some ⟨g, 0, none⟩) L cap) L (ms.flatMap Nd.cells5)) (hL : L = ms.length)
    (hk : ∀ (i : Nat) (x y : Nd), kids[i]? = some x → ms[i]? = some y → ∃ D, SameD D x y ∧ LiesIn (From w0.heap.size) D w2 y) :
    NodePost (.mk k t mo u oa c kids) w0 (.returned (.agg #[.int .i64 k, .string t, .string mo, .int .u64 u, .slice (some ⟨g, 0, none⟩) L cap])) w2 := by
  subst hL
  obtain ⟨D, hD⟩ := Deep.fuel_lt (n := ms.length) (q := fun i D => ∀ (x y : Nd), kids[i]? = some x → ms[i]? = some y → SameD D x y ∧ LiesIn (From w0.heap.size) D w2 y)
    (fun i a b hab h x y hx hy => ⟨(h x y hx hy).1.up hab, (h x y hx hy).2.up hab⟩)
    (fun i hi => by
      obtain ⟨x, hx⟩ : ∃ x, kids[i]? = some x := ⟨kids[i]'(by omega), List.getElem?_eq_getElem _⟩
      obtain ⟨y, hy⟩ : ∃ y, ms[i]? = some y := ⟨ms[i]'hi, List.getElem?_eq_getElem _⟩
      obtain ⟨E, h1, h2⟩ := hk i x y hx hy
      refine ⟨E, fun x' y' hx' hy' => ?_⟩
      rw [hx] at hx'; cases hx'
      rw [hy] at hy'; cases hy'
      exact ⟨h1, h2⟩)
  obtain ⟨w1, w2', w3, w4, w5, w6, w7⟩ := hwf
  refine ⟨D + 1, .mk k t mo u (some ⟨g, 0, none⟩) cap ms, rfl, ⟨rfl, rfl, rfl, rfl, hlen.symm, fun i x y hx hy => (hD i (List.getElem?_eq_some_iff.1 hy).1 x y hx hy).1⟩, ⟨⟨w1, w2', by simp only [Nd.kids] at w3 ⊢; omega, w4, w5, w6, w7⟩, fun i y hy => ?_⟩, hB⟩
  have hy' : ms[i]? = some y := hy
  have hi := (List.getElem?_eq_some_iff.1 hy').1
  obtain ⟨x, hx⟩ : ∃ x, kids[i]? = some x := ⟨kids[i]'(by omega), List.getElem?_eq_getElem _⟩
  rcases hown.2 with ⟨h, _⟩ | ⟨g', cap', cur, hv, hg, hc, _, _, _, ht⟩
  · cases h
  · cases hv
    exact ⟨⟨g, 0, hg, rfl, row_cells (cap := 0) hc ht hy'⟩, (hD i hi x y hx hy').2⟩

theorem call_row {w0 c0 c1 w2 : World} {k : Int} {t mo : ByteArray} {u : Int} {oa ao : Option Addr} {c L : Nat} {x0 m0 : Nd} {rest ms : List Nd} {g cap E D : Nat} {T : TypeId} (hwf : (Nd.mk k t mo u oa c (x0 :: rest)).wf) (hlm : ms.length = rest.length) (h0 : Below w0.heap.size w0 c0) (h1 : Below c0.heap.size c0 c1)
    (hS0 : SameD E x0 m0) (hl0 : LiesIn (From w0.heap.size) E c0 m0) (hss : ∀ (i : Nat) (n m : Nd), rest[i]? = some n → ms[i]? = some m → SameD D n m) (hli : ListIn (From c0.heap.size) D c1 ao ms)
    (hown : w2.ownsRow w0.heap.size 25 5 (.slice (some ⟨g, 0, none⟩) L cap) L (m0.cells5 ++ ms.flatMap Nd.cells5)) (hL : L = rest.length + 1) (hg : (c1.alloc (.cells m0.cells5.toArray T)).grownBy w2 (some c1.heap.size)) :
    NodePost (.mk k t mo u oa c (x0 :: rest)) w0 (.returned (.agg #[.int .i64 k, .string t, .string mo, .int .u64 u, .slice (some ⟨g, 0, none⟩) L cap])) w2 := by
  have h01 : Below w0.heap.size w0 c1 := h0.trans (h1.mono h0.size)
  have hstay : ∀ b, b < c1.heap.size → w2.heap[b]? = c1.heap[b]? := by
    intro b hb
    rw [hg.block b (by simp; omega) (by simp; omega), heap_alloc_old _ _ hb]
  refine back_row (ms := m0 :: ms) (by simp [hlm]) hwf (((h01.alloc h01.size _).grown hg (by have := h01.size; simp; omega) (fun j hj => by cases hj; exact h01.size))) hown (by simp [hlm, hL]) (fun i x y hx hy => ?_)
  cases i with
  | zero =>
    simp at hx hy
    subst hx hy
    refine ⟨E, hS0, hl0.carry (fun b o hA ho => ⟨?_, hA⟩)⟩
    have hlt : b < c0.heap.size := (Array.getElem?_eq_some_iff.1 ho).1
    rw [hstay b (Nat.lt_of_lt_of_le hlt h1.size), h1.block b hlt]
    exact ho
  | succ i =>
    simp at hx hy
    refine ⟨D, hss i x y hx hy, (hli i y hy).2.carry (fun b o hA ho => ⟨?_, Nat.le_trans h0.size hA⟩)⟩
    have hlt : b < c1.heap.size := (Array.getElem?_eq_some_iff.1 ho).1
    rw [hstay b hlt]
    exact ho

theorem call_row1 {w0 c0 c1 w2 : World} {k : Int} {t mo : ByteArray} {u : Int} {oa ao : Option Addr} {c L : Nat} {x0 m0 : Nd} {rest ms : List Nd} {g cap E D : Nat} (hwf : (Nd.mk k t mo u oa c (x0 :: rest)).wf) (hlm : ms.length = rest.length) (h0 : Below w0.heap.size w0 c0) (h1 : Below c0.heap.size c0 c1)
    (hS0 : SameD E x0 m0) (hl0 : LiesIn (From w0.heap.size) E c0 m0) (hss : ∀ (i : Nat) (n m : Nd), rest[i]? = some n → ms[i]? = some m → SameD D n m) (hli : ListIn (From (c0.heap.size + 1)) D c1 ao ms)
    (hown : w2.ownsRow w0.heap.size 25 5 (.slice (some ⟨g, 0, none⟩) L cap) L (m0.cells5 ++ ms.flatMap Nd.cells5)) (hL : L = rest.length + 1) (hg : c1.grownBy w2 (some c0.heap.size)) :
    NodePost (.mk k t mo u oa c (x0 :: rest)) w0 (.returned (.agg #[.int .i64 k, .string t, .string mo, .int .u64 u, .slice (some ⟨g, 0, none⟩) L cap])) w2 := by
  have h01 : Below w0.heap.size w0 c1 := h0.trans (h1.mono h0.size)
  refine back_row (ms := m0 :: ms) (by simp [hlm]) hwf (h01.grown hg h01.size (fun j hj => by cases hj; exact h0.size)) hown (by simp [hlm, hL]) (fun i x y hx hy => ?_)
  cases i with
  | zero =>
    simp at hx hy
    subst hx hy
    refine ⟨E, hS0, hl0.carry (fun b o hA ho => ⟨?_, hA⟩)⟩
    have hlt : b < c0.heap.size := (Array.getElem?_eq_some_iff.1 ho).1
    rw [hg.block b (Nat.lt_of_lt_of_le hlt h1.size) (by simp; omega), h1.block b hlt]
    exact ho
  | succ i =>
    simp at hx hy
    refine ⟨D, hss i x y hx hy, (hli i y hy).2.carry (fun b o hA ho => ⟨?_, Nat.le_trans (Nat.le_trans h0.size (Nat.le_succ _)) hA⟩)⟩
    have hlt : b < c1.heap.size := (Array.getElem?_eq_some_iff.1 ho).1
    rw [hg.block b hlt (by unfold From at hA; simp; omega)]
    exact ho

theorem cells5_one : ∀ (ms : List Nd) (u : Value), u ∈ ms.flatMap Nd.cells5 → u.oneCell' = true := by
  intro ms u hu
  obtain ⟨m, -, h⟩ := List.mem_flatMap.1 hu
  simp [Nd.cells5] at h
  rcases h with rfl | rfl | rfl | rfl | rfl <;> rfl

theorem list_news {A : Nat → Prop} {D : Nat} {w : World} {b o : Nat} {ms : List Nd} (h : ListIn A D w (some ⟨b, o, none⟩) ms) : ∀ j u, (ms.flatMap Nd.cells5)[j]? = some u → w.cell? ((⟨b, o, none⟩ : Addr).add j) = some u := by
  intro j u hu
  have hj := (List.getElem?_eq_some_iff.1 hu).1
  rw [cells5_len] at hj
  obtain ⟨m, hm⟩ : ∃ m, ms[j / 5]? = some m := ⟨ms[j / 5]'(by omega), List.getElem?_eq_getElem _⟩
  obtain ⟨⟨b', o', -, ha, hc⟩, -⟩ := h (j / 5) m hm
  cases ha
  have e : j = j / 5 * 5 + j % 5 := by omega
  have hlt : j % 5 < 5 := Nat.mod_lt _ (by omega)
  have h5 := cells5_at ms (j / 5) (j % 5) m hm hlt
  rw [← e, hu] at h5
  have hadd : (⟨b, o, none⟩ : Addr).add j = ⟨b, o + j / 5 * 5 + j % 5, none⟩ := by
    unfold Addr.add
    split
    · rename_i h0; subst h0; simp
    · simp; omega
  rw [hadd]
  obtain ⟨h0, h1, h2, h3, h4⟩ := hc
  have : j % 5 = 0 ∨ j % 5 = 1 ∨ j % 5 = 2 ∨ j % 5 = 3 ∨ j % 5 = 4 := by omega
  rcases this with e5 | e5 | e5 | e5 | e5 <;> rw [e5] at h5 ⊢ <;> simp [Nd.cells5] at h5 <;> subst h5
  · exact h0
  · exact h1
  · exact h2
  · exact h3
  · exact h4

theorem headStep2 {P : Program} {ops : Array Oper} {Q : Exit → Act → World → Prop} {md : Region.Mode} {S : World → Prop} {n i j : Nat} {oi oj : Oper} {fuel : Nat} {listed : Array Bool} {a : Act} {w : World} (hoi : ops[i]? = some oi) (hoj : ops[j]? = some oj) (hr : Region.ready md ops listed = [i, j])
    (hi : ∀ K' : Act → World → Prop, Hid (∀ a w, ((i < n → S w) ∧ ((i < n → S w) → HeadH P md ops Q S n fuel (listed.setIfInBounds i true) a w)) → K' a w) → if Region.wanted oi (yielded ops a.tmps) = true then Oper.wp P oi a w K' Q else K' (a.put oi.dst undef) w)
    (hj : ∀ K' : Act → World → Prop, Hid (∀ a w, ((j < n → S w) ∧ ((j < n → S w) → HeadH P md ops Q S n fuel (listed.setIfInBounds j true) a w)) → K' a w) → if Region.wanted oj (yielded ops a.tmps) = true then Oper.wp P oj a w K' Q else K' (a.put oj.dst undef) w) :
    HeadH P md ops Q S n (fuel + 1) listed a w := by
  refine ⟨fun h0 => (by rw [hr] at h0; cases h0), fun k hk => ?_⟩
  rw [hr] at hk
  have hk2 : k = i ∨ k = j := by simpa using hk
  rcases hk2 with rfl | rfl
  · exact wpOp_step hoi (fun K' hK => hi K' (Lib.hid (fun a w h2 => hK a w ⟨h2.1, h2.2 h2.1⟩)))
  · exact wpOp_step hoj (fun K' hK => hj K' (Lib.hid (fun a w h2 => hK a w ⟨h2.1, h2.2 h2.1⟩)))

theorem app_nil (g : Nat) (w : World) : (Builtin.append_ #[23, 23] 23 #[.slice (some ⟨g, 0, none⟩) 1 1, .slice none 0 0]).run Tryz.prog w = .ok (.slice (some ⟨g, 0, none⟩) 1 1) w := by kernel_rfl

theorem step_append_nil {Pr : Program} {w : World} {ops : Array Oper} {o : Oper} {a : Act} {K : Act → World → Prop} {Q : Exit → Act → World → Prop} {E : Prop} {v : Value} (hgd : o.guard = none) (s x : Operand) (t : TypeId)
    (ho : o.op = .call { callee := .builtin .append, args := #[s, x], argTypes := #[t, t] }) (hs : a.eval s = v) (hx : a.eval x = .slice none 0 0) (hrun : (Builtin.append_ #[t, t] o.type #[v, .slice none 0 0]).run Pr w = .ok v w)
    (h : K (a.put o.dst v) w) : if Region.wanted o (yielded ops a.tmps) = true then Oper.wp Pr o a w K Q else E := by
  rw [if_pos (by simp [Region.wanted, hgd])]
  unfold Oper.wp execOp
  simp only [ho, resolve, invoke, builtin, Sem.run_bind, Sem.run_pure, Result.andThen_ok, List.map_toArray, List.map_cons, List.map_nil, hs, hx, hrun]
  exact h

theorem list_some {A : Nat → Prop} {D : Nat} {w : World} {ao : Option Addr} {ms : List Nd} (h : ListIn A D w ao ms) (hm : 0 < ms.length) : ∃ b o, ao = some ⟨b, o, none⟩ := by
  obtain ⟨⟨b, o, -, ha, -⟩, -⟩ := h 0 (ms[0]'hm) (List.getElem?_eq_getElem _)
  exact ⟨b, o, ha⟩

theorem one_row {B g : Nat} {w : World} {m : Nd} (h : w.heap[g]? = some (.cells m.cells5.toArray 25 (0, 0))) (hB : B ≤ g) : w.ownsRow B 25 5 (.slice (some ⟨g, 0, none⟩) 1 1) 1 m.cells5 :=
  ⟨rfl, Or.inr ⟨g, 1, _, rfl, hB, h, Nat.le_refl _, by decide, rfl, rfl⟩⟩

set_option maxRecDepth 100000 in
set_option maxHeartbeats 1000000 in
theorem list_50 (d : Nat) (hN : NodeTC d) (A : Nat → Prop) (ns : List Nd) (ao : Option Addr) (cap : Nat) (w : World) (hlen4 : ns.length ≤ 1000) (hL : PtrsV A (RepT A d) w ao ns) (hk : ∀ x ∈ ns, x.kind = 50 ∧ TyP d x) :
    Calls Tryz.prog 87 #[.slice ao ns.length cap] w (BackPost ns w) := by
  obtain ⟨len, hlen⟩ : ∃ len, ns.length = len := ⟨_, rfl⟩
  rw [hlen] at hlen4 ⊢
  obtain ⟨i0, hi, hz0, hz1, hz2⟩ := info_parts infoNode
  have HN := Lib.hid hlen
  have HL := Lib.hid hL
  have HK := Lib.hid hk
  clear hlen hL hk
  go_enter Tryz.func87, Tryz.ntmps87
  go_wp2_with fail
  go_loopg [3, 8] len (fun gk out i wr => ∃ (j : Nat) (ao' : Option Addr) (cap' : Nat), j ≤ len ∧ gk = len - j ∧ i = .int .i64 (j : Int) ∧ out = .slice ao' j cap' ∧ Hid (BackOk w.heap.size ns j (.slice ao' j cap') wr) ∧ Hid (Below w.heap.size w wr))
  case atStart => exact ⟨0, none, 0, by omega, by omega, rfl, rfl, Lib.hid (BackOk.start _ _ _), Lib.hid (Below.refl _ _)⟩
  case round =>
    obtain ⟨j, ao', cap', hj, rfl, rfl, rfl, hO, hB⟩ := hrel
    by_cases hjn : j < len
    · have hjz : (j : Int) < (len : Int) := by omega
      obtain ⟨x, hx⟩ : ∃ x, ns[j]? = some x := ⟨ns[j]'(by have := HN.out; omega), List.getElem?_eq_getElem _⟩
      obtain ⟨g0, b, -, rfl, hc, hR⟩ := HL.out j x hx
      have c0 : wr.cell? ⟨g0, j, none⟩ = some _ := (hB.out.cell (World.block_lt_of_cell? _ _ hc)).trans hc
      have HX := Lib.hid hx
      have HR := Lib.hid (hR.below hB.out)
      have HKX := Lib.hid (HK.out x (List.mem_of_getElem? hx))
      clear hx hc hR
      go_wp2_with fail
      refine (show Calls Tryz.prog 17 #[.iface 286 (.pointer (some ⟨b, 0, none⟩))] _ (NodePost x _) from by have h := hN A x b wr HKX.out.2 HR.out; rw [HKX.out.1, show nTy 50 = 286 from rfl] at h; exact h).mono ?_
      rintro e w1 ⟨E, m, rfl, hS, hl, hb1⟩
      have HB1 := Lib.hid hb1
      have HO1 := Lib.hid (hO.out.below hb1)
      have HS := Lib.hid hS
      have HBw := Lib.hid (hB.out.trans (hb1.mono hB.out.size))
      have hBs : w.heap.size ≤ w1.heap.size := HBw.out.size
      have hwf : m.kids.length ≤ maxLen := hl.wf.2.2.1
      have hlt : ∀ g, (Value.slice ao' j cap').ownBlock = some g → g < wr.heap.size := by
        intro g hg
        obtain ⟨D, ms, h1, _⟩ := hO.out
        exact (World.ownsRow.lt h1 g hg).2
      have HXX := Lib.hid (hl.mono (A' := fun b => w.heap.size ≤ b ∧ some b ≠ (Value.slice ao' j cap').ownBlock) (fun b hb => ⟨Nat.le_trans hB.out.size hb, fun e => by have := hlt b e.symm; unfold From at hb; omega⟩))
      obtain ⟨D, ms, hown, -⟩ := HO1.out
      have HOW0 := Lib.hid hown
      have HOW := Lib.hid (hown.alloc (.cells m.cells5.toArray 25))
      clear hS hl hb1 hlt hown hwf
      go_wp2_with (at_builtin; refine wpList_append_lies _ rfl _ _ 23 rfl w.heap.size 25 i0 _ 5 72 undNodes hi hz0 hz1 hz2 rfl (by decide) _ _ _ rfl HOW.out ⟨w1.heap.size, 0, none⟩ 1 1 m.cells5 rfl rfl ?c1 ?c2 (by decide) ?c3 ?c4 ?c5 _ rfl ?_)
      case c1 => exact news5 _ _ _
      case c2 => intro u hu; simp [Nd.cells5] at hu; rcases hu with rfl | rfl | rfl | rfl | rfl <;> rfl
      case c3 => unfold maxLen; omega
      case c4 => omega
      case c5 => simp; omega
      intro g cap2 w2 hown' hgrow hat hglt
      have HO2 := Lib.hid (BackOk.next HO1.out HX.out HS.out HXX.out HOW0.out hown' rfl hgrow (hat.imp id (fun h => by simpa using h)))
      have HB2 := Lib.hid ((HBw.out.alloc hBs _).grown hgrow (by simp; omega) (by
        intro k hk
        exact (World.ownsRow.lt HOW0.out k hk).1))
      clear hown' hgrow hat
      go_wp2_with fail
      go_roundg (len - (j + 1))
      case measure => omega
      case rel => exact ⟨j + 1, some ⟨g, 0, none⟩, cap2, by omega, rfl, by push_cast; rfl, rfl, HO2, HB2⟩
    · have hjz : ¬ (j : Int) < (len : Int) := by omega
      obtain rfl : j = len := by omega
      go_wp2_with fail
      go_ret
      have hl := HN.out
      have hO2 := hO.out
      rw [← hl] at hO2
      obtain ⟨D, ao2, cap2, ms, he, h1, h2, h3⟩ := hO2.done
      rw [hl] at he h1
      cases he
      unfold BackPost
      rw [hl]
      exact ⟨D, _, _, ms, rfl, h1, h2, h3, hB.out⟩

theorem list_50_nil (ao : Option Addr) (cap : Nat) (w : World) : Calls Tryz.prog 87 #[.slice ao 0 cap] w fun e w' => e = .returned (.slice none 0 0) ∧ Below w.heap.size w w' := by
  go_enter Tryz.func87, Tryz.ntmps87
  go_wp2_with fail
  go_loop [3, 8] (fun out i => out = .slice none 0 0 ∧ i = .int .i64 0) (fun _ _ => 0)
  case atStart => exact ⟨rfl, rfl⟩
  case round =>
    obtain ⟨rfl, rfl⟩ := hrel
    go_wp2_with fail
    go_ret
    exact ⟨rfl, Below.refl _ _⟩

set_option maxRecDepth 100000 in
set_option maxHeartbeats 1000000 in
theorem list_52 (d : Nat) (hN : NodeTC d) (A : Nat → Prop) (ns : List Nd) (ao : Option Addr) (cap : Nat) (w : World) (hlen4 : ns.length ≤ 1000) (hL : PtrsV A (RepT A d) w ao ns) (hk : ∀ x ∈ ns, x.kind = 52 ∧ TyP d x) :
    Calls Tryz.prog 88 #[.slice ao ns.length cap] w (BackPost ns w) := by
  obtain ⟨len, hlen⟩ : ∃ len, ns.length = len := ⟨_, rfl⟩
  rw [hlen] at hlen4 ⊢
  obtain ⟨i0, hi, hz0, hz1, hz2⟩ := info_parts infoNode
  have HN := Lib.hid hlen
  have HL := Lib.hid hL
  have HK := Lib.hid hk
  clear hlen hL hk
  go_enter Tryz.func88, Tryz.ntmps88
  go_wp2_with fail
  go_loopg [3, 8] len (fun gk out i wr => ∃ (j : Nat) (ao' : Option Addr) (cap' : Nat), j ≤ len ∧ gk = len - j ∧ i = .int .i64 (j : Int) ∧ out = .slice ao' j cap' ∧ Hid (BackOk w.heap.size ns j (.slice ao' j cap') wr) ∧ Hid (Below w.heap.size w wr))
  case atStart => exact ⟨0, none, 0, by omega, by omega, rfl, rfl, Lib.hid (BackOk.start _ _ _), Lib.hid (Below.refl _ _)⟩
  case round =>
    obtain ⟨j, ao', cap', hj, rfl, rfl, rfl, hO, hB⟩ := hrel
    by_cases hjn : j < len
    · have hjz : (j : Int) < (len : Int) := by omega
      obtain ⟨x, hx⟩ : ∃ x, ns[j]? = some x := ⟨ns[j]'(by have := HN.out; omega), List.getElem?_eq_getElem _⟩
      obtain ⟨g0, b, -, rfl, hc, hR⟩ := HL.out j x hx
      have c0 : wr.cell? ⟨g0, j, none⟩ = some _ := (hB.out.cell (World.block_lt_of_cell? _ _ hc)).trans hc
      have HX := Lib.hid hx
      have HR := Lib.hid (hR.below hB.out)
      have HKX := Lib.hid (HK.out x (List.mem_of_getElem? hx))
      clear hx hc hR
      go_wp2_with fail
      refine (show Calls Tryz.prog 17 #[.iface 274 (.pointer (some ⟨b, 0, none⟩))] _ (NodePost x _) from by have h := hN A x b wr HKX.out.2 HR.out; rw [HKX.out.1, show nTy 52 = 274 from rfl] at h; exact h).mono ?_
      rintro e w1 ⟨E, m, rfl, hS, hl, hb1⟩
      have HB1 := Lib.hid hb1
      have HO1 := Lib.hid (hO.out.below hb1)
      have HS := Lib.hid hS
      have HBw := Lib.hid (hB.out.trans (hb1.mono hB.out.size))
      have hBs : w.heap.size ≤ w1.heap.size := HBw.out.size
      have hwf : m.kids.length ≤ maxLen := hl.wf.2.2.1
      have hlt : ∀ g, (Value.slice ao' j cap').ownBlock = some g → g < wr.heap.size := by
        intro g hg
        obtain ⟨D, ms, h1, _⟩ := hO.out
        exact (World.ownsRow.lt h1 g hg).2
      have HXX := Lib.hid (hl.mono (A' := fun b => w.heap.size ≤ b ∧ some b ≠ (Value.slice ao' j cap').ownBlock) (fun b hb => ⟨Nat.le_trans hB.out.size hb, fun e => by have := hlt b e.symm; unfold From at hb; omega⟩))
      obtain ⟨D, ms, hown, -⟩ := HO1.out
      have HOW0 := Lib.hid hown
      have HOW := Lib.hid (hown.alloc (.cells m.cells5.toArray 25))
      clear hS hl hb1 hlt hown hwf
      go_wp2_with (at_builtin; refine wpList_append_lies _ rfl _ _ 23 rfl w.heap.size 25 i0 _ 5 72 undNodes hi hz0 hz1 hz2 rfl (by decide) _ _ _ rfl HOW.out ⟨w1.heap.size, 0, none⟩ 1 1 m.cells5 rfl rfl ?c1 ?c2 (by decide) ?c3 ?c4 ?c5 _ rfl ?_)
      case c1 => exact news5 _ _ _
      case c2 => intro u hu; simp [Nd.cells5] at hu; rcases hu with rfl | rfl | rfl | rfl | rfl <;> rfl
      case c3 => unfold maxLen; omega
      case c4 => omega
      case c5 => simp; omega
      intro g cap2 w2 hown' hgrow hat hglt
      have HO2 := Lib.hid (BackOk.next HO1.out HX.out HS.out HXX.out HOW0.out hown' rfl hgrow (hat.imp id (fun h => by simpa using h)))
      have HB2 := Lib.hid ((HBw.out.alloc hBs _).grown hgrow (by simp; omega) (by
        intro k hk
        exact (World.ownsRow.lt HOW0.out k hk).1))
      clear hown' hgrow hat
      go_wp2_with fail
      go_roundg (len - (j + 1))
      case measure => omega
      case rel => exact ⟨j + 1, some ⟨g, 0, none⟩, cap2, by omega, rfl, by push_cast; rfl, rfl, HO2, HB2⟩
    · have hjz : ¬ (j : Int) < (len : Int) := by omega
      obtain rfl : j = len := by omega
      go_wp2_with fail
      go_ret
      have hl := HN.out
      have hO2 := hO.out
      rw [← hl] at hO2
      obtain ⟨D, ao2, cap2, ms, he, h1, h2, h3⟩ := hO2.done
      rw [hl] at he h1
      cases he
      unfold BackPost
      rw [hl]
      exact ⟨D, _, _, ms, rfl, h1, h2, h3, hB.out⟩

theorem list_52_nil (ao : Option Addr) (cap : Nat) (w : World) : Calls Tryz.prog 88 #[.slice ao 0 cap] w fun e w' => e = .returned (.slice none 0 0) ∧ Below w.heap.size w w' := by
  go_enter Tryz.func88, Tryz.ntmps88
  go_wp2_with fail
  go_loop [3, 8] (fun out i => out = .slice none 0 0 ∧ i = .int .i64 0) (fun _ _ => 0)
  case atStart => exact ⟨rfl, rfl⟩
  case round =>
    obtain ⟨rfl, rfl⟩ := hrel
    go_wp2_with fail
    go_ret
    exact ⟨rfl, Below.refl _ _⟩

theorem no_46 (T : TypeId) (h : T ≠ 307) (p : Value) (w : World) : Sem.run Tryz.prog (Instr.typeAssert (.iface T p) 77 307 true) w = .ok (.tuple #[.pointer none, .bool false]) w := by
  have hz : Sem.run Tryz.prog (zeroValue 307) w = .ok (.pointer none) w := by kernel_rfl
  unfold Instr.typeAssert
  simp [go_sem, hz, h]

theorem yes_46 (p : Value) (w : World) : Sem.run Tryz.prog (Instr.typeAssert (.iface 307 p) 77 307 true) w = .ok (.tuple #[p, .bool true]) w := by kernel_rfl

theorem no_47 (T : TypeId) (h : T ≠ 38) (p : Value) (w : World) : Sem.run Tryz.prog (Instr.typeAssert (.iface T p) 77 38 true) w = .ok (.tuple #[.pointer none, .bool false]) w := by
  have hz : Sem.run Tryz.prog (zeroValue 38) w = .ok (.pointer none) w := by kernel_rfl
  unfold Instr.typeAssert
  simp [go_sem, hz, h]

theorem yes_47 (p : Value) (w : World) : Sem.run Tryz.prog (Instr.typeAssert (.iface 38 p) 77 38 true) w = .ok (.tuple #[p, .bool true]) w := by kernel_rfl

theorem no_48 (T : TypeId) (h : T ≠ 309) (p : Value) (w : World) : Sem.run Tryz.prog (Instr.typeAssert (.iface T p) 77 309 true) w = .ok (.tuple #[.pointer none, .bool false]) w := by
  have hz : Sem.run Tryz.prog (zeroValue 309) w = .ok (.pointer none) w := by kernel_rfl
  unfold Instr.typeAssert
  simp [go_sem, hz, h]

theorem yes_48 (p : Value) (w : World) : Sem.run Tryz.prog (Instr.typeAssert (.iface 309 p) 77 309 true) w = .ok (.tuple #[p, .bool true]) w := by kernel_rfl

theorem no_49 (T : TypeId) (h : T ≠ 66) (p : Value) (w : World) : Sem.run Tryz.prog (Instr.typeAssert (.iface T p) 77 66 true) w = .ok (.tuple #[.pointer none, .bool false]) w := by
  have hz : Sem.run Tryz.prog (zeroValue 66) w = .ok (.pointer none) w := by kernel_rfl
  unfold Instr.typeAssert
  simp [go_sem, hz, h]

theorem yes_49 (p : Value) (w : World) : Sem.run Tryz.prog (Instr.typeAssert (.iface 66 p) 77 66 true) w = .ok (.tuple #[p, .bool true]) w := by kernel_rfl

theorem no_50 (T : TypeId) (h : T ≠ 286) (p : Value) (w : World) : Sem.run Tryz.prog (Instr.typeAssert (.iface T p) 77 286 true) w = .ok (.tuple #[.pointer none, .bool false]) w := by
  have hz : Sem.run Tryz.prog (zeroValue 286) w = .ok (.pointer none) w := by kernel_rfl
  unfold Instr.typeAssert
  simp [go_sem, hz, h]

theorem yes_50 (p : Value) (w : World) : Sem.run Tryz.prog (Instr.typeAssert (.iface 286 p) 77 286 true) w = .ok (.tuple #[p, .bool true]) w := by kernel_rfl

theorem no_51 (T : TypeId) (h : T ≠ 59) (p : Value) (w : World) : Sem.run Tryz.prog (Instr.typeAssert (.iface T p) 77 59 true) w = .ok (.tuple #[.pointer none, .bool false]) w := by
  have hz : Sem.run Tryz.prog (zeroValue 59) w = .ok (.pointer none) w := by kernel_rfl
  unfold Instr.typeAssert
  simp [go_sem, hz, h]

theorem yes_51 (p : Value) (w : World) : Sem.run Tryz.prog (Instr.typeAssert (.iface 59 p) 77 59 true) w = .ok (.tuple #[p, .bool true]) w := by kernel_rfl

theorem no_52 (T : TypeId) (h : T ≠ 274) (p : Value) (w : World) : Sem.run Tryz.prog (Instr.typeAssert (.iface T p) 77 274 true) w = .ok (.tuple #[.pointer none, .bool false]) w := by
  have hz : Sem.run Tryz.prog (zeroValue 274) w = .ok (.pointer none) w := by kernel_rfl
  unfold Instr.typeAssert
  simp [go_sem, hz, h]

theorem yes_52 (p : Value) (w : World) : Sem.run Tryz.prog (Instr.typeAssert (.iface 274 p) 77 274 true) w = .ok (.tuple #[p, .bool true]) w := by kernel_rfl

/-- The types that node itself tests for. -/
def viaL : List TypeId := [78, 83, 84, 93, 106, 109, 112, 117, 120, 123, 132, 137, 145, 149, 153, 129, 158, 161, 165, 171, 176, 179, 183, 186, 189, 192, 199, 167, 204, 211, 213, 68, 100, 215, 218, 221, 224, 229, 234, 239, 243]

set_option maxRecDepth 100000 in
set_option maxHeartbeats 2000000 in
theorem via_any (T : TypeId) (hT : T ∉ viaL) (n : Nd) (b : Nat) (w : World) (H : ∀ w', Below w.heap.size w w' → Calls Tryz.prog 50 #[.iface T (.pointer (some ⟨b, 0, none⟩))] w' (NodePost n w')) :
    Calls Tryz.prog 17 #[.iface T (.pointer (some ⟨b, 0, none⟩))] w (NodePost n w) := by
  have H := Lib.hid H
  have q2 := no_2 T (fun e => hT (by subst e; decide))
  have q3 := no_3 T (fun e => hT (by subst e; decide))
  have q4 := no_4 T (fun e => hT (by subst e; decide))
  have q5 := no_5 T (fun e => hT (by subst e; decide))
  have q6 := no_6 T (fun e => hT (by subst e; decide))
  have q7 := no_7 T (fun e => hT (by subst e; decide))
  have q8 := no_8 T (fun e => hT (by subst e; decide))
  have q9 := no_9 T (fun e => hT (by subst e; decide))
  have q10 := no_10 T (fun e => hT (by subst e; decide))
  have q11 := no_11 T (fun e => hT (by subst e; decide))
  have q12 := no_12 T (fun e => hT (by subst e; decide))
  have q13 := no_13 T (fun e => hT (by subst e; decide))
  have q14 := no_14 T (fun e => hT (by subst e; decide))
  have q15 := no_15 T (fun e => hT (by subst e; decide))
  have q16 := no_16 T (fun e => hT (by subst e; decide))
  have q17 := no_17 T (fun e => hT (by subst e; decide))
  have q18 := no_18 T (fun e => hT (by subst e; decide))
  have q19 := no_19 T (fun e => hT (by subst e; decide))
  have q20 := no_20 T (fun e => hT (by subst e; decide))
  have q21 := no_21 T (fun e => hT (by subst e; decide))
  have q22 := no_22 T (fun e => hT (by subst e; decide))
  have q23 := no_23 T (fun e => hT (by subst e; decide))
  have q24 := no_24 T (fun e => hT (by subst e; decide))
  have q25 := no_25 T (fun e => hT (by subst e; decide))
  have q26 := no_26 T (fun e => hT (by subst e; decide))
  have q27 := no_27 T (fun e => hT (by subst e; decide))
  have q28 := no_28 T (fun e => hT (by subst e; decide))
  have q29 := no_29 T (fun e => hT (by subst e; decide))
  have q30 := no_30 T (fun e => hT (by subst e; decide))
  have q31 := no_31 T (fun e => hT (by subst e; decide))
  have q32 := no_32 T (fun e => hT (by subst e; decide))
  have q33 := no_33 T (fun e => hT (by subst e; decide))
  have q34 := no_34 T (fun e => hT (by subst e; decide))
  have q35 := no_35 T (fun e => hT (by subst e; decide))
  have q36 := no_36 T (fun e => hT (by subst e; decide))
  have q37 := no_37 T (fun e => hT (by subst e; decide))
  have q38 := no_38 T (fun e => hT (by subst e; decide))
  have q39 := no_39 T (fun e => hT (by subst e; decide))
  have q41 := no_41 T (fun e => hT (by subst e; decide))
  have q42 := no_42 T (fun e => hT (by subst e; decide))
  have q43 := no_43 T (fun e => hT (by subst e; decide))
  clear hT
  go_enter Tryz.func17, Tryz.ntmps17
  go_wp2_with fail
  refine (H.out _ ((Below.refl _ _).alloc (Nat.le_refl _) _)).mono ?_
  rintro e w1 ⟨E, m, rfl, hS, hl, hb1⟩
  have HS := Lib.hid hS
  have Hl := Lib.hid hl
  have HB := Lib.hid hb1
  obtain ⟨k0, f0⟩ := bblk hb1 (b := w.heap.size) (by simp)
  clear hS hl hb1
  go_wp2_with fail
  refine bodyPost_ret (v := .agg #[.int .i64 m.kind, .string m.text, .string m.more, .int .u64 m.num, .slice m.ao m.kids.length m.cap]) ?_ rfl (NodePost.stored _ _ _ _ _ (NodePost.keep HS.out Hl.out HB.out))
  simp [results, Tryz.f17, go_sem, k0]

end Go.Proofs.YtcbcdgifakcooaaGreatDoor
