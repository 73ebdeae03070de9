/-
  spec.Without at the first kid. No conditions.
  spec.With at a file's third kid: the tree with another node there. No conditions.
-/
import Derived.Test.YtongafghllkomaaGreatDoorWithout
import Derived.Test.YtongafghllkomaaGreatDoorOptioned
namespace Go.Proofs.YtongafghllkomaaGreatDoor
open Go.RowKit
set_option linter.unusedVariables false

set_option maxRecDepth 100000 in
set_option maxHeartbeats 2000000 in
theorem without_zero (A : Nat → Prop) (D : Nat) (n : Nd) (w : World) (hLI : LiesIn A D w n) (hR : n.kids.length ≤ n.cap) (hl : 0 < n.kids.length) (hm : n.kids.length ≤ 1001) :
    Calls Tryz.prog 22 #[n.val, .int .i64 0] w (WithoutPost A n 0 w) := by
  have hL : LiesD D w n := hLI.lies
  have HLI := Lib.hid hLI
  clear hLI
  obtain ⟨D, rfl⟩ : ∃ E, D = E + 1 := by cases D with | zero => exact hL.elim | succ E => exact ⟨E, rfl⟩
  obtain ⟨k, t, m, u, ao, cap, kids⟩ := n
  obtain ⟨len, hlen⟩ : ∃ len, kids.length = len := ⟨_, rfl⟩
  show Calls _ _ #[.agg #[.int .i64 k, .string t, .string m, .int .u64 u, .slice ao kids.length cap], _] w _
  obtain ⟨x0, hx0⟩ : ∃ x, kids[0]? = some x := ⟨kids[0]'(by have : 0 < kids.length := hl; omega), List.getElem?_eq_getElem _⟩
  obtain ⟨⟨b, o, hao, hc0⟩, -⟩ := hL.2 0 x0 hx0
  obtain rfl : ao = some ⟨b, o, none⟩ := hao
  have hl1 : 0 < len := by rw [← hlen]; exact hl
  have hl2 : len ≤ 1001 := by rw [← hlen]; exact hm
  have hl3 : len ≤ cap := by rw [← hlen]; exact hR
  rw [hlen]
  obtain ⟨i0, hi, hz0, hz1, hz2⟩ := info_parts infoNode
  have HN := Lib.hid hlen
  have HL := Lib.hid hL
  have HLL := Lib.hid (show ListLies D w (some ⟨b, o, none⟩) kids from hL.2)
  have HSRC := Lib.hid (show ∀ W, Below w.heap.size w W → (∀ i u, ((kids.drop 1).flatMap Nd.cells5)[i]? = some u → W.cell? ((⟨b, o + 5, none⟩ : Addr).add i) = some u) from fun W hb => by
    have h := ListLies.drop (hL.list.below hb) 1
    rw [Nat.one_mul] at h
    exact row_news h)
  have hj6 : (len : Int) ≤ (cap : Int) := by omega
  have hw1 : IntKind.i64.wrap 1 = 1 := by decide
  have hj3 : (1 : Int) ≤ (len : Int) := by omega
  have hj4 : (0 : Int) ≤ (len : Int) := by omega
  have hj5 : (0 : Int) ≤ (cap : Int) := by omega
  have hj7 : (1 : Int) ≤ (cap : Int) := by omega
  have HJ := Lib.hid (show 0 < len ∧ len ≤ cap ∧ len ≤ 1001 from ⟨hl1, hl3, hl2⟩)
  have HB3 := Lib.hid (show Below w.heap.size w (((w.alloc (.cells #[.int .i64 k, .string t, .string m, .int .u64 u, .slice (some ⟨b, o, none⟩) len cap] 25)).alloc (.cells #[.int .i64 0, .string ⟨#[]⟩, .string ⟨#[]⟩, .int .u64 0, .slice none 0 0] 25)).alloc (.cells #[.int .i64 k, .string t, .string m, .int .u64 u, .slice (some ⟨b, o, none⟩) len cap] 25)) from (((Below.refl _ _).alloc (Nat.le_refl _) _).alloc (by simp) _).alloc (by simp; omega) _)
  have HE := Lib.hid (show ((((w.alloc (.cells #[.int .i64 k, .string t, .string m, .int .u64 u, .slice (some ⟨b, o, none⟩) len cap] 25)).alloc (.cells #[.int .i64 0, .string ⟨#[]⟩, .string ⟨#[]⟩, .int .u64 0, .slice none 0 0] 25)).alloc (.cells #[.int .i64 k, .string t, .string m, .int .u64 u, .slice (some ⟨b, o, none⟩) len cap] 25)).alloc (.cells #[] 25)).heap[w.heap.size + 1 + 1 + 1]? = some (.cells #[] 25 (0, 0)) from by
    have h := heap_alloc_new (((w.alloc (.cells #[.int .i64 k, .string t, .string m, .int .u64 u, .slice (some ⟨b, o, none⟩) len cap] 25)).alloc (.cells #[.int .i64 0, .string ⟨#[]⟩, .string ⟨#[]⟩, .int .u64 0, .slice none 0 0] 25)).alloc (.cells #[.int .i64 k, .string t, .string m, .int .u64 u, .slice (some ⟨b, o, none⟩) len cap] 25)) (.cells #[] 25)
    simpa using h)
  have HB4 := Lib.hid (HB3.out.alloc HB3.out.size (.cells #[] 25))
  have HBX := Lib.hid (show ∀ (wa : World), ((((w.alloc (.cells #[.int .i64 k, .string t, .string m, .int .u64 u, .slice (some ⟨b, o, none⟩) len cap] 25)).alloc (.cells #[.int .i64 0, .string ⟨#[]⟩, .string ⟨#[]⟩, .int .u64 0, .slice none 0 0] 25)).alloc (.cells #[.int .i64 k, .string t, .string m, .int .u64 u, .slice (some ⟨b, o, none⟩) len cap] 25)).alloc (.cells #[] 25)).grownBy wa (some (w.heap.size + 1 + 1 + 1)) → Below w.heap.size w wa ∧ ((∀ z, wa.cell? ⟨w.heap.size, z, none⟩ = ((((w.alloc (.cells #[.int .i64 k, .string t, .string m, .int .u64 u, .slice (some ⟨b, o, none⟩) len cap] 25)).alloc (.cells #[.int .i64 0, .string ⟨#[]⟩, .string ⟨#[]⟩, .int .u64 0, .slice none 0 0] 25)).alloc (.cells #[.int .i64 k, .string t, .string m, .int .u64 u, .slice (some ⟨b, o, none⟩) len cap] 25)).alloc (.cells #[] 25)).cell? ⟨w.heap.size, z, none⟩) ∧ (∀ z, wa.frozen? ⟨w.heap.size, z, none⟩ = ((((w.alloc (.cells #[.int .i64 k, .string t, .string m, .int .u64 u, .slice (some ⟨b, o, none⟩) len cap] 25)).alloc (.cells #[.int .i64 0, .string ⟨#[]⟩, .string ⟨#[]⟩, .int .u64 0, .slice none 0 0] 25)).alloc (.cells #[.int .i64 k, .string t, .string m, .int .u64 u, .slice (some ⟨b, o, none⟩) len cap] 25)).alloc (.cells #[] 25)).frozen? ⟨w.heap.size, z, none⟩)) ∧ ((∀ z, wa.cell? ⟨w.heap.size + 1, z, none⟩ = ((((w.alloc (.cells #[.int .i64 k, .string t, .string m, .int .u64 u, .slice (some ⟨b, o, none⟩) len cap] 25)).alloc (.cells #[.int .i64 0, .string ⟨#[]⟩, .string ⟨#[]⟩, .int .u64 0, .slice none 0 0] 25)).alloc (.cells #[.int .i64 k, .string t, .string m, .int .u64 u, .slice (some ⟨b, o, none⟩) len cap] 25)).alloc (.cells #[] 25)).cell? ⟨w.heap.size + 1, z, none⟩) ∧ (∀ z, wa.frozen? ⟨w.heap.size + 1, z, none⟩ = ((((w.alloc (.cells #[.int .i64 k, .string t, .string m, .int .u64 u, .slice (some ⟨b, o, none⟩) len cap] 25)).alloc (.cells #[.int .i64 0, .string ⟨#[]⟩, .string ⟨#[]⟩, .int .u64 0, .slice none 0 0] 25)).alloc (.cells #[.int .i64 k, .string t, .string m, .int .u64 u, .slice (some ⟨b, o, none⟩) len cap] 25)).alloc (.cells #[] 25)).frozen? ⟨w.heap.size + 1, z, none⟩)) ∧ ((∀ z, wa.cell? ⟨w.heap.size + 1 + 1, z, none⟩ = ((((w.alloc (.cells #[.int .i64 k, .string t, .string m, .int .u64 u, .slice (some ⟨b, o, none⟩) len cap] 25)).alloc (.cells #[.int .i64 0, .string ⟨#[]⟩, .string ⟨#[]⟩, .int .u64 0, .slice none 0 0] 25)).alloc (.cells #[.int .i64 k, .string t, .string m, .int .u64 u, .slice (some ⟨b, o, none⟩) len cap] 25)).alloc (.cells #[] 25)).cell? ⟨w.heap.size + 1 + 1, z, none⟩) ∧ (∀ z, wa.frozen? ⟨w.heap.size + 1 + 1, z, none⟩ = ((((w.alloc (.cells #[.int .i64 k, .string t, .string m, .int .u64 u, .slice (some ⟨b, o, none⟩) len cap] 25)).alloc (.cells #[.int .i64 0, .string ⟨#[]⟩, .string ⟨#[]⟩, .int .u64 0, .slice none 0 0] 25)).alloc (.cells #[.int .i64 k, .string t, .string m, .int .u64 u, .slice (some ⟨b, o, none⟩) len cap] 25)).alloc (.cells #[] 25)).frozen? ⟨w.heap.size + 1 + 1, z, none⟩)) ∧ w.heap.size + 1 + 1 + 1 < wa.heap.size from fun wa hg =>
    ⟨HB4.out.grown hg HB4.out.size (fun c hc => by cases hc; omega), gblk hg (b := w.heap.size) (by first | (simp; done) | (simp; omega)) (by omega), gblk hg (b := w.heap.size + 1) (by first | (simp; done) | (simp; omega)) (by omega), gblk hg (b := w.heap.size + 1 + 1) (by first | (simp; done) | (simp; omega)) (by omega), by have := hg.size; simp at this; omega⟩)
  have HLS := Lib.hid (show w.heap.size + 3 ≤ ((((w.alloc (.cells #[.int .i64 k, .string t, .string m, .int .u64 u, .slice (some ⟨b, o, none⟩) len cap] 25)).alloc (.cells #[.int .i64 0, .string ⟨#[]⟩, .string ⟨#[]⟩, .int .u64 0, .slice none 0 0] 25)).alloc (.cells #[.int .i64 k, .string t, .string m, .int .u64 u, .slice (some ⟨b, o, none⟩) len cap] 25)).alloc (.cells #[] 25)).heap.size from by simp)
  have HBX0 := HBX.out ((((w.alloc (.cells #[.int .i64 k, .string t, .string m, .int .u64 u, .slice (some ⟨b, o, none⟩) len cap] 25)).alloc (.cells #[.int .i64 0, .string ⟨#[]⟩, .string ⟨#[]⟩, .int .u64 0, .slice none 0 0] 25)).alloc (.cells #[.int .i64 k, .string t, .string m, .int .u64 u, .slice (some ⟨b, o, none⟩) len cap] 25)).alloc (.cells #[] 25)) (World.grownBy.refl _ _)
  have HGX := Lib.hid (show ∀ g1, ((Value.slice (some ⟨w.heap.size + 1 + 1 + 1, 0, none⟩) 0 0).ownBlock = some g1 ∨ g1 = ((((w.alloc (.cells #[.int .i64 k, .string t, .string m, .int .u64 u, .slice (some ⟨b, o, none⟩) len cap] 25)).alloc (.cells #[.int .i64 0, .string ⟨#[]⟩, .string ⟨#[]⟩, .int .u64 0, .slice none 0 0] 25)).alloc (.cells #[.int .i64 k, .string t, .string m, .int .u64 u, .slice (some ⟨b, o, none⟩) len cap] 25)).alloc (.cells #[] 25)).heap.size) → w.heap.size + 1 + 1 < g1 from fun g1 h => by
    rcases h with h | h
    · have : w.heap.size + 1 + 1 + 1 = g1 := Option.some.inj h
      omega
    · rw [h]; simp)
  clear hlen hL hR hl hm hx0 hc0
  by_cases hlast : len = 1
  · have HLAST := Lib.hid hlast
    clear hlast HBX0
    obtain ⟨w1, hWX⟩ : ∃ w1, ((((w.alloc (.cells #[.int .i64 k, .string t, .string m, .int .u64 u, .slice (some ⟨b, o, none⟩) len cap] 25)).alloc (.cells #[.int .i64 0, .string ⟨#[]⟩, .string ⟨#[]⟩, .int .u64 0, .slice none 0 0] 25)).alloc (.cells #[.int .i64 k, .string t, .string m, .int .u64 u, .slice (some ⟨b, o, none⟩) len cap] 25)).alloc (.cells #[] 25)) = w1 := ⟨_, rfl⟩
    obtain ⟨hba, ⟨xa, xaf⟩, ⟨xb, xbf⟩, ⟨xc, xcf⟩, hzw⟩ := HBX.out w1 (by rw [← hWX]; exact World.grownBy.refl _ _)
    have HO1 := Lib.hid (own_empty (W := w1) (B := w.heap.size + 3) (E := 25) (g := w.heap.size + 1 + 1 + 1) (by rw [← hWX]; exact HE.out) (by omega))
    have HNIL := Lib.hid (show (kids.eraseIdx 0).flatMap Nd.cells5 = [] from by
      have h1 : (kids.eraseIdx 0).length = 0 := by rw [List.length_eraseIdx, if_pos (by have := HN.out; have := HLAST.out; omega)]; have := HN.out; have := HLAST.out; omega
      rw [List.eq_nil_of_length_eq_zero h1]; rfl)
    have HWX := Lib.hid hWX
    have HBW := Lib.hid hba
    clear hWX hba
    go_enter Tryz.func22, Tryz.ntmps22
    go_wp2_with fail
    go_region_law (first
      | (refine step_append_none rfl _ _ 23 rfl 25 i0 undNodes hi (some ⟨w.heap.size + 1 + 1 + 1, 0, none⟩) 0 0 (Nat.le_refl _) rfl _ _ _ rfl (by first | rfl | (have := HLAST.out; omega)) ?_; try rw [HWX.out]))
    all_goals go_wp2_with fail
    all_goals
      have HO2 : w1.ownsRow (w.heap.size + 3) 25 5 (.slice (some ⟨w.heap.size + 1 + 1 + 1, 0, none⟩) 0 0) 0 ((kids.eraseIdx 0).flatMap Nd.cells5) := by rw [HNIL.out]; exact HO1.out
      refine bodyPost_ret (v := .agg #[.int .i64 k, .string t, .string m, .int .u64 u, .slice (some ⟨w.heap.size + 1 + 1 + 1, 0, none⟩) 0 0]) (by simp [results, Tryz.f22, go_sem, xb]) rfl (without_end HLI.out (by have := HN.out; omega) (by have := HN.out; have := HLAST.out; omega) HO2 (fun c hc => ?_) ?_)
      · try rw [show ∀ (x : World), x.drew.heap = x.heap from fun _ => rfl]
        rw [Below.heap_setCell _ _ _ _ (by first | omega | (simp; omega)), Below.heap_setCell _ _ _ _ (by first | omega | (simp; omega)), Below.heap_setCell _ _ _ _ (by first | omega | (simp; omega)), Below.heap_setCell _ _ _ _ (by first | omega | (simp; omega)), Below.heap_setCell _ _ _ _ (by first | omega | (simp; omega))]
        exact Below.heap_setCell _ _ _ _ (by first | omega | (simp; omega))
      · repeat' (first | (with_reducible exact HBW.out) | (with_reducible refine Below.drew ?_) | (with_reducible refine Below.setCell ?_ ?_ _))
        all_goals (first | (simp; done) | (simp; omega))
  · have HF2 := Lib.hid (show ((kids.drop 1).flatMap Nd.cells5).length = (len - 1) * 5 ∧ 0 < len - 1 ∧ 0 + (len - 1) ≤ maxLen ∧ (0 + (len - 1)) * 72 ≤ 140737488355328 from
      ⟨by rw [cells5_len, List.length_drop, HN.out], by omega, by unfold maxLen; omega, by omega⟩)
    have hj22 : ¬ cap = 1 := by omega
    have hj23 : ¬ 1 = cap := by omega
    clear hlast HBX0
    go_enter Tryz.func22, Tryz.ntmps22
    go_wp2_with fail
    go_region_law (first
      | (refine step_append_lies _ rfl _ _ 23 rfl (w.heap.size + 3) 25 i0 _ 5 72 undNodes hi hz0 hz1 hz2 rfl (by decide) (.slice (some ⟨w.heap.size + 1 + 1 + 1, 0, none⟩) 0 0) 0 [] rfl (own_empty HE.out (by omega)) ⟨b, o + 5, none⟩ (len - 1) (cap - 1) ((kids.drop 1).flatMap Nd.cells5) rfl HF2.out.1 (HSRC.out _ (by first | exact HB4.out | exact HB4.out.drew)) (fun u hu => cells5_u hu) HF2.out.2.1 HF2.out.2.2.1 HF2.out.2.2.2 HLS.out _ rfl ?_; intro g1 cap1 w1 hown1 hgrow1 hat1 hlt1; simp only [Nat.zero_add, List.nil_append] at hown1; obtain ⟨hba, ⟨xa, xaf⟩, ⟨xb, xbf⟩, ⟨xc, xcf⟩, hzw⟩ := HBX.out w1 ⟨hgrow1.os, hgrow1.tape, hgrow1.output, hgrow1.size, hgrow1.block⟩)
      | (refine step_append_none rfl _ _ 23 rfl 25 i0 undNodes hi (some ⟨w.heap.size + 1 + 1 + 1, 0, none⟩) 0 0 (Nat.le_refl _) rfl _ _ _ rfl rfl ?_))
    all_goals
      have HOW := Lib.hid hown1
      have HBW := Lib.hid hba
      clear hown1 hgrow1 hat1 hlt1 hba
    all_goals go_wp2_with fail
    all_goals
      have HO2 := HOW.out
      rw [show kids.drop 1 = kids.eraseIdx 0 from by cases kids <;> rfl] at HO2
      refine bodyPost_ret (v := .agg #[.int .i64 k, .string t, .string m, .int .u64 u, .slice (some ⟨g1, 0, none⟩) (len - 1) cap1]) (by simp [results, Tryz.f22, go_sem, xb]) rfl (without_end HLI.out (by have := HN.out; omega) (by have := HN.out; omega) HO2 (fun c hc => ?_) ?_)
      · try rw [show ∀ (x : World), x.drew.heap = x.heap from fun _ => rfl]
        rw [Below.heap_setCell _ _ _ _ (by first | omega | (simp; omega)), Below.heap_setCell _ _ _ _ (by first | omega | (simp; omega)), Below.heap_setCell _ _ _ _ (by first | omega | (simp; omega)), Below.heap_setCell _ _ _ _ (by first | omega | (simp; omega)), Below.heap_setCell _ _ _ _ (by first | omega | (simp; omega))]
        exact Below.heap_setCell _ _ _ _ (by first | omega | (simp; omega))
      · repeat' (first | (with_reducible exact HBW.out) | (with_reducible refine Below.drew ?_) | (with_reducible refine Below.setCell ?_ ?_ _))
        all_goals (first | (simp; done) | (simp; omega))
end Go.Proofs.YtongafghllkomaaGreatDoor

namespace Go.Proofs.YtongafghllkomaaGreatDoor
open Go.RowKit
set_option linter.unusedVariables false

/-- The tree with another third kid is handed back. -/
def WithPost (A : Nat → Prop) (n kn : Nd) (w : World) (e : Ending) (w' : World) : Prop :=
  ∃ (D : Nat) (m : Nd), e = .returned (.agg #[.int .i64 m.kind, .string m.text, .string m.more, .int .u64 m.num, .slice m.ao m.kids.length m.cap]) ∧ m.kind = n.kind ∧ m.text = n.text ∧ m.more = n.more ∧ m.num = n.num ∧ m.kids = [n.kid 0, n.kid 1, kn] ∧ LiesIn (fun c => A c ∨ w.heap.size ≤ c) D w' m ∧ Below w.heap.size w w'

theorem heap_set {w : World} {g i : Nat} {cur : Array Value} {T : TypeId} {v : Value} (h : w.heap[g]? = some (.cells cur T (0, 0))) : (w.setCell ⟨g, i, none⟩ v).heap[g]? = some (.cells (cur.setIfInBounds i v) T (0, 0)) := by
  simp [World.setCell, Array.getElem?_modify, h]

theorem with_end {A : Nat → Prop} {D : Nat} {w w1 W : World} {k : Int} {t m : ByteArray} {u : Int} {ao : Option Addr} {cap : Nat} {x0 x1 x2 : Nd} {k2 : Int} {t2 m2 : ByteArray} {u2 : Int} {ao2 : Option Addr} {cap2 kl g1 cap1 : Nat} {kids2 : List Nd} {cur : Array Value}
    (hLI : LiesIn A (D + 1) w (.mk k t m u ao cap [x0, x1, x2])) (hLK : LiesIn A (D + 1) w (.mk k2 t2 m2 u2 ao2 cap2 kids2)) (hkl : kids2.length = kl) (hb : Below w.heap.size w w1)
    (hrow : w1.heap[g1]? = some (.cells cur 25 (0, 0))) (hc4 : cur.toList.take (3 * 5) = [x0, x1, x2].flatMap Nd.cells5) (h3 : 3 ≤ cap1) (hsz : cur.size = cap1 * 5) (hg1 : w.heap.size ≤ g1)
    (hW : ∀ c, w.heap.size + 1 + 1 + 1 < c → c ≠ g1 → W.heap[c]? = w1.heap[c]?)
    (hWg : W.heap[g1]? = some (.cells (((((cur.setIfInBounds 10 (.int .i64 k2)).setIfInBounds 11 (.string t2)).setIfInBounds 12 (.string m2)).setIfInBounds 13 (.int .u64 u2)).setIfInBounds 14 (.slice ao2 kl cap2)) 25 (0, 0))) (hBW : Below w.heap.size w W) :
    WithPost A (.mk k t m u ao cap [x0, x1, x2]) (.mk k2 t2 m2 u2 ao2 cap2 kids2) w (.returned (.agg #[.int .i64 k, .string t, .string m, .int .u64 u, .slice (some ⟨g1, 0, none⟩) 3 cap1])) W := by
  subst hkl
  obtain ⟨w1', w2', w3', w4', w5', w6', w7'⟩ := hLI.wf
  have hs : ∀ j, j < 10 → W.cell? ⟨g1, j, none⟩ = w1.cell? ⟨g1, j, none⟩ := fun j hj => by
    rw [Lib.cell_of_heap hWg, Lib.cell_of_heap hrow]
    simp only [Array.getElem?_setIfInBounds]
    rw [if_neg (by omega), if_neg (by omega), if_neg (by omega), if_neg (by omega), if_neg (by omega)]
  have z0 : 10 < cur.size := by omega
  have z1 : 11 < cur.size := by omega
  have z2 : 12 < cur.size := by omega
  have z3 : 13 < cur.size := by omega
  have z4 : 14 < cur.size := by omega
  have c0 := row_cells (cap := cap1) hrow hc4 (i := 0) (m := x0) rfl
  have c1 := row_cells (cap := cap1) hrow hc4 (i := 1) (m := x1) rfl
  have hx : ∀ (i : Nat) (x : Nd), [x0, x1, (Nd.mk k2 t2 m2 u2 ao2 cap2 kids2)][i]? = some x → NdCells W g1 (0 + i * 5) x ∧ LiesIn A (D + 1) w x := by
    intro i x hx
    rcases at3 hx with ⟨rfl, rfl⟩ | ⟨rfl, rfl⟩ | ⟨rfl, rfl⟩
    · obtain ⟨q0, q1, q2, q3, q4⟩ := c0
      exact ⟨⟨(hs _ (by omega)).trans q0, (hs _ (by omega)).trans q1, (hs _ (by omega)).trans q2, (hs _ (by omega)).trans q3, (hs _ (by omega)).trans q4⟩, (hLI.2 0 _ rfl).2.up (by omega)⟩
    · obtain ⟨q0, q1, q2, q3, q4⟩ := c1
      exact ⟨⟨(hs _ (by omega)).trans q0, (hs _ (by omega)).trans q1, (hs _ (by omega)).trans q2, (hs _ (by omega)).trans q3, (hs _ (by omega)).trans q4⟩, (hLI.2 1 _ rfl).2.up (by omega)⟩
    · refine ⟨⟨?_, ?_, ?_, ?_, ?_⟩, hLK⟩
      all_goals
        rw [Lib.cell_of_heap hWg]
        simp [z0, z1, z2, z3, z4, Nd.kind, Nd.text, Nd.more, Nd.num, Nd.ao, Nd.cap, Nd.kids]
  refine ⟨D + 2, .mk k t m u (some ⟨g1, 0, none⟩) cap1 [x0, x1, .mk k2 t2 m2 u2 ao2 cap2 kids2], rfl, rfl, rfl, rfl, rfl, rfl, ⟨⟨w1', w2', (by show 3 ≤ maxLen; decide), w4', w5', w6', w7'⟩, fun i x hxi => ?_⟩, hBW⟩
  obtain ⟨h1, h2⟩ := hx i x hxi
  exact ⟨⟨g1, 0, Or.inr hg1, rfl, h1⟩, (h2.mono fun c hc => Or.inl hc).below hBW⟩

set_option maxRecDepth 100000 in
set_option maxHeartbeats 2000000 in
theorem with_any (A : Nat → Prop) (D : Nat) (n kn : Nd) (w : World) (hLI : LiesIn A D w n) (hLK : LiesIn A D w kn) (h3 : n.kids.length = 3) (hc3 : 3 ≤ n.cap) :
    Calls Tryz.prog 21 #[n.val, .int .i64 2, kn.val] w (WithPost A n kn w) := by
  obtain ⟨D, rfl⟩ : ∃ E, D = E + 1 := by cases D with | zero => exact hLI.elim | succ E => exact ⟨E, rfl⟩
  obtain ⟨k, t, m, u, ao, cap, kids⟩ := n
  obtain ⟨k2, t2, m2, u2, ao2, cap2, kids2⟩ := kn
  obtain ⟨x0, x1, x2, rfl⟩ : ∃ x y z, kids = [x, y, z] := kids3 (n := .mk k t m u ao cap kids) h3
  have hL : LiesD (D + 1) w (.mk k t m u ao cap [x0, x1, x2]) := hLI.lies
  show Calls _ _ #[.agg #[.int .i64 k, .string t, .string m, .int .u64 u, .slice ao 3 cap], _, .agg #[.int .i64 k2, .string t2, .string m2, .int .u64 u2, .slice ao2 kids2.length cap2]] w _
  obtain ⟨⟨b, o, hao, hc0⟩, -⟩ := hL.2 0 x0 rfl
  obtain rfl : ao = some ⟨b, o, none⟩ := hao
  have hcap : 3 ≤ cap := hc3
  obtain ⟨i0, hi, hz0, hz1, hz2⟩ := info_parts infoNode
  have HLI := Lib.hid hLI
  have HLK := Lib.hid hLK
  have HSRC := Lib.hid (show ∀ W, Below w.heap.size w W → (∀ i u, ([x0, x1, x2].flatMap Nd.cells5)[i]? = some u → W.cell? ((⟨b, o, none⟩ : Addr).add i) = some u) from fun W hb => row_news (hL.list.below hb))
  have HB4 := Lib.hid (show Below w.heap.size w ((((w.alloc (.cells #[.int .i64 k, .string t, .string m, .int .u64 u, .slice (some ⟨b, o, none⟩) 3 cap] 25)).alloc (.cells #[.int .i64 k2, .string t2, .string m2, .int .u64 u2, .slice ao2 kids2.length cap2] 25)).alloc (.cells #[.int .i64 0, .string ⟨#[]⟩, .string ⟨#[]⟩, .int .u64 0, .slice none 0 0] 25)).alloc (.cells #[.int .i64 k, .string t, .string m, .int .u64 u, .slice (some ⟨b, o, none⟩) 3 cap] 25)) from ((((Below.refl _ _).alloc (Nat.le_refl _) _).alloc (by simp) _).alloc (by simp; omega) _).alloc (by simp; omega) _)
  have HE := Lib.hid (show (((((w.alloc (.cells #[.int .i64 k, .string t, .string m, .int .u64 u, .slice (some ⟨b, o, none⟩) 3 cap] 25)).alloc (.cells #[.int .i64 k2, .string t2, .string m2, .int .u64 u2, .slice ao2 kids2.length cap2] 25)).alloc (.cells #[.int .i64 0, .string ⟨#[]⟩, .string ⟨#[]⟩, .int .u64 0, .slice none 0 0] 25)).alloc (.cells #[.int .i64 k, .string t, .string m, .int .u64 u, .slice (some ⟨b, o, none⟩) 3 cap] 25)).alloc (.cells #[] 25)).heap[w.heap.size + 1 + 1 + 1 + 1]? = some (.cells #[] 25 (0, 0)) from by
    have h := heap_alloc_new ((((w.alloc (.cells #[.int .i64 k, .string t, .string m, .int .u64 u, .slice (some ⟨b, o, none⟩) 3 cap] 25)).alloc (.cells #[.int .i64 k2, .string t2, .string m2, .int .u64 u2, .slice ao2 kids2.length cap2] 25)).alloc (.cells #[.int .i64 0, .string ⟨#[]⟩, .string ⟨#[]⟩, .int .u64 0, .slice none 0 0] 25)).alloc (.cells #[.int .i64 k, .string t, .string m, .int .u64 u, .slice (some ⟨b, o, none⟩) 3 cap] 25)) (.cells #[] 25)
    simpa using h)
  have HB5 := Lib.hid (HB4.out.alloc HB4.out.size (.cells #[] 25))
  have HBX := Lib.hid (show ∀ (wa : World), (((((w.alloc (.cells #[.int .i64 k, .string t, .string m, .int .u64 u, .slice (some ⟨b, o, none⟩) 3 cap] 25)).alloc (.cells #[.int .i64 k2, .string t2, .string m2, .int .u64 u2, .slice ao2 kids2.length cap2] 25)).alloc (.cells #[.int .i64 0, .string ⟨#[]⟩, .string ⟨#[]⟩, .int .u64 0, .slice none 0 0] 25)).alloc (.cells #[.int .i64 k, .string t, .string m, .int .u64 u, .slice (some ⟨b, o, none⟩) 3 cap] 25)).alloc (.cells #[] 25)).grownBy wa (some (w.heap.size + 1 + 1 + 1 + 1)) → Below w.heap.size w wa ∧ ((∀ z, wa.cell? ⟨w.heap.size, z, none⟩ = (((((w.alloc (.cells #[.int .i64 k, .string t, .string m, .int .u64 u, .slice (some ⟨b, o, none⟩) 3 cap] 25)).alloc (.cells #[.int .i64 k2, .string t2, .string m2, .int .u64 u2, .slice ao2 kids2.length cap2] 25)).alloc (.cells #[.int .i64 0, .string ⟨#[]⟩, .string ⟨#[]⟩, .int .u64 0, .slice none 0 0] 25)).alloc (.cells #[.int .i64 k, .string t, .string m, .int .u64 u, .slice (some ⟨b, o, none⟩) 3 cap] 25)).alloc (.cells #[] 25)).cell? ⟨w.heap.size, z, none⟩) ∧ (∀ z, wa.frozen? ⟨w.heap.size, z, none⟩ = (((((w.alloc (.cells #[.int .i64 k, .string t, .string m, .int .u64 u, .slice (some ⟨b, o, none⟩) 3 cap] 25)).alloc (.cells #[.int .i64 k2, .string t2, .string m2, .int .u64 u2, .slice ao2 kids2.length cap2] 25)).alloc (.cells #[.int .i64 0, .string ⟨#[]⟩, .string ⟨#[]⟩, .int .u64 0, .slice none 0 0] 25)).alloc (.cells #[.int .i64 k, .string t, .string m, .int .u64 u, .slice (some ⟨b, o, none⟩) 3 cap] 25)).alloc (.cells #[] 25)).frozen? ⟨w.heap.size, z, none⟩)) ∧ ((∀ z, wa.cell? ⟨w.heap.size + 1, z, none⟩ = (((((w.alloc (.cells #[.int .i64 k, .string t, .string m, .int .u64 u, .slice (some ⟨b, o, none⟩) 3 cap] 25)).alloc (.cells #[.int .i64 k2, .string t2, .string m2, .int .u64 u2, .slice ao2 kids2.length cap2] 25)).alloc (.cells #[.int .i64 0, .string ⟨#[]⟩, .string ⟨#[]⟩, .int .u64 0, .slice none 0 0] 25)).alloc (.cells #[.int .i64 k, .string t, .string m, .int .u64 u, .slice (some ⟨b, o, none⟩) 3 cap] 25)).alloc (.cells #[] 25)).cell? ⟨w.heap.size + 1, z, none⟩) ∧ (∀ z, wa.frozen? ⟨w.heap.size + 1, z, none⟩ = (((((w.alloc (.cells #[.int .i64 k, .string t, .string m, .int .u64 u, .slice (some ⟨b, o, none⟩) 3 cap] 25)).alloc (.cells #[.int .i64 k2, .string t2, .string m2, .int .u64 u2, .slice ao2 kids2.length cap2] 25)).alloc (.cells #[.int .i64 0, .string ⟨#[]⟩, .string ⟨#[]⟩, .int .u64 0, .slice none 0 0] 25)).alloc (.cells #[.int .i64 k, .string t, .string m, .int .u64 u, .slice (some ⟨b, o, none⟩) 3 cap] 25)).alloc (.cells #[] 25)).frozen? ⟨w.heap.size + 1, z, none⟩)) ∧ ((∀ z, wa.cell? ⟨w.heap.size + 1 + 1, z, none⟩ = (((((w.alloc (.cells #[.int .i64 k, .string t, .string m, .int .u64 u, .slice (some ⟨b, o, none⟩) 3 cap] 25)).alloc (.cells #[.int .i64 k2, .string t2, .string m2, .int .u64 u2, .slice ao2 kids2.length cap2] 25)).alloc (.cells #[.int .i64 0, .string ⟨#[]⟩, .string ⟨#[]⟩, .int .u64 0, .slice none 0 0] 25)).alloc (.cells #[.int .i64 k, .string t, .string m, .int .u64 u, .slice (some ⟨b, o, none⟩) 3 cap] 25)).alloc (.cells #[] 25)).cell? ⟨w.heap.size + 1 + 1, z, none⟩) ∧ (∀ z, wa.frozen? ⟨w.heap.size + 1 + 1, z, none⟩ = (((((w.alloc (.cells #[.int .i64 k, .string t, .string m, .int .u64 u, .slice (some ⟨b, o, none⟩) 3 cap] 25)).alloc (.cells #[.int .i64 k2, .string t2, .string m2, .int .u64 u2, .slice ao2 kids2.length cap2] 25)).alloc (.cells #[.int .i64 0, .string ⟨#[]⟩, .string ⟨#[]⟩, .int .u64 0, .slice none 0 0] 25)).alloc (.cells #[.int .i64 k, .string t, .string m, .int .u64 u, .slice (some ⟨b, o, none⟩) 3 cap] 25)).alloc (.cells #[] 25)).frozen? ⟨w.heap.size + 1 + 1, z, none⟩)) ∧ ((∀ z, wa.cell? ⟨w.heap.size + 1 + 1 + 1, z, none⟩ = (((((w.alloc (.cells #[.int .i64 k, .string t, .string m, .int .u64 u, .slice (some ⟨b, o, none⟩) 3 cap] 25)).alloc (.cells #[.int .i64 k2, .string t2, .string m2, .int .u64 u2, .slice ao2 kids2.length cap2] 25)).alloc (.cells #[.int .i64 0, .string ⟨#[]⟩, .string ⟨#[]⟩, .int .u64 0, .slice none 0 0] 25)).alloc (.cells #[.int .i64 k, .string t, .string m, .int .u64 u, .slice (some ⟨b, o, none⟩) 3 cap] 25)).alloc (.cells #[] 25)).cell? ⟨w.heap.size + 1 + 1 + 1, z, none⟩) ∧ (∀ z, wa.frozen? ⟨w.heap.size + 1 + 1 + 1, z, none⟩ = (((((w.alloc (.cells #[.int .i64 k, .string t, .string m, .int .u64 u, .slice (some ⟨b, o, none⟩) 3 cap] 25)).alloc (.cells #[.int .i64 k2, .string t2, .string m2, .int .u64 u2, .slice ao2 kids2.length cap2] 25)).alloc (.cells #[.int .i64 0, .string ⟨#[]⟩, .string ⟨#[]⟩, .int .u64 0, .slice none 0 0] 25)).alloc (.cells #[.int .i64 k, .string t, .string m, .int .u64 u, .slice (some ⟨b, o, none⟩) 3 cap] 25)).alloc (.cells #[] 25)).frozen? ⟨w.heap.size + 1 + 1 + 1, z, none⟩)) ∧ w.heap.size + 1 + 1 + 1 + 1 < wa.heap.size from fun wa hg =>
    ⟨HB5.out.grown hg HB5.out.size (fun c hc => by cases hc; omega), gblk hg (b := w.heap.size) (by first | (simp; done) | (simp; omega)) (by omega), gblk hg (b := w.heap.size + 1) (by first | (simp; done) | (simp; omega)) (by omega), gblk hg (b := w.heap.size + 1 + 1) (by first | (simp; done) | (simp; omega)) (by omega), gblk hg (b := w.heap.size + 1 + 1 + 1) (by first | (simp; done) | (simp; omega)) (by omega), by have := hg.size; simp at this; omega⟩)
  have HGX := Lib.hid (show ∀ g1, ((Value.slice (some ⟨w.heap.size + 1 + 1 + 1 + 1, 0, none⟩) 0 0).ownBlock = some g1 ∨ g1 = w.heap.size + 1 + 1 + 1 + 1 + 1) → w.heap.size + 1 + 1 + 1 < g1 from fun g1 h => by
    rcases h with h | h
    · have : w.heap.size + 1 + 1 + 1 + 1 = g1 := Option.some.inj h
      omega
    · omega)
  have hls : w.heap.size + 4 ≤ (((((w.alloc (.cells #[.int .i64 k, .string t, .string m, .int .u64 u, .slice (some ⟨b, o, none⟩) 3 cap] 25)).alloc (.cells #[.int .i64 k2, .string t2, .string m2, .int .u64 u2, .slice ao2 kids2.length cap2] 25)).alloc (.cells #[.int .i64 0, .string ⟨#[]⟩, .string ⟨#[]⟩, .int .u64 0, .slice none 0 0] 25)).alloc (.cells #[.int .i64 k, .string t, .string m, .int .u64 u, .slice (some ⟨b, o, none⟩) 3 cap] 25)).alloc (.cells #[] 25)).heap.size := by simp
  have HLS := Lib.hid hls
  clear hls
  have hkl : kids2.length = kids2.length := rfl
  generalize hk2l : kids2.length = kl2
  have HKL := Lib.hid hk2l
  clear hLI hLK hL h3 hc3 hc0 hkl hk2l
  go_enter Tryz.func21, Tryz.ntmps21
  rw [HKL.out] at HB4 HE HB5 HBX HLS
  go_wp2_with (at_builtin; refine wpList_append_lies _ rfl _ _ 23 rfl (w.heap.size + 4) 25 i0 _ 5 72 undNodes hi hz0 hz1 hz2 rfl (by decide) (.slice (some ⟨w.heap.size + 1 + 1 + 1 + 1, 0, none⟩) 0 0) 0 [] rfl (own_empty HE.out (by omega)) ⟨b, o, none⟩ 3 cap ([x0, x1, x2].flatMap Nd.cells5) rfl (cells5_len _) (HSRC.out _ HB5.out) (fun u hu => cells5_u hu) (by decide) (by decide) (by decide) HLS.out _ rfl ?_)
  intro g1 cap1 w1 hown1 hgrow1 hat1 hlt1
  try simp only [Nat.zero_add, List.nil_append] at hown1
  obtain ⟨hba, ⟨xa, xaf⟩, ⟨xb, xbf⟩, ⟨xc, xcf⟩, ⟨xd, xdf⟩, hzw⟩ := HBX.out w1 ⟨hgrow1.os, hgrow1.tape, hgrow1.output, hgrow1.size, hgrow1.block⟩
  have hg1 := HGX.out g1 hat1
  obtain ⟨cur, hrow, hc1, hc2, hc3, hc4⟩ : ∃ cur, w1.heap[g1]? = some (.cells cur 25 (0, 0)) ∧ 3 ≤ cap1 ∧ cap1 ≤ maxLen ∧ cur.size = cap1 * 5 ∧ cur.toList.take (3 * 5) = [x0, x1, x2].flatMap Nd.cells5 := by
    rcases hown1.2 with ⟨hv, -⟩ | ⟨g, cap', cur, hv, hB', hg, h1, h2, h3, h4⟩
    · cases hv
    · cases hv
      exact ⟨cur, hg, h1, h2, h3, h4⟩
  obtain ⟨r0, r1, r2, r3, r4⟩ := row_cells (cap := cap1) hrow hc4 (i := 2) (m := x2) rfl
  simp only [Nat.zero_add, Nat.reduceMul] at r0 r1 r2 r3 r4
  have rf0 := Lib.frozen_of_heap hrow 10
  have rf1 := Lib.frozen_of_heap hrow (10 + 1)
  have rf2 := Lib.frozen_of_heap hrow (10 + 2)
  have rf3 := Lib.frozen_of_heap hrow (10 + 3)
  have rf4 := Lib.frozen_of_heap hrow (10 + 4)
  have hn1 : ¬ g1 = w.heap.size + 1 + 1 + 1 := by omega
  have hn2 : ¬ w.heap.size + 1 + 1 + 1 = g1 := by omega
  have HBA := Lib.hid hba
  have HROW := Lib.hid hrow
  have HC4 := Lib.hid hc4
  have HC := Lib.hid (show 3 ≤ cap1 ∧ cur.size = cap1 * 5 from ⟨hc1, hc3⟩)
  have HG1 := Lib.hid hg1
  clear hown1 hgrow1 hat1 hlt1 hba hrow hc1 hc2 hc3 hc4 hg1
  go_wp2_with fail
  refine bodyPost_ret (v := .agg #[.int .i64 k, .string t, .string m, .int .u64 u, .slice (some ⟨g1, 0, none⟩) 3 cap1]) (by simp [results, Tryz.f21, go_sem, xc]) rfl (with_end (kl := kl2) HLI.out HLK.out HKL.out HBA.out HROW.out HC4.out HC.out.1 HC.out.2 (by have := HG1.out; omega) (fun c hc hg => ?_) ?_ ?_)
  · rw [Below.heap_setCell _ _ _ _ (by first | omega | (simp; omega)), Below.heap_setCell _ _ _ _ (by first | omega | (simp; omega)), Below.heap_setCell _ _ _ _ (by first | omega | (simp; omega)), Below.heap_setCell _ _ _ _ (by first | omega | (simp; omega)), Below.heap_setCell _ _ _ _ (by first | omega | (simp; omega)), Below.heap_setCell _ _ _ _ (by first | exact hg | (simp; exact hg)), Below.heap_setCell _ _ _ _ (by first | exact hg | (simp; exact hg)), Below.heap_setCell _ _ _ _ (by first | exact hg | (simp; exact hg)), Below.heap_setCell _ _ _ _ (by first | exact hg | (simp; exact hg)), Below.heap_setCell _ _ _ _ (by first | exact hg | (simp; exact hg))]
    exact Below.heap_setCell _ _ _ _ (by first | omega | (simp; omega))
  · have hg := HG1.out
    rw [Below.heap_setCell _ _ _ _ (by first | omega | (simp; omega)), Below.heap_setCell _ _ _ _ (by first | omega | (simp; omega)), Below.heap_setCell _ _ _ _ (by first | omega | (simp; omega)), Below.heap_setCell _ _ _ _ (by first | omega | (simp; omega)), Below.heap_setCell _ _ _ _ (by first | omega | (simp; omega))]
    exact heap_set (heap_set (heap_set (heap_set (heap_set ((Below.heap_setCell _ _ _ _ (by first | omega | (simp; omega))).trans HROW.out)))))
  · have hg := HG1.out
    exact ((((((((((HBA.out.setCell (p := ⟨w.heap.size + 1 + 1 + 1, 4, none⟩) (by simp; omega) _).setCell (p := ⟨g1, 10, none⟩) (by simp; omega) _).setCell (p := ⟨g1, 11, none⟩) (by simp; omega) _).setCell (p := ⟨g1, 12, none⟩) (by simp; omega) _).setCell (p := ⟨g1, 13, none⟩) (by simp; omega) _).setCell (p := ⟨g1, 14, none⟩) (by simp; omega) _).setCell (p := ⟨w.heap.size + 1 + 1, 0, none⟩) (by simp; omega) _).setCell (p := ⟨w.heap.size + 1 + 1, 1, none⟩) (by simp; omega) _).setCell (p := ⟨w.heap.size + 1 + 1, 2, none⟩) (by simp; omega) _).setCell (p := ⟨w.heap.size + 1 + 1, 3, none⟩) (by simp; omega) _).setCell (p := ⟨w.heap.size + 1 + 1, 4, none⟩) (by simp; omega) _
end Go.Proofs.YtongafghllkomaaGreatDoor
