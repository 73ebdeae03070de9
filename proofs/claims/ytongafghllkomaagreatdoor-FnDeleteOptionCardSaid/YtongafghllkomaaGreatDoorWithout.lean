/-
  spec.Without: a tree without the kid at a place. No conditions.
-/
import Derived.Test.YtongafghllkomaaGreatDoorErase
import Derived.Test.YtongafghllkomaaGreatDoorList
import Derived.Test.YtongafghllkomaaGreatDoorDelP
namespace Go.Proofs.YtongafghllkomaaGreatDoor
open Go.RowKit
set_option linter.unusedVariables false

/-- The tree without the kid at a place is handed back. -/
def WithoutPost (A : Nat → Prop) (n : Nd) (j : Nat) (w : World) (e : Ending) (w' : World) : Prop :=
  ∃ (D : Nat) (m : Nd), e = .returned (.agg #[.int .i64 m.kind, .string m.text, .string m.more, .int .u64 m.num, .slice m.ao m.kids.length m.cap]) ∧ m.kind = n.kind ∧ m.text = n.text ∧ m.more = n.more ∧ m.num = n.num ∧ m.kids = n.kids.eraseIdx j ∧ LiesIn (fun c => A c ∨ w.heap.size ≤ c) D w' m ∧ Below w.heap.size w w'

theorem erase_cells (kids : List Nd) (j : Nat) : (kids.take j).flatMap Nd.cells5 ++ (kids.drop (j + 1)).flatMap Nd.cells5 = (kids.eraseIdx j).flatMap Nd.cells5 := by
  rw [List.eraseIdx_eq_take_drop_succ, List.flatMap_append]

theorem ListLies.take {D : Nat} {w : World} {ao : Option Addr} {ns : List Nd} (h : ListLies D w ao ns) (j : Nat) : ListLies D w ao (ns.take j) := by
  intro i x hx
  rw [List.getElem?_take] at hx
  split at hx
  · exact h i x hx
  · cases hx

theorem ListLies.drop {D : Nat} {w : World} {b o : Nat} {ns : List Nd} (h : ListLies D w (some ⟨b, o, none⟩) ns) (j : Nat) : ListLies D w (some ⟨b, o + j * 5, none⟩) (ns.drop j) := by
  intro i x hx
  rw [List.getElem?_drop] at hx
  obtain ⟨⟨b', o', ha, hc⟩, hl⟩ := h (j + i) x hx
  cases ha
  exact ⟨⟨b, o + j * 5, rfl, by rw [show o + j * 5 + i * 5 = o + (j + i) * 5 by omega]; exact hc⟩, hl⟩

theorem without_end {A : Nat → Prop} {D : Nat} {w w3 W : World} {k : Int} {t m : ByteArray} {u : Int} {ao : Option Addr} {cap j l1 g c1 : Nat} {kids : List Nd} (hL : LiesIn A (D + 1) w (.mk k t m u ao cap kids)) (hj : j < kids.length) (hl1 : l1 + 1 = kids.length)
    (hown : w3.ownsRow (w.heap.size + 3) 25 5 (.slice (some ⟨g, 0, none⟩) l1 c1) l1 ((kids.eraseIdx j).flatMap Nd.cells5)) (hW : ∀ c, w.heap.size + 3 ≤ c → W.heap[c]? = w3.heap[c]?) (hB : Below w.heap.size w W) :
    WithoutPost A (.mk k t m u ao cap kids) j w (.returned (.agg #[.int .i64 k, .string t, .string m, .int .u64 u, .slice (some ⟨g, 0, none⟩) l1 c1])) W := by
  have hlen : (kids.eraseIdx j).length = l1 := by rw [List.length_eraseIdx, if_pos hj]; omega
  obtain ⟨w1, w2, w3', w4, w5, w6, w7⟩ := hL.1
  refine ⟨D + 1, .mk k t m u (some ⟨g, 0, none⟩) c1 (kids.eraseIdx j), by simp only [Nd.kind, Nd.text, Nd.more, Nd.num, Nd.ao, Nd.kids, Nd.cap]; rw [hlen], rfl, rfl, rfl, rfl, rfl, ⟨⟨w1, w2, ?_, w4, w5, w6, w7⟩, fun i x hx => ?_⟩, hB⟩
  · show (kids.eraseIdx j).length ≤ maxLen
    have : kids.length ≤ maxLen := w3'
    omega
  · have hx' : (kids.eraseIdx j)[i]? = some x := hx
    rcases hown.2 with ⟨hv, -⟩ | ⟨g', cap', cur, hv, hB', hg, hc1, hc2, hc3, hc4⟩
    · cases hv
    · cases hv
      have hlx : LiesIn A D w x := by
        rcases erase_at hx' with ⟨-, h2⟩ | ⟨-, h2⟩
        · exact (hL.2 _ x h2).2
        · exact (hL.2 _ x h2).2
      exact ⟨⟨g, 0, Or.inr (by omega), rfl, row_cells (cap := c1) (j := l1) ((hW g hB').trans hg) hc4 hx'⟩, (hlx.mono fun c hc => Or.inl hc).below hB⟩

theorem own_le {W : World} {B E s n cap : Nat} {a : Addr} {xs : List Value} (h : W.ownsRow B E s (.slice (some a) n cap) n xs) : n ≤ cap := by
  rcases h.2 with ⟨hv, -⟩ | ⟨g, c, cur, hv, -, -, h1, -⟩
  · cases hv
  · cases hv
    exact h1

theorem own_empty {W : World} {B g E : Nat} (hg : W.heap[g]? = some (.cells #[] E (0, 0))) (hB : B ≤ g) : W.ownsRow B E 5 (.slice (some ⟨g, 0, none⟩) 0 0) 0 [] :=
  ⟨rfl, Or.inr ⟨g, 0, #[], rfl, hB, hg, Nat.le_refl _, Nat.zero_le _, rfl, rfl⟩⟩

set_option maxRecDepth 100000 in
set_option maxHeartbeats 2000000 in
theorem without_any (A : Nat → Prop) (D : Nat) (n : Nd) (j : Nat) (w : World) (hLI : LiesIn A D w n) (hR : n.kids.length ≤ n.cap) (hj : 0 < j) (hl : j < n.kids.length) (hm : n.kids.length ≤ 1001) :
    Calls Tryz.prog 22 #[n.val, .int .i64 (j : Int)] w (WithoutPost A n j w) := by
  have hL : LiesD D w n := hLI.lies
  have HLI := Lib.hid hLI
  clear hLI
  obtain ⟨D, rfl⟩ : ∃ E, D = E + 1 := by cases D with | zero => exact hL.elim | succ E => exact ⟨E, rfl⟩
  obtain ⟨k, t, m, u, ao, cap, kids⟩ := n
  obtain ⟨len, hlen⟩ : ∃ len, kids.length = len := ⟨_, rfl⟩
  show Calls _ _ #[.agg #[.int .i64 k, .string t, .string m, .int .u64 u, .slice ao kids.length cap], _] w _
  obtain ⟨x0, hx0⟩ : ∃ x, kids[0]? = some x := ⟨kids[0]'(by have : j < kids.length := hl; omega), List.getElem?_eq_getElem _⟩
  obtain ⟨⟨b, o, hao, hc0⟩, -⟩ := hL.2 0 x0 hx0
  obtain rfl : ao = some ⟨b, o, none⟩ := hao
  have hl1 : j < len := by rw [← hlen]; exact hl
  have hl2 : len ≤ 1001 := by rw [← hlen]; exact hm
  have hl3 : len ≤ cap := by rw [← hlen]; exact hR
  rw [hlen]
  obtain ⟨i0, hi, hz0, hz1, hz2⟩ := info_parts infoNode
  have HN := Lib.hid hlen
  have HL := Lib.hid hL
  have HLL := Lib.hid (show ListLies D w (some ⟨b, o, none⟩) kids from hL.2)
  have HSRC := Lib.hid (show ∀ W, Below w.heap.size w W → (∀ i u, ((kids.take j).flatMap Nd.cells5)[i]? = some u → W.cell? ((⟨b, o, none⟩ : Addr).add i) = some u) ∧ (∀ i u, ((kids.drop (j + 1)).flatMap Nd.cells5)[i]? = some u → W.cell? ((⟨b, o + (j + 1) * 5, none⟩ : Addr).add i) = some u) from fun W hb =>
    ⟨row_news ((hL.list.below hb).take j), row_news (ListLies.drop (hL.list.below hb) (j + 1))⟩)
  have hj4 : (j : Int) ≤ (len : Int) := by omega
  have hj5 : (j : Int) ≤ (cap : Int) := by omega
  have hj6 : (len : Int) ≤ (cap : Int) := by omega
  have hj7 : (0 : Int) ≤ (j : Int) := by omega
  have hj8 : j ≤ cap := by omega
  have hj9 : j + 1 ≤ len := by omega
  have hj3 : (j : Int) + 1 ≤ (len : Int) := by omega
  have hw1 : IntKind.i64.wrap ((j : Int) + 1) = (j : Int) + 1 := IntWalk.i64_in _ (by omega)
  have hw2 : (0 : Int) ≤ (j : Int) + 1 := by omega
  have hw3 : ((j : Int) + 1).toNat = j + 1 := by omega
  have HJ := Lib.hid (show 0 < j ∧ j < len ∧ len ≤ cap ∧ len ≤ 1001 from ⟨hj, hl1, hl3, hl2⟩)
  have HB3 := Lib.hid (show Below w.heap.size w (((w.alloc (.cells #[.int .i64 k, .string t, .string m, .int .u64 u, .slice (some ⟨b, o, none⟩) len cap] 25)).alloc (.cells #[.int .i64 0, .string ⟨#[]⟩, .string ⟨#[]⟩, .int .u64 0, .slice none 0 0] 25)).alloc (.cells #[.int .i64 k, .string t, .string m, .int .u64 u, .slice (some ⟨b, o, none⟩) len cap] 25)) from (((Below.refl _ _).alloc (Nat.le_refl _) _).alloc (by simp) _).alloc (by simp; omega) _)
  have HE := Lib.hid (show ((((w.alloc (.cells #[.int .i64 k, .string t, .string m, .int .u64 u, .slice (some ⟨b, o, none⟩) len cap] 25)).alloc (.cells #[.int .i64 0, .string ⟨#[]⟩, .string ⟨#[]⟩, .int .u64 0, .slice none 0 0] 25)).alloc (.cells #[.int .i64 k, .string t, .string m, .int .u64 u, .slice (some ⟨b, o, none⟩) len cap] 25)).alloc (.cells #[] 25)).heap[w.heap.size + 1 + 1 + 1]? = some (.cells #[] 25 (0, 0)) from by
    have h := heap_alloc_new (((w.alloc (.cells #[.int .i64 k, .string t, .string m, .int .u64 u, .slice (some ⟨b, o, none⟩) len cap] 25)).alloc (.cells #[.int .i64 0, .string ⟨#[]⟩, .string ⟨#[]⟩, .int .u64 0, .slice none 0 0] 25)).alloc (.cells #[.int .i64 k, .string t, .string m, .int .u64 u, .slice (some ⟨b, o, none⟩) len cap] 25)) (.cells #[] 25)
    simpa using h)
  have HB4 := Lib.hid (HB3.out.alloc HB3.out.size (.cells #[] 25))
  have HBX := Lib.hid (show ∀ (wa : World), ((((w.alloc (.cells #[.int .i64 k, .string t, .string m, .int .u64 u, .slice (some ⟨b, o, none⟩) len cap] 25)).alloc (.cells #[.int .i64 0, .string ⟨#[]⟩, .string ⟨#[]⟩, .int .u64 0, .slice none 0 0] 25)).alloc (.cells #[.int .i64 k, .string t, .string m, .int .u64 u, .slice (some ⟨b, o, none⟩) len cap] 25)).alloc (.cells #[] 25)).grownBy wa (some (w.heap.size + 1 + 1 + 1)) → Below w.heap.size w wa ∧ ((∀ z, wa.cell? ⟨w.heap.size, z, none⟩ = ((((w.alloc (.cells #[.int .i64 k, .string t, .string m, .int .u64 u, .slice (some ⟨b, o, none⟩) len cap] 25)).alloc (.cells #[.int .i64 0, .string ⟨#[]⟩, .string ⟨#[]⟩, .int .u64 0, .slice none 0 0] 25)).alloc (.cells #[.int .i64 k, .string t, .string m, .int .u64 u, .slice (some ⟨b, o, none⟩) len cap] 25)).alloc (.cells #[] 25)).cell? ⟨w.heap.size, z, none⟩) ∧ (∀ z, wa.frozen? ⟨w.heap.size, z, none⟩ = ((((w.alloc (.cells #[.int .i64 k, .string t, .string m, .int .u64 u, .slice (some ⟨b, o, none⟩) len cap] 25)).alloc (.cells #[.int .i64 0, .string ⟨#[]⟩, .string ⟨#[]⟩, .int .u64 0, .slice none 0 0] 25)).alloc (.cells #[.int .i64 k, .string t, .string m, .int .u64 u, .slice (some ⟨b, o, none⟩) len cap] 25)).alloc (.cells #[] 25)).frozen? ⟨w.heap.size, z, none⟩)) ∧ ((∀ z, wa.cell? ⟨w.heap.size + 1, z, none⟩ = ((((w.alloc (.cells #[.int .i64 k, .string t, .string m, .int .u64 u, .slice (some ⟨b, o, none⟩) len cap] 25)).alloc (.cells #[.int .i64 0, .string ⟨#[]⟩, .string ⟨#[]⟩, .int .u64 0, .slice none 0 0] 25)).alloc (.cells #[.int .i64 k, .string t, .string m, .int .u64 u, .slice (some ⟨b, o, none⟩) len cap] 25)).alloc (.cells #[] 25)).cell? ⟨w.heap.size + 1, z, none⟩) ∧ (∀ z, wa.frozen? ⟨w.heap.size + 1, z, none⟩ = ((((w.alloc (.cells #[.int .i64 k, .string t, .string m, .int .u64 u, .slice (some ⟨b, o, none⟩) len cap] 25)).alloc (.cells #[.int .i64 0, .string ⟨#[]⟩, .string ⟨#[]⟩, .int .u64 0, .slice none 0 0] 25)).alloc (.cells #[.int .i64 k, .string t, .string m, .int .u64 u, .slice (some ⟨b, o, none⟩) len cap] 25)).alloc (.cells #[] 25)).frozen? ⟨w.heap.size + 1, z, none⟩)) ∧ ((∀ z, wa.cell? ⟨w.heap.size + 1 + 1, z, none⟩ = ((((w.alloc (.cells #[.int .i64 k, .string t, .string m, .int .u64 u, .slice (some ⟨b, o, none⟩) len cap] 25)).alloc (.cells #[.int .i64 0, .string ⟨#[]⟩, .string ⟨#[]⟩, .int .u64 0, .slice none 0 0] 25)).alloc (.cells #[.int .i64 k, .string t, .string m, .int .u64 u, .slice (some ⟨b, o, none⟩) len cap] 25)).alloc (.cells #[] 25)).cell? ⟨w.heap.size + 1 + 1, z, none⟩) ∧ (∀ z, wa.frozen? ⟨w.heap.size + 1 + 1, z, none⟩ = ((((w.alloc (.cells #[.int .i64 k, .string t, .string m, .int .u64 u, .slice (some ⟨b, o, none⟩) len cap] 25)).alloc (.cells #[.int .i64 0, .string ⟨#[]⟩, .string ⟨#[]⟩, .int .u64 0, .slice none 0 0] 25)).alloc (.cells #[.int .i64 k, .string t, .string m, .int .u64 u, .slice (some ⟨b, o, none⟩) len cap] 25)).alloc (.cells #[] 25)).frozen? ⟨w.heap.size + 1 + 1, z, none⟩)) ∧ w.heap.size + 1 + 1 + 1 < wa.heap.size from fun wa hg =>
    ⟨HB4.out.grown hg HB4.out.size (fun c hc => by cases hc; omega), gblk hg (b := w.heap.size) (by first | (simp; done) | (simp; omega)) (by omega), gblk hg (b := w.heap.size + 1) (by first | (simp; done) | (simp; omega)) (by omega), gblk hg (b := w.heap.size + 1 + 1) (by first | (simp; done) | (simp; omega)) (by omega), by have := hg.size; simp at this; omega⟩)
  have HF := Lib.hid (show ((kids.take j).flatMap Nd.cells5).length = j * 5 ∧ 0 < j ∧ 0 + j ≤ maxLen ∧ (0 + j) * 72 ≤ 140737488355328 ∧ w.heap.size + 3 ≤ ((((w.alloc (.cells #[.int .i64 k, .string t, .string m, .int .u64 u, .slice (some ⟨b, o, none⟩) len cap] 25)).alloc (.cells #[.int .i64 0, .string ⟨#[]⟩, .string ⟨#[]⟩, .int .u64 0, .slice none 0 0] 25)).alloc (.cells #[.int .i64 k, .string t, .string m, .int .u64 u, .slice (some ⟨b, o, none⟩) len cap] 25)).alloc (.cells #[] 25)).heap.size from
    ⟨by rw [cells5_len, List.length_take, hlen, Nat.min_eq_left (by omega)], hj, by unfold maxLen; omega, by omega, by simp⟩)
  have HGX := Lib.hid (show ∀ g1, ((Value.slice (some ⟨w.heap.size + 1 + 1 + 1, 0, none⟩) 0 0).ownBlock = some g1 ∨ g1 = ((((w.alloc (.cells #[.int .i64 k, .string t, .string m, .int .u64 u, .slice (some ⟨b, o, none⟩) len cap] 25)).alloc (.cells #[.int .i64 0, .string ⟨#[]⟩, .string ⟨#[]⟩, .int .u64 0, .slice none 0 0] 25)).alloc (.cells #[.int .i64 k, .string t, .string m, .int .u64 u, .slice (some ⟨b, o, none⟩) len cap] 25)).alloc (.cells #[] 25)).heap.size) → w.heap.size + 1 + 1 < g1 from fun g1 h => by
    rcases h with h | h
    · have : w.heap.size + 1 + 1 + 1 = g1 := Option.some.inj h
      omega
    · rw [h]; simp)
  clear hlen hL hR hl hm hx0 hc0
  by_cases hlast : j + 1 = len
  · have HLAST := Lib.hid hlast
    have HTK := Lib.hid (show (kids.eraseIdx j) = kids.take j by rw [List.eraseIdx_eq_take_drop_succ, List.drop_of_length_le (by have := HN.out; omega), List.append_nil])
    clear hlast
    go_enter Tryz.func22, Tryz.ntmps22
    go_wp2_with fail
    go_region_law (first
      | (refine step_append_lies _ rfl _ _ 23 rfl (w.heap.size + 3) 25 i0 _ 5 72 undNodes hi hz0 hz1 hz2 rfl (by decide) (.slice (some ⟨w.heap.size + 1 + 1 + 1, 0, none⟩) 0 0) 0 [] rfl (own_empty HE.out (by omega)) ⟨b, o, none⟩ j cap ((kids.take j).flatMap Nd.cells5) rfl HF.out.1 (HSRC.out _ (by first | exact HB4.out | exact HB4.out.drew)).1 (fun u hu => cells5_u hu) HF.out.2.1 HF.out.2.2.1 HF.out.2.2.2.1 HF.out.2.2.2.2 _ rfl ?_; intro g1 cap1 w1 hown1 hgrow1 hat1 hlt1; simp only [Nat.zero_add, List.nil_append] at hown1; obtain ⟨hba, ⟨xa, xaf⟩, ⟨xb, xbf⟩, ⟨xc, xcf⟩, hzw⟩ := HBX.out w1 ⟨hgrow1.os, hgrow1.tape, hgrow1.output, hgrow1.size, hgrow1.block⟩; have HG1 := Lib.hid (HGX.out g1 hat1); have HZW := Lib.hid hzw; have HCAP := Lib.hid (own_le hown1))
      | (refine step_append_none rfl _ _ 23 rfl 25 i0 undNodes hi (some ⟨g1, 0, none⟩) j cap1 HCAP.out rfl _ _ _ rfl (by have := HLAST.out; omega) ?_))
    all_goals
      have HOW := Lib.hid hown1
      have HBW := Lib.hid hba
      clear hown1 hgrow1 hat1 hlt1 hba
    all_goals go_wp2_with fail
    all_goals
      have HO2 := HOW.out
      rw [← HTK.out] at HO2
      refine bodyPost_ret (v := .agg #[.int .i64 k, .string t, .string m, .int .u64 u, .slice (some ⟨g1, 0, none⟩) j cap1]) (by simp [results, Tryz.f22, go_sem, xb]) rfl (without_end HLI.out (by have := HN.out; omega) (by have := HN.out; have := HLAST.out; omega) HO2 (fun c hc => ?_) ?_)
      · rw [Below.heap_setCell _ _ _ _ (by first | omega | (simp; omega)), Below.heap_setCell _ _ _ _ (by first | omega | (simp; omega)), Below.heap_setCell _ _ _ _ (by first | omega | (simp; omega)), Below.heap_setCell _ _ _ _ (by first | omega | (simp; omega)), Below.heap_setCell _ _ _ _ (by first | omega | (simp; omega))]
        exact Below.heap_setCell _ _ _ _ (by first | omega | (simp; omega))
      · first
          | exact (((((HBW.out.setCell (p := ⟨w.heap.size + 1 + 1, 4, none⟩) (by simp; omega) _).setCell (p := ⟨w.heap.size + 1, 0, none⟩) (by simp) _).setCell (p := ⟨w.heap.size + 1, 1, none⟩) (by simp) _).setCell (p := ⟨w.heap.size + 1, 2, none⟩) (by simp) _).setCell (p := ⟨w.heap.size + 1, 3, none⟩) (by simp) _).setCell (p := ⟨w.heap.size + 1, 4, none⟩) (by simp) _
          | exact ((((((HBW.out.setCell (p := ⟨w.heap.size + 1 + 1, 4, none⟩) (by simp; omega) _).drew).setCell (p := ⟨w.heap.size + 1, 0, none⟩) (by simp) _).setCell (p := ⟨w.heap.size + 1, 1, none⟩) (by simp) _).setCell (p := ⟨w.heap.size + 1, 2, none⟩) (by simp) _).setCell (p := ⟨w.heap.size + 1, 3, none⟩) (by simp) _).setCell (p := ⟨w.heap.size + 1, 4, none⟩) (by simp) _
  · have hj2 : ¬ j + 1 = cap := by omega
    have hj22 : ¬ cap = j + 1 := by omega
    have HF2 := Lib.hid (show ((kids.drop (j + 1)).flatMap Nd.cells5).length = (len - (j + 1)) * 5 ∧ 0 < len - (j + 1) ∧ j + (len - (j + 1)) ≤ maxLen ∧ (j + (len - (j + 1))) * 72 ≤ 140737488355328 from
      ⟨by rw [cells5_len, List.length_drop, HN.out], by omega, by unfold maxLen; omega, by omega⟩)
    clear hlast
    go_enter Tryz.func22, Tryz.ntmps22
    go_wp2_with fail
    go_region_law (first
      | (refine step_append_lies _ rfl _ _ 23 rfl (w.heap.size + 3) 25 i0 _ 5 72 undNodes hi hz0 hz1 hz2 rfl (by decide) (.slice (some ⟨w.heap.size + 1 + 1 + 1, 0, none⟩) 0 0) 0 [] rfl (own_empty HE.out (by omega)) ⟨b, o, none⟩ j cap ((kids.take j).flatMap Nd.cells5) rfl HF.out.1 (HSRC.out _ (by first | exact HB4.out | exact HB4.out.drew)).1 (fun u hu => cells5_u hu) HF.out.2.1 HF.out.2.2.1 HF.out.2.2.2.1 HF.out.2.2.2.2 _ rfl ?_; intro g1 cap1 w1 hown1 hgrow1 hat1 hlt1; simp only [Nat.zero_add, List.nil_append] at hown1; obtain ⟨hba, ⟨xa, xaf⟩, ⟨xb, xbf⟩, ⟨xc, xcf⟩, hzw⟩ := HBX.out w1 ⟨hgrow1.os, hgrow1.tape, hgrow1.output, hgrow1.size, hgrow1.block⟩; have HG1 := Lib.hid (HGX.out g1 hat1); have HZW := Lib.hid hzw)
      | (refine step_append_lies _ rfl _ _ 23 rfl (w.heap.size + 3) 25 i0 _ 5 72 undNodes hi hz0 hz1 hz2 rfl (by decide) _ _ _ rfl hown1 ⟨b, o + (j + 1) * 5, none⟩ (len - (j + 1)) (cap - (j + 1)) ((kids.drop (j + 1)).flatMap Nd.cells5) rfl HF2.out.1 (HSRC.out _ hba).2 (fun u hu => cells5_u hu) HF2.out.2.1 HF2.out.2.2.1 HF2.out.2.2.2 (by omega) _ rfl ?_; intro g2 cap2 w2 hown2 hgrow2 hat2 hlt2; obtain ⟨ya, yaf⟩ := gblk ⟨hgrow2.os, hgrow2.tape, hgrow2.output, hgrow2.size, hgrow2.block⟩ (lb := g1) (b := w.heap.size) (by have := HZW.out; omega) (by have := HG1.out; omega); obtain ⟨yb, ybf⟩ := gblk ⟨hgrow2.os, hgrow2.tape, hgrow2.output, hgrow2.size, hgrow2.block⟩ (lb := g1) (b := w.heap.size + 1) (by have := HZW.out; omega) (by have := HG1.out; omega); obtain ⟨yc, ycf⟩ := gblk ⟨hgrow2.os, hgrow2.tape, hgrow2.output, hgrow2.size, hgrow2.block⟩ (lb := g1) (b := w.heap.size + 1 + 1) (by have := HZW.out; omega) (by have := HG1.out; omega)))
    all_goals
      have HOW := Lib.hid hown2
      have HBW := Lib.hid (hba.grown hgrow2 (Nat.le_trans (Nat.le_add_right _ 3) (Nat.le_of_lt HZW.out)) (fun c hc => by
        have e : g1 = c := Option.some.inj hc
        have := HG1.out
        omega))
      clear hown2 hgrow2 hat2 hlt2 hown1 hgrow1 hat1 hlt1 hba
    all_goals go_wp2_with fail
    all_goals
      have HO2 := HOW.out
      rw [erase_cells] at HO2
      refine bodyPost_ret (v := .agg #[.int .i64 k, .string t, .string m, .int .u64 u, .slice (some ⟨g2, 0, none⟩) (j + (len - (j + 1))) cap2]) (by simp [results, Tryz.f22, go_sem, yb, xb]) rfl (without_end HLI.out (by have := HN.out; omega) (by have := HN.out; omega) HO2 (fun c hc => ?_) ?_)
      · rw [Below.heap_setCell _ _ _ _ (by first | omega | (simp; omega)), Below.heap_setCell _ _ _ _ (by first | omega | (simp; omega)), Below.heap_setCell _ _ _ _ (by first | omega | (simp; omega)), Below.heap_setCell _ _ _ _ (by first | omega | (simp; omega)), Below.heap_setCell _ _ _ _ (by first | omega | (simp; omega))]
        exact Below.heap_setCell _ _ _ _ (by first | omega | (simp; omega))
      · first
          | exact (((((HBW.out.setCell (p := ⟨w.heap.size + 1 + 1, 4, none⟩) (by simp; omega) _).setCell (p := ⟨w.heap.size + 1, 0, none⟩) (by simp) _).setCell (p := ⟨w.heap.size + 1, 1, none⟩) (by simp) _).setCell (p := ⟨w.heap.size + 1, 2, none⟩) (by simp) _).setCell (p := ⟨w.heap.size + 1, 3, none⟩) (by simp) _).setCell (p := ⟨w.heap.size + 1, 4, none⟩) (by simp) _
          | exact ((((((HBW.out.setCell (p := ⟨w.heap.size + 1 + 1, 4, none⟩) (by simp; omega) _).drew).setCell (p := ⟨w.heap.size + 1, 0, none⟩) (by simp) _).setCell (p := ⟨w.heap.size + 1, 1, none⟩) (by simp) _).setCell (p := ⟨w.heap.size + 1, 2, none⟩) (by simp) _).setCell (p := ⟨w.heap.size + 1, 3, none⟩) (by simp) _).setCell (p := ⟨w.heap.size + 1, 4, none⟩) (by simp) _
end Go.Proofs.YtongafghllkomaaGreatDoor
