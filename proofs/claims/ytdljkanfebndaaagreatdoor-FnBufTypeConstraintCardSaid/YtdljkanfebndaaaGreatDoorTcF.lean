/-
  Type constraints, read from a flatbuffer. No conditions.
-/
import Derived.Test.YtdljkanfebndaaaGreatDoorNodeBuf
import Derived.Test.YtdljkanfebndaaaGreatDoorTcK
import Derived.Deep.AppendLies
import Derived.Deep.LoopGhost
import Derived.Deep.RegionLaw
import Derived.Deep.RegionHeld3
namespace Go.Proofs.YtdljkanfebndaaaGreatDoor
open Go.RowKit
set_option linter.unusedVariables false
set_option linter.unusedSimpArgs false

theorem infoPI : (Tryz.prog.info? 77).map (fun i => (i.zero, i.size, i.bytes)) = some (some (.pointer none), 1, 8) := by kernel_rfl
theorem undPI : Tryz.prog.underlying 98 = some (.slice 77) := by kernel_rfl

/-- A row of pointers to identifiers. -/
def IdList (B : Nat) (v : Value) (n : Nat) (ss : List ByteArray) (w : World) : Prop :=
  ∃ ks : List Nat, w.ownsRow B 77 1 v n (ks.map fun k => .pointer (some ⟨k, 0, none⟩)) ∧ ∀ (i k : Nat) (s : ByteArray), ks[i]? = some k → ss[i]? = some s → w.heap[k]? = some (.cells #[.pointer none, .slice none 0 0, .slice none 0 0, .string s] 126 (0, 0)) ∧ B ≤ k ∧ some k ≠ v.ownBlock

theorem IdList.below {B : Nat} {v : Value} {n : Nat} {ss : List ByteArray} {w w' : World} (h : IdList B v n ss w) {K : Nat} (hb : Below K w w') (hK : w.heap.size ≤ K) : IdList B v n ss w' := by
  obtain ⟨ks, h1, h2⟩ := h
  refine ⟨ks, h1.kept ⟨hb.os, hb.tape, hb.output, hb.size, fun i hi _ => hb.block i (Nat.lt_of_lt_of_le hi hK)⟩ (row := none) ?_, fun i k s hk hs => ?_⟩
  · cases hv : v.ownBlock with
    | none => exact Or.inl rfl
    | some g => exact Or.inr (by simp)
  · obtain ⟨a, b, c⟩ := h2 i k s hk hs
    exact ⟨(hb.block k (Nat.lt_of_lt_of_le (Array.getElem?_eq_some_iff.1 a).1 hK)).trans a, b, c⟩

theorem one_new (w : World) (v : Value) (T : TypeId) : ∀ j u, ([v] : List Value)[j]? = some u → (w.alloc (.cells #[v] T)).cell? ((⟨w.heap.size, 0, none⟩ : Addr).add j) = some u := by
  intro j u hu
  refine World.news_of_block (cs := #[v]) (t := T) (fr := (0, 0)) ?_ j u (by simpa using hu)
  show (w.heap.push _)[w.heap.size]? = _
  simp

/-- One pointer more. -/
theorem IdList.next {B k g cap j k8 sc : Nat} {so : Option Addr} {ss : List ByteArray} {sj : ByteArray} {ks : List Nat} {w8 w9 : World} {ob : Obj} (v : Value)
    (hks : ∀ (i k : Nat) (s : ByteArray), ks[i]? = some k → ss[i]? = some s → w8.heap[k]? = some (.cells #[.pointer none, .slice none 0 0, .slice none 0 0, .string s] 126 (0, 0)) ∧ B ≤ k ∧ some k ≠ (Value.slice so j sc).ownBlock)
    (hs : ss[j]? = some sj) (h8 : w8.heap[k8]? = some (.cells #[.pointer none, .slice none 0 0, .slice none 0 0, .string sj] 126 (0, 0))) (hB8 : B ≤ k8) (hn8 : some k8 ≠ (Value.slice so j sc).ownBlock)
    (hown : w9.ownsRow B 77 1 (.slice (some ⟨g, 0, none⟩) (j + 1) cap) (j + 1) (ks.map (fun k => .pointer (some ⟨k, 0, none⟩)) ++ [.pointer (some ⟨k8, 0, none⟩)]))
    (hgrow : (w8.alloc ob).grownBy w9 (Value.slice so j sc).ownBlock) (hat : (Value.slice so j sc).ownBlock = some g ∨ g = (w8.alloc ob).heap.size) (hkB : k < B) : IdList B (.slice (some ⟨g, 0, none⟩) (j + 1) cap) (j + 1) ss (w9.setCell ⟨k, 4, none⟩ v) := by
  have hl : ks.length = j := by
    have := hown.1
    simp at this
    omega
  have hgB := (World.ownsRow.lt hown g rfl).1
  have one : ∀ q s, w8.heap[q]? = some (.cells #[.pointer none, .slice none 0 0, .slice none 0 0, .string s] 126 (0, 0)) → B ≤ q → some q ≠ (Value.slice so j sc).ownBlock → (w9.setCell ⟨k, 4, none⟩ v).heap[q]? = some (.cells #[.pointer none, .slice none 0 0, .slice none 0 0, .string s] 126 (0, 0)) ∧ B ≤ q ∧ some q ≠ (Value.slice (some ⟨g, 0, none⟩) (j + 1) cap).ownBlock := by
    intro q s hq hB hne
    have hlt : q < w8.heap.size := (Array.getElem?_eq_some_iff.1 hq).1
    refine ⟨(Below.heap_setCell _ _ _ _ (show q ≠ k by omega)).trans ((hgrow.block q (by simp; omega) hne).trans ((Below.heap_alloc w8 _ q hlt).trans hq)), hB, fun e => ?_⟩
    have e2 : q = g := Option.some.inj e
    rcases hat with h | h
    · exact hne (by rw [h, e2])
    · simp at h
      omega
  refine ⟨ks ++ [k8], ?_, fun i q s hq hss => ?_⟩
  · rw [List.map_append]
    exact hown.kept ⟨rfl, rfl, rfl, by simp [World.setCell], fun i hi hne => Below.heap_setCell _ _ _ _ (fun e => hne (by rw [e]))⟩ (row := some k) (Or.inr (by simp [Value.ownBlock]; omega))
  · by_cases hi : i < j
    · rw [List.getElem?_append_left (by omega)] at hq
      obtain ⟨a, b, c⟩ := hks i q s hq hss
      exact one q s a b c
    · have hil := (List.getElem?_eq_some_iff.1 hq).1
      simp at hil
      obtain rfl : i = j := by omega
      rw [List.getElem?_append_right (by omega), hl] at hq
      simp at hq
      subst hq
      rw [hs] at hss
      cases hss
      exact one _ _ h8 hB8 hn8

set_option maxHeartbeats 1000000 in
set_option maxRecDepth 100000 in
theorem tcBuf_any (tb rb cap p : Nat) (B : By) (ps : List Nat) (hb : BaseOf B p ps) (w : World) (h : TabIn w tb 0 rb cap B p) (ht : TabAt B p ps) (y : Nat) (hy : ps.getD 1 0 = y) (hy0 : y ≠ 0) (yl : y < 65536) (yq : y + p + 4 ≤ B.length) (yd : Nat) (hyd : leAt B (y + p) 4 = yd) (hyz : y + p + yd < B.length) (s : ByteArray) (hI : IdentAt B (y + p + yd) s) (v : Nat) (hv : ps.getD 2 0 = v) (hv0 : v ≠ 0) (vl : v < 65536) (vq : v + p + 4 ≤ B.length) (vd : Nat) (hvd : leAt B (v + p) 4 = vd) (n : Nat) (hvn : leAt B (v + p + vd) 4 = n) (hvz : v + p + vd + 4 + 4 * n ≤ B.length) (hn : n ≤ 1000) (ss : List ByteArray) (hss : ss.length = n) (hK : ∀ i s, ss[i]? = some s → ∃ d, leAt B (v + p + vd + 4 + 4 * i) 4 = d ∧ v + p + vd + 4 + 4 * i + d < B.length ∧ IdentAt B (v + p + vd + 4 + 4 * i + d) s) :
    Calls Tryz.prog 45 #[.agg #[.pointer none, .slice none 0 0, .slice none 0 0, .pointer none, .slice none 0 0], .pointer (some ⟨tb, 0, none⟩)] w fun e w' => ∃ k k4 so sc, e = .returned (.pointer (some ⟨k, 0, none⟩)) ∧ w.heap.size ≤ k ∧ w.heap.size ≤ k4 ∧ k4 ≠ k ∧ w'.heap[k4]? = some (.cells #[.pointer none, .slice none 0 0, .slice none 0 0, .string s] 126 (0, 0)) ∧ w'.heap[k]? = some (.cells #[.pointer none, .slice none 0 0, .slice none 0 0, .pointer (some ⟨k4, 0, none⟩), .slice so n sc] 100 (0, 0)) ∧ IdList (w.heap.size + 1) (.slice so n sc) n ss w' ∧ Below w.heap.size w w' := by
  go_enter Tryz.func45, Tryz.ntmps45
  go_upto_region 1 with fail
  have HT0 := Lib.hid h
  obtain ⟨i0, hi, hz0, hz1, hz2⟩ := info_parts infoPI
  have htb : tb < w.heap.size := World.block_lt_of_cell? w _ h.hs
  have hrb : rb < w.heap.size := h.hi.lt (by have := h.hq; omega)
  have HBA := Lib.hid (Below.alloc (Below.refl w.heap.size w) (Nat.le_refl _) (.cells #[.pointer none, .slice none 0 0, .slice none 0 0, .pointer none, .slice none 0 0] 100))
  have hsz : w.heap.size < (w.alloc (.cells #[.pointer none, .slice none 0 0, .slice none 0 0, .pointer none, .slice none 0 0] 100)).heap.size := by simp
  have hcell : (w.alloc (.cells #[.pointer none, .slice none 0 0, .slice none 0 0, .pointer none, .slice none 0 0] 100)).heap[w.heap.size]? = some (.cells #[.pointer none, .slice none 0 0, .slice none 0 0, .pointer none, .slice none 0 0] 100 (0, 0)) := by
    show (w.heap.push _)[w.heap.size]? = _
    simp
  obtain ⟨k, hk⟩ : ∃ k, k = w.heap.size := ⟨_, rfl⟩
  rw [← hk] at hsz hcell ⊢
  have HK := Lib.hid hk
  clear hk
  generalize w.alloc (.cells #[.pointer none, .slice none 0 0, .slice none 0 0, .pointer none, .slice none 0 0] 100) = U at *
  have hn : U.cell? ⟨k, 0, none⟩ = some (.pointer none) := cell_of_heap hcell 0
  have hf : U.frozen? ⟨k, 0, none⟩ = false := frozen_of_heap hcell 0
  have HC := Lib.hid hcell
  have HT := Lib.hid (h.below HBA.out htb hrb)
  have htU : tb < U.heap.size := Nat.lt_of_lt_of_le htb HBA.out.size
  have hrU : rb < U.heap.size := Nat.lt_of_lt_of_le hrb HBA.out.size
  clear hcell h
  go_wp2_with fail
  cases hb with
  | none hx =>
    refine (TypeConstraint_BaseNode_none tb rb cap p B ps hx U HT.out ht).mono ?_
    rintro e w1 ⟨rfl, m, rfl⟩
    go_wp2_with fail
    refine (base_none k 0 _).mono ?_
    rintro e w2 ⟨rfl, rfl⟩
    have HCV : Hid ((U.drewN m).heap[k]? = some (.cells #[.pointer none, .slice none 0 0, .slice none 0 0, .pointer none, .slice none 0 0] 100 (0, 0))) := HC
    have HTV := Lib.hid (HT.out.drew m)
    have HBV := Lib.hid (below_drewN' (Below.refl U.heap.size U) m)
    clear hn hf
    generalize U.drewN m = V at *
    go_wp2_with fail
    refine (TypeConstraint_Tvar tb rb cap p B ps y hy hy0 _ HTV.out ht yl yq yd hyd hyz).mono ?_
    rintro e w3 ⟨k3, rfl, hk3, hT3, hb3⟩
    have HT3 := Lib.hid hT3
    have HB3 := Lib.hid (HBV.out.trans (hb3.mono HBV.out.size))
    clear hT3 hb3
    go_wp2_with fail
    refine (ident_at k3 rb cap (y + p + yd) B s hI w3 HT3.out).mono ?_
    rintro e w4 ⟨k4, rfl, hk4, hc4, hb4⟩
    have HC4 := Lib.hid hc4
    have HB4 := Lib.hid (HB3.out.trans (hb4.mono HB3.out.size))
    have hkU : U.heap.size ≤ k4 := Nat.le_trans HB3.out.size hk4
    have HCW := Lib.hid ((HB4.out.block k hsz).trans HC.out)
    have n3 := cell_of_heap HCW.out 3
    have f3 := frozen_of_heap HCW.out 3
    clear hc4 hb4
    go_wp2_with fail
    have hck : (w4.setCell ⟨k, 3, none⟩ (.pointer (some ⟨k4, 0, none⟩))).heap[k]? = some (.cells #[.pointer none, .slice none 0 0, .slice none 0 0, .pointer (some ⟨k4, 0, none⟩), .slice none 0 0] 100 (0, 0)) := set_heap HCW.out 3 _
    have hc4 : (w4.setCell ⟨k, 3, none⟩ (.pointer (some ⟨k4, 0, none⟩))).heap[k4]? = some (.cells #[.pointer none, .slice none 0 0, .slice none 0 0, .string s] 126 (0, 0)) := (Below.heap_setCell _ _ _ _ (show k4 ≠ k by omega)).trans HC4.out
    have hbz : Below w.heap.size w (w4.setCell ⟨k, 3, none⟩ (.pointer (some ⟨k4, 0, none⟩))) := (HBA.out.trans (HB4.out.mono HBA.out.size)).setCell (p := ⟨k, 3, none⟩) (Nat.le_of_eq HK.out.symm) _
    have hk4 : k + 1 ≤ k4 := by omega
    generalize w4.setCell ⟨k, 3, none⟩ (.pointer (some ⟨k4, 0, none⟩)) = Z at *
    have HCK := Lib.hid hck
    have HCK4 := Lib.hid hc4
    have HBZ := Lib.hid hbz
    have HSS := Lib.hid hss
    have HKI := Lib.hid hK
    clear n3 f3 hck hc4 hbz hss hK HT HTV HBV HCV HT3 HC4 HCW HB3
    go_loopg [5] n (fun gk i wr => ∃ (j : Nat) (so : Option Addr) (sc : Nat), j ≤ n ∧ gk = n - j ∧ i = .int .i64 (j : Nat) ∧ Hid (wr.heap[k]? = some (.cells #[.pointer none, .slice none 0 0, .slice none 0 0, .pointer (some ⟨k4, 0, none⟩), .slice so j sc] 100 (0, 0))) ∧ Hid (wr.heap[k4]? = some (.cells #[.pointer none, .slice none 0 0, .slice none 0 0, .string s] 126 (0, 0)) ∧ some k4 ≠ (Value.slice so j sc).ownBlock) ∧ Hid (IdList (w.heap.size + 1) (.slice so j sc) j ss wr) ∧ Hid (Below w.heap.size w wr))
    case atStart => exact ⟨0, none, 0, by omega, rfl, rfl, HCK, Lib.hid ⟨HCK4.out, by simp [Value.ownBlock]⟩, Lib.hid ⟨[], ⟨rfl, Or.inl ⟨rfl, rfl⟩⟩, by intro i k s h; simp at h⟩, HBZ⟩
    case round =>
      obtain ⟨j, so, sc, hj, hgk, rfl, HCj, HC4j, HIj, HBj⟩ := hrel
      have HGK := Lib.hid hgk
      clear hgk
      by_cases hjn : j < n
      · have hjI : (j : Int) < (n : Int) := by omega
        obtain ⟨sj, hsj⟩ : ∃ sj, ss[j]? = some sj := ⟨ss[j]'(by have := HSS.out; omega), List.getElem?_eq_getElem _⟩
        obtain ⟨dj, hdj, hdz, hIdj⟩ := HKI.out j sj hsj
        have HSJ := Lib.hid hsj
        have HIDJ := Lib.hid hIdj
        clear hsj hIdj
        have HTj := Lib.hid (HT0.out.below HBj.out htb hrb)
        go_wp2_with fail
        refine (TypeConstraint_KindsLength tb rb cap p B ps v hv hv0 _ HTj.out ht vl vq vd n hvd (by omega) hvn).mono ?_
        rintro e w5 ⟨rfl, m5, rfl⟩
        have hb5 := below_drewN' (Below.refl wr.heap.size wr) m5
        have HI5 := Lib.hid (HIj.out.below hb5 (Nat.le_refl _))
        have HC5 := Lib.hid ((hb5.block k (Array.getElem?_eq_some_iff.1 HCj.out).1).trans HCj.out)
        have HC45 := Lib.hid ((hb5.block k4 (Array.getElem?_eq_some_iff.1 HC4j.out.1).1).trans HC4j.out.1)
        have HB5 := Lib.hid (HBj.out.trans (hb5.mono HBj.out.size))
        have hkV : k < (wr.drewN m5).heap.size := (Array.getElem?_eq_some_iff.1 HC5.out).1
        have hk4V : k4 < (wr.drewN m5).heap.size := (Array.getElem?_eq_some_iff.1 HC45.out).1
        have htbV : tb < (wr.drewN m5).heap.size := Nat.lt_of_lt_of_le htb HB5.out.size
        have hrbV : rb < (wr.drewN m5).heap.size := Nat.lt_of_lt_of_le hrb HB5.out.size
        clear hb5
        generalize wr.drewN m5 = V5 at *
        go_upto_region 7 with fail
        obtain ⟨ka0, ka1, kf0, kf1⟩ := two_new V5 (.slice none 0 0) (.int .u32 0) 291
        have hbA : Below V5.heap.size V5 (V5.alloc (.cells #[.slice none 0 0, .int .u32 0] 291)) := (Below.refl _ _).alloc (Nat.le_refl _) _
        have HCA := Lib.hid ((hbA.block k hkV).trans HC5.out)
        have HC4A := Lib.hid ((hbA.block k4 hk4V).trans HC45.out)
        have HBA5 := Lib.hid (HB5.out.trans (hbA.mono HB5.out.size))
        have hidA : V5.heap.size < (V5.alloc (.cells #[.slice none 0 0, .int .u32 0] 291)).heap.size := by simp
        obtain ⟨id, hid⟩ : ∃ id, id = V5.heap.size := ⟨_, rfl⟩
        have hrk : rb ≠ id := by omega
        have htk : tb < id := by omega
        have hkid : k < id := by omega
        have hk4id : k4 < id := by omega
        have hwid : w.heap.size ≤ id := by have := HB5.out.size; omega
        have HID := Lib.hid hid
        rw [← hid] at ka0 ka1 kf0 kf1 hidA hbA ⊢
        have HBI := Lib.hid hbA
        have HII : Hid (∀ g, (Value.slice so j sc).ownBlock = some g → g < id) := Lib.hid fun g hg => by
          obtain ⟨ks, h1, -⟩ := HI5.out
          have := (World.ownsRow.lt h1 g hg).2
          omega
        clear hid hbA hkV hk4V htbV hrbV
        generalize V5.alloc (.cells #[.slice none 0 0, .int .u32 0] 291) = V6 at *
        have HT6 := Lib.hid (HT0.out.below HBA5.out htb hrb)
        go_wp2_with fail
        refine (TypeConstraint_Kinds tb rb cap p B ps v hv hv0 _ HT6.out ht vl vq vd hvd (by omega) j (by omega) dj hdj hdz id _ _ ka0 ka1 kf0 kf1 hrk htk).mono ?_
        rintro e w7 ⟨rfl, hT7, hb7⟩
        clear ka0 ka1 kf0 kf1
        have HT7 := Lib.hid hT7
        have HB7 := Lib.hid (HBA5.out.trans (hb7.mono hwid))
        have HC7 := Lib.hid ((hb7.block k hkid).trans HCA.out)
        have HC47 := Lib.hid ((hb7.block k4 hk4id).trans HC4A.out)
        have HI7 := Lib.hid (HI5.out.below (HBI.out.trans hb7) (Nat.le_of_eq HID.out.symm))
        have hz7 : id < w7.heap.size := Nat.lt_of_lt_of_le hidA hb7.size
        clear hb7 hT7
        go_upto_region 9 with fail
        have n4 := cell_of_heap HC7.out 4
        have f4 := frozen_of_heap HC7.out 4
        have hkw7 : k < w7.heap.size := (Array.getElem?_eq_some_iff.1 HC7.out).1
        have HWZ := Lib.hid (show w.heap.size + 1 ≤ w7.heap.size by have := HK.out; omega)
        have HTD := Lib.hid (HT7.out.below ((Below.refl w7.heap.size w7).drew) hz7 (by omega))
        go_region_law (first
          | (rw [if_pos (by rfl)]; go_simp; go_at_call 90; refine (ident_at id rb cap _ B sj HIDJ.out _ HTD.out).mono ?_; rintro e w8 ⟨k8, rfl, hk8, hc8, hb8⟩; have HK8 := Lib.hid hk8; have HC8 := Lib.hid hc8; have HB8 := Lib.hid hb8; have kk8 : ∀ z, w8.cell? ⟨k, z, none⟩ = w7.drew.cell? ⟨k, z, none⟩ := fun z => hb8.cell (p := ⟨k, z, none⟩) hkw7; have kf8 : ∀ z, w8.frozen? ⟨k, z, none⟩ = w7.drew.frozen? ⟨k, z, none⟩ := fun z => hb8.frozen (p := ⟨k, z, none⟩) hkw7; have HI8 := Lib.hid (HI7.out.below ((Below.refl w7.heap.size w7).drew.trans hb8) (Nat.le_refl _)); obtain ⟨ks, hown8, hks8⟩ := HI8.out; have HKS8 := Lib.hid hks8; have HOW := Lib.hid (hown8.alloc (.cells #[.pointer (some ⟨k8, 0, none⟩)] 77)); have hz8 : w7.heap.size ≤ w8.heap.size := hb8.size; have hkne8 : ¬ k = w8.heap.size := (by omega); have hkne9 : ¬ w8.heap.size = k := (by omega); have kA8 : (w8.alloc (.cells #[.pointer (some ⟨k8, 0, none⟩)] 77)).cell? ⟨k, 4, none⟩ = some (.slice so j sc) := (World.cell?_of_block (Below.heap_alloc w8 _ k (by omega))).trans ((kk8 4).trans n4); have HNE : Hid (some k ≠ (Value.slice so j sc).ownBlock) := Lib.hid (fun e => by have := (World.ownsRow.lt hown8 k e.symm).1; have := HK.out; omega); clear hk8 hc8 hb8 hks8 hown8; dsimp only)
          | (refine step_append_lies _ rfl _ _ 98 rfl (w.heap.size + 1) 77 i0 (.pointer none) 1 8 undPI hi hz0 hz1 hz2 rfl (by decide) (.slice so j sc) j _ rfl HOW.out ⟨w8.heap.size, 0, none⟩ 1 1 [.pointer (some ⟨k8, 0, none⟩)] rfl rfl (one_new _ _ _) (by intro u hu; simp at hu; subst hu; rfl) (by decide) (by unfold maxLen; omega) (by omega) (by have := HWZ.out; simp; omega) _ rfl ?_; intro g cap2 w9 hown9 hgrow hat hglt; have y4 := (hgrow.cell_far ⟨k, 4, none⟩ (show k < (w8.alloc (.cells #[.pointer (some ⟨k8, 0, none⟩)] 77)).heap.size by simp; omega) HNE.out).trans ((World.cell?_of_block (Below.heap_alloc w8 _ k (by omega))).trans (kk8 4)); have yf4 := (hgrow.frozen_far ⟨k, 4, none⟩ (show k < (w8.alloc (.cells #[.pointer (some ⟨k8, 0, none⟩)] 77)).heap.size by simp; omega) HNE.out).trans ((World.frozen?_of_block (Below.heap_alloc w8 _ k (by omega))).trans (kf8 4))))
        all_goals
          have hkA : k < (w8.alloc (.cells #[.pointer (some ⟨k8, 0, none⟩)] 77)).heap.size := by simp; omega
          have hk4w7 : k4 < w7.heap.size := (Array.getElem?_eq_some_iff.1 HC47.out).1
          have hb78 : Below w7.heap.size w7 w8 := (Below.refl w7.heap.size w7).drew.trans HB8.out
          have h9k := (hgrow.block k hkA HNE.out).trans ((Below.heap_alloc w8 _ k (by omega)).trans ((hb78.block k hkw7).trans HC7.out))
          have h9k4 := (hgrow.block k4 (by simp; omega) HC4j.out.2).trans ((Below.heap_alloc w8 _ k4 (by omega)).trans ((hb78.block k4 hk4w7).trans HC47.out))
          have hn8 : some k8 ≠ (Value.slice so j sc).ownBlock := fun e => by
            obtain ⟨_, h1, -⟩ := HI7.out
            have := (World.ownsRow.lt h1 k8 e.symm).2
            have := HK8.out
            simp at this
            omega
          have hB8' : w.heap.size + 1 ≤ k8 := by
            have := HK8.out
            have := HWZ.out
            simp at *
            omega
          have HNX := Lib.hid (IdList.next (k := k) (.slice (some ⟨g, 0, none⟩) (j + 1 : Nat) cap2) HKS8.out HSJ.out HC8.out hB8' hn8 hown9 hgrow (hat.imp (fun h => h) (fun h => by simpa using h)) (by have := HK.out; omega))
          have HK9 := Lib.hid (set_heap h9k 4 (.slice (some ⟨g, 0, none⟩) (j + 1 : Nat) cap2))
          have HK49 := Lib.hid ((Below.heap_setCell w9 ⟨k, 4, none⟩ (.slice (some ⟨g, 0, none⟩) (j + 1 : Nat) cap2) _ (show k4 ≠ k by omega)).trans h9k4)
          have hg4 : some k4 ≠ (Value.slice (some ⟨g, 0, none⟩) (j + 1) cap2).ownBlock := fun e => by
            have e2 : k4 = g := Option.some.inj e
            rcases hat with h | h
            · exact HC4j.out.2 (by rw [h, e2])
            · simp at h; omega
          have HG4 := Lib.hid hg4
          have HB9 := Lib.hid ((((HB7.out.trans (hb78.mono HB7.out.size)).alloc (Nat.le_trans HB7.out.size hz8) (.cells #[.pointer (some ⟨k8, 0, none⟩)] 77)).grown hgrow (Nat.le_trans HB7.out.size (by simp; omega)) (fun q hq => by have := (World.ownsRow.lt HOW.out q hq).1; omega)).setCell (p := ⟨k, 4, none⟩) (Nat.le_of_eq HK.out.symm) (.slice (some ⟨g, 0, none⟩) (j + 1 : Nat) cap2))
          clear hkA hk4w7 hb78 h9k h9k4 hn8 hB8' hg4 hown9 hgrow hat kk8 kf8 y4 yf4 kA8 n4 f4
          go_wp2_with fail
          go_roundg (n - (j + 1))
          case measure => have := HGK.out; omega
          case rel => exact ⟨j + 1, some ⟨g, 0, none⟩, cap2, by omega, rfl, by go_num, HK9, Lib.hid ⟨HK49.out, HG4.out⟩, HNX, HB9⟩
      · obtain rfl : j = n := by omega
        have HTj := Lib.hid (HT0.out.below HBj.out htb hrb)
        go_wp2_with fail
        refine (TypeConstraint_KindsLength tb rb cap p B ps v hv hv0 _ HTj.out ht vl vq vd j hvd (by omega) hvn).mono ?_
        rintro e w5 ⟨rfl, m5, rfl⟩
        have hb5 := below_drewN' (Below.refl wr.heap.size wr) m5
        have HI5 := Lib.hid (HIj.out.below hb5 (Nat.le_refl _))
        have HC5 := Lib.hid ((hb5.block k (Array.getElem?_eq_some_iff.1 HCj.out).1).trans HCj.out)
        have HC45 := Lib.hid ((hb5.block k4 (Array.getElem?_eq_some_iff.1 HC4j.out.1).1).trans HC4j.out.1)
        have HB5 := Lib.hid (HBj.out.trans (hb5.mono HBj.out.size))
        clear hb5
        generalize wr.drewN m5 = V5 at *
        go_wp2_with fail
        go_ret
        exact ⟨k, k4, so, sc, rfl, Nat.le_of_eq HK.out.symm, Nat.le_trans HBA.out.size hkU, by omega, HC45.out, HC5.out, HI5.out, HB5.out⟩
  | some x d d' hx h0 hl hq hd hz hb =>
    refine (TypeConstraint_BaseNode tb rb cap p B ps x hx h0 U HT.out ht hl hq d hd hz).mono ?_
    rintro e w1 ⟨k1, rfl, hk1, hT1, hb1⟩
    have HT1 := Lib.hid hT1
    have HB1 := Lib.hid hb1
    have hn1 : w1.cell? ⟨k, 0, none⟩ = some (.pointer none) := (hb1.cell (p := ⟨k, 0, none⟩) hsz).trans hn
    have hf1 : w1.frozen? ⟨k, 0, none⟩ = false := (hb1.frozen (p := ⟨k, 0, none⟩) hsz).trans hf
    clear hT1 hb1 hn hf
    go_wp2_with fail
    refine (base_some k 0 k1 rb cap (x + p + d) d' B hb w1 HT1.out hn1 hf1).mono ?_
    rintro e w2 ⟨rfl, hb2⟩
    have HBV := Lib.hid (HB1.out.trans (hb2.mono HB1.out.size))
    clear hb2 hn1 hf1
    have HCV := Lib.hid ((HBV.out.block k hsz).trans HC.out)
    have HTV := Lib.hid (HT.out.below HBV.out htU hrU)
    go_wp2_with fail
    refine (TypeConstraint_Tvar tb rb cap p B ps y hy hy0 _ HTV.out ht yl yq yd hyd hyz).mono ?_
    rintro e w3 ⟨k3, rfl, hk3, hT3, hb3⟩
    have HT3 := Lib.hid hT3
    have HB3 := Lib.hid (HBV.out.trans (hb3.mono HBV.out.size))
    clear hT3 hb3
    go_wp2_with fail
    refine (ident_at k3 rb cap (y + p + yd) B s hI w3 HT3.out).mono ?_
    rintro e w4 ⟨k4, rfl, hk4, hc4, hb4⟩
    have HC4 := Lib.hid hc4
    have HB4 := Lib.hid (HB3.out.trans (hb4.mono HB3.out.size))
    have hkU : U.heap.size ≤ k4 := Nat.le_trans HB3.out.size hk4
    have HCW := Lib.hid ((HB4.out.block k hsz).trans HC.out)
    have n3 := cell_of_heap HCW.out 3
    have f3 := frozen_of_heap HCW.out 3
    clear hc4 hb4
    go_wp2_with fail
    have hck : (w4.setCell ⟨k, 3, none⟩ (.pointer (some ⟨k4, 0, none⟩))).heap[k]? = some (.cells #[.pointer none, .slice none 0 0, .slice none 0 0, .pointer (some ⟨k4, 0, none⟩), .slice none 0 0] 100 (0, 0)) := set_heap HCW.out 3 _
    have hc4 : (w4.setCell ⟨k, 3, none⟩ (.pointer (some ⟨k4, 0, none⟩))).heap[k4]? = some (.cells #[.pointer none, .slice none 0 0, .slice none 0 0, .string s] 126 (0, 0)) := (Below.heap_setCell _ _ _ _ (show k4 ≠ k by omega)).trans HC4.out
    have hbz : Below w.heap.size w (w4.setCell ⟨k, 3, none⟩ (.pointer (some ⟨k4, 0, none⟩))) := (HBA.out.trans (HB4.out.mono HBA.out.size)).setCell (p := ⟨k, 3, none⟩) (Nat.le_of_eq HK.out.symm) _
    have hk4 : k + 1 ≤ k4 := by omega
    generalize w4.setCell ⟨k, 3, none⟩ (.pointer (some ⟨k4, 0, none⟩)) = Z at *
    have HCK := Lib.hid hck
    have HCK4 := Lib.hid hc4
    have HBZ := Lib.hid hbz
    have HSS := Lib.hid hss
    have HKI := Lib.hid hK
    clear n3 f3 hck hc4 hbz hss hK HT HTV HBV HCV HT3 HC4 HCW HB3
    go_loopg [5] n (fun gk i wr => ∃ (j : Nat) (so : Option Addr) (sc : Nat), j ≤ n ∧ gk = n - j ∧ i = .int .i64 (j : Nat) ∧ Hid (wr.heap[k]? = some (.cells #[.pointer none, .slice none 0 0, .slice none 0 0, .pointer (some ⟨k4, 0, none⟩), .slice so j sc] 100 (0, 0))) ∧ Hid (wr.heap[k4]? = some (.cells #[.pointer none, .slice none 0 0, .slice none 0 0, .string s] 126 (0, 0)) ∧ some k4 ≠ (Value.slice so j sc).ownBlock) ∧ Hid (IdList (w.heap.size + 1) (.slice so j sc) j ss wr) ∧ Hid (Below w.heap.size w wr))
    case atStart => exact ⟨0, none, 0, by omega, rfl, rfl, HCK, Lib.hid ⟨HCK4.out, by simp [Value.ownBlock]⟩, Lib.hid ⟨[], ⟨rfl, Or.inl ⟨rfl, rfl⟩⟩, by intro i k s h; simp at h⟩, HBZ⟩
    case round =>
      obtain ⟨j, so, sc, hj, hgk, rfl, HCj, HC4j, HIj, HBj⟩ := hrel
      have HGK := Lib.hid hgk
      clear hgk
      by_cases hjn : j < n
      · have hjI : (j : Int) < (n : Int) := by omega
        obtain ⟨sj, hsj⟩ : ∃ sj, ss[j]? = some sj := ⟨ss[j]'(by have := HSS.out; omega), List.getElem?_eq_getElem _⟩
        obtain ⟨dj, hdj, hdz, hIdj⟩ := HKI.out j sj hsj
        have HSJ := Lib.hid hsj
        have HIDJ := Lib.hid hIdj
        clear hsj hIdj
        have HTj := Lib.hid (HT0.out.below HBj.out htb hrb)
        go_wp2_with fail
        refine (TypeConstraint_KindsLength tb rb cap p B ps v hv hv0 _ HTj.out ht vl vq vd n hvd (by omega) hvn).mono ?_
        rintro e w5 ⟨rfl, m5, rfl⟩
        have hb5 := below_drewN' (Below.refl wr.heap.size wr) m5
        have HI5 := Lib.hid (HIj.out.below hb5 (Nat.le_refl _))
        have HC5 := Lib.hid ((hb5.block k (Array.getElem?_eq_some_iff.1 HCj.out).1).trans HCj.out)
        have HC45 := Lib.hid ((hb5.block k4 (Array.getElem?_eq_some_iff.1 HC4j.out.1).1).trans HC4j.out.1)
        have HB5 := Lib.hid (HBj.out.trans (hb5.mono HBj.out.size))
        have hkV : k < (wr.drewN m5).heap.size := (Array.getElem?_eq_some_iff.1 HC5.out).1
        have hk4V : k4 < (wr.drewN m5).heap.size := (Array.getElem?_eq_some_iff.1 HC45.out).1
        have htbV : tb < (wr.drewN m5).heap.size := Nat.lt_of_lt_of_le htb HB5.out.size
        have hrbV : rb < (wr.drewN m5).heap.size := Nat.lt_of_lt_of_le hrb HB5.out.size
        clear hb5
        generalize wr.drewN m5 = V5 at *
        go_upto_region 7 with fail
        obtain ⟨ka0, ka1, kf0, kf1⟩ := two_new V5 (.slice none 0 0) (.int .u32 0) 291
        have hbA : Below V5.heap.size V5 (V5.alloc (.cells #[.slice none 0 0, .int .u32 0] 291)) := (Below.refl _ _).alloc (Nat.le_refl _) _
        have HCA := Lib.hid ((hbA.block k hkV).trans HC5.out)
        have HC4A := Lib.hid ((hbA.block k4 hk4V).trans HC45.out)
        have HBA5 := Lib.hid (HB5.out.trans (hbA.mono HB5.out.size))
        have hidA : V5.heap.size < (V5.alloc (.cells #[.slice none 0 0, .int .u32 0] 291)).heap.size := by simp
        obtain ⟨id, hid⟩ : ∃ id, id = V5.heap.size := ⟨_, rfl⟩
        have hrk : rb ≠ id := by omega
        have htk : tb < id := by omega
        have hkid : k < id := by omega
        have hk4id : k4 < id := by omega
        have hwid : w.heap.size ≤ id := by have := HB5.out.size; omega
        have HID := Lib.hid hid
        rw [← hid] at ka0 ka1 kf0 kf1 hidA hbA ⊢
        have HBI := Lib.hid hbA
        have HII : Hid (∀ g, (Value.slice so j sc).ownBlock = some g → g < id) := Lib.hid fun g hg => by
          obtain ⟨ks, h1, -⟩ := HI5.out
          have := (World.ownsRow.lt h1 g hg).2
          omega
        clear hid hbA hkV hk4V htbV hrbV
        generalize V5.alloc (.cells #[.slice none 0 0, .int .u32 0] 291) = V6 at *
        have HT6 := Lib.hid (HT0.out.below HBA5.out htb hrb)
        go_wp2_with fail
        refine (TypeConstraint_Kinds tb rb cap p B ps v hv hv0 _ HT6.out ht vl vq vd hvd (by omega) j (by omega) dj hdj hdz id _ _ ka0 ka1 kf0 kf1 hrk htk).mono ?_
        rintro e w7 ⟨rfl, hT7, hb7⟩
        clear ka0 ka1 kf0 kf1
        have HT7 := Lib.hid hT7
        have HB7 := Lib.hid (HBA5.out.trans (hb7.mono hwid))
        have HC7 := Lib.hid ((hb7.block k hkid).trans HCA.out)
        have HC47 := Lib.hid ((hb7.block k4 hk4id).trans HC4A.out)
        have HI7 := Lib.hid (HI5.out.below (HBI.out.trans hb7) (Nat.le_of_eq HID.out.symm))
        have hz7 : id < w7.heap.size := Nat.lt_of_lt_of_le hidA hb7.size
        clear hb7 hT7
        go_upto_region 9 with fail
        have n4 := cell_of_heap HC7.out 4
        have f4 := frozen_of_heap HC7.out 4
        have hkw7 : k < w7.heap.size := (Array.getElem?_eq_some_iff.1 HC7.out).1
        have HWZ := Lib.hid (show w.heap.size + 1 ≤ w7.heap.size by have := HK.out; omega)
        have HTD := Lib.hid (HT7.out.below ((Below.refl w7.heap.size w7).drew) hz7 (by omega))
        go_region_law (first
          | (rw [if_pos (by rfl)]; go_simp; go_at_call 90; refine (ident_at id rb cap _ B sj HIDJ.out _ HTD.out).mono ?_; rintro e w8 ⟨k8, rfl, hk8, hc8, hb8⟩; have HK8 := Lib.hid hk8; have HC8 := Lib.hid hc8; have HB8 := Lib.hid hb8; have kk8 : ∀ z, w8.cell? ⟨k, z, none⟩ = w7.drew.cell? ⟨k, z, none⟩ := fun z => hb8.cell (p := ⟨k, z, none⟩) hkw7; have kf8 : ∀ z, w8.frozen? ⟨k, z, none⟩ = w7.drew.frozen? ⟨k, z, none⟩ := fun z => hb8.frozen (p := ⟨k, z, none⟩) hkw7; have HI8 := Lib.hid (HI7.out.below ((Below.refl w7.heap.size w7).drew.trans hb8) (Nat.le_refl _)); obtain ⟨ks, hown8, hks8⟩ := HI8.out; have HKS8 := Lib.hid hks8; have HOW := Lib.hid (hown8.alloc (.cells #[.pointer (some ⟨k8, 0, none⟩)] 77)); have hz8 : w7.heap.size ≤ w8.heap.size := hb8.size; have hkne8 : ¬ k = w8.heap.size := (by omega); have hkne9 : ¬ w8.heap.size = k := (by omega); have kA8 : (w8.alloc (.cells #[.pointer (some ⟨k8, 0, none⟩)] 77)).cell? ⟨k, 4, none⟩ = some (.slice so j sc) := (World.cell?_of_block (Below.heap_alloc w8 _ k (by omega))).trans ((kk8 4).trans n4); have HNE : Hid (some k ≠ (Value.slice so j sc).ownBlock) := Lib.hid (fun e => by have := (World.ownsRow.lt hown8 k e.symm).1; have := HK.out; omega); clear hk8 hc8 hb8 hks8 hown8; dsimp only)
          | (refine step_append_lies _ rfl _ _ 98 rfl (w.heap.size + 1) 77 i0 (.pointer none) 1 8 undPI hi hz0 hz1 hz2 rfl (by decide) (.slice so j sc) j _ rfl HOW.out ⟨w8.heap.size, 0, none⟩ 1 1 [.pointer (some ⟨k8, 0, none⟩)] rfl rfl (one_new _ _ _) (by intro u hu; simp at hu; subst hu; rfl) (by decide) (by unfold maxLen; omega) (by omega) (by have := HWZ.out; simp; omega) _ rfl ?_; intro g cap2 w9 hown9 hgrow hat hglt; have y4 := (hgrow.cell_far ⟨k, 4, none⟩ (show k < (w8.alloc (.cells #[.pointer (some ⟨k8, 0, none⟩)] 77)).heap.size by simp; omega) HNE.out).trans ((World.cell?_of_block (Below.heap_alloc w8 _ k (by omega))).trans (kk8 4)); have yf4 := (hgrow.frozen_far ⟨k, 4, none⟩ (show k < (w8.alloc (.cells #[.pointer (some ⟨k8, 0, none⟩)] 77)).heap.size by simp; omega) HNE.out).trans ((World.frozen?_of_block (Below.heap_alloc w8 _ k (by omega))).trans (kf8 4))))
        all_goals
          have hkA : k < (w8.alloc (.cells #[.pointer (some ⟨k8, 0, none⟩)] 77)).heap.size := by simp; omega
          have hk4w7 : k4 < w7.heap.size := (Array.getElem?_eq_some_iff.1 HC47.out).1
          have hb78 : Below w7.heap.size w7 w8 := (Below.refl w7.heap.size w7).drew.trans HB8.out
          have h9k := (hgrow.block k hkA HNE.out).trans ((Below.heap_alloc w8 _ k (by omega)).trans ((hb78.block k hkw7).trans HC7.out))
          have h9k4 := (hgrow.block k4 (by simp; omega) HC4j.out.2).trans ((Below.heap_alloc w8 _ k4 (by omega)).trans ((hb78.block k4 hk4w7).trans HC47.out))
          have hn8 : some k8 ≠ (Value.slice so j sc).ownBlock := fun e => by
            obtain ⟨_, h1, -⟩ := HI7.out
            have := (World.ownsRow.lt h1 k8 e.symm).2
            have := HK8.out
            simp at this
            omega
          have hB8' : w.heap.size + 1 ≤ k8 := by
            have := HK8.out
            have := HWZ.out
            simp at *
            omega
          have HNX := Lib.hid (IdList.next (k := k) (.slice (some ⟨g, 0, none⟩) (j + 1 : Nat) cap2) HKS8.out HSJ.out HC8.out hB8' hn8 hown9 hgrow (hat.imp (fun h => h) (fun h => by simpa using h)) (by have := HK.out; omega))
          have HK9 := Lib.hid (set_heap h9k 4 (.slice (some ⟨g, 0, none⟩) (j + 1 : Nat) cap2))
          have HK49 := Lib.hid ((Below.heap_setCell w9 ⟨k, 4, none⟩ (.slice (some ⟨g, 0, none⟩) (j + 1 : Nat) cap2) _ (show k4 ≠ k by omega)).trans h9k4)
          have hg4 : some k4 ≠ (Value.slice (some ⟨g, 0, none⟩) (j + 1) cap2).ownBlock := fun e => by
            have e2 : k4 = g := Option.some.inj e
            rcases hat with h | h
            · exact HC4j.out.2 (by rw [h, e2])
            · simp at h; omega
          have HG4 := Lib.hid hg4
          have HB9 := Lib.hid ((((HB7.out.trans (hb78.mono HB7.out.size)).alloc (Nat.le_trans HB7.out.size hz8) (.cells #[.pointer (some ⟨k8, 0, none⟩)] 77)).grown hgrow (Nat.le_trans HB7.out.size (by simp; omega)) (fun q hq => by have := (World.ownsRow.lt HOW.out q hq).1; omega)).setCell (p := ⟨k, 4, none⟩) (Nat.le_of_eq HK.out.symm) (.slice (some ⟨g, 0, none⟩) (j + 1 : Nat) cap2))
          clear hkA hk4w7 hb78 h9k h9k4 hn8 hB8' hg4 hown9 hgrow hat kk8 kf8 y4 yf4 kA8 n4 f4
          go_wp2_with fail
          go_roundg (n - (j + 1))
          case measure => have := HGK.out; omega
          case rel => exact ⟨j + 1, some ⟨g, 0, none⟩, cap2, by omega, rfl, by go_num, HK9, Lib.hid ⟨HK49.out, HG4.out⟩, HNX, HB9⟩
      · obtain rfl : j = n := by omega
        have HTj := Lib.hid (HT0.out.below HBj.out htb hrb)
        go_wp2_with fail
        refine (TypeConstraint_KindsLength tb rb cap p B ps v hv hv0 _ HTj.out ht vl vq vd j hvd (by omega) hvn).mono ?_
        rintro e w5 ⟨rfl, m5, rfl⟩
        have hb5 := below_drewN' (Below.refl wr.heap.size wr) m5
        have HI5 := Lib.hid (HIj.out.below hb5 (Nat.le_refl _))
        have HC5 := Lib.hid ((hb5.block k (Array.getElem?_eq_some_iff.1 HCj.out).1).trans HCj.out)
        have HC45 := Lib.hid ((hb5.block k4 (Array.getElem?_eq_some_iff.1 HC4j.out.1).1).trans HC4j.out.1)
        have HB5 := Lib.hid (HBj.out.trans (hb5.mono HBj.out.size))
        clear hb5
        generalize wr.drewN m5 = V5 at *
        go_wp2_with fail
        go_ret
        exact ⟨k, k4, so, sc, rfl, Nat.le_of_eq HK.out.symm, Nat.le_trans HBA.out.size hkU, by omega, HC45.out, HC5.out, HI5.out, HB5.out⟩


end Go.Proofs.YtdljkanfebndaaaGreatDoor
