/-
  Types, read from a flatbuffer, level by level. No conditions.
-/
import Derived.Test.YtcbcdgifakcooaaGreatDoorTb
import Derived.Deep.AppendLies
import Derived.Deep.LoopGhost
import Derived.Deep.RegionLaw
import Derived.Deep.RegionHeld3
namespace Go.Proofs.YtcbcdgifakcooaaGreatDoor
open Go.RowKit
set_option linter.unusedVariables false
set_option linter.unusedSimpArgs false

/-- FromBuf's contract at one kind. -/
def FromC (F : Nat) (z : Value) (d : Nat) (K : Int) : Prop := ∀ (n : Nd) (tb rb cap p : Nat) (B : By) (w : World), n.kind = K → TyP d n → TyR d n B p → TabIn w tb 0 rb cap B p →
  Calls Tryz.prog F #[z, .pointer (some ⟨tb, 0, none⟩)] w fun e w' => ∃ k, e = .returned (.pointer (some ⟨k, 0, none⟩)) ∧ RepT (From w.heap.size) d w' n k ∧ Below w.heap.size w w'

/-- DecodeMonoType's contract. -/
def DecC (d : Nat) : Prop := ∀ (n : Nd) (tb rb cap p : Nat) (B : By) (w : World), isTyP n.kind → TyP d n → TyR d n B p → TabIn w tb 0 rb cap B p →
  Calls Tryz.prog 53 #[.pointer (some ⟨tb, 0, none⟩), .int .u8 (chT n.kind : Nat)] w fun e w' => ∃ k, e = .returned (.iface (tTy n.kind) (.pointer (some ⟨k, 0, none⟩))) ∧ RepT (From w.heap.size) d w' n k ∧ Below w.heap.size w w'

theorem carry_set (k c : Nat) (v : Value) (Z : World) : Carries (From (k + 1)) (From (k + 1)) Z (Z.setCell ⟨k, c, none⟩ v) :=
  fun b o hA hb => ⟨(Below.heap_setCell _ _ _ _ (show b ≠ k by unfold From at hA; omega)).trans hb, hA⟩
theorem IdV.mono {A A' : Nat → Prop} {w : World} {x : Nd} {v : Value} (h : IdV A w x v) (hA : ∀ b, A b → A' b) : IdV A' w x v := h.carry (fun b o h1 h2 => ⟨h2, hA b h1⟩)
theorem MayV.mono {A A' : Nat → Prop} {w : World} {x : Nd} {v : Value} (h : MayV A w x v) (hA : ∀ b, A b → A' b) : MayV A' w x v := h.carry (fun b o h1 h2 => ⟨h2, hA b h1⟩)
theorem TyV.carry {A A' : Nat → Prop} {d : Nat} {w w' : World} {x : Nd} {v : Value} (h : TyV (RepT A d) w x v) (hc : Carries A A' w w') : TyV (RepT A' d) w' x v := h.map fun k hk => hk.carry hc
theorem TyV.mono {A A' : Nat → Prop} {d : Nat} {w : World} {x : Nd} {v : Value} (h : TyV (RepT A d) w x v) (hA : ∀ b, A b → A' b) : TyV (RepT A' d) w x v := h.carry (fun b o h1 h2 => ⟨h2, hA b h1⟩)

theorem kindMap_any (c : Nat) (hc : c ≤ 2) (w : World) : Calls Tryz.prog 125 #[.int .i8 (c : Nat)] w fun e w' => e = .returned (.string (kindS (c : Nat))) ∧ w' = w := by
  have h : c = 0 ∨ c = 1 ∨ c = 2 := by omega
  rcases h with rfl | rfl | rfl
  all_goals
    go_enter Tryz.func125, Tryz.ntmps125
    go_wp2_with fail
    go_ret
    exact ⟨rfl, rfl⟩

theorem infoP50 : (Tryz.prog.info? 286).map (fun i => (i.zero, i.size, i.bytes)) = some (some (.pointer none), 1, 8) := by kernel_rfl
theorem undP50 : Tryz.prog.underlying 67 = some (.slice 286) := by kernel_rfl
theorem infoP52 : (Tryz.prog.info? 274).map (fun i => (i.zero, i.size, i.bytes)) = some (some (.pointer none), 1, 8) := by kernel_rfl
theorem undP52 : Tryz.prog.underlying 60 = some (.slice 274) := by kernel_rfl
theorem one_ptr (w : World) (v : Value) (T : TypeId) : ∀ j u, ([v] : List Value)[j]? = some u → (w.alloc (.cells #[v] T)).cell? ((⟨w.heap.size, 0, none⟩ : Addr).add j) = some u := by
  intro j u hu
  refine World.news_of_block (cs := #[v]) (t := T) (fr := (0, 0)) ?_ j u (by simpa using hu)
  show (w.heap.push _)[w.heap.size]? = _
  simp

set_option maxHeartbeats 1000000 in
set_option maxRecDepth 100000 in
theorem from_45 (d : Nat) : FromC 102 (.agg #[.pointer none, .slice none 0 0, .slice none 0 0, .pointer none]) (d + 1) 45 := by
  intro n tb rb cap p B w hk hT hR h
  obtain ⟨ps, hb, ht, r45, r47, r48, r49, r50, r51, r52⟩ := hR
  obtain ⟨x, hkx, hx⟩ := hT.k45 (.inl hk)
  have f0 := r45 (.inl hk) x hkx
  have hnum := hT.wf.2.2.2.1
  have hnum2 := hT.2.2.2.2.2.2.1
  have hsm := hT.2.2.2.1
  clear r45 r47 r48 r49 r50 r51 r52 hT
  have HT0 := Lib.hid h
  have htb : tb < w.heap.size := World.block_lt_of_cell? w _ h.hs
  have hrb : rb < w.heap.size := h.hi.lt (by have := h.hq; omega)
  go_enter Tryz.func102, Tryz.ntmps102
  go_upto_region 1 with fail
  have HBA := Lib.hid (Below.alloc (Below.refl w.heap.size w) (Nat.le_refl _) (.cells #[.pointer none, .slice none 0 0, .slice none 0 0, .pointer none] 306))
  have hsz : w.heap.size < (w.alloc (.cells #[.pointer none, .slice none 0 0, .slice none 0 0, .pointer none] 306)).heap.size := by simp
  have hcell : (w.alloc (.cells #[.pointer none, .slice none 0 0, .slice none 0 0, .pointer none] 306)).heap[w.heap.size]? = some (.cells #[.pointer none, .slice none 0 0, .slice none 0 0, .pointer none] 306 (0, 0)) := by
    show (w.heap.push _)[w.heap.size]? = _
    simp
  obtain ⟨k, hk0⟩ : ∃ k, k = w.heap.size := ⟨_, rfl⟩
  rw [← hk0] at hsz hcell ⊢
  have HK := Lib.hid hk0
  have hkz : w.heap.size ≤ k := Nat.le_of_eq hk0.symm
  clear hk0
  generalize w.alloc (.cells #[.pointer none, .slice none 0 0, .slice none 0 0, .pointer none] 306) = U at *
  have hn : U.cell? ⟨k, 0, none⟩ = some (.pointer none) := cell_of_heap hcell 0
  have hf : U.frozen? ⟨k, 0, none⟩ = false := frozen_of_heap hcell 0
  have HC := Lib.hid hcell
  have HT := Lib.hid (h.below HBA.out htb hrb)
  clear hcell h
  go_wp2_with fail
  refine (NamedType_Base tb rb cap p B ps hb U HT.out ht).mono ?_
  rintro e w1 ⟨pv, rfl, hpv, hb1⟩
  have hn1 := (hb1.cell (p := ⟨k, 0, none⟩) hsz).trans hn
  have hf1 := (hb1.frozen (p := ⟨k, 0, none⟩) hsz).trans hf
  have HPV := Lib.hid hpv
  have HB1 := Lib.hid hb1
  clear hpv hb1 hn hf
  go_wp2_with fail
  refine (base_both k rb cap B pv w1 HPV.out hn1 hf1).mono ?_
  rintro e Z0 ⟨rfl, hb2⟩
  have hbu := HB1.out.trans (hb2.mono HB1.out.size)
  have HZ0 := Lib.hid (HBA.out.trans (hbu.mono HBA.out.size))
  have HC0 := Lib.hid ((hbu.block k hsz).trans HC.out)
  have hs0 : k < Z0.heap.size := (Array.getElem?_eq_some_iff.1 HC0.out).1
  have HTZ0 := Lib.hid (HT0.out.below HZ0.out htb hrb)
  clear hb2 hn1 hf1 hbu HC HT HB1 HPV hsz
  go_wp2_with fail
  refine (NamedType_Id_may tb rb cap p B ps x (.inr ⟨hx.1, f0⟩) Z0 HTZ0.out ht).mono ?_
  rintro e a0 ⟨pv0, rfl, hp, hba⟩
  have HP0 := Lib.hid hp
  have HA0 := Lib.hid hba
  clear hp hba
  go_wp2_with fail
  refine (ident_may rb cap B x pv0 a0 HP0.out).mono ?_
  rintro e b0 ⟨po0, rfl, hv, hbb⟩
  have hbz : Below Z0.heap.size Z0 b0 := HA0.out.trans (hbb.mono HA0.out.size)
  have hv' := hv.mono (From.le (show k + 1 ≤ a0.heap.size from Nat.le_trans hs0 HA0.out.size))
  have hcz := (hbz.block k hs0).trans HC0.out
  have n3 := cell_of_heap hcz 3
  have f3z := frozen_of_heap hcz 3
  have HV0 := Lib.hid hv'
  have HBZ0 := Lib.hid (HZ0.out.trans (hbz.mono HZ0.out.size))
  have HCZ0 := Lib.hid hcz
  clear hbz hcz hv hv' hbb
  go_upto_region 3 with fail
  have hc' : (b0.setCell ⟨k, 3, none⟩ (.pointer po0)).heap[k]? = some (.cells #[.pointer none, .slice none 0 0, .slice none 0 0, .pointer po0] 306 (0, 0)) := set_heap HCZ0.out 3 _
  have hz' : Below w.heap.size w (b0.setCell ⟨k, 3, none⟩ (.pointer po0)) := HBZ0.out.setCell (p := ⟨k, 3, none⟩) hkz _
  have qHV0 := HV0.out.carry (carry_set k 3 (.pointer po0) b0)
  generalize b0.setCell ⟨k, 3, none⟩ (.pointer po0) = Z1 at *
  have HZ1 := Lib.hid hz'
  have HC1 := Lib.hid hc'
  have hs1 : k < Z1.heap.size := (Array.getElem?_eq_some_iff.1 HC1.out).1
  have HTZ1 := Lib.hid (HT0.out.below HZ1.out htb hrb)
  have QHV0 := Lib.hid qHV0
  clear hz' hc' n3 f3z qHV0
  go_wp2_with fail
  go_ret
  exact ⟨k, rfl, ⟨hkz, _, _, HC1.out, .inl ⟨hk, rfl, x, .pointer po0, hkx, rfl, (QHV0.out.mono (From.le (Nat.le_succ_of_le hkz))).id hx.1⟩⟩, HZ1.out⟩

set_option maxHeartbeats 1000000 in
set_option maxRecDepth 100000 in
theorem from_46 (d : Nat) : FromC 104 (.agg #[.pointer none, .slice none 0 0, .slice none 0 0, .pointer none]) (d + 1) 46 := by
  intro n tb rb cap p B w hk hT hR h
  obtain ⟨ps, hb, ht, r45, r47, r48, r49, r50, r51, r52⟩ := hR
  obtain ⟨x, hkx, hx⟩ := hT.k45 (.inr hk)
  have f0 := r45 (.inr hk) x hkx
  have hnum := hT.wf.2.2.2.1
  have hnum2 := hT.2.2.2.2.2.2.1
  have hsm := hT.2.2.2.1
  clear r45 r47 r48 r49 r50 r51 r52 hT
  have HT0 := Lib.hid h
  have htb : tb < w.heap.size := World.block_lt_of_cell? w _ h.hs
  have hrb : rb < w.heap.size := h.hi.lt (by have := h.hq; omega)
  go_enter Tryz.func104, Tryz.ntmps104
  go_upto_region 1 with fail
  have HBA := Lib.hid (Below.alloc (Below.refl w.heap.size w) (Nat.le_refl _) (.cells #[.pointer none, .slice none 0 0, .slice none 0 0, .pointer none] 308))
  have hsz : w.heap.size < (w.alloc (.cells #[.pointer none, .slice none 0 0, .slice none 0 0, .pointer none] 308)).heap.size := by simp
  have hcell : (w.alloc (.cells #[.pointer none, .slice none 0 0, .slice none 0 0, .pointer none] 308)).heap[w.heap.size]? = some (.cells #[.pointer none, .slice none 0 0, .slice none 0 0, .pointer none] 308 (0, 0)) := by
    show (w.heap.push _)[w.heap.size]? = _
    simp
  obtain ⟨k, hk0⟩ : ∃ k, k = w.heap.size := ⟨_, rfl⟩
  rw [← hk0] at hsz hcell ⊢
  have HK := Lib.hid hk0
  have hkz : w.heap.size ≤ k := Nat.le_of_eq hk0.symm
  clear hk0
  generalize w.alloc (.cells #[.pointer none, .slice none 0 0, .slice none 0 0, .pointer none] 308) = U at *
  have hn : U.cell? ⟨k, 0, none⟩ = some (.pointer none) := cell_of_heap hcell 0
  have hf : U.frozen? ⟨k, 0, none⟩ = false := frozen_of_heap hcell 0
  have HC := Lib.hid hcell
  have HT := Lib.hid (h.below HBA.out htb hrb)
  clear hcell h
  go_wp2_with fail
  refine (TvarType_Base tb rb cap p B ps hb U HT.out ht).mono ?_
  rintro e w1 ⟨pv, rfl, hpv, hb1⟩
  have hn1 := (hb1.cell (p := ⟨k, 0, none⟩) hsz).trans hn
  have hf1 := (hb1.frozen (p := ⟨k, 0, none⟩) hsz).trans hf
  have HPV := Lib.hid hpv
  have HB1 := Lib.hid hb1
  clear hpv hb1 hn hf
  go_wp2_with fail
  refine (base_both k rb cap B pv w1 HPV.out hn1 hf1).mono ?_
  rintro e Z0 ⟨rfl, hb2⟩
  have hbu := HB1.out.trans (hb2.mono HB1.out.size)
  have HZ0 := Lib.hid (HBA.out.trans (hbu.mono HBA.out.size))
  have HC0 := Lib.hid ((hbu.block k hsz).trans HC.out)
  have hs0 : k < Z0.heap.size := (Array.getElem?_eq_some_iff.1 HC0.out).1
  have HTZ0 := Lib.hid (HT0.out.below HZ0.out htb hrb)
  clear hb2 hn1 hf1 hbu HC HT HB1 HPV hsz
  go_wp2_with fail
  refine (TvarType_Id_may tb rb cap p B ps x (.inr ⟨hx.1, f0⟩) Z0 HTZ0.out ht).mono ?_
  rintro e a0 ⟨pv0, rfl, hp, hba⟩
  have HP0 := Lib.hid hp
  have HA0 := Lib.hid hba
  clear hp hba
  go_wp2_with fail
  refine (ident_may rb cap B x pv0 a0 HP0.out).mono ?_
  rintro e b0 ⟨po0, rfl, hv, hbb⟩
  have hbz : Below Z0.heap.size Z0 b0 := HA0.out.trans (hbb.mono HA0.out.size)
  have hv' := hv.mono (From.le (show k + 1 ≤ a0.heap.size from Nat.le_trans hs0 HA0.out.size))
  have hcz := (hbz.block k hs0).trans HC0.out
  have n3 := cell_of_heap hcz 3
  have f3z := frozen_of_heap hcz 3
  have HV0 := Lib.hid hv'
  have HBZ0 := Lib.hid (HZ0.out.trans (hbz.mono HZ0.out.size))
  have HCZ0 := Lib.hid hcz
  clear hbz hcz hv hv' hbb
  go_upto_region 3 with fail
  have hc' : (b0.setCell ⟨k, 3, none⟩ (.pointer po0)).heap[k]? = some (.cells #[.pointer none, .slice none 0 0, .slice none 0 0, .pointer po0] 308 (0, 0)) := set_heap HCZ0.out 3 _
  have hz' : Below w.heap.size w (b0.setCell ⟨k, 3, none⟩ (.pointer po0)) := HBZ0.out.setCell (p := ⟨k, 3, none⟩) hkz _
  have qHV0 := HV0.out.carry (carry_set k 3 (.pointer po0) b0)
  generalize b0.setCell ⟨k, 3, none⟩ (.pointer po0) = Z1 at *
  have HZ1 := Lib.hid hz'
  have HC1 := Lib.hid hc'
  have hs1 : k < Z1.heap.size := (Array.getElem?_eq_some_iff.1 HC1.out).1
  have HTZ1 := Lib.hid (HT0.out.below HZ1.out htb hrb)
  have QHV0 := Lib.hid qHV0
  clear hz' hc' n3 f3z qHV0
  go_wp2_with fail
  go_ret
  exact ⟨k, rfl, ⟨hkz, _, _, HC1.out, .inr (.inl ⟨hk, rfl, x, .pointer po0, hkx, rfl, (QHV0.out.mono (From.le (Nat.le_succ_of_le hkz))).id hx.1⟩)⟩, HZ1.out⟩

set_option maxHeartbeats 1000000 in
set_option maxRecDepth 100000 in
theorem from_47 (d : Nat) (hD : DecC d) : FromC 18 (.agg #[.pointer none, .slice none 0 0, .slice none 0 0, .nilIface]) (d + 1) 47 := by
  intro n tb rb cap p B w hk hT hR h
  obtain ⟨ps, hb, ht, r45, r47, r48, r49, r50, r51, r52⟩ := hR
  obtain ⟨x, hkx, tx, hx⟩ := hT.k47 hk
  have f0 := r47 hk x hkx
  have hnum := hT.wf.2.2.2.1
  have hnum2 := hT.2.2.2.2.2.2.1
  have hsm := hT.2.2.2.1
  clear r45 r47 r48 r49 r50 r51 r52 hT
  have HT0 := Lib.hid h
  have htb : tb < w.heap.size := World.block_lt_of_cell? w _ h.hs
  have hrb : rb < w.heap.size := h.hi.lt (by have := h.hq; omega)
  go_enter Tryz.func18, Tryz.ntmps18
  go_upto_region 1 with fail
  have HBA := Lib.hid (Below.alloc (Below.refl w.heap.size w) (Nat.le_refl _) (.cells #[.pointer none, .slice none 0 0, .slice none 0 0, .nilIface] 47))
  have hsz : w.heap.size < (w.alloc (.cells #[.pointer none, .slice none 0 0, .slice none 0 0, .nilIface] 47)).heap.size := by simp
  have hcell : (w.alloc (.cells #[.pointer none, .slice none 0 0, .slice none 0 0, .nilIface] 47)).heap[w.heap.size]? = some (.cells #[.pointer none, .slice none 0 0, .slice none 0 0, .nilIface] 47 (0, 0)) := by
    show (w.heap.push _)[w.heap.size]? = _
    simp
  obtain ⟨k, hk0⟩ : ∃ k, k = w.heap.size := ⟨_, rfl⟩
  rw [← hk0] at hsz hcell ⊢
  have HK := Lib.hid hk0
  have hkz : w.heap.size ≤ k := Nat.le_of_eq hk0.symm
  clear hk0
  generalize w.alloc (.cells #[.pointer none, .slice none 0 0, .slice none 0 0, .nilIface] 47) = U at *
  have hn : U.cell? ⟨k, 0, none⟩ = some (.pointer none) := cell_of_heap hcell 0
  have hf : U.frozen? ⟨k, 0, none⟩ = false := frozen_of_heap hcell 0
  have HC := Lib.hid hcell
  have HT := Lib.hid (h.below HBA.out htb hrb)
  clear hcell h
  go_wp2_with fail
  refine (ArrayType_Base tb rb cap p B ps hb U HT.out ht).mono ?_
  rintro e w1 ⟨pv, rfl, hpv, hb1⟩
  have hn1 := (hb1.cell (p := ⟨k, 0, none⟩) hsz).trans hn
  have hf1 := (hb1.frozen (p := ⟨k, 0, none⟩) hsz).trans hf
  have HPV := Lib.hid hpv
  have HB1 := Lib.hid hb1
  clear hpv hb1 hn hf
  go_wp2_with fail
  refine (base_both k rb cap B pv w1 HPV.out hn1 hf1).mono ?_
  rintro e Z0 ⟨rfl, hb2⟩
  have hbu := HB1.out.trans (hb2.mono HB1.out.size)
  have HZ0 := Lib.hid (HBA.out.trans (hbu.mono HBA.out.size))
  have HC0 := Lib.hid ((hbu.block k hsz).trans HC.out)
  have hs0 : k < Z0.heap.size := (Array.getElem?_eq_some_iff.1 HC0.out).1
  have HTZ0 := Lib.hid (HT0.out.below HZ0.out htb hrb)
  clear hb2 hn1 hf1 hbu HC HT HB1 HPV hsz
  go_wp2_with fail
  refine (ArrayType_Element_fb tb rb cap p B ps (TyR d x) f0.2 ⟨k, 0, none⟩ Z0 HTZ0.out ht).mono ?_
  rintro e a0 ⟨ka0, qa0, rfl, hTa, hRa, hba⟩
  have HA0 := Lib.hid hba
  have HTA0 := Lib.hid hTa
  have HRA0 := Lib.hid hRa
  have HTB0 := Lib.hid (HTZ0.out.below hba (World.block_lt_of_cell? _ _ HTZ0.out.hs) (Nat.lt_of_lt_of_le hrb HZ0.out.size))
  clear hTa hRa hba
  go_wp2_with fail
  refine (ArrayType_ElementType_at tb rb cap p (chT x.kind) B ps f0.1 a0 HTB0.out ht).mono ?_
  rintro e b0 ⟨rfl, hbb⟩
  have HTC0 := Lib.hid (HTA0.out.below hbb (World.block_lt_of_cell? _ _ HTA0.out.hs) (Nat.lt_of_lt_of_le hrb (Nat.le_trans HZ0.out.size HA0.out.size)))
  have HB0 := Lib.hid (HA0.out.trans (hbb.mono HA0.out.size))
  clear hbb
  go_wp2_with fail
  refine (hD x ka0 rb cap qa0 B b0 tx hx HRA0.out HTC0.out).mono ?_
  rintro e c0 ⟨kc0, rfl, hRc, hbc⟩
  have hbz : Below Z0.heap.size Z0 c0 := HB0.out.trans (hbc.mono HB0.out.size)
  have hv' : TyV (RepT (From (k + 1)) d) c0 x (.iface (tTy x.kind) (.pointer (some ⟨kc0, 0, none⟩))) := ⟨kc0, rfl, hRc.mono (From.le (show k + 1 ≤ b0.heap.size from Nat.le_trans hs0 HB0.out.size))⟩
  have hcz := (hbz.block k hs0).trans HC0.out
  have n3 := cell_of_heap hcz 3
  have f3z := frozen_of_heap hcz 3
  have HV0 := Lib.hid hv'
  have HBZ0 := Lib.hid (HZ0.out.trans (hbz.mono HZ0.out.size))
  have HCZ0 := Lib.hid hcz
  clear hbz hcz hRc hbc hv'
  go_upto_region 3 with fail
  have hc' : (c0.setCell ⟨k, 3, none⟩ (.iface (tTy x.kind) (.pointer (some ⟨kc0, 0, none⟩)))).heap[k]? = some (.cells #[.pointer none, .slice none 0 0, .slice none 0 0, .iface (tTy x.kind) (.pointer (some ⟨kc0, 0, none⟩))] 47 (0, 0)) := set_heap HCZ0.out 3 _
  have hz' : Below w.heap.size w (c0.setCell ⟨k, 3, none⟩ (.iface (tTy x.kind) (.pointer (some ⟨kc0, 0, none⟩)))) := HBZ0.out.setCell (p := ⟨k, 3, none⟩) hkz _
  have qHV0 := HV0.out.carry (carry_set k 3 (.iface (tTy x.kind) (.pointer (some ⟨kc0, 0, none⟩))) c0)
  generalize c0.setCell ⟨k, 3, none⟩ (.iface (tTy x.kind) (.pointer (some ⟨kc0, 0, none⟩))) = Z1 at *
  have HZ1 := Lib.hid hz'
  have HC1 := Lib.hid hc'
  have hs1 : k < Z1.heap.size := (Array.getElem?_eq_some_iff.1 HC1.out).1
  have HTZ1 := Lib.hid (HT0.out.below HZ1.out htb hrb)
  have QHV0 := Lib.hid qHV0
  clear hz' hc' n3 f3z qHV0
  go_wp2_with fail
  go_ret
  exact ⟨k, rfl, ⟨hkz, _, _, HC1.out, .inr (.inr (.inl ⟨hk, rfl, x, .iface (tTy x.kind) (.pointer (some ⟨kc0, 0, none⟩)), hkx, rfl, QHV0.out.mono (From.le (Nat.le_succ_of_le hkz))⟩))⟩, HZ1.out⟩

set_option maxHeartbeats 1000000 in
set_option maxRecDepth 100000 in
theorem from_48 (d : Nat) (hD : DecC d) : FromC 106 (.agg #[.pointer none, .slice none 0 0, .slice none 0 0, .nilIface, .nilIface]) (d + 1) 48 := by
  intro n tb rb cap p B w hk hT hR h
  obtain ⟨ps, hb, ht, r45, r47, r48, r49, r50, r51, r52⟩ := hR
  obtain ⟨x, y, hkx, tx, hx, ty, hy⟩ := hT.k48 hk
  obtain ⟨f0, f1⟩ := r48 hk x y hkx
  have hnum := hT.wf.2.2.2.1
  have hnum2 := hT.2.2.2.2.2.2.1
  have hsm := hT.2.2.2.1
  clear r45 r47 r48 r49 r50 r51 r52 hT
  have HT0 := Lib.hid h
  have htb : tb < w.heap.size := World.block_lt_of_cell? w _ h.hs
  have hrb : rb < w.heap.size := h.hi.lt (by have := h.hq; omega)
  go_enter Tryz.func106, Tryz.ntmps106
  go_upto_region 1 with fail
  have HBA := Lib.hid (Below.alloc (Below.refl w.heap.size w) (Nat.le_refl _) (.cells #[.pointer none, .slice none 0 0, .slice none 0 0, .nilIface, .nilIface] 311))
  have hsz : w.heap.size < (w.alloc (.cells #[.pointer none, .slice none 0 0, .slice none 0 0, .nilIface, .nilIface] 311)).heap.size := by simp
  have hcell : (w.alloc (.cells #[.pointer none, .slice none 0 0, .slice none 0 0, .nilIface, .nilIface] 311)).heap[w.heap.size]? = some (.cells #[.pointer none, .slice none 0 0, .slice none 0 0, .nilIface, .nilIface] 311 (0, 0)) := by
    show (w.heap.push _)[w.heap.size]? = _
    simp
  obtain ⟨k, hk0⟩ : ∃ k, k = w.heap.size := ⟨_, rfl⟩
  rw [← hk0] at hsz hcell ⊢
  have HK := Lib.hid hk0
  have hkz : w.heap.size ≤ k := Nat.le_of_eq hk0.symm
  clear hk0
  generalize w.alloc (.cells #[.pointer none, .slice none 0 0, .slice none 0 0, .nilIface, .nilIface] 311) = U at *
  have hn : U.cell? ⟨k, 0, none⟩ = some (.pointer none) := cell_of_heap hcell 0
  have hf : U.frozen? ⟨k, 0, none⟩ = false := frozen_of_heap hcell 0
  have HC := Lib.hid hcell
  have HT := Lib.hid (h.below HBA.out htb hrb)
  clear hcell h
  go_wp2_with fail
  refine (DictType_Base tb rb cap p B ps hb U HT.out ht).mono ?_
  rintro e w1 ⟨pv, rfl, hpv, hb1⟩
  have hn1 := (hb1.cell (p := ⟨k, 0, none⟩) hsz).trans hn
  have hf1 := (hb1.frozen (p := ⟨k, 0, none⟩) hsz).trans hf
  have HPV := Lib.hid hpv
  have HB1 := Lib.hid hb1
  clear hpv hb1 hn hf
  go_wp2_with fail
  refine (base_both k rb cap B pv w1 HPV.out hn1 hf1).mono ?_
  rintro e Z0 ⟨rfl, hb2⟩
  have hbu := HB1.out.trans (hb2.mono HB1.out.size)
  have HZ0 := Lib.hid (HBA.out.trans (hbu.mono HBA.out.size))
  have HC0 := Lib.hid ((hbu.block k hsz).trans HC.out)
  have hs0 : k < Z0.heap.size := (Array.getElem?_eq_some_iff.1 HC0.out).1
  have HTZ0 := Lib.hid (HT0.out.below HZ0.out htb hrb)
  clear hb2 hn1 hf1 hbu HC HT HB1 HPV hsz
  go_wp2_with fail
  refine (DictType_Key_fb tb rb cap p B ps (TyR d x) f0.2 ⟨k, 0, none⟩ Z0 HTZ0.out ht).mono ?_
  rintro e a0 ⟨ka0, qa0, rfl, hTa, hRa, hba⟩
  have HA0 := Lib.hid hba
  have HTA0 := Lib.hid hTa
  have HRA0 := Lib.hid hRa
  have HTB0 := Lib.hid (HTZ0.out.below hba (World.block_lt_of_cell? _ _ HTZ0.out.hs) (Nat.lt_of_lt_of_le hrb HZ0.out.size))
  clear hTa hRa hba
  go_wp2_with fail
  refine (DictType_KeyType_at tb rb cap p (chT x.kind) B ps f0.1 a0 HTB0.out ht).mono ?_
  rintro e b0 ⟨rfl, hbb⟩
  have HTC0 := Lib.hid (HTA0.out.below hbb (World.block_lt_of_cell? _ _ HTA0.out.hs) (Nat.lt_of_lt_of_le hrb (Nat.le_trans HZ0.out.size HA0.out.size)))
  have HB0 := Lib.hid (HA0.out.trans (hbb.mono HA0.out.size))
  clear hbb
  go_wp2_with fail
  refine (hD x ka0 rb cap qa0 B b0 tx hx HRA0.out HTC0.out).mono ?_
  rintro e c0 ⟨kc0, rfl, hRc, hbc⟩
  have hbz : Below Z0.heap.size Z0 c0 := HB0.out.trans (hbc.mono HB0.out.size)
  have hv' : TyV (RepT (From (k + 1)) d) c0 x (.iface (tTy x.kind) (.pointer (some ⟨kc0, 0, none⟩))) := ⟨kc0, rfl, hRc.mono (From.le (show k + 1 ≤ b0.heap.size from Nat.le_trans hs0 HB0.out.size))⟩
  have hcz := (hbz.block k hs0).trans HC0.out
  have n3 := cell_of_heap hcz 3
  have f3z := frozen_of_heap hcz 3
  have HV0 := Lib.hid hv'
  have HBZ0 := Lib.hid (HZ0.out.trans (hbz.mono HZ0.out.size))
  have HCZ0 := Lib.hid hcz
  clear hbz hcz hRc hbc hv'
  go_upto_region 3 with fail
  have hc' : (c0.setCell ⟨k, 3, none⟩ (.iface (tTy x.kind) (.pointer (some ⟨kc0, 0, none⟩)))).heap[k]? = some (.cells #[.pointer none, .slice none 0 0, .slice none 0 0, .iface (tTy x.kind) (.pointer (some ⟨kc0, 0, none⟩)), .nilIface] 311 (0, 0)) := set_heap HCZ0.out 3 _
  have hz' : Below w.heap.size w (c0.setCell ⟨k, 3, none⟩ (.iface (tTy x.kind) (.pointer (some ⟨kc0, 0, none⟩)))) := HBZ0.out.setCell (p := ⟨k, 3, none⟩) hkz _
  have qHV0 := HV0.out.carry (carry_set k 3 (.iface (tTy x.kind) (.pointer (some ⟨kc0, 0, none⟩))) c0)
  generalize c0.setCell ⟨k, 3, none⟩ (.iface (tTy x.kind) (.pointer (some ⟨kc0, 0, none⟩))) = Z1 at *
  have HZ1 := Lib.hid hz'
  have HC1 := Lib.hid hc'
  have hs1 : k < Z1.heap.size := (Array.getElem?_eq_some_iff.1 HC1.out).1
  have HTZ1 := Lib.hid (HT0.out.below HZ1.out htb hrb)
  have QHV0 := Lib.hid qHV0
  clear hz' hc' n3 f3z qHV0
  go_wp2_with fail
  refine (DictType_Val_fb tb rb cap p B ps (TyR d y) f1.2 ⟨k, 0, none⟩ Z1 HTZ1.out ht).mono ?_
  rintro e a1 ⟨ka1, qa1, rfl, hTa, hRa, hba⟩
  have HA1 := Lib.hid hba
  have HTA1 := Lib.hid hTa
  have HRA1 := Lib.hid hRa
  have HTB1 := Lib.hid (HTZ1.out.below hba (World.block_lt_of_cell? _ _ HTZ1.out.hs) (Nat.lt_of_lt_of_le hrb HZ1.out.size))
  clear hTa hRa hba
  go_wp2_with fail
  refine (DictType_ValType_at tb rb cap p (chT y.kind) B ps f1.1 a1 HTB1.out ht).mono ?_
  rintro e b1 ⟨rfl, hbb⟩
  have HTC1 := Lib.hid (HTA1.out.below hbb (World.block_lt_of_cell? _ _ HTA1.out.hs) (Nat.lt_of_lt_of_le hrb (Nat.le_trans HZ1.out.size HA1.out.size)))
  have HB1 := Lib.hid (HA1.out.trans (hbb.mono HA1.out.size))
  clear hbb
  go_wp2_with fail
  refine (hD y ka1 rb cap qa1 B b1 ty hy HRA1.out HTC1.out).mono ?_
  rintro e c1 ⟨kc1, rfl, hRc, hbc⟩
  have hbz : Below Z1.heap.size Z1 c1 := HB1.out.trans (hbc.mono HB1.out.size)
  have hv' : TyV (RepT (From (k + 1)) d) c1 y (.iface (tTy y.kind) (.pointer (some ⟨kc1, 0, none⟩))) := ⟨kc1, rfl, hRc.mono (From.le (show k + 1 ≤ b1.heap.size from Nat.le_trans hs1 HB1.out.size))⟩
  have hcz := (hbz.block k hs1).trans HC1.out
  have n4 := cell_of_heap hcz 4
  have f4z := frozen_of_heap hcz 4
  have PQHV01 := Lib.hid (QHV0.out.below hbz)
  have HV1 := Lib.hid hv'
  have HBZ1 := Lib.hid (HZ1.out.trans (hbz.mono HZ1.out.size))
  have HCZ1 := Lib.hid hcz
  clear hbz hcz hRc hbc hv'
  go_upto_region 4 with fail
  have hc' : (c1.setCell ⟨k, 4, none⟩ (.iface (tTy y.kind) (.pointer (some ⟨kc1, 0, none⟩)))).heap[k]? = some (.cells #[.pointer none, .slice none 0 0, .slice none 0 0, .iface (tTy x.kind) (.pointer (some ⟨kc0, 0, none⟩)), .iface (tTy y.kind) (.pointer (some ⟨kc1, 0, none⟩))] 311 (0, 0)) := set_heap HCZ1.out 4 _
  have hz' : Below w.heap.size w (c1.setCell ⟨k, 4, none⟩ (.iface (tTy y.kind) (.pointer (some ⟨kc1, 0, none⟩)))) := HBZ1.out.setCell (p := ⟨k, 4, none⟩) hkz _
  have qQHV01 := PQHV01.out.carry (carry_set k 4 (.iface (tTy y.kind) (.pointer (some ⟨kc1, 0, none⟩))) c1)
  have qHV1 := HV1.out.carry (carry_set k 4 (.iface (tTy y.kind) (.pointer (some ⟨kc1, 0, none⟩))) c1)
  generalize c1.setCell ⟨k, 4, none⟩ (.iface (tTy y.kind) (.pointer (some ⟨kc1, 0, none⟩))) = Z2 at *
  have HZ2 := Lib.hid hz'
  have HC2 := Lib.hid hc'
  have hs2 : k < Z2.heap.size := (Array.getElem?_eq_some_iff.1 HC2.out).1
  have HTZ2 := Lib.hid (HT0.out.below HZ2.out htb hrb)
  have QQHV01 := Lib.hid qQHV01
  have QHV1 := Lib.hid qHV1
  clear hz' hc' n4 f4z qQHV01 qHV1
  go_wp2_with fail
  go_ret
  exact ⟨k, rfl, ⟨hkz, _, _, HC2.out, .inr (.inr (.inr (.inl ⟨hk, rfl, x, y, .iface (tTy x.kind) (.pointer (some ⟨kc0, 0, none⟩)), .iface (tTy y.kind) (.pointer (some ⟨kc1, 0, none⟩)), hkx, rfl, QQHV01.out.mono (From.le (Nat.le_succ_of_le hkz)), QHV1.out.mono (From.le (Nat.le_succ_of_le hkz))⟩)))⟩, HZ2.out⟩

set_option maxHeartbeats 1000000 in
set_option maxRecDepth 100000 in
theorem from_50 (d : Nat) (hD : DecC d) : FromC 76 (.agg #[.pointer none, .slice none 0 0, .slice none 0 0, .pointer none, .nilIface]) (d + 1) 50 := by
  intro n tb rb cap p B w hk hT hR h
  obtain ⟨ps, hb, ht, r45, r47, r48, r49, r50, r51, r52⟩ := hR
  obtain ⟨x, y, hkx, hx, ty, hy⟩ := hT.k50 hk
  obtain ⟨f0, f1⟩ := r50 hk x y hkx
  have hnum := hT.wf.2.2.2.1
  have hnum2 := hT.2.2.2.2.2.2.1
  have hsm := hT.2.2.2.1
  clear r45 r47 r48 r49 r50 r51 r52 hT
  have HT0 := Lib.hid h
  have htb : tb < w.heap.size := World.block_lt_of_cell? w _ h.hs
  have hrb : rb < w.heap.size := h.hi.lt (by have := h.hq; omega)
  go_enter Tryz.func76, Tryz.ntmps76
  go_upto_region 1 with fail
  have HBA := Lib.hid (Below.alloc (Below.refl w.heap.size w) (Nat.le_refl _) (.cells #[.pointer none, .slice none 0 0, .slice none 0 0, .pointer none, .nilIface] 288))
  have hsz : w.heap.size < (w.alloc (.cells #[.pointer none, .slice none 0 0, .slice none 0 0, .pointer none, .nilIface] 288)).heap.size := by simp
  have hcell : (w.alloc (.cells #[.pointer none, .slice none 0 0, .slice none 0 0, .pointer none, .nilIface] 288)).heap[w.heap.size]? = some (.cells #[.pointer none, .slice none 0 0, .slice none 0 0, .pointer none, .nilIface] 288 (0, 0)) := by
    show (w.heap.push _)[w.heap.size]? = _
    simp
  obtain ⟨k, hk0⟩ : ∃ k, k = w.heap.size := ⟨_, rfl⟩
  rw [← hk0] at hsz hcell ⊢
  have HK := Lib.hid hk0
  have hkz : w.heap.size ≤ k := Nat.le_of_eq hk0.symm
  clear hk0
  generalize w.alloc (.cells #[.pointer none, .slice none 0 0, .slice none 0 0, .pointer none, .nilIface] 288) = U at *
  have hn : U.cell? ⟨k, 0, none⟩ = some (.pointer none) := cell_of_heap hcell 0
  have hf : U.frozen? ⟨k, 0, none⟩ = false := frozen_of_heap hcell 0
  have HC := Lib.hid hcell
  have HT := Lib.hid (h.below HBA.out htb hrb)
  clear hcell h
  go_wp2_with fail
  refine (PropertyType_Base tb rb cap p B ps hb U HT.out ht).mono ?_
  rintro e w1 ⟨pv, rfl, hpv, hb1⟩
  have hn1 := (hb1.cell (p := ⟨k, 0, none⟩) hsz).trans hn
  have hf1 := (hb1.frozen (p := ⟨k, 0, none⟩) hsz).trans hf
  have HPV := Lib.hid hpv
  have HB1 := Lib.hid hb1
  clear hpv hb1 hn hf
  go_wp2_with fail
  refine (base_both k rb cap B pv w1 HPV.out hn1 hf1).mono ?_
  rintro e Z0 ⟨rfl, hb2⟩
  have hbu := HB1.out.trans (hb2.mono HB1.out.size)
  have HZ0 := Lib.hid (HBA.out.trans (hbu.mono HBA.out.size))
  have HC0 := Lib.hid ((hbu.block k hsz).trans HC.out)
  have hs0 : k < Z0.heap.size := (Array.getElem?_eq_some_iff.1 HC0.out).1
  have HTZ0 := Lib.hid (HT0.out.below HZ0.out htb hrb)
  clear hb2 hn1 hf1 hbu HC HT HB1 HPV hsz
  go_wp2_with fail
  refine (PropertyType_Id_may tb rb cap p B ps x (.inr ⟨hx.1, f0⟩) Z0 HTZ0.out ht).mono ?_
  rintro e a0 ⟨pv0, rfl, hp, hba⟩
  have HP0 := Lib.hid hp
  have HA0 := Lib.hid hba
  clear hp hba
  go_wp2_with fail
  refine (ident_may rb cap B x pv0 a0 HP0.out).mono ?_
  rintro e b0 ⟨po0, rfl, hv, hbb⟩
  have hbz : Below Z0.heap.size Z0 b0 := HA0.out.trans (hbb.mono HA0.out.size)
  have hv' := hv.mono (From.le (show k + 1 ≤ a0.heap.size from Nat.le_trans hs0 HA0.out.size))
  have hcz := (hbz.block k hs0).trans HC0.out
  have n3 := cell_of_heap hcz 3
  have f3z := frozen_of_heap hcz 3
  have HV0 := Lib.hid hv'
  have HBZ0 := Lib.hid (HZ0.out.trans (hbz.mono HZ0.out.size))
  have HCZ0 := Lib.hid hcz
  clear hbz hcz hv hv' hbb
  go_upto_region 3 with fail
  have hc' : (b0.setCell ⟨k, 3, none⟩ (.pointer po0)).heap[k]? = some (.cells #[.pointer none, .slice none 0 0, .slice none 0 0, .pointer po0, .nilIface] 288 (0, 0)) := set_heap HCZ0.out 3 _
  have hz' : Below w.heap.size w (b0.setCell ⟨k, 3, none⟩ (.pointer po0)) := HBZ0.out.setCell (p := ⟨k, 3, none⟩) hkz _
  have qHV0 := HV0.out.carry (carry_set k 3 (.pointer po0) b0)
  generalize b0.setCell ⟨k, 3, none⟩ (.pointer po0) = Z1 at *
  have HZ1 := Lib.hid hz'
  have HC1 := Lib.hid hc'
  have hs1 : k < Z1.heap.size := (Array.getElem?_eq_some_iff.1 HC1.out).1
  have HTZ1 := Lib.hid (HT0.out.below HZ1.out htb hrb)
  have QHV0 := Lib.hid qHV0
  clear hz' hc' n3 f3z qHV0
  go_wp2_with fail
  refine (PropertyType_Monotype_fb tb rb cap p B ps (TyR d y) f1.2 ⟨k, 0, none⟩ Z1 HTZ1.out ht).mono ?_
  rintro e a1 ⟨ka1, qa1, rfl, hTa, hRa, hba⟩
  have HA1 := Lib.hid hba
  have HTA1 := Lib.hid hTa
  have HRA1 := Lib.hid hRa
  have HTB1 := Lib.hid (HTZ1.out.below hba (World.block_lt_of_cell? _ _ HTZ1.out.hs) (Nat.lt_of_lt_of_le hrb HZ1.out.size))
  clear hTa hRa hba
  go_wp2_with fail
  refine (PropertyType_MonotypeType_at tb rb cap p (chT y.kind) B ps f1.1 a1 HTB1.out ht).mono ?_
  rintro e b1 ⟨rfl, hbb⟩
  have HTC1 := Lib.hid (HTA1.out.below hbb (World.block_lt_of_cell? _ _ HTA1.out.hs) (Nat.lt_of_lt_of_le hrb (Nat.le_trans HZ1.out.size HA1.out.size)))
  have HB1 := Lib.hid (HA1.out.trans (hbb.mono HA1.out.size))
  clear hbb
  go_wp2_with fail
  refine (hD y ka1 rb cap qa1 B b1 ty hy HRA1.out HTC1.out).mono ?_
  rintro e c1 ⟨kc1, rfl, hRc, hbc⟩
  have hbz : Below Z1.heap.size Z1 c1 := HB1.out.trans (hbc.mono HB1.out.size)
  have hv' : TyV (RepT (From (k + 1)) d) c1 y (.iface (tTy y.kind) (.pointer (some ⟨kc1, 0, none⟩))) := ⟨kc1, rfl, hRc.mono (From.le (show k + 1 ≤ b1.heap.size from Nat.le_trans hs1 HB1.out.size))⟩
  have hcz := (hbz.block k hs1).trans HC1.out
  have n4 := cell_of_heap hcz 4
  have f4z := frozen_of_heap hcz 4
  have PQHV01 := Lib.hid (QHV0.out.below hbz)
  have HV1 := Lib.hid hv'
  have HBZ1 := Lib.hid (HZ1.out.trans (hbz.mono HZ1.out.size))
  have HCZ1 := Lib.hid hcz
  clear hbz hcz hRc hbc hv'
  go_upto_region 4 with fail
  have hc' : (c1.setCell ⟨k, 4, none⟩ (.iface (tTy y.kind) (.pointer (some ⟨kc1, 0, none⟩)))).heap[k]? = some (.cells #[.pointer none, .slice none 0 0, .slice none 0 0, .pointer po0, .iface (tTy y.kind) (.pointer (some ⟨kc1, 0, none⟩))] 288 (0, 0)) := set_heap HCZ1.out 4 _
  have hz' : Below w.heap.size w (c1.setCell ⟨k, 4, none⟩ (.iface (tTy y.kind) (.pointer (some ⟨kc1, 0, none⟩)))) := HBZ1.out.setCell (p := ⟨k, 4, none⟩) hkz _
  have qQHV01 := PQHV01.out.carry (carry_set k 4 (.iface (tTy y.kind) (.pointer (some ⟨kc1, 0, none⟩))) c1)
  have qHV1 := HV1.out.carry (carry_set k 4 (.iface (tTy y.kind) (.pointer (some ⟨kc1, 0, none⟩))) c1)
  generalize c1.setCell ⟨k, 4, none⟩ (.iface (tTy y.kind) (.pointer (some ⟨kc1, 0, none⟩))) = Z2 at *
  have HZ2 := Lib.hid hz'
  have HC2 := Lib.hid hc'
  have hs2 : k < Z2.heap.size := (Array.getElem?_eq_some_iff.1 HC2.out).1
  have HTZ2 := Lib.hid (HT0.out.below HZ2.out htb hrb)
  have QQHV01 := Lib.hid qQHV01
  have QHV1 := Lib.hid qHV1
  clear hz' hc' n4 f4z qQHV01 qHV1
  go_wp2_with fail
  go_ret
  exact ⟨k, rfl, ⟨hkz, _, _, HC2.out, .inr (.inr (.inr (.inr (.inr (.inl ⟨hk, rfl, x, y, .pointer po0, .iface (tTy y.kind) (.pointer (some ⟨kc1, 0, none⟩)), hkx, rfl, (QQHV01.out.mono (From.le (Nat.le_succ_of_le hkz))).id hx.1, QHV1.out.mono (From.le (Nat.le_succ_of_le hkz))⟩)))))⟩, HZ2.out⟩

set_option maxHeartbeats 1000000 in
set_option maxRecDepth 100000 in
theorem from_52 (d : Nat) (hD : DecC d) : FromC 69 (.agg #[.pointer none, .slice none 0 0, .slice none 0 0, .pointer none, .nilIface, .string ⟨#[]⟩]) (d + 1) 52 := by
  intro n tb rb cap p B w hk hT hR h
  obtain ⟨ps, hb, ht, r45, r47, r48, r49, r50, r51, r52⟩ := hR
  obtain ⟨x, y, hkx, hx, ty, hy⟩ := hT.k52 hk
  obtain ⟨f0, f1, f2⟩ := r52 hk x y hkx
  have hnum := hT.wf.2.2.2.1
  have hnum2 := hT.2.2.2.2.2.2.1
  have hsm := hT.2.2.2.1
  clear r45 r47 r48 r49 r50 r51 r52 hT
  have HT0 := Lib.hid h
  have htb : tb < w.heap.size := World.block_lt_of_cell? w _ h.hs
  have hrb : rb < w.heap.size := h.hi.lt (by have := h.hq; omega)
  go_enter Tryz.func69, Tryz.ntmps69
  go_upto_region 1 with fail
  have HBA := Lib.hid (Below.alloc (Below.refl w.heap.size w) (Nat.le_refl _) (.cells #[.pointer none, .slice none 0 0, .slice none 0 0, .pointer none, .nilIface, .string ⟨#[]⟩] 277))
  have hsz : w.heap.size < (w.alloc (.cells #[.pointer none, .slice none 0 0, .slice none 0 0, .pointer none, .nilIface, .string ⟨#[]⟩] 277)).heap.size := by simp
  have hcell : (w.alloc (.cells #[.pointer none, .slice none 0 0, .slice none 0 0, .pointer none, .nilIface, .string ⟨#[]⟩] 277)).heap[w.heap.size]? = some (.cells #[.pointer none, .slice none 0 0, .slice none 0 0, .pointer none, .nilIface, .string ⟨#[]⟩] 277 (0, 0)) := by
    show (w.heap.push _)[w.heap.size]? = _
    simp
  obtain ⟨k, hk0⟩ : ∃ k, k = w.heap.size := ⟨_, rfl⟩
  rw [← hk0] at hsz hcell ⊢
  have HK := Lib.hid hk0
  have hkz : w.heap.size ≤ k := Nat.le_of_eq hk0.symm
  clear hk0
  generalize w.alloc (.cells #[.pointer none, .slice none 0 0, .slice none 0 0, .pointer none, .nilIface, .string ⟨#[]⟩] 277) = U at *
  have hn : U.cell? ⟨k, 0, none⟩ = some (.pointer none) := cell_of_heap hcell 0
  have hf : U.frozen? ⟨k, 0, none⟩ = false := frozen_of_heap hcell 0
  have HC := Lib.hid hcell
  have HT := Lib.hid (h.below HBA.out htb hrb)
  clear hcell h
  go_wp2_with fail
  refine (ParameterType_Base tb rb cap p B ps hb U HT.out ht).mono ?_
  rintro e w1 ⟨pv, rfl, hpv, hb1⟩
  have hn1 := (hb1.cell (p := ⟨k, 0, none⟩) hsz).trans hn
  have hf1 := (hb1.frozen (p := ⟨k, 0, none⟩) hsz).trans hf
  have HPV := Lib.hid hpv
  have HB1 := Lib.hid hb1
  clear hpv hb1 hn hf
  go_wp2_with fail
  refine (base_both k rb cap B pv w1 HPV.out hn1 hf1).mono ?_
  rintro e Z0 ⟨rfl, hb2⟩
  have hbu := HB1.out.trans (hb2.mono HB1.out.size)
  have HZ0 := Lib.hid (HBA.out.trans (hbu.mono HBA.out.size))
  have HC0 := Lib.hid ((hbu.block k hsz).trans HC.out)
  have hs0 : k < Z0.heap.size := (Array.getElem?_eq_some_iff.1 HC0.out).1
  have HTZ0 := Lib.hid (HT0.out.below HZ0.out htb hrb)
  clear hb2 hn1 hf1 hbu HC HT HB1 HPV hsz
  go_wp2_with fail
  refine (ParameterType_Id_may tb rb cap p B ps x f0 Z0 HTZ0.out ht).mono ?_
  rintro e a0 ⟨pv0, rfl, hp, hba⟩
  have HP0 := Lib.hid hp
  have HA0 := Lib.hid hba
  clear hp hba
  go_wp2_with fail
  refine (ident_may rb cap B x pv0 a0 HP0.out).mono ?_
  rintro e b0 ⟨po0, rfl, hv, hbb⟩
  have hbz : Below Z0.heap.size Z0 b0 := HA0.out.trans (hbb.mono HA0.out.size)
  have hv' := hv.mono (From.le (show k + 1 ≤ a0.heap.size from Nat.le_trans hs0 HA0.out.size))
  have hcz := (hbz.block k hs0).trans HC0.out
  have n3 := cell_of_heap hcz 3
  have f3z := frozen_of_heap hcz 3
  have HV0 := Lib.hid hv'
  have HBZ0 := Lib.hid (HZ0.out.trans (hbz.mono HZ0.out.size))
  have HCZ0 := Lib.hid hcz
  clear hbz hcz hv hv' hbb
  go_upto_region 3 with fail
  have hc' : (b0.setCell ⟨k, 3, none⟩ (.pointer po0)).heap[k]? = some (.cells #[.pointer none, .slice none 0 0, .slice none 0 0, .pointer po0, .nilIface, .string ⟨#[]⟩] 277 (0, 0)) := set_heap HCZ0.out 3 _
  have hz' : Below w.heap.size w (b0.setCell ⟨k, 3, none⟩ (.pointer po0)) := HBZ0.out.setCell (p := ⟨k, 3, none⟩) hkz _
  have qHV0 := HV0.out.carry (carry_set k 3 (.pointer po0) b0)
  generalize b0.setCell ⟨k, 3, none⟩ (.pointer po0) = Z1 at *
  have HZ1 := Lib.hid hz'
  have HC1 := Lib.hid hc'
  have hs1 : k < Z1.heap.size := (Array.getElem?_eq_some_iff.1 HC1.out).1
  have HTZ1 := Lib.hid (HT0.out.below HZ1.out htb hrb)
  have QHV0 := Lib.hid qHV0
  clear hz' hc' n3 f3z qHV0
  go_wp2_with fail
  refine (ParameterType_Monotype_fb tb rb cap p B ps (TyR d y) f1.2 ⟨k, 0, none⟩ Z1 HTZ1.out ht).mono ?_
  rintro e a1 ⟨ka1, qa1, rfl, hTa, hRa, hba⟩
  have HA1 := Lib.hid hba
  have HTA1 := Lib.hid hTa
  have HRA1 := Lib.hid hRa
  have HTB1 := Lib.hid (HTZ1.out.below hba (World.block_lt_of_cell? _ _ HTZ1.out.hs) (Nat.lt_of_lt_of_le hrb HZ1.out.size))
  clear hTa hRa hba
  go_wp2_with fail
  refine (ParameterType_MonotypeType_at tb rb cap p (chT y.kind) B ps f1.1 a1 HTB1.out ht).mono ?_
  rintro e b1 ⟨rfl, hbb⟩
  have HTC1 := Lib.hid (HTA1.out.below hbb (World.block_lt_of_cell? _ _ HTA1.out.hs) (Nat.lt_of_lt_of_le hrb (Nat.le_trans HZ1.out.size HA1.out.size)))
  have HB1 := Lib.hid (HA1.out.trans (hbb.mono HA1.out.size))
  clear hbb
  go_wp2_with fail
  refine (hD y ka1 rb cap qa1 B b1 ty hy HRA1.out HTC1.out).mono ?_
  rintro e c1 ⟨kc1, rfl, hRc, hbc⟩
  have hbz : Below Z1.heap.size Z1 c1 := HB1.out.trans (hbc.mono HB1.out.size)
  have hv' : TyV (RepT (From (k + 1)) d) c1 y (.iface (tTy y.kind) (.pointer (some ⟨kc1, 0, none⟩))) := ⟨kc1, rfl, hRc.mono (From.le (show k + 1 ≤ b1.heap.size from Nat.le_trans hs1 HB1.out.size))⟩
  have hcz := (hbz.block k hs1).trans HC1.out
  have n4 := cell_of_heap hcz 4
  have f4z := frozen_of_heap hcz 4
  have PQHV01 := Lib.hid (QHV0.out.below hbz)
  have HV1 := Lib.hid hv'
  have HBZ1 := Lib.hid (HZ1.out.trans (hbz.mono HZ1.out.size))
  have HCZ1 := Lib.hid hcz
  clear hbz hcz hRc hbc hv'
  go_upto_region 4 with fail
  have hc' : (c1.setCell ⟨k, 4, none⟩ (.iface (tTy y.kind) (.pointer (some ⟨kc1, 0, none⟩)))).heap[k]? = some (.cells #[.pointer none, .slice none 0 0, .slice none 0 0, .pointer po0, .iface (tTy y.kind) (.pointer (some ⟨kc1, 0, none⟩)), .string ⟨#[]⟩] 277 (0, 0)) := set_heap HCZ1.out 4 _
  have hz' : Below w.heap.size w (c1.setCell ⟨k, 4, none⟩ (.iface (tTy y.kind) (.pointer (some ⟨kc1, 0, none⟩)))) := HBZ1.out.setCell (p := ⟨k, 4, none⟩) hkz _
  have qQHV01 := PQHV01.out.carry (carry_set k 4 (.iface (tTy y.kind) (.pointer (some ⟨kc1, 0, none⟩))) c1)
  have qHV1 := HV1.out.carry (carry_set k 4 (.iface (tTy y.kind) (.pointer (some ⟨kc1, 0, none⟩))) c1)
  generalize c1.setCell ⟨k, 4, none⟩ (.iface (tTy y.kind) (.pointer (some ⟨kc1, 0, none⟩))) = Z2 at *
  have HZ2 := Lib.hid hz'
  have HC2 := Lib.hid hc'
  have hs2 : k < Z2.heap.size := (Array.getElem?_eq_some_iff.1 HC2.out).1
  have HTZ2 := Lib.hid (HT0.out.below HZ2.out htb hrb)
  have QQHV01 := Lib.hid qQHV01
  have QHV1 := Lib.hid qHV1
  clear hz' hc' n4 f4z qQHV01 qHV1
  obtain ⟨c2, hc2⟩ : ∃ c : Nat, n.num.toNat = c := ⟨_, rfl⟩
  rw [hc2] at f2
  have hcl : c2 ≤ 2 := by omega
  have HN2 := Lib.hid (show n.num = (c2 : Int) by omega)
  clear hc2
  go_wp2_with fail
  refine (ParameterType_Kind_at tb rb cap p c2 B ps f2 hcl Z2 HTZ2.out ht).mono ?_
  rintro e a2 ⟨rfl, hba⟩
  have HA2 := Lib.hid hba
  clear hba
  go_wp2_with fail
  refine (kindMap_any c2 hcl a2).mono ?_
  rintro e b2 ⟨rfl, hbe⟩
  have hbz : Below Z2.heap.size Z2 b2 := by rw [hbe]; exact HA2.out
  obtain ⟨s2, hs2⟩ : ∃ s2, s2 = kindS (c2 : Nat) := ⟨_, rfl⟩
  rw [← hs2]
  have HS2 := Lib.hid hs2
  clear hs2
  have hcz := (hbz.block k hs2).trans HC2.out
  have n5 := cell_of_heap hcz 5
  have f5z := frozen_of_heap hcz 5
  have PQQHV012 := Lib.hid (QQHV01.out.below hbz)
  have PQHV12 := Lib.hid (QHV1.out.below hbz)
  have HBZ2 := Lib.hid (HZ2.out.trans (hbz.mono HZ2.out.size))
  have HCZ2 := Lib.hid hcz
  clear hbz hcz hbe
  go_upto_region 5 with fail
  have hc' : (b2.setCell ⟨k, 5, none⟩ (.string s2)).heap[k]? = some (.cells #[.pointer none, .slice none 0 0, .slice none 0 0, .pointer po0, .iface (tTy y.kind) (.pointer (some ⟨kc1, 0, none⟩)), .string s2] 277 (0, 0)) := set_heap HCZ2.out 5 _
  have hz' : Below w.heap.size w (b2.setCell ⟨k, 5, none⟩ (.string s2)) := HBZ2.out.setCell (p := ⟨k, 5, none⟩) hkz _
  have qQQHV012 := PQQHV012.out.carry (carry_set k 5 (.string s2) b2)
  have qQHV12 := PQHV12.out.carry (carry_set k 5 (.string s2) b2)
  generalize b2.setCell ⟨k, 5, none⟩ (.string s2) = Z3 at *
  have HZ3 := Lib.hid hz'
  have HC3 := Lib.hid hc'
  have hs3 : k < Z3.heap.size := (Array.getElem?_eq_some_iff.1 HC3.out).1
  have HTZ3 := Lib.hid (HT0.out.below HZ3.out htb hrb)
  have QQQHV012 := Lib.hid qQQHV012
  have QQHV12 := Lib.hid qQHV12
  clear hz' hc' n5 f5z qQQHV012 qQHV12
  go_wp2_with fail
  go_ret
  obtain rfl : s2 = kindS n.num := HS2.out.trans (by rw [HN2.out])
  exact ⟨k, rfl, ⟨hkz, _, _, HC3.out, .inr (.inr (.inr (.inr (.inr (.inr (.inr ⟨hk, rfl, x, y, .pointer po0, .iface (tTy y.kind) (.pointer (some ⟨kc1, 0, none⟩)), hkx, rfl, QQQHV012.out.mono (From.le (Nat.le_succ_of_le hkz)), QQHV12.out.mono (From.le (Nat.le_succ_of_le hkz))⟩))))))⟩, HZ3.out⟩

set_option maxHeartbeats 1000000 in
set_option maxRecDepth 100000 in
theorem from_49 (d : Nat) (hP : FromC 76 (.agg #[.pointer none, .slice none 0 0, .slice none 0 0, .pointer none, .nilIface]) d 50) : FromC 25 (.agg #[.pointer none, .slice none 0 0, .slice none 0 0, .slice none 0 0, .pointer none]) (d + 1) 49 := by
  intro n tb rb cap p B w hk hT hR h
  obtain ⟨ps, hb, ht, r45, r47, r48, r49, r50, r51, r52⟩ := hR
  obtain ⟨x, xs, hkx, hx, hxs⟩ := hT.k49 hk
  obtain ⟨fl, f0⟩ := r49 hk x xs hkx
  have hnum := hT.wf.2.2.2.1
  have hnum2 := hT.2.2.2.2.2.2.1
  have hsm := hT.2.2.2.1
  clear r45 r47 r48 r49 r50 r51 r52 hT
  have HT0 := Lib.hid h
  have htb : tb < w.heap.size := World.block_lt_of_cell? w _ h.hs
  have hrb : rb < w.heap.size := h.hi.lt (by have := h.hq; omega)
  go_enter Tryz.func25, Tryz.ntmps25
  go_upto_region 1 with fail
  have HBA := Lib.hid (Below.alloc (Below.refl w.heap.size w) (Nat.le_refl _) (.cells #[.pointer none, .slice none 0 0, .slice none 0 0, .slice none 0 0, .pointer none] 70))
  have hsz : w.heap.size < (w.alloc (.cells #[.pointer none, .slice none 0 0, .slice none 0 0, .slice none 0 0, .pointer none] 70)).heap.size := by simp
  have hcell : (w.alloc (.cells #[.pointer none, .slice none 0 0, .slice none 0 0, .slice none 0 0, .pointer none] 70)).heap[w.heap.size]? = some (.cells #[.pointer none, .slice none 0 0, .slice none 0 0, .slice none 0 0, .pointer none] 70 (0, 0)) := by
    show (w.heap.push _)[w.heap.size]? = _
    simp
  obtain ⟨k, hk0⟩ : ∃ k, k = w.heap.size := ⟨_, rfl⟩
  rw [← hk0] at hsz hcell ⊢
  have HK := Lib.hid hk0
  have hkz : w.heap.size ≤ k := Nat.le_of_eq hk0.symm
  clear hk0
  generalize w.alloc (.cells #[.pointer none, .slice none 0 0, .slice none 0 0, .slice none 0 0, .pointer none] 70) = U at *
  have hn : U.cell? ⟨k, 0, none⟩ = some (.pointer none) := cell_of_heap hcell 0
  have hf : U.frozen? ⟨k, 0, none⟩ = false := frozen_of_heap hcell 0
  have HC := Lib.hid hcell
  have HT := Lib.hid (h.below HBA.out htb hrb)
  clear hcell h
  go_wp2_with fail
  refine (RecordType_Base tb rb cap p B ps hb U HT.out ht).mono ?_
  rintro e w1 ⟨pv, rfl, hpv, hb1⟩
  have hn1 := (hb1.cell (p := ⟨k, 0, none⟩) hsz).trans hn
  have hf1 := (hb1.frozen (p := ⟨k, 0, none⟩) hsz).trans hf
  have HPV := Lib.hid hpv
  have HB1 := Lib.hid hb1
  clear hpv hb1 hn hf
  go_wp2_with fail
  refine (base_both k rb cap B pv w1 HPV.out hn1 hf1).mono ?_
  rintro e Z0 ⟨rfl, hb2⟩
  have hbu := HB1.out.trans (hb2.mono HB1.out.size)
  have HZ0 := Lib.hid (HBA.out.trans (hbu.mono HBA.out.size))
  have HC0 := Lib.hid ((hbu.block k hsz).trans HC.out)
  have hs0 : k < Z0.heap.size := (Array.getElem?_eq_some_iff.1 HC0.out).1
  have HTZ0 := Lib.hid (HT0.out.below HZ0.out htb hrb)
  clear hb2 hn1 hf1 hbu HC HT HB1 HPV hsz
  go_wp2_with fail
  refine (RecordType_Tvar_may tb rb cap p B ps x f0 Z0 HTZ0.out ht).mono ?_
  rintro e a0 ⟨pv0, rfl, hp, hba⟩
  have HP0 := Lib.hid hp
  have HA0 := Lib.hid hba
  clear hp hba
  go_wp2_with fail
  refine (ident_may rb cap B x pv0 a0 HP0.out).mono ?_
  rintro e b0 ⟨po0, rfl, hv, hbb⟩
  have hbz : Below Z0.heap.size Z0 b0 := HA0.out.trans (hbb.mono HA0.out.size)
  have hv' := hv.mono (From.le (show k + 1 ≤ a0.heap.size from Nat.le_trans hs0 HA0.out.size))
  have hcz := (hbz.block k hs0).trans HC0.out
  have n4 := cell_of_heap hcz 4
  have f4z := frozen_of_heap hcz 4
  have HV0 := Lib.hid hv'
  have HBZ0 := Lib.hid (HZ0.out.trans (hbz.mono HZ0.out.size))
  have HCZ0 := Lib.hid hcz
  clear hbz hcz hv hv' hbb
  go_upto_region 3 with fail
  have hc' : (b0.setCell ⟨k, 4, none⟩ (.pointer po0)).heap[k]? = some (.cells #[.pointer none, .slice none 0 0, .slice none 0 0, .slice none 0 0, .pointer po0] 70 (0, 0)) := set_heap HCZ0.out 4 _
  have hz' : Below w.heap.size w (b0.setCell ⟨k, 4, none⟩ (.pointer po0)) := HBZ0.out.setCell (p := ⟨k, 4, none⟩) hkz _
  have qHV0 := HV0.out.carry (carry_set k 4 (.pointer po0) b0)
  generalize b0.setCell ⟨k, 4, none⟩ (.pointer po0) = Z1 at *
  have HZ1 := Lib.hid hz'
  have HC1 := Lib.hid hc'
  have hs1 : k < Z1.heap.size := (Array.getElem?_eq_some_iff.1 HC1.out).1
  have HTZ1 := Lib.hid (HT0.out.below HZ1.out htb hrb)
  have QHV0 := Lib.hid qHV0
  clear hz' hc' n4 f4z qHV0
  obtain ⟨i0, hi, hz0, hz1, hz2⟩ := info_parts infoP50
  obtain ⟨v, vd, hv, hv0, vl, vq, hvd, hvz, hvn, hvz2, hV3⟩ := fl
  obtain ⟨nn, hnn⟩ : ∃ nn, xs.length = nn := ⟨_, rfl⟩
  rw [hnn] at hvn hvz2 hV3
  have hn4 : nn ≤ 400 := by rw [hkx, List.length_cons] at hsm; omega
  have HNN := Lib.hid hnn
  have HKI := Lib.hid hV3
  have HXS := Lib.hid hxs
  have HP := Lib.hid hP
  clear hnn hV3 hxs hP hsm hx f0
  go_wp2_with fail
  go_loopg [5] nn (fun gk i wr => ∃ (j : Nat) (so : Option Addr) (sc : Nat), j ≤ nn ∧ gk = nn - j ∧ i = .int .i64 (j : Nat) ∧ Hid (wr.heap[k]? = some (.cells #[.pointer none, .slice none 0 0, .slice none 0 0, .slice so j sc, .pointer po0] 70 (0, 0))) ∧ Hid (MayV (fun c => k + 1 ≤ c ∧ some c ≠ (Value.slice so j sc).ownBlock) wr x (.pointer po0)) ∧ Hid (TyList 286 (k + 1) d (.slice so j sc) j xs wr) ∧ Hid (Below w.heap.size w wr))
  case atStart => exact ⟨0, none, 0, by omega, rfl, rfl, HC1, Lib.hid (QHV0.out.mono fun c hc => ⟨hc, by simp [Value.ownBlock]⟩), Lib.hid (TyList.start _ _ _ _ _), HZ1⟩
  case round =>
    obtain ⟨j, so, sc, hj, hgk, rfl, HCj, HFj, HIj, HBj⟩ := hrel
    have HGK := Lib.hid hgk
    clear hgk
    by_cases hjn : j < nn
    · have hjI : (j : Int) < (nn : Int) := by omega
      obtain ⟨sj, hsj⟩ : ∃ sj, xs[j]? = some sj := ⟨xs[j]'(by have := HNN.out; omega), List.getElem?_eq_getElem _⟩
      obtain ⟨dj, hdj, hdz, hIdj⟩ := HKI.out j hjn
      rw [show xs.getD j x = sj from by rw [List.getD_eq_getElem?_getD, hsj]; rfl] at hIdj
      have HSJ := Lib.hid hsj
      have HPJ := Lib.hid (fun (W : World) (tb' : Nat) (h' : TabIn W tb' 0 rb cap B (v + p + vd + 4 + 4 * j + dj)) => HP.out sj tb' rb cap _ B W (HXS.out sj (List.mem_of_getElem? hsj)).1 (HXS.out sj (List.mem_of_getElem? hsj)).2 hIdj h')
      clear hsj hIdj
      have HTj := Lib.hid (HT0.out.below HBj.out htb hrb)
      go_wp2_with fail
      refine (RecordType_PropertiesLength tb rb cap p B ps v hv hv0 _ HTj.out ht vl vq vd nn hvd (by omega) hvn).mono ?_
      rintro e w5 ⟨rfl, m5, rfl⟩
      have hb5 := below_drewN' (Below.refl wr.heap.size wr) m5
      have HI5 := Lib.hid (HIj.out.below hb5 (Nat.le_refl _))
      have HC5 := Lib.hid ((hb5.block k (Array.getElem?_eq_some_iff.1 HCj.out).1).trans HCj.out)
      have HF5 := Lib.hid (HFj.out.below hb5)
      have HB5 := Lib.hid (HBj.out.trans (hb5.mono HBj.out.size))
      have hkV : k < (wr.drewN m5).heap.size := (Array.getElem?_eq_some_iff.1 HC5.out).1
      have htbV : tb < (wr.drewN m5).heap.size := Nat.lt_of_lt_of_le htb HB5.out.size
      have hrbV : rb < (wr.drewN m5).heap.size := Nat.lt_of_lt_of_le hrb HB5.out.size
      clear hb5
      generalize wr.drewN m5 = V5 at *
      go_upto_region 7 with fail
      obtain ⟨ka0, ka1, kf0, kf1⟩ := two_new V5 (.slice none 0 0) (.int .u32 0) 284
      have hbA : Below V5.heap.size V5 (V5.alloc (.cells #[.slice none 0 0, .int .u32 0] 284)) := (Below.refl _ _).alloc (Nat.le_refl _) _
      have HCA := Lib.hid ((hbA.block k hkV).trans HC5.out)
      have HBA5 := Lib.hid (HB5.out.trans (hbA.mono HB5.out.size))
      have hidA : V5.heap.size < (V5.alloc (.cells #[.slice none 0 0, .int .u32 0] 284)).heap.size := by simp
      obtain ⟨id, hid⟩ : ∃ id, id = V5.heap.size := ⟨_, rfl⟩
      have hrk : rb ≠ id := by omega
      have htk : tb < id := by omega
      have hkid : k < id := by omega
      have hwid : w.heap.size ≤ id := by have := HB5.out.size; omega
      have HID := Lib.hid hid
      rw [← hid] at ka0 ka1 kf0 kf1 hidA hbA ⊢
      have HBI := Lib.hid hbA
      clear hid hbA hkV htbV hrbV
      generalize V5.alloc (.cells #[.slice none 0 0, .int .u32 0] 284) = V6 at *
      have HT6 := Lib.hid (HT0.out.below HBA5.out htb hrb)
      go_wp2_with fail
      refine (RecordType_Properties tb rb cap p B ps v hv hv0 _ HT6.out ht vl vq vd hvd (by omega) j (by omega) dj hdj hdz id _ _ ka0 ka1 kf0 kf1 hrk htk).mono ?_
      rintro e w7 ⟨rfl, hT7, hb7⟩
      clear ka0 ka1 kf0 kf1
      have HT7 := Lib.hid hT7
      have HB7 := Lib.hid (HBA5.out.trans (hb7.mono hwid))
      have HC7 := Lib.hid ((hb7.block k hkid).trans HCA.out)
      have hb57 := HBI.out.trans hb7
      have HI7 := Lib.hid (HI5.out.below hb57 (Nat.le_of_eq HID.out.symm))
      have HF7 := Lib.hid (HF5.out.below (hb57.mono (Nat.le_of_eq HID.out.symm)))
      have hz7 : id < w7.heap.size := Nat.lt_of_lt_of_le hidA hb7.size
      clear hb7 hT7 hb57
      go_upto_region 9 with fail
      have n3 := cell_of_heap HC7.out 3
      have f3 := frozen_of_heap HC7.out 3
      have hkw7 : k < w7.heap.size := (Array.getElem?_eq_some_iff.1 HC7.out).1
      have HWZ := Lib.hid (show k + 1 ≤ w7.heap.size by omega)
      have HTD := Lib.hid (HT7.out.below ((Below.refl w7.heap.size w7).drew) hz7 (by omega))
      go_region_law (first
        | (rw [if_pos (by rfl)]; go_simp; go_at_call 76; refine (HPJ.out _ id HTD.out).mono ?_; rintro e w8 ⟨k8, rfl, hR8, hb8⟩; have HR8 := Lib.hid hR8; have HB8 := Lib.hid hb8; have kk8 : ∀ z, w8.cell? ⟨k, z, none⟩ = w7.drew.cell? ⟨k, z, none⟩ := fun z => hb8.cell (p := ⟨k, z, none⟩) hkw7; have kf8 : ∀ z, w8.frozen? ⟨k, z, none⟩ = w7.drew.frozen? ⟨k, z, none⟩ := fun z => hb8.frozen (p := ⟨k, z, none⟩) hkw7; have HI8 := Lib.hid (HI7.out.below ((Below.refl w7.heap.size w7).drew.trans hb8) (Nat.le_refl _)); have HF8 := Lib.hid (HF7.out.below ((Below.refl w7.heap.size w7).drew.trans hb8)); obtain ⟨ks, hown8, hks8⟩ := HI8.out; have HKS8 := Lib.hid hks8; have HOW := Lib.hid (hown8.alloc (.cells #[.pointer (some ⟨k8, 0, none⟩)] 286)); have hz8 : w7.heap.size ≤ w8.heap.size := hb8.size; have hkne8 : ¬ k = w8.heap.size := (by omega); have hkne9 : ¬ w8.heap.size = k := (by omega); have kA8 : (w8.alloc (.cells #[.pointer (some ⟨k8, 0, none⟩)] 286)).cell? ⟨k, 3, none⟩ = some (.slice so j sc) := (World.cell?_of_block (Below.heap_alloc w8 _ k (by omega))).trans ((kk8 3).trans n3); have HNE : Hid (some k ≠ (Value.slice so j sc).ownBlock) := Lib.hid (fun e => by have := (World.ownsRow.lt hown8 k e.symm).1; omega); clear hR8 hb8 hks8 hown8; dsimp only)
        | (refine step_append_lies _ rfl _ _ 67 rfl (k + 1) 286 i0 (.pointer none) 1 8 undP50 hi hz0 hz1 hz2 rfl (by decide) (.slice so j sc) j _ rfl HOW.out ⟨w8.heap.size, 0, none⟩ 1 1 [.pointer (some ⟨k8, 0, none⟩)] rfl rfl (one_ptr _ _ _) (by intro u hu; simp at hu; subst hu; rfl) (by decide) (by unfold maxLen; omega) (by omega) (by have := HWZ.out; simp; omega) _ rfl ?_; intro g cap2 w9 hown9 hgrow hat hglt; have y3 := (hgrow.cell_far ⟨k, 3, none⟩ (show k < (w8.alloc (.cells #[.pointer (some ⟨k8, 0, none⟩)] 286)).heap.size by simp; omega) HNE.out).trans ((World.cell?_of_block (Below.heap_alloc w8 _ k (by omega))).trans (kk8 3)); have yf3 := (hgrow.frozen_far ⟨k, 3, none⟩ (show k < (w8.alloc (.cells #[.pointer (some ⟨k8, 0, none⟩)] 286)).heap.size by simp; omega) HNE.out).trans ((World.frozen?_of_block (Below.heap_alloc w8 _ k (by omega))).trans (kf8 3))))
      all_goals
        have hkA : k < (w8.alloc (.cells #[.pointer (some ⟨k8, 0, none⟩)] 286)).heap.size := by simp; omega
        have hb78 : Below w7.heap.size w7 w8 := (Below.refl w7.heap.size w7).drew.trans HB8.out
        have h9k := (hgrow.block k hkA HNE.out).trans ((Below.heap_alloc w8 _ k (by omega)).trans ((hb78.block k hkw7).trans HC7.out))
        have hat' : (Value.slice so j sc).ownBlock = some g ∨ g = (w8.alloc (.cells #[.pointer (some ⟨k8, 0, none⟩)] 286)).heap.size := hat.imp (fun h => h) (fun h => by simpa using h)
        have hR8 : RepT (fun c => k + 1 ≤ c ∧ some c ≠ (Value.slice so j sc).ownBlock) d w8 sj k8 := HR8.out.mono fun c hc => ⟨Nat.le_trans HWZ.out hc, fun e => by
          obtain ⟨_, h1, -⟩ := HI7.out
          have h2 := (World.ownsRow.lt h1 c e.symm).2
          have hc : w7.heap.size ≤ c := hc
          omega⟩
        have HNX := Lib.hid (TyList.next (b := k) (o := 3) (.slice (some ⟨g, 0, none⟩) (j + 1 : Nat) cap2) HKS8.out HSJ.out hR8 hown9 hgrow hat' (Nat.lt_succ_self k))
        have HK9 := Lib.hid (set_heap h9k 3 (.slice (some ⟨g, 0, none⟩) (j + 1 : Nat) cap2))
        have HF9 := Lib.hid (HF8.out.carry (next_carry (b := k) (o := 3) (cap := cap2) (.slice (some ⟨g, 0, none⟩) (j + 1 : Nat) cap2) hgrow hat' (Nat.lt_succ_self k)))
        have HB9 := Lib.hid ((((HB7.out.trans (hb78.mono HB7.out.size)).alloc (Nat.le_trans HB7.out.size hz8) (.cells #[.pointer (some ⟨k8, 0, none⟩)] 286)).grown hgrow (Nat.le_trans HB7.out.size (by simp; omega)) (fun q hq => by have := (World.ownsRow.lt HOW.out q hq).1; omega)).setCell (p := ⟨k, 3, none⟩) hkz (.slice (some ⟨g, 0, none⟩) (j + 1 : Nat) cap2))
        clear hkA hb78 h9k hR8 hat' hown9 hgrow hat kk8 kf8 y3 yf3 kA8 n3 f3
        go_wp2_with fail
        go_roundg (nn - (j + 1))
        case measure => have := HGK.out; omega
        case rel => exact ⟨j + 1, some ⟨g, 0, none⟩, cap2, by omega, rfl, by go_num, HK9, HF9, HNX, HB9⟩
    · obtain rfl : j = nn := by omega
      have HTj := Lib.hid (HT0.out.below HBj.out htb hrb)
      go_wp2_with fail
      refine (RecordType_PropertiesLength tb rb cap p B ps v hv hv0 _ HTj.out ht vl vq vd j hvd (by omega) hvn).mono ?_
      rintro e w5 ⟨rfl, m5, rfl⟩
      have hb5 := below_drewN' (Below.refl wr.heap.size wr) m5
      have HI5 := Lib.hid (HIj.out.below hb5 (Nat.le_refl _))
      have HC5 := Lib.hid ((hb5.block k (Array.getElem?_eq_some_iff.1 HCj.out).1).trans HCj.out)
      have HF5 := Lib.hid (HFj.out.below hb5)
      have HB5 := Lib.hid (HBj.out.trans (hb5.mono HBj.out.size))
      clear hb5
      generalize wr.drewN m5 = V5 at *
      go_wp2_with fail
      go_ret
      have hnn := HNN.out
      have hle : ∀ c, From (k + 1) c → From w.heap.size c := fun c hc => Nat.le_trans (Nat.le_succ_of_le hkz) hc
      have hL := (HI5.out.done hnn).carry (A' := From w.heap.size) (T' := RepT (From w.heap.size) d) (fun b o h1 h2 => ⟨h2, hle b h1⟩) (fun z q hq => hq.mono hle)
      subst hnn
      exact ⟨k, rfl, ⟨hkz, _, _, HC5.out, .inr (.inr (.inr (.inr (.inl ⟨hk, rfl, x, xs, so, sc, .pointer po0, hkx, rfl, hL, HF5.out.mono fun c hc => hle c hc.1⟩))))⟩, HB5.out⟩

set_option maxHeartbeats 1000000 in
set_option maxRecDepth 100000 in
theorem from_51 (d : Nat) (hD : DecC d) (hP : FromC 69 (.agg #[.pointer none, .slice none 0 0, .slice none 0 0, .pointer none, .nilIface, .string ⟨#[]⟩]) d 52) : FromC 23 (.agg #[.pointer none, .slice none 0 0, .slice none 0 0, .slice none 0 0, .nilIface]) (d + 1) 51 := by
  intro n tb rb cap p B w hk hT hR h
  obtain ⟨ps, hb, ht, r45, r47, r48, r49, r50, r51, r52⟩ := hR
  obtain ⟨x, xs, hkx, tx, hx, hxs⟩ := hT.k51 hk
  obtain ⟨fl, f0⟩ := r51 hk x xs hkx
  have hnum := hT.wf.2.2.2.1
  have hnum2 := hT.2.2.2.2.2.2.1
  have hsm := hT.2.2.2.1
  clear r45 r47 r48 r49 r50 r51 r52 hT
  have HT0 := Lib.hid h
  have htb : tb < w.heap.size := World.block_lt_of_cell? w _ h.hs
  have hrb : rb < w.heap.size := h.hi.lt (by have := h.hq; omega)
  go_enter Tryz.func23, Tryz.ntmps23
  go_upto_region 1 with fail
  have HBA := Lib.hid (Below.alloc (Below.refl w.heap.size w) (Nat.le_refl _) (.cells #[.pointer none, .slice none 0 0, .slice none 0 0, .slice none 0 0, .nilIface] 62))
  have hsz : w.heap.size < (w.alloc (.cells #[.pointer none, .slice none 0 0, .slice none 0 0, .slice none 0 0, .nilIface] 62)).heap.size := by simp
  have hcell : (w.alloc (.cells #[.pointer none, .slice none 0 0, .slice none 0 0, .slice none 0 0, .nilIface] 62)).heap[w.heap.size]? = some (.cells #[.pointer none, .slice none 0 0, .slice none 0 0, .slice none 0 0, .nilIface] 62 (0, 0)) := by
    show (w.heap.push _)[w.heap.size]? = _
    simp
  obtain ⟨k, hk0⟩ : ∃ k, k = w.heap.size := ⟨_, rfl⟩
  rw [← hk0] at hsz hcell ⊢
  have HK := Lib.hid hk0
  have hkz : w.heap.size ≤ k := Nat.le_of_eq hk0.symm
  clear hk0
  generalize w.alloc (.cells #[.pointer none, .slice none 0 0, .slice none 0 0, .slice none 0 0, .nilIface] 62) = U at *
  have hn : U.cell? ⟨k, 0, none⟩ = some (.pointer none) := cell_of_heap hcell 0
  have hf : U.frozen? ⟨k, 0, none⟩ = false := frozen_of_heap hcell 0
  have HC := Lib.hid hcell
  have HT := Lib.hid (h.below HBA.out htb hrb)
  clear hcell h
  go_wp2_with fail
  refine (FunctionType_Base tb rb cap p B ps hb U HT.out ht).mono ?_
  rintro e w1 ⟨pv, rfl, hpv, hb1⟩
  have hn1 := (hb1.cell (p := ⟨k, 0, none⟩) hsz).trans hn
  have hf1 := (hb1.frozen (p := ⟨k, 0, none⟩) hsz).trans hf
  have HPV := Lib.hid hpv
  have HB1 := Lib.hid hb1
  clear hpv hb1 hn hf
  go_wp2_with fail
  refine (base_both k rb cap B pv w1 HPV.out hn1 hf1).mono ?_
  rintro e Z0 ⟨rfl, hb2⟩
  have hbu := HB1.out.trans (hb2.mono HB1.out.size)
  have HZ0 := Lib.hid (HBA.out.trans (hbu.mono HBA.out.size))
  have HC0 := Lib.hid ((hbu.block k hsz).trans HC.out)
  have hs0 : k < Z0.heap.size := (Array.getElem?_eq_some_iff.1 HC0.out).1
  have HTZ0 := Lib.hid (HT0.out.below HZ0.out htb hrb)
  clear hb2 hn1 hf1 hbu HC HT HB1 HPV hsz
  go_wp2_with fail
  refine (FunctionType_Monotype_fb tb rb cap p B ps (TyR d x) f0.2 ⟨k, 0, none⟩ Z0 HTZ0.out ht).mono ?_
  rintro e a0 ⟨ka0, qa0, rfl, hTa, hRa, hba⟩
  have HA0 := Lib.hid hba
  have HTA0 := Lib.hid hTa
  have HRA0 := Lib.hid hRa
  have HTB0 := Lib.hid (HTZ0.out.below hba (World.block_lt_of_cell? _ _ HTZ0.out.hs) (Nat.lt_of_lt_of_le hrb HZ0.out.size))
  clear hTa hRa hba
  go_wp2_with fail
  refine (FunctionType_MonotypeType_at tb rb cap p (chT x.kind) B ps f0.1 a0 HTB0.out ht).mono ?_
  rintro e b0 ⟨rfl, hbb⟩
  have HTC0 := Lib.hid (HTA0.out.below hbb (World.block_lt_of_cell? _ _ HTA0.out.hs) (Nat.lt_of_lt_of_le hrb (Nat.le_trans HZ0.out.size HA0.out.size)))
  have HB0 := Lib.hid (HA0.out.trans (hbb.mono HA0.out.size))
  clear hbb
  go_wp2_with fail
  refine (hD x ka0 rb cap qa0 B b0 tx hx HRA0.out HTC0.out).mono ?_
  rintro e c0 ⟨kc0, rfl, hRc, hbc⟩
  have hbz : Below Z0.heap.size Z0 c0 := HB0.out.trans (hbc.mono HB0.out.size)
  have hv' : TyV (RepT (From (k + 1)) d) c0 x (.iface (tTy x.kind) (.pointer (some ⟨kc0, 0, none⟩))) := ⟨kc0, rfl, hRc.mono (From.le (show k + 1 ≤ b0.heap.size from Nat.le_trans hs0 HB0.out.size))⟩
  have hcz := (hbz.block k hs0).trans HC0.out
  have n4 := cell_of_heap hcz 4
  have f4z := frozen_of_heap hcz 4
  have HV0 := Lib.hid hv'
  have HBZ0 := Lib.hid (HZ0.out.trans (hbz.mono HZ0.out.size))
  have HCZ0 := Lib.hid hcz
  clear hbz hcz hRc hbc hv'
  go_upto_region 3 with fail
  have hc' : (c0.setCell ⟨k, 4, none⟩ (.iface (tTy x.kind) (.pointer (some ⟨kc0, 0, none⟩)))).heap[k]? = some (.cells #[.pointer none, .slice none 0 0, .slice none 0 0, .slice none 0 0, .iface (tTy x.kind) (.pointer (some ⟨kc0, 0, none⟩))] 62 (0, 0)) := set_heap HCZ0.out 4 _
  have hz' : Below w.heap.size w (c0.setCell ⟨k, 4, none⟩ (.iface (tTy x.kind) (.pointer (some ⟨kc0, 0, none⟩)))) := HBZ0.out.setCell (p := ⟨k, 4, none⟩) hkz _
  have qHV0 := HV0.out.carry (carry_set k 4 (.iface (tTy x.kind) (.pointer (some ⟨kc0, 0, none⟩))) c0)
  generalize c0.setCell ⟨k, 4, none⟩ (.iface (tTy x.kind) (.pointer (some ⟨kc0, 0, none⟩))) = Z1 at *
  have HZ1 := Lib.hid hz'
  have HC1 := Lib.hid hc'
  have hs1 : k < Z1.heap.size := (Array.getElem?_eq_some_iff.1 HC1.out).1
  have HTZ1 := Lib.hid (HT0.out.below HZ1.out htb hrb)
  have QHV0 := Lib.hid qHV0
  clear hz' hc' n4 f4z qHV0
  obtain ⟨i0, hi, hz0, hz1, hz2⟩ := info_parts infoP52
  obtain ⟨v, vd, hv, hv0, vl, vq, hvd, hvz, hvn, hvz2, hV3⟩ := fl
  obtain ⟨nn, hnn⟩ : ∃ nn, xs.length = nn := ⟨_, rfl⟩
  rw [hnn] at hvn hvz2 hV3
  have hn4 : nn ≤ 400 := by rw [hkx, List.length_cons] at hsm; omega
  have HNN := Lib.hid hnn
  have HKI := Lib.hid hV3
  have HXS := Lib.hid hxs
  have HP := Lib.hid hP
  clear hnn hV3 hxs hP hsm hx tx hD f0
  go_wp2_with fail
  go_loopg [5] nn (fun gk i wr => ∃ (j : Nat) (so : Option Addr) (sc : Nat), j ≤ nn ∧ gk = nn - j ∧ i = .int .i64 (j : Nat) ∧ Hid (wr.heap[k]? = some (.cells #[.pointer none, .slice none 0 0, .slice none 0 0, .slice so j sc, .iface (tTy x.kind) (.pointer (some ⟨kc0, 0, none⟩))] 62 (0, 0))) ∧ Hid (TyV (RepT (fun c => k + 1 ≤ c ∧ some c ≠ (Value.slice so j sc).ownBlock) d) wr x (.iface (tTy x.kind) (.pointer (some ⟨kc0, 0, none⟩)))) ∧ Hid (TyList 274 (k + 1) d (.slice so j sc) j xs wr) ∧ Hid (Below w.heap.size w wr))
  case atStart => exact ⟨0, none, 0, by omega, rfl, rfl, HC1, Lib.hid (QHV0.out.mono fun c hc => ⟨hc, by simp [Value.ownBlock]⟩), Lib.hid (TyList.start _ _ _ _ _), HZ1⟩
  case round =>
    obtain ⟨j, so, sc, hj, hgk, rfl, HCj, HFj, HIj, HBj⟩ := hrel
    have HGK := Lib.hid hgk
    clear hgk
    by_cases hjn : j < nn
    · have hjI : (j : Int) < (nn : Int) := by omega
      obtain ⟨sj, hsj⟩ : ∃ sj, xs[j]? = some sj := ⟨xs[j]'(by have := HNN.out; omega), List.getElem?_eq_getElem _⟩
      obtain ⟨dj, hdj, hdz, hIdj⟩ := HKI.out j hjn
      rw [show xs.getD j x = sj from by rw [List.getD_eq_getElem?_getD, hsj]; rfl] at hIdj
      have HSJ := Lib.hid hsj
      have HPJ := Lib.hid (fun (W : World) (tb' : Nat) (h' : TabIn W tb' 0 rb cap B (v + p + vd + 4 + 4 * j + dj)) => HP.out sj tb' rb cap _ B W (HXS.out sj (List.mem_of_getElem? hsj)).1 (HXS.out sj (List.mem_of_getElem? hsj)).2 hIdj h')
      clear hsj hIdj
      have HTj := Lib.hid (HT0.out.below HBj.out htb hrb)
      go_wp2_with fail
      refine (FunctionType_ParametersLength tb rb cap p B ps v hv hv0 _ HTj.out ht vl vq vd nn hvd (by omega) hvn).mono ?_
      rintro e w5 ⟨rfl, m5, rfl⟩
      have hb5 := below_drewN' (Below.refl wr.heap.size wr) m5
      have HI5 := Lib.hid (HIj.out.below hb5 (Nat.le_refl _))
      have HC5 := Lib.hid ((hb5.block k (Array.getElem?_eq_some_iff.1 HCj.out).1).trans HCj.out)
      have HF5 := Lib.hid (HFj.out.below hb5)
      have HB5 := Lib.hid (HBj.out.trans (hb5.mono HBj.out.size))
      have hkV : k < (wr.drewN m5).heap.size := (Array.getElem?_eq_some_iff.1 HC5.out).1
      have htbV : tb < (wr.drewN m5).heap.size := Nat.lt_of_lt_of_le htb HB5.out.size
      have hrbV : rb < (wr.drewN m5).heap.size := Nat.lt_of_lt_of_le hrb HB5.out.size
      clear hb5
      generalize wr.drewN m5 = V5 at *
      go_upto_region 7 with fail
      obtain ⟨ka0, ka1, kf0, kf1⟩ := two_new V5 (.slice none 0 0) (.int .u32 0) 269
      have hbA : Below V5.heap.size V5 (V5.alloc (.cells #[.slice none 0 0, .int .u32 0] 269)) := (Below.refl _ _).alloc (Nat.le_refl _) _
      have HCA := Lib.hid ((hbA.block k hkV).trans HC5.out)
      have HBA5 := Lib.hid (HB5.out.trans (hbA.mono HB5.out.size))
      have hidA : V5.heap.size < (V5.alloc (.cells #[.slice none 0 0, .int .u32 0] 269)).heap.size := by simp
      obtain ⟨id, hid⟩ : ∃ id, id = V5.heap.size := ⟨_, rfl⟩
      have hrk : rb ≠ id := by omega
      have htk : tb < id := by omega
      have hkid : k < id := by omega
      have hwid : w.heap.size ≤ id := by have := HB5.out.size; omega
      have HID := Lib.hid hid
      rw [← hid] at ka0 ka1 kf0 kf1 hidA hbA ⊢
      have HBI := Lib.hid hbA
      clear hid hbA hkV htbV hrbV
      generalize V5.alloc (.cells #[.slice none 0 0, .int .u32 0] 269) = V6 at *
      have HT6 := Lib.hid (HT0.out.below HBA5.out htb hrb)
      go_wp2_with fail
      refine (FunctionType_Parameters tb rb cap p B ps v hv hv0 _ HT6.out ht vl vq vd hvd (by omega) j (by omega) dj hdj hdz id _ _ ka0 ka1 kf0 kf1 hrk htk).mono ?_
      rintro e w7 ⟨rfl, hT7, hb7⟩
      clear ka0 ka1 kf0 kf1
      have HT7 := Lib.hid hT7
      have HB7 := Lib.hid (HBA5.out.trans (hb7.mono hwid))
      have HC7 := Lib.hid ((hb7.block k hkid).trans HCA.out)
      have hb57 := HBI.out.trans hb7
      have HI7 := Lib.hid (HI5.out.below hb57 (Nat.le_of_eq HID.out.symm))
      have HF7 := Lib.hid (HF5.out.below (hb57.mono (Nat.le_of_eq HID.out.symm)))
      have hz7 : id < w7.heap.size := Nat.lt_of_lt_of_le hidA hb7.size
      clear hb7 hT7 hb57
      go_upto_region 9 with fail
      have n3 := cell_of_heap HC7.out 3
      have f3 := frozen_of_heap HC7.out 3
      have hkw7 : k < w7.heap.size := (Array.getElem?_eq_some_iff.1 HC7.out).1
      have HWZ := Lib.hid (show k + 1 ≤ w7.heap.size by omega)
      have HTD := Lib.hid (HT7.out.below ((Below.refl w7.heap.size w7).drew) hz7 (by omega))
      go_region_law (first
        | (rw [if_pos (by rfl)]; go_simp; go_at_call 69; refine (HPJ.out _ id HTD.out).mono ?_; rintro e w8 ⟨k8, rfl, hR8, hb8⟩; have HR8 := Lib.hid hR8; have HB8 := Lib.hid hb8; have kk8 : ∀ z, w8.cell? ⟨k, z, none⟩ = w7.drew.cell? ⟨k, z, none⟩ := fun z => hb8.cell (p := ⟨k, z, none⟩) hkw7; have kf8 : ∀ z, w8.frozen? ⟨k, z, none⟩ = w7.drew.frozen? ⟨k, z, none⟩ := fun z => hb8.frozen (p := ⟨k, z, none⟩) hkw7; have HI8 := Lib.hid (HI7.out.below ((Below.refl w7.heap.size w7).drew.trans hb8) (Nat.le_refl _)); have HF8 := Lib.hid (HF7.out.below ((Below.refl w7.heap.size w7).drew.trans hb8)); obtain ⟨ks, hown8, hks8⟩ := HI8.out; have HKS8 := Lib.hid hks8; have HOW := Lib.hid (hown8.alloc (.cells #[.pointer (some ⟨k8, 0, none⟩)] 274)); have hz8 : w7.heap.size ≤ w8.heap.size := hb8.size; have hkne8 : ¬ k = w8.heap.size := (by omega); have hkne9 : ¬ w8.heap.size = k := (by omega); have kA8 : (w8.alloc (.cells #[.pointer (some ⟨k8, 0, none⟩)] 274)).cell? ⟨k, 3, none⟩ = some (.slice so j sc) := (World.cell?_of_block (Below.heap_alloc w8 _ k (by omega))).trans ((kk8 3).trans n3); have HNE : Hid (some k ≠ (Value.slice so j sc).ownBlock) := Lib.hid (fun e => by have := (World.ownsRow.lt hown8 k e.symm).1; omega); clear hR8 hb8 hks8 hown8; dsimp only)
        | (refine step_append_lies _ rfl _ _ 60 rfl (k + 1) 274 i0 (.pointer none) 1 8 undP52 hi hz0 hz1 hz2 rfl (by decide) (.slice so j sc) j _ rfl HOW.out ⟨w8.heap.size, 0, none⟩ 1 1 [.pointer (some ⟨k8, 0, none⟩)] rfl rfl (one_ptr _ _ _) (by intro u hu; simp at hu; subst hu; rfl) (by decide) (by unfold maxLen; omega) (by omega) (by have := HWZ.out; simp; omega) _ rfl ?_; intro g cap2 w9 hown9 hgrow hat hglt; have y3 := (hgrow.cell_far ⟨k, 3, none⟩ (show k < (w8.alloc (.cells #[.pointer (some ⟨k8, 0, none⟩)] 274)).heap.size by simp; omega) HNE.out).trans ((World.cell?_of_block (Below.heap_alloc w8 _ k (by omega))).trans (kk8 3)); have yf3 := (hgrow.frozen_far ⟨k, 3, none⟩ (show k < (w8.alloc (.cells #[.pointer (some ⟨k8, 0, none⟩)] 274)).heap.size by simp; omega) HNE.out).trans ((World.frozen?_of_block (Below.heap_alloc w8 _ k (by omega))).trans (kf8 3))))
      all_goals
        have hkA : k < (w8.alloc (.cells #[.pointer (some ⟨k8, 0, none⟩)] 274)).heap.size := by simp; omega
        have hb78 : Below w7.heap.size w7 w8 := (Below.refl w7.heap.size w7).drew.trans HB8.out
        have h9k := (hgrow.block k hkA HNE.out).trans ((Below.heap_alloc w8 _ k (by omega)).trans ((hb78.block k hkw7).trans HC7.out))
        have hat' : (Value.slice so j sc).ownBlock = some g ∨ g = (w8.alloc (.cells #[.pointer (some ⟨k8, 0, none⟩)] 274)).heap.size := hat.imp (fun h => h) (fun h => by simpa using h)
        have hR8 : RepT (fun c => k + 1 ≤ c ∧ some c ≠ (Value.slice so j sc).ownBlock) d w8 sj k8 := HR8.out.mono fun c hc => ⟨Nat.le_trans HWZ.out hc, fun e => by
          obtain ⟨_, h1, -⟩ := HI7.out
          have h2 := (World.ownsRow.lt h1 c e.symm).2
          have hc : w7.heap.size ≤ c := hc
          omega⟩
        have HNX := Lib.hid (TyList.next (b := k) (o := 3) (.slice (some ⟨g, 0, none⟩) (j + 1 : Nat) cap2) HKS8.out HSJ.out hR8 hown9 hgrow hat' (Nat.lt_succ_self k))
        have HK9 := Lib.hid (set_heap h9k 3 (.slice (some ⟨g, 0, none⟩) (j + 1 : Nat) cap2))
        have HF9 := Lib.hid (HF8.out.carry (next_carry (b := k) (o := 3) (cap := cap2) (.slice (some ⟨g, 0, none⟩) (j + 1 : Nat) cap2) hgrow hat' (Nat.lt_succ_self k)))
        have HB9 := Lib.hid ((((HB7.out.trans (hb78.mono HB7.out.size)).alloc (Nat.le_trans HB7.out.size hz8) (.cells #[.pointer (some ⟨k8, 0, none⟩)] 274)).grown hgrow (Nat.le_trans HB7.out.size (by simp; omega)) (fun q hq => by have := (World.ownsRow.lt HOW.out q hq).1; omega)).setCell (p := ⟨k, 3, none⟩) hkz (.slice (some ⟨g, 0, none⟩) (j + 1 : Nat) cap2))
        clear hkA hb78 h9k hR8 hat' hown9 hgrow hat kk8 kf8 y3 yf3 kA8 n3 f3
        go_wp2_with fail
        go_roundg (nn - (j + 1))
        case measure => have := HGK.out; omega
        case rel => exact ⟨j + 1, some ⟨g, 0, none⟩, cap2, by omega, rfl, by go_num, HK9, HF9, HNX, HB9⟩
    · obtain rfl : j = nn := by omega
      have HTj := Lib.hid (HT0.out.below HBj.out htb hrb)
      go_wp2_with fail
      refine (FunctionType_ParametersLength tb rb cap p B ps v hv hv0 _ HTj.out ht vl vq vd j hvd (by omega) hvn).mono ?_
      rintro e w5 ⟨rfl, m5, rfl⟩
      have hb5 := below_drewN' (Below.refl wr.heap.size wr) m5
      have HI5 := Lib.hid (HIj.out.below hb5 (Nat.le_refl _))
      have HC5 := Lib.hid ((hb5.block k (Array.getElem?_eq_some_iff.1 HCj.out).1).trans HCj.out)
      have HF5 := Lib.hid (HFj.out.below hb5)
      have HB5 := Lib.hid (HBj.out.trans (hb5.mono HBj.out.size))
      clear hb5
      generalize wr.drewN m5 = V5 at *
      go_wp2_with fail
      go_ret
      have hnn := HNN.out
      have hle : ∀ c, From (k + 1) c → From w.heap.size c := fun c hc => Nat.le_trans (Nat.le_succ_of_le hkz) hc
      have hL := (HI5.out.done hnn).carry (A' := From w.heap.size) (T' := RepT (From w.heap.size) d) (fun b o h1 h2 => ⟨h2, hle b h1⟩) (fun z q hq => hq.mono hle)
      subst hnn
      exact ⟨k, rfl, ⟨hkz, _, _, HC5.out, .inr (.inr (.inr (.inr (.inr (.inr (.inl ⟨hk, rfl, x, xs, so, sc, .iface (tTy x.kind) (.pointer (some ⟨kc0, 0, none⟩)), hkx, rfl, hL, HF5.out.mono fun c hc => hle c hc.1⟩))))))⟩, HB5.out⟩

set_option maxHeartbeats 1000000 in
set_option maxRecDepth 100000 in
theorem dec_45 (d : Nat) (hF : FromC 102 (.agg #[.pointer none, .slice none 0 0, .slice none 0 0, .pointer none]) d 45) (n : Nd) (tb rb cap p : Nat) (B : By) (w : World) (hk : n.kind = 45) (hT : TyP d n) (hR : TyR d n B p) (h : TabIn w tb 0 rb cap B p) :
    Calls Tryz.prog 53 #[.pointer (some ⟨tb, 0, none⟩), .int .u8 1] w fun e w' => ∃ k, e = .returned (.iface 304 (.pointer (some ⟨k, 0, none⟩))) ∧ RepT (From w.heap.size) d w' n k ∧ Below w.heap.size w w' := by
  have htb : tb < w.heap.size := World.block_lt_of_cell? w _ h.hs
  have hrb : rb < w.heap.size := h.hi.lt (by have := h.hq; omega)
  have HF := Lib.hid (fun (tb' : Nat) (w' : World) (h' : TabIn w' tb' 0 rb cap B p) => hF n tb' rb cap p B w' hk hT hR h')
  have hs := h.hs
  have hp : w.cell? ⟨tb, 1, none⟩ = some (.int .u32 (p : Nat)) := h.hp
  have HT := Lib.hid h
  clear hF h hR hT
  go_enter Tryz.func53, Tryz.ntmps53
  go_upto_region 5 with fail
  obtain ⟨ka0, ka1, kf0, kf1⟩ := two_new w (.slice none 0 0) (.int .u32 0) 339
  have HBA := Lib.hid (Below.alloc (Below.refl w.heap.size w) (Nat.le_refl _) (.cells #[.slice none 0 0, .int .u32 0] 339))
  have hsA := (HBA.out.cell (p := ⟨tb, 0, none⟩) htb).trans hs
  have hpA := (HBA.out.cell (p := ⟨tb, 1, none⟩) htb).trans hp
  obtain ⟨k, hk0⟩ : ∃ k, k = w.heap.size := ⟨_, rfl⟩
  rw [← hk0] at ka0 ka1 kf0 kf1 ⊢
  have HK := Lib.hid hk0
  clear hk0 hs hp
  generalize w.alloc (.cells #[.slice none 0 0, .int .u32 0] 339) = U at *
  have HI := Lib.hid ((HT.out.hi).below HBA.out hrb)
  have HKA := Lib.hid (And.intro ka0 (And.intro ka1 (And.intro kf0 kf1)))
  clear ka0 ka1 kf0 kf1
  go_region_held3 (fun w' => (w'.cell? ⟨tb, 0, none⟩ = some (.slice (some ⟨rb, 0, none⟩) (B.length : Nat) cap) ∧ w'.cell? ⟨tb, 1, none⟩ = some (.int .u32 (p : Nat)))) (go_keep) (first | (go_at_call 101; refine (init_NamedType k rb cap p B _ _ _ (by exact HKA.out.1) (by exact HKA.out.2.1) (by exact HKA.out.2.2.1) (by exact HKA.out.2.2.2) (by exact HI.out) (by have := HK.out; omega) HT.out.hc HT.out.hl HT.out.hq).mono ?_; rintro e w2 ⟨rfl, hT2, hb2⟩; have ht0 := hb2.cell (p := ⟨tb, 0, none⟩) (show tb < k by have := HK.out; omega); have ht1 := hb2.cell (p := ⟨tb, 1, none⟩) (show tb < k by have := HK.out; omega)))
  have HT2 := Lib.hid hT2
  have HB2 : Hid (Below w.heap.size w w2) := Lib.hid (HBA.out.trans (Below.trans (show Below w.heap.size U _ from (Below.refl w.heap.size U).drew) (hb2.mono (Nat.le_of_eq HK.out.symm))))
  clear hT2 hb2 ht0 ht1
  go_wp2_with fail
  refine (HF.out k w2 HT2.out).mono ?_
  rintro e w3 ⟨k3, rfl, hR3, hb3⟩
  have HR3 := Lib.hid hR3
  have HB3 := Lib.hid (HB2.out.trans (hb3.mono HB2.out.size))
  have HZ := Lib.hid HB2.out.size
  clear hR3 hb3
  go_wp2_with fail
  go_ret
  exact ⟨k3, rfl, HR3.out.mono (From.le HZ.out), HB3.out⟩

set_option maxHeartbeats 1000000 in
set_option maxRecDepth 100000 in
theorem dec_46 (d : Nat) (hF : FromC 104 (.agg #[.pointer none, .slice none 0 0, .slice none 0 0, .pointer none]) d 46) (n : Nd) (tb rb cap p : Nat) (B : By) (w : World) (hk : n.kind = 46) (hT : TyP d n) (hR : TyR d n B p) (h : TabIn w tb 0 rb cap B p) :
    Calls Tryz.prog 53 #[.pointer (some ⟨tb, 0, none⟩), .int .u8 2] w fun e w' => ∃ k, e = .returned (.iface 307 (.pointer (some ⟨k, 0, none⟩))) ∧ RepT (From w.heap.size) d w' n k ∧ Below w.heap.size w w' := by
  have htb : tb < w.heap.size := World.block_lt_of_cell? w _ h.hs
  have hrb : rb < w.heap.size := h.hi.lt (by have := h.hq; omega)
  have HF := Lib.hid (fun (tb' : Nat) (w' : World) (h' : TabIn w' tb' 0 rb cap B p) => hF n tb' rb cap p B w' hk hT hR h')
  have hs := h.hs
  have hp : w.cell? ⟨tb, 1, none⟩ = some (.int .u32 (p : Nat)) := h.hp
  have HT := Lib.hid h
  clear hF h hR hT
  go_enter Tryz.func53, Tryz.ntmps53
  go_upto_region 9 with fail
  obtain ⟨ka0, ka1, kf0, kf1⟩ := two_new w (.slice none 0 0) (.int .u32 0) 342
  have HBA := Lib.hid (Below.alloc (Below.refl w.heap.size w) (Nat.le_refl _) (.cells #[.slice none 0 0, .int .u32 0] 342))
  have hsA := (HBA.out.cell (p := ⟨tb, 0, none⟩) htb).trans hs
  have hpA := (HBA.out.cell (p := ⟨tb, 1, none⟩) htb).trans hp
  obtain ⟨k, hk0⟩ : ∃ k, k = w.heap.size := ⟨_, rfl⟩
  rw [← hk0] at ka0 ka1 kf0 kf1 ⊢
  have HK := Lib.hid hk0
  clear hk0 hs hp
  generalize w.alloc (.cells #[.slice none 0 0, .int .u32 0] 342) = U at *
  have HI := Lib.hid ((HT.out.hi).below HBA.out hrb)
  have HKA := Lib.hid (And.intro ka0 (And.intro ka1 (And.intro kf0 kf1)))
  clear ka0 ka1 kf0 kf1
  go_region_held3 (fun w' => (w'.cell? ⟨tb, 0, none⟩ = some (.slice (some ⟨rb, 0, none⟩) (B.length : Nat) cap) ∧ w'.cell? ⟨tb, 1, none⟩ = some (.int .u32 (p : Nat)))) (go_keep) (first | (go_at_call 103; refine (init_TvarType k rb cap p B _ _ _ (by exact HKA.out.1) (by exact HKA.out.2.1) (by exact HKA.out.2.2.1) (by exact HKA.out.2.2.2) (by exact HI.out) (by have := HK.out; omega) HT.out.hc HT.out.hl HT.out.hq).mono ?_; rintro e w2 ⟨rfl, hT2, hb2⟩; have ht0 := hb2.cell (p := ⟨tb, 0, none⟩) (show tb < k by have := HK.out; omega); have ht1 := hb2.cell (p := ⟨tb, 1, none⟩) (show tb < k by have := HK.out; omega)))
  have HT2 := Lib.hid hT2
  have HB2 : Hid (Below w.heap.size w w2) := Lib.hid (HBA.out.trans (Below.trans (show Below w.heap.size U _ from (Below.refl w.heap.size U).drew) (hb2.mono (Nat.le_of_eq HK.out.symm))))
  clear hT2 hb2 ht0 ht1
  go_wp2_with fail
  refine (HF.out k w2 HT2.out).mono ?_
  rintro e w3 ⟨k3, rfl, hR3, hb3⟩
  have HR3 := Lib.hid hR3
  have HB3 := Lib.hid (HB2.out.trans (hb3.mono HB2.out.size))
  have HZ := Lib.hid HB2.out.size
  clear hR3 hb3
  go_wp2_with fail
  go_ret
  exact ⟨k3, rfl, HR3.out.mono (From.le HZ.out), HB3.out⟩

set_option maxHeartbeats 1000000 in
set_option maxRecDepth 100000 in
theorem dec_47 (d : Nat) (hF : FromC 18 (.agg #[.pointer none, .slice none 0 0, .slice none 0 0, .nilIface]) d 47) (n : Nd) (tb rb cap p : Nat) (B : By) (w : World) (hk : n.kind = 47) (hT : TyP d n) (hR : TyR d n B p) (h : TabIn w tb 0 rb cap B p) :
    Calls Tryz.prog 53 #[.pointer (some ⟨tb, 0, none⟩), .int .u8 3] w fun e w' => ∃ k, e = .returned (.iface 38 (.pointer (some ⟨k, 0, none⟩))) ∧ RepT (From w.heap.size) d w' n k ∧ Below w.heap.size w w' := by
  have htb : tb < w.heap.size := World.block_lt_of_cell? w _ h.hs
  have hrb : rb < w.heap.size := h.hi.lt (by have := h.hq; omega)
  have HF := Lib.hid (fun (tb' : Nat) (w' : World) (h' : TabIn w' tb' 0 rb cap B p) => hF n tb' rb cap p B w' hk hT hR h')
  have hs := h.hs
  have hp : w.cell? ⟨tb, 1, none⟩ = some (.int .u32 (p : Nat)) := h.hp
  have HT := Lib.hid h
  clear hF h hR hT
  go_enter Tryz.func53, Tryz.ntmps53
  go_upto_region 13 with fail
  obtain ⟨ka0, ka1, kf0, kf1⟩ := two_new w (.slice none 0 0) (.int .u32 0) 258
  have HBA := Lib.hid (Below.alloc (Below.refl w.heap.size w) (Nat.le_refl _) (.cells #[.slice none 0 0, .int .u32 0] 258))
  have hsA := (HBA.out.cell (p := ⟨tb, 0, none⟩) htb).trans hs
  have hpA := (HBA.out.cell (p := ⟨tb, 1, none⟩) htb).trans hp
  obtain ⟨k, hk0⟩ : ∃ k, k = w.heap.size := ⟨_, rfl⟩
  rw [← hk0] at ka0 ka1 kf0 kf1 ⊢
  have HK := Lib.hid hk0
  clear hk0 hs hp
  generalize w.alloc (.cells #[.slice none 0 0, .int .u32 0] 258) = U at *
  have HI := Lib.hid ((HT.out.hi).below HBA.out hrb)
  have HKA := Lib.hid (And.intro ka0 (And.intro ka1 (And.intro kf0 kf1)))
  clear ka0 ka1 kf0 kf1
  go_region_held3 (fun w' => (w'.cell? ⟨tb, 0, none⟩ = some (.slice (some ⟨rb, 0, none⟩) (B.length : Nat) cap) ∧ w'.cell? ⟨tb, 1, none⟩ = some (.int .u32 (p : Nat)))) (go_keep) (first | (go_at_call 58; refine (init_ArrayType k rb cap p B _ _ _ (by exact HKA.out.1) (by exact HKA.out.2.1) (by exact HKA.out.2.2.1) (by exact HKA.out.2.2.2) (by exact HI.out) (by have := HK.out; omega) HT.out.hc HT.out.hl HT.out.hq).mono ?_; rintro e w2 ⟨rfl, hT2, hb2⟩; have ht0 := hb2.cell (p := ⟨tb, 0, none⟩) (show tb < k by have := HK.out; omega); have ht1 := hb2.cell (p := ⟨tb, 1, none⟩) (show tb < k by have := HK.out; omega)))
  have HT2 := Lib.hid hT2
  have HB2 : Hid (Below w.heap.size w w2) := Lib.hid (HBA.out.trans (Below.trans (show Below w.heap.size U _ from (Below.refl w.heap.size U).drew) (hb2.mono (Nat.le_of_eq HK.out.symm))))
  clear hT2 hb2 ht0 ht1
  go_wp2_with fail
  refine (HF.out k w2 HT2.out).mono ?_
  rintro e w3 ⟨k3, rfl, hR3, hb3⟩
  have HR3 := Lib.hid hR3
  have HB3 := Lib.hid (HB2.out.trans (hb3.mono HB2.out.size))
  have HZ := Lib.hid HB2.out.size
  clear hR3 hb3
  go_wp2_with fail
  go_ret
  exact ⟨k3, rfl, HR3.out.mono (From.le HZ.out), HB3.out⟩

set_option maxHeartbeats 1000000 in
set_option maxRecDepth 100000 in
theorem dec_48 (d : Nat) (hF : FromC 106 (.agg #[.pointer none, .slice none 0 0, .slice none 0 0, .nilIface, .nilIface]) d 48) (n : Nd) (tb rb cap p : Nat) (B : By) (w : World) (hk : n.kind = 48) (hT : TyP d n) (hR : TyR d n B p) (h : TabIn w tb 0 rb cap B p) :
    Calls Tryz.prog 53 #[.pointer (some ⟨tb, 0, none⟩), .int .u8 4] w fun e w' => ∃ k, e = .returned (.iface 309 (.pointer (some ⟨k, 0, none⟩))) ∧ RepT (From w.heap.size) d w' n k ∧ Below w.heap.size w w' := by
  have htb : tb < w.heap.size := World.block_lt_of_cell? w _ h.hs
  have hrb : rb < w.heap.size := h.hi.lt (by have := h.hq; omega)
  have HF := Lib.hid (fun (tb' : Nat) (w' : World) (h' : TabIn w' tb' 0 rb cap B p) => hF n tb' rb cap p B w' hk hT hR h')
  have hs := h.hs
  have hp : w.cell? ⟨tb, 1, none⟩ = some (.int .u32 (p : Nat)) := h.hp
  have HT := Lib.hid h
  clear hF h hR hT
  go_enter Tryz.func53, Tryz.ntmps53
  go_upto_region 17 with fail
  obtain ⟨ka0, ka1, kf0, kf1⟩ := two_new w (.slice none 0 0) (.int .u32 0) 345
  have HBA := Lib.hid (Below.alloc (Below.refl w.heap.size w) (Nat.le_refl _) (.cells #[.slice none 0 0, .int .u32 0] 345))
  have hsA := (HBA.out.cell (p := ⟨tb, 0, none⟩) htb).trans hs
  have hpA := (HBA.out.cell (p := ⟨tb, 1, none⟩) htb).trans hp
  obtain ⟨k, hk0⟩ : ∃ k, k = w.heap.size := ⟨_, rfl⟩
  rw [← hk0] at ka0 ka1 kf0 kf1 ⊢
  have HK := Lib.hid hk0
  clear hk0 hs hp
  generalize w.alloc (.cells #[.slice none 0 0, .int .u32 0] 345) = U at *
  have HI := Lib.hid ((HT.out.hi).below HBA.out hrb)
  have HKA := Lib.hid (And.intro ka0 (And.intro ka1 (And.intro kf0 kf1)))
  clear ka0 ka1 kf0 kf1
  go_region_held3 (fun w' => (w'.cell? ⟨tb, 0, none⟩ = some (.slice (some ⟨rb, 0, none⟩) (B.length : Nat) cap) ∧ w'.cell? ⟨tb, 1, none⟩ = some (.int .u32 (p : Nat)))) (go_keep) (first | (go_at_call 105; refine (init_DictType k rb cap p B _ _ _ (by exact HKA.out.1) (by exact HKA.out.2.1) (by exact HKA.out.2.2.1) (by exact HKA.out.2.2.2) (by exact HI.out) (by have := HK.out; omega) HT.out.hc HT.out.hl HT.out.hq).mono ?_; rintro e w2 ⟨rfl, hT2, hb2⟩; have ht0 := hb2.cell (p := ⟨tb, 0, none⟩) (show tb < k by have := HK.out; omega); have ht1 := hb2.cell (p := ⟨tb, 1, none⟩) (show tb < k by have := HK.out; omega)))
  have HT2 := Lib.hid hT2
  have HB2 : Hid (Below w.heap.size w w2) := Lib.hid (HBA.out.trans (Below.trans (show Below w.heap.size U _ from (Below.refl w.heap.size U).drew) (hb2.mono (Nat.le_of_eq HK.out.symm))))
  clear hT2 hb2 ht0 ht1
  go_wp2_with fail
  refine (HF.out k w2 HT2.out).mono ?_
  rintro e w3 ⟨k3, rfl, hR3, hb3⟩
  have HR3 := Lib.hid hR3
  have HB3 := Lib.hid (HB2.out.trans (hb3.mono HB2.out.size))
  have HZ := Lib.hid HB2.out.size
  clear hR3 hb3
  go_wp2_with fail
  go_ret
  exact ⟨k3, rfl, HR3.out.mono (From.le HZ.out), HB3.out⟩

set_option maxHeartbeats 1000000 in
set_option maxRecDepth 100000 in
theorem dec_49 (d : Nat) (hF : FromC 25 (.agg #[.pointer none, .slice none 0 0, .slice none 0 0, .slice none 0 0, .pointer none]) d 49) (n : Nd) (tb rb cap p : Nat) (B : By) (w : World) (hk : n.kind = 49) (hT : TyP d n) (hR : TyR d n B p) (h : TabIn w tb 0 rb cap B p) :
    Calls Tryz.prog 53 #[.pointer (some ⟨tb, 0, none⟩), .int .u8 5] w fun e w' => ∃ k, e = .returned (.iface 66 (.pointer (some ⟨k, 0, none⟩))) ∧ RepT (From w.heap.size) d w' n k ∧ Below w.heap.size w w' := by
  have htb : tb < w.heap.size := World.block_lt_of_cell? w _ h.hs
  have hrb : rb < w.heap.size := h.hi.lt (by have := h.hq; omega)
  have HF := Lib.hid (fun (tb' : Nat) (w' : World) (h' : TabIn w' tb' 0 rb cap B p) => hF n tb' rb cap p B w' hk hT hR h')
  have hs := h.hs
  have hp : w.cell? ⟨tb, 1, none⟩ = some (.int .u32 (p : Nat)) := h.hp
  have HT := Lib.hid h
  clear hF h hR hT
  go_enter Tryz.func53, Tryz.ntmps53
  go_upto_region 21 with fail
  obtain ⟨ka0, ka1, kf0, kf1⟩ := two_new w (.slice none 0 0) (.int .u32 0) 290
  have HBA := Lib.hid (Below.alloc (Below.refl w.heap.size w) (Nat.le_refl _) (.cells #[.slice none 0 0, .int .u32 0] 290))
  have hsA := (HBA.out.cell (p := ⟨tb, 0, none⟩) htb).trans hs
  have hpA := (HBA.out.cell (p := ⟨tb, 1, none⟩) htb).trans hp
  obtain ⟨k, hk0⟩ : ∃ k, k = w.heap.size := ⟨_, rfl⟩
  rw [← hk0] at ka0 ka1 kf0 kf1 ⊢
  have HK := Lib.hid hk0
  clear hk0 hs hp
  generalize w.alloc (.cells #[.slice none 0 0, .int .u32 0] 290) = U at *
  have HI := Lib.hid ((HT.out.hi).below HBA.out hrb)
  have HKA := Lib.hid (And.intro ka0 (And.intro ka1 (And.intro kf0 kf1)))
  clear ka0 ka1 kf0 kf1
  go_region_held3 (fun w' => (w'.cell? ⟨tb, 0, none⟩ = some (.slice (some ⟨rb, 0, none⟩) (B.length : Nat) cap) ∧ w'.cell? ⟨tb, 1, none⟩ = some (.int .u32 (p : Nat)))) (go_keep) (first | (go_at_call 77; refine (init_RecordType k rb cap p B _ _ _ (by exact HKA.out.1) (by exact HKA.out.2.1) (by exact HKA.out.2.2.1) (by exact HKA.out.2.2.2) (by exact HI.out) (by have := HK.out; omega) HT.out.hc HT.out.hl HT.out.hq).mono ?_; rintro e w2 ⟨rfl, hT2, hb2⟩; have ht0 := hb2.cell (p := ⟨tb, 0, none⟩) (show tb < k by have := HK.out; omega); have ht1 := hb2.cell (p := ⟨tb, 1, none⟩) (show tb < k by have := HK.out; omega)))
  have HT2 := Lib.hid hT2
  have HB2 : Hid (Below w.heap.size w w2) := Lib.hid (HBA.out.trans (Below.trans (show Below w.heap.size U _ from (Below.refl w.heap.size U).drew) (hb2.mono (Nat.le_of_eq HK.out.symm))))
  clear hT2 hb2 ht0 ht1
  go_wp2_with fail
  refine (HF.out k w2 HT2.out).mono ?_
  rintro e w3 ⟨k3, rfl, hR3, hb3⟩
  have HR3 := Lib.hid hR3
  have HB3 := Lib.hid (HB2.out.trans (hb3.mono HB2.out.size))
  have HZ := Lib.hid HB2.out.size
  clear hR3 hb3
  go_wp2_with fail
  go_ret
  exact ⟨k3, rfl, HR3.out.mono (From.le HZ.out), HB3.out⟩

set_option maxHeartbeats 1000000 in
set_option maxRecDepth 100000 in
theorem dec_51 (d : Nat) (hF : FromC 23 (.agg #[.pointer none, .slice none 0 0, .slice none 0 0, .slice none 0 0, .nilIface]) d 51) (n : Nd) (tb rb cap p : Nat) (B : By) (w : World) (hk : n.kind = 51) (hT : TyP d n) (hR : TyR d n B p) (h : TabIn w tb 0 rb cap B p) :
    Calls Tryz.prog 53 #[.pointer (some ⟨tb, 0, none⟩), .int .u8 6] w fun e w' => ∃ k, e = .returned (.iface 59 (.pointer (some ⟨k, 0, none⟩))) ∧ RepT (From w.heap.size) d w' n k ∧ Below w.heap.size w w' := by
  have htb : tb < w.heap.size := World.block_lt_of_cell? w _ h.hs
  have hrb : rb < w.heap.size := h.hi.lt (by have := h.hq; omega)
  have HF := Lib.hid (fun (tb' : Nat) (w' : World) (h' : TabIn w' tb' 0 rb cap B p) => hF n tb' rb cap p B w' hk hT hR h')
  have hs := h.hs
  have hp : w.cell? ⟨tb, 1, none⟩ = some (.int .u32 (p : Nat)) := h.hp
  have HT := Lib.hid h
  clear hF h hR hT
  go_enter Tryz.func53, Tryz.ntmps53
  go_upto_region 25 with fail
  obtain ⟨ka0, ka1, kf0, kf1⟩ := two_new w (.slice none 0 0) (.int .u32 0) 279
  have HBA := Lib.hid (Below.alloc (Below.refl w.heap.size w) (Nat.le_refl _) (.cells #[.slice none 0 0, .int .u32 0] 279))
  have hsA := (HBA.out.cell (p := ⟨tb, 0, none⟩) htb).trans hs
  have hpA := (HBA.out.cell (p := ⟨tb, 1, none⟩) htb).trans hp
  obtain ⟨k, hk0⟩ : ∃ k, k = w.heap.size := ⟨_, rfl⟩
  rw [← hk0] at ka0 ka1 kf0 kf1 ⊢
  have HK := Lib.hid hk0
  clear hk0 hs hp
  generalize w.alloc (.cells #[.slice none 0 0, .int .u32 0] 279) = U at *
  have HI := Lib.hid ((HT.out.hi).below HBA.out hrb)
  have HKA := Lib.hid (And.intro ka0 (And.intro ka1 (And.intro kf0 kf1)))
  clear ka0 ka1 kf0 kf1
  go_region_held3 (fun w' => (w'.cell? ⟨tb, 0, none⟩ = some (.slice (some ⟨rb, 0, none⟩) (B.length : Nat) cap) ∧ w'.cell? ⟨tb, 1, none⟩ = some (.int .u32 (p : Nat)))) (go_keep) (first | (go_at_call 70; refine (init_FunctionType k rb cap p B _ _ _ (by exact HKA.out.1) (by exact HKA.out.2.1) (by exact HKA.out.2.2.1) (by exact HKA.out.2.2.2) (by exact HI.out) (by have := HK.out; omega) HT.out.hc HT.out.hl HT.out.hq).mono ?_; rintro e w2 ⟨rfl, hT2, hb2⟩; have ht0 := hb2.cell (p := ⟨tb, 0, none⟩) (show tb < k by have := HK.out; omega); have ht1 := hb2.cell (p := ⟨tb, 1, none⟩) (show tb < k by have := HK.out; omega)))
  have HT2 := Lib.hid hT2
  have HB2 : Hid (Below w.heap.size w w2) := Lib.hid (HBA.out.trans (Below.trans (show Below w.heap.size U _ from (Below.refl w.heap.size U).drew) (hb2.mono (Nat.le_of_eq HK.out.symm))))
  clear hT2 hb2 ht0 ht1
  go_wp2_with fail
  refine (HF.out k w2 HT2.out).mono ?_
  rintro e w3 ⟨k3, rfl, hR3, hb3⟩
  have HR3 := Lib.hid hR3
  have HB3 := Lib.hid (HB2.out.trans (hb3.mono HB2.out.size))
  have HZ := Lib.hid HB2.out.size
  clear hR3 hb3
  go_wp2_with fail
  go_ret
  exact ⟨k3, rfl, HR3.out.mono (From.le HZ.out), HB3.out⟩

end Go.Proofs.YtcbcdgifakcooaaGreatDoor
