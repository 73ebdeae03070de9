/-
  A flatbuffer's locations, read: the places are none, so they are zero and not valid. No conditions.
-/
import Derived.Test.YtcbcdgifakcooaaGreatDoorRoot
namespace Go.Proofs.YtcbcdgifakcooaaGreatDoor
open Go.RowKit
set_option linter.unusedVariables false
set_option linter.unusedSimpArgs false

/-- What stands in a cell already is stored: nothing changes. -/
theorem setCell_self {w : World} {a : Addr} {v : Value} (h : w.cell? a = some v) : w.setCell a v = w := by
  have e : (w.heap.modify a.block fun
      | .cells c elem frozen => .cells (if a.spot.isSome then c else c.setIfInBounds a.off v) elem frozen
      | o => o) = w.heap := by
    apply Array.ext_getElem?
    intro i
    rw [Array.getElem?_modify]
    split
    · rename_i hi
      subst hi
      unfold World.cell? at h
      split at h
      · rename_i c t fr hh
        rw [hh]
        split at h
        · cases h
        · rename_i hs
          simp only [Option.map_some, hs]
          congr 1
          congr 1
          apply Array.ext_getElem?
          intro j
          simp only [Bool.false_eq_true, if_false]
          rw [Array.getElem?_setIfInBounds]
          split
          · rename_i hj
            subst hj
            split
            · exact h.symm
            · rename_i hb
              rw [Array.getElem?_eq_none (by omega)] at h
              cases h
          · rfl
      · cases h
    · rfl
  exact congrArg (fun h => ({ w with heap := h } : World)) e

/-- A place of zeros. -/
structure ZeroAt (B : By) (p : Nat) : Prop where
  l : p + 8 ≤ B.length
  a : leAt B p 4 = 0
  b : leAt B (p + 4) 4 = 0

set_option maxRecDepth 100000 in
theorem posBuf_any (db o tb rb cap p : Nat) (B : By) (hz : ZeroAt B p) (w : World) (h : TabIn w tb 0 rb cap B p) (h0 : w.cell? ⟨db, o, none⟩ = some (.int .i64 0)) (h1 : w.cell? ⟨db, o + 1, none⟩ = some (.int .i64 0)) (f0 : w.frozen? ⟨db, o, none⟩ = false) (f1 : w.frozen? ⟨db, o + 1, none⟩ = false) :
    Calls Tryz.prog 151 #[.pointer (some ⟨db, o, none⟩), .pointer (some ⟨tb, 0, none⟩)] w fun e w' => e = .returned (.tuple #[]) ∧ ∃ m, w' = w.drewN m := by
  go_enter Tryz.func151, Tryz.ntmps151
  go_wp2_with fail
  refine (Position_Line tb rb cap p B w h (by have := hz.l; omega)).mono ?_
  rintro e w1 ⟨rfl, m, rfl⟩
  rw [show p + 0 = p from rfl, hz.a]
  have hs0 : (w.drewN m).setCell ⟨db, o, none⟩ (.int .i64 0) = w.drewN m := setCell_self h0
  go_wp2_with fail
  refine (Position_Column tb rb cap p B _ (h.drew m) (by have := hz.l; omega)).mono ?_
  rintro e w1 ⟨rfl, m2, rfl⟩
  rw [hz.b]
  have hs1 : (w.drewN (m + m2)).setCell ⟨db, o + 1, none⟩ (.int .i64 0) = w.drewN (m + m2) := setCell_self h1
  go_wp2_with fail
  go_end0
  exact ⟨rfl, _, rfl⟩

theorem block_ne {w : World} {rb db o : Nat} {B : By} {s : ByteArray} (h : BufIn w rb B) (h0 : 0 < B.length) (hd : w.cell? ⟨db, 0, none⟩ = some (.string s)) : rb ≠ db := by
  rintro rfl
  have h1 := h 0 (B[0]'h0) (List.getElem?_eq_getElem h0)
  rw [hd] at h1
  cases h1

/-- A location whose places are none. -/
structure LocAt (B : By) (p : Nat) : Prop where
  t : TabAt B p [0, 8, 16]
  a : ZeroAt B (8 + p)
  b : ZeroAt B (16 + p)

/-- The empty location lies in a block. -/
structure LocIn (w : World) (k : Nat) : Prop where
  c0 : w.cell? ⟨k, 0, none⟩ = some (.string ⟨#[]⟩)
  c1 : w.cell? ⟨k, 1, none⟩ = some (.int .i64 0)
  c2 : w.cell? ⟨k, 2, none⟩ = some (.int .i64 0)
  c3 : w.cell? ⟨k, 3, none⟩ = some (.int .i64 0)
  c4 : w.cell? ⟨k, 4, none⟩ = some (.int .i64 0)
  c5 : w.cell? ⟨k, 5, none⟩ = some (.string ⟨#[]⟩)
  f : ∀ o, w.frozen? ⟨k, o, none⟩ = false

theorem LocIn.below {w w' : World} {k K : Nat} (h : LocIn w k) (hb : Below K w w') (hk : k < K) : LocIn w' k :=
  have e : ∀ o, w'.cell? ⟨k, o, none⟩ = w.cell? ⟨k, o, none⟩ := fun o => hb.cell (p := ⟨k, o, none⟩) hk
  ⟨(e 0).trans h.c0, (e 1).trans h.c1, (e 2).trans h.c2, (e 3).trans h.c3, (e 4).trans h.c4, (e 5).trans h.c5, fun o => (hb.frozen (p := ⟨k, o, none⟩) hk).trans (h.f o)⟩

def loc0 : Array Value := #[.string ⟨#[]⟩, .int .i64 0, .int .i64 0, .int .i64 0, .int .i64 0, .string ⟨#[]⟩]

theorem LocIn.new (w : World) (t : TypeId) : LocIn (w.alloc (.cells loc0 t)) w.heap.size := by
  refine ⟨?_, ?_, ?_, ?_, ?_, ?_, fun o => World.frozen?_alloc_at _ _ _ _ rfl⟩ <;> exact World.cell?_alloc_at _ _ _ _ rfl

theorem TabIn.below {w w' : World} {tb rb cap K : Nat} {B : By} {p : Nat} (h : TabIn w tb 0 rb cap B p) (hb : Below K w w') (ht : tb < K) (hr : rb < K) : TabIn w' tb 0 rb cap B p :=
  ⟨(hb.cell (p := ⟨tb, 0, none⟩) ht).trans h.hs, (hb.cell (p := ⟨tb, 1, none⟩) ht).trans h.hp, h.hi.below hb hr, h.hc, h.hl, h.hq⟩

set_option maxRecDepth 100000 in
theorem locBuf_any (tb rb cap p : Nat) (B : By) (hL : LocAt B p) (w : World) (h : TabIn w tb 0 rb cap B p) :
    Calls Tryz.prog 90 #[.agg loc0, .pointer (some ⟨tb, 0, none⟩)] w fun e w' => ∃ k, e = .returned (.pointer (some ⟨k, 0, none⟩)) ∧ w.heap.size ≤ k ∧ LocIn w' k ∧ Below w.heap.size w w' := by
  have htb : tb < w.heap.size := World.block_lt_of_cell? w _ h.hs
  have hrb : rb < w.heap.size := h.hi.lt (by have := h.hq; omega)
  unfold loc0
  go_enter Tryz.func90, Tryz.ntmps90
  go_upto_region 1 with fail
  have HN := Lib.hid (LocIn.new w 321)
  have HBA := Lib.hid (Below.alloc (Below.refl w.heap.size w) (Nat.le_refl _) (.cells loc0 321))
  have hsz : w.heap.size < (w.alloc (.cells loc0 321)).heap.size := by simp
  obtain ⟨k, hk⟩ : ∃ k, k = w.heap.size := ⟨_, rfl⟩
  rw [← hk] at HN hsz ⊢
  have HK := Lib.hid hk
  clear hk
  unfold loc0 at HN HBA hsz
  generalize w.alloc (.cells #[.string ⟨#[]⟩, .int .i64 0, .int .i64 0, .int .i64 0, .int .i64 0, .string ⟨#[]⟩] 321) = U at *
  have HT := Lib.hid (h.below HBA.out htb hrb)
  clear h
  have n0 := HN.out.c0
  have g0 := HN.out.f 0
  go_wp2_with fail
  refine (SourceLocation_File_none tb rb cap p B [0, 8, 16] rfl U HT.out hL.t).mono ?_
  rintro e w1 ⟨rfl, m, rfl⟩
  have s0 : (U.drewN m).setCell ⟨k, 0, none⟩ (.string ⟨#[]⟩) = U.drewN m := setCell_self n0
  have hcv : ∀ X : World, Sem.run Tryz.prog (convert 30 9 (Value.slice none 0 0)) X = .ok (.string ⟨#[]⟩) X := fun _ => by kernel_rfl
  go_wp2_with fail
  have htU : tb < U.heap.size := Nat.lt_of_lt_of_le htb HBA.out.size
  have hrU : rb < U.heap.size := Nat.lt_of_lt_of_le hrb HBA.out.size
  refine (SourceLocation_Start tb rb cap p B [0, 8, 16] 8 rfl (by decide) (U.drewN m) (HT.out.drew m) hL.t (by decide) (by have := hL.a.l; omega)).mono ?_
  rintro e w1 ⟨k1, rfl, hk1, hT1, hb1⟩
  have HB1 := Lib.hid ((below_drewN' (Below.refl U.heap.size U) m).trans hb1)
  have HN1 := Lib.hid (HN.out.below HB1.out hsz)
  have HT1 := Lib.hid (HT.out.below HB1.out htU hrU)
  have HP1 := Lib.hid hT1
  clear hT1 hb1 hk1 n0 g0 s0
  go_wp2_with fail
  refine (posBuf_any k 1 k1 rb cap (8 + p) B hL.a w1 HP1.out HN1.out.c1 HN1.out.c2 (HN1.out.f _) (HN1.out.f _)).mono ?_
  rintro e w2 ⟨rfl, m2, rfl⟩
  go_wp2_with fail
  refine (SourceLocation_End tb rb cap p B [0, 8, 16] 16 rfl (by decide) (w1.drewN m2) (HT1.out.drew m2) hL.t (by decide) (by have := hL.b.l; omega)).mono ?_
  rintro e w2 ⟨k2, rfl, hk2, hT2, hb2⟩
  have HB2 := Lib.hid ((below_drewN' HB1.out m2).trans (hb2.mono (show U.heap.size ≤ w1.heap.size from HB1.out.size)))
  have HN2 := Lib.hid (HN.out.below HB2.out hsz)
  have HT2 := Lib.hid (HT.out.below HB2.out htU hrU)
  have HP2 := Lib.hid hT2
  clear hT2 hb2 hk2
  go_wp2_with fail
  refine (posBuf_any k 3 k2 rb cap (16 + p) B hL.b w2 HP2.out HN2.out.c3 HN2.out.c4 (HN2.out.f _) (HN2.out.f _)).mono ?_
  rintro e w3 ⟨rfl, m3, rfl⟩
  go_wp2_with fail
  refine (SourceLocation_Source_none tb rb cap p B [0, 8, 16] rfl (w2.drewN m3) (HT2.out.drew m3) hL.t).mono ?_
  rintro e w4 ⟨rfl, m4, rfl⟩
  have n5 := HN2.out.c5
  have g5 := HN2.out.f 5
  have s5 : (w2.drewN (m3 + m4)).setCell ⟨k, 5, none⟩ (.string ⟨#[]⟩) = w2.drewN (m3 + m4) := setCell_self n5
  go_wp2_with fail
  go_ret
  have hB3 := below_drewN' HB2.out (m3 + m4)
  exact ⟨k, rfl, Nat.le_of_eq HK.out.symm, HN.out.below hB3 hsz, HBA.out.trans (hB3.mono HBA.out.size)⟩

end Go.Proofs.YtcbcdgifakcooaaGreatDoor
