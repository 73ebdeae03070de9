/-
  edit.DeleteProperty over an object that the call has made itself: the first property of a key is taken out of its row. No conditions.
-/
import Derived.Test.YtongafghllkomaaGreatDoorSepB
import Derived.Test.YtongafghllkomaaGreatDoorGetP
import Derived.Test.YtongafghllkomaaGreatDoorErase
import Derived.IntWalk
namespace Go.Proofs.YtongafghllkomaaGreatDoor
open Go.RowKit
set_option linter.unusedVariables false

theorem SepObj.rep {B d : Nat} {w : World} {n : Nd} {b : Nat} (h : SepObj B d w n b) (hk : n.kind = 28) : RepD (From B) (d + 1) w n b := by
  obtain ⟨hB, v4, v5, hb, hne, hrt, h4, h5⟩ := h
  refine ⟨hB, [.pointer none, .slice none 0 0, .slice none 0 0, .slice none 0 0, v4, v5, .slice none 0 0], hb, ?_⟩
  rw [slots_28 _ hk]
  refine ⟨rfl, rfl, rfl, rfl, h4.carry (fun m c hr => hr.mono fun _ hc => hc.1) (fun c o hA ho => ⟨ho, hA.1⟩), ?_, rfl, trivial⟩
  refine CellsAre.carry h5 (fun c o hA ho => ⟨ho, hA⟩) (fun i x _ hx p hp => ?_)
  obtain ⟨y, h1, h2⟩ := hx p hp
  exact ⟨y, h1, h2.imp fun c hr => hr.mono fun _ hc => hc.1⟩

/-- Nothing is appended: at a step of a region that draws its order. -/
theorem step_append_none {P : Program} {w : World} {ops : Array Oper} {o : Oper} {a : Act} {K : Act → World → Prop} {Q : Exit → Act → World → Prop} {E : Prop} (hgd : o.guard = none) (s x : Operand) (t : TypeId)
    (ho : o.op = .call { callee := .builtin .append, args := #[s, x], argTypes := #[t, t] })
    (e : TypeId) (i : TypeInfo) (ht : P.underlying t = some (.slice e)) (hi : P.info? e = some i) (b : Option Addr) (sl sc : Nat) (hle : sl ≤ sc) (hs : a.eval s = .slice b sl sc) (ad : Option Addr) (n0 c : Nat) (hx : a.eval x = .slice ad n0 c) (hn0 : n0 = 0)
    (h : K (a.put o.dst (.slice b sl sc)) w) : if Region.wanted o (yielded ops a.tmps) = true then Oper.wp P o a w K Q else E := by
  subst hn0
  have hw : Region.wanted o (yielded ops a.tmps) = true := by simp [Region.wanted, hgd]
  rw [if_pos hw]
  have hrun := run_append_nothing (P := P) w t t o.type e i ht hi b sl sc hle (.slice ad 0 c) (src_none ht ad c)
  unfold Oper.wp
  simp [execOp, ho, resolve, invoke, builtin, hs, hx, hrun, Result.andThen]
  exact h

/-- Behind the append and the store the object lies without the property. -/
theorem del_end {B d : Nat} {w w2 : World} {t m : ByteArray} {u : Int} {no : Option Addr} {ncap b j len1 cap' g' T : Nat} {x0 : Nd} {ps : List Nd} {v4 v5 : Value} {xs : List Value} (hj : j < ps.length) (hl1 : len1 + 1 = ps.length) (hBb : B ≤ b)
    (hb : w.heap[b]? = some (.cells #[.pointer none, .slice none 0 0, .slice none 0 0, .slice none 0 0, v4, v5, .slice none 0 0] (sTy 28) (0, 0))) (hne : some b ≠ v5.ownBlock)
    (h4 : SlotOk (Off B b v5) (RepD (Off B b v5) d) w (.mptr x0) v4)
    (hE : ∀ (i : Nat) (p : Nd), ps[i]? = some p → ∃ x, xs[i]? = some x ∧ HeldBy true (RepD (Off B b v5) d) w p x)
    (hown : w2.ownsRow B T 1 (.slice (some ⟨g', 0, none⟩) len1 cap') len1 (xs.eraseIdx j)) (hgrow : w.grownBy w2 v5.ownBlock) (hgb : g' ≠ b) {W : World} (hW : W.heap = (w2.setCell ⟨b, 5, none⟩ (.slice (some ⟨g', 0, none⟩) len1 cap')).heap) :
    RepD (From B) (d + 1) W (dropKid (.mk 28 t m u no ncap (x0 :: ps)) (j + 1)) b := by
  have hlt : b < w.heap.size := (Array.getElem?_eq_some_iff.1 hb).1
  have hb2 : w2.heap[b]? = some (.cells #[.pointer none, .slice none 0 0, .slice none 0 0, .slice none 0 0, v4, v5, .slice none 0 0] (sTy 28) (0, 0)) := (hgrow.block b hlt hne).trans hb
  have hcar : Carries (Off B b v5) (From B) w W := by
    intro c o hA ho
    have hc := (Array.getElem?_eq_some_iff.1 ho).1
    rw [hW]
    exact ⟨(Below.heap_setCell _ _ _ _ hA.2.1).trans ((hgrow.block c hc hA.2.2).trans ho), hA.1⟩
  refine ⟨hBb, [.pointer none, .slice none 0 0, .slice none 0 0, .slice none 0 0, v4, .slice (some ⟨g', 0, none⟩) len1 cap', .slice none 0 0], ?_, ?_⟩
  · show _ = some (Obj.cells _ (sTy 28) (0, 0))
    rw [hW]
    simp [World.setCell, Array.getElem?_modify, hb2]
  · rw [slots_28 _ (show (dropKid (.mk 28 t m u no ncap (x0 :: ps)) (j + 1)).kind = 28 from rfl)]
    have hlen : (ps.eraseIdx j).length = len1 := by rw [List.length_eraseIdx, if_pos hj]; omega
    refine ⟨rfl, rfl, rfl, rfl, h4.carry (fun n c hr => hr.carry hcar) hcar, ?_, rfl, trivial⟩
    show CellsAre (From B) _ _ (ps.eraseIdx j).length 1 (fun i cur => ∀ n, (ps.eraseIdx j)[i]? = some n → ∃ x, cur[i]? = some x ∧ PtrTo (RepD (From B) d) _ n x)
    rw [hlen]
    rcases hown.2 with ⟨hv, -⟩ | ⟨g, cap, cur, hv, hB, hg, hc1, hc2, hc3, hc4⟩
    · cases hv
    · cases hv
      refine Or.inr ⟨g', cap', cur, T, hB, rfl, by rw [hW]; exact (Below.heap_setCell _ _ _ _ hgb).trans hg, hc1, hc2, hc3, fun i hi p hp => ?_⟩
      have hcur : ∀ x, (xs.eraseIdx j)[i]? = some x → cur[i]? = some x := by
        intro x hx
        rw [← hc4, List.getElem?_take] at hx
        split at hx
        · simpa using hx
        · cases hx
      rcases erase_at hp with ⟨h1, h2⟩ | ⟨h1, h2⟩
      · obtain ⟨x, hx, hh⟩ := hE i p h2
        exact ⟨x, hcur x (by rw [List.getElem?_eraseIdx, if_pos h1]; exact hx), hh.imp fun c hr => hr.carry hcar⟩
      · obtain ⟨x, hx, hh⟩ := hE (i + 1) p h2
        exact ⟨x, hcur x (by rw [List.getElem?_eraseIdx, if_neg (by omega)]; exact hx), hh.imp fun c hr => hr.carry hcar⟩

/-- The object without a property, or as it was. -/
def DelPost (B d : Nat) (n : Nd) (key : ByteArray) (b : Nat) (w0 : World) (e : Ending) (w' : World) : Prop :=
  e = .returned (.tuple #[]) ∧ ((∃ (j : Nat) (p x y : Nd), FirstAt n key j p x y ∧ RepD (From B) (d + 1) w' (dropKid n j) b) ∨ (NoAt n key ∧ RepD (From B) (d + 1) w' n b)) ∧ Below B w0 w'

/-- The row of an object's properties. -/
theorem row_of {A : Nat → Prop} {w : World} {g0 capL len E l : Nat} {P : Nat → Array Value → Prop} (h : CellsAre A w (.slice (some ⟨g0, 0, none⟩) l capL) l 1 P) (hl : l = len) (hr : RowTy E (.slice (some ⟨g0, 0, none⟩) l capL) w) (h0 : 0 < len) :
    ∃ cur, w.heap[g0]? = some (.cells cur E (0, 0)) ∧ len ≤ capL ∧ capL ≤ maxLen ∧ cur.size = capL * 1 ∧ ∀ i, i < len → P i cur := by
  subst hl
  rcases h with ⟨hv, -⟩ | ⟨g, cap, cur, e, hA, hv, hg, h1, h2, h3, h4⟩
  · omega
  · cases hv
    obtain rfl := hr g0 cur e (0, 0) rfl hg
    exact ⟨cur, hg, h1, h2, h3, h4⟩

set_option maxRecDepth 100000 in
set_option maxHeartbeats 2000000 in
theorem editDel (B d : Nat) (n : Nd) (b : Nat) (key : ByteArray) (w0 w : World) (hS : SepObj B (d + 1) w n b) (hk : n.kind = 28) (hn : 0 < n.kids.length) (hm : n.kids.length ≤ 1001) (hP : PropsP n) (hB0 : Below B w0 w) :
    Calls Tryz.prog 56 #[.pointer (some ⟨b, 0, none⟩), .string key] w (DelPost B (d + 1) n key b w0) := by
  obtain ⟨k, t, m, u, no, ncap, kids⟩ := n
  obtain rfl : k = 28 := hk
  obtain ⟨x0, ps, rfl⟩ : ∃ x0 ps, kids = x0 :: ps := by cases kids with | nil => exact absurd hn (by simp [Nd.kids]) | cons a l => exact ⟨a, l, rfl⟩
  have HSO := Lib.hid hS
  obtain ⟨hBb, v4, v5, hb, hne, hrt, h4, h5⟩ := hS
  obtain ⟨aoL, capL, rfl, hHL⟩ := HeldList.of (ptr := true) (R := RepD (Off B b v5) (d + 1)) (ns := ps) (v := v5) (w := w) (A := From B) h5
  have c5 : w.cell? ⟨b, 5, none⟩ = some (.slice aoL ps.length capL) := by rw [Lib.cell_of_heap hb]; rfl
  obtain ⟨len, hlen⟩ : ∃ len, ps.length = len := ⟨_, rfl⟩
  rw [hlen] at c5
  have hl3 : len ≤ 1000 := by simp [Nd.kids] at hm; omega
  have HN := Lib.hid hlen
  have HHL := Lib.hid hHL
  have HP := Lib.hid hP
  have HB0 := Lib.hid hB0
  have HHB := Lib.hid hb
  have H4 := Lib.hid h4
  have H5 := Lib.hid h5
  have HNE := Lib.hid hne
  have HBB := Lib.hid hBb
  have HRT := Lib.hid hrt
  clear hlen hHL hP hb hm hn hne h4 h5 hB0 hBb hrt
  go_enter Tryz.func56, Tryz.ntmps56
  go_wp2_with fail
  go_loopg [11] len (fun gk i wr => wr = w ∧ ∃ (j : Nat), j ≤ len ∧ gk = len - j ∧ i = .int .i64 (j : Int) ∧ Hid (∀ (i : Nat) (p x y : Nd), i < j → ps[i]? = some p → p.kids = [x, y] → x.text ≠ key))
  case atStart => exact ⟨rfl, 0, by omega, by omega, rfl, Lib.hid (fun i p x y h => absurd h (by omega))⟩
  case round =>
    obtain ⟨rfl, j, hj, rfl, rfl, hD⟩ := hrel
    by_cases hjn : j < len
    · have hjz : (j : Int) < (len : Int) := by omega
      obtain ⟨p, hp⟩ : ∃ p, ps[j]? = some p := ⟨ps[j]'(by have := HN.out; omega), List.getElem?_eq_getElem _⟩
      obtain ⟨g0, z, rfl, c0, hh⟩ := HHL.out j p hp
      obtain ⟨bp, rfl, hRp⟩ := (show PtrTo (RepD (Off B b (.slice (some ⟨g0, 0, none⟩) ps.length capL)) (d + 1)) wr p z from hh)
      obtain ⟨hkp, x, y, hxy, hkx, hky⟩ := HP.out (j + 1) p (by omega) hp
      obtain ⟨⟨bx, c3, hRx⟩, by2, c6, hRy⟩ := prop_cells hRp hkp hxy hky
      have ct := text_cell hRx hkx
      obtain ⟨hm, he, hc⟩ := key_any x.kind hkx bx
      have HC := Lib.hid (hc _ _ ct)
      have HXY := Lib.hid (show ps[j]? = some p ∧ p.kids = [x, y] from ⟨hp, hxy⟩)
      generalize hT : pTy x.kind = T at hm c3
      generalize hF : keyMe x.kind = F at hm he HC
      clear hp hh hRp hkp hxy hRx hc hRy ct hT hF hkx hky c6
      go_wp2_with fail
      refine HC.out.mono ?_
      rintro e w1 ⟨rfl, rfl⟩
      by_cases hkey : key.toList = x.text.toList
      · have hke : (key.toList == x.text.toList) = true := by simpa using hkey
        have HE := Lib.hid (bytes_eq hkey)
        clear hkey
        obtain ⟨i0, hi, hz0, hz1, hz2⟩ := info_parts infoProperty
        obtain ⟨cur, hrow, hcapl, hcapm, hcsz, hEl⟩ := row_of H5.out HN.out HRT.out (by omega)
        have HROW := Lib.hid hrow
        have hBg : B ≤ g0 ∧ g0 ≠ b := ⟨(cells_lt H5.out rfl).1, fun e => HNE.out (by rw [e]; rfl)⟩
        have HEL := Lib.hid hEl
        have HCS := Lib.hid hcsz
        have c5w : wr.frozen? ⟨b, 5, none⟩ = false := Lib.frozen_of_heap HHB.out 5
        have hxl : cur.toList.take len = cur.toList.take len := rfl
        clear hrow hEl hcsz hxl
        have hlen5 : (cur.toList.take len).length = len := by have := HCS.out; simp; omega
        have hxs : ∀ (i : Nat), i < len → (cur.toList.take len)[i]? = cur[i]? := fun i hi => by rw [List.getElem?_take_of_lt hi]; simp
        have HE2 := Lib.hid (show ∀ (i : Nat) (p : Nd), ps[i]? = some p → ∃ x, (cur.toList.take len)[i]? = some x ∧ HeldBy true (RepD (Off B b (.slice (some ⟨g0, 0, none⟩) ps.length capL)) (d + 1)) wr p x from fun i p hp => by
          have hi : i < len := by have := (List.getElem?_eq_some_iff.1 hp).1; have := HN.out; omega
          rw [hxs i hi]
          exact HEL.out i hi p hp)
        have HONE := Lib.hid (show ∀ u ∈ (cur.toList.take len).drop (j + 1), u.oneCell' = true from fun u hu => by
          obtain ⟨i, hi⟩ := List.mem_iff_getElem?.1 (List.mem_of_mem_drop hu)
          have hil : i < len := by have := (List.getElem?_eq_some_iff.1 hi).1; omega
          obtain ⟨p, hp⟩ : ∃ p, ps[i]? = some p := ⟨ps[i]'(by have := HN.out; omega), List.getElem?_eq_getElem _⟩
          obtain ⟨x, hx, hh⟩ := HE2.out i p hp
          rw [hi] at hx
          cases hx
          obtain ⟨c, rfl, -⟩ := (show PtrTo _ wr p u from hh)
          rfl)
        have HLEN := Lib.hid hlen5
        have HNEWS := Lib.hid (show ∀ (W : World), W.heap[g0]? = some (.cells cur 185 (0, 0)) → ∀ i u, ((cur.toList.take len).drop (j + 1))[i]? = some u → W.cell? ((⟨g0, j + 1, none⟩ : Addr).add i) = some u from fun W hW i u hu => by
          rw [Addr.add_lit, Lib.cell_of_heap hW]
          rw [List.getElem?_drop] at hu
          have hil : j + 1 + i < len := by have := (List.getElem?_eq_some_iff.1 hu).1; omega
          rw [hxs _ hil] at hu
          exact hu)
        have HOWN := Lib.hid (show wr.ownsRow B 185 1 (.slice (some ⟨g0, 0, none⟩) j capL) j ((cur.toList.take len).take j) from
            ⟨by have := HCS.out; simp; omega, Or.inr ⟨g0, capL, cur, rfl, hBg.1, HROW.out, by omega, hcapm, HCS.out, by rw [List.take_take, Nat.mul_one, Nat.min_eq_left (by omega)]⟩⟩)
        have HFA := Lib.hid (show FirstAt (.mk 28 t m u no ncap (x0 :: ps)) key (j + 1) p x y from ⟨by omega, HXY.out.1, HXY.out.2, HE.out.symm, fun i p2 x2 y2 hi hij hp2 hxy2 => by
            obtain ⟨i', rfl⟩ : ∃ i', i = i' + 1 := ⟨i - 1, by omega⟩
            exact hD.out i' p2 x2 y2 (by omega) hp2 hxy2⟩)
        have HNE2 := Lib.hid (show some b ≠ (Value.slice (some ⟨g0, 0, none⟩) ps.length capL).ownBlock from HNE.out)
        have hj4 : (j : Int) ≤ (len : Int) := by omega
        have hj5 : (j : Int) ≤ (capL : Int) := by omega
        have hj6 : (len : Int) ≤ (capL : Int) := by omega
        have hj7 : (0 : Int) ≤ (j : Int) := by omega
        have hj8 : j ≤ capL := by omega
        have hj9 : j + 1 ≤ len := by omega
        have hj3 : (j : Int) + 1 ≤ (len : Int) := by omega
        have HBZ := Lib.hid (show b < wr.heap.size from (Array.getElem?_eq_some_iff.1 HHB.out).1)
        have hw1 : IntKind.i64.wrap ((j : Int) + 1) = (j : Int) + 1 := IntWalk.i64_in _ (by omega)
        have hw2 : (0 : Int) ≤ (j : Int) + 1 := by omega
        have hw3 : ((j : Int) + 1).toNat = j + 1 := by omega
        have HBG := Lib.hid hBg
        have HCM := Lib.hid hcapm
        have HJ := Lib.hid (show j < len ∧ len ≤ capL ∧ len ≤ 1000 from ⟨hjn, hcapl, hl3⟩)
        clear hlen5 hxs hBg hcapm
        have H4X := Lib.hid (show SlotOk (Off B b (.slice (some ⟨g0, 0, none⟩) ps.length capL)) (RepD (Off B b (.slice (some ⟨g0, 0, none⟩) ps.length capL)) (d + 1)) wr (.mptr x0) v4 from H4.out)
        by_cases hlast : j + 1 = len
        · have HDR := Lib.hid (show (cur.toList.take len).eraseIdx j = (cur.toList.take len).take j by
            rw [List.eraseIdx_eq_take_drop_succ, List.drop_of_length_le (by have := HLEN.out; omega), List.append_nil])
          have HLAST := Lib.hid hlast
          clear hlast
          go_wp2_with fail
          go_region_law (first
            | (refine step_append_none rfl _ _ 183 rfl 185 i0 undProperty hi (some ⟨g0, 0, none⟩) j capL (by omega) rfl _ _ _ rfl (by have := HLAST.out; omega) ?_))
          all_goals go_wp2_with fail
          all_goals
            go_end0
            exact ⟨rfl, Or.inl ⟨j + 1, p, x, y, HFA.out, del_end (T := 185) (len1 := j) (by have := HN.out; omega) (by have := HN.out; have := HLAST.out; omega) HBB.out HHB.out HNE2.out H4X.out HE2.out (by rw [HDR.out]; exact HOWN.out.drew) (World.grownBy.refl _ _) HBG.out.2 (by first | rfl | (rw [‹capL = j + 1›]; rfl))⟩, by first | exact HB0.out.drew.setCell (p := ⟨b, 5, none⟩) HBB.out _ | exact (HB0.out.setCell (p := ⟨b, 5, none⟩) HBB.out _).drew⟩
        · have hj2 : ¬ j + 1 = capL := by omega
          have hj22 : ¬ capL = j + 1 := by omega
          have HF := Lib.hid (show ((cur.toList.take len).drop (j + 1)).length = (len - (j + 1)) * 1 ∧ 0 < len - (j + 1) ∧ j + (len - (j + 1)) ≤ maxLen ∧ (j + (len - (j + 1))) * 8 ≤ 140737488355328 ∧ B ≤ wr.heap.size from
            ⟨by have := HLEN.out; simp only [List.length_drop]; omega, by omega, by unfold maxLen; omega, by omega, by have := HBB.out; have := HBZ.out; omega⟩)
          clear hlast
          go_wp2_with fail
          go_region_law (first
            | (refine step_append_lies _ rfl _ _ 183 rfl B 185 i0 (.pointer none) 1 8 undProperty hi hz0 hz1 hz2 rfl (by decide) _ _ _ rfl HOWN.out.drew ⟨g0, j + 1, none⟩ (len - (j + 1)) (capL - (j + 1)) ((cur.toList.take len).drop (j + 1)) rfl HF.out.1 (HNEWS.out _ HROW.out) HONE.out HF.out.2.1 HF.out.2.2.1 HF.out.2.2.2.1 HF.out.2.2.2.2 _ rfl ?_; intro g' cap' w2 hown' hgrow hat hlt; have y5 := (hgrow.cell_far ⟨b, 5, none⟩ HBZ.out HNE2.out).trans c5; have y5f := (hgrow.frozen_far ⟨b, 5, none⟩ HBZ.out HNE2.out).trans c5w))
          all_goals
            have HOW2 := Lib.hid hown'
            have HGR := Lib.hid (show wr.grownBy w2 (Value.slice (some ⟨g0, 0, none⟩) ps.length capL).ownBlock from ⟨hgrow.os, hgrow.tape, hgrow.output, hgrow.size, hgrow.block⟩)
            have HG' := Lib.hid (show g' ≠ b from by
              rcases (show some g0 = some g' ∨ g' = wr.heap.size from hat) with h | h
              · intro e; exact HBG.out.2 ((Option.some.inj h).trans e)
              · have := HBZ.out; omega)
            clear hown' hgrow hat hlt
          all_goals go_wp2_with fail
          all_goals
            go_end0
            have HOX := HOW2.out
            rw [← List.eraseIdx_eq_take_drop_succ] at HOX
            exact ⟨rfl, Or.inl ⟨j + 1, p, x, y, HFA.out, del_end (T := 185) (len1 := j + (len - (j + 1))) (by have := HN.out; omega) (by have := HN.out; omega) HBB.out HHB.out HNE2.out H4X.out HE2.out HOX HGR.out HG'.out (by first | rfl | simp)⟩, by
              have hg := HB0.out.grown HGR.out HF.out.2.2.2.2 (fun c hc => by
                have e : g0 = c := by simpa [Value.ownBlock] using hc
                rw [← e]; exact HBG.out.1)
              first | exact hg.drew.setCell (p := ⟨b, 5, none⟩) HBB.out _ | exact (hg.setCell (p := ⟨b, 5, none⟩) HBB.out _).drew | exact hg.setCell (p := ⟨b, 5, none⟩) HBB.out _⟩
      · have hke : (key.toList == x.text.toList) = false := by simpa using hkey
        have HE := Lib.hid hkey
        clear hkey
        go_wp2_with fail
        go_roundg (len - (j + 1))
        case measure => omega
        case rel =>
          refine ⟨rfl, j + 1, by omega, rfl, by push_cast; rfl, Lib.hid (fun i p2 x2 y2 hi hp2 hxy2 => ?_)⟩
          by_cases e : i = j
          · subst e
            rw [HXY.out.1] at hp2
            cases hp2
            rw [HXY.out.2] at hxy2
            cases hxy2
            intro e
            exact HE.out (by rw [e])
          · exact hD.out i p2 x2 y2 (by omega) hp2 hxy2
    · have hjz : ¬ (j : Int) < (len : Int) := by omega
      obtain rfl : j = len := by omega
      go_wp2_with fail
      go_end0
      refine ⟨rfl, Or.inr ⟨fun i p2 x2 y2 hi hp2 hxy2 => ?_, HSO.out.rep rfl⟩, HB0.out⟩
      obtain ⟨i', rfl⟩ : ∃ i', i = i' + 1 := ⟨i - 1, by omega⟩
      have h1 : ps[i']? = some p2 := hp2
      exact hD.out i' p2 x2 y2 (by have := (List.getElem?_eq_some_iff.1 h1).1; have := HN.out; omega) h1 hxy2
end Go.Proofs.YtongafghllkomaaGreatDoor
