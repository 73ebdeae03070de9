/-
  FnBufTypeConstraint: for every tree and either form of the buffer the law returns true. No conditions beyond the tables that its card ties.
-/
import Derived.Test.YtdljkanfebndaaaGreatDoorLw
import Derived.Test.YtdljkanfebndaaaGreatDoorSlT
import Derived.Test.YtdljkanfebndaaaGreatDoorTcF
import Derived.Test.YtdljkanfebndaaaGreatDoorNdT
import Derived.Test.YtdljkanfebndaaaGreatDoorFx
import Derived.WalkKit
import Derived.ProofKit
import Derived.OpenShut
import Derived.Lib.Hide
namespace Go.Proofs.YtdljkanfebndaaaGreatDoor.fnBufTypeConstraint
open Go.ChangeShapes Go.WideShapes Go.ChangeAt Go.RowKit
open Go.ChangeMaps (open_string shut_string)
set_option linter.unusedVariables false

theorem ident_bare {y : Nd} (h : FitP 11 y) (hk : y.kind = 33) : y.text.size ≤ 300 ∧ y.kids = [] := by
  rcases h with hz | hz
  · rw [hz.1] at hk; exact absurd hk (by decide)
  · have hlx := hz.2.2.2.1 (by rw [hk]; decide)
    rw [hk] at hlx
    refine ⟨hz.2.2.1.2.2.2.1, ?_⟩
    rcases hlx.2 with e | e
    · exact List.eq_nil_of_length_eq_zero (by simpa [show (fixedL 33) = [] from by decide] using e)
    · exact absurd (show restL 33 = 28 from by decide) e

theorem kids53 (n : Nd) (h : FitP 12 n) (hk : n.kind = 53) : ∃ x xs, n.kids = x :: xs ∧ ∀ y ∈ n.kids, y.kind = 33 ∧ y.text.size ≤ 300 ∧ y.kids = [] := by
  obtain ⟨-, hs, hx⟩ := BufP.shape h hk (by decide)
  have hl := (hs (by omega)).1
  rw [hk, show (fixedL 53).length = 1 from by decide] at hl
  have hall : ∀ y ∈ n.kids, y.kind = 33 ∧ y.text.size ≤ 300 ∧ y.kids = [] := by
    intro y hy
    obtain ⟨i, hi, e⟩ := List.mem_iff_getElem.1 hy
    obtain ⟨hc, hf⟩ := hx i y (by rw [List.getElem?_eq_getElem hi, e])
    have hc1 := hc (by omega)
    rw [hk, show (fixedL 53).getD i (restL 53) = 3 from by cases i with | zero => decide | succ i => rw [show fixedL 53 = [3] from by decide]; simp; decide] at hc1
    have h33 : y.kind = 33 := by have h := class_few [33] rfl hc1; simpa using h
    exact ⟨h33, ident_bare hf h33⟩
  match hkk : n.kids, hl with
  | x :: xs, _ => exact ⟨x, xs, rfl, fun y hy => hall y (by rw [hkk]; exact hy)⟩

theorem tame (n : Nd) (h : FitP 12 n) (hk : n.kind = 53) : ∀ D, TameD D n
  | 0 => trivial
  | D + 1 => ⟨by rw [hk]; decide, fun i y hy => by
    obtain ⟨x, xs, -, hall⟩ := kids53 n h hk
    obtain ⟨h33, -, hn⟩ := hall y (List.mem_of_getElem? hy)
    exact leaf_tame hn (by rw [h33]; decide) D⟩
theorem none13 (n : Nd) (h : FitP 12 n) (hk : n.kind = 53) : ∀ D, NoneD D n 13
  | 0 => trivial
  | D + 1 => ⟨by rw [hk]; decide, fun i y hy => by
    obtain ⟨x, xs, -, hall⟩ := kids53 n h hk
    obtain ⟨h33, -, hn⟩ := hall y (List.mem_of_getElem? hy)
    exact leaf_none13 hn (by rw [h33]; decide) D⟩
theorem pre (n : Nd) (hP : BufP 53 n) : PreD (11 + 1) n := ⟨hP.2.1, none13 n hP.2.1 hP.1 12, hP.2.2 12⟩

def R (n : Nd) (B : By) (p : Nat) : Prop := ∀ x xs, n.kids = x :: xs → ∃ (ps : List Nat) (y yd v vd : Nat), BaseOf B p ps ∧ TabAt B p ps ∧ (ps.getD 1 0 = y ∧ y ≠ 0 ∧ y < 65536 ∧ y + p + 4 ≤ B.length ∧ leAt B (y + p) 4 = yd ∧ y + p + yd < B.length ∧ IdentAt B (y + p + yd) x.text) ∧ (ps.getD 2 0 = v ∧ v ≠ 0 ∧ v < 65536 ∧ v + p + 4 ≤ B.length ∧ leAt B (v + p) 4 = vd ∧ VecAt xs.length (fun i => TextR (xs.getD i x)) B (v + p + vd))

theorem fine (n x : Nd) (xs : List Nd) (hkx : n.kids = x :: xs) {F G : Nat} (bs : Bool) (sl : List Sl) (h : ∃ c c2, sl = [⟨1, 4, 0, some (F, c), TextR x, 300000⟩, ⟨2, 4, 0, some (G, c2), VecAt xs.length (fun i => TextR (xs.getD i x)), 299704012⟩]) : Fine bs sl 301000000 (R n) := by
  obtain ⟨c, c2, rfl⟩ := h
  have hw4 : ∀ t ∈ ([⟨1, 4, 0, some (F, c), TextR x, 300000⟩, ⟨2, 4, 0, some (G, c2), VecAt xs.length (fun i => TextR (xs.getD i x)), 299704012⟩] : List Sl), t.ref ≠ none → t.wid = 4 := fun t ht hr => by
    simp only [List.mem_cons, List.not_mem_nil, or_false] at ht
    rcases ht with rfl | rfl <;> rfl
  have hul : ∀ t ∈ ([⟨1, 4, 0, some (F, c), TextR x, 300000⟩, ⟨2, 4, 0, some (G, c2), VecAt xs.length (fun i => TextR (xs.getD i x)), 299704012⟩] : List Sl), t.u < 256 ^ t.wid := fun t ht => by
    simp only [List.mem_cons, List.not_mem_nil, or_false] at ht
    rcases ht with rfl | rfl <;> exact (show 0 < 256 ^ 4 by decide)
  have key : ∀ (bs : Bool) (B : By) (p : Nat), TabOf B p (withBase bs [⟨1, 4, 0, some (F, c), TextR x, 300000⟩, ⟨2, 4, 0, some (G, c2), VecAt xs.length (fun i => TextR (xs.getD i x)), 299704012⟩]) → BaseOf B p (plOf (patOf (withBase bs [⟨1, 4, 0, some (F, c), TextR x, 300000⟩, ⟨2, 4, 0, some (G, c2), VecAt xs.length (fun i => TextR (xs.getD i x)), 299704012⟩]))) → okPat (patOf (withBase bs [⟨1, 4, 0, some (F, c), TextR x, 300000⟩, ⟨2, 4, 0, some (G, c2), VecAt xs.length (fun i => TextR (xs.getD i x)), 299704012⟩])) = true → R n B p := by
    intro bs B p hT hb hok x' xs' hk'
    rw [hkx] at hk'
    cases hk'
    have h0 : (withBase bs [⟨1, 4, 0, some (F, c), TextR x, 300000⟩, ⟨2, 4, 0, some (G, c2), VecAt xs.length (fun i => TextR (xs.getD i x)), 299704012⟩])[0]? = some ⟨1, 4, 0, some (F, c), TextR x, 300000⟩ := by cases bs <;> rfl
    have h1 : (withBase bs [⟨1, 4, 0, some (F, c), TextR x, 300000⟩, ⟨2, 4, 0, some (G, c2), VecAt xs.length (fun i => TextR (xs.getD i x)), 299704012⟩])[1]? = some ⟨2, 4, 0, some (G, c2), VecAt xs.length (fun i => TextR (xs.getD i x)), 299704012⟩ := by cases bs <;> rfl
    obtain ⟨a1, a2, a3, yd, a4, a5, a6⟩ := node_of hT h0 (by simp) hok rfl rfl
    obtain ⟨b1, b2, b3, vd, b4, b5, b6⟩ := node_of hT h1 (by simp) hok rfl rfl
    exact ⟨_, _, yd, _, vd, hb, hT.tab, ⟨rfl, a1, a2, a3, a4, a5, TextR.ident a6⟩, ⟨rfl, b1, b2, b3, b4, b6⟩⟩
  cases bs with
  | false =>
    have hok : okPat (patOf (withBase false ([⟨1, 4, 0, some (F, c), TextR x, 300000⟩, ⟨2, 4, 0, some (G, c2), VecAt xs.length (fun i => TextR (xs.getD i x)), 299704012⟩] : List Sl))) = true := show okPat [(1, 4), (2, 4)] = true from by decide
    exact ⟨hok, hw4, hul, by simp, by simp [withBase], fun B p hT => key false B p hT (.none (show (plOf [(1, 4), (2, 4)]).getD 0 0 = 0 from by decide)) hok⟩
  | true =>
    have hok : okPat (patOf (withBase true ([⟨1, 4, 0, some (F, c), TextR x, 300000⟩, ⟨2, 4, 0, some (G, c2), VecAt xs.length (fun i => TextR (xs.getD i x)), 299704012⟩] : List Sl))) = true := show okPat [(1, 4), (2, 4), (0, 4)] = true from by decide
    exact ⟨hok, hw4, hul, by simp, by simp [withBase, baseSl], fun B p hT => key true B p hT (baseOf_some hT (i := 2) (s := baseSl) rfl rfl (by simp [baseSl]) rfl hok rfl) hok⟩

theorem nodeW (D : Nat) (W : World) (bs : Bool) (n : Nd) (hP : BufP 53 n) (hL : LiesD D W n) (hRm : RoomD D n) : NodeW W bs 301000000 n (R n) := by
  obtain ⟨x, xs, hkx, hall⟩ := kids53 n hP.2.1 hP.1
  have hsm : xs.length ≤ 999 := by have := (pre n hP).small; rw [hkx, List.length_cons] at this; omega
  have hx := hall x (by rw [hkx]; exact List.mem_cons_self)
  have hrm : n.kids.length ≤ n.cap := by
    cases D with
    | zero => exact hL.elim
    | succ D => exact hRm.1
  refine node_any W bs n _ 301000000 (R n) (by rw [hP.1]; decide) (slC_53 W bs n hP.1 x xs D (TextR x) 300000 (fun i => TextR (xs.getD i x)) 300000 299704012 hkx hL hrm (ident_w W bs x hx.1 hx.2.1) (fun i y hy => ?_) xs.length rfl hsm (by omega)) (fine n x xs hkx bs)
  have hy2 := hall y (by rw [hkx]; exact List.mem_cons_of_mem _ (List.mem_of_getElem? hy))
  rw [show xs.getD i x = y from by rw [List.getD_eq_getElem?_getD, hy]; rfl]
  exact ident_w W bs y hy2.1 hy2.2.1

theorem impl (D : Nat) (n : Nd) (w0 : World) (hP : BufP 53 n) (hL : LiesD D w0 n) (B : By) (p : Nat) (hR : R n B p) (hl : B.length ≤ 1073000000) (h4 : 4 ≤ B.length) (hd : leAt B 0 4 = p) (hp : p < B.length) (w : World) (rb cap K : Nat) (hown : w.ownsRow K 5 1 (.slice (some ⟨rb, 0, none⟩) B.length cap) B.length (bytesV B)) :
    Calls Tryz.prog 22 #[.slice (some ⟨rb, 0, none⟩) B.length cap] w (BufPost n w) := by
  obtain ⟨x, xs, hkx, hall⟩ := kids53 n hP.2.1 hP.1
  have hsm : xs.length ≤ 999 := by have := (pre n hP).small; rw [hkx, List.length_cons] at this; omega
  have hx := hall x (by rw [hkx]; exact List.mem_cons_self)
  obtain ⟨ps, y, yd, v, vd, hb, ht, ⟨hy, y0, yl, yq, hyd, hyz, hI0⟩, ⟨hv, v0, vl, vq, hvd, hV1, hV2, hV3⟩⟩ := hR x xs hkx
  refine implTypeConstraint n (fun W b => ∃ b0 so sc, W.heap[b]? = some (.cells #[.pointer none, .slice none 0 0, .slice none 0 0, .pointer (some ⟨b0, 0, none⟩), .slice so xs.length sc] 100 (0, 0)) ∧ RepD (fun _ => True) 1 W x b0 ∧ PtrList (RepD (fun _ => True) 1) W so xs) B p hl h4 hd hp (fun W tb rb1 cap1 hI => ?_) (fun b W hQ => ?_) w rb cap K hown
  · refine (tcBuf_any tb rb1 cap1 p B ps hb W hI ht y hy y0 yl yq yd hyd hyz x.text hI0 v hv v0 vl vq vd hvd xs.length hV1 hV2 (by omega) (xs.map Nd.text) (by simp) (fun i s hs => ?_)).mono ?_
    · rw [List.getElem?_map] at hs
      obtain ⟨z, hz, rfl⟩ := Option.map_eq_some_iff.1 hs
      obtain ⟨dd, q1, q2, q3⟩ := hV3 i (List.getElem?_eq_some_iff.1 hz).1
      rw [show xs.getD i x = z from by rw [List.getD_eq_getElem?_getD, hz]; rfl] at q3
      exact ⟨dd, q1, q2, TextR.ident q3⟩
    · rintro e w' ⟨k, k4, so, sc, rfl, hk, hk4, hne, hc4, hc, ⟨ks, hrow, hks⟩, hbel⟩
      refine ⟨k, rfl, ⟨k4, so, sc, hc, ⟨trivial, _, by rw [hx.1]; exact hc4, by rw [slots_33 x hx.1]; exact ⟨rfl, rfl, rfl, rfl, trivial⟩⟩, fun j z hz => ?_⟩, hbel⟩
      have hz33 := (hall z (by rw [hkx]; exact List.mem_cons_of_mem _ (List.mem_of_getElem? hz))).1
      have hj := (List.getElem?_eq_some_iff.1 hz).1
      have hkl : ks.length = xs.length := by have := hrow.1; simp at this; omega
      obtain ⟨kj, hkj⟩ : ∃ kj, ks[j]? = some kj := ⟨ks[j]'(by omega), List.getElem?_eq_getElem _⟩
      obtain ⟨q1, q2, q3⟩ := hks j kj z.text hkj (by rw [List.getElem?_map, hz]; rfl)
      rcases hrow.2 with ⟨hv', h0⟩ | ⟨g, cap', cur, hv', _, hg, _, _, _, htk⟩
      · exact absurd h0 (by intro h; simp at h; first | (rw [h] at hj; simp at hj) | (rw [h] at hkj; simp at hkj))
      · cases hv'
        refine ⟨g, kj, rfl, ?_, trivial, _, by rw [hz33]; exact q1, by rw [slots_33 z hz33]; exact ⟨rfl, rfl, rfl, rfl, trivial⟩⟩
        rw [Lib.cell_of_heap hg]
        have hc2 : (cur.toList.take (xs.length * 1))[j]? = some (.pointer (some ⟨kj, 0, none⟩)) := by rw [htk, List.getElem?_map, hkj]; rfl
        rw [List.getElem?_take] at hc2
        split at hc2
        · simpa using hc2
        · cases hc2
  · obtain ⟨b0, so, sc, hcb, hRx, hPL⟩ := hQ
    refine via_TypeConstraint n b W fun w' hbw => ?_
    have hlt : b < W.heap.size := (Array.getElem?_eq_some_iff.1 hcb).1
    have hcb' : w'.heap[b]? = some (.cells #[.pointer none, .slice none 0 0, .slice none 0 0, .pointer (some ⟨b0, 0, none⟩), .slice so (n.kids.length - 1 : Nat) sc] 100 (0, 0)) := by rw [hkx, List.length_cons, Nat.add_sub_cancel]; exact (hbw.block b hlt).trans hcb
    have h0 : ∀ x' rest, n.kids = x' :: rest → RepD (fun _ => True) 1 w' x' b0 := fun x' rest h => by rw [hkx] at h; cases h; exact hRx.below hbw
    have hr : ∀ x' rest, n.kids = x' :: rest → PtrList (RepD (fun _ => True) 1) w' so rest := fun x' rest h => by rw [hkx] at h; cases h; exact hPL.below hbw
    by_cases h1 : 1 < n.kids.length
    · exact tn_53 1 node33 11 _ n b b0 so sc w' (pre n hP) ⟨D, w0, hL⟩ hP.1 hcb' h0 hr h1
    · exact tn_53_one 1 node33 11 _ n b b0 so sc w' (pre n hP) ⟨D, w0, hL⟩ hP.1 hcb' h0 hr (by rw [hkx, List.length_cons] at h1 ⊢; omega)

set_option maxHeartbeats 1000000 in
set_option maxRecDepth 100000 in
theorem walk (D : Nat) (n : Nd) (bs : Bool) (w : World) (hL : LiesD D w n) (hR : RoomD D n) (hT : Lib.Utf8Tabs 1 2 w) :
    Calls Tryz.prog 10 #[n.val, .bool bs] w fun e w' => e = .returned (.bool true) ∧ Below w.heap.size w w' := by
  have HNW := Lib.hid (fun (W : World) (hP : BufP 53 n) (hLW : LiesD D W n) => nodeW D W bs n hP hLW hR)
  have HIM := Lib.hid (fun (hP : BufP 53 n) => impl D n w hP hL)
  have HTM := Lib.hid (fun (h : FitP 12 n) (hk : n.kind = 53) => tame n h hk D)
  obtain ⟨k, t, m, u, ao, cap, kids⟩ := n
  have HL := Lib.hid hL
  have HR := Lib.hid hR
  have HT := Lib.hid hT
  clear hL hT hR
  show Calls _ _ #[.agg #[.int .i64 k, .string t, .string m, .int .u64 u, .slice ao kids.length cap], _] w _
  go_enter Tryz.func10, Tryz.ntmps10
  go_wp2_with fail
  refine (fits1_any k t m u ao kids.length cap _).mono ?_
  rintro e w1 ⟨b1, rfl, -, hb1⟩
  obtain ⟨k0, -⟩ := bblk hb1 (b := w.heap.size) (by simp)
  have HB1 := Lib.hid (((Below.refl w.heap.size w).alloc (Nat.le_refl _) (.cells #[.int .i64 k, .string t, .string m, .int .u64 u, .slice ao kids.length cap] 25)).trans (hb1.mono (by simp)))
  have hz1 : w.heap.size < w1.heap.size := by have := hb1.size; simp at this; omega
  clear hb1
  cases b1
  · go_wp2_with fail
    go_ret
    exact ⟨rfl, HB1.out⟩
  go_wp2_with fail
  show Calls _ _ #[Nd.val (.mk k t m u ao cap kids), _] _ _
  refine (bufd_any D (.mk k t m u ao cap kids) 53 _ (HL.out.below HB1.out) HR.out (tabs_below HT.out HB1.out) HTM.out).mono ?_
  rintro e w2 ⟨b2, rfl, hp2, hb2⟩
  obtain ⟨k1, -⟩ := bblk hb2 (b := w.heap.size) (by omega)
  have HP2 := Lib.hid hp2
  have HB2 := Lib.hid (HB1.out.trans (hb2.mono HB1.out.size))
  have hz2 : w.heap.size < w2.heap.size := by have := hb2.size; omega
  clear hb2 hp2
  cases b2
  · go_wp2_with fail
    go_ret
    exact ⟨rfl, HB2.out⟩
  have HBP := Lib.hid (show BufP 53 (.mk k t m u ao cap kids) from HP2.out (by first | rfl | trivial))
  go_wp2_with fail
  show Calls _ _ #[Nd.val (.mk k t m u ao cap kids), _] _ _
  refine (buffer_any bs 301000000 (.mk k t m u ao cap kids) _ (by decide) w2 (HNW.out w2 HBP.out (HL.out.below HB2.out))).mono ?_
  rintro e w3 ⟨B, rb, cap3, p, rfl, hown, hb3, h4, hl, hd, hp, hRB⟩
  obtain ⟨k2, -⟩ := bblk hb3 (b := w.heap.size) (by omega)
  have HB3 := Lib.hid (HB2.out.trans (hb3.mono HB2.out.size))
  have hz3 : w.heap.size < w3.heap.size := by have := hb3.size; omega
  have HI := Lib.hid (HIM.out HBP.out B p hRB hl h4 hd hp w3 rb cap3 _ hown)
  clear hb3 h4 hl hd hp hRB hown
  go_wp2_with fail
  refine HI.out.mono ?_
  rintro e w4 ⟨E, m2, rfl, hS, hl2, hb4⟩
  obtain ⟨k3, -⟩ := bblk hb4 (b := w.heap.size) (by omega)
  have HB4 := Lib.hid (HB3.out.trans (hb4.mono HB3.out.size))
  have hz4 : w.heap.size < w4.heap.size := by have := hb4.size; omega
  have HS := Lib.hid hS
  have HL2 := Lib.hid hl2
  clear hb4 hS hl2
  go_wp2_with fail
  show Calls _ _ #[Nd.val (.mk k t m u ao cap kids), Nd.val m2] _ _
  refine (same_all E D E (.mk k t m u ao cap kids) m2 _ HS.out (HL.out.below (HB4.out.alloc (by have := HB4.out.size; omega) _)) (HL2.out.below ((Below.refl _ _).alloc (Nat.le_refl _) _))).mono ?_
  rintro e w5 ⟨rfl, hb5⟩
  have HB5 := Lib.hid ((HB4.out.alloc HB4.out.size _).trans (hb5.mono (by have := HB4.out.size; simp; omega)))
  clear hb5
  go_wp2_with fail
  go_ret
  exact ⟨rfl, HB5.out⟩

set_option maxRecDepth 100000 in
theorem lifted (os : Os) (started : os.Started) (H : Type) (enc : TypeId × Value → H) :
    ReturnsInHanded {} Tryz.checked os 10 .any (fun w args => (Rows.fnBufTypeConstraintSpec.pre enc Tryz.prog Tryz.f10 Rows.fnBufTypeConstraintRow.domain false w args ∧ laidMetH Tryz.prog Rows.fnBufTypeConstraintRow.laid w) ∧ sizedMet enc Tryz.prog Tryz.f10 (OpenSpec.ofChange Rows.fnBufTypeConstraintSpec) false w args)
      (Rows.fnBufTypeConstraintSpec.post enc Tryz.prog Tryz.f10 false true false false) := by
  refine returnsInHanded_of_change_and (C := Tryz.checked) (X := fun w _ => laidMetH Tryz.prog Rows.fnBufTypeConstraintRow.laid w) (fun _ _ _ hh h => h.of_heap hh) own started (by kernel_rfl) Tryz.func10
    (ChangeSpec.witness_shaped (enc := enc) (C := Tryz.checked) (os := os) (X := fun w _ => laidMetH Tryz.prog Rows.fnBufTypeConstraintRow.laid w) false (World.laidAll Tryz.prog os Rows.fnBufTypeConstraintRow.laid) #[.agg #[.int .i64 0, .string ByteArray.empty, .string ByteArray.empty, .int .u64 0, .slice none 0 0], .bool false] 8 (World.laidAll_os _ _ _)
      (World.shaped_of_ZipB (by kernel_rfl) (by kernel_rfl)) (by kernel_rfl) (by kernel_rfl) (by kernel_rfl)
      (by rw [MakeChecks.laidMetH_plain _ _ _ (by kernel_rfl)]; exact laidMet_laidAll _ (by kernel_rfl) (by kernel_rfl))) ?_
  intro W base args ds gs before hval0 hW hc _ hL _
  have hval : ∀ (j : Nat) t v, Tryz.f10.params[j]? = some t → args[j]? = some v → Value.okWide Tryz.prog W .any base t v := hval0
  have hW' := hW
  obtain ⟨p, q, hA0, hV, rfl, _, _⟩ := hW
  have hA : DataW.TrodAll enc Tryz.prog W 0 (fun _ => true) true Tryz.f10.params.toList args.toList ds p := hA0
  rw [Tryz.params10] at hA hval
  obtain ⟨v0, vs0, d0, ds0, p0, q0, hargs, rfl, rfl, h0, r0⟩ := trodAll_cons hA
  obtain ⟨v1, vs1, d1, ds1, p1, q1, rfl, rfl, rfl, h1, r1⟩ := trodAll_cons r0
  obtain ⟨rfl, rfl, rfl⟩ := trodAll_nil r1
  obtain rfl : args = #[v0, v1] := by cases args; simp_all
  obtain ⟨rfl, rfl⟩ := trodVars_none hV
  have k0 := h0
  have lt0 : ∀ x ∈ p0, x.block < W.heap.size := by obtain ⟨m, hm⟩ := k0; exact DataW.trod_lt m _ _ _ hm
  obtain ⟨D, n, rfl, hLn, hRn⟩ := open_node (hval 0 25 v0 rfl rfl) h0
  have k1 := h1
  have lt1 : ∀ x ∈ p1, x.block < W.heap.size := by obtain ⟨m, hm⟩ := k1; exact DataW.trod_lt m _ _ _ hm
  obtain ⟨bs, rfl, -, -⟩ := open_bool Tryz.underlying4 (hval 1 4 v1 rfl rfl) h1
  clear hA0 hval0
  rw [MakeChecks.laidMetH_plain _ _ _ (by kernel_rfl)] at hL
  refine (walk D n bs W hLn hRn (tabs_of hL (by simp [Rows.fnBufTypeConstraintRow, Rows.laid_unicode_utf8_first]) (by simp [Rows.fnBufTypeConstraintRow]))).mono fun e W' ⟨he, bel⟩ => ?_
  subst he
  exact ⟨_, rfl, _, _, _, [], _, [], hW', trodAll_mk1 (shut_bool Tryz.underlying4 _), (trodAll_cons_mk (Below.trod laidOut (by kernel_rfl) (of_decide_eq_true (by kernel_rfl)) k0 bel lt0) (trodAll_cons_mk (Below.trod laidOut (by kernel_rfl) (of_decide_eq_true (by kernel_rfl)) k1 bel lt1) trodAll_mk0)), rfl, bel.frame _, fun h => by cases h⟩

theorem j1 : (Rows.fnBufTypeConstraintRow.inPlace == Tryz.prog.inPlace 10) = true := by kernel_rfl
theorem j2 : (Rows.fnBufTypeConstraintRow.unfollowed == Tryz.prog.unfollowed 10) = true := by kernel_rfl
theorem j3 : (Rows.fnBufTypeConstraintRow.recurses == Tryz.prog.recurses 10) = true := by kernel_rfl
theorem j4 : (Rows.fnBufTypeConstraintRow.named == Tryz.prog.varsNamed 10) = true := by kernel_rfl
theorem a1 : Rows.fnBufTypeConstraintRow.wf (OpenSpec.ofChange Rows.fnBufTypeConstraintSpec) = true := by kernel_rfl
theorem a2 : Tryz.f10.params.all (Tryz.prog.readableRec ·) = true := by kernel_rfl
theorem a3 : namedTie Tryz.prog Rows.fnBufTypeConstraintRow.named Rows.fnBufTypeConstraintSpec.vars = true := by kernel_rfl
theorem a4 : (Rows.fnBufTypeConstraintRow.maps == (Tryz.f10.params.toList ++ Rows.fnBufTypeConstraintSpec.plain.varTypes Tryz.prog).any (Tryz.prog.mapsRec ·)) = true := by kernel_rfl
theorem a5 : (Rows.fnBufTypeConstraintRow.ifaces == (Tryz.f10.params.toList ++ Rows.fnBufTypeConstraintSpec.plain.varTypes Tryz.prog).any (Tryz.prog.ifacesRec ·)) = true := by kernel_rfl
theorem a6 : (Rows.fnBufTypeConstraintRow.mapsOut == Tryz.prog.mapsAmong Tryz.f10.resultTypes.toList) = true := by kernel_rfl
theorem a7 : (Rows.fnBufTypeConstraintRow.loops == (Tryz.f10.params.toList ++ Rows.fnBufTypeConstraintSpec.plain.varTypes Tryz.prog).any (Tryz.prog.loopsFrom ·)) = true := by kernel_rfl
theorem a8 : (Rows.fnBufTypeConstraintRow.wideKeys == (Tryz.f10.params.toList ++ Rows.fnBufTypeConstraintSpec.plain.varTypes Tryz.prog ++ Tryz.f10.resultTypes.toList).any (Tryz.prog.wideKeysFrom ·)) = true := by kernel_rfl
theorem a9 : (Rows.fnBufTypeConstraintRow.plainKeys == Tryz.prog.plainKeys) = true := by kernel_rfl
theorem b1 : (Rows.fnBufTypeConstraintRow.lifted == Tryz.prog.liftsFinal) = true := by kernel_rfl
theorem b2 : (Tryz.prog.make == some Rows.fnBufTypeConstraintRow.make) = true := by kernel_rfl
theorem b3 : (Rows.fnBufTypeConstraintRow.pinned == Rows.fnBufTypeConstraintRow.pinnedBy) = true := by kernel_rfl
theorem b4 : (Rows.fnBufTypeConstraintRow.veiled == (Tryz.f10.params.toList ++ Rows.fnBufTypeConstraintSpec.plain.varTypes Tryz.prog ++ Tryz.f10.resultTypes.toList).any (Tryz.prog.veiledRec ·)) = true := by kernel_rfl
theorem b5 : Rows.fnBufTypeConstraintRow.veiledFits Tryz.prog Tryz.f10.params.toList (Tryz.f10.params.toList ++ Rows.fnBufTypeConstraintSpec.plain.varTypes Tryz.prog ++ Tryz.f10.resultTypes.toList) = true := by kernel_rfl

theorem facts : joinedFacts Tryz.prog 10 Tryz.f10 Rows.fnBufTypeConstraintSpec Rows.fnBufTypeConstraintRow = true := by
  unfold joinedFacts
  rw [j1, j2, j3, j4, pf1, pf2, pf3, pf4, pf5, pf6, a1, a2, a3, a4, a5, a6, a7, a8, a9, b1, b2, b3, b4, b5]
  kernel_rfl

theorem fnm : Tryz.pinned.checked.prog.funcNamed Rows.fnBufTypeConstraintRow.func = some 10 := by kernel_rfl
theorem inst : Tryz.f10.isInstance Tryz.pinned.checked.prog Rows.fnBufTypeConstraintRow.origin Rows.fnBufTypeConstraintRow.targs := of_decide_eq_true (by kernel_rfl)
theorem wrp : Tryz.f10.isWrapper Tryz.pinned.checked.prog Rows.fnBufTypeConstraintRow.wrapper Rows.fnBufTypeConstraintRow.mainSum := by unfold Func.isWrapper; first | (rw [if_pos (by decide +kernel)]; kernel_rfl) | (rw [if_neg (by decide +kernel)]; exact ⟨rfl, rfl⟩)

theorem said : Rows.FnBufTypeConstraintSaid :=
  OpenClaim.holds_of_wide 10 Tryz.f10 rfl rfl rfl rfl rfl rfl rfl ⟨rfl, rfl, rfl, rfl, rfl⟩ rfl rfl rfl rfl rfl fnm Tryz.func10 facts inst wrp
    (fun os started H enc _ => lifted os started H enc)

theorem plain (f : FuncId) (fn : Func) (hf : Tryz.pinned.checked.prog.funcNamed "given.example/pub-brazing/laws.FnBufTypeConstraint" = some f) (hfn : Tryz.pinned.checked.prog.funcs[f]? = some fn) :
    true = Tryz.pinned.checked.prog.looks [] ∧ ∀ (j : Nat) t, fn.params[j]? = some t → Tryz.pinned.checked.prog.wantsStandIn t = false := by
  obtain rfl : f = 10 := Option.some.inj ((show Tryz.prog.funcNamed "given.example/pub-brazing/laws.FnBufTypeConstraint" = some 10 by kernel_rfl).symm.trans hf) |>.symm
  obtain rfl : fn = Tryz.f10 := (Option.some.inj (Tryz.func10.symm.trans hfn)).symm
  refine ⟨by kernel_rfl, fun j t ht => ?_⟩
  rw [Tryz.params10] at ht
  have hm : t ∈ [25, 4] := by simpa using Array.mem_of_getElem? ht
  have hall : ([25, 4].all fun u => !Tryz.prog.wantsStandIn u) = true := by kernel_rfl
  exact (show Tryz.prog.wantsStandIn t = false by simpa using List.all_eq_true.1 hall t hm)

theorem c1 : Rows.fnBufTypeConstraintRow.wfByText (OpenSpec.ofChange Rows.fnBufTypeConstraintSpec) = true := by kernel_rfl
theorem c2 : Tryz.pinned.checked.prog.mainIs = some (Rows.fnBufTypeConstraintCard.stood.harness.1, Rows.fnBufTypeConstraintCard.stood.harness.2.toList) := by kernel_rfl
theorem c3 : false = Rows.fnBufTypeConstraintRow.goesBy Tryz.pinned.checked.prog := by kernel_rfl

/-- THE CARD. -/
theorem card : Rows.FnBufTypeConstraintCardSaid :=
  Claim7.holds_tied_plain_at .later [] _ _ _ _ said (fun _ h => by cases h) c1 (fun _ h => by cases h) fnBufTypeConstraint_row_tie rfl ⟨rfl, rfl⟩ c2 rfl plain c3
end Go.Proofs.YtdljkanfebndaaaGreatDoor.fnBufTypeConstraint
