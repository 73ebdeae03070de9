/-
  A type's tree is written: its table, and those of what stands in it, level by level. Each node takes at most 300000 bytes.
-/
import Derived.Test.YtcbcdgifakcooaaGreatDoorSlTz
namespace Go.Proofs.YtcbcdgifakcooaaGreatDoor
open Go.RowKit
set_option linter.unusedVariables false
set_option linter.unusedSimpArgs false

theorem fine_of (bs : Bool) (sl : List Sl) (pat : List (Nat × Nat)) (hp : patOf sl = pat) (hok0 : okPat pat = true) (hok1 : okPat (pat ++ [(0, 4)]) = true) (hz : (plOf pat).getD 0 0 = 0) (hw4 : ∀ t ∈ sl, t.ref ≠ none → t.wid = 4) (hu : ∀ t ∈ sl, t.u < 256 ^ t.wid) (hn : sl.length ≤ 900) (bd : Nat) (hbd : 210000 + (sl.map Sl.bd).sum ≤ bd) (R : By → Nat → Prop)
    (hr : ∀ (sl' : List Sl) (B : By) (p : Nat), (patOf sl' = pat ∨ patOf sl' = pat ++ [(0, 4)]) → (∀ (i : Nat) (s : Sl), sl[i]? = some s → sl'[i]? = some s) → TabOf B p sl' → okPat (patOf sl') = true → BaseOf B p (plOf (patOf sl')) → R B p) : Fine bs sl bd R := by
  have hp2 : patOf (sl ++ [baseSl]) = pat ++ [(0, 4)] := by
    unfold patOf at hp ⊢
    rw [List.map_append, hp]
    rfl
  cases bs with
  | false =>
    refine ⟨by show okPat (patOf sl) = true; rw [hp]; exact hok0, hw4, hu, hn, ?_, fun B p hT => hr sl B p (.inl hp) (fun i s h => h) hT (by rw [hp]; exact hok0) (.none (by rw [hp]; exact hz))⟩
    show 70000 + (sl.map Sl.bd).sum ≤ bd
    omega
  | true =>
    have hok : okPat (patOf (sl ++ [baseSl])) = true := by rw [hp2]; exact hok1
    refine ⟨hok, hw4, hu, hn, ?_, fun B p hT => hr (sl ++ [baseSl]) B p (.inr hp2) (fun i s h => ?_) hT hok (baseOf_some (sl := sl ++ [baseSl]) hT (i := sl.length) (s := baseSl) (by simp) rfl (by simp [baseSl]) rfl hok rfl)⟩
    · show 70000 + ((sl ++ [baseSl]).map Sl.bd).sum ≤ bd
      rw [List.map_append, List.sum_append]
      simp [baseSl]
      omega
    · rw [List.getElem?_append_left (List.getElem?_eq_some_iff.1 h).1]
      exact h

theorem num_at {B : By} {p : Nat} {sl : List Sl} (h : TabOf B p sl) {i : Nat} {s : Sl} (hs : sl[i]? = some s) (hr : s.ref = none) (hok : okPat (patOf sl) = true) (hw : s.wid = 1) : NumAt B p (plOf (patOf sl)) s.idx s.u := by
  obtain ⟨a, b, c, d⟩ := num_of h hs hr hok (y := plAt (patOf sl) s.idx) rfl
  rw [hw] at c d
  exact ⟨_, rfl, a, b, c, d⟩
theorem ref_at {B : By} {p : Nat} {sl : List Sl} (h : TabOf B p sl) {i : Nat} {s : Sl} (hs : sl[i]? = some s) (hr : s.ref ≠ none) (hok : okPat (patOf sl) = true) (hw : s.wid = 4) : RefAt B p (plOf (patOf sl)) s.idx s.R := by
  obtain ⟨a, b, c, yd, d, e, f⟩ := node_of h hs hr hok hw (y := plAt (patOf sl) s.idx) rfl
  exact ⟨_, yd, rfl, a, b, c, d, e, f⟩
theorem RefAt.mono {B : By} {p : Nat} {ps : List Nat} {i : Nat} {R R' : By → Nat → Prop} (h : RefAt B p ps i R) (hR : ∀ B q, R B q → R' B q) : RefAt B p ps i R' := by
  obtain ⟨y, yd, a, b, c, d, e, f, g⟩ := h
  exact ⟨y, yd, a, b, c, d, e, f, hR _ _ g⟩

/-- What a pair of slots tells. -/
theorem pair_at {B : By} {p : Nat} {sl' : List Sl} {x : Nd} {F : Nat} {c : Array Value} {T : Nd → By → Nat → Prop} {bd : Nat} (h : TabOf B p sl') (hok : okPat (patOf sl') = true) (i j : Nat) (h1 : sl'[j]? = some ⟨i, 1, chT x.kind, none, fun _ _ => True, 0⟩) (h2 : sl'[j + 1]? = some ⟨i + 1, 4, 0, some (F, c), T x, bd⟩) :
    PairAt T B p (plOf (patOf sl')) i x := ⟨num_at h h1 rfl hok rfl, ref_at h h2 (by simp) hok rfl⟩

theorem chT_lt (k : Int) : chT k < 256 ^ 1 := by unfold chT; (repeat' split) <;> decide

theorem NodeW.mono {W : World} {bs : Bool} {bd bd' : Nat} {n : Nd} {R : By → Nat → Prop} (h : NodeW W bs bd n R) (hb : bd ≤ bd') : NodeW W bs bd' n R :=
  fun mb rb cap O w h1 h2 h3 => (h mb rb cap O w h1 h2 (by omega)).mono fun e w' hp => hp.mono hb (fun _ _ h => h)

theorem id_w {W : World} {bs : Bool} {D : Nat} {x : Nd} (hx : IdP x) (hL : LiesD D W x) : NodeW W bs (300000 * Nd.countD D x) x (TextR x) :=
  (ident_w W bs x hx.1 hx.2.1).mono (by have := countD_pos hL; omega)

theorem sumB_count (D : Nat) (x : Nd) (xs : List Nd) : sumB (fun i => 300000 * Nd.countD D (xs.getD i x)) xs.length = 300000 * (xs.map (Nd.countD D)).sum := by
  have key : ∀ j, j ≤ xs.length → sumB (fun i => 300000 * Nd.countD D (xs.getD i x)) j = 300000 * ((xs.take j).map (Nd.countD D)).sum := by
    intro j
    induction j with
    | zero => intro _; simp [sumB]
    | succ j ih =>
      intro hj
      have hlt : j < xs.length := by omega
      rw [sumB_succ, ih (by omega), List.take_add_one, List.getElem?_eq_getElem hlt, Option.toList_some, List.map_append, List.sum_append, Nat.mul_add]
      simp [List.getD_eq_getElem?_getD, List.getElem?_eq_getElem hlt]
  have h := key xs.length (Nat.le_refl _)
  rw [List.take_length] at h
  exact h

theorem count_succ (D : Nat) (n : Nd) : Nd.countD (D + 1) n = 1 + (n.kids.map (Nd.countD D)).sum := rfl

set_option maxHeartbeats 1000000 in
theorem tyW (bs : Bool) : ∀ (d D : Nat) (n : Nd) (W : World), TyP d n → LiesD D W n → RoomD D n → NodeW W bs (300000 * Nd.countD D n) n (TyR d n)
  | 0, _, _, _, hT, _, _ => hT.elim
  | _ + 1, 0, _, _, _, hL, _ => hL.elim
  | d + 1, D + 1, n, W, hT, hL, hRm => by
    have hkid : ∀ (i : Nat) (x : Nd), n.kids[i]? = some x → LiesD D W x ∧ RoomD D x := fun i x hx => ⟨(hL.2 i x hx).2, hRm.2 i x hx⟩
    have hcap : n.kids.length ≤ n.cap := hRm.1
    have hsm : n.kids.length ≤ 400 := hT.2.2.2.1
    have hu := hT.2.2.2.2.2.2.1
    have hu0 : 0 ≤ n.num := hT.wf.2.2.2.1
    rw [count_succ]
    have hcase : n.kind = 45 ∨ n.kind = 46 ∨ n.kind = 47 ∨ n.kind = 48 ∨ n.kind = 49 ∨ n.kind = 50 ∨ n.kind = 51 ∨ n.kind = 52 := by
      rcases hT.2.2.2.2.2.2.2 with h | h | h | h | h | h | h <;> (have := h.1; omega)
    rcases hcase with hk | hk | hk | hk | hk | hk | hk | hk
    · obtain ⟨x, hkx, hx⟩ := hT.k45 (.inl hk)
      obtain ⟨lx, rx⟩ := hkid 0 x (by rw [hkx]; rfl)
      refine node_any W bs n _ _ (TyR (d + 1) n) (by rw [hk]; decide) (slC_45 W bs n hk x (D + 1) (TextR x) _ hkx hL (id_w hx lx)) fun sl h => ?_
      obtain ⟨c, rfl⟩ := h
      refine fine_of bs _ [(1, 4)] rfl (by decide) (by decide) (by decide) ?_ ?_ (by simp) _ ?_ _ fun sl' B p hpat hin hTab hok hb => ?_
      · intro t ht _; obtain rfl := List.mem_singleton.1 ht; rfl
      · intro t ht; obtain rfl := List.mem_singleton.1 ht; exact (show 0 < 256 ^ 4 by decide)
      · rw [hkx]; simp; omega
      · have h0 := ref_at hTab (hin 0 _ rfl) (by simp) hok rfl
        refine ⟨_, hb, hTab.tab, ?_, ?_, ?_, ?_, ?_, ?_, ?_⟩ <;> intro hk' <;> first | (exfalso; omega) | skip
        intro x' hx'
        rw [hkx] at hx'
        cases hx'
        exact h0.mono fun B q h => TextR.ident h
    · obtain ⟨x, hkx, hx⟩ := hT.k45 (.inr hk)
      obtain ⟨lx, rx⟩ := hkid 0 x (by rw [hkx]; rfl)
      refine node_any W bs n _ _ (TyR (d + 1) n) (by rw [hk]; decide) (slC_46 W bs n hk x (D + 1) (TextR x) _ hkx hL (id_w hx lx)) fun sl h => ?_
      obtain ⟨c, rfl⟩ := h
      refine fine_of bs _ [(1, 4)] rfl (by decide) (by decide) (by decide) ?_ ?_ (by simp) _ ?_ _ fun sl' B p hpat hin hTab hok hb => ?_
      · intro t ht _; obtain rfl := List.mem_singleton.1 ht; rfl
      · intro t ht; obtain rfl := List.mem_singleton.1 ht; exact (show 0 < 256 ^ 4 by decide)
      · rw [hkx]; simp; omega
      · have h0 := ref_at hTab (hin 0 _ rfl) (by simp) hok rfl
        refine ⟨_, hb, hTab.tab, ?_, ?_, ?_, ?_, ?_, ?_, ?_⟩ <;> intro hk' <;> first | (exfalso; omega) | skip
        intro x' hx'
        rw [hkx] at hx'
        cases hx'
        exact h0.mono fun B q h => TextR.ident h
    · obtain ⟨x, hkx, tx, hx⟩ := hT.k47 hk
      obtain ⟨lx, rx⟩ := hkid 0 x (by rw [hkx]; rfl)
      refine node_any W bs n _ _ (TyR (d + 1) n) (by rw [hk]; decide) (slC_47 W bs n hk x (D + 1) (TyR d x) _ hkx hL tx (tyW bs d D x W hx lx rx)) fun sl h => ?_
      obtain ⟨c, rfl⟩ := h
      refine fine_of bs _ [(1, 1), (2, 4)] rfl (by decide) (by decide) (by decide) ?_ ?_ (by simp [pairSl]) _ ?_ _ fun sl' B p hpat hin hTab hok hb => ?_
      · intro t ht; simp only [pairSl, List.mem_cons, List.not_mem_nil, or_false] at ht; rcases ht with rfl | rfl <;> intro h <;> first | rfl | exact absurd rfl h
      · intro t ht; simp only [pairSl, List.mem_cons, List.not_mem_nil, or_false] at ht; rcases ht with rfl | rfl <;> first | exact chT_lt _ | exact (show 0 < 256 ^ 4 by decide)
      · rw [hkx]; simp [pairSl]; omega
      · have h0 := pair_at (T := TyR d) hTab hok 1 0 (hin 0 _ rfl) (hin 1 _ rfl)
        refine ⟨_, hb, hTab.tab, ?_, ?_, ?_, ?_, ?_, ?_, ?_⟩ <;> intro hk' <;> first | (exfalso; omega) | skip
        intro x' hx'
        rw [hkx] at hx'
        cases hx'
        exact h0
    · obtain ⟨x, y, hkx, tx, hx, ty, hy⟩ := hT.k48 hk
      obtain ⟨lx, rx⟩ := hkid 0 x (by rw [hkx]; rfl)
      obtain ⟨ly, ry⟩ := hkid 1 y (by rw [hkx]; rfl)
      refine node_any W bs n _ _ (TyR (d + 1) n) (by rw [hk]; decide) (slC_48 W bs n hk x y (D + 1) (TyR d x) _ (TyR d y) _ hkx hL tx ty (tyW bs d D x W hx lx rx) (tyW bs d D y W hy ly ry)) fun sl h => ?_
      obtain ⟨c, c2, rfl⟩ := h
      refine fine_of bs _ [(1, 1), (2, 4), (3, 1), (4, 4)] rfl (by decide) (by decide) (by decide) ?_ ?_ (by simp [pairSl]) _ ?_ _ fun sl' B p hpat hin hTab hok hb => ?_
      · intro t ht; simp only [pairSl, List.cons_append, List.nil_append, List.mem_cons, List.not_mem_nil, or_false] at ht; rcases ht with rfl | rfl | rfl | rfl <;> intro h <;> first | rfl | exact absurd rfl h
      · intro t ht; simp only [pairSl, List.cons_append, List.nil_append, List.mem_cons, List.not_mem_nil, or_false] at ht; rcases ht with rfl | rfl | rfl | rfl <;> first | exact chT_lt _ | exact (show 0 < 256 ^ 4 by decide)
      · rw [hkx]; simp [pairSl]; omega
      · have h0 := pair_at (T := TyR d) hTab hok 1 0 (hin 0 _ rfl) (hin 1 _ rfl)
        have h1 := pair_at (T := TyR d) hTab hok 3 2 (hin 2 _ rfl) (hin 3 _ rfl)
        refine ⟨_, hb, hTab.tab, ?_, ?_, ?_, ?_, ?_, ?_, ?_⟩ <;> intro hk' <;> first | (exfalso; omega) | skip
        intro x' y' hx'
        rw [hkx] at hx'
        cases hx'
        exact ⟨h0, h1⟩
    · obtain ⟨x, xs, hkx, hx, hxs⟩ := hT.k49 hk
      obtain ⟨lx, rx⟩ := hkid 0 x (by rw [hkx]; rfl)
      rw [hkx, List.length_cons] at hsm
      have hN2 : ∀ (i : Nat) (y : Nd), xs[i]? = some y → NodeW W bs (300000 * Nd.countD D (xs.getD i x)) y (TyR d (xs.getD i x)) := fun i y hy => by
        obtain ⟨ly, ry⟩ := hkid (i + 1) y (by rw [hkx]; exact hy)
        rw [show xs.getD i x = y from by rw [List.getD_eq_getElem?_getD, hy]; rfl]
        exact tyW bs d D y W (hxs y (List.mem_of_getElem? hy)).2 ly ry
      have hsc := sumB_count D x xs
      rcases hx with hx | hx
      · refine node_any W bs n _ _ (TyR (d + 1) n) (by rw [hk]; decide) (slC_49n W bs n hk x xs (D + 1) (fun i => TyR d (xs.getD i x)) (fun i => 300000 * Nd.countD D (xs.getD i x)) (16 + 4 * xs.length + sumB (fun i => 300000 * Nd.countD D (xs.getD i x)) xs.length) hkx hL hcap hx.1 hN2 xs.length rfl (by omega) (Nat.le_refl _)) fun sl h => ?_
        obtain ⟨c, rfl⟩ := h
        refine fine_of bs _ [(1, 4)] rfl (by decide) (by decide) (by decide) ?_ ?_ (by simp) _ ?_ _ fun sl' B p hpat hin hTab hok hb => ?_
        · intro t ht _; obtain rfl := List.mem_singleton.1 ht; rfl
        · intro t ht; obtain rfl := List.mem_singleton.1 ht; exact (show 0 < 256 ^ 4 by decide)
        · rw [hkx, hsc]; simp; omega
        · have h0 := ref_at hTab (hin 0 _ rfl) (by simp) hok rfl
          refine ⟨_, hb, hTab.tab, ?_, ?_, ?_, ?_, ?_, ?_, ?_⟩ <;> intro hk' <;> first | (exfalso; omega) | skip
          intro x' xs' hx'
          rw [hkx] at hx'
          cases hx'
          refine ⟨h0, .inl ⟨hx.1, ?_⟩⟩
          rcases hpat with h | h <;> rw [h] <;> decide
      · refine node_any W bs n _ _ (TyR (d + 1) n) (by rw [hk]; decide) (slC_49 W bs n hk x xs (D + 1) (TextR x) (300000 * Nd.countD D x) (fun i => TyR d (xs.getD i x)) (fun i => 300000 * Nd.countD D (xs.getD i x)) (16 + 4 * xs.length + sumB (fun i => 300000 * Nd.countD D (xs.getD i x)) xs.length) hkx hL hcap (by rw [hx.1]; decide) (id_w hx lx) hN2 xs.length rfl (by omega) (Nat.le_refl _)) fun sl h => ?_
        obtain ⟨c, c2, rfl⟩ := h
        refine fine_of bs _ [(1, 4), (2, 4)] rfl (by decide) (by decide) (by decide) ?_ ?_ (by simp) _ ?_ _ fun sl' B p hpat hin hTab hok hb => ?_
        · intro t ht; simp only [List.mem_cons, List.not_mem_nil, or_false] at ht; rcases ht with rfl | rfl <;> intro h <;> rfl
        · intro t ht; simp only [List.mem_cons, List.not_mem_nil, or_false] at ht; rcases ht with rfl | rfl <;> exact (show 0 < 256 ^ 4 by decide)
        · rw [hkx, hsc]; simp; omega
        · have h0 := ref_at hTab (hin 0 _ rfl) (by simp) hok rfl
          have h1 := ref_at hTab (hin 1 _ rfl) (by simp) hok rfl
          refine ⟨_, hb, hTab.tab, ?_, ?_, ?_, ?_, ?_, ?_, ?_⟩ <;> intro hk' <;> first | (exfalso; omega) | skip
          intro x' xs' hx'
          rw [hkx] at hx'
          cases hx'
          exact ⟨h0, .inr ⟨hx.1, h1.mono fun B q h => TextR.ident h⟩⟩
    · obtain ⟨x, y, hkx, hx, ty, hy⟩ := hT.k50 hk
      obtain ⟨lx, rx⟩ := hkid 0 x (by rw [hkx]; rfl)
      obtain ⟨ly, ry⟩ := hkid 1 y (by rw [hkx]; rfl)
      refine node_any W bs n _ _ (TyR (d + 1) n) (by rw [hk]; decide) (slC_50 W bs n hk x y (D + 1) (TextR x) _ (TyR d y) _ hkx hL ty (id_w hx lx) (tyW bs d D y W hy ly ry)) fun sl h => ?_
      obtain ⟨c, c2, rfl⟩ := h
      refine fine_of bs _ [(1, 4), (2, 1), (3, 4)] rfl (by decide) (by decide) (by decide) ?_ ?_ (by simp [pairSl]) _ ?_ _ fun sl' B p hpat hin hTab hok hb => ?_
      · intro t ht; simp only [pairSl, List.cons_append, List.nil_append, List.mem_cons, List.not_mem_nil, or_false] at ht; rcases ht with rfl | rfl | rfl <;> intro h <;> first | rfl | exact absurd rfl h
      · intro t ht; simp only [pairSl, List.cons_append, List.nil_append, List.mem_cons, List.not_mem_nil, or_false] at ht; rcases ht with rfl | rfl | rfl <;> first | exact chT_lt _ | exact (show 0 < 256 ^ 4 by decide)
      · rw [hkx]; simp [pairSl]; omega
      · have h0 := ref_at hTab (hin 0 _ rfl) (by simp) hok rfl
        have h1 := pair_at (T := TyR d) hTab hok 2 1 (hin 1 _ rfl) (hin 2 _ rfl)
        refine ⟨_, hb, hTab.tab, ?_, ?_, ?_, ?_, ?_, ?_, ?_⟩ <;> intro hk' <;> first | (exfalso; omega) | skip
        intro x' y' hx'
        rw [hkx] at hx'
        cases hx'
        exact ⟨h0.mono fun B q h => TextR.ident h, h1⟩
    · obtain ⟨x, xs, hkx, tx, hx, hxs⟩ := hT.k51 hk
      obtain ⟨lx, rx⟩ := hkid 0 x (by rw [hkx]; rfl)
      rw [hkx, List.length_cons] at hsm
      have hN2 : ∀ (i : Nat) (y : Nd), xs[i]? = some y → NodeW W bs (300000 * Nd.countD D (xs.getD i x)) y (TyR d (xs.getD i x)) := fun i y hy => by
        obtain ⟨ly, ry⟩ := hkid (i + 1) y (by rw [hkx]; exact hy)
        rw [show xs.getD i x = y from by rw [List.getD_eq_getElem?_getD, hy]; rfl]
        exact tyW bs d D y W (hxs y (List.mem_of_getElem? hy)).2 ly ry
      have hsc := sumB_count D x xs
      refine node_any W bs n _ _ (TyR (d + 1) n) (by rw [hk]; decide) (slC_51 W bs n hk x xs (D + 1) (TyR d x) (300000 * Nd.countD D x) (fun i => TyR d (xs.getD i x)) (fun i => 300000 * Nd.countD D (xs.getD i x)) (16 + 4 * xs.length + sumB (fun i => 300000 * Nd.countD D (xs.getD i x)) xs.length) hkx hL hcap tx (tyW bs d D x W hx lx rx) hN2 xs.length rfl (by omega) (Nat.le_refl _)) fun sl h => ?_
      obtain ⟨c, c2, rfl⟩ := h
      refine fine_of bs _ [(1, 4), (2, 1), (3, 4)] rfl (by decide) (by decide) (by decide) ?_ ?_ (by simp [pairSl]) _ ?_ _ fun sl' B p hpat hin hTab hok hb => ?_
      · intro t ht; simp only [pairSl, List.cons_append, List.nil_append, List.mem_cons, List.not_mem_nil, or_false] at ht; rcases ht with rfl | rfl | rfl <;> intro h <;> first | rfl | exact absurd rfl h
      · intro t ht; simp only [pairSl, List.cons_append, List.nil_append, List.mem_cons, List.not_mem_nil, or_false] at ht; rcases ht with rfl | rfl | rfl <;> first | exact chT_lt _ | exact (show 0 < 256 ^ 4 by decide)
      · rw [hkx, hsc]; simp [pairSl]; omega
      · have h0 := ref_at hTab (hin 0 _ rfl) (by simp) hok rfl
        have h1 := pair_at (T := TyR d) hTab hok 2 1 (hin 1 _ rfl) (hin 2 _ rfl)
        refine ⟨_, hb, hTab.tab, ?_, ?_, ?_, ?_, ?_, ?_, ?_⟩ <;> intro hk' <;> first | (exfalso; omega) | skip
        intro x' xs' hx'
        rw [hkx] at hx'
        cases hx'
        exact ⟨h0, h1⟩
    · obtain ⟨x, y, hkx, hx, ty, hy⟩ := hT.k52 hk
      obtain ⟨lx, rx⟩ := hkid 0 x (by rw [hkx]; rfl)
      obtain ⟨ly, ry⟩ := hkid 1 y (by rw [hkx]; rfl)
      have hlt : n.num.toNat < 256 ^ 1 := by omega
      rcases hx with hx | hx
      · refine node_any W bs n _ _ (TyR (d + 1) n) (by rw [hk]; decide) (slC_52n W bs n hk x y (D + 1) (TyR d y) _ hkx hL hu0 hx.1 ty (tyW bs d D y W hy ly ry)) fun sl h => ?_
        obtain ⟨c2, rfl⟩ := h
        refine fine_of bs _ [(2, 1), (3, 4), (4, 1)] rfl (by decide) (by decide) (by decide) ?_ ?_ (by simp [pairSl]) _ ?_ _ fun sl' B p hpat hin hTab hok hb => ?_
        · intro t ht; simp only [pairSl, List.cons_append, List.nil_append, List.mem_cons, List.not_mem_nil, or_false] at ht; rcases ht with rfl | rfl | rfl <;> intro h <;> first | rfl | exact absurd rfl h
        · intro t ht; simp only [pairSl, List.cons_append, List.nil_append, List.mem_cons, List.not_mem_nil, or_false] at ht; rcases ht with rfl | rfl | rfl <;> first | exact chT_lt _ | exact (show 0 < 256 ^ 4 by decide) | exact hlt
        · rw [hkx]; simp [pairSl]; omega
        · have h1 := pair_at (T := TyR d) hTab hok 2 0 (hin 0 _ rfl) (hin 1 _ rfl)
          have h2 := num_at hTab (hin 2 _ rfl) rfl hok rfl
          refine ⟨_, hb, hTab.tab, ?_, ?_, ?_, ?_, ?_, ?_, ?_⟩ <;> intro hk' <;> first | (exfalso; omega) | skip
          intro x' y' hx'
          rw [hkx] at hx'
          cases hx'
          refine ⟨.inl ⟨hx.1, ?_⟩, h1, h2⟩
          rcases hpat with h | h <;> rw [h] <;> decide
      · refine node_any W bs n _ _ (TyR (d + 1) n) (by rw [hk]; decide) (slC_52 W bs n hk x y (D + 1) (TextR x) _ (TyR d y) _ hkx hL hu0 (by rw [hx.1]; decide) ty (id_w hx lx) (tyW bs d D y W hy ly ry)) fun sl h => ?_
        obtain ⟨c, c2, rfl⟩ := h
        refine fine_of bs _ [(1, 4), (2, 1), (3, 4), (4, 1)] rfl (by decide) (by decide) (by decide) ?_ ?_ (by simp [pairSl]) _ ?_ _ fun sl' B p hpat hin hTab hok hb => ?_
        · intro t ht; simp only [pairSl, List.cons_append, List.nil_append, List.mem_cons, List.not_mem_nil, or_false] at ht; rcases ht with rfl | rfl | rfl | rfl <;> intro h <;> first | rfl | exact absurd rfl h
        · intro t ht; simp only [pairSl, List.cons_append, List.nil_append, List.mem_cons, List.not_mem_nil, or_false] at ht; rcases ht with rfl | rfl | rfl | rfl <;> first | exact chT_lt _ | exact (show 0 < 256 ^ 4 by decide) | exact hlt
        · rw [hkx]; simp [pairSl]; omega
        · have h0 := ref_at hTab (hin 0 _ rfl) (by simp) hok rfl
          have h1 := pair_at (T := TyR d) hTab hok 2 1 (hin 1 _ rfl) (hin 2 _ rfl)
          have h2 := num_at hTab (hin 3 _ rfl) rfl hok rfl
          refine ⟨_, hb, hTab.tab, ?_, ?_, ?_, ?_, ?_, ?_, ?_⟩ <;> intro hk' <;> first | (exfalso; omega) | skip
          intro x' y' hx'
          rw [hkx] at hx'
          cases hx'
          exact ⟨.inr ⟨hx.1, h0.mono fun B q h => TextR.ident h⟩, h1, h2⟩

end Go.Proofs.YtcbcdgifakcooaaGreatDoor
