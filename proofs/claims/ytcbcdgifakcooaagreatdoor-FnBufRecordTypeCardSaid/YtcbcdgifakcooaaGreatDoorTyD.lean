/-
  Types as trees: their shape by levels; what a flatbuffer's bytes tell of them; how the package's nodes of them lie in memory. No conditions.
-/
import Derived.Test.YtcbcdgifakcooaaGreatDoorLw
import Derived.Test.YtcbcdgifakcooaaGreatDoorVecN
namespace Go.Proofs.YtcbcdgifakcooaaGreatDoor
open Go.RowKit
set_option linter.unusedVariables false
set_option linter.unusedSimpArgs false

/-- The pointer's type of a type's node; its choice in a union. -/
def tTy (k : Int) : TypeId := if k = 45 then 304 else if k = 46 then 307 else if k = 47 then 38 else if k = 48 then 309 else if k = 49 then 66 else 59
def chT (k : Int) : Nat := if k = 45 then 1 else if k = 46 then 2 else if k = 47 then 3 else if k = 48 then 4 else if k = 49 then 5 else 6
def isTyP (k : Int) : Prop := k = 45 ∨ k = 46 ∨ k = 47 ∨ k = 48 ∨ k = 49 ∨ k = 51

/-- An identifier; nothing; one of them. -/
def IdP (x : Nd) : Prop := x.kind = 33 ∧ x.text.size ≤ 300 ∧ x.kids = [] ∧ ∃ e, GoodW e x
def NoP (x : Nd) : Prop := x.kind = 0 ∧ x.text = ⟨#[]⟩ ∧ x.more = ⟨#[]⟩ ∧ x.num = 0 ∧ x.kids = []
def MayP (x : Nd) : Prop := NoP x ∨ IdP x

/-- A type's tree, so many levels deep. -/
def TyP : Nat → Nd → Prop
  | 0, _ => False
  | d + 1, n => n.text = ⟨#[]⟩ ∧ n.more = ⟨#[]⟩ ∧ n.wf ∧ n.kids.length ≤ 400 ∧ n.kids.length ≤ n.cap ∧ (n.kind ≠ 52 → n.num = 0) ∧ n.num ≤ 2 ∧
      (((n.kind = 45 ∨ n.kind = 46) ∧ ∃ x, n.kids = [x] ∧ IdP x) ∨
       (n.kind = 47 ∧ ∃ x, n.kids = [x] ∧ isTyP x.kind ∧ TyP d x) ∨
       (n.kind = 48 ∧ ∃ x y, n.kids = [x, y] ∧ isTyP x.kind ∧ TyP d x ∧ isTyP y.kind ∧ TyP d y) ∨
       (n.kind = 49 ∧ ∃ x xs, n.kids = x :: xs ∧ MayP x ∧ ∀ y ∈ xs, y.kind = 50 ∧ TyP d y) ∨
       (n.kind = 50 ∧ ∃ x y, n.kids = [x, y] ∧ IdP x ∧ isTyP y.kind ∧ TyP d y) ∨
       (n.kind = 51 ∧ ∃ x xs, n.kids = x :: xs ∧ isTyP x.kind ∧ TyP d x ∧ ∀ y ∈ xs, y.kind = 52 ∧ TyP d y) ∨
       (n.kind = 52 ∧ ∃ x y, n.kids = [x, y] ∧ MayP x ∧ isTyP y.kind ∧ TyP d y))

theorem TyP.pos {d : Nat} {n : Nd} (h : TyP d n) : ∃ e, d = e + 1 := by
  cases d with
  | zero => exact h.elim
  | succ e => exact ⟨e, rfl⟩
theorem TyP.wf {d : Nat} {n : Nd} (h : TyP (d + 1) n) : n.wf := h.2.2.1
theorem TyP.num0 {d : Nat} {n : Nd} (h : TyP (d + 1) n) (hk : n.kind ≠ 52) : n.num = 0 := h.2.2.2.2.2.1 hk

theorem TyP.k45 {d : Nat} {n : Nd} (h : TyP (d + 1) n) (hk : n.kind = 45 ∨ n.kind = 46) : ∃ x, n.kids = [x] ∧ IdP x := by
  rcases h.2.2.2.2.2.2.2 with h | h | h | h | h | h | h
  · exact h.2
  all_goals (obtain ⟨h1, -⟩ := h; omega)
theorem TyP.k47 {d : Nat} {n : Nd} (h : TyP (d + 1) n) (hk : n.kind = 47) : ∃ x, n.kids = [x] ∧ isTyP x.kind ∧ TyP d x := by
  rcases h.2.2.2.2.2.2.2 with h | h | h | h | h | h | h
  · obtain ⟨h1, -⟩ := h; omega
  · exact h.2
  all_goals (obtain ⟨h1, -⟩ := h; omega)
theorem TyP.k48 {d : Nat} {n : Nd} (h : TyP (d + 1) n) (hk : n.kind = 48) : ∃ x y, n.kids = [x, y] ∧ isTyP x.kind ∧ TyP d x ∧ isTyP y.kind ∧ TyP d y := by
  rcases h.2.2.2.2.2.2.2 with h | h | h | h | h | h | h
  · obtain ⟨h1, -⟩ := h; omega
  · obtain ⟨h1, -⟩ := h; omega
  · exact h.2
  all_goals (obtain ⟨h1, -⟩ := h; omega)
theorem TyP.k49 {d : Nat} {n : Nd} (h : TyP (d + 1) n) (hk : n.kind = 49) : ∃ x xs, n.kids = x :: xs ∧ MayP x ∧ ∀ y ∈ xs, y.kind = 50 ∧ TyP d y := by
  rcases h.2.2.2.2.2.2.2 with h | h | h | h | h | h | h
  · obtain ⟨h1, -⟩ := h; omega
  · obtain ⟨h1, -⟩ := h; omega
  · obtain ⟨h1, -⟩ := h; omega
  · exact h.2
  all_goals (obtain ⟨h1, -⟩ := h; omega)
theorem TyP.k50 {d : Nat} {n : Nd} (h : TyP (d + 1) n) (hk : n.kind = 50) : ∃ x y, n.kids = [x, y] ∧ IdP x ∧ isTyP y.kind ∧ TyP d y := by
  rcases h.2.2.2.2.2.2.2 with h | h | h | h | h | h | h
  · obtain ⟨h1, -⟩ := h; omega
  · obtain ⟨h1, -⟩ := h; omega
  · obtain ⟨h1, -⟩ := h; omega
  · obtain ⟨h1, -⟩ := h; omega
  · exact h.2
  all_goals (obtain ⟨h1, -⟩ := h; omega)
theorem TyP.k51 {d : Nat} {n : Nd} (h : TyP (d + 1) n) (hk : n.kind = 51) : ∃ x xs, n.kids = x :: xs ∧ isTyP x.kind ∧ TyP d x ∧ ∀ y ∈ xs, y.kind = 52 ∧ TyP d y := by
  rcases h.2.2.2.2.2.2.2 with h | h | h | h | h | h | h
  · obtain ⟨h1, -⟩ := h; omega
  · obtain ⟨h1, -⟩ := h; omega
  · obtain ⟨h1, -⟩ := h; omega
  · obtain ⟨h1, -⟩ := h; omega
  · obtain ⟨h1, -⟩ := h; omega
  · exact h.2
  · obtain ⟨h1, -⟩ := h; omega
theorem TyP.k52 {d : Nat} {n : Nd} (h : TyP (d + 1) n) (hk : n.kind = 52) : ∃ x y, n.kids = [x, y] ∧ MayP x ∧ isTyP y.kind ∧ TyP d y := by
  rcases h.2.2.2.2.2.2.2 with h | h | h | h | h | h | h
  · obtain ⟨h1, -⟩ := h; omega
  · obtain ⟨h1, -⟩ := h; omega
  · obtain ⟨h1, -⟩ := h; omega
  · obtain ⟨h1, -⟩ := h; omega
  · obtain ⟨h1, -⟩ := h; omega
  · obtain ⟨h1, -⟩ := h; omega
  · exact h.2

theorem isTy_class {x : Nd} (h : ofClassB x 2 = true) : isTyP x.kind := by
  have h : isTypeB x.kind = true := h
  unfold isTypeB at h
  simp at h
  unfold isTyP
  omega
theorem isTyP.ge {k : Int} (h : isTyP k) : 45 ≤ k ∧ k ≤ 52 := by unfold isTyP at h; omega

theorem idP_of {d D : Nat} {x : Nd} {W : World} (hL : LiesD D W x) (hF : FitP d x) (hS : ∀ e, SmallD e x) (hk : x.kind = 33) : IdP x := by
  cases d with
  | zero => exact hF.elim
  | succ d =>
    have hG : FitP (d + 1) x := hF
    rcases hF with hz | hz
    · rw [hz.1] at hk; exact absurd hk (by decide)
    · have hlx := hz.2.2.2.1 (by rw [hk]; decide)
      rw [hk] at hlx
      have hn : x.kids = [] := by
        rcases hlx.2 with e | e
        · exact List.eq_nil_of_length_eq_zero (by simpa [show (fixedL 33) = [] from by decide] using e)
        · exact absurd (show restL 33 = 28 from by decide) e
      exact ⟨hk, hz.2.2.1.2.2.2.1, hn, d + 1, ⟨hG, leaf_none13 hn (by rw [hk]; decide) _, hS _, by rw [hk]; decide⟩, ⟨D, W, hL⟩⟩

theorem tyP_of : ∀ (d D : Nat) (n : Nd) (W : World), LiesD D W n → FitP d n → (∀ e, SmallD e n) → 45 ≤ n.kind → n.kind ≤ 52 → TyP d n
  | 0, _, _, _, _, hF, _, _, _ => hF.elim
  | d + 1, D, n, W, hL, hF, hS, h1, h2 => by
    rcases hF with hz | hz
    · rw [hz.1] at h1; omega
    obtain ⟨-, -, hpl, hlen, hkid, -⟩ := hz
    have hlen := hlen (by omega)
    have hwf : n.wf := by
      cases D with
      | zero => exact hL.elim
      | succ D => exact hL.1
    have hL' : ∀ (i : Nat) (x : Nd), n.kids[i]? = some x → ∃ D', LiesD D' W x := by
      intro i x hx
      cases D with
      | zero => exact hL.elim
      | succ D => exact ⟨D, (hL.2 i x hx).2⟩
    have hS' : ∀ (i : Nat) (x : Nd), n.kids[i]? = some x → ∀ e, SmallD e x := fun i x hx e => (hS (e + 1)).2 i x hx
    have hF' : ∀ (i : Nat) (x : Nd), n.kids[i]? = some x → ofClassB x ((fixedL n.kind).getD i (restL n.kind)) = true ∧ FitP d x := fun i x hx => ⟨(hkid i x hx).1 (by omega), (hkid i x hx).2⟩
    have hty : ∀ (i : Nat) (x : Nd), n.kids[i]? = some x → (fixedL n.kind).getD i (restL n.kind) = 2 → isTyP x.kind ∧ TyP d x := by
      intro i x hx hc
      obtain ⟨q1, q2⟩ := hF' i x hx
      rw [hc] at q1
      have hk := isTy_class q1
      obtain ⟨D', hl⟩ := hL' i x hx
      exact ⟨hk, tyP_of d D' x W hl q2 (hS' i x hx) hk.ge.1 hk.ge.2⟩
    have hid : ∀ (i : Nat) (x : Nd), n.kids[i]? = some x → (fixedL n.kind).getD i (restL n.kind) = 3 → IdP x := by
      intro i x hx hc
      obtain ⟨q1, q2⟩ := hF' i x hx
      rw [hc] at q1
      have hk : x.kind = 33 := by have h := class_few [33] rfl q1; simpa using h
      obtain ⟨D', hl⟩ := hL' i x hx
      exact idP_of hl q2 (hS' i x hx) hk
    have hmay : ∀ (i : Nat) (x : Nd), n.kids[i]? = some x → (fixedL n.kind).getD i (restL n.kind) = 4 → MayP x := by
      intro i x hx hc
      obtain ⟨q1, q2⟩ := hF' i x hx
      rw [hc] at q1
      have hk : x.kind = 33 ∨ x.kind = 0 := by have h := class_few [33, 0] rfl q1; simpa using h
      obtain ⟨D', hl⟩ := hL' i x hx
      rcases hk with hk | hk
      · exact .inr (idP_of hl q2 (hS' i x hx) hk)
      · refine .inl ?_
        cases d with
        | zero => exact q2.elim
        | succ d =>
          rcases q2 with hz | hz
          · exact ⟨hz.1, hz.2.1, hz.2.2.1, hz.2.2.2.1, hz.2.2.2.2⟩
          · have := hz.1; omega
    refine ⟨hpl.1 ?_, hpl.2.2.1 (by omega) (by omega), hwf, (hS 1).1.1, (hS 1).1.2, fun hk => hpl.2.1 ?_, ?_, ?_⟩
    · have : n.kind = 45 ∨ n.kind = 46 ∨ n.kind = 47 ∨ n.kind = 48 ∨ n.kind = 49 ∨ n.kind = 50 ∨ n.kind = 51 ∨ n.kind = 52 := by omega
      rcases this with e | e | e | e | e | e | e | e <;> rw [e] <;> decide
    · have : n.kind = 45 ∨ n.kind = 46 ∨ n.kind = 47 ∨ n.kind = 48 ∨ n.kind = 49 ∨ n.kind = 50 ∨ n.kind = 51 := by omega
      rcases this with e | e | e | e | e | e | e <;> rw [e] <;> decide
    · by_cases hk : n.kind = 52
      · exact hpl.2.2.2.2.2.2.2.2.2.1 hk
      · rw [hpl.2.1 (by
          have : n.kind = 45 ∨ n.kind = 46 ∨ n.kind = 47 ∨ n.kind = 48 ∨ n.kind = 49 ∨ n.kind = 50 ∨ n.kind = 51 := by omega
          rcases this with e | e | e | e | e | e | e <;> rw [e] <;> decide)]
        decide
    · have hcase : (n.kind = 45 ∨ n.kind = 46) ∨ n.kind = 47 ∨ n.kind = 48 ∨ n.kind = 49 ∨ n.kind = 50 ∨ n.kind = 51 ∨ n.kind = 52 := by omega
      have one : (fixedL n.kind).length = 1 → restL n.kind = 28 → ∃ x, n.kids = [x] := fun e1 e2 => by
        have : n.kids.length = 1 := by rcases hlen.2 with e | e <;> omega
        exact kids1 this
      have two : (fixedL n.kind).length = 2 → restL n.kind = 28 → ∃ x y, n.kids = [x, y] := fun e1 e2 => by
        have : n.kids.length = 2 := by rcases hlen.2 with e | e <;> omega
        exact kids2 this
      have more : (fixedL n.kind).length = 1 → ∃ x xs, n.kids = x :: xs := fun e1 => by
        have h := hlen.1
        match hk : n.kids with
        | [] => rw [hk, e1] at h; simp at h
        | x :: xs => exact ⟨x, xs, rfl⟩
      have tail : ∀ (x : Nd) (xs : List Nd), n.kids = x :: xs → ∀ y ∈ xs, ∃ i, n.kids[i + 1]? = some y := fun x xs hk y hy => by
        obtain ⟨i, hi, e⟩ := List.mem_iff_getElem.1 hy
        exact ⟨i, by rw [hk, List.getElem?_cons_succ, List.getElem?_eq_getElem hi, e]⟩
      rcases hcase with e | e | e | e | e | e | e
      · obtain ⟨x, hx⟩ := one (by rcases e with e | e <;> rw [e] <;> decide) (by rcases e with e | e <;> rw [e] <;> decide)
        exact .inl ⟨e, x, hx, hid 0 x (by rw [hx]; rfl) (by rcases e with e | e <;> rw [e] <;> decide)⟩
      · obtain ⟨x, hx⟩ := one (by rw [e]; decide) (by rw [e]; decide)
        exact .inr (.inl ⟨e, x, hx, hty 0 x (by rw [hx]; rfl) (by rw [e]; decide)⟩)
      · obtain ⟨x, y, hx⟩ := two (by rw [e]; decide) (by rw [e]; decide)
        obtain ⟨a1, a2⟩ := hty 0 x (by rw [hx]; rfl) (by rw [e]; decide)
        obtain ⟨b1, b2⟩ := hty 1 y (by rw [hx]; rfl) (by rw [e]; decide)
        exact .inr (.inr (.inl ⟨e, x, y, hx, a1, a2, b1, b2⟩))
      · obtain ⟨x, xs, hx⟩ := more (by rw [e]; decide)
        refine .inr (.inr (.inr (.inl ⟨e, x, xs, hx, hmay 0 x (by rw [hx]; rfl) (by rw [e]; decide), fun y hy => ?_⟩)))
        obtain ⟨i, hi⟩ := tail x xs hx y hy
        obtain ⟨q1, q2⟩ := hF' (i + 1) y hi
        rw [show (fixedL n.kind).getD (i + 1) (restL n.kind) = 25 from by rw [e, show fixedL 49 = [4] from by decide, show restL 49 = 25 from by decide]; simp] at q1
        have hk : y.kind = 50 := by have h := class_few [50] rfl q1; simpa using h
        obtain ⟨D', hl⟩ := hL' (i + 1) y hi
        exact ⟨hk, tyP_of d D' y W hl q2 (hS' _ y hi) (by omega) (by omega)⟩
      · obtain ⟨x, y, hx⟩ := two (by rw [e]; decide) (by rw [e]; decide)
        obtain ⟨b1, b2⟩ := hty 1 y (by rw [hx]; rfl) (by rw [e]; decide)
        exact .inr (.inr (.inr (.inr (.inl ⟨e, x, y, hx, hid 0 x (by rw [hx]; rfl) (by rw [e]; decide), b1, b2⟩))))
      · obtain ⟨x, xs, hx⟩ := more (by rw [e]; decide)
        obtain ⟨a1, a2⟩ := hty 0 x (by rw [hx]; rfl) (by rw [e]; decide)
        refine .inr (.inr (.inr (.inr (.inr (.inl ⟨e, x, xs, hx, a1, a2, fun y hy => ?_⟩)))))
        obtain ⟨i, hi⟩ := tail x xs hx y hy
        obtain ⟨q1, q2⟩ := hF' (i + 1) y hi
        rw [show (fixedL n.kind).getD (i + 1) (restL n.kind) = 26 from by rw [e, show fixedL 51 = [2] from by decide, show restL 51 = 26 from by decide]; simp] at q1
        have hk : y.kind = 52 := by have h := class_few [52] rfl q1; simpa using h
        obtain ⟨D', hl⟩ := hL' (i + 1) y hi
        exact ⟨hk, tyP_of d D' y W hl q2 (hS' _ y hi) (by omega) (by omega)⟩
      · obtain ⟨x, y, hx⟩ := two (by rw [e]; decide) (by rw [e]; decide)
        obtain ⟨b1, b2⟩ := hty 1 y (by rw [hx]; rfl) (by rw [e]; decide)
        exact .inr (.inr (.inr (.inr (.inr (.inr ⟨e, x, y, hx, hmay 0 x (by rw [hx]; rfl) (by rw [e]; decide), b1, b2⟩)))))

/-- What a table's bytes tell: a number, a reference, a union of types, an identifier that may lack. -/
def NumAt (B : By) (p : Nat) (ps : List Nat) (i u : Nat) : Prop := ∃ x, ps.getD i 0 = x ∧ x ≠ 0 ∧ x < 65536 ∧ x + p + 1 ≤ B.length ∧ leAt B (x + p) 1 = u
def RefAt (B : By) (p : Nat) (ps : List Nat) (i : Nat) (R : By → Nat → Prop) : Prop := ∃ y yd, ps.getD i 0 = y ∧ y ≠ 0 ∧ y < 65536 ∧ y + p + 4 ≤ B.length ∧ leAt B (y + p) 4 = yd ∧ y + p + yd < B.length ∧ R B (y + p + yd)
def IdR (x : Nd) (B : By) (q : Nat) : Prop := IdentAt B q x.text
def PairAt (T : Nd → By → Nat → Prop) (B : By) (p : Nat) (ps : List Nat) (i : Nat) (x : Nd) : Prop := NumAt B p ps i (chT x.kind) ∧ RefAt B p ps (i + 1) (T x)
def MayAt (B : By) (p : Nat) (ps : List Nat) (i : Nat) (x : Nd) : Prop := (x.kind = 0 ∧ ps.getD i 0 = 0) ∨ (x.kind = 33 ∧ RefAt B p ps i (IdR x))

/-- What the bytes tell of a type's table. -/
def TyR : Nat → Nd → By → Nat → Prop
  | 0, _, _, _ => False
  | d + 1, n, B, p => ∃ ps, BaseOf B p ps ∧ TabAt B p ps ∧
      (n.kind = 45 ∨ n.kind = 46 → ∀ x, n.kids = [x] → RefAt B p ps 1 (IdR x)) ∧
      (n.kind = 47 → ∀ x, n.kids = [x] → PairAt (TyR d) B p ps 1 x) ∧
      (n.kind = 48 → ∀ x y, n.kids = [x, y] → PairAt (TyR d) B p ps 1 x ∧ PairAt (TyR d) B p ps 3 y) ∧
      (n.kind = 49 → ∀ x xs, n.kids = x :: xs → RefAt B p ps 1 (VecAt xs.length (fun i => TyR d (xs.getD i x))) ∧ MayAt B p ps 2 x) ∧
      (n.kind = 50 → ∀ x y, n.kids = [x, y] → RefAt B p ps 1 (IdR x) ∧ PairAt (TyR d) B p ps 2 y) ∧
      (n.kind = 51 → ∀ x xs, n.kids = x :: xs → RefAt B p ps 1 (VecAt xs.length (fun i => TyR d (xs.getD i x))) ∧ PairAt (TyR d) B p ps 2 x) ∧
      (n.kind = 52 → ∀ x y, n.kids = [x, y] → MayAt B p ps 1 x ∧ PairAt (TyR d) B p ps 2 y ∧ NumAt B p ps 4 n.num.toNat)

/-! In memory. -/

/-- A field with an identifier; with one or nothing; with a type; with a row of pointers. -/
def IdV (A : Nat → Prop) (w : World) (x : Nd) (v : Value) : Prop := ∃ k, A k ∧ v = .pointer (some ⟨k, 0, none⟩) ∧ w.heap[k]? = some (.cells #[.pointer none, .slice none 0 0, .slice none 0 0, .string x.text] 99 (0, 0))
def MayV (A : Nat → Prop) (w : World) (x : Nd) (v : Value) : Prop := (x.kind = 0 ∧ v = .pointer none) ∨ (x.kind = 33 ∧ IdV A w x v)
def TyV (T : World → Nd → Nat → Prop) (w : World) (x : Nd) (v : Value) : Prop := ∃ k, v = .iface (tTy x.kind) (.pointer (some ⟨k, 0, none⟩)) ∧ T w x k
def PtrsV (A : Nat → Prop) (T : World → Nd → Nat → Prop) (w : World) (so : Option Addr) (xs : List Nd) : Prop :=
  ∀ (j : Nat) (x : Nd), xs[j]? = some x → ∃ g k, A g ∧ so = some ⟨g, 0, none⟩ ∧ w.cell? ⟨g, j, none⟩ = some (.pointer (some ⟨k, 0, none⟩)) ∧ T w x k

/-- The word of a parameter's kind. -/
def kindS (u : Int) : ByteArray := if u = 1 then ⟨#[79, 112, 116, 105, 111, 110, 97, 108]⟩ else if u = 2 then ⟨#[80, 105, 112, 101]⟩ else ⟨#[82, 101, 113, 117, 105, 114, 101, 100]⟩

/-- The cells of a type's node. -/
def RowT (A : Nat → Prop) (T : World → Nd → Nat → Prop) (w : World) (n : Nd) (cs : Array Value) (ty : TypeId) : Prop :=
  (n.kind = 45 ∧ ty = 306 ∧ ∃ x v, n.kids = [x] ∧ cs = #[.pointer none, .slice none 0 0, .slice none 0 0, v] ∧ IdV A w x v) ∨
  (n.kind = 46 ∧ ty = 308 ∧ ∃ x v, n.kids = [x] ∧ cs = #[.pointer none, .slice none 0 0, .slice none 0 0, v] ∧ IdV A w x v) ∨
  (n.kind = 47 ∧ ty = 47 ∧ ∃ x v, n.kids = [x] ∧ cs = #[.pointer none, .slice none 0 0, .slice none 0 0, v] ∧ TyV T w x v) ∨
  (n.kind = 48 ∧ ty = 311 ∧ ∃ x y v u, n.kids = [x, y] ∧ cs = #[.pointer none, .slice none 0 0, .slice none 0 0, v, u] ∧ TyV T w x v ∧ TyV T w y u) ∨
  (n.kind = 49 ∧ ty = 70 ∧ ∃ x xs so sc v, n.kids = x :: xs ∧ cs = #[.pointer none, .slice none 0 0, .slice none 0 0, .slice so xs.length sc, v] ∧ PtrsV A T w so xs ∧ MayV A w x v) ∨
  (n.kind = 50 ∧ ty = 288 ∧ ∃ x y v u, n.kids = [x, y] ∧ cs = #[.pointer none, .slice none 0 0, .slice none 0 0, v, u] ∧ IdV A w x v ∧ TyV T w y u) ∨
  (n.kind = 51 ∧ ty = 62 ∧ ∃ x xs so sc v, n.kids = x :: xs ∧ cs = #[.pointer none, .slice none 0 0, .slice none 0 0, .slice so xs.length sc, v] ∧ PtrsV A T w so xs ∧ TyV T w x v) ∨
  (n.kind = 52 ∧ ty = 277 ∧ ∃ x y v u, n.kids = [x, y] ∧ cs = #[.pointer none, .slice none 0 0, .slice none 0 0, v, u, .string (kindS n.num)] ∧ MayV A w x v ∧ TyV T w y u)

/-- Block b holds the package's node of a type. -/
def RepT (A : Nat → Prop) : Nat → World → Nd → Nat → Prop
  | 0, _, _, _ => False
  | d + 1, w, n, b => A b ∧ ∃ cs ty, w.heap[b]? = some (.cells cs ty (0, 0)) ∧ RowT A (RepT A d) w n cs ty

theorem IdV.carry {A A' : Nat → Prop} {w w' : World} {x : Nd} {v : Value} (h : IdV A w x v) (hc : Carries A A' w w') : IdV A' w' x v := by
  obtain ⟨k, hA, rfl, hk⟩ := h
  obtain ⟨h1, h2⟩ := hc k _ hA hk
  exact ⟨k, h2, rfl, h1⟩
theorem MayV.carry {A A' : Nat → Prop} {w w' : World} {x : Nd} {v : Value} (h : MayV A w x v) (hc : Carries A A' w w') : MayV A' w' x v := h.imp id fun h => ⟨h.1, h.2.carry hc⟩
theorem TyV.map {T T' : World → Nd → Nat → Prop} {w w' : World} {x : Nd} {v : Value} (h : TyV T w x v) (hT : ∀ k, T w x k → T' w' x k) : TyV T' w' x v := by
  obtain ⟨k, rfl, hk⟩ := h
  exact ⟨k, rfl, hT k hk⟩
theorem PtrsV.carry {A A' : Nat → Prop} {T T' : World → Nd → Nat → Prop} {w w' : World} {so : Option Addr} {xs : List Nd} (h : PtrsV A T w so xs) (hc : Carries A A' w w') (hT : ∀ x k, T w x k → T' w' x k) : PtrsV A' T' w' so xs := by
  intro j x hx
  obtain ⟨g, k, hA, rfl, hk, ht⟩ := h j x hx
  obtain ⟨ob, hob⟩ : ∃ ob, w.heap[g]? = some ob := ⟨_, Array.getElem?_eq_getElem (World.block_lt_of_cell? _ _ hk)⟩
  obtain ⟨h1, h2⟩ := hc g ob hA hob
  exact ⟨g, k, h2, rfl, (World.cell?_of_block (h1.trans hob.symm)).trans hk, hT x k ht⟩

theorem RowT.carry {A A' : Nat → Prop} {T T' : World → Nd → Nat → Prop} {w w' : World} {n : Nd} {cs : Array Value} {ty : TypeId} (h : RowT A T w n cs ty) (hc : Carries A A' w w') (hT : ∀ x k, T w x k → T' w' x k) : RowT A' T' w' n cs ty := by
  rcases h with h | h | h | h | h | h | h | h
  · obtain ⟨a, b, x, v, c, d, e⟩ := h
    exact .inl ⟨a, b, x, v, c, d, e.carry hc⟩
  · obtain ⟨a, b, x, v, c, d, e⟩ := h
    exact .inr (.inl ⟨a, b, x, v, c, d, e.carry hc⟩)
  · obtain ⟨a, b, x, v, c, d, e⟩ := h
    exact .inr (.inr (.inl ⟨a, b, x, v, c, d, e.map (hT x)⟩))
  · obtain ⟨a, b, x, y, v, u, c, d, e, f⟩ := h
    exact .inr (.inr (.inr (.inl ⟨a, b, x, y, v, u, c, d, e.map (hT x), f.map (hT y)⟩)))
  · obtain ⟨a, b, x, xs, so, sc, v, c, d, e, f⟩ := h
    exact .inr (.inr (.inr (.inr (.inl ⟨a, b, x, xs, so, sc, v, c, d, e.carry hc hT, f.carry hc⟩))))
  · obtain ⟨a, b, x, y, v, u, c, d, e, f⟩ := h
    exact .inr (.inr (.inr (.inr (.inr (.inl ⟨a, b, x, y, v, u, c, d, e.carry hc, f.map (hT y)⟩)))))
  · obtain ⟨a, b, x, xs, so, sc, v, c, d, e, f⟩ := h
    exact .inr (.inr (.inr (.inr (.inr (.inr (.inl ⟨a, b, x, xs, so, sc, v, c, d, e.carry hc hT, f.map (hT x)⟩))))))
  · obtain ⟨a, b, x, y, v, u, c, d, e, f⟩ := h
    exact .inr (.inr (.inr (.inr (.inr (.inr (.inr ⟨a, b, x, y, v, u, c, d, e.carry hc, f.map (hT y)⟩))))))

theorem RepT.carry {A A' : Nat → Prop} {d : Nat} : ∀ {w w' : World} {n : Nd} {b : Nat}, RepT A d w n b → Carries A A' w w' → RepT A' d w' n b := by
  induction d with
  | zero => intro w w' n b h; exact h.elim
  | succ d ih =>
    intro w w' n b h hc
    obtain ⟨hA, cs, ty, h1, h2⟩ := h
    obtain ⟨q1, q2⟩ := hc b _ hA h1
    exact ⟨q2, cs, ty, q1, h2.carry hc (fun x k hk => ih hk hc)⟩

theorem RepT.below {A : Nat → Prop} {d : Nat} {w w' : World} {n : Nd} {b : Nat} (h : RepT A d w n b) (hb : Below w.heap.size w w') : RepT A d w' n b := h.carry (Carries.of_below hb)
theorem RepT.mono {A A' : Nat → Prop} {d : Nat} {w : World} {n : Nd} {b : Nat} (h : RepT A d w n b) (hA : ∀ b, A b → A' b) : RepT A' d w n b := h.carry (fun b o h1 h2 => ⟨h2, hA b h1⟩)
theorem IdV.below {A : Nat → Prop} {w w' : World} {x : Nd} {v : Value} (h : IdV A w x v) (hb : Below w.heap.size w w') : IdV A w' x v := h.carry (Carries.of_below hb)
theorem MayV.below {A : Nat → Prop} {w w' : World} {x : Nd} {v : Value} (h : MayV A w x v) (hb : Below w.heap.size w w') : MayV A w' x v := h.carry (Carries.of_below hb)
theorem TyV.below {A : Nat → Prop} {d : Nat} {w w' : World} {x : Nd} {v : Value} (h : TyV (RepT A d) w x v) (hb : Below w.heap.size w w') : TyV (RepT A d) w' x v := h.map fun k hk => hk.below hb
theorem PtrsV.below {A : Nat → Prop} {d : Nat} {w w' : World} {so : Option Addr} {xs : List Nd} (h : PtrsV A (RepT A d) w so xs) (hb : Below w.heap.size w w') : PtrsV A (RepT A d) w' so xs := h.carry (Carries.of_below hb) fun x k hk => hk.below hb

/-- A row of pointers to types' nodes, while it is made. -/
def TyList (E : TypeId) (B d : Nat) (v : Value) (n : Nat) (xs : List Nd) (w : World) : Prop :=
  ∃ ks : List Nat, w.ownsRow B E 1 v n (ks.map fun k => .pointer (some ⟨k, 0, none⟩)) ∧ ∀ (i k : Nat) (x : Nd), ks[i]? = some k → xs[i]? = some x → RepT (fun c => B ≤ c ∧ some c ≠ v.ownBlock) d w x k

theorem TyList.start (E : TypeId) (B d : Nat) (xs : List Nd) (w : World) : TyList E B d (.slice none 0 0) 0 xs w := ⟨[], ⟨rfl, Or.inl ⟨rfl, rfl⟩⟩, by intro i k s h; simp at h⟩

theorem TyList.below {E : TypeId} {B d : Nat} {v : Value} {n : Nat} {xs : List Nd} {w w' : World} (h : TyList E B d v n xs w) {K : Nat} (hb : Below K w w') (hK : w.heap.size ≤ K) : TyList E B d v n xs w' := by
  obtain ⟨ks, h1, h2⟩ := h
  refine ⟨ks, h1.kept ⟨hb.os, hb.tape, hb.output, hb.size, fun i hi _ => hb.block i (Nat.lt_of_lt_of_le hi hK)⟩ (row := none) ?_, fun i k s hk hs => (h2 i k s hk hs).below (hb.mono hK)⟩
  cases hv : v.ownBlock with
  | none => exact Or.inl rfl
  | some g => exact Or.inr (by simp)

/-- What an append of one pointer, and its storing, leave as it was. -/
theorem next_carry {B b o g cap j sc : Nat} {so : Option Addr} {w8 w9 : World} {ob : Obj} (v : Value) (hgrow : (w8.alloc ob).grownBy w9 (Value.slice so j sc).ownBlock) (hat : (Value.slice so j sc).ownBlock = some g ∨ g = (w8.alloc ob).heap.size) (hbB : b < B) :
    Carries (fun c => B ≤ c ∧ some c ≠ (Value.slice so j sc).ownBlock) (fun c => B ≤ c ∧ some c ≠ (Value.slice (some ⟨g, 0, none⟩) (j + 1) cap).ownBlock) w8 (w9.setCell ⟨b, o, none⟩ v) := by
  intro q ob' hA hq
  have hlt : q < w8.heap.size := (Array.getElem?_eq_some_iff.1 hq).1
  refine ⟨(Below.heap_setCell _ _ _ _ (show q ≠ b by have := hA.1; omega)).trans ((hgrow.block q (by simp; omega) hA.2).trans ((Below.heap_alloc w8 _ q hlt).trans hq)), hA.1, fun e => ?_⟩
  have e2 : q = g := Option.some.inj e
  rcases hat with h | h
  · exact hA.2 (by rw [h, e2])
  · simp at h
    omega

/-- One pointer more. -/
theorem TyList.next {E : TypeId} {B d b o g cap j k8 sc : Nat} {so : Option Addr} {xs : List Nd} {x : Nd} {ks : List Nat} {w8 w9 : World} {ob : Obj} (v : Value)
    (hks : ∀ (i k : Nat) (x : Nd), ks[i]? = some k → xs[i]? = some x → RepT (fun c => B ≤ c ∧ some c ≠ (Value.slice so j sc).ownBlock) d w8 x k)
    (hx : xs[j]? = some x) (h8 : RepT (fun c => B ≤ c ∧ some c ≠ (Value.slice so j sc).ownBlock) d w8 x k8)
    (hown : w9.ownsRow B E 1 (.slice (some ⟨g, 0, none⟩) (j + 1) cap) (j + 1) (ks.map (fun k => .pointer (some ⟨k, 0, none⟩)) ++ [.pointer (some ⟨k8, 0, none⟩)]))
    (hgrow : (w8.alloc ob).grownBy w9 (Value.slice so j sc).ownBlock) (hat : (Value.slice so j sc).ownBlock = some g ∨ g = (w8.alloc ob).heap.size) (hbB : b < B) : TyList E B d (.slice (some ⟨g, 0, none⟩) (j + 1) cap) (j + 1) xs (w9.setCell ⟨b, o, none⟩ v) := by
  have hl : ks.length = j := by
    have := hown.1
    simp at this
    omega
  have hgB := (World.ownsRow.lt hown g rfl).1
  have hcar := next_carry (B := B) (b := b) (o := o) (cap := cap) v hgrow hat hbB
  refine ⟨ks ++ [k8], ?_, fun i q s hq hss => ?_⟩
  · rw [List.map_append]
    exact hown.kept ⟨rfl, rfl, rfl, by simp [World.setCell], fun i hi hne => Below.heap_setCell _ _ _ _ (fun e => hne (by rw [e]))⟩ (row := some b) (Or.inr (by simp [Value.ownBlock]; omega))
  · by_cases hi : i < j
    · rw [List.getElem?_append_left (by omega)] at hq
      exact (hks i q s hq hss).carry hcar
    · have hil := (List.getElem?_eq_some_iff.1 hq).1
      simp at hil
      obtain rfl : i = j := by omega
      rw [List.getElem?_append_right (by omega), hl] at hq
      simp at hq
      subst hq
      rw [hx] at hss
      cases hss
      exact h8.carry hcar

/-- The row is whole. -/
theorem TyList.done {E : TypeId} {B d : Nat} {so : Option Addr} {sc n : Nat} {xs : List Nd} {w : World} (h : TyList E B d (.slice so n sc) n xs w) (hn : xs.length = n) : PtrsV (From B) (RepT (From B) d) w so xs := by
  obtain ⟨ks, hrow, hks⟩ := h
  intro j x hx
  have hj := (List.getElem?_eq_some_iff.1 hx).1
  have hkl : ks.length = n := by have := hrow.1; simp at this; omega
  obtain ⟨kj, hkj⟩ : ∃ kj, ks[j]? = some kj := ⟨ks[j]'(by omega), List.getElem?_eq_getElem _⟩
  rcases hrow.2 with ⟨hv', h0⟩ | ⟨g, cap', cur, hv', hgB, hg, _, _, _, htk⟩
  · omega
  · cases hv'
    refine ⟨g, kj, hgB, rfl, ?_, (hks j kj x hkj hx).mono fun c hc => hc.1⟩
    rw [Lib.cell_of_heap hg]
    have hc2 : (cur.toList.take (n * 1))[j]? = some (.pointer (some ⟨kj, 0, none⟩)) := by rw [htk, List.getElem?_map, hkj]; rfl
    rw [List.getElem?_take] at hc2
    split at hc2
    · simpa using hc2
    · cases hc2

end Go.Proofs.YtcbcdgifakcooaaGreatDoor
