/-
  impl.DeleteProperty: the object without the first property of a key, as a plain tree. No conditions.
-/
import Derived.Test.YtongafghllkomaaGreatDoorDelP
import Derived.Test.YtongafghllkomaaGreatDoorImplGet
namespace Go.Proofs.YtongafghllkomaaGreatDoor
open Go.RowKit
set_option linter.unusedVariables false

theorem LiesD.inn {d : Nat} : ∀ {w : World} {n : Nd}, LiesD d w n → LiesIn (fun _ => True) d w n := by
  induction d with
  | zero => intro w n h; exact h.elim
  | succ d ih =>
    intro w n h
    refine ⟨h.1, fun i x hx => ?_⟩
    obtain ⟨⟨b, o, ha, hc⟩, hl⟩ := h.2 i x hx
    exact ⟨⟨b, o, trivial, ha, hc⟩, ih hl⟩

/-- Where the kids lie is no matter. -/
theorem RepD.re {A : Nat → Prop} {d : Nat} {w : World} {k : Int} {t m : ByteArray} {u : Int} {ao ao' : Option Addr} {c c' : Nat} {kids : List Nd} {b : Nat} (h : RepD A d w (.mk k t m u ao c kids) b) : RepD A d w (.mk k t m u ao' c' kids) b := by
  cases d with
  | zero => exact h.elim
  | succ d =>
    obtain ⟨hA, cs, h1, h2⟩ := h
    exact ⟨hA, cs, h1, h2⟩

theorem GoodD.re {d : Nat} {k : Int} {t m : ByteArray} {u : Int} {ao ao' : Option Addr} {c : Nat} {kids : List Nd} (h : GoodD d (.mk k t m u ao c kids)) : GoodD d (.mk k t m u ao' c kids) := by
  cases d with
  | zero => exact h.1.elim
  | succ d =>
    exact ⟨h.1, h.2.1, h.2.2.1, h.2.2.2⟩

/-- What unnode hands back at an object, whatever its slice. -/
theorem sep_any (d : Nat) (hU : UnC d) (n : Nd) (D : Nat) (w : World) (hL : LiesD D w n) (hG : PreD (d + 1) n) (hk : n.kind = 28) : Calls Tryz.prog 31 #[n.val] w (SepPost d n w) := by
  by_cases h1 : n.cap = 1
  · by_cases h0 : (n.kid 0).kind = 0
    · exact sep_28_one_none d hU n D w hL hG hk h1 h0
    · exact sep_28_one d hU n D w hL hG hk h1 h0
  · by_cases h0 : (n.kid 0).kind = 0
    · exact sep_28_none d hU n D w hL hG hk h1 h0
    · exact sep_28 d hU n D w hL hG hk h1 h0

def SepPtr (d : Nat) (n : Nd) (w : World) (e : Ending) (w' : World) : Prop := ∃ b, e = .returned (.pointer (some ⟨b, 0, none⟩)) ∧ SepObj w.heap.size d w' n b ∧ Below w.heap.size w w'

theorem SepObj.from {B B' d : Nat} {w : World} {n : Nd} {b : Nat} (h : SepObj B d w n b) (hB : B' ≤ B) : SepObj B' d w n b := by
  obtain ⟨h1, v4, v5, hb, hne, hrt, h4, h5⟩ := h
  have hO : ∀ c, Off B b v5 c → Off B' b v5 c := fun c hc => ⟨Nat.le_trans hB hc.1, hc.2⟩
  refine ⟨Nat.le_trans hB h1, v4, v5, hb, hne, hrt, h4.carry (fun m c hr => hr.mono hO) (fun c o hA ho => ⟨ho, hO c hA⟩), ?_⟩
  refine CellsAre.carry h5 (fun c o hA ho => ⟨ho, Nat.le_trans hB hA⟩) (fun i x _ hx p hp => ?_)
  obtain ⟨y, g1, g2⟩ := hx p hp
  exact ⟨y, g1, g2.imp fun c hr => hr.mono hO⟩

set_option maxRecDepth 100000 in
theorem nodeOf_28S (d : Nat) (hU : UnC d) (n : Nd) (D : Nat) (w : World) (hL : LiesD D w n) (hG : GoodD (d + 1) n) (hk : n.kind = 28) : Calls Tryz.prog 55 #[n.val] w (SepPtr d n w) := by
  obtain ⟨k, t, m, u, ao, cap, kids⟩ := n
  obtain rfl : k = 28 := hk
  have HL := Lib.hid hL
  have HG := Lib.hid hG
  show Calls _ _ #[.agg #[.int .i64 28, .string t, .string m, .int .u64 u, .slice ao kids.length cap]] w _
  clear hL hG
  have ha := as_28
  go_enter Tryz.func55, Tryz.ntmps55
  go_wp2_with fail
  refine (sep_any d hU (.mk 28 t m u ao cap kids) D _ (HL.out.below ((Below.refl _ _).alloc (Nat.le_refl _) _)) HG.out.pre rfl).mono ?_
  rintro e w1 ⟨b, rfl, hR, hb⟩
  rw [show pTy (Nd.kind (.mk 28 t m u ao cap kids)) = 92 from pTy_28]
  have HR := Lib.hid (hR.from (show w.heap.size ≤ _ by simp))
  have HB := Lib.hid (((Below.refl w.heap.size w).alloc (Nat.le_refl _) _).trans (hb.mono (by simp)))
  clear hR hb
  go_wp2_with fail
  go_ret
  exact ⟨b, rfl, HR.out, HB.out⟩

/-- What impl.DeleteProperty hands back. -/
def DelImp (n : Nd) (key : ByteArray) (w : World) (e : Ending) (w' : World) : Prop :=
  ∃ (D : Nat) (m : Nd), e = .returned (.tuple #[.agg #[.int .i64 m.kind, .string m.text, .string m.more, .int .u64 m.num, .slice m.ao m.kids.length m.cap], .bool true]) ∧ LiesD D w' m ∧ ((∃ (j : Nat) (p x y : Nd), FirstAt n key j p x y ∧ SameD D (dropKid n j) m) ∨ (NoAt n key ∧ SameD D n m)) ∧ Below w.heap.size w w'

/-- What is left is handed back by node as it is. -/
theorem del_node {n : Nd} {D : Nat} {w : World} (hL : LiesD D w n) (hG : GoodD 12 n) (hk : n.kind = 28) (hm : n.kids.length ≤ 1001) {B b : Nat} {key : ByteArray} {W : World} (h : (∃ (j : Nat) (p x y : Nd), FirstAt n key j p x y ∧ RepD (From B) 12 W (dropKid n j) b) ∨ (NoAt n key ∧ RepD (From B) 12 W n b)) :
    Calls Tryz.prog 36 #[.iface 92 (.pointer (some ⟨b, 0, none⟩))] W fun e w' => ∃ (E : Nat) (m : Nd), e = .returned (.agg #[.int .i64 m.kind, .string m.text, .string m.more, .int .u64 m.num, .slice m.ao m.kids.length m.cap]) ∧ ((∃ (j : Nat) (p x y : Nd), FirstAt n key j p x y ∧ SameD E (dropKid n j) m) ∨ (NoAt n key ∧ SameD E n m)) ∧ LiesIn (From W.heap.size) E w' m ∧ Below W.heap.size W w' := by
  rcases h with ⟨j, p, x, y, hF, hR⟩ | ⟨hno, hR⟩
  · have hjl : j < n.kids.length := (List.getElem?_eq_some_iff.1 hF.2.1).1
    have hg := good_erase hG hk hF.1 hjl
    have hlen : (n.kids.eraseIdx j).length = n.kids.length - 1 := by rw [List.length_eraseIdx, if_pos hjl]
    have hw : GoodW 12 (.mk n.kind n.text n.more n.num (some ⟨w.heap.size, 0, none⟩) n.cap (n.kids.eraseIdx j)) := by
      refine ⟨hg.re, ?_⟩
      cases D with
      | zero => exact hL.elim
      | succ D =>
        obtain ⟨w1, w2, w3, w4, w5, w6, w7⟩ := hL.1
        refine ⟨D + 1, w.alloc (.cells ((n.kids.eraseIdx j).flatMap Nd.cells5).toArray 25), (lies_row (A := fun _ => True) ⟨w1, w2, ?_, w4, w5, w6, w7⟩ trivial (fun z hz => ?_)).lies⟩
        · show (n.kids.eraseIdx j).length ≤ maxLen
          omega
        · obtain ⟨i, hi⟩ := List.mem_iff_getElem?.1 hz
          rcases erase_at hi with ⟨-, h2⟩ | ⟨-, h2⟩
          · exact ((hL.2 _ z h2).2).inn
          · exact ((hL.2 _ z h2).2).inn
    have hc := node_all 12 12 _ (.mk n.kind n.text n.more n.num (some ⟨w.heap.size, 0, none⟩) n.cap (n.kids.eraseIdx j)) b W hw (RepD.re hR)
    rw [show Nd.kind (.mk n.kind n.text n.more n.num (some ⟨w.heap.size, 0, none⟩) n.cap (n.kids.eraseIdx j)) = 28 from hk, ptrTy_28] at hc
    refine hc.mono ?_
    rintro e w' ⟨E, m, he, hS, hl, hb⟩
    exact ⟨E, m, he, Or.inl ⟨j, p, x, y, hF, hS.re rfl rfl rfl rfl rfl⟩, hl, hb⟩
  · have hc := node_all 12 12 _ n b W ⟨hG, D, w, hL⟩ hR
    rw [hk, ptrTy_28] at hc
    refine hc.mono ?_
    rintro e w' ⟨E, m, he, hS, hl, hb⟩
    exact ⟨E, m, he, Or.inr ⟨hno, hS⟩, hl, hb⟩

set_option maxRecDepth 100000 in
set_option maxHeartbeats 1000000 in
theorem implDel (n : Nd) (key : ByteArray) (D : Nat) (w : World) (hL : LiesD D w n) (hG : GoodD 12 n) (hk : n.kind = 28) (hP : PropsP n) :
    Calls Tryz.prog 25 #[n.val, .string key] w (DelImp n key w) := by
  have hps := props_of hG hk
  have HE := Lib.hid (fun (B b : Nat) (w0 W : World) (hR : SepObj B (10 + 1) W n b) (hB : Below B w0 W) => editDel B 10 n b key w0 W hR hk hps.1 hps.2.1 hP hB)
  have HN := Lib.hid (fun (B b : Nat) (W : World) (h : (∃ (j : Nat) (p x y : Nd), FirstAt n key j p x y ∧ RepD (From B) 12 W (dropKid n j) b) ∨ (NoAt n key ∧ RepD (From B) 12 W n b)) => del_node hL hG hk hps.2.1 h)
  have HL := Lib.hid hL
  have HG := Lib.hid hG
  have HK := Lib.hid hk
  clear hps hP hL hG hk
  obtain ⟨k, t, m, u, ao, cap, kids⟩ := n
  obtain rfl : k = 28 := HK.out
  show Calls _ _ #[.agg #[.int .i64 28, .string t, .string m, .int .u64 u, .slice ao kids.length cap], _] w _
  go_enter_defers Tryz.func25, Tryz.ntmps25
  go_wp2_with fail
  refine (nodeOf_28S 11 (un_all 11) (.mk 28 t m u ao cap kids) D _ (HL.out.below ((((Below.refl _ _).alloc (Nat.le_refl _) _).alloc (by simp) _).alloc (by first | omega | (simp; done) | (simp; omega)) _)) HG.out rfl).mono ?_
  rintro e w1 ⟨b, rfl, hR, hb⟩
  have hBx := Lib.hid hb
  have HR := Lib.hid hR
  have HB := Lib.hid (((((Below.refl w.heap.size w).alloc (Nat.le_refl _) _).alloc (by simp) _).alloc (by first | omega | (simp; done) | (simp; omega)) _).trans (hb.mono (by first | omega | (simp; done) | (simp; omega))))
  have hz1 : w.heap.size + 1 + 1 < w1.heap.size := by have := hb.size; simp at this; omega
  clear hb hR
  go_wp2_with fail
  refine (HE.out _ b _ _ HR.out hBx.out).mono ?_
  rintro e w2 ⟨rfl, hf, hb2⟩
  obtain ⟨k11, f11⟩ := bblk hb2 (b := w.heap.size + 1) (by first | omega | (simp; done) | (simp; omega))
  obtain ⟨k12, f12⟩ := bblk hb2 (b := w.heap.size + 1 + 1) (by first | omega | (simp; done) | (simp; omega))
  have hz2 : w.heap.size + 1 + 1 < w2.heap.size := by have := hb2.size; simp at this; omega
  have HB2 := Lib.hid (((((Below.refl w.heap.size w).alloc (Nat.le_refl _) _).alloc (by simp) _).alloc (by first | omega | (simp; done) | (simp; omega)) _).trans (hb2.mono (by first | omega | (simp; done) | (simp; omega))))
  have HF := Lib.hid hf
  clear hb2 hf
  go_wp2_with fail
  refine (HN.out _ b _ HF.out).mono ?_
  rintro e w3 ⟨E, m3, rfl, hS, hl, hb3⟩
  have HS := Lib.hid hS
  have Hl := Lib.hid hl
  obtain ⟨k21, f21⟩ := bblk hb3 (b := w.heap.size + 1) (by omega)
  obtain ⟨k22, f22⟩ := bblk hb3 (b := w.heap.size + 1 + 1) (by omega)
  have HB3 := Lib.hid (HB2.out.trans (hb3.mono HB2.out.size))
  clear hS hl hb3
  go_wp2_with fail
  refine leaves_cons (f := 46) (args := #[.pointer (some ⟨w.heap.size + 1, 0, none⟩), .pointer (some ⟨w.heap.size + 1 + 1, 0, none⟩)]) (by simp) (by simp [go_sem]) ?_
  refine (noNode_idle _ _ _).mono ?_
  rintro e u2 w4 ⟨rfl, rfl, rfl⟩
  simp [Leaves, settle, results, Tryz.results25, go_sem, k21, k22, k11, k12]
  refine ⟨E, m3, rfl, get_lies Hl.out hz2 (fun c hc => ?_), HS.out, ?_⟩
  · rw [Below.heap_setCell _ _ _ _ (by first | omega | (simp; done) | (simp; omega)), Below.heap_setCell _ _ _ _ (by first | omega | (simp; done) | (simp; omega)), Below.heap_setCell _ _ _ _ (by first | omega | (simp; done) | (simp; omega)), Below.heap_setCell _ _ _ _ (by first | omega | (simp; done) | (simp; omega)), Below.heap_setCell _ _ _ _ (by first | omega | (simp; done) | (simp; omega)), Below.heap_setCell _ _ _ _ (by first | omega | (simp; done) | (simp; omega))]
  · exact (((((HB3.out.setCell (p := ⟨w.heap.size + 1, 0, none⟩) (by first | omega | (simp; done) | (simp; omega)) _).setCell (p := ⟨w.heap.size + 1, 1, none⟩) (by first | omega | (simp; done) | (simp; omega)) _).setCell (p := ⟨w.heap.size + 1, 2, none⟩) (by first | omega | (simp; done) | (simp; omega)) _).setCell (p := ⟨w.heap.size + 1, 3, none⟩) (by first | omega | (simp; done) | (simp; omega)) _).setCell (p := ⟨w.heap.size + 1, 4, none⟩) (by first | omega | (simp; done) | (simp; omega)) _).setCell (p := ⟨w.heap.size + 1 + 1, 0, none⟩) (by first | omega | (simp; done) | (simp; omega)) _
end Go.Proofs.YtongafghllkomaaGreatDoor
