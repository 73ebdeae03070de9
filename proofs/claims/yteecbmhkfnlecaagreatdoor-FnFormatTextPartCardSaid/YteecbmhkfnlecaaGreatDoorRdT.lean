/-
  The lexer of Flux at a moment's text: the token is the whole text. No conditions.
-/
import Derived.Test.YteecbmhkfnlecaaGreatDoorRdD
import Derived.Lib.Hide
import Derived.Deep.LoopGhost
import Derived.BigQuiet
import Derived.Deep.CutRange
import Derived.Deep.RegionWith
namespace Go.Proofs.YteecbmhkfnlecaaGreatDoor
open Go.RowKit
set_option linter.unusedVariables false
set_option linter.unusedSimpArgs false

/-- The world within spec.lexer's functions that lay a token as their result. -/
structure TokSt (w W : World) (b i : Nat) (s : ByteArray) : Prop where
  c0 : W.cell? ⟨b, 0, none⟩ = some (.string s)
  c1 : W.cell? ⟨b, 1, none⟩ = some (.int .i64 i)
  f : ∀ o, W.frozen? ⟨b, o, none⟩ = false
  r0 : W.cell? ⟨w.heap.size, 0, none⟩ = some (.int .i64 0)
  r1 : W.cell? ⟨w.heap.size, 1, none⟩ = some (.string ⟨#[]⟩)
  fr : ∀ o, W.frozen? ⟨w.heap.size, o, none⟩ = false
  nx : NextW b i w W
  lt : b < w.heap.size
  sz : w.heap.size < W.heap.size

theorem TokSt.set {w W : World} {b i : Nat} {s : ByteArray} (h : TokSt w W b i s) (j : Nat) : TokSt w (W.setCell ⟨b, 1, none⟩ (.int .i64 j)) b j s := by
  obtain ⟨c0, c1, f, r0, r1, fr, nx, lt, sz⟩ := h
  refine ⟨by simp [go_sem, c0], by simp [go_sem, c1], by intro o; simp [go_sem, f], by simp [go_sem, r0], by simp [go_sem, r1], by intro o; simp [go_sem, fr], nx.set lt, lt, by simpa [go_sem] using sz⟩

theorem TokSt.drewN {w W : World} {b i : Nat} {s : ByteArray} (h : TokSt w W b i s) (n : Nat) : TokSt w (W.drewN n) b i s := by
  obtain ⟨c0, c1, f, r0, r1, fr, nx, lt, sz⟩ := h
  refine ⟨by simp [c0], by simp [c1], by intro o; simp [f], by simp [r0], by simp [r1], by intro o; simp [fr], ⟨nx.1.drewN n, by simp [c1], fun o ho => by simp [nx.2.2.1 o ho], fun o => by simp [nx.2.2.2 o]⟩, lt, by simpa using sz⟩

theorem TokSt.drew {w W : World} {b i : Nat} {s : ByteArray} (h : TokSt w W b i s) : TokSt w W.drew b i s := h.drewN 1

theorem TokSt.next {w W W1 : World} {b i j : Nat} {s : ByteArray} (h : TokSt w W b i s) (g : NextW b j W W1) : TokSt w W1 b j s := by
  obtain ⟨c0, c1, f, r0, r1, fr, nx, lt, sz⟩ := h
  obtain ⟨k, ff⟩ := g.1.blk (c := w.heap.size) sz (by omega)
  exact ⟨(g.2.2.1 0 (by decide)).trans c0, g.2.1, fun o => (g.2.2.2 o).trans (f o), (k 0).trans r0, (k 1).trans r1, fun o => (ff o).trans (fr o), nx.trans g, lt, Nat.lt_of_lt_of_le sz g.1.size⟩

theorem NextW.drew {w W : World} {b i : Nat} (h : NextW b i w W) : NextW b i w W.drew := ⟨h.1.drew, h.2.1, h.2.2.1, h.2.2.2⟩

theorem TokSt.res {w W : World} {b i : Nat} {s : ByteArray} (h : TokSt w W b i s) (v0 v1 : Value) : NextW b i w ((W.setCell ⟨w.heap.size, 0, none⟩ v0).setCell ⟨w.heap.size, 1, none⟩ v1) := by
  obtain ⟨c0, c1, f, r0, r1, fr, nx, lt, sz⟩ := h
  have hh : ((W.setCell ⟨w.heap.size, 0, none⟩ v0).setCell ⟨w.heap.size, 1, none⟩ v1).heap[b]? = W.heap[b]? := by
    rw [Below.heap_setCell _ _ _ _ (by simp; omega), Below.heap_setCell _ _ _ _ (by simp; omega)]
  have hk : ∀ o, ((W.setCell ⟨w.heap.size, 0, none⟩ v0).setCell ⟨w.heap.size, 1, none⟩ v1).cell? ⟨b, o, none⟩ = W.cell? ⟨b, o, none⟩ := fun o => World.cell?_of_block hh
  have hf : ∀ o, ((W.setCell ⟨w.heap.size, 0, none⟩ v0).setCell ⟨w.heap.size, 1, none⟩ v1).frozen? ⟨b, o, none⟩ = W.frozen? ⟨b, o, none⟩ := fun o => World.frozen?_of_block hh
  exact ⟨(nx.1.setCell (Or.inr (Nat.le_refl _)) _).setCell (Or.inr (Nat.le_refl _)) _, (hk 1).trans c1, fun o ho => (hk o).trans (nx.2.2.1 o ho), fun o => (hf o).trans (nx.2.2.2 o)⟩

/-- A moment's text, as the lexer looks at it: q is the zone's place. -/
structure TimeTxt (s : ByteArray) (q : Nat) : Prop where
  sz : s.size ≤ 1000
  q19 : 19 ≤ q
  b10 : s.data.toList[10]? = some 84
  frac : q = 19 ∨ (s.data.toList[19]? = some 46 ∧ ∃ n, q = 20 + n ∧ ∀ j, j < n → dgB s (20 + j) = true)
  zone : (s.data.toList[q]? = some 90 ∧ s.size = q + 1) ∨ ((s.data.toList[q]? = some 43 ∨ s.data.toList[q]? = some 45) ∧ s.size = q + 6)

set_option maxRecDepth 100000 in
set_option maxHeartbeats 1000000 in
theorem time_any (s : ByteArray) (q b i : Nat) (w : World) (hx : TimeTxt s q) (hc : w.cell? ⟨b, 0, none⟩ = some (.string s)) (h1 : w.cell? ⟨b, 1, none⟩ = some (.int .i64 i)) (f : ∀ o, w.frozen? ⟨b, o, none⟩ = false) :
    Calls Tryz.prog 94 #[.pointer (some ⟨b, 0, none⟩), .int .i64 0] w fun e w' => e = .returned (.agg #[.int .i64 7, .string s]) ∧ NextW b s.size w w' := by
  have hlt := block_lt_of_cell hc
  obtain ⟨h10, e10⟩ := byteIs hx.b10
  have hq : q < s.size := by
    rcases hx.zone with ⟨_, h⟩ | ⟨_, h⟩ <;> omega
  have HX := Lib.hid hx
  have hsz := hx.sz
  have hq19 := hx.q19
  have HB0 := Lib.hid ((Below.refl w.heap.size w).alloc (Nat.le_refl _) (.cells #[.int .i64 0, .string ⟨#[]⟩] 52))
  have H0 : Hid (TokSt w (w.alloc (.cells #[.int .i64 0, .string ⟨#[]⟩] 52)) b i s) := by
    obtain ⟨kb, fb⟩ := oblk HB0.out hlt
    exact Lib.hid ⟨(kb 0).trans hc, (kb 1).trans h1, fun o => (fb o).trans (f o), by simp [go_sem], by simp [go_sem], by intro o; simp [go_sem], ⟨.of HB0.out, (kb 1).trans h1, fun o _ => kb o, fun o => fb o⟩, hlt, by simp⟩
  clear hx
  replace e10 : (s[10]'h10).toNat = 84 := e10
  go_enter Tryz.func94, Tryz.ntmps94
  have hm1 : min (10 : Int) (s.size : Int) = 10 := by omega
  have hm2 : min (19 : Int) (s.size : Int) = 19 := by omega
  have hz10 : (10 : Int) < (s.size : Int) := by omega
  have hz19 : (19 : Int) < (s.size : Int) := by omega
  clear hc h1 f
  go_upto_region 0 with fail
  go_cut [4] from 5 to 5 (fun v wx => v = .pointer (some ⟨w.heap.size, 0, none⟩) ∧ TokSt w wx b i s)
  case first =>
    go_wp2_with fail
    go_meet
    case rel => exact ⟨rfl, H0.out⟩
  case rest =>
  obtain ⟨rfl, hcut⟩ := hcut
  clear H0
  have H0 := Lib.hid hcut
  obtain ⟨a0, a1, a2, a3, a4, a5, a6, -, a7⟩ := hcut
  go_upto_region 1 with fail
  go_cut [] from 5 to 15 (fun wx => TokSt w wx b 10 s)
  case first =>
    go_wp2_with fail
    go_meet
    case rel => exact H0.out.set 10
  case rest =>
    clear a0 a1 a2 a3 a4 a5 a6 a7
    have H1 := Lib.hid hcut
    obtain ⟨c0, c1, f, r0, r1, fr, nx, -, sz⟩ := hcut
    go_wp2_with fail
    go_quiet (fail)
    go_upto_region 3 with fail
    go_cut [] from 38 to 51 (fun wx => TokSt w wx b 19 s)
    case first =>
      go_region
      go_wp2_with fail
      go_meet
      case rel => exact (H1.out.drewN _).set 19
    case rest =>
      clear c0 c1 f r0 r1 fr nx sz
      have H2 := Lib.hid hcut
      obtain ⟨c0, c1, f, r0, r1, fr, nx, -, sz⟩ := hcut
      have hfr := HX.out.frac
      go_upto_region 4 with fail
      go_cut [73] from 52 to 72 (fun v wx => v = .bool (decide (q ≠ 19)) ∧ TokSt w wx b 19 s)
      case first =>
        rcases hfr with h19 | ⟨h46, n, hqn, -⟩
        · obtain ⟨x, hx19, hne⟩ : ∃ x : UInt8, s.data.toList[19]? = some x ∧ ((x.toNat : Int) == 46) = false := by
            rcases HX.out.zone with ⟨h, -⟩ | ⟨h | h, -⟩ <;> (rw [h19] at h; exact ⟨_, h, by decide⟩)
          obtain ⟨g19, e19⟩ := byteIs hx19
          generalize x.toNat = c at *
          clear hx19
          go_quiet (fail)
          go_wp2_with fail
          go_meet
          case rel => exact ⟨by simp [h19], H2.out.drewN _⟩
        · obtain ⟨g19, e19⟩ := byteIs h46
          replace e19 : (s[19]'g19).toNat = 46 := e19
          clear h46
          go_quiet (fail)
          go_wp2_with fail
          go_meet
          case rel => exact ⟨by rw [decide_eq_true (by omega)], H2.out.drewN _⟩
      case rest =>
        clear c0 c1 f r0 r1 fr nx sz
        obtain ⟨rfl, hcut⟩ := hcut
        have H3 := Lib.hid hcut
        obtain ⟨c0, c1, f, r0, r1, fr, nx, -, sz⟩ := hcut
        go_upto_if 73 with fail
        go_cut [] from 73 to 82 (fun wx => TokSt w wx b q s)
        case first =>
          rcases hfr with h19 | ⟨h46, n, hqn, hdg⟩
          · have hd : decide (q ≠ 19) = false := by simp [h19]
            rw [hd]
            go_wp2_with fail
            go_meet
            case rel => rw [h19]; first | exact H3.out | exact H3.out.drewN _
          · have hd : decide (q ≠ 19) = true := decide_eq_true (by omega)
            rw [hd]
            have H5 := H3.out.set 20
            have hdq : dgB s (20 + n) = false := by
              rw [← hqn]
              rcases HX.out.zone with ⟨h, -⟩ | ⟨h | h, -⟩ <;> (rw [dgB_of h]; decide)
            have HD := Lib.hid (digits_any s b 20 n _ (by omega) H5.c0 H5.c1 H5.f hdg hdq (by omega))
            clear hdg hdq h46
            go_wp2_with fail
            refine HD.out.mono ?_
            rintro e w1 ⟨rfl, hN⟩
            have H6 := Lib.hid (H5.next hN)
            clear hN
            go_wp2_with fail
            go_meet
            case rel => rw [hqn]; exact H6.out
        case rest =>
          clear c0 c1 f r0 r1 fr nx sz
          have H4 := Lib.hid hcut
          obtain ⟨c0, c1, f, r0, r1, fr, nx, -, sz⟩ := hcut
          have hzone := HX.out.zone
          have hqz : (q : Int) < (s.size : Int) := by omega
          go_upto_region 7 with fail
          go_cut [104] from 83 to 103 (fun v wx => v = .bool (decide (s.size = q + 1)) ∧ TokSt w wx b q s)
          case first =>
            rcases hzone with ⟨h, h2⟩ | ⟨h, h2⟩
            · obtain ⟨gq, eq⟩ := byteIs h
              replace eq : (s[q]'gq).toNat = 90 := eq
              have H2' := Lib.hid h2
              clear h h2
              go_quiet (fail)
              go_wp2_with fail
              go_meet
              case rel => exact ⟨by rw [decide_eq_true H2'.out], H4.out.drewN _⟩
            · obtain ⟨x, hxq, hne⟩ : ∃ x : UInt8, s.data.toList[q]? = some x ∧ ((x.toNat : Int) == 90) = false := by
                rcases h with h | h <;> exact ⟨_, h, by decide⟩
              obtain ⟨gq, eq⟩ := byteIs hxq
              have hf : decide (s.size = q + 1) = false := decide_eq_false (by omega)
              clear h hxq h2
              generalize x.toNat = c at *
              go_quiet (fail)
              go_wp2_with fail
              go_meet
              case rel => exact ⟨by rw [hf], H4.out.drewN _⟩
          case rest =>
            clear c0 c1 f r0 r1 fr nx sz
            obtain ⟨rfl, hcut⟩ := hcut
            have H5 := Lib.hid hcut
            obtain ⟨c0, c1, f, r0, r1, fr, nx, -, sz⟩ := hcut
            go_upto_if 104 with fail
            go_cut [] from 104 to 159 (fun wx => TokSt w wx b s.size s)
            case first =>
              rcases hzone with ⟨h, h2⟩ | ⟨h, h2⟩
              · have hd : decide (s.size = q + 1) = true := decide_eq_true h2
                rw [hd]
                have H6 := Lib.hid (H5.out.set (q + 1))
                have H2' := Lib.hid h2
                clear h2
                go_wp2_with fail
                go_meet
                case rel => rw [H2'.out]; first | exact H6.out | (have := H6.out; push_cast at this; exact this)
              · have hd : decide (s.size = q + 1) = false := decide_eq_false (by omega)
                rw [hd]
                have hm6 : min ((q : Int) + 6) (s.size : Int) = (q : Int) + 6 := by omega
                have H2' := Lib.hid h2
                clear h2
                rcases h with h | h
                · obtain ⟨gq, eq⟩ := byteIs h
                  replace eq : (s[q]'gq).toNat = 43 := eq
                  clear h
                  go_wp2_with fail
                  go_quiet (fail)
                  go_wp2_with fail
                  go_region
                  go_wp2_with fail
                  go_meet
                  case rel =>
                    rw [H2'.out]
                    first
                      | exact TokSt.set ((H5.out.drewN _)) (q + 6)
                      | (have := TokSt.set ((H5.out.drewN _)) (q + 6); push_cast at this; exact this)
                · obtain ⟨gq, eq⟩ := byteIs h
                  replace eq : (s[q]'gq).toNat = 45 := eq
                  clear h
                  go_wp2_with fail
                  go_quiet (fail)
                  go_wp2_with fail
                  go_region
                  go_wp2_with fail
                  go_meet
                  case rel =>
                    rw [H2'.out]
                    first
                      | exact TokSt.set ((H5.out.drewN _)) (q + 6)
                      | (have := TokSt.set ((H5.out.drewN _)) (q + 6); push_cast at this; exact this)
            case rest =>
              clear c0 c1 f r0 r1 fr nx sz
              have H6 := Lib.hid hcut
              obtain ⟨c0, c1, f, r0, r1, fr, nx, -, sz⟩ := hcut
              go_wp2_with fail
              have hall : s.extract 0 s.size = s := by simp
              go_region
              go_wp2_with fail
              refine bodyPost_ret (v := .agg #[.int .i64 7, .string s]) ?_ rfl ⟨rfl, (H6.out.res _ _).drew⟩
              simp [results, Tryz.results94, go_sem, r0, r1]

end Go.Proofs.YteecbmhkfnlecaaGreatDoor
