/-
  The lexer of Flux at a string's text: what stands between the quotes. Conditions: plain text.
-/
import Derived.Test.YteecbmhkfnlecaaGreatDoorEsc
import Derived.Test.YteecbmhkfnlecaaGreatDoorRdT
import Derived.Test.YteecbmhkfnlecaaGreatDoorBu
import Derived.Lib.Hide
import Derived.Deep.LoopGhost
import Derived.Deep.AppendLies
import Derived.BigQuiet
import Derived.Deep.CutRange
import Derived.Laws.BytesArg
namespace Go.Proofs.YteecbmhkfnlecaaGreatDoor
open Go.RowKit Go.Lib
set_option linter.unusedVariables false
set_option linter.unusedSimpArgs false

theorem But.grown {b : Nat} {w w' : World} (h : But b w w') : w.grownBy w' (some b) := ⟨h.os, h.tape, h.output, h.size, fun k hk hr => h.block k hk (fun e => hr (by rw [e]))⟩

set_option maxRecDepth 100000 in
/-- Behind a backslash a quote or a backslash. -/
theorem esc_two (s : ByteArray) (b i : Nat) (x : UInt8) (w : World) (hs : s.size ≤ 2000000) (hc : w.cell? ⟨b, 0, none⟩ = some (.string s)) (h1 : w.cell? ⟨b, 1, none⟩ = some (.int .i64 i)) (f : ∀ o, w.frozen? ⟨b, o, none⟩ = false) (hx : s.data.toList[i]? = some x) (hx2 : x = 34 ∨ x = 92) :
    Calls Tryz.prog 96 #[.pointer (some ⟨b, 0, none⟩)] w fun e w' => ∃ g, e = .returned (.tuple #[.slice (some ⟨g, 0, none⟩) 1 1, .bool true]) ∧ w.heap.size ≤ g ∧ w'.cell? ⟨g, 0, none⟩ = some (.int .u8 x.toNat) ∧ NextW b (i + 1) w w' := by
  have hlt := block_lt_of_cell hc
  obtain ⟨hi, ei⟩ := byteIs hx
  have hz : (i : Int) < (s.size : Int) := by omega
  have hz2 : ¬ (s.size : Int) ≤ (i : Int) := by omega
  have key : Hid (∀ n o, NextW b (i + 1) w (((w.drewN n).setCell ⟨b, 1, none⟩ (.int .i64 ((i : Int) + 1))).alloc o)) := Lib.hid fun n o => by
    have hn : NextW b i w (w.drewN n) := ⟨(But.refl b w).drewN n, by simp [h1], fun o _ => by simp, fun o => by simp⟩
    have h2 := hn.set (j := i + 1) hlt
    push_cast at h2
    have hl2 : b < ((w.drewN n).setCell ⟨b, 1, none⟩ (.int .i64 ((i : Int) + 1))).heap.size := by simpa [go_sem] using hlt
    obtain ⟨k, ff⟩ := oblk ((Below.refl _ _).alloc (Nat.le_refl _) o) hl2
    exact ⟨h2.1.alloc o, (k 1).trans h2.2.1, fun q hq => (k q).trans (h2.2.2.1 q hq), fun q => (ff q).trans (h2.2.2.2 q)⟩
  rcases hx2 with rfl | rfl
  all_goals
    replace ei : (s[i]'hi).toNat = _ := ei
    simp only [UInt8.reduceToNat] at ei
    clear hx
    go_enter Tryz.func96, Tryz.ntmps96
    go_wp2_with fail
    go_quiet (fail)
    go_wp2_with fail
    go_quiet (fail)
    go_wp2_with fail
    go_ret2
    refine ⟨w.heap.size, rfl, Nat.le_refl _, by simp [go_sem], ?_⟩
    exact key.out _ _

theorem TokSt.grown {w W W4 : World} {b i : Nat} {s : ByteArray} {row : Option Nat} (h : TokSt w W b i s) (g : W.grownBy W4 row) (hr : ∀ k, row = some k → w.heap.size < k) : TokSt w W4 b i s := by
  have hb : But b W W4 ∨ True := Or.inr trivial
  obtain ⟨c0, c1, f, r0, r1, fr, nx, lt, sz⟩ := h
  have e1 : W4.heap[b]? = W.heap[b]? := g.block b (by omega) (fun e => by have := hr b e.symm; omega)
  have e2 : W4.heap[w.heap.size]? = W.heap[w.heap.size]? := g.block _ sz (fun e => by have := hr _ e.symm; omega)
  have k1 : ∀ o, W4.cell? ⟨b, o, none⟩ = W.cell? ⟨b, o, none⟩ := fun o => World.cell?_of_block e1
  have f1 : ∀ o, W4.frozen? ⟨b, o, none⟩ = W.frozen? ⟨b, o, none⟩ := fun o => World.frozen?_of_block e1
  have k2 : ∀ o, W4.cell? ⟨w.heap.size, o, none⟩ = W.cell? ⟨w.heap.size, o, none⟩ := fun o => World.cell?_of_block e2
  have f2 : ∀ o, W4.frozen? ⟨w.heap.size, o, none⟩ = W.frozen? ⟨w.heap.size, o, none⟩ := fun o => World.frozen?_of_block e2
  refine ⟨(k1 0).trans c0, (k1 1).trans c1, fun o => (f1 o).trans (f o), (k2 0).trans r0, (k2 1).trans r1, fun o => (f2 o).trans (fr o), ⟨⟨g.os.trans nx.1.os, g.tape.trans nx.1.tape, g.output.trans nx.1.output, Nat.le_trans nx.1.size g.size, fun k hk hkb => ?_⟩, (k1 1).trans c1, fun o ho => (k1 o).trans (nx.2.2.1 o ho), fun o => (f1 o).trans (nx.2.2.2 o)⟩, lt, Nat.lt_of_lt_of_le sz g.size⟩
  exact (g.block k (Nat.lt_of_lt_of_le hk nx.1.size) (fun e => by have := hr k e.symm; omega)).trans (nx.1.block k hk hkb)

theorem TokSt.alloc {w W : World} {b i : Nat} {s : ByteArray} (h : TokSt w W b i s) (o : Obj) : TokSt w (W.alloc o) b i s := h.grown (row := none) (World.grownBy_alloc W o none) (fun k hk => by cases hk)

/-- No dollar stands ahead of a bracket. -/
def PT (l : List UInt8) : Prop := ∀ k : Nat, l[k]? = some 36 → l[k + 1]? ≠ some 123

def offL (l : List UInt8) (k : Nat) : Nat := 1 + (escB (l.take k)).length

theorem esc_drop (l : List UInt8) (k : Nat) : (escB l).drop (escB (l.take k)).length = escB (l.drop k) := by
  have h : escB l = escB (l.take k) ++ escB (l.drop k) := by rw [← escB_append, List.take_append_drop]
  rw [h, List.drop_left]

theorem off_byte (S : List UInt8) (l : List UInt8) (k j : Nat) (hS : S = 34 :: (escB l ++ [34])) (hk : k ≤ l.length) : S[offL l k + j]? = (escB (l.drop k) ++ [34])[j]? := by
  have hle : (escB (l.take k)).length ≤ (escB l).length := by
    have h : escB l = escB (l.take k) ++ escB (l.drop k) := by rw [← escB_append, List.take_append_drop]
    rw [h, List.length_append]; omega
  have h1 : S.drop (offL l k) = escB (l.drop k) ++ [34] := by
    rw [hS, offL, Nat.add_comm, List.drop_succ_cons, List.drop_append_of_le_length hle, esc_drop]
  rw [← h1, List.getElem?_drop]

theorem off_succ (l : List UInt8) (k : Nat) (x : UInt8) (hx : l[k]? = some x) : offL l (k + 1) = offL l k + (eb x).length := by
  unfold offL
  rw [List.take_add_one, hx, escB_append]
  simp [escB]
  omega

theorem infoByte' : (Tryz.prog.info? 5).map (fun i => (i.zero, i.size, i.bytes)) = some (some (.int .u8 0), 1, 1) := by kernel_rfl
theorem info_parts' {P : Program} {t : TypeId} (h : (P.info? t).map (fun i => (i.zero, i.size, i.bytes)) = some (some (.int .u8 0), 1, 1)) : ∃ i, P.info? t = some i ∧ i.zero = some (.int .u8 0) ∧ i.size = 1 ∧ i.bytes = 1 := by
  obtain ⟨i, hi, h⟩ := Option.map_eq_some_iff.1 h
  simp only [Prod.mk.injEq] at h
  exact ⟨i, hi, h.1, h.2.1, h.2.2⟩
theorem cells_snoc' (P : List UInt8) (x : UInt8) : byteCells P ++ [Value.int .u8 (x.toNat : Int)] = byteCells (P ++ [x]) := by simp [byteCells]

theorem cell_new (W : World) (v : Value) (T : TypeId) (n : Nat) (hn : n = W.heap.size) : (W.alloc (.cells #[v] T)).cell? ⟨n, 0, none⟩ = some v := by
  subst hn
  simp [go_sem]

theorem own_but {W W' : World} {b base : Nat} {e : TypeId} {v : Value} {n : Nat} {xs : List Value} (h : W.ownsRow base e 1 v n xs) (hb : But b W W') (hlt : b < base) : W'.ownsRow base e 1 v n xs := by
  refine h.kept hb.grown ?_
  cases hv : v.ownBlock with
  | none => exact .inl rfl
  | some q =>
    right
    intro e
    have := (h.lt q hv).1
    injection e with e
    omega

set_option maxRecDepth 100000 in
set_option maxHeartbeats 2000000 in
theorem text_any (s : ByteArray) (l : List UInt8) (b : Nat) (w : World) (hS : s.data.toList = 34 :: (escB l ++ [34])) (hl : l.length ≤ 100000) (hp : PT l) (hc : w.cell? ⟨b, 0, none⟩ = some (.string s)) (h1 : w.cell? ⟨b, 1, none⟩ = some (.int .i64 1)) (f : ∀ o, w.frozen? ⟨b, o, none⟩ = false) :
    Calls Tryz.prog 76 #[.pointer (some ⟨b, 0, none⟩)] w fun e w' => e = .returned (.agg #[.int .i64 4, .string ⟨l.toArray⟩]) ∧ NextW b s.size w w' := by
  have hlt := block_lt_of_cell hc
  have hel := escB_len l
  have hsz : s.size = (escB l).length + 2 := by rw [bsize, hS]; simp
  have HB0 := Lib.hid ((Below.refl w.heap.size w).alloc (Nat.le_refl _) (.cells #[.int .i64 0, .string ⟨#[]⟩] 52))
  have H0 : Hid (TokSt w (w.alloc (.cells #[.int .i64 0, .string ⟨#[]⟩] 52)) b 1 s) := by
    obtain ⟨kb, fb⟩ := oblk HB0.out hlt
    exact Lib.hid ⟨(kb 0).trans hc, (kb 1).trans h1, fun o => (fb o).trans (f o), by simp [go_sem], by simp [go_sem], by intro o; simp [go_sem], ⟨.of HB0.out, (kb 1).trans h1, fun o _ => kb o, fun o => fb o⟩, hlt, by simp⟩
  have HSd := Lib.hid hS
  have HP := Lib.hid hp
  have HSZ := Lib.hid hsz
  have hsb : s.size ≤ 300000 := by omega
  clear hc h1 f hS hp hsz
  obtain ⟨i0, hi, hiz, his, hib⟩ := info_parts' infoByte'
  go_enter Tryz.func76, Tryz.ntmps76
  go_wp2_with fail
  go_loopg [3] (l.length + 1) (fun gk v wr => ∃ (k : Nat) (vo : Option Addr) (vc : Nat), k ≤ l.length ∧ gk = l.length + 1 - k ∧ v = .slice vo k vc ∧ Hid (wr.ownsRow (w.heap.size + 1) 5 1 (.slice vo k vc) k (byteCells (l.take k))) ∧ Hid (TokSt w wr b (offL l k) s))
  case atStart => exact ⟨0, none, 0, by omega, by omega, rfl, Lib.hid ⟨rfl, .inl ⟨rfl, rfl⟩⟩, H0⟩
  case round =>
    obtain ⟨k, vo, vc, hk, hgk, rfl, HO, HT⟩ := hrel
    have HK := Lib.hid hgk
    clear hgk H0 HB0
    obtain ⟨c0, c1, f, r0, r1, fr, nx, -, sz⟩ := HT.out
    have hb0 := off_byte s.data.toList l k 0 HSd.out hk
    have hoff : offL l k + 1 ≤ s.size := by
      have := HSZ.out
      have h2 : (escB (l.take k)).length ≤ (escB l).length := by
        have h : escB l = escB (l.take k) ++ escB (l.drop k) := by rw [← escB_append, List.take_append_drop]
        rw [h, List.length_append]; omega
      unfold offL; omega
    have HOFF := Lib.hid (fun x hx => off_succ l k x hx)
    have HB1 := Lib.hid (off_byte s.data.toList l k 1 HSd.out hk)
    obtain ⟨i, hoi⟩ : ∃ i, offL l k = i := ⟨_, rfl⟩
    rw [hoi] at c1 nx hb0 hoff HOFF HB1 HT
    have hzi : (i : Int) < (s.size : Int) := by omega
    obtain ⟨x, hx⟩ : ∃ x, s.data.toList[i]? = some x := ⟨_, List.getElem?_eq_getElem (by rw [← bsize]; omega)⟩
    obtain ⟨gi, ei⟩ := byteIs hx
    rw [Nat.add_zero, hx] at hb0
    have HX := Lib.hid hb0
    have HOI := Lib.hid hoi
    clear hb0 hoi hx nx
    obtain ⟨c, hcx⟩ : ∃ c, x.toNat = c := ⟨_, rfl⟩
    rw [hcx] at ei
    have HCX := Lib.hid hcx
    clear hcx
    go_wp2_with fail
    go_quiet (fail)
    go_wp2_with fail
    go_quiet (fail)
    go_upto_region 4 with fail
    go_cut [3, 4] from 7 to 93 (fun v cc wx => v = .slice vo k vc ∧ cc = .int .u8 c ∧ TokSt w wx b (i + 1) s ∧ wx.ownsRow (w.heap.size + 1) 5 1 (.slice vo k vc) k (byteCells (l.take k)))
    case first =>
      go_wp2_with fail
      go_meet
      case rel =>
        refine ⟨rfl, rfl, ?_, own_but HO.out (((But.refl b wr).drewN _).setCell (p := ⟨b, 1, none⟩) (Or.inl rfl) _) (by omega)⟩
        have h2 := fun n => (HT.out.drewN n).set (i + 1)
        push_cast at h2
        exact h2 _
    case rest =>
    clear c0 c1 f r0 r1 fr sz HT HO
    obtain ⟨rfl, rfl, hT1, hO1⟩ := hcut
    have HT := Lib.hid hT1
    have HO := Lib.hid hO1
    obtain ⟨c0, c1, f, r0, r1, fr, nx, -, sz⟩ := hT1
    replace c1 : wc.cell? ⟨b, 1, none⟩ = some (.int .i64 ((i : Int) + 1)) := by push_cast at c1; exact c1
    clear hO1
    by_cases hkl : k < l.length
    · obtain ⟨y, hy⟩ : ∃ y, l[k]? = some y := ⟨_, List.getElem?_eq_getElem hkl⟩
      have hdr : l.drop k = y :: l.drop (k + 1) := by
        rw [List.drop_eq_getElem_cons hkl]
        congr 1
        rw [List.getElem?_eq_getElem hkl] at hy
        exact Option.some.inj hy
      have hX := HX.out
      have hB1 := HB1.out
      rw [hdr, escB_cons] at hX hB1
      have htk : byteCells (l.take k) ++ [Value.int .u8 (y.toNat : Int)] = byteCells (l.take (k + 1)) := by
        rw [cells_snoc', List.take_add_one, hy]; rfl
      have kb : (k + 1) * 1 ≤ 140737488355328 := by omega
      have km : k + 1 ≤ maxLen := by unfold maxLen; omega
      have hoff2 := HOFF.out y hy
      have HTK := Lib.hid htk
      have HY := Lib.hid hy
      have HDR := Lib.hid hdr
      clear hdr htk
      by_cases hq : y = 34 ∨ y = 92
      · have he : eb y = [92, y] := by unfold eb; rw [if_pos hq]
        rw [he] at hX hB1 hoff2
        have hx92 : x = 92 := by simpa using hX
        have hc92 : c = 92 := by rw [← HCX.out, hx92]; rfl
        have hyb : s.data.toList[i + 1]? = some y := by rw [hB1]; rfl
        have hoff3 : offL l (k + 1) = i + 1 + 1 := by rw [hoff2]; rfl
        subst hc92
        have HO3 := Lib.hid hoff3
        have HE := Lib.hid (fun n => esc_two s b (i + 1) y (wc.drewN n) (by omega) (by simp [c0]) (by push_cast; simp [c1]) (by intro o; simp [f]) hyb hq)
        clear hX hB1 hoff2 he hx92 hyb hoff3 hq hy
        go_wp2_with fail
        go_quiet (fail)
        go_wp2_with fail
        refine (HE.out nq).mono ?_
        rintro e w2 ⟨g, rfl, hg, hgc, hN⟩
        have HT2 := Lib.hid ((HT.out.drewN nq).next hN)
        have HO2 := Lib.hid (own_but HO.out (((But.refl b wc).drewN nq).trans hN.1) (by omega))
        have hcz : w.heap.size < w2.heap.size := HT2.out.sz
        clear hN HE
        go_wp2_with (at_builtin; refine wpList_append_lies _ rfl _ _ 68 rfl (w.heap.size + 1) 5 i0 (.int .u8 0) 1 1 Tryz.underlying68 hi hiz his hib rfl (by decide) (.slice vo k vc) k _ rfl HO2.out ⟨g, 0, none⟩ 1 1 [.int .u8 (y.toNat : Int)] rfl rfl (by intro j u hu; match j, hu with | 0, hu => (simp at hu; subst hu; simpa [Addr.add] using hgc) | j + 1, hu => simp at hu) (by intro u hu; simp at hu; subst hu; rfl) (by decide) km kb (by omega) _ rfl ?_; intro g' cap' w4 hown' hgrow hat hlt')
        go_roundg (l.length + 1 - (k + 1))
        case measure => rw [HK.out]; omega
        case rel =>
          refine ⟨k + 1, some ⟨g', 0, none⟩, cap', by omega, rfl, rfl, Lib.hid ?_, Lib.hid ?_⟩
          · rw [← HTK.out]; exact hown'
          · rw [HO3.out]
            exact HT2.out.grown hgrow (fun q hq => by have := (HO2.out.lt q hq).1; omega)
      · have he : eb y = [y] := by unfold eb; rw [if_neg hq]
        rw [he] at hX hB1 hoff2
        have hxy : x = y := by simpa using hX
        have hcy : y.toNat = c := by rw [← HCX.out, hxy]
        have hoff3 : offL l (k + 1) = i + 1 := by rw [hoff2]; rfl
        have HO3 := Lib.hid hoff3
        have hne : ∀ d : UInt8, y ≠ d → ((c : Int) == (d.toNat : Int)) = false := by
          intro d hd
          have : y.toNat ≠ d.toNat := fun e => hd (UInt8.toNat.inj e)
          simp; omega
        have q34 : ((c : Int) == 34) = false := hne 34 (fun e => hq (.inl e))
        have q92 : ((c : Int) == 92) = false := hne 92 (fun e => hq (.inr e))
        rw [hcy] at HTK
        by_cases h36 : y = 36
        · have hc36 : c = 36 := by rw [← hcy, h36]; rfl
          obtain ⟨zz, hzz, hz123⟩ : ∃ zz : UInt8, s.data.toList[i + 1]? = some zz ∧ ((zz.toNat : Int) == 123) = false := by
            rw [hB1]
            cases hr : l.drop (k + 1) with
            | nil => exact ⟨34, rfl, rfl⟩
            | cons y2 t2 =>
              have hy2 : l[k + 1]? = some y2 := by
                have := congrArg (·[0]?) hr
                simpa [List.getElem?_drop] using this
              have hn := HP.out k (by rw [HY.out, h36])
              rw [hy2] at hn
              have hy123 : y2 ≠ 123 := fun e => hn (by rw [e])
              rw [escB_cons]
              unfold eb
              split
              · exact ⟨92, rfl, rfl⟩
              · refine ⟨y2, rfl, ?_⟩
                have : y2.toNat ≠ 123 := fun e => hy123 (UInt8.toNat.inj e)
                simp; omega
          obtain ⟨gz, ez⟩ := byteIs hzz
          have hzi1 : (i : Int) + 1 < (s.size : Int) := by omega
          obtain ⟨c2, hc2⟩ : ∃ c2, zz.toNat = c2 := ⟨_, rfl⟩
          rw [hc2] at ez hz123
          clear hX hB1 hoff2 he hxy hoff3 hq hy hne h36 hzz hc2 hcy
          subst hc36
          go_wp2_with fail
          go_quiet (fail)
          have HT2 := Lib.hid ((HT.out.drewN nq).alloc (.cells #[.int .u8 36] 5))
          have HOD := Lib.hid (own_but HO.out ((But.refl b wc).drewN nq) (by omega))
          go_wp2_with (at_builtin; refine wpList_append_lies _ rfl _ _ 68 rfl (w.heap.size + 1) 5 i0 (.int .u8 0) 1 1 Tryz.underlying68 hi hiz his hib rfl (by decide) (.slice vo k vc) k _ rfl (HOD.out.alloc _) ⟨wc.heap.size, 0, none⟩ 1 1 [.int .u8 36] rfl rfl (by intro j u hu; match j, hu with | 0, hu => (simp at hu; subst hu; exact cell_new _ _ _ _ (by simp)) | j + 1, hu => simp at hu) (by intro u hu; simp at hu; subst hu; rfl) (by decide) km kb (by simp; omega) _ rfl ?_; intro g' cap' w4 hown' hgrow hat hlt')
          go_roundg (l.length + 1 - (k + 1))
          case measure => rw [HK.out]; omega
          case rel =>
            refine ⟨k + 1, some ⟨g', 0, none⟩, cap', by omega, rfl, rfl, Lib.hid ?_, Lib.hid ?_⟩
            · rw [← HTK.out]; exact hown'
            · rw [HO3.out]
              exact HT2.out.grown hgrow (fun q hq => by have := (HOD.out.lt q hq).1; omega)
        · have q36 : ((c : Int) == 36) = false := hne 36 h36
          clear hX hB1 hoff2 he hxy hoff3 hq hy hne h36 hcy
          go_wp2_with fail
          go_quiet (fail)
          have HT2 := Lib.hid ((HT.out.drewN nq).alloc (.cells #[.int .u8 (c : Int)] 5))
          have HOD := Lib.hid (own_but HO.out ((But.refl b wc).drewN nq) (by omega))
          go_wp2_with (at_builtin; refine wpList_append_lies _ rfl _ _ 68 rfl (w.heap.size + 1) 5 i0 (.int .u8 0) 1 1 Tryz.underlying68 hi hiz his hib rfl (by decide) (.slice vo k vc) k _ rfl (HOD.out.alloc _) ⟨wc.heap.size, 0, none⟩ 1 1 [.int .u8 (c : Int)] rfl rfl (by intro j u hu; match j, hu with | 0, hu => (simp at hu; subst hu; exact cell_new _ _ _ _ (by simp)) | j + 1, hu => simp at hu) (by intro u hu; simp at hu; subst hu; rfl) (by decide) km kb (by simp; omega) _ rfl ?_; intro g' cap' w4 hown' hgrow hat hlt')
          go_roundg (l.length + 1 - (k + 1))
          case measure => rw [HK.out]; omega
          case rel =>
            refine ⟨k + 1, some ⟨g', 0, none⟩, cap', by omega, rfl, rfl, Lib.hid ?_, Lib.hid ?_⟩
            · rw [← HTK.out]; exact hown'
            · rw [HO3.out]
              exact HT2.out.grown hgrow (fun q hq => by have := (HOD.out.lt q hq).1; omega)
    · obtain rfl : k = l.length := by omega
      have hx34 : x = 34 := by
        have h := HX.out
        rw [List.drop_length] at h
        simpa [escB] using h
      have hc34 : c = 34 := by rw [← HCX.out, hx34]; rfl
      have hi1 : i + 1 = s.size := by
        rw [HSZ.out, ← HOI.out, offL, List.take_length]; omega
      subst hc34
      have hcv : ∀ W, (∀ p, W.cell? p = wc.cell? p) → (convert 68 9 (.slice vo l.length vc)).run Tryz.prog W = .ok (.string ⟨l.toArray⟩) W := by
        intro W hW
        by_cases h0 : 0 < l.length
        · obtain ⟨g, cap, he, hg0, hg1⟩ := HO.out.form h0
          cases he
          exact run_convert_bytes_back (P := Tryz.prog) W 68 9 5 ⟨g, 0, none⟩ vc l Tryz.underlying68 Tryz.underlying5 Tryz.underlying9 (fun j hj => by
            rw [hW]
            exact HO.out.cells (g := g) rfl j _ (by rw [List.take_length]; simp [byteCells, hj]))
        · have hl0 : l = [] := List.eq_nil_of_length_eq_zero (by omega)
          subst hl0
          rcases HO.out.2 with ⟨h, -⟩ | ⟨g, cap, cur, h, hg, -⟩
          · cases h
            exact run_convert_bytes_nil W 68 5 Tryz.underlying68 Tryz.underlying5 0 0 9 Tryz.underlying9
          · cases h
            exact run_convert_bytes_back (P := Tryz.prog) W 68 9 5 ⟨g, 0, none⟩ vc [] Tryz.underlying68 Tryz.underlying5 Tryz.underlying9 (fun j hj => by simp at hj)
      have hcv2 := hcv wc (fun _ => rfl)
      clear hcv
      go_wp2_with fail
      refine bodyPost_ret (v := .agg #[.int .i64 4, .string ⟨l.toArray⟩]) ?_ rfl ⟨rfl, ?_⟩
      · simp [results, Tryz.results76, go_sem, r0, r1]
      · have h := HT.out.res (.int .i64 4) (.string ⟨l.toArray⟩)
        rw [hi1] at h
        exact h
end Go.Proofs.YteecbmhkfnlecaaGreatDoor
