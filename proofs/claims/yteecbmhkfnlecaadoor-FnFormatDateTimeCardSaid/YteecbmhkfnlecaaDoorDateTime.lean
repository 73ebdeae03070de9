/-
  FnFormatDateTime: for every moment, part of a second and offset the law returns true. Conditions: the list's tables.
-/
import Derived.Test.YteecbmhkfnlecaaDoorFmt
import Derived.Test.YteecbmhkfnlecaaDoorLaid
import Derived.Test.YteecbmhkfnlecaaDoorShelf
import Derived.Test.YteecbmhkfnlecaaDoorTf
import Derived.Test.YteecbmhkfnlecaaDoorRdP
import Derived.Test.YteecbmhkfnlecaaDoorRdN
import Derived.Lib.Hide
import Derived.Lib.LaidTab
import Derived.OpenShut
import Derived.BigQuiet
namespace Go.Proofs.YteecbmhkfnlecaaDoor.fnFormatDateTime
open Go.ChangeShapes Go.WideShapes Go.ChangeAt Go.RowKit Go.Lib Go.Sort
open Go.ChangeMaps (open_string shut_string)
set_option linter.unusedVariables false
set_option linter.unusedSimpArgs false

theorem cells_of (s : ByteArray) : Lib.strCells s = Lib.byteCells s.data.toList := by simp [Lib.strCells, Lib.byteCells]

theorem builder_below {b : Nat} {W W1 : World} (h : Lib.IsBuilderF 102 5 b b [] W) (hb : Below W.heap.size W W1) : Lib.IsBuilderF 102 5 b b [] W1 := by
  have key : ∀ p, Lib.BuilderAtF 102 5 b b p [] W → Lib.BuilderAtF 102 5 b b p [] W1 := by
    rintro p ⟨h1, v, h2, h3, h4⟩
    exact ⟨h1, v, (hb.block b (Array.getElem?_eq_some_iff.1 h2).1).trans h2, h3.kept ⟨hb.os, hb.tape, hb.output, hb.size, fun i hi _ => hb.block i hi⟩ (row := none) (Classical.em _), h4⟩
  exact h.elim (fun x => .inl (key _ x)) (fun x => .inr (key _ x))

theorem others_below {b : Nat} {W W1 : World} (hb : Below W.heap.size W W1) : Lib.OthersKept 5 (some b) W W1 := fun k o h _ _ => (hb.block k (Array.getElem?_eq_some_iff.1 h).1).trans h

/-- The texts and numbers of one moment. -/
structure Mom (sec off : Int) (z sod ns : Nat) : Prop where
  sum : sec + off = ((z : Int) - 719468) * 86400 + sod
  hsod : sod < 86400
  z1 : 628000 ≤ z
  z2 : z ≤ 800000
  hns : ns ≤ 999999999
  hoff : off % 60 = 0
  o1 : -50400 ≤ off
  o2 : off ≤ 50400

theorem momL_len (z sod ns : Nat) (off : Int) (hf : FracOk (cutZ (frac.digs 9 ns)) ns) : (momL z sod ns off).length ≤ 100 := by
  have hzl : (zoneL (zoneOf off)).length = 1 ∨ (zoneL (zoneOf off)).length = 6 := by
    unfold zoneOf
    split
    · exact .inl rfl
    · exact .inr rfl
  have hfll : (fracL (cutZ (frac.digs 9 ns))).length ≤ 10 := by
    have := hf.2.1
    unfold fracL
    split
    · simp
    · simp; omega
  simp [momL, timeL, clockL, d2, d4]; omega

theorem tw_zero : ∀ l : List Nat, l.takeWhile (· == 0) = List.replicate (l.takeWhile (· == 0)).length 0
  | [] => rfl
  | a :: l => by
    by_cases h : a = 0
    · subst h
      have := tw_zero l
      simp only [List.takeWhile, beq_self_eq_true, List.length_cons, List.replicate_succ]
      rw [← this]
    · have hb : (a == 0) = false := by simp [h]
      simp [List.takeWhile, hb]

theorem cutZ_app (l : List Nat) : ∃ m, l = cutZ l ++ List.replicate m 0 := by
  refine ⟨(l.reverse.takeWhile (· == 0)).length, ?_⟩
  have h1 := tw_zero l.reverse
  have h2 : l = (l.reverse.dropWhile (· == 0)).reverse ++ (l.reverse.takeWhile (· == 0)).reverse := by
    rw [← List.reverse_append, List.takeWhile_append_dropWhile, List.reverse_reverse]
  conv => lhs; rw [h2, h1]
  unfold cutZ
  simp

theorem frac_ok (ns : Nat) (h : ns ≤ 999999999) : FracOk (cutZ (frac.digs 9 ns)) ns := by
  obtain ⟨m, hm⟩ := cutZ_app (frac.digs 9 ns)
  refine ⟨fun d hd => frac.digs_lt 9 ns d (by rw [hm]; exact List.mem_append_left _ hd), ?_, ?_, rfl⟩
  · have := congrArg List.length hm
    rw [frac.digs_length, List.length_append] at this
    omega
  · rw [← frac.fsum_zeros _ m, ← hm]
    exact (frac.fsum_digs 8 ns).trans (Nat.mod_eq_of_lt (by omega))

theorem writes (sec off : Int) (z sod ns : Nat) (hm : Mom sec off z sod ns) (c p : Addr) (w : World) (ht : PowTab w) (hc : w.cell? c = some (.pointer (some ⟨p.block, 0, none⟩))) (hp0 : w.cell? ⟨p.block, 3, none⟩ = some (.int .i64 sec)) (hp1 : w.cell? ⟨p.block, 4, none⟩ = some (.int .i64 ns)) (hp2 : w.cell? ⟨p.block, 5, none⟩ = some (.int .i64 off)) (lc : c.block < w.heap.size) (lp : p.block < w.heap.size) : Writes 40 c (momL z sod ns off) w := by
  intro W b f hb hB hbs hf hcf hI
  have h1 : W.cell? c = some (.pointer (some ⟨p.block, 0, none⟩)) := by rw [hb.cell lc]; exact hc
  have g0 : W.cell? ⟨p.block, 3, none⟩ = some (.int .i64 sec) := by rw [hb.cell (p := ⟨p.block, 3, none⟩) lp]; exact hp0
  have g1 : W.cell? ⟨p.block, 4, none⟩ = some (.int .i64 ns) := by rw [hb.cell (p := ⟨p.block, 4, none⟩) lp]; exact hp1
  have g2 : W.cell? ⟨p.block, 5, none⟩ = some (.int .i64 off) := by rw [hb.cell (p := ⟨p.block, 5, none⟩) lp]; exact hp2
  obtain ⟨cb, co, cs⟩ := c
  obtain rfl : cs = none := World.cell?_spot h1
  have HT := Lib.hid (powTab_below ht hb)
  have HF := Lib.hid (timeFormat_any sec off z sod ns W HT.out hm.sum hm.hsod hm.z1 hm.z2 hm.hns hm.hoff hm.o1 hm.o2)
  clear hc hp0 hp1 hp2 ht
  go_enter Tryd.func40, Tryd.ntmps40
  go_wp2_with fail
  go_in
  go_wp2_with fail
  refine HF.out.mono ?_
  rintro e w1 ⟨rfl, hfo, hb1⟩
  have hsz := hb1.size
  have hcf1 := (hb1.cell (p := ⟨f, 0, none⟩) hf).trans hcf
  have hnd := momL_len z sod ns off hfo
  have hds : (⟨(momL z sod ns off).toArray⟩ : ByteArray).size ≤ 100 := by simpa [ByteArray.size] using hnd
  have HW := Lib.hid (fmtWrite b b f [] ⟨(momL z sod ns off).toArray⟩ w1 hcf1 (builder_below hI hb1) (by simp; omega) (by omega))
  have HO := Lib.hid (others_below (b := b) hb1)
  have HB1 := Lib.hid (hb1.mono (B' := b) (by omega))
  clear hb1 hI hcf1 hcf h1 g0 g1 g2 hds hnd hsz
  go_wp2_with fail
  refine HW.out.mono ?_
  rintro e w2 ⟨rfl, h3, h4, h5⟩
  go_wp2_with fail
  go_end0
  go_wp2_with fail
  go_end0
  refine ⟨rfl, ?_, HB1.out.trans h4, HO.out.trans h5⟩
  rw [List.nil_append, cells_of] at h3
  exact .inr h3

theorem form_any (sec off : Int) (z sod ns : Nat) (hm : Mom sec off z sod ns) (w : World) (ht : PowTab w) :
    Calls Tryd.prog 16 #[.int .i64 sec, .int .i64 ns, .int .i64 off] w fun e w' => e = .returned (.string ⟨(momL z sod ns off).toArray⟩) ∧ Below w.heap.size w w' := by
  have HT := Lib.hid ht
  clear ht
  go_enter Tryd.func16, Tryd.ntmps16
  go_wp2_with fail
  go_in
  go_wp2_with fail
  refine (written_40 _ (momL z sod ns off) _ (writes sec off z sod ns hm _ ⟨w.heap.size, 0, none⟩ _ (powTab_below HT.out (((Below.refl _ _).alloc (Nat.le_refl _) _).alloc (by simp) _)) (by simp [go_sem]) (by simp [go_sem]) (by simp [go_sem]) (by simp [go_sem]) (by simp) (by simp; omega))).mono ?_
  rintro e w1 ⟨rfl, hb⟩
  go_wp2_with fail
  go_ret
  exact ⟨rfl, (((Below.refl _ _).alloc (Nat.le_refl _) _).alloc (by simp) _).trans (hb.mono (by simp; omega))⟩

theorem time_head (y m d h mi se : Nat) (fd : List Nat) (z : Option (Bool × Nat × Nat)) : timeL y m d h mi se fd z = headL y m d h mi se ++ (fracL fd ++ zoneL z) := by simp [headL, timeL, clockL]

theorem zone_head (z : Option (Bool × Nat × Nat)) : ((zoneL z)[0]? = some 90 ∧ (zoneL z).length = 1) ∨ (((zoneL z)[0]? = some 43 ∨ (zoneL z)[0]? = some 45) ∧ (zoneL z).length = 6) := by
  rcases z with _ | ⟨n, zh, zm⟩
  · exact .inl ⟨rfl, rfl⟩
  · cases n
    · exact .inr ⟨.inl rfl, rfl⟩
    · exact .inr ⟨.inr rfl, rfl⟩

theorem digit_ch {s : ByteArray} {i d : Nat} (hd : d < 10) (h : s.data.toList[i]? = some (ch d)) : digitB s i = true := by
  rw [digitB_of h, ch_nat hd]
  simp
  omega

theorem time_all (s : ByteArray) (y m d h mi se : Nat) (fd : List Nat) (z : Option (Bool × Nat × Nat)) (hs : s.data.toList = timeL y m d h mi se fd z) (hy : 1700 ≤ y) (hy2 : y ≤ 2200) (hm : m ≤ 12) (hfd : ∀ d ∈ fd, d < 10) (hfl : fd.length ≤ 9) :
    TimeAll s (19 + (fracL fd).length) := by
  have hh : (headL y m d h mi se).length = 19 := rfl
  have hlen : s.size = 19 + (fracL fd).length + (zoneL z).length := by rw [bsize, hs, time_head, List.length_append, List.length_append, hh]; omega
  have hfll : (fracL fd).length ≤ 10 := by
    unfold fracL
    split
    · simp
    · simp; omega
  have hz := zone_head z
  have hzl : (zoneL z).length ≤ 6 := by rcases hz with ⟨_, h⟩ | ⟨_, h⟩ <;> omega
  have hq : s.data.toList[19 + (fracL fd).length]? = (zoneL z)[0]? := by
    rw [hs, time_head, List.getElem?_append_right (by rw [hh]; omega), List.getElem?_append_right (by rw [hh]; omega), hh]
    congr 1
    omega
  refine ⟨⟨by omega, by omega, by rw [hs]; rfl, ?_, ?_⟩, ?_, ?_, by rw [hs]; rfl, digit_ch (d := m / 10) (by omega) (by rw [hs]; rfl), digit_ch (d := m % 10) (by omega) (by rw [hs]; rfl), by rw [hs]; rfl⟩
  · by_cases hf : fd = []
    · left; rw [hf]; rfl
    · right
      have hfr : fracL fd = 46 :: fd.map ch := if_neg hf
      refine ⟨?_, fd.length, by rw [hfr]; simp; omega, fun j hj => ?_⟩
      · rw [hs, time_head, List.getElem?_append_right (by rw [hh]; omega), hh, hfr]; rfl
      · refine digit_ch (d := fd[j]) (hfd _ (List.getElem_mem hj)) ?_
        rw [hs, time_head, List.getElem?_append_right (by rw [hh]; omega), hh, hfr, List.getElem?_append_left (by simp; omega), show 20 + j - 19 = j + 1 by omega, List.getElem?_cons_succ, List.getElem?_map, List.getElem?_eq_getElem hj]
        rfl
  · rw [hq, hlen]
    rcases hz with ⟨h1, h2⟩ | ⟨h1, h2⟩
    · exact .inl ⟨h1, by omega⟩
    · exact .inr ⟨h1, by omega⟩
  · exact ⟨ch (y / 1000), by rw [hs]; rfl, by rw [ch_nat (by omega)]; omega, by rw [ch_nat (by omega)]; omega⟩
  · intro j hj
    match j, hj with
    | 0, _ => exact digit_ch (d := y / 1000) (by omega) (by rw [hs]; rfl)
    | 1, _ => exact digit_ch (d := y / 100 % 10) (by omega) (by rw [hs]; rfl)
    | 2, _ => exact digit_ch (d := y / 10 % 10) (by omega) (by rw [hs]; rfl)
    | 3, _ => exact digit_ch (d := y % 10) (by omega) (by rw [hs]; rfl)
    | j + 4, h => omega

theorem zone_of (off : Int) (h : off % 60 = 0) (h1 : -50400 ≤ off) (h2 : off ≤ 50400) : zoneV (zoneOf off) = off ∧ zoneOk (zoneOf off) := by
  unfold zoneOf
  split
  · rename_i h0; exact ⟨h0.symm, trivial⟩
  · refine ⟨?_, by show _ ∧ _; omega⟩
    show (if decide (off < 0) = true then _ else _) = off
    by_cases hn : off < 0
    · rw [if_pos (by simpa using hn)]; omega
    · rw [if_neg (by simpa using hn)]; omega

theorem u64_of (v : Int) : IntKind.u64.wrap v = ((IntKind.u64.wrap v).toNat : Int) := by
  have : 0 ≤ IntKind.u64.wrap v := by simp only [IntKind.wrap, IntKind.bits, IntKind.signed]; simp; omega
  omega

theorem wrap_back (v : Int) (h1 : -9223372036854775808 ≤ v) (h2 : v ≤ 9223372036854775807) : wrap64 (IntKind.u64.wrap v) = v := by
  simp only [IntKind.wrap, IntKind.bits, IntKind.signed]
  unfold wrap64
  simp
  omega

/-- The text of a moment is read as the moment. -/
theorem read_moment (sec off : Int) (z sod ns : Nat) (hm : Mom sec off z sod ns) (hsec : -7900000000 ≤ sec) (hsec2 : sec ≤ 6900000000) (hfo : FracOk (cutZ (frac.digs 9 ns)) ns) (w : World) (hT : Tabs w) :
    Calls Tryd.prog 17 #[.string ⟨(momL z sod ns off).toArray⟩] w fun e w' => e = .returned (.tuple #[leafV 41 ⟨#[]⟩ (IntKind.u64.wrap (sec * 1000000000 + ns)).toNat, .bool true]) ∧ Below w.heap.size w w' := by
  have hr := civil.civ_range z
  have hy := civil.civ_year z (by have := hm.z1; omega) (by have := hm.z2; omega)
  have hb := civil.civ_back z
  obtain ⟨hz, hzk⟩ := zone_of off hm.hoff hm.o1 hm.o2
  have hsod := hm.hsod
  have h1 := hm.z1
  have h2 := hm.z2
  have hns := hm.hns
  have hdat : (⟨(momL z sod ns off).toArray⟩ : ByteArray).data.toList = timeL (civil.civY z) (civil.civM z) (civil.civD z) (sod / 3600) (sod / 60 % 60) (sod % 60) (cutZ (frac.digs 9 ns)) (zoneOf off) := rfl
  have hTV := fun W => timeOf_any ⟨(momL z sod ns off).toArray⟩ _ _ _ _ _ _ _ _ W hdat hy.1 hy.2 hr.1 hr.2.1 hr.2.2.1 hr.2.2.2 (by omega) (by omega) (by omega) hfo.1 hfo.2.1 hzk (by rw [hb]; omega) (by rw [hfo.2.2.1]; omega)
  have hv : (((civil.dayNo (civil.civY z) (civil.civM z) (civil.civD z) : Int) - 719468) * 86400 + (3600 * (sod / 3600 : Nat) + 60 * (sod / 60 % 60 : Nat) + (sod % 60 : Nat)) - zoneV (zoneOf off)) * 1000000000 + (frac.fsum (cutZ (frac.digs 9 ns)) 100000000 : Nat) = sec * 1000000000 + ns := by
    rw [hb, hz, hfo.2.2.1]
    have := hm.sum
    omega
  rw [hv] at hTV
  have hsz : (⟨(momL z sod ns off).toArray⟩ : ByteArray).size ≤ 100 := by have := momL_len z sod ns off hfo; simpa [ByteArray.size] using this
  exact read_expr _ _ _ 7 41 _ (by decide) (by decide) ⟨next_time _ _ (time_all _ _ _ _ _ _ _ _ _ hdat hy.1 hy.2 hr.2.1 hfo.1 hfo.2.1), pri_time _ (sec * 1000000000 + ns) _ (by omega) (u64_of _) hTV⟩ w hT

theorem awake_text : (⟨(momL 719468 0 0 0).toArray⟩ : ByteArray) = ⟨#[49, 57, 55, 48, 45, 48, 49, 45, 48, 49, 84, 48, 48, 58, 48, 48, 58, 48, 48, 90]⟩ := by
  have : momL 719468 0 0 0 = [49, 57, 55, 48, 45, 48, 49, 45, 48, 49, 84, 48, 48, 58, 48, 48, 58, 48, 48, 90] := by decide +kernel
  rw [this]

/-- What the law asks of a moment. -/
def In (sec ns off : Int) : Prop := -7900000000 ≤ sec ∧ sec ≤ 6900000000 ∧ 0 ≤ ns ∧ ns ≤ 999999999 ∧ off.tmod 60 = 0 ∧ -50400 ≤ off ∧ off ≤ 50400

set_option maxRecDepth 100000 in
set_option maxHeartbeats 1000000 in
theorem walk (sec ns off : Int) (w : World) (hs1 : -9223372036854775808 ≤ sec) (hs2 : sec ≤ 9223372036854775807) (ht : PowTab w) (hT : Tabs w) :
    Calls Tryd.prog 7 #[.int .i64 sec, .int .i64 ns, .int .i64 off] w fun e w' => e = .returned (.bool true) ∧ Below w.heap.size w w' := by
  have HT := Lib.hid ht
  have HU := Lib.hid hT
  clear ht hT
  have hF0 := form_any 0 0 719468 0 0 ⟨by omega, by omega, by omega, by omega, by omega, by omega, by omega, by omega⟩ w HT.out
  rw [awake_text] at hF0
  have HF0 := Lib.hid hF0
  have he : ((⟨#[49, 57, 55, 48, 45, 48, 49, 45, 48, 49, 84, 48, 48, 58, 48, 48, 58, 48, 48, 90]⟩ : ByteArray).toList == (⟨#[49, 57, 55, 48, 45, 48, 49, 45, 48, 49, 84, 48, 48, 58, 48, 48, 58, 48, 48, 90]⟩ : ByteArray).toList) = true := by simp
  clear hF0
  go_enter Tryd.func7, Tryd.ntmps7
  go_wp2_with fail
  refine HF0.out.mono ?_
  rintro e w1 ⟨rfl, hb1⟩
  have HB1 := Lib.hid hb1
  clear hb1
  by_cases hin : In sec ns off
  · obtain ⟨a1, a2, a3, a4, a5, a6, a7⟩ := hin
    obtain ⟨n, rfl⟩ : ∃ n : Nat, ns = n := ⟨ns.toNat, by omega⟩
    have b1 : ¬ sec < -7900000000 := by omega
    have b2 : ¬ (6900000000 : Int) < sec := by omega
    have b3 : ¬ (n : Int) < 0 := by omega
    have b4 : ¬ (999999999 : Int) < (n : Int) := by omega
    have b6 : ¬ off < -50400 := by omega
    have b7 : ¬ (50400 : Int) < off := by omega
    have hoff : off % 60 = 0 := by
      have := Int.dvd_of_tmod_eq_zero a5
      omega
    obtain ⟨z, hz⟩ : ∃ z : Nat, ((sec + off) / 86400 + 719468) = z := ⟨((sec + off) / 86400 + 719468).toNat, by omega⟩
    obtain ⟨sod, hsod⟩ : ∃ d : Nat, (sec + off) % 86400 = d := ⟨((sec + off) % 86400).toNat, by omega⟩
    have hm : Mom sec off z sod n := ⟨by omega, by omega, by omega, by omega, by omega, hoff, a6, a7⟩
    have HM := Lib.hid hm
    have HOFF := Lib.hid hoff
    clear hm hoff hz hsod a1 a2 a3 a6 a7
    have HF := Lib.hid (form_any sec off z sod n HM.out w1 (powTab_below HT.out HB1.out))
    have hfo := frac_ok n (by omega)
    have HR := Lib.hid (fun W (hW : Below w.heap.size w W) => read_moment sec off z sod n HM.out (by omega) (by omega) hfo W (tabs_keep HU.out hW))
    have hwb := wrap_back (sec * 1000000000 + n) (by omega) (by omega)
    obtain ⟨u, hu⟩ : ∃ u : Nat, (IntKind.u64.wrap (sec * 1000000000 + n)).toNat = u := ⟨_, rfl⟩
    have hu2 := u64_of (sec * 1000000000 + n)
    rw [hu] at HR hu2
    rw [hu2] at hwb
    obtain ⟨T, hT⟩ : ∃ T : ByteArray, T = ⟨(momL z sod n off).toArray⟩ := ⟨_, rfl⟩
    rw [← hT] at HF HR
    clear hu hu2 hT hfo
    go_wp2_with fail
    refine HF.out.mono ?_
    rintro e w2 ⟨rfl, hb2⟩
    have HB2 := Lib.hid (HB1.out.trans (hb2.mono HB1.out.size))
    clear hb2
    go_wp2_with fail
    refine (HR.out w2 HB2.out).mono ?_
    rintro e w3 ⟨rfl, hb3⟩
    have HB3 := Lib.hid (HB2.out.trans (hb3.mono HB2.out.size))
    clear hb3
    go_wp2_with fail
    go_ret
    exact ⟨rfl, by first | exact below_drew (HB3.out.alloc HB3.out.size _) _ | exact (HB3.out.alloc HB3.out.size _).drew | exact HB3.out.alloc HB3.out.size _⟩
  · go_wp2_with fail
    all_goals first
      | (go_ret; exact ⟨rfl, HB1.out⟩)
      | (exfalso; apply hin; exact ⟨by omega, by omega, by omega, by omega, by simp_all, by omega, by omega⟩)

theorem i64_wf {x : Int} (h : (Lit.int .i64 x).wf = true) : -9223372036854775808 ≤ x ∧ x ≤ 9223372036854775807 := by
  have h1 : (decide (IntKind.i64.min ≤ x) && decide (x ≤ IntKind.i64.max)) = true := h
  simp only [Bool.and_eq_true, decide_eq_true_eq, show IntKind.i64.min = -9223372036854775808 from by decide, show IntKind.i64.max = 9223372036854775807 from by decide] at h1
  exact h1

theorem pow_eq : (Rows.laid_internal_strconv_uint64pow10 : DataW Unit) = tabData .u64 Lib.pow10Tab := by kernel_rfl

theorem pow_of {L : List (String × DataW Unit)} {W : World} (h : laidMet Tryd.prog L W) (m : ("internal/strconv.uint64pow10", (Rows.laid_internal_strconv_uint64pow10 : DataW Unit)) ∈ L) : PowTab W := by
  obtain ⟨g, t, cs, fuel, p, hg, hty, hvar, hd⟩ := laidMet.reads h m
  rw [pow_eq] at hd
  obtain rfl := Option.some.inj ((show Tryd.prog.globalNamed "internal/strconv.uint64pow10" = some 2 by kernel_rfl).symm.trans hg)
  obtain rfl := Option.some.inj ((show (Tryd.prog.globals[2]?).map (·.type) = some 147 by kernel_rfl).symm.trans hty)
  show Lib.TabIs Tryd.prog W "internal/strconv.uint64pow10" .u64 Lib.pow10Tab
  unfold TabIs
  rw [hvar, ← cells_of_tab Tryd.underlying147 Tryd.underlying26 (by kernel_rfl) (by kernel_rfl) hd]

set_option maxRecDepth 100000 in
theorem lifted (os : Os) (started : os.Started) (H : Type) (enc : TypeId × Value → H) :
    ReturnsInHanded {} Tryd.checked os 7 .any (fun w args => (Rows.fnFormatDateTimeSpec.pre enc Tryd.prog Tryd.f7 Rows.fnFormatDateTimeRow.domain false w args ∧ laidMetH Tryd.prog Rows.fnFormatDateTimeRow.laid w) ∧ sizedMet enc Tryd.prog Tryd.f7 (OpenSpec.ofChange Rows.fnFormatDateTimeSpec) false w args)
      (Rows.fnFormatDateTimeSpec.post enc Tryd.prog Tryd.f7 false true false false) := by
  refine returnsInHanded_of_change_and (C := Tryd.checked) (X := fun w _ => laidMetH Tryd.prog Rows.fnFormatDateTimeRow.laid w) (fun _ _ _ hh h => h.of_heap hh) own started (by kernel_rfl) Tryd.func7
    (ChangeSpec.witness_shaped (enc := enc) (C := Tryd.checked) (os := os) (X := fun w _ => laidMetH Tryd.prog Rows.fnFormatDateTimeRow.laid w) false (World.laidAll Tryd.prog os Rows.fnFormatDateTimeRow.laid) #[.int .i64 0, .int .i64 0, .int .i64 0] 8 (World.laidAll_os _ _ _)
      (World.shaped_of_ZipB (by kernel_rfl) (by kernel_rfl)) (by kernel_rfl) (by kernel_rfl) (by kernel_rfl)
      (by rw [MakeChecks.laidMetH_plain _ _ _ (by kernel_rfl)]; exact laidMet_laidAll _ (by kernel_rfl) (by kernel_rfl))) ?_
  intro W base args ds gs before hval0 hW hc _ hL _
  have hval : ∀ (j : Nat) t v, Tryd.f7.params[j]? = some t → args[j]? = some v → Value.okWide Tryd.prog W .any base t v := hval0
  have hW' := hW
  obtain ⟨p, q, hA0, hV, rfl, _, _⟩ := hW
  have hA : DataW.TrodAll enc Tryd.prog W 0 (fun _ => true) true Tryd.f7.params.toList args.toList ds p := hA0
  rw [Tryd.params7] at hA hval
  obtain ⟨v0, vs0, d0, ds0, p0, q0, hargs, rfl, rfl, h0, r0⟩ := trodAll_cons hA
  obtain ⟨v1, vs1, d1, ds1, p1, q1, rfl, rfl, rfl, h1, r1⟩ := trodAll_cons r0
  obtain ⟨v2, vs2, d2, ds2, p2, q2, rfl, rfl, rfl, h2, r2⟩ := trodAll_cons r1
  obtain ⟨rfl, rfl, rfl⟩ := trodAll_nil r2
  obtain rfl : args = #[v0, v1, v2] := by cases args; simp_all
  obtain ⟨rfl, rfl⟩ := trodVars_none hV
  have k0 := h0
  have k1 := h1
  have k2 := h2
  have lt0 : ∀ x ∈ p0, x.block < W.heap.size := by obtain ⟨m, hm⟩ := k0; exact DataW.trod_lt m _ _ _ hm
  have lt1 : ∀ x ∈ p1, x.block < W.heap.size := by obtain ⟨m, hm⟩ := k1; exact DataW.trod_lt m _ _ _ hm
  have lt2 : ∀ x ∈ p2, x.block < W.heap.size := by obtain ⟨m, hm⟩ := k2; exact DataW.trod_lt m _ _ _ hm
  obtain ⟨x, rfl, -, -, hwx⟩ := open_int Tryd.underlying2 (hval 0 2 v0 rfl rfl) h0
  obtain ⟨y, rfl, -, -, hwy⟩ := open_int Tryd.underlying2 (hval 1 2 v1 rfl rfl) h1
  obtain ⟨z, rfl, -, -, hwz⟩ := open_int Tryd.underlying3 (hval 2 3 v2 rfl rfl) h2
  obtain ⟨hx1, hx2⟩ := i64_wf hwx
  clear hA0 hval0
  rw [MakeChecks.laidMetH_plain _ _ _ (by kernel_rfl)] at hL
  refine (walk x y z W hx1 hx2 (pow_of hL (by simp [Rows.fnFormatDateTimeRow])) (tabs_of hL (by simp [Rows.fnFormatDateTimeRow, Rows.laid_unicode_utf8_first]) (by simp [Rows.fnFormatDateTimeRow]))).mono fun e W' ⟨he, bel⟩ => ?_
  subst he
  exact ⟨_, rfl, _, _, _, [], _, [], hW', trodAll_mk1 (shut_bool Tryd.underlying4 _), (trodAll_cons_mk (Below.trod laidOut (by kernel_rfl) (of_decide_eq_true (by kernel_rfl)) k0 bel lt0) (trodAll_cons_mk (Below.trod laidOut (by kernel_rfl) (of_decide_eq_true (by kernel_rfl)) k1 bel lt1) (trodAll_cons_mk (Below.trod laidOut (by kernel_rfl) (of_decide_eq_true (by kernel_rfl)) k2 bel lt2) trodAll_mk0))), rfl, bel.frame _, fun h => by cases h⟩

theorem said : Rows.FnFormatDateTimeSaid :=
  OpenClaim.holds_of_wide 7 Tryd.f7 rfl rfl rfl rfl rfl rfl rfl ⟨rfl, rfl, rfl, rfl, rfl⟩ rfl rfl rfl rfl rfl (by kernel_rfl) Tryd.func7 (by kernel_rfl)
    (of_decide_eq_true (by kernel_rfl)) (by unfold Func.isWrapper; first | (rw [if_pos (by decide +kernel)]; kernel_rfl) | (rw [if_neg (by decide +kernel)]; exact ⟨rfl, rfl⟩))
    (fun os started H enc _ => lifted os started H enc)

theorem plain (f : FuncId) (fn : Func) (hf : Tryd.pinned.checked.prog.funcNamed "given.example/pub-brazing/laws.FnFormatDateTime" = some f) (hfn : Tryd.pinned.checked.prog.funcs[f]? = some fn) :
    false = Tryd.pinned.checked.prog.looks [] ∧ ∀ (j : Nat) t, fn.params[j]? = some t → Tryd.pinned.checked.prog.wantsStandIn t = false := by
  obtain rfl : f = 7 := Option.some.inj ((show Tryd.prog.funcNamed "given.example/pub-brazing/laws.FnFormatDateTime" = some 7 by kernel_rfl).symm.trans hf) |>.symm
  obtain rfl : fn = Tryd.f7 := (Option.some.inj (Tryd.func7.symm.trans hfn)).symm
  refine ⟨by kernel_rfl, fun j t ht => ?_⟩
  rw [Tryd.params7] at ht
  have hm : t ∈ [2, 2, 3] := by simpa using Array.mem_of_getElem? ht
  have hall : ([2, 2, 3].all fun u => !Tryd.prog.wantsStandIn u) = true := by kernel_rfl
  exact (show Tryd.prog.wantsStandIn t = false by simpa using List.all_eq_true.1 hall t hm)

/-- THE CARD. -/
theorem card : Rows.FnFormatDateTimeCardSaid :=
  Claim7.holds_tied_plain_at .later [] _ _ _ _ said (fun _ h => by cases h) (by kernel_rfl) (fun _ h => by cases h) fnFormatDateTime_row_tie rfl ⟨rfl, rfl⟩ (by kernel_rfl) rfl plain (by kernel_rfl)
#print axioms card
end Go.Proofs.YteecbmhkfnlecaaDoor.fnFormatDateTime
