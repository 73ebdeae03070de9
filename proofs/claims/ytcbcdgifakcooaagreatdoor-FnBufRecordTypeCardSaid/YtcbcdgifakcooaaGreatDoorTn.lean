/-
  typeNode at each kind of type. No conditions.
-/
import Derived.Test.YtcbcdgifakcooaaGreatDoorNt
namespace Go.Proofs.YtcbcdgifakcooaaGreatDoor
open Go.RowKit
set_option linter.unusedVariables false
set_option linter.unusedSimpArgs false

set_option maxRecDepth 100000 in
set_option maxHeartbeats 2000000 in
theorem tn_45 (d : Nat) (hN : NodeTC d) (A : Nat → Prop) (n x0 : Nd) (b b0 : Nat) (w : World) (ht : n.text = ⟨#[]⟩) (hm : n.more = ⟨#[]⟩) (hu : n.num = 0) (hwf : n.wf) (hk : n.kind = 45) (hkx : n.kids = [x0])
    (hb : w.heap[b]? = some (.cells #[.pointer none, .slice none 0 0, .slice none 0 0, .pointer (some ⟨b0, 0, none⟩)] 306 (0, 0))) (p0 : IdP x0) (hV0 : IdV A w x0 (.pointer (some ⟨b0, 0, none⟩))) :
    Calls Tryz.prog 50 #[.iface 304 (.pointer (some ⟨b, 0, none⟩))] w (NodePost n w) := by
  obtain ⟨k, t, m, u, ao, cap, kids⟩ := n
  obtain rfl : k = 45 := hk
  obtain rfl : t = ⟨#[]⟩ := ht
  obtain rfl : m = ⟨#[]⟩ := hm
  obtain rfl : u = 0 := hu
  obtain rfl : kids = [x0] := hkx
  have HWF := Lib.hid hwf
  have HP0 := Lib.hid p0
  have HV0 := Lib.hid hV0
  have c3 : w.cell? ⟨b, 3, none⟩ = some (.pointer (some ⟨b0, 0, none⟩)) := by rw [Lib.cell_of_heap hb]; rfl
  have hblt : b < w.heap.size := World.block_lt_of_cell? _ _ c3
  have hbne : ¬ b = w.heap.size := by omega
  have hbne2 : ¬ w.heap.size = b := by omega
  clear hb hwf p0 hV0
  have q44 := no_44 304 (by decide)
  have q45 := yes_45
  go_enter Tryz.func50, Tryz.ntmps50
  go_wp2_with fail
  (go_at_call 34; refine (idNone A x0 _ _ HP0.out (by first | exact HV0.out.below ((Below.refl _ _).alloc (Nat.le_refl _) _) | exact HV0.out.below (Below.drew ((Below.refl _ _).alloc (Nat.le_refl _) _)))).mono ?_; rintro e c0w ⟨E0, m0, rfl, hS0, hl0, hb0⟩; have HZ0 : Below (w.alloc zN).heap.size (w.alloc zN) c0w := (by first | exact hb0 | exact (Below.drew (Below.refl _ _)).trans (hb0.mono (by simp))); have HY0 : Below w.heap.size w c0w := ((Below.refl w.heap.size w).alloc (Nat.le_refl _) zN).trans (HZ0.mono (by simp)); have hz0 : w.heap.size < c0w.heap.size := (by have := Below.size HZ0; (try simp at this); omega); obtain ⟨kb0, -⟩ := bblk hb0 (b := b) (by first | omega | (simp; omega)); obtain ⟨ka0, fa0⟩ := bblk hb0 (b := w.heap.size) (by first | omega | (simp; done) | (simp; omega)))
  go_wp2_with fail
  refine bodyPost_ret (v := .agg #[.int .i64 45, .string ⟨#[]⟩, .string ⟨#[]⟩, .int .u64 0, .slice (some ⟨c0w.heap.size, 0, none⟩) 1 1]) (by simp [results, Tryz.f50, go_sem, ka0, hz0, Nat.ne_of_lt hz0]) rfl (NodePost.stored2 _ _ _ _ _ HZ0 (back_fin [m0] rfl HWF.out HZ0 rfl ?_))
  intro i x y hx hy
  match i with
  | 0 => simp at hx hy; subst hx hy; exact ⟨E0, hS0, ((hl0.mono (From.le (by first | exact Nat.le_refl _ | omega | (simp; omega) | (have := Below.size HZ0; simp; omega) | (have := Below.size HZ0; simp at this ⊢; omega)))))⟩
  | _ + 1 => simp at hx

set_option maxRecDepth 100000 in
set_option maxHeartbeats 2000000 in
theorem tn_46 (d : Nat) (hN : NodeTC d) (A : Nat → Prop) (n x0 : Nd) (b b0 : Nat) (w : World) (ht : n.text = ⟨#[]⟩) (hm : n.more = ⟨#[]⟩) (hu : n.num = 0) (hwf : n.wf) (hk : n.kind = 46) (hkx : n.kids = [x0])
    (hb : w.heap[b]? = some (.cells #[.pointer none, .slice none 0 0, .slice none 0 0, .pointer (some ⟨b0, 0, none⟩)] 308 (0, 0))) (p0 : IdP x0) (hV0 : IdV A w x0 (.pointer (some ⟨b0, 0, none⟩))) :
    Calls Tryz.prog 50 #[.iface 307 (.pointer (some ⟨b, 0, none⟩))] w (NodePost n w) := by
  obtain ⟨k, t, m, u, ao, cap, kids⟩ := n
  obtain rfl : k = 46 := hk
  obtain rfl : t = ⟨#[]⟩ := ht
  obtain rfl : m = ⟨#[]⟩ := hm
  obtain rfl : u = 0 := hu
  obtain rfl : kids = [x0] := hkx
  have HWF := Lib.hid hwf
  have HP0 := Lib.hid p0
  have HV0 := Lib.hid hV0
  have c3 : w.cell? ⟨b, 3, none⟩ = some (.pointer (some ⟨b0, 0, none⟩)) := by rw [Lib.cell_of_heap hb]; rfl
  have hblt : b < w.heap.size := World.block_lt_of_cell? _ _ c3
  have hbne : ¬ b = w.heap.size := by omega
  have hbne2 : ¬ w.heap.size = b := by omega
  clear hb hwf p0 hV0
  have q44 := no_44 307 (by decide)
  have q45 := no_45 307 (by decide)
  have q46 := yes_46
  go_enter Tryz.func50, Tryz.ntmps50
  go_wp2_with fail
  (go_at_call 34; refine (idNone A x0 _ _ HP0.out (by first | exact HV0.out.below ((Below.refl _ _).alloc (Nat.le_refl _) _) | exact HV0.out.below (Below.drew ((Below.refl _ _).alloc (Nat.le_refl _) _)))).mono ?_; rintro e c0w ⟨E0, m0, rfl, hS0, hl0, hb0⟩; have HZ0 : Below (w.alloc zN).heap.size (w.alloc zN) c0w := (by first | exact hb0 | exact (Below.drew (Below.refl _ _)).trans (hb0.mono (by simp))); have HY0 : Below w.heap.size w c0w := ((Below.refl w.heap.size w).alloc (Nat.le_refl _) zN).trans (HZ0.mono (by simp)); have hz0 : w.heap.size < c0w.heap.size := (by have := Below.size HZ0; (try simp at this); omega); obtain ⟨kb0, -⟩ := bblk hb0 (b := b) (by first | omega | (simp; omega)); obtain ⟨ka0, fa0⟩ := bblk hb0 (b := w.heap.size) (by first | omega | (simp; done) | (simp; omega)))
  go_wp2_with fail
  refine bodyPost_ret (v := .agg #[.int .i64 46, .string ⟨#[]⟩, .string ⟨#[]⟩, .int .u64 0, .slice (some ⟨c0w.heap.size, 0, none⟩) 1 1]) (by simp [results, Tryz.f50, go_sem, ka0, hz0, Nat.ne_of_lt hz0]) rfl (NodePost.stored2 _ _ _ _ _ HZ0 (back_fin [m0] rfl HWF.out HZ0 rfl ?_))
  intro i x y hx hy
  match i with
  | 0 => simp at hx hy; subst hx hy; exact ⟨E0, hS0, ((hl0.mono (From.le (by first | exact Nat.le_refl _ | omega | (simp; omega) | (have := Below.size HZ0; simp; omega) | (have := Below.size HZ0; simp at this ⊢; omega)))))⟩
  | _ + 1 => simp at hx

set_option maxRecDepth 100000 in
set_option maxHeartbeats 2000000 in
theorem tn_47 (d : Nat) (hN : NodeTC d) (A : Nat → Prop) (n x0 : Nd) (b b0 : Nat) (w : World) (ht : n.text = ⟨#[]⟩) (hm : n.more = ⟨#[]⟩) (hu : n.num = 0) (hwf : n.wf) (hk : n.kind = 47) (hkx : n.kids = [x0])
    (hb : w.heap[b]? = some (.cells #[.pointer none, .slice none 0 0, .slice none 0 0, .iface (tTy x0.kind) (.pointer (some ⟨b0, 0, none⟩))] 47 (0, 0))) (p0 : TyP d x0) (t0 : isTyP x0.kind) (hV0 : TyV (RepT A d) w x0 (.iface (tTy x0.kind) (.pointer (some ⟨b0, 0, none⟩)))) :
    Calls Tryz.prog 50 #[.iface 38 (.pointer (some ⟨b, 0, none⟩))] w (NodePost n w) := by
  obtain ⟨k, t, m, u, ao, cap, kids⟩ := n
  obtain rfl : k = 47 := hk
  obtain rfl : t = ⟨#[]⟩ := ht
  obtain rfl : m = ⟨#[]⟩ := hm
  obtain rfl : u = 0 := hu
  obtain rfl : kids = [x0] := hkx
  have HWF := Lib.hid hwf
  have HP0 := Lib.hid p0
  have HV0 := Lib.hid hV0
  have HT0 := Lib.hid t0
  have c3 : w.cell? ⟨b, 3, none⟩ = some (.iface (tTy x0.kind) (.pointer (some ⟨b0, 0, none⟩))) := by rw [Lib.cell_of_heap hb]; rfl
  have hblt : b < w.heap.size := World.block_lt_of_cell? _ _ c3
  have hbne : ¬ b = w.heap.size := by omega
  have hbne2 : ¬ w.heap.size = b := by omega
  clear hb hwf p0 hV0 t0
  have q44 := no_44 38 (by decide)
  have q45 := no_45 38 (by decide)
  have q46 := no_46 38 (by decide)
  have q47 := yes_47
  go_enter Tryz.func50, Tryz.ntmps50
  go_wp2_with fail
  (go_at_call 36; refine (tyNone d hN A x0 _ _ HP0.out HT0.out (by first | exact HV0.out.below ((Below.refl _ _).alloc (Nat.le_refl _) _) | exact HV0.out.below (Below.drew ((Below.refl _ _).alloc (Nat.le_refl _) _)))).mono ?_; rintro e c0w ⟨E0, m0, rfl, hS0, hl0, hb0⟩; have HZ0 : Below (w.alloc zN).heap.size (w.alloc zN) c0w := (by first | exact hb0 | exact (Below.drew (Below.refl _ _)).trans (hb0.mono (by simp))); have HY0 : Below w.heap.size w c0w := ((Below.refl w.heap.size w).alloc (Nat.le_refl _) zN).trans (HZ0.mono (by simp)); have hz0 : w.heap.size < c0w.heap.size := (by have := Below.size HZ0; (try simp at this); omega); obtain ⟨kb0, -⟩ := bblk hb0 (b := b) (by first | omega | (simp; omega)); obtain ⟨ka0, fa0⟩ := bblk hb0 (b := w.heap.size) (by first | omega | (simp; done) | (simp; omega)))
  go_wp2_with fail
  refine bodyPost_ret (v := .agg #[.int .i64 47, .string ⟨#[]⟩, .string ⟨#[]⟩, .int .u64 0, .slice (some ⟨c0w.heap.size, 0, none⟩) 1 1]) (by simp [results, Tryz.f50, go_sem, ka0, hz0, Nat.ne_of_lt hz0]) rfl (NodePost.stored2 _ _ _ _ _ HZ0 (back_fin [m0] rfl HWF.out HZ0 rfl ?_))
  intro i x y hx hy
  match i with
  | 0 => simp at hx hy; subst hx hy; exact ⟨E0, hS0, ((hl0.mono (From.le (by first | exact Nat.le_refl _ | omega | (simp; omega) | (have := Below.size HZ0; simp; omega) | (have := Below.size HZ0; simp at this ⊢; omega)))))⟩
  | _ + 1 => simp at hx

set_option maxRecDepth 100000 in
set_option maxHeartbeats 2000000 in
theorem tn_48 (d : Nat) (hN : NodeTC d) (A : Nat → Prop) (n x0 x1 : Nd) (b b0 b1 : Nat) (w : World) (ht : n.text = ⟨#[]⟩) (hm : n.more = ⟨#[]⟩) (hu : n.num = 0) (hwf : n.wf) (hk : n.kind = 48) (hkx : n.kids = [x0, x1])
    (hb : w.heap[b]? = some (.cells #[.pointer none, .slice none 0 0, .slice none 0 0, .iface (tTy x0.kind) (.pointer (some ⟨b0, 0, none⟩)), .iface (tTy x1.kind) (.pointer (some ⟨b1, 0, none⟩))] 311 (0, 0))) (p0 : TyP d x0) (t0 : isTyP x0.kind) (hV0 : TyV (RepT A d) w x0 (.iface (tTy x0.kind) (.pointer (some ⟨b0, 0, none⟩)))) (p1 : TyP d x1) (t1 : isTyP x1.kind) (hV1 : TyV (RepT A d) w x1 (.iface (tTy x1.kind) (.pointer (some ⟨b1, 0, none⟩)))) :
    Calls Tryz.prog 50 #[.iface 309 (.pointer (some ⟨b, 0, none⟩))] w (NodePost n w) := by
  obtain ⟨k, t, m, u, ao, cap, kids⟩ := n
  obtain rfl : k = 48 := hk
  obtain rfl : t = ⟨#[]⟩ := ht
  obtain rfl : m = ⟨#[]⟩ := hm
  obtain rfl : u = 0 := hu
  obtain rfl : kids = [x0, x1] := hkx
  have HWF := Lib.hid hwf
  have HP0 := Lib.hid p0
  have HV0 := Lib.hid hV0
  have HT0 := Lib.hid t0
  have c3 : w.cell? ⟨b, 3, none⟩ = some (.iface (tTy x0.kind) (.pointer (some ⟨b0, 0, none⟩))) := by rw [Lib.cell_of_heap hb]; rfl
  have HP1 := Lib.hid p1
  have HV1 := Lib.hid hV1
  have HT1 := Lib.hid t1
  have c4 : w.cell? ⟨b, 4, none⟩ = some (.iface (tTy x1.kind) (.pointer (some ⟨b1, 0, none⟩))) := by rw [Lib.cell_of_heap hb]; rfl
  have hblt : b < w.heap.size := World.block_lt_of_cell? _ _ c3
  have hbne : ¬ b = w.heap.size := by omega
  have hbne2 : ¬ w.heap.size = b := by omega
  clear hb hwf p0 hV0 t0 p1 hV1 t1
  have q44 := no_44 309 (by decide)
  have q45 := no_45 309 (by decide)
  have q46 := no_46 309 (by decide)
  have q47 := no_47 309 (by decide)
  have q48 := yes_48
  go_enter Tryz.func50, Tryz.ntmps50
  go_wp2_with fail
  go_region_held3 (fun w' => (w'.cell? ⟨b, 3, none⟩ = some (.iface (tTy x0.kind) (.pointer (some ⟨b0, 0, none⟩))) ∧ w'.cell? ⟨b, 4, none⟩ = some (.iface (tTy x1.kind) (.pointer (some ⟨b1, 0, none⟩))))) (go_keep) (first | (go_at_call_of 36 b0; refine (tyNone d hN A x0 _ _ HP0.out HT0.out (by first | exact HV0.out.below ((Below.refl _ _).alloc (Nat.le_refl _) _) | exact HV0.out.below (Below.drew ((Below.refl _ _).alloc (Nat.le_refl _) _)))).mono ?_; rintro e c0w ⟨E0, m0, rfl, hS0, hl0, hb0⟩; have HZ0 : Below (w.alloc zN).heap.size (w.alloc zN) c0w := (by first | exact hb0 | exact (Below.drew (Below.refl _ _)).trans (hb0.mono (by simp))); have HY0 : Below w.heap.size w c0w := ((Below.refl w.heap.size w).alloc (Nat.le_refl _) zN).trans (HZ0.mono (by simp)); have hz0 : w.heap.size < c0w.heap.size := (by have := Below.size HZ0; (try simp at this); omega); obtain ⟨kb0, -⟩ := bblk hb0 (b := b) (by first | omega | (simp; omega)); obtain ⟨ka0, fa0⟩ := bblk hb0 (b := w.heap.size) (by first | omega | (simp; done) | (simp; omega))) | (go_at_call_of 36 b1; refine (tyNone d hN A x1 _ _ HP1.out HT1.out (by first | exact HV1.out.below HY0 | exact HV1.out.below (Below.drew HY0))).mono ?_; rintro e c1w ⟨E1, m1, rfl, hS1, hl1, hb1⟩; have HZ1 : Below (w.alloc zN).heap.size (w.alloc zN) c1w := (by first | exact Below.trans HZ0 (hb1.mono (Below.size HZ0)) | exact Below.trans (Below.drew HZ0) (hb1.mono (by have := Below.size HZ0; simpa using this))); have HY1 : Below w.heap.size w c1w := ((Below.refl w.heap.size w).alloc (Nat.le_refl _) zN).trans (HZ1.mono (by simp)); have hz1 : w.heap.size < c1w.heap.size := (by have := Below.size HZ1; (try simp at this); omega); obtain ⟨kb1, -⟩ := bblk hb1 (b := b) (by first | omega | (simp; omega)); obtain ⟨ka1, fa1⟩ := bblk hb1 (b := w.heap.size) (by first | omega | (simp; done) | (simp; omega))))
  go_wp2_with fail
  refine bodyPost_ret (v := .agg #[.int .i64 48, .string ⟨#[]⟩, .string ⟨#[]⟩, .int .u64 0, .slice (some ⟨c1w.heap.size, 0, none⟩) 2 2]) (by simp [results, Tryz.f50, go_sem, ka0, hz0, Nat.ne_of_lt hz0, ka1, hz1, Nat.ne_of_lt hz1]) rfl (NodePost.stored2 _ _ _ _ _ HZ1 (back_fin [m0, m1] rfl HWF.out HZ1 rfl ?_))
  intro i x y hx hy
  match i with
  | 0 => simp at hx hy; subst hx hy; exact ⟨E0, hS0, ((hl0.mono (From.le (by first | exact Nat.le_refl _ | omega | (simp; omega) | (have := Below.size HZ0; simp; omega) | (have := Below.size HZ0; simp at this ⊢; omega)))).below (by first | exact hb1 | (have h := hb1; simpa using h)))⟩
  | 1 => simp at hx hy; subst hx hy; exact ⟨E1, hS1, ((hl1.mono (From.le (by first | exact Nat.le_refl _ | omega | (simp; omega) | (have := Below.size HZ1; simp; omega) | (have := Below.size HZ0; simp at this ⊢; omega)))))⟩
  | _ + 2 => simp at hx

set_option maxRecDepth 100000 in
set_option maxHeartbeats 2000000 in
theorem tn_50 (d : Nat) (hN : NodeTC d) (A : Nat → Prop) (n x0 x1 : Nd) (b b0 b1 : Nat) (w : World) (ht : n.text = ⟨#[]⟩) (hm : n.more = ⟨#[]⟩) (hu : n.num = 0) (hwf : n.wf) (hk : n.kind = 50) (hkx : n.kids = [x0, x1])
    (hb : w.heap[b]? = some (.cells #[.pointer none, .slice none 0 0, .slice none 0 0, .pointer (some ⟨b0, 0, none⟩), .iface (tTy x1.kind) (.pointer (some ⟨b1, 0, none⟩))] 288 (0, 0))) (p0 : IdP x0) (hV0 : IdV A w x0 (.pointer (some ⟨b0, 0, none⟩))) (p1 : TyP d x1) (t1 : isTyP x1.kind) (hV1 : TyV (RepT A d) w x1 (.iface (tTy x1.kind) (.pointer (some ⟨b1, 0, none⟩)))) :
    Calls Tryz.prog 50 #[.iface 286 (.pointer (some ⟨b, 0, none⟩))] w (NodePost n w) := by
  obtain ⟨k, t, m, u, ao, cap, kids⟩ := n
  obtain rfl : k = 50 := hk
  obtain rfl : t = ⟨#[]⟩ := ht
  obtain rfl : m = ⟨#[]⟩ := hm
  obtain rfl : u = 0 := hu
  obtain rfl : kids = [x0, x1] := hkx
  have HWF := Lib.hid hwf
  have HP0 := Lib.hid p0
  have HV0 := Lib.hid hV0
  have c3 : w.cell? ⟨b, 3, none⟩ = some (.pointer (some ⟨b0, 0, none⟩)) := by rw [Lib.cell_of_heap hb]; rfl
  have HP1 := Lib.hid p1
  have HV1 := Lib.hid hV1
  have HT1 := Lib.hid t1
  have c4 : w.cell? ⟨b, 4, none⟩ = some (.iface (tTy x1.kind) (.pointer (some ⟨b1, 0, none⟩))) := by rw [Lib.cell_of_heap hb]; rfl
  have hblt : b < w.heap.size := World.block_lt_of_cell? _ _ c3
  have hbne : ¬ b = w.heap.size := by omega
  have hbne2 : ¬ w.heap.size = b := by omega
  clear hb hwf p0 hV0 p1 hV1 t1
  have q44 := no_44 286 (by decide)
  have q45 := no_45 286 (by decide)
  have q46 := no_46 286 (by decide)
  have q47 := no_47 286 (by decide)
  have q48 := no_48 286 (by decide)
  have q49 := no_49 286 (by decide)
  have q50 := yes_50
  go_enter Tryz.func50, Tryz.ntmps50
  go_wp2_with fail
  go_region_held3 (fun w' => (w'.cell? ⟨b, 3, none⟩ = some (.pointer (some ⟨b0, 0, none⟩)) ∧ w'.cell? ⟨b, 4, none⟩ = some (.iface (tTy x1.kind) (.pointer (some ⟨b1, 0, none⟩))))) (go_keep) (first | (go_at_call_of 34 b0; refine (idNone A x0 _ _ HP0.out (by first | exact HV0.out.below ((Below.refl _ _).alloc (Nat.le_refl _) _) | exact HV0.out.below (Below.drew ((Below.refl _ _).alloc (Nat.le_refl _) _)))).mono ?_; rintro e c0w ⟨E0, m0, rfl, hS0, hl0, hb0⟩; have HZ0 : Below (w.alloc zN).heap.size (w.alloc zN) c0w := (by first | exact hb0 | exact (Below.drew (Below.refl _ _)).trans (hb0.mono (by simp))); have HY0 : Below w.heap.size w c0w := ((Below.refl w.heap.size w).alloc (Nat.le_refl _) zN).trans (HZ0.mono (by simp)); have hz0 : w.heap.size < c0w.heap.size := (by have := Below.size HZ0; (try simp at this); omega); obtain ⟨kb0, -⟩ := bblk hb0 (b := b) (by first | omega | (simp; omega)); obtain ⟨ka0, fa0⟩ := bblk hb0 (b := w.heap.size) (by first | omega | (simp; done) | (simp; omega))) | (go_at_call_of 36 b1; refine (tyNone d hN A x1 _ _ HP1.out HT1.out (by first | exact HV1.out.below HY0 | exact HV1.out.below (Below.drew HY0))).mono ?_; rintro e c1w ⟨E1, m1, rfl, hS1, hl1, hb1⟩; have HZ1 : Below (w.alloc zN).heap.size (w.alloc zN) c1w := (by first | exact Below.trans HZ0 (hb1.mono (Below.size HZ0)) | exact Below.trans (Below.drew HZ0) (hb1.mono (by have := Below.size HZ0; simpa using this))); have HY1 : Below w.heap.size w c1w := ((Below.refl w.heap.size w).alloc (Nat.le_refl _) zN).trans (HZ1.mono (by simp)); have hz1 : w.heap.size < c1w.heap.size := (by have := Below.size HZ1; (try simp at this); omega); obtain ⟨kb1, -⟩ := bblk hb1 (b := b) (by first | omega | (simp; omega)); obtain ⟨ka1, fa1⟩ := bblk hb1 (b := w.heap.size) (by first | omega | (simp; done) | (simp; omega))))
  go_wp2_with fail
  refine bodyPost_ret (v := .agg #[.int .i64 50, .string ⟨#[]⟩, .string ⟨#[]⟩, .int .u64 0, .slice (some ⟨c1w.heap.size, 0, none⟩) 2 2]) (by simp [results, Tryz.f50, go_sem, ka0, hz0, Nat.ne_of_lt hz0, ka1, hz1, Nat.ne_of_lt hz1]) rfl (NodePost.stored2 _ _ _ _ _ HZ1 (back_fin [m0, m1] rfl HWF.out HZ1 rfl ?_))
  intro i x y hx hy
  match i with
  | 0 => simp at hx hy; subst hx hy; exact ⟨E0, hS0, ((hl0.mono (From.le (by first | exact Nat.le_refl _ | omega | (simp; omega) | (have := Below.size HZ0; simp; omega) | (have := Below.size HZ0; simp at this ⊢; omega)))).below (by first | exact hb1 | (have h := hb1; simpa using h)))⟩
  | 1 => simp at hx hy; subst hx hy; exact ⟨E1, hS1, ((hl1.mono (From.le (by first | exact Nat.le_refl _ | omega | (simp; omega) | (have := Below.size HZ1; simp; omega) | (have := Below.size HZ0; simp at this ⊢; omega)))))⟩
  | _ + 2 => simp at hx

set_option maxRecDepth 100000 in
set_option maxHeartbeats 2000000 in
theorem tn_49 (d : Nat) (hN : NodeTC d) (A : Nat → Prop) (n x0 : Nd) (rest : List Nd) (b : Nat) (v0 : Value) (aoL : Option Addr) (capL : Nat) (w : World) (ht : n.text = ⟨#[]⟩) (hm : n.more = ⟨#[]⟩) (hu : n.num = 0) (hwf : n.wf) (hk : n.kind = 49) (hkx : n.kids = x0 :: rest)
    (hb : w.heap[b]? = some (.cells #[.pointer none, .slice none 0 0, .slice none 0 0, .slice aoL rest.length capL, v0] 70 (0, 0))) (hM : MayP x0) (hV : MayV A w x0 v0) (hHL : PtrsV A (RepT A d) w aoL rest) (hks : ∀ x ∈ rest, x.kind = 50 ∧ TyP d x) (hsm : rest.length ≤ 1000) (hr1 : 1 ≤ rest.length) :
    Calls Tryz.prog 50 #[.iface 66 (.pointer (some ⟨b, 0, none⟩))] w (NodePost n w) := by
  obtain ⟨k, t, m, u, ao, cap, kids⟩ := n
  obtain rfl : k = 49 := hk
  obtain rfl : t = ⟨#[]⟩ := ht
  obtain rfl : m = ⟨#[]⟩ := hm
  obtain rfl : u = 0 := hu
  obtain rfl : kids = x0 :: rest := hkx
  have HWF := Lib.hid hwf
  have HKS := Lib.hid hks
  have HSM := Lib.hid hsm
  have HHL := Lib.hid hHL
  have HM := Lib.hid hM
  have HV := Lib.hid hV
  have c3 : w.cell? ⟨b, 3, none⟩ = some (.slice aoL rest.length capL) := by rw [Lib.cell_of_heap hb]; rfl
  have c4 : w.cell? ⟨b, 4, none⟩ = some (v0) := by rw [Lib.cell_of_heap hb]; rfl
  have hblt : b < w.heap.size := World.block_lt_of_cell? _ _ c3
  have hbne : ¬ b = w.heap.size := by omega
  have hbne2 : ¬ w.heap.size = b := by omega
  obtain ⟨i0, hi, hz0, hz1, hz2⟩ := info_parts infoNode
  clear hb hwf hM hV hHL hks hsm
  have q44 := no_44 66 (by decide)
  have q45 := no_45 66 (by decide)
  have q46 := no_46 66 (by decide)
  have q47 := no_47 66 (by decide)
  have q48 := no_48 66 (by decide)
  have q49 := yes_49
  go_enter Tryz.func50, Tryz.ntmps50
  go_wp2_with fail
  have hS0 : ((w.alloc zN).cell? ⟨b, 4, none⟩ = some (v0) ∧ (w.alloc zN).cell? ⟨b, 3, none⟩ = some (.slice aoL rest.length capL)) := ⟨by rw [((Below.refl w.heap.size w).alloc (Nat.le_refl _) zN).cell (p := ⟨b, 4, none⟩) hblt]; exact c4, by rw [((Below.refl w.heap.size w).alloc (Nat.le_refl _) zN).cell (p := ⟨b, 3, none⟩) hblt]; exact c3⟩
  have HSK := Lib.hid (show ∀ W' : World, (∀ o, W'.cell? ⟨b, o, none⟩ = w.cell? ⟨b, o, none⟩) → (W'.cell? ⟨b, 4, none⟩ = some (v0) ∧ W'.cell? ⟨b, 3, none⟩ = some (.slice aoL rest.length capL)) from fun W' h => ⟨(h _).trans c4, (h _).trans c3⟩)
  refine headBegin (S := fun w' => (w'.cell? ⟨b, 4, none⟩ = some (v0) ∧ w'.cell? ⟨b, 3, none⟩ = some (.slice aoL rest.length capL))) 13 (by kernel_rfl) hS0 (fun hHeld => ?_)
  clear hS0
  refine headTake (i := 0) (v := ?_) rfl (by kernel_rfl) (by kernel_rfl) (by kernel_rfl) (by kernel_rfl) (fun _ _ _ h => h) (Or.inl ⟨by rfl, ?_⟩) hHeld ?_
  rotate_left 1
  · intro w hSw
    go_split_ands
    go_simp
    try with_reducible rfl
  simp only [List.getElem_toArray, List.getElem_cons_zero, List.getElem_cons_succ, Act.put, List.setIfInBounds_toArray, List.set_cons_zero, List.set_cons_succ]
  refine headTake (i := 1) (v := ?_) rfl (by kernel_rfl) (by kernel_rfl) (by kernel_rfl) (by kernel_rfl) (fun _ _ _ h => h) (Or.inl ⟨by rfl, ?_⟩) hHeld ?_
  rotate_left 1
  · intro w hSw
    go_split_ands
    go_simp
    try with_reducible rfl
  simp only [List.getElem_toArray, List.getElem_cons_zero, List.getElem_cons_succ, Act.put, List.setIfInBounds_toArray, List.set_cons_zero, List.set_cons_succ]
  refine headTake (i := 2) (v := ?_) rfl (by kernel_rfl) (by kernel_rfl) (by kernel_rfl) (by kernel_rfl) (fun _ _ _ h => h) (Or.inl ⟨by rfl, ?_⟩) hHeld ?_
  rotate_left 1
  · intro w hSw
    go_split_ands
    go_simp
    try with_reducible rfl
  simp only [List.getElem_toArray, List.getElem_cons_zero, List.getElem_cons_succ, Act.put, List.setIfInBounds_toArray, List.set_cons_zero, List.set_cons_succ]
  refine headTake (i := 3) (v := ?_) rfl (by kernel_rfl) (by kernel_rfl) (by kernel_rfl) (by kernel_rfl) (fun _ _ _ h => h) (Or.inl ⟨by rfl, ?_⟩) hHeld ?_
  rotate_left 1
  · intro w hSw
    go_split_ands
    go_simp
    try with_reducible rfl
  simp only [List.getElem_toArray, List.getElem_cons_zero, List.getElem_cons_succ, Act.put, List.setIfInBounds_toArray, List.set_cons_zero, List.set_cons_succ]
  refine headTake (i := 6) (v := ?_) rfl (by kernel_rfl) (by kernel_rfl) (by kernel_rfl) (by kernel_rfl) (fun _ _ _ h => h) (Or.inl ⟨by rfl, ?_⟩) hHeld ?_
  rotate_left 1
  · intro w hSw
    go_split_ands
    go_simp
    try with_reducible rfl
  simp only [List.getElem_toArray, List.getElem_cons_zero, List.getElem_cons_succ, Act.put, List.setIfInBounds_toArray, List.set_cons_zero, List.set_cons_succ]
  refine headTake (i := 7) (v := ?_) rfl (by kernel_rfl) (by kernel_rfl) (by kernel_rfl) (by kernel_rfl) (fun _ _ _ h => h) (Or.inl ⟨by rfl, ?_⟩) hHeld ?_
  rotate_left 1
  · intro w hSw
    go_split_ands
    go_simp
    try with_reducible rfl
  simp only [List.getElem_toArray, List.getElem_cons_zero, List.getElem_cons_succ, Act.put, List.setIfInBounds_toArray, List.set_cons_zero, List.set_cons_succ]
  refine headTake (i := 8) (v := ?_) rfl (by kernel_rfl) (by kernel_rfl) (by kernel_rfl) (by kernel_rfl) (fun _ _ _ h => h) (Or.inl ⟨by rfl, ?_⟩) hHeld ?_
  rotate_left 1
  · intro w hSw
    go_split_ands
    go_simp
    try with_reducible rfl
  simp only [List.getElem_toArray, List.getElem_cons_zero, List.getElem_cons_succ, Act.put, List.setIfInBounds_toArray, List.set_cons_zero, List.set_cons_succ]
  refine headTake (i := 9) (v := ?_) rfl (by kernel_rfl) (by kernel_rfl) (by kernel_rfl) (by kernel_rfl) (fun _ _ _ h => h) (Or.inl ⟨by rfl, ?_⟩) hHeld ?_
  rotate_left 1
  · intro w hSw
    go_split_ands
    go_simp
    try with_reducible rfl
  simp only [List.getElem_toArray, List.getElem_cons_zero, List.getElem_cons_succ, Act.put, List.setIfInBounds_toArray, List.set_cons_zero, List.set_cons_succ]
  refine headStep (i := 4) rfl (by kernel_rfl) (fun K hK => ?_)
  go_simp
  go_at_call 34
  refine (mayNone A x0 v0 _ HM.out (HV.out.below (Below.drew ((Below.refl _ _).alloc (Nat.le_refl _) _)))).mono ?_
  rintro e c0w ⟨E0, m0, rfl, hS0, hl0, hb0⟩
  have HZ0 : Below (w.alloc zN).heap.size (w.alloc zN) c0w := (Below.drew (Below.refl _ _)).trans (hb0.mono (by simp))
  have HY0 : Below w.heap.size w c0w := ((Below.refl w.heap.size w).alloc (Nat.le_refl _) zN).trans (HZ0.mono (by simp))
  have hz00 : w.heap.size < c0w.heap.size := (by have := Below.size HZ0; (try simp at this); omega)
  obtain ⟨kb0, -⟩ := bblk HY0 (b := b) hblt
  obtain ⟨ka0, fa0⟩ := bblk HZ0 (b := w.heap.size) (by simp)
  unfold zN at ka0 fa0
  have HS0 := Lib.hid hS0
  have Hl0 : Hid (LiesIn (From (w.alloc zN).heap.size) E0 c0w m0) := Lib.hid (by have h := hl0; simpa using h)
  clear hS0 hl0
  have HKB0 := Lib.hid kb0
  refine hK.out _ _ ⟨fun _ => HSK.out _ HKB0.out, fun hS => ?_⟩
  have hHeld := hS (by decide)
  clear hS hK K hb0
  refine headStep2 (i := 5) (j := 10) rfl rfl (by kernel_rfl) (fun K hK => ?_) (fun K hK => ?_)
  · go_simp
    have HKBx := Lib.hid (show ∀ o, World.cell? (c0w.alloc (.cells (Nd.cells5 m0).toArray 25)) ⟨b, o, none⟩ = w.cell? ⟨b, o, none⟩ from fun o => (((Below.refl c0w.heap.size c0w).alloc (Nat.le_refl _) (.cells (Nd.cells5 m0).toArray 25)).cell (p := ⟨b, o, none⟩) (show b < _ by omega)).trans (HKB0.out o))
    refine hK.out _ _ ⟨fun _ => HSK.out _ HKBx.out, fun hS => ?_⟩
    have hHeld := hS (by decide)
    clear hS hK K
    refine headStep (i := 10) rfl (by kernel_rfl) (fun K hK => ?_)
    go_simp
    go_at_call 87
    refine (list_50 d hN A rest aoL capL _ HSM.out (HHL.out.below (HY0.alloc HY0.size (.cells (Nd.cells5 m0).toArray 25))) HKS.out).mono ?_
    rintro e c1w ⟨D1, ao3, cap3, ms, rfl, hlm, hss, hli, hb1⟩
    obtain ⟨bq, oq, rfl⟩ : ∃ bq oq, ao3 = some ⟨bq, oq, none⟩ := list_some hli (by omega)
    have HLM := Lib.hid hlm
    have HSS := Lib.hid hss
    have HLI : Hid (ListIn (From (c0w.heap.size + 1)) D1 c1w (some ⟨bq, oq, none⟩) ms) := Lib.hid (by have h := hli; simpa using h)
    clear hlm hss hli
    have HB1 : Below (c0w.alloc (.cells (Nd.cells5 m0).toArray 25)).heap.size (c0w.alloc (.cells (Nd.cells5 m0).toArray 25)) c1w := hb1
    have HZ1 : Below c0w.heap.size c0w c1w := ((Below.refl c0w.heap.size c0w).alloc (Nat.le_refl _) (.cells (Nd.cells5 m0).toArray 25)).trans (HB1.mono (by simp))
    have hz11 : c0w.heap.size ≤ c1w.heap.size := HZ1.size
    have hz13 : w.heap.size < c1w.heap.size := by omega
    have hz14 : ¬ w.heap.size = c1w.heap.size := by omega
    have HBK : Hid (c1w.heap[c0w.heap.size]? = some (.cells (Nd.cells5 m0).toArray 25 (0, 0))) := Lib.hid (by rw [HB1.block c0w.heap.size (by simp)]; exact heap_alloc_new c0w _)
    have hz12 : c0w.heap.size < c1w.heap.size := by have := HB1.size; simp at this; omega
    obtain ⟨kb1, -⟩ := bblk HZ1 (b := b) (by omega)
    obtain ⟨ka1, fa1⟩ := bblk HZ1 (b := w.heap.size) (by omega)
    have HKB1 := Lib.hid (show ∀ o, World.cell? c1w ⟨b, o, none⟩ = w.cell? ⟨b, o, none⟩ from fun o => (kb1 o).trans (HKB0.out o))
    refine hK.out _ _ ⟨fun _ => HSK.out _ HKB1.out, fun hS => ?_⟩
    have hHeld := hS (by decide)
    clear hS hK K hb1
    refine headStep (i := 11) rfl (by kernel_rfl) (fun K hK => ?_)
    refine step_append_lies _ rfl _ _ 23 rfl (w.heap.size + 1) 25 i0 _ 5 72 undNodes hi hz0 hz1 hz2 rfl (by decide) (.slice (some ⟨c0w.heap.size, 0, none⟩) 1 1) 1 (Nd.cells5 m0) rfl (one_row (B := w.heap.size + 1) HBK.out (by omega)) ⟨bq, oq, none⟩ rest.length cap3 (ms.flatMap Nd.cells5) rfl (by rw [cells5_len, HLM.out]) (list_news HLI.out) (cells5_one ms) (by omega) (by have := HSM.out; unfold maxLen; omega) (by have := HSM.out; omega) (by first | omega | (simp; omega)) _ rfl ?_
    intro g cap2 w2 hown' hgrow hat hglt
    have HKB2 := Lib.hid (show ∀ o, World.cell? w2 ⟨b, o, none⟩ = w.cell? ⟨b, o, none⟩ from fun o => (hgrow.cell_far ⟨b, o, none⟩ (by first | (show b < _; omega) | (simp; omega)) (by simp [Value.ownBlock]; omega)).trans (HKB1.out o))
    have kg := fun o => hgrow.cell_far ⟨w.heap.size, o, none⟩ (by first | (show w.heap.size < _; omega) | (simp; omega)) (by simp [Value.ownBlock]; omega)
    have fg := fun o => hgrow.frozen_far ⟨w.heap.size, o, none⟩ (by first | (show w.heap.size < _; omega) | (simp; omega)) (by simp [Value.ownBlock]; omega)
    have HOWN := Lib.hid hown'
    have HGR := Lib.hid hgrow
    clear hown' hgrow hat hglt
    refine hK.out _ _ ⟨fun _ => HSK.out _ HKB2.out, fun hS => ?_⟩
    have hHeld := hS (by decide)
    clear hS hK K
    refine headStep (i := 12) rfl (by kernel_rfl) (fun K hK => ?_)
    go_simp
    refine hK.out _ _ ⟨fun _ => HSK.out _ HKB2.out, fun hS => ?_⟩
    clear hS hK K
    refine headStep (i := 13) rfl (by kernel_rfl) (fun K hK => ?_)
    go_simp
    refine hK.out _ _ ⟨fun h => absurd h (by decide), fun _ => ?_⟩
    clear hK K
    refine headDone (by kernel_rfl) ?_ _
    go_wp2_with fail
    exact bodyPost_ret (v := .agg #[.int .i64 49, .string ⟨#[]⟩, .string ⟨#[]⟩, .int .u64 0, .slice (some ⟨g, 0, none⟩) (1 + rest.length) cap2]) (by simp [results, Tryz.f50, go_sem, kg, ka1, ka0, hz13, hz14, hz00]) rfl (NodePost.stored _ _ _ _ _ (call_row1 (w0 := w.alloc zN) HWF.out HLM.out HZ0 HZ1 HS0.out Hl0.out HSS.out HLI.out (by have h := HOWN.out; simpa using h) (by omega) HGR.out))
  · go_simp
    go_at_call 87
    refine (list_50 d hN A rest aoL capL _ HSM.out (HHL.out.below HY0) HKS.out).mono ?_
    rintro e c1w ⟨D1, ao3, cap3, ms, rfl, hlm, hss, hli, hb1⟩
    obtain ⟨bq, oq, rfl⟩ : ∃ bq oq, ao3 = some ⟨bq, oq, none⟩ := list_some hli (by omega)
    have HLM := Lib.hid hlm
    have HSS := Lib.hid hss
    have HLI : Hid (ListIn (From (c0w.heap.size)) D1 c1w (some ⟨bq, oq, none⟩) ms) := Lib.hid (by have h := hli; simpa using h)
    clear hlm hss hli
    have HB1 : Below c0w.heap.size c0w c1w := hb1
    have HZ1 : Below c0w.heap.size c0w c1w := HB1
    have hz11 : c0w.heap.size ≤ c1w.heap.size := HZ1.size
    have hz13 : w.heap.size < c1w.heap.size := by omega
    have hz14 : ¬ w.heap.size = c1w.heap.size := by omega
    obtain ⟨kb1, -⟩ := bblk HZ1 (b := b) (by omega)
    obtain ⟨ka1, fa1⟩ := bblk HZ1 (b := w.heap.size) (by omega)
    have HKB1 := Lib.hid (show ∀ o, World.cell? c1w ⟨b, o, none⟩ = w.cell? ⟨b, o, none⟩ from fun o => (kb1 o).trans (HKB0.out o))
    refine hK.out _ _ ⟨fun _ => HSK.out _ HKB1.out, fun hS => ?_⟩
    have hHeld := hS (by decide)
    clear hS hK K hb1
    refine headStep (i := 5) rfl (by kernel_rfl) (fun K hK => ?_)
    go_simp
    have HKBx := Lib.hid (show ∀ o, World.cell? (c1w.alloc (.cells (Nd.cells5 m0).toArray 25)) ⟨b, o, none⟩ = w.cell? ⟨b, o, none⟩ from fun o => (((Below.refl c1w.heap.size c1w).alloc (Nat.le_refl _) (.cells (Nd.cells5 m0).toArray 25)).cell (p := ⟨b, o, none⟩) (show b < _ by omega)).trans (HKB1.out o))
    refine hK.out _ _ ⟨fun _ => HSK.out _ HKBx.out, fun hS => ?_⟩
    have hHeld := hS (by decide)
    clear hS hK K
    refine headStep (i := 11) rfl (by kernel_rfl) (fun K hK => ?_)
    refine step_append_lies _ rfl _ _ 23 rfl (w.heap.size + 1) 25 i0 _ 5 72 undNodes hi hz0 hz1 hz2 rfl (by decide) (.slice (some ⟨c1w.heap.size, 0, none⟩) 1 1) 1 (Nd.cells5 m0) rfl (one_row (B := w.heap.size + 1) (m := m0) (heap_alloc_new c1w (.cells (Nd.cells5 m0).toArray 25)) (by omega)) ⟨bq, oq, none⟩ rest.length cap3 (ms.flatMap Nd.cells5) rfl (by rw [cells5_len, HLM.out]) (list_news (HLI.out.carry (Carries.of_below ((Below.refl c1w.heap.size c1w).alloc (Nat.le_refl _) (.cells (Nd.cells5 m0).toArray 25))))) (cells5_one ms) (by omega) (by have := HSM.out; unfold maxLen; omega) (by have := HSM.out; omega) (by first | omega | (simp; omega)) _ rfl ?_
    intro g cap2 w2 hown' hgrow hat hglt
    have HKB2 := Lib.hid (show ∀ o, World.cell? w2 ⟨b, o, none⟩ = w.cell? ⟨b, o, none⟩ from fun o => (hgrow.cell_far ⟨b, o, none⟩ (by first | (show b < _; omega) | (simp; omega)) (by simp [Value.ownBlock]; omega)).trans (HKBx.out o))
    have kg := fun o => hgrow.cell_far ⟨w.heap.size, o, none⟩ (by first | (show w.heap.size < _; omega) | (simp; omega)) (by simp [Value.ownBlock]; omega)
    have fg := fun o => hgrow.frozen_far ⟨w.heap.size, o, none⟩ (by first | (show w.heap.size < _; omega) | (simp; omega)) (by simp [Value.ownBlock]; omega)
    have HOWN := Lib.hid hown'
    have HGR := Lib.hid hgrow
    clear hown' hgrow hat hglt
    refine hK.out _ _ ⟨fun _ => HSK.out _ HKB2.out, fun hS => ?_⟩
    have hHeld := hS (by decide)
    clear hS hK K
    refine headStep (i := 12) rfl (by kernel_rfl) (fun K hK => ?_)
    go_simp
    refine hK.out _ _ ⟨fun _ => HSK.out _ HKB2.out, fun hS => ?_⟩
    clear hS hK K
    refine headStep (i := 13) rfl (by kernel_rfl) (fun K hK => ?_)
    go_simp
    refine hK.out _ _ ⟨fun h => absurd h (by decide), fun _ => ?_⟩
    clear hK K
    refine headDone (by kernel_rfl) ?_ _
    go_wp2_with fail
    exact bodyPost_ret (v := .agg #[.int .i64 49, .string ⟨#[]⟩, .string ⟨#[]⟩, .int .u64 0, .slice (some ⟨g, 0, none⟩) (1 + rest.length) cap2]) (by simp [results, Tryz.f50, go_sem, kg, ka1, ka0, hz13, hz14, hz00]) rfl (NodePost.stored _ _ _ _ _ (call_row (w0 := w.alloc zN) HWF.out HLM.out HZ0 HZ1 HS0.out Hl0.out HSS.out HLI.out (by have h := HOWN.out; simpa using h) (by omega) HGR.out))

set_option maxRecDepth 100000 in
set_option maxHeartbeats 2000000 in
theorem tn_49_one (d : Nat) (hN : NodeTC d) (A : Nat → Prop) (n x0 : Nd) (b : Nat) (v0 : Value) (aoL : Option Addr) (capL : Nat) (w : World) (ht : n.text = ⟨#[]⟩) (hm : n.more = ⟨#[]⟩) (hu : n.num = 0) (hwf : n.wf) (hk : n.kind = 49) (hkx : n.kids = x0 :: [])
    (hb : w.heap[b]? = some (.cells #[.pointer none, .slice none 0 0, .slice none 0 0, .slice aoL 0 capL, v0] 70 (0, 0))) (hM : MayP x0) (hV : MayV A w x0 v0) :
    Calls Tryz.prog 50 #[.iface 66 (.pointer (some ⟨b, 0, none⟩))] w (NodePost n w) := by
  obtain ⟨k, t, m, u, ao, cap, kids⟩ := n
  obtain rfl : k = 49 := hk
  obtain rfl : t = ⟨#[]⟩ := ht
  obtain rfl : m = ⟨#[]⟩ := hm
  obtain rfl : u = 0 := hu
  obtain rfl : kids = x0 :: [] := hkx
  have HWF := Lib.hid hwf
  have HM := Lib.hid hM
  have HV := Lib.hid hV
  have c3 : w.cell? ⟨b, 3, none⟩ = some (.slice aoL 0 capL) := by rw [Lib.cell_of_heap hb]; rfl
  have c4 : w.cell? ⟨b, 4, none⟩ = some (v0) := by rw [Lib.cell_of_heap hb]; rfl
  have hblt : b < w.heap.size := World.block_lt_of_cell? _ _ c3
  have hbne : ¬ b = w.heap.size := by omega
  have hbne2 : ¬ w.heap.size = b := by omega
  obtain ⟨i0, hi, hz0, hz1, hz2⟩ := info_parts infoNode
  clear hb hwf hM hV
  have q44 := no_44 66 (by decide)
  have q45 := no_45 66 (by decide)
  have q46 := no_46 66 (by decide)
  have q47 := no_47 66 (by decide)
  have q48 := no_48 66 (by decide)
  have q49 := yes_49
  go_enter Tryz.func50, Tryz.ntmps50
  go_wp2_with fail
  have hS0 : ((w.alloc zN).cell? ⟨b, 4, none⟩ = some (v0) ∧ (w.alloc zN).cell? ⟨b, 3, none⟩ = some (.slice aoL 0 capL)) := ⟨by rw [((Below.refl w.heap.size w).alloc (Nat.le_refl _) zN).cell (p := ⟨b, 4, none⟩) hblt]; exact c4, by rw [((Below.refl w.heap.size w).alloc (Nat.le_refl _) zN).cell (p := ⟨b, 3, none⟩) hblt]; exact c3⟩
  have HSK := Lib.hid (show ∀ W' : World, (∀ o, W'.cell? ⟨b, o, none⟩ = w.cell? ⟨b, o, none⟩) → (W'.cell? ⟨b, 4, none⟩ = some (v0) ∧ W'.cell? ⟨b, 3, none⟩ = some (.slice aoL 0 capL)) from fun W' h => ⟨(h _).trans c4, (h _).trans c3⟩)
  refine headBegin (S := fun w' => (w'.cell? ⟨b, 4, none⟩ = some (v0) ∧ w'.cell? ⟨b, 3, none⟩ = some (.slice aoL 0 capL))) 13 (by kernel_rfl) hS0 (fun hHeld => ?_)
  clear hS0
  refine headTake (i := 0) (v := ?_) rfl (by kernel_rfl) (by kernel_rfl) (by kernel_rfl) (by kernel_rfl) (fun _ _ _ h => h) (Or.inl ⟨by rfl, ?_⟩) hHeld ?_
  rotate_left 1
  · intro w hSw
    go_split_ands
    go_simp
    try with_reducible rfl
  simp only [List.getElem_toArray, List.getElem_cons_zero, List.getElem_cons_succ, Act.put, List.setIfInBounds_toArray, List.set_cons_zero, List.set_cons_succ]
  refine headTake (i := 1) (v := ?_) rfl (by kernel_rfl) (by kernel_rfl) (by kernel_rfl) (by kernel_rfl) (fun _ _ _ h => h) (Or.inl ⟨by rfl, ?_⟩) hHeld ?_
  rotate_left 1
  · intro w hSw
    go_split_ands
    go_simp
    try with_reducible rfl
  simp only [List.getElem_toArray, List.getElem_cons_zero, List.getElem_cons_succ, Act.put, List.setIfInBounds_toArray, List.set_cons_zero, List.set_cons_succ]
  refine headTake (i := 2) (v := ?_) rfl (by kernel_rfl) (by kernel_rfl) (by kernel_rfl) (by kernel_rfl) (fun _ _ _ h => h) (Or.inl ⟨by rfl, ?_⟩) hHeld ?_
  rotate_left 1
  · intro w hSw
    go_split_ands
    go_simp
    try with_reducible rfl
  simp only [List.getElem_toArray, List.getElem_cons_zero, List.getElem_cons_succ, Act.put, List.setIfInBounds_toArray, List.set_cons_zero, List.set_cons_succ]
  refine headTake (i := 3) (v := ?_) rfl (by kernel_rfl) (by kernel_rfl) (by kernel_rfl) (by kernel_rfl) (fun _ _ _ h => h) (Or.inl ⟨by rfl, ?_⟩) hHeld ?_
  rotate_left 1
  · intro w hSw
    go_split_ands
    go_simp
    try with_reducible rfl
  simp only [List.getElem_toArray, List.getElem_cons_zero, List.getElem_cons_succ, Act.put, List.setIfInBounds_toArray, List.set_cons_zero, List.set_cons_succ]
  refine headTake (i := 6) (v := ?_) rfl (by kernel_rfl) (by kernel_rfl) (by kernel_rfl) (by kernel_rfl) (fun _ _ _ h => h) (Or.inl ⟨by rfl, ?_⟩) hHeld ?_
  rotate_left 1
  · intro w hSw
    go_split_ands
    go_simp
    try with_reducible rfl
  simp only [List.getElem_toArray, List.getElem_cons_zero, List.getElem_cons_succ, Act.put, List.setIfInBounds_toArray, List.set_cons_zero, List.set_cons_succ]
  refine headTake (i := 7) (v := ?_) rfl (by kernel_rfl) (by kernel_rfl) (by kernel_rfl) (by kernel_rfl) (fun _ _ _ h => h) (Or.inl ⟨by rfl, ?_⟩) hHeld ?_
  rotate_left 1
  · intro w hSw
    go_split_ands
    go_simp
    try with_reducible rfl
  simp only [List.getElem_toArray, List.getElem_cons_zero, List.getElem_cons_succ, Act.put, List.setIfInBounds_toArray, List.set_cons_zero, List.set_cons_succ]
  refine headTake (i := 8) (v := ?_) rfl (by kernel_rfl) (by kernel_rfl) (by kernel_rfl) (by kernel_rfl) (fun _ _ _ h => h) (Or.inl ⟨by rfl, ?_⟩) hHeld ?_
  rotate_left 1
  · intro w hSw
    go_split_ands
    go_simp
    try with_reducible rfl
  simp only [List.getElem_toArray, List.getElem_cons_zero, List.getElem_cons_succ, Act.put, List.setIfInBounds_toArray, List.set_cons_zero, List.set_cons_succ]
  refine headTake (i := 9) (v := ?_) rfl (by kernel_rfl) (by kernel_rfl) (by kernel_rfl) (by kernel_rfl) (fun _ _ _ h => h) (Or.inl ⟨by rfl, ?_⟩) hHeld ?_
  rotate_left 1
  · intro w hSw
    go_split_ands
    go_simp
    try with_reducible rfl
  simp only [List.getElem_toArray, List.getElem_cons_zero, List.getElem_cons_succ, Act.put, List.setIfInBounds_toArray, List.set_cons_zero, List.set_cons_succ]
  refine headStep (i := 4) rfl (by kernel_rfl) (fun K hK => ?_)
  go_simp
  go_at_call 34
  refine (mayNone A x0 v0 _ HM.out (HV.out.below (Below.drew ((Below.refl _ _).alloc (Nat.le_refl _) _)))).mono ?_
  rintro e c0w ⟨E0, m0, rfl, hS0, hl0, hb0⟩
  have HZ0 : Below (w.alloc zN).heap.size (w.alloc zN) c0w := (Below.drew (Below.refl _ _)).trans (hb0.mono (by simp))
  have HY0 : Below w.heap.size w c0w := ((Below.refl w.heap.size w).alloc (Nat.le_refl _) zN).trans (HZ0.mono (by simp))
  have hz00 : w.heap.size < c0w.heap.size := (by have := Below.size HZ0; (try simp at this); omega)
  obtain ⟨kb0, -⟩ := bblk HY0 (b := b) hblt
  obtain ⟨ka0, fa0⟩ := bblk HZ0 (b := w.heap.size) (by simp)
  unfold zN at ka0 fa0
  have HS0 := Lib.hid hS0
  have Hl0 : Hid (LiesIn (From (w.alloc zN).heap.size) E0 c0w m0) := Lib.hid (by have h := hl0; simpa using h)
  clear hS0 hl0
  have HKB0 := Lib.hid kb0
  refine hK.out _ _ ⟨fun _ => HSK.out _ HKB0.out, fun hS => ?_⟩
  have hHeld := hS (by decide)
  clear hS hK K hb0
  refine headStep2 (i := 5) (j := 10) rfl rfl (by kernel_rfl) (fun K hK => ?_) (fun K hK => ?_)
  · go_simp
    have HKBx := Lib.hid (show ∀ o, World.cell? (c0w.alloc (.cells (Nd.cells5 m0).toArray 25)) ⟨b, o, none⟩ = w.cell? ⟨b, o, none⟩ from fun o => (((Below.refl c0w.heap.size c0w).alloc (Nat.le_refl _) (.cells (Nd.cells5 m0).toArray 25)).cell (p := ⟨b, o, none⟩) (show b < _ by omega)).trans (HKB0.out o))
    refine hK.out _ _ ⟨fun _ => HSK.out _ HKBx.out, fun hS => ?_⟩
    have hHeld := hS (by decide)
    clear hS hK K
    refine headStep (i := 10) rfl (by kernel_rfl) (fun K hK => ?_)
    go_simp
    go_at_call 87
    refine (list_50_nil aoL capL _).mono ?_
    rintro e c1w ⟨rfl, hb1⟩
    have HB1 : Below (c0w.alloc (.cells (Nd.cells5 m0).toArray 25)).heap.size (c0w.alloc (.cells (Nd.cells5 m0).toArray 25)) c1w := hb1
    have HZ1 : Below c0w.heap.size c0w c1w := ((Below.refl c0w.heap.size c0w).alloc (Nat.le_refl _) (.cells (Nd.cells5 m0).toArray 25)).trans (HB1.mono (by simp))
    have hz11 : c0w.heap.size ≤ c1w.heap.size := HZ1.size
    have hz13 : w.heap.size < c1w.heap.size := by omega
    have hz14 : ¬ w.heap.size = c1w.heap.size := by omega
    have HBK : Hid (c1w.heap[c0w.heap.size]? = some (.cells (Nd.cells5 m0).toArray 25 (0, 0))) := Lib.hid (by rw [HB1.block c0w.heap.size (by simp)]; exact heap_alloc_new c0w _)
    have hz12 : c0w.heap.size < c1w.heap.size := by have := HB1.size; simp at this; omega
    obtain ⟨kb1, -⟩ := bblk HZ1 (b := b) (by omega)
    obtain ⟨ka1, fa1⟩ := bblk HZ1 (b := w.heap.size) (by omega)
    have HKB1 := Lib.hid (show ∀ o, World.cell? c1w ⟨b, o, none⟩ = w.cell? ⟨b, o, none⟩ from fun o => (kb1 o).trans (HKB0.out o))
    refine hK.out _ _ ⟨fun _ => HSK.out _ HKB1.out, fun hS => ?_⟩
    have hHeld := hS (by decide)
    clear hS hK K hb1
    refine headStep (i := 11) rfl (by kernel_rfl) (fun K hK => ?_)
    refine step_append_nil rfl _ _ 23 rfl rfl rfl (app_nil c0w.heap.size _) ?_
    refine hK.out _ _ ⟨fun _ => HSK.out _ HKB1.out, fun hS => ?_⟩
    have hHeld := hS (by decide)
    clear hS hK K
    refine headStep (i := 12) rfl (by kernel_rfl) (fun K hK => ?_)
    go_simp
    refine hK.out _ _ ⟨fun _ => HSK.out _ HKB1.out, fun hS => ?_⟩
    clear hS hK K
    refine headStep (i := 13) rfl (by kernel_rfl) (fun K hK => ?_)
    go_simp
    refine hK.out _ _ ⟨fun h => absurd h (by decide), fun _ => ?_⟩
    clear hK K
    refine headDone (by kernel_rfl) ?_ _
    have HZ2 : Below (w.alloc zN).heap.size (w.alloc zN) c1w := HZ0.trans (HZ1.mono HZ0.size)
    go_wp2_with fail
    exact bodyPost_ret (v := .agg #[.int .i64 49, .string ⟨#[]⟩, .string ⟨#[]⟩, .int .u64 0, .slice (some ⟨c0w.heap.size, 0, none⟩) 1 1]) (by simp [results, Tryz.f50, go_sem, ka1, ka0, hz13, hz14, hz00]) rfl (NodePost.stored _ _ _ _ _ (back_row (w0 := w.alloc zN) (ms := [m0]) rfl HWF.out HZ2 (by have h := one_row (B := (w.alloc zN).heap.size) HBK.out (by simp; omega); simpa using h) rfl (fun i x y hx hy => by match i with | 0 => (simp at hx hy; subst hx hy; exact ⟨_, HS0.out, (Hl0.out).below HZ1⟩) | _ + 1 => simp at hx)))
  · go_simp
    go_at_call 87
    refine (list_50_nil aoL capL _).mono ?_
    rintro e c1w ⟨rfl, hb1⟩
    have HB1 : Below c0w.heap.size c0w c1w := hb1
    have HZ1 : Below c0w.heap.size c0w c1w := HB1
    have hz11 : c0w.heap.size ≤ c1w.heap.size := HZ1.size
    have hz13 : w.heap.size < c1w.heap.size := by omega
    have hz14 : ¬ w.heap.size = c1w.heap.size := by omega
    obtain ⟨kb1, -⟩ := bblk HZ1 (b := b) (by omega)
    obtain ⟨ka1, fa1⟩ := bblk HZ1 (b := w.heap.size) (by omega)
    have HKB1 := Lib.hid (show ∀ o, World.cell? c1w ⟨b, o, none⟩ = w.cell? ⟨b, o, none⟩ from fun o => (kb1 o).trans (HKB0.out o))
    refine hK.out _ _ ⟨fun _ => HSK.out _ HKB1.out, fun hS => ?_⟩
    have hHeld := hS (by decide)
    clear hS hK K hb1
    refine headStep (i := 5) rfl (by kernel_rfl) (fun K hK => ?_)
    go_simp
    have HKBx := Lib.hid (show ∀ o, World.cell? (c1w.alloc (.cells (Nd.cells5 m0).toArray 25)) ⟨b, o, none⟩ = w.cell? ⟨b, o, none⟩ from fun o => (((Below.refl c1w.heap.size c1w).alloc (Nat.le_refl _) (.cells (Nd.cells5 m0).toArray 25)).cell (p := ⟨b, o, none⟩) (show b < _ by omega)).trans (HKB1.out o))
    refine hK.out _ _ ⟨fun _ => HSK.out _ HKBx.out, fun hS => ?_⟩
    have hHeld := hS (by decide)
    clear hS hK K
    refine headStep (i := 11) rfl (by kernel_rfl) (fun K hK => ?_)
    refine step_append_nil rfl _ _ 23 rfl rfl rfl (app_nil c1w.heap.size _) ?_
    refine hK.out _ _ ⟨fun _ => HSK.out _ HKBx.out, fun hS => ?_⟩
    have hHeld := hS (by decide)
    clear hS hK K
    refine headStep (i := 12) rfl (by kernel_rfl) (fun K hK => ?_)
    go_simp
    refine hK.out _ _ ⟨fun _ => HSK.out _ HKBx.out, fun hS => ?_⟩
    clear hS hK K
    refine headStep (i := 13) rfl (by kernel_rfl) (fun K hK => ?_)
    go_simp
    refine hK.out _ _ ⟨fun h => absurd h (by decide), fun _ => ?_⟩
    clear hK K
    refine headDone (by kernel_rfl) ?_ _
    have HZ2 : Below (w.alloc zN).heap.size (w.alloc zN) c1w := HZ0.trans (HZ1.mono HZ0.size)
    go_wp2_with fail
    first | exact bodyPost_ret (v := .agg #[.int .i64 49, .string ⟨#[]⟩, .string ⟨#[]⟩, .int .u64 0, .slice (some ⟨c1w.heap.size, 0, none⟩) 1 1]) (by simp [results, Tryz.f50, go_sem, ka1, ka0, hz13, hz14, hz00]) rfl (NodePost.stored2 _ _ _ _ _ HZ2 (back_fin [m0] rfl HWF.out HZ2 rfl (fun i x y hx hy => by match i with | 0 => (simp at hx hy; subst hx hy; exact ⟨_, HS0.out, (Hl0.out).below HZ1⟩) | _ + 1 => simp at hx))) | exact bodyPost_ret (v := .agg #[.int .i64 49, .string ⟨#[]⟩, .string ⟨#[]⟩, .int .u64 0, .slice (some ⟨c1w.heap.size, 0, none⟩) 1 1]) (by simp [results, Tryz.f50, go_sem, ka1, ka0, hz13, hz14, hz00]) rfl (NodePost.stored _ _ _ _ _ (back_fin [m0] rfl HWF.out HZ2 rfl (fun i x y hx hy => by match i with | 0 => (simp at hx hy; subst hx hy; exact ⟨_, HS0.out, (Hl0.out).below HZ1⟩) | _ + 1 => simp at hx)))

set_option maxRecDepth 100000 in
set_option maxHeartbeats 2000000 in
theorem tn_51 (d : Nat) (hN : NodeTC d) (A : Nat → Prop) (n x0 : Nd) (rest : List Nd) (b : Nat) (b0 : Nat) (aoL : Option Addr) (capL : Nat) (w : World) (ht : n.text = ⟨#[]⟩) (hm : n.more = ⟨#[]⟩) (hu : n.num = 0) (hwf : n.wf) (hk : n.kind = 51) (hkx : n.kids = x0 :: rest)
    (hb : w.heap[b]? = some (.cells #[.pointer none, .slice none 0 0, .slice none 0 0, .slice aoL rest.length capL, .iface (tTy x0.kind) (.pointer (some ⟨b0, 0, none⟩))] 62 (0, 0))) (hM : TyP d x0) (hI : isTyP x0.kind) (hV : TyV (RepT A d) w x0 (.iface (tTy x0.kind) (.pointer (some ⟨b0, 0, none⟩)))) (hHL : PtrsV A (RepT A d) w aoL rest) (hks : ∀ x ∈ rest, x.kind = 52 ∧ TyP d x) (hsm : rest.length ≤ 1000) (hr1 : 1 ≤ rest.length) :
    Calls Tryz.prog 50 #[.iface 59 (.pointer (some ⟨b, 0, none⟩))] w (NodePost n w) := by
  obtain ⟨k, t, m, u, ao, cap, kids⟩ := n
  obtain rfl : k = 51 := hk
  obtain rfl : t = ⟨#[]⟩ := ht
  obtain rfl : m = ⟨#[]⟩ := hm
  obtain rfl : u = 0 := hu
  obtain rfl : kids = x0 :: rest := hkx
  have HWF := Lib.hid hwf
  have HKS := Lib.hid hks
  have HSM := Lib.hid hsm
  have HHL := Lib.hid hHL
  have HM := Lib.hid hM
  have HV := Lib.hid hV
  have HI := Lib.hid hI
  have c3 : w.cell? ⟨b, 3, none⟩ = some (.slice aoL rest.length capL) := by rw [Lib.cell_of_heap hb]; rfl
  have c4 : w.cell? ⟨b, 4, none⟩ = some (.iface (tTy x0.kind) (.pointer (some ⟨b0, 0, none⟩))) := by rw [Lib.cell_of_heap hb]; rfl
  have hblt : b < w.heap.size := World.block_lt_of_cell? _ _ c3
  have hbne : ¬ b = w.heap.size := by omega
  have hbne2 : ¬ w.heap.size = b := by omega
  obtain ⟨i0, hi, hz0, hz1, hz2⟩ := info_parts infoNode
  clear hb hwf hM hV hI hHL hks hsm
  have q44 := no_44 59 (by decide)
  have q45 := no_45 59 (by decide)
  have q46 := no_46 59 (by decide)
  have q47 := no_47 59 (by decide)
  have q48 := no_48 59 (by decide)
  have q49 := no_49 59 (by decide)
  have q50 := no_50 59 (by decide)
  have q51 := yes_51
  go_enter Tryz.func50, Tryz.ntmps50
  go_wp2_with fail
  have hS0 : ((w.alloc zN).cell? ⟨b, 4, none⟩ = some (.iface (tTy x0.kind) (.pointer (some ⟨b0, 0, none⟩))) ∧ (w.alloc zN).cell? ⟨b, 3, none⟩ = some (.slice aoL rest.length capL)) := ⟨by rw [((Below.refl w.heap.size w).alloc (Nat.le_refl _) zN).cell (p := ⟨b, 4, none⟩) hblt]; exact c4, by rw [((Below.refl w.heap.size w).alloc (Nat.le_refl _) zN).cell (p := ⟨b, 3, none⟩) hblt]; exact c3⟩
  have HSK := Lib.hid (show ∀ W' : World, (∀ o, W'.cell? ⟨b, o, none⟩ = w.cell? ⟨b, o, none⟩) → (W'.cell? ⟨b, 4, none⟩ = some (.iface (tTy x0.kind) (.pointer (some ⟨b0, 0, none⟩))) ∧ W'.cell? ⟨b, 3, none⟩ = some (.slice aoL rest.length capL)) from fun W' h => ⟨(h _).trans c4, (h _).trans c3⟩)
  refine headBegin (S := fun w' => (w'.cell? ⟨b, 4, none⟩ = some (.iface (tTy x0.kind) (.pointer (some ⟨b0, 0, none⟩))) ∧ w'.cell? ⟨b, 3, none⟩ = some (.slice aoL rest.length capL))) 13 (by kernel_rfl) hS0 (fun hHeld => ?_)
  clear hS0
  refine headTake (i := 0) (v := ?_) rfl (by kernel_rfl) (by kernel_rfl) (by kernel_rfl) (by kernel_rfl) (fun _ _ _ h => h) (Or.inl ⟨by rfl, ?_⟩) hHeld ?_
  rotate_left 1
  · intro w hSw
    go_split_ands
    go_simp
    try with_reducible rfl
  simp only [List.getElem_toArray, List.getElem_cons_zero, List.getElem_cons_succ, Act.put, List.setIfInBounds_toArray, List.set_cons_zero, List.set_cons_succ]
  refine headTake (i := 1) (v := ?_) rfl (by kernel_rfl) (by kernel_rfl) (by kernel_rfl) (by kernel_rfl) (fun _ _ _ h => h) (Or.inl ⟨by rfl, ?_⟩) hHeld ?_
  rotate_left 1
  · intro w hSw
    go_split_ands
    go_simp
    try with_reducible rfl
  simp only [List.getElem_toArray, List.getElem_cons_zero, List.getElem_cons_succ, Act.put, List.setIfInBounds_toArray, List.set_cons_zero, List.set_cons_succ]
  refine headTake (i := 2) (v := ?_) rfl (by kernel_rfl) (by kernel_rfl) (by kernel_rfl) (by kernel_rfl) (fun _ _ _ h => h) (Or.inl ⟨by rfl, ?_⟩) hHeld ?_
  rotate_left 1
  · intro w hSw
    go_split_ands
    go_simp
    try with_reducible rfl
  simp only [List.getElem_toArray, List.getElem_cons_zero, List.getElem_cons_succ, Act.put, List.setIfInBounds_toArray, List.set_cons_zero, List.set_cons_succ]
  refine headTake (i := 3) (v := ?_) rfl (by kernel_rfl) (by kernel_rfl) (by kernel_rfl) (by kernel_rfl) (fun _ _ _ h => h) (Or.inl ⟨by rfl, ?_⟩) hHeld ?_
  rotate_left 1
  · intro w hSw
    go_split_ands
    go_simp
    try with_reducible rfl
  simp only [List.getElem_toArray, List.getElem_cons_zero, List.getElem_cons_succ, Act.put, List.setIfInBounds_toArray, List.set_cons_zero, List.set_cons_succ]
  refine headTake (i := 6) (v := ?_) rfl (by kernel_rfl) (by kernel_rfl) (by kernel_rfl) (by kernel_rfl) (fun _ _ _ h => h) (Or.inl ⟨by rfl, ?_⟩) hHeld ?_
  rotate_left 1
  · intro w hSw
    go_split_ands
    go_simp
    try with_reducible rfl
  simp only [List.getElem_toArray, List.getElem_cons_zero, List.getElem_cons_succ, Act.put, List.setIfInBounds_toArray, List.set_cons_zero, List.set_cons_succ]
  refine headTake (i := 7) (v := ?_) rfl (by kernel_rfl) (by kernel_rfl) (by kernel_rfl) (by kernel_rfl) (fun _ _ _ h => h) (Or.inl ⟨by rfl, ?_⟩) hHeld ?_
  rotate_left 1
  · intro w hSw
    go_split_ands
    go_simp
    try with_reducible rfl
  simp only [List.getElem_toArray, List.getElem_cons_zero, List.getElem_cons_succ, Act.put, List.setIfInBounds_toArray, List.set_cons_zero, List.set_cons_succ]
  refine headTake (i := 8) (v := ?_) rfl (by kernel_rfl) (by kernel_rfl) (by kernel_rfl) (by kernel_rfl) (fun _ _ _ h => h) (Or.inl ⟨by rfl, ?_⟩) hHeld ?_
  rotate_left 1
  · intro w hSw
    go_split_ands
    go_simp
    try with_reducible rfl
  simp only [List.getElem_toArray, List.getElem_cons_zero, List.getElem_cons_succ, Act.put, List.setIfInBounds_toArray, List.set_cons_zero, List.set_cons_succ]
  refine headTake (i := 9) (v := ?_) rfl (by kernel_rfl) (by kernel_rfl) (by kernel_rfl) (by kernel_rfl) (fun _ _ _ h => h) (Or.inl ⟨by rfl, ?_⟩) hHeld ?_
  rotate_left 1
  · intro w hSw
    go_split_ands
    go_simp
    try with_reducible rfl
  simp only [List.getElem_toArray, List.getElem_cons_zero, List.getElem_cons_succ, Act.put, List.setIfInBounds_toArray, List.set_cons_zero, List.set_cons_succ]
  refine headStep (i := 4) rfl (by kernel_rfl) (fun K hK => ?_)
  go_simp
  go_at_call 36
  refine (tyNone d hN A x0 _ _ HM.out HI.out (HV.out.below (Below.drew ((Below.refl _ _).alloc (Nat.le_refl _) _)))).mono ?_
  rintro e c0w ⟨E0, m0, rfl, hS0, hl0, hb0⟩
  have HZ0 : Below (w.alloc zN).heap.size (w.alloc zN) c0w := (Below.drew (Below.refl _ _)).trans (hb0.mono (by simp))
  have HY0 : Below w.heap.size w c0w := ((Below.refl w.heap.size w).alloc (Nat.le_refl _) zN).trans (HZ0.mono (by simp))
  have hz00 : w.heap.size < c0w.heap.size := (by have := Below.size HZ0; (try simp at this); omega)
  obtain ⟨kb0, -⟩ := bblk HY0 (b := b) hblt
  obtain ⟨ka0, fa0⟩ := bblk HZ0 (b := w.heap.size) (by simp)
  unfold zN at ka0 fa0
  have HS0 := Lib.hid hS0
  have Hl0 : Hid (LiesIn (From (w.alloc zN).heap.size) E0 c0w m0) := Lib.hid (by have h := hl0; simpa using h)
  clear hS0 hl0
  have HKB0 := Lib.hid kb0
  refine hK.out _ _ ⟨fun _ => HSK.out _ HKB0.out, fun hS => ?_⟩
  have hHeld := hS (by decide)
  clear hS hK K hb0
  refine headStep2 (i := 5) (j := 10) rfl rfl (by kernel_rfl) (fun K hK => ?_) (fun K hK => ?_)
  · go_simp
    have HKBx := Lib.hid (show ∀ o, World.cell? (c0w.alloc (.cells (Nd.cells5 m0).toArray 25)) ⟨b, o, none⟩ = w.cell? ⟨b, o, none⟩ from fun o => (((Below.refl c0w.heap.size c0w).alloc (Nat.le_refl _) (.cells (Nd.cells5 m0).toArray 25)).cell (p := ⟨b, o, none⟩) (show b < _ by omega)).trans (HKB0.out o))
    refine hK.out _ _ ⟨fun _ => HSK.out _ HKBx.out, fun hS => ?_⟩
    have hHeld := hS (by decide)
    clear hS hK K
    refine headStep (i := 10) rfl (by kernel_rfl) (fun K hK => ?_)
    go_simp
    go_at_call 88
    refine (list_52 d hN A rest aoL capL _ HSM.out (HHL.out.below (HY0.alloc HY0.size (.cells (Nd.cells5 m0).toArray 25))) HKS.out).mono ?_
    rintro e c1w ⟨D1, ao3, cap3, ms, rfl, hlm, hss, hli, hb1⟩
    obtain ⟨bq, oq, rfl⟩ : ∃ bq oq, ao3 = some ⟨bq, oq, none⟩ := list_some hli (by omega)
    have HLM := Lib.hid hlm
    have HSS := Lib.hid hss
    have HLI : Hid (ListIn (From (c0w.heap.size + 1)) D1 c1w (some ⟨bq, oq, none⟩) ms) := Lib.hid (by have h := hli; simpa using h)
    clear hlm hss hli
    have HB1 : Below (c0w.alloc (.cells (Nd.cells5 m0).toArray 25)).heap.size (c0w.alloc (.cells (Nd.cells5 m0).toArray 25)) c1w := hb1
    have HZ1 : Below c0w.heap.size c0w c1w := ((Below.refl c0w.heap.size c0w).alloc (Nat.le_refl _) (.cells (Nd.cells5 m0).toArray 25)).trans (HB1.mono (by simp))
    have hz11 : c0w.heap.size ≤ c1w.heap.size := HZ1.size
    have hz13 : w.heap.size < c1w.heap.size := by omega
    have hz14 : ¬ w.heap.size = c1w.heap.size := by omega
    have HBK : Hid (c1w.heap[c0w.heap.size]? = some (.cells (Nd.cells5 m0).toArray 25 (0, 0))) := Lib.hid (by rw [HB1.block c0w.heap.size (by simp)]; exact heap_alloc_new c0w _)
    have hz12 : c0w.heap.size < c1w.heap.size := by have := HB1.size; simp at this; omega
    obtain ⟨kb1, -⟩ := bblk HZ1 (b := b) (by omega)
    obtain ⟨ka1, fa1⟩ := bblk HZ1 (b := w.heap.size) (by omega)
    have HKB1 := Lib.hid (show ∀ o, World.cell? c1w ⟨b, o, none⟩ = w.cell? ⟨b, o, none⟩ from fun o => (kb1 o).trans (HKB0.out o))
    refine hK.out _ _ ⟨fun _ => HSK.out _ HKB1.out, fun hS => ?_⟩
    have hHeld := hS (by decide)
    clear hS hK K hb1
    refine headStep (i := 11) rfl (by kernel_rfl) (fun K hK => ?_)
    refine step_append_lies _ rfl _ _ 23 rfl (w.heap.size + 1) 25 i0 _ 5 72 undNodes hi hz0 hz1 hz2 rfl (by decide) (.slice (some ⟨c0w.heap.size, 0, none⟩) 1 1) 1 (Nd.cells5 m0) rfl (one_row (B := w.heap.size + 1) HBK.out (by omega)) ⟨bq, oq, none⟩ rest.length cap3 (ms.flatMap Nd.cells5) rfl (by rw [cells5_len, HLM.out]) (list_news HLI.out) (cells5_one ms) (by omega) (by have := HSM.out; unfold maxLen; omega) (by have := HSM.out; omega) (by first | omega | (simp; omega)) _ rfl ?_
    intro g cap2 w2 hown' hgrow hat hglt
    have HKB2 := Lib.hid (show ∀ o, World.cell? w2 ⟨b, o, none⟩ = w.cell? ⟨b, o, none⟩ from fun o => (hgrow.cell_far ⟨b, o, none⟩ (by first | (show b < _; omega) | (simp; omega)) (by simp [Value.ownBlock]; omega)).trans (HKB1.out o))
    have kg := fun o => hgrow.cell_far ⟨w.heap.size, o, none⟩ (by first | (show w.heap.size < _; omega) | (simp; omega)) (by simp [Value.ownBlock]; omega)
    have fg := fun o => hgrow.frozen_far ⟨w.heap.size, o, none⟩ (by first | (show w.heap.size < _; omega) | (simp; omega)) (by simp [Value.ownBlock]; omega)
    have HOWN := Lib.hid hown'
    have HGR := Lib.hid hgrow
    clear hown' hgrow hat hglt
    refine hK.out _ _ ⟨fun _ => HSK.out _ HKB2.out, fun hS => ?_⟩
    have hHeld := hS (by decide)
    clear hS hK K
    refine headStep (i := 12) rfl (by kernel_rfl) (fun K hK => ?_)
    go_simp
    refine hK.out _ _ ⟨fun _ => HSK.out _ HKB2.out, fun hS => ?_⟩
    clear hS hK K
    refine headStep (i := 13) rfl (by kernel_rfl) (fun K hK => ?_)
    go_simp
    refine hK.out _ _ ⟨fun h => absurd h (by decide), fun _ => ?_⟩
    clear hK K
    refine headDone (by kernel_rfl) ?_ _
    go_wp2_with fail
    exact bodyPost_ret (v := .agg #[.int .i64 51, .string ⟨#[]⟩, .string ⟨#[]⟩, .int .u64 0, .slice (some ⟨g, 0, none⟩) (1 + rest.length) cap2]) (by simp [results, Tryz.f50, go_sem, kg, ka1, ka0, hz13, hz14, hz00]) rfl (NodePost.stored _ _ _ _ _ (call_row1 (w0 := w.alloc zN) HWF.out HLM.out HZ0 HZ1 HS0.out Hl0.out HSS.out HLI.out (by have h := HOWN.out; simpa using h) (by omega) HGR.out))
  · go_simp
    go_at_call 88
    refine (list_52 d hN A rest aoL capL _ HSM.out (HHL.out.below HY0) HKS.out).mono ?_
    rintro e c1w ⟨D1, ao3, cap3, ms, rfl, hlm, hss, hli, hb1⟩
    obtain ⟨bq, oq, rfl⟩ : ∃ bq oq, ao3 = some ⟨bq, oq, none⟩ := list_some hli (by omega)
    have HLM := Lib.hid hlm
    have HSS := Lib.hid hss
    have HLI : Hid (ListIn (From (c0w.heap.size)) D1 c1w (some ⟨bq, oq, none⟩) ms) := Lib.hid (by have h := hli; simpa using h)
    clear hlm hss hli
    have HB1 : Below c0w.heap.size c0w c1w := hb1
    have HZ1 : Below c0w.heap.size c0w c1w := HB1
    have hz11 : c0w.heap.size ≤ c1w.heap.size := HZ1.size
    have hz13 : w.heap.size < c1w.heap.size := by omega
    have hz14 : ¬ w.heap.size = c1w.heap.size := by omega
    obtain ⟨kb1, -⟩ := bblk HZ1 (b := b) (by omega)
    obtain ⟨ka1, fa1⟩ := bblk HZ1 (b := w.heap.size) (by omega)
    have HKB1 := Lib.hid (show ∀ o, World.cell? c1w ⟨b, o, none⟩ = w.cell? ⟨b, o, none⟩ from fun o => (kb1 o).trans (HKB0.out o))
    refine hK.out _ _ ⟨fun _ => HSK.out _ HKB1.out, fun hS => ?_⟩
    have hHeld := hS (by decide)
    clear hS hK K hb1
    refine headStep (i := 5) rfl (by kernel_rfl) (fun K hK => ?_)
    go_simp
    have HKBx := Lib.hid (show ∀ o, World.cell? (c1w.alloc (.cells (Nd.cells5 m0).toArray 25)) ⟨b, o, none⟩ = w.cell? ⟨b, o, none⟩ from fun o => (((Below.refl c1w.heap.size c1w).alloc (Nat.le_refl _) (.cells (Nd.cells5 m0).toArray 25)).cell (p := ⟨b, o, none⟩) (show b < _ by omega)).trans (HKB1.out o))
    refine hK.out _ _ ⟨fun _ => HSK.out _ HKBx.out, fun hS => ?_⟩
    have hHeld := hS (by decide)
    clear hS hK K
    refine headStep (i := 11) rfl (by kernel_rfl) (fun K hK => ?_)
    refine step_append_lies _ rfl _ _ 23 rfl (w.heap.size + 1) 25 i0 _ 5 72 undNodes hi hz0 hz1 hz2 rfl (by decide) (.slice (some ⟨c1w.heap.size, 0, none⟩) 1 1) 1 (Nd.cells5 m0) rfl (one_row (B := w.heap.size + 1) (m := m0) (heap_alloc_new c1w (.cells (Nd.cells5 m0).toArray 25)) (by omega)) ⟨bq, oq, none⟩ rest.length cap3 (ms.flatMap Nd.cells5) rfl (by rw [cells5_len, HLM.out]) (list_news (HLI.out.carry (Carries.of_below ((Below.refl c1w.heap.size c1w).alloc (Nat.le_refl _) (.cells (Nd.cells5 m0).toArray 25))))) (cells5_one ms) (by omega) (by have := HSM.out; unfold maxLen; omega) (by have := HSM.out; omega) (by first | omega | (simp; omega)) _ rfl ?_
    intro g cap2 w2 hown' hgrow hat hglt
    have HKB2 := Lib.hid (show ∀ o, World.cell? w2 ⟨b, o, none⟩ = w.cell? ⟨b, o, none⟩ from fun o => (hgrow.cell_far ⟨b, o, none⟩ (by first | (show b < _; omega) | (simp; omega)) (by simp [Value.ownBlock]; omega)).trans (HKBx.out o))
    have kg := fun o => hgrow.cell_far ⟨w.heap.size, o, none⟩ (by first | (show w.heap.size < _; omega) | (simp; omega)) (by simp [Value.ownBlock]; omega)
    have fg := fun o => hgrow.frozen_far ⟨w.heap.size, o, none⟩ (by first | (show w.heap.size < _; omega) | (simp; omega)) (by simp [Value.ownBlock]; omega)
    have HOWN := Lib.hid hown'
    have HGR := Lib.hid hgrow
    clear hown' hgrow hat hglt
    refine hK.out _ _ ⟨fun _ => HSK.out _ HKB2.out, fun hS => ?_⟩
    have hHeld := hS (by decide)
    clear hS hK K
    refine headStep (i := 12) rfl (by kernel_rfl) (fun K hK => ?_)
    go_simp
    refine hK.out _ _ ⟨fun _ => HSK.out _ HKB2.out, fun hS => ?_⟩
    clear hS hK K
    refine headStep (i := 13) rfl (by kernel_rfl) (fun K hK => ?_)
    go_simp
    refine hK.out _ _ ⟨fun h => absurd h (by decide), fun _ => ?_⟩
    clear hK K
    refine headDone (by kernel_rfl) ?_ _
    go_wp2_with fail
    exact bodyPost_ret (v := .agg #[.int .i64 51, .string ⟨#[]⟩, .string ⟨#[]⟩, .int .u64 0, .slice (some ⟨g, 0, none⟩) (1 + rest.length) cap2]) (by simp [results, Tryz.f50, go_sem, kg, ka1, ka0, hz13, hz14, hz00]) rfl (NodePost.stored _ _ _ _ _ (call_row (w0 := w.alloc zN) HWF.out HLM.out HZ0 HZ1 HS0.out Hl0.out HSS.out HLI.out (by have h := HOWN.out; simpa using h) (by omega) HGR.out))

set_option maxRecDepth 100000 in
set_option maxHeartbeats 2000000 in
theorem tn_51_one (d : Nat) (hN : NodeTC d) (A : Nat → Prop) (n x0 : Nd) (b : Nat) (b0 : Nat) (aoL : Option Addr) (capL : Nat) (w : World) (ht : n.text = ⟨#[]⟩) (hm : n.more = ⟨#[]⟩) (hu : n.num = 0) (hwf : n.wf) (hk : n.kind = 51) (hkx : n.kids = x0 :: [])
    (hb : w.heap[b]? = some (.cells #[.pointer none, .slice none 0 0, .slice none 0 0, .slice aoL 0 capL, .iface (tTy x0.kind) (.pointer (some ⟨b0, 0, none⟩))] 62 (0, 0))) (hM : TyP d x0) (hI : isTyP x0.kind) (hV : TyV (RepT A d) w x0 (.iface (tTy x0.kind) (.pointer (some ⟨b0, 0, none⟩)))) :
    Calls Tryz.prog 50 #[.iface 59 (.pointer (some ⟨b, 0, none⟩))] w (NodePost n w) := by
  obtain ⟨k, t, m, u, ao, cap, kids⟩ := n
  obtain rfl : k = 51 := hk
  obtain rfl : t = ⟨#[]⟩ := ht
  obtain rfl : m = ⟨#[]⟩ := hm
  obtain rfl : u = 0 := hu
  obtain rfl : kids = x0 :: [] := hkx
  have HWF := Lib.hid hwf
  have HM := Lib.hid hM
  have HV := Lib.hid hV
  have HI := Lib.hid hI
  have c3 : w.cell? ⟨b, 3, none⟩ = some (.slice aoL 0 capL) := by rw [Lib.cell_of_heap hb]; rfl
  have c4 : w.cell? ⟨b, 4, none⟩ = some (.iface (tTy x0.kind) (.pointer (some ⟨b0, 0, none⟩))) := by rw [Lib.cell_of_heap hb]; rfl
  have hblt : b < w.heap.size := World.block_lt_of_cell? _ _ c3
  have hbne : ¬ b = w.heap.size := by omega
  have hbne2 : ¬ w.heap.size = b := by omega
  obtain ⟨i0, hi, hz0, hz1, hz2⟩ := info_parts infoNode
  clear hb hwf hM hV hI
  have q44 := no_44 59 (by decide)
  have q45 := no_45 59 (by decide)
  have q46 := no_46 59 (by decide)
  have q47 := no_47 59 (by decide)
  have q48 := no_48 59 (by decide)
  have q49 := no_49 59 (by decide)
  have q50 := no_50 59 (by decide)
  have q51 := yes_51
  go_enter Tryz.func50, Tryz.ntmps50
  go_wp2_with fail
  have hS0 : ((w.alloc zN).cell? ⟨b, 4, none⟩ = some (.iface (tTy x0.kind) (.pointer (some ⟨b0, 0, none⟩))) ∧ (w.alloc zN).cell? ⟨b, 3, none⟩ = some (.slice aoL 0 capL)) := ⟨by rw [((Below.refl w.heap.size w).alloc (Nat.le_refl _) zN).cell (p := ⟨b, 4, none⟩) hblt]; exact c4, by rw [((Below.refl w.heap.size w).alloc (Nat.le_refl _) zN).cell (p := ⟨b, 3, none⟩) hblt]; exact c3⟩
  have HSK := Lib.hid (show ∀ W' : World, (∀ o, W'.cell? ⟨b, o, none⟩ = w.cell? ⟨b, o, none⟩) → (W'.cell? ⟨b, 4, none⟩ = some (.iface (tTy x0.kind) (.pointer (some ⟨b0, 0, none⟩))) ∧ W'.cell? ⟨b, 3, none⟩ = some (.slice aoL 0 capL)) from fun W' h => ⟨(h _).trans c4, (h _).trans c3⟩)
  refine headBegin (S := fun w' => (w'.cell? ⟨b, 4, none⟩ = some (.iface (tTy x0.kind) (.pointer (some ⟨b0, 0, none⟩))) ∧ w'.cell? ⟨b, 3, none⟩ = some (.slice aoL 0 capL))) 13 (by kernel_rfl) hS0 (fun hHeld => ?_)
  clear hS0
  refine headTake (i := 0) (v := ?_) rfl (by kernel_rfl) (by kernel_rfl) (by kernel_rfl) (by kernel_rfl) (fun _ _ _ h => h) (Or.inl ⟨by rfl, ?_⟩) hHeld ?_
  rotate_left 1
  · intro w hSw
    go_split_ands
    go_simp
    try with_reducible rfl
  simp only [List.getElem_toArray, List.getElem_cons_zero, List.getElem_cons_succ, Act.put, List.setIfInBounds_toArray, List.set_cons_zero, List.set_cons_succ]
  refine headTake (i := 1) (v := ?_) rfl (by kernel_rfl) (by kernel_rfl) (by kernel_rfl) (by kernel_rfl) (fun _ _ _ h => h) (Or.inl ⟨by rfl, ?_⟩) hHeld ?_
  rotate_left 1
  · intro w hSw
    go_split_ands
    go_simp
    try with_reducible rfl
  simp only [List.getElem_toArray, List.getElem_cons_zero, List.getElem_cons_succ, Act.put, List.setIfInBounds_toArray, List.set_cons_zero, List.set_cons_succ]
  refine headTake (i := 2) (v := ?_) rfl (by kernel_rfl) (by kernel_rfl) (by kernel_rfl) (by kernel_rfl) (fun _ _ _ h => h) (Or.inl ⟨by rfl, ?_⟩) hHeld ?_
  rotate_left 1
  · intro w hSw
    go_split_ands
    go_simp
    try with_reducible rfl
  simp only [List.getElem_toArray, List.getElem_cons_zero, List.getElem_cons_succ, Act.put, List.setIfInBounds_toArray, List.set_cons_zero, List.set_cons_succ]
  refine headTake (i := 3) (v := ?_) rfl (by kernel_rfl) (by kernel_rfl) (by kernel_rfl) (by kernel_rfl) (fun _ _ _ h => h) (Or.inl ⟨by rfl, ?_⟩) hHeld ?_
  rotate_left 1
  · intro w hSw
    go_split_ands
    go_simp
    try with_reducible rfl
  simp only [List.getElem_toArray, List.getElem_cons_zero, List.getElem_cons_succ, Act.put, List.setIfInBounds_toArray, List.set_cons_zero, List.set_cons_succ]
  refine headTake (i := 6) (v := ?_) rfl (by kernel_rfl) (by kernel_rfl) (by kernel_rfl) (by kernel_rfl) (fun _ _ _ h => h) (Or.inl ⟨by rfl, ?_⟩) hHeld ?_
  rotate_left 1
  · intro w hSw
    go_split_ands
    go_simp
    try with_reducible rfl
  simp only [List.getElem_toArray, List.getElem_cons_zero, List.getElem_cons_succ, Act.put, List.setIfInBounds_toArray, List.set_cons_zero, List.set_cons_succ]
  refine headTake (i := 7) (v := ?_) rfl (by kernel_rfl) (by kernel_rfl) (by kernel_rfl) (by kernel_rfl) (fun _ _ _ h => h) (Or.inl ⟨by rfl, ?_⟩) hHeld ?_
  rotate_left 1
  · intro w hSw
    go_split_ands
    go_simp
    try with_reducible rfl
  simp only [List.getElem_toArray, List.getElem_cons_zero, List.getElem_cons_succ, Act.put, List.setIfInBounds_toArray, List.set_cons_zero, List.set_cons_succ]
  refine headTake (i := 8) (v := ?_) rfl (by kernel_rfl) (by kernel_rfl) (by kernel_rfl) (by kernel_rfl) (fun _ _ _ h => h) (Or.inl ⟨by rfl, ?_⟩) hHeld ?_
  rotate_left 1
  · intro w hSw
    go_split_ands
    go_simp
    try with_reducible rfl
  simp only [List.getElem_toArray, List.getElem_cons_zero, List.getElem_cons_succ, Act.put, List.setIfInBounds_toArray, List.set_cons_zero, List.set_cons_succ]
  refine headTake (i := 9) (v := ?_) rfl (by kernel_rfl) (by kernel_rfl) (by kernel_rfl) (by kernel_rfl) (fun _ _ _ h => h) (Or.inl ⟨by rfl, ?_⟩) hHeld ?_
  rotate_left 1
  · intro w hSw
    go_split_ands
    go_simp
    try with_reducible rfl
  simp only [List.getElem_toArray, List.getElem_cons_zero, List.getElem_cons_succ, Act.put, List.setIfInBounds_toArray, List.set_cons_zero, List.set_cons_succ]
  refine headStep (i := 4) rfl (by kernel_rfl) (fun K hK => ?_)
  go_simp
  go_at_call 36
  refine (tyNone d hN A x0 _ _ HM.out HI.out (HV.out.below (Below.drew ((Below.refl _ _).alloc (Nat.le_refl _) _)))).mono ?_
  rintro e c0w ⟨E0, m0, rfl, hS0, hl0, hb0⟩
  have HZ0 : Below (w.alloc zN).heap.size (w.alloc zN) c0w := (Below.drew (Below.refl _ _)).trans (hb0.mono (by simp))
  have HY0 : Below w.heap.size w c0w := ((Below.refl w.heap.size w).alloc (Nat.le_refl _) zN).trans (HZ0.mono (by simp))
  have hz00 : w.heap.size < c0w.heap.size := (by have := Below.size HZ0; (try simp at this); omega)
  obtain ⟨kb0, -⟩ := bblk HY0 (b := b) hblt
  obtain ⟨ka0, fa0⟩ := bblk HZ0 (b := w.heap.size) (by simp)
  unfold zN at ka0 fa0
  have HS0 := Lib.hid hS0
  have Hl0 : Hid (LiesIn (From (w.alloc zN).heap.size) E0 c0w m0) := Lib.hid (by have h := hl0; simpa using h)
  clear hS0 hl0
  have HKB0 := Lib.hid kb0
  refine hK.out _ _ ⟨fun _ => HSK.out _ HKB0.out, fun hS => ?_⟩
  have hHeld := hS (by decide)
  clear hS hK K hb0
  refine headStep2 (i := 5) (j := 10) rfl rfl (by kernel_rfl) (fun K hK => ?_) (fun K hK => ?_)
  · go_simp
    have HKBx := Lib.hid (show ∀ o, World.cell? (c0w.alloc (.cells (Nd.cells5 m0).toArray 25)) ⟨b, o, none⟩ = w.cell? ⟨b, o, none⟩ from fun o => (((Below.refl c0w.heap.size c0w).alloc (Nat.le_refl _) (.cells (Nd.cells5 m0).toArray 25)).cell (p := ⟨b, o, none⟩) (show b < _ by omega)).trans (HKB0.out o))
    refine hK.out _ _ ⟨fun _ => HSK.out _ HKBx.out, fun hS => ?_⟩
    have hHeld := hS (by decide)
    clear hS hK K
    refine headStep (i := 10) rfl (by kernel_rfl) (fun K hK => ?_)
    go_simp
    go_at_call 88
    refine (list_52_nil aoL capL _).mono ?_
    rintro e c1w ⟨rfl, hb1⟩
    have HB1 : Below (c0w.alloc (.cells (Nd.cells5 m0).toArray 25)).heap.size (c0w.alloc (.cells (Nd.cells5 m0).toArray 25)) c1w := hb1
    have HZ1 : Below c0w.heap.size c0w c1w := ((Below.refl c0w.heap.size c0w).alloc (Nat.le_refl _) (.cells (Nd.cells5 m0).toArray 25)).trans (HB1.mono (by simp))
    have hz11 : c0w.heap.size ≤ c1w.heap.size := HZ1.size
    have hz13 : w.heap.size < c1w.heap.size := by omega
    have hz14 : ¬ w.heap.size = c1w.heap.size := by omega
    have HBK : Hid (c1w.heap[c0w.heap.size]? = some (.cells (Nd.cells5 m0).toArray 25 (0, 0))) := Lib.hid (by rw [HB1.block c0w.heap.size (by simp)]; exact heap_alloc_new c0w _)
    have hz12 : c0w.heap.size < c1w.heap.size := by have := HB1.size; simp at this; omega
    obtain ⟨kb1, -⟩ := bblk HZ1 (b := b) (by omega)
    obtain ⟨ka1, fa1⟩ := bblk HZ1 (b := w.heap.size) (by omega)
    have HKB1 := Lib.hid (show ∀ o, World.cell? c1w ⟨b, o, none⟩ = w.cell? ⟨b, o, none⟩ from fun o => (kb1 o).trans (HKB0.out o))
    refine hK.out _ _ ⟨fun _ => HSK.out _ HKB1.out, fun hS => ?_⟩
    have hHeld := hS (by decide)
    clear hS hK K hb1
    refine headStep (i := 11) rfl (by kernel_rfl) (fun K hK => ?_)
    refine step_append_nil rfl _ _ 23 rfl rfl rfl (app_nil c0w.heap.size _) ?_
    refine hK.out _ _ ⟨fun _ => HSK.out _ HKB1.out, fun hS => ?_⟩
    have hHeld := hS (by decide)
    clear hS hK K
    refine headStep (i := 12) rfl (by kernel_rfl) (fun K hK => ?_)
    go_simp
    refine hK.out _ _ ⟨fun _ => HSK.out _ HKB1.out, fun hS => ?_⟩
    clear hS hK K
    refine headStep (i := 13) rfl (by kernel_rfl) (fun K hK => ?_)
    go_simp
    refine hK.out _ _ ⟨fun h => absurd h (by decide), fun _ => ?_⟩
    clear hK K
    refine headDone (by kernel_rfl) ?_ _
    have HZ2 : Below (w.alloc zN).heap.size (w.alloc zN) c1w := HZ0.trans (HZ1.mono HZ0.size)
    go_wp2_with fail
    exact bodyPost_ret (v := .agg #[.int .i64 51, .string ⟨#[]⟩, .string ⟨#[]⟩, .int .u64 0, .slice (some ⟨c0w.heap.size, 0, none⟩) 1 1]) (by simp [results, Tryz.f50, go_sem, ka1, ka0, hz13, hz14, hz00]) rfl (NodePost.stored _ _ _ _ _ (back_row (w0 := w.alloc zN) (ms := [m0]) rfl HWF.out HZ2 (by have h := one_row (B := (w.alloc zN).heap.size) HBK.out (by simp; omega); simpa using h) rfl (fun i x y hx hy => by match i with | 0 => (simp at hx hy; subst hx hy; exact ⟨_, HS0.out, (Hl0.out).below HZ1⟩) | _ + 1 => simp at hx)))
  · go_simp
    go_at_call 88
    refine (list_52_nil aoL capL _).mono ?_
    rintro e c1w ⟨rfl, hb1⟩
    have HB1 : Below c0w.heap.size c0w c1w := hb1
    have HZ1 : Below c0w.heap.size c0w c1w := HB1
    have hz11 : c0w.heap.size ≤ c1w.heap.size := HZ1.size
    have hz13 : w.heap.size < c1w.heap.size := by omega
    have hz14 : ¬ w.heap.size = c1w.heap.size := by omega
    obtain ⟨kb1, -⟩ := bblk HZ1 (b := b) (by omega)
    obtain ⟨ka1, fa1⟩ := bblk HZ1 (b := w.heap.size) (by omega)
    have HKB1 := Lib.hid (show ∀ o, World.cell? c1w ⟨b, o, none⟩ = w.cell? ⟨b, o, none⟩ from fun o => (kb1 o).trans (HKB0.out o))
    refine hK.out _ _ ⟨fun _ => HSK.out _ HKB1.out, fun hS => ?_⟩
    have hHeld := hS (by decide)
    clear hS hK K hb1
    refine headStep (i := 5) rfl (by kernel_rfl) (fun K hK => ?_)
    go_simp
    have HKBx := Lib.hid (show ∀ o, World.cell? (c1w.alloc (.cells (Nd.cells5 m0).toArray 25)) ⟨b, o, none⟩ = w.cell? ⟨b, o, none⟩ from fun o => (((Below.refl c1w.heap.size c1w).alloc (Nat.le_refl _) (.cells (Nd.cells5 m0).toArray 25)).cell (p := ⟨b, o, none⟩) (show b < _ by omega)).trans (HKB1.out o))
    refine hK.out _ _ ⟨fun _ => HSK.out _ HKBx.out, fun hS => ?_⟩
    have hHeld := hS (by decide)
    clear hS hK K
    refine headStep (i := 11) rfl (by kernel_rfl) (fun K hK => ?_)
    refine step_append_nil rfl _ _ 23 rfl rfl rfl (app_nil c1w.heap.size _) ?_
    refine hK.out _ _ ⟨fun _ => HSK.out _ HKBx.out, fun hS => ?_⟩
    have hHeld := hS (by decide)
    clear hS hK K
    refine headStep (i := 12) rfl (by kernel_rfl) (fun K hK => ?_)
    go_simp
    refine hK.out _ _ ⟨fun _ => HSK.out _ HKBx.out, fun hS => ?_⟩
    clear hS hK K
    refine headStep (i := 13) rfl (by kernel_rfl) (fun K hK => ?_)
    go_simp
    refine hK.out _ _ ⟨fun h => absurd h (by decide), fun _ => ?_⟩
    clear hK K
    refine headDone (by kernel_rfl) ?_ _
    have HZ2 : Below (w.alloc zN).heap.size (w.alloc zN) c1w := HZ0.trans (HZ1.mono HZ0.size)
    go_wp2_with fail
    first | exact bodyPost_ret (v := .agg #[.int .i64 51, .string ⟨#[]⟩, .string ⟨#[]⟩, .int .u64 0, .slice (some ⟨c1w.heap.size, 0, none⟩) 1 1]) (by simp [results, Tryz.f50, go_sem, ka1, ka0, hz13, hz14, hz00]) rfl (NodePost.stored2 _ _ _ _ _ HZ2 (back_fin [m0] rfl HWF.out HZ2 rfl (fun i x y hx hy => by match i with | 0 => (simp at hx hy; subst hx hy; exact ⟨_, HS0.out, (Hl0.out).below HZ1⟩) | _ + 1 => simp at hx))) | exact bodyPost_ret (v := .agg #[.int .i64 51, .string ⟨#[]⟩, .string ⟨#[]⟩, .int .u64 0, .slice (some ⟨c1w.heap.size, 0, none⟩) 1 1]) (by simp [results, Tryz.f50, go_sem, ka1, ka0, hz13, hz14, hz00]) rfl (NodePost.stored _ _ _ _ _ (back_fin [m0] rfl HWF.out HZ2 rfl (fun i x y hx hy => by match i with | 0 => (simp at hx hy; subst hx hy; exact ⟨_, HS0.out, (Hl0.out).below HZ1⟩) | _ + 1 => simp at hx)))

end Go.Proofs.YtcbcdgifakcooaaGreatDoor
