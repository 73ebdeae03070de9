/-
  The formatter of package ast at this seat's numbers: writeString, get, and 'written' at the seat's closures, over a builder that the call has made itself.
-/
import Derived.Test.YteecbmhkfnlecaaGreatDoorRows
import Derived.Test.YteecbmhkfnlecaaGreatDoorShelf
import Derived.Test.YteecbmhkfnlecaaGreatDoorBu
import Derived.WalkKit
import Derived.Lib.Hide
namespace Go.Proofs.YteecbmhkfnlecaaGreatDoor
open Go.RowKit
set_option linter.unusedVariables false

theorem fmtWrite (B b f : Nat) (bs : List Value) (s : ByteArray) (w : World) (hc : w.cell? ⟨f, 0, none⟩ = some (.pointer (some ⟨b, 0, none⟩))) (h : Lib.IsBuilderF 70 5 B b bs w) (hlen : bs.length + s.size ≤ 140737488355328) (hBw : B ≤ w.heap.size) :
    Calls Tryz.prog 41 #[.pointer (some ⟨f, 0, none⟩), .string s] w fun e w' => e = .returned (.tuple #[]) ∧ (Lib.BuilderAtF 70 5 B b (.pointer (some ⟨b, 0, none⟩)) (bs ++ Lib.strCells s) w' ∧ Below B w w' ∧ Lib.OthersKept 5 (some b) w w') := by
  go_enter Tryz.func41, Tryz.ntmps41
  go_wp2_with fail
  refine (writeString_k B b bs s _ h hlen hBw).mono ?_
  rintro e w' ⟨rfl, h1⟩
  go_wp2_with fail
  go_end0
  exact ⟨rfl, h1⟩

theorem fmtGet (B b f : Nat) (l : List UInt8) (w : World) (hc : w.cell? ⟨f, 0, none⟩ = some (.pointer (some ⟨b, 0, none⟩))) (h : Lib.IsBuilderF 70 5 B b (Lib.byteCells l) w) (hBw : B ≤ w.heap.size) :
    Calls Tryz.prog 40 #[.pointer (some ⟨f, 0, none⟩)] w fun e w' => e = .returned (.string ⟨l.toArray⟩) ∧ Below B w w' := by
  go_enter Tryz.func40, Tryz.ntmps40
  go_wp2_with fail
  refine (Tryz.Builder_String_any_k B b l _ h hBw).mono ?_
  rintro e w' ⟨rfl, -, h1, -⟩
  go_wp2_with fail
  go_ret
  exact ⟨rfl, h1⟩

/-- What a closure that writes does: it leaves the bytes l in the builder, and all else as it was. -/
def Writes (g : FuncId) (c : Addr) (l : List UInt8) (w : World) : Prop :=
  ∀ (W : World) (b f : Nat), Below w.heap.size w W → w.heap.size ≤ b → b < W.heap.size → f < W.heap.size → W.cell? ⟨f, 0, none⟩ = some (.pointer (some ⟨b, 0, none⟩)) → Lib.IsBuilderF 70 5 b b [] W →
    Calls Tryz.prog g #[.pointer (some ⟨f, 0, none⟩), .pointer (some c)] W fun e W' => e = .returned (.tuple #[]) ∧ Lib.IsBuilderF 70 5 b b (Lib.byteCells l) W' ∧ Below b W W' ∧ Lib.OthersKept 5 (some b) W W'

theorem written_of (c : Addr) (l : List UInt8) (w : World) (hcl : Writes 20 c l w) :
    Calls Tryz.prog 19 #[.func (.func 20) #[] #[.pointer (some c)]] w fun e w' => e = .returned (.string ⟨l.toArray⟩) ∧ Below w.heap.size w w' := by
  have hcl' := hcl ((w.alloc (.cells #[.pointer none, .slice none 0 0] 70)).alloc (.cells #[.pointer (some ⟨w.heap.size, 0, none⟩), .int .i64 0] 72)) w.heap.size (w.heap.size + 1)
    (((Below.refl _ _).alloc (Nat.le_refl _) _).alloc (by simp) _) (Nat.le_refl _) (by simp; omega) (by simp) (by simp [go_sem]) ((Lib.IsBuilderF.of (Lib.fresh_isBuilder 70 5 w)).alloc _)
  have hk : ∀ o : Nat, ((w.alloc (.cells #[.pointer none, .slice none 0 0] 70)).alloc (.cells #[.pointer (some ⟨w.heap.size, 0, none⟩), .int .i64 0] 72)).heap[w.heap.size + 1]? = some (.cells #[.pointer (some ⟨w.heap.size, 0, none⟩), .int .i64 0] 72 (0, 0)) := fun _ => by
    have h0 := (MapKept.heap_alloc (w.alloc (.cells #[.pointer none, .slice none 0 0] 70)) (.cells #[.pointer (some ⟨w.heap.size, 0, none⟩), .int .i64 0] 72)).1
    simpa using h0
  have HC := Lib.hid hcl'
  have HK := Lib.hid (hk 0)
  clear hcl hcl' hk
  go_enter Tryz.func19, Tryz.ntmps19
  go_wp2_with fail
  refine HC.out.mono ?_
  rintro e w1 ⟨rfl, h1, hb1, hk1⟩
  have hz := hb1.size
  (try simp only [World.size_alloc] at hz)
  have hkept : w1.cell? ⟨w.heap.size + 1, 0, none⟩ = some (.pointer (some ⟨w.heap.size, 0, none⟩)) := by
    rw [Lib.cell_of_heap (hk1 _ _ HK.out (by simp) (by intro c fz h; injection h with _ h2 _; exact absurd h2 (by decide)))]
    rfl
  go_wp2_with fail
  refine (fmtGet w.heap.size w.heap.size (w.heap.size + 1) l _ hkept h1 (by omega)).mono ?_
  rintro e w2 ⟨rfl, hb2⟩
  go_wp2_with fail
  go_ret
  exact ⟨rfl, ((((Below.refl _ _).alloc (Nat.le_refl _) _).alloc (by simp) _).trans hb1).trans hb2⟩

end Go.Proofs.YteecbmhkfnlecaaGreatDoor
