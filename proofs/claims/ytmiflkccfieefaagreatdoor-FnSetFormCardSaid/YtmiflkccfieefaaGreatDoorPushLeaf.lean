/-
  The encoders take a field on their stacks: three kinds of fields, two encoders.
-/
import Derived.Test.YtmiflkccfieefaaGreatDoorPrep
import Derived.Test.YtmiflkccfieefaaGreatDoorMeth
namespace Go.Proofs.YtmiflkccfieefaaGreatDoor
open Go.ChangeShapes Go.WideShapes Go.ChangeAt Go.RowKit
set_option maxRecDepth 100000
theorem info323 : (Tryz.prog.info? 323).map (fun i => (i.zero, i.size, i.bytes)) = some (some .nilIface, 1, 16) := by kernel_rfl
theorem kept_grown {B n : Nat} {S : List Nat} {a b c : World} {o : Obj} {sv : Value} {xs : List Value} (h : Kept B S a b) (hg : (b.alloc o).grownBy c sv.ownBlock) (hown : b.ownsRow B 323 1 sv n xs) : Kept B S a c := by
  refine ⟨hg.os.trans h.os, hg.tape.trans h.tape, hg.output.trans h.output, Nat.le_trans h.size (Nat.le_trans (by simp) hg.size), fun i hi hn hst => ?_⟩
  have hib : i < b.heap.size := Nat.lt_of_lt_of_le hi h.size
  have hb := h.block i hi hn hst
  refine (hg.block i (by simp; omega) ?_).trans ((Below.heap_alloc b o i hib).trans hb)
  intro e
  rcases hown.2 with ⟨rfl, _⟩ | ⟨g, cap, cur, rfl, hBg, hgg, _⟩
  · simp [Value.ownBlock] at e
  · have : i = g := by simpa [Value.ownBlock] using e
    subst this
    rcases hst with hlt | hst
    · omega
    · exact hst _ _ _ (hb ▸ hgg) (.inl rfl)
theorem l269 (a : Addr) (n : Int) (u : Value) (w : World) (hc : w.cell? a = some u) (hf : w.frozen? a = false) :
    Calls Tryz.prog 269 #[.pointer (some a), .int .i64 n] w fun e w' => e = .returned (.tuple #[]) ∧ w.setCell a (.int .i64 n) = w' := by
  go_enter Tryz.func269, Tryz.ntmps269
  go_wp2
  go_end0
  exact ⟨rfl, rfl⟩
theorem l280 (a : Addr) (n : Int) (u : Value) (w : World) (hc : w.cell? a = some u) (hf : w.frozen? a = false) :
    Calls Tryz.prog 280 #[.pointer (some a), .int .i64 n] w fun e w' => e = .returned (.tuple #[]) ∧ w.setCell a (.int .i64 n) = w' := by
  go_enter Tryz.func280, Tryz.ntmps280
  go_wp2
  go_end0
  exact ⟨rfl, rfl⟩
theorem l267 (a : Addr) (w : World) :
    Calls Tryz.prog 267 #[.pointer (some a)] w fun e w' => e = .returned (.int .i64 4) ∧ Kept w.heap.size [] w w' := by
  go_enter Tryz.func267, Tryz.ntmps267
  go_wp2
  go_ret
  exact ⟨rfl, Kept.refl _ _ _⟩
theorem l278 (a : Addr) (w : World) :
    Calls Tryz.prog 278 #[.pointer (some a)] w fun e w' => e = .returned (.int .i64 4) ∧ Kept w.heap.size [] w w' := by
  go_enter Tryz.func278, Tryz.ntmps278
  go_wp2
  go_ret
  exact ⟨rfl, Kept.refl _ _ _⟩
end Go.Proofs.YtmiflkccfieefaaGreatDoor
