/-
  What carries a function out and recovers: where the function returns, it tells so. Bytes of their own.
-/
import Derived.Test.YtmiflkccfieefaaGreatDoorReal
namespace Go.Proofs.YtmiflkccfieefaaGreatDoor
open Go.ChangeShapes Go.WideShapes Go.ChangeAt Go.RowKit
set_option maxRecDepth 100000
set_option linter.unusedVariables false

theorem s90 (p : Addr) (u : Value) (w : World) (hc : w.cell? p = some u) (hz : w.frozen? p = false) :
    CallsD Tryz.prog 90 #[.pointer (some p)] .returning w fun e u' w' => e = .returned (.tuple #[]) ∧ u' = .returning ∧ w' = w.setCell p (.bool true) := by
  refine callsD_of_wpS Tryz.func90 rfl fun c₀ cs hu => ?_
  apply wpS_region
  simp [wpOpsS, go_sem, recoverD, hu, Tryz.ntmps90, hc, hz, bodyPostS, results, Tryz.results90]
  cases c₀
  simp_all

theorem s67 (K : Nat) (caps : Array Value) (w : World) (Q : World → Prop)
    (hf : Calls Tryz.prog K caps (w.alloc (.cells #[.bool false] 4)) fun e w' => e = .returned (.tuple #[]) ∧ Q w')
    (hQ : ∀ w', Q w' → ∃ b, w'.cell? ⟨w.heap.size, 0, none⟩ = some (.bool b) ∧ w'.frozen? ⟨w.heap.size, 0, none⟩ = false)
    (hent : ∀ W, (callFunc K caps).run Tryz.prog W = .ok (.enter K caps) W) :
    Calls Tryz.prog 67 #[.func (.func K) #[] caps] w fun e w' => e = .returned (.bool true) ∧ ∃ w1, Q w1 ∧ (w1.setCell ⟨w.heap.size, 0, none⟩ (.bool true)).setCell ⟨w.heap.size, 0, none⟩ (.bool true) = w' := by
  have hmf : ∀ (fn : Fn) (first cap : Array Value) (w : World), (Instr.makeFunc fn first cap).run Tryz.prog w = .ok (.func fn first cap) w := fun _ _ _ _ => rfl
  have HF := Lib.hid hf
  have HQ := Lib.hid hQ
  clear hf hQ
  go_enter_defers Tryz.func67, Tryz.ntmps67
  go_wp2_with fail
  refine HF.out.mono ?_
  rintro e w1 ⟨rfl, hq⟩
  obtain ⟨b, hb, hz⟩ := HQ.out w1 hq
  have Hq := Lib.hid hq
  clear hq
  go_wp2
  refine leaves_cons (f := 90) (args := #[.pointer (some ⟨w.heap.size, 0, none⟩)]) (by simp) (by simp [go_sem]) ?_
  have hcs : (w1.setCell ⟨w.heap.size, 0, none⟩ (.bool true)).cell? ⟨w.heap.size, 0, none⟩ = some (.bool true) := World.cell?_setCell_same w1 _ _ hb
  refine (s90 ⟨w.heap.size, 0, none⟩ (.bool true) _ hcs (by simpa using hz)).mono ?_
  rintro e u' w2 ⟨rfl, rfl, rfl⟩
  have hcs2 : ((w1.setCell ⟨w.heap.size, 0, none⟩ (.bool true)).setCell ⟨w.heap.size, 0, none⟩ (.bool true)).cell? ⟨w.heap.size, 0, none⟩ = some (.bool true) := World.cell?_setCell_same _ _ _ hcs
  simp [Leaves, settle, results, Tryz.results67, go_sem, hcs2]
  exact ⟨w1, Hq.out, rfl⟩
end Go.Proofs.YtmiflkccfieefaaGreatDoor
