/-
  Moments: seconds and nanoseconds of milliseconds.
-/
import Derived.Test.YtmiflkccfieefaaGreatDoorByt
namespace Go.Proofs.YtmiflkccfieefaaGreatDoor
open Go.ChangeShapes Go.WideShapes Go.ChangeAt Go.RowKit
set_option maxRecDepth 100000
set_option linter.unusedVariables false
set_option linter.unusedSimpArgs false

theorem t104 (s n : Int) (w : World) (hs0 : -100000000000 ≤ s) (hs1 : s ≤ 100000000000) (h0 : 0 ≤ n) (h1 : n < 1000000000) :
    Calls Tryz.prog 104 #[.int .i64 s, .int .i64 n] w fun e w' => e = .returned (.agg #[.int .i64 (s + 62135596800), .int .i64 n]) ∧ Below w.heap.size w w' := by
  have hb : Below w.heap.size w (w.alloc (.cells #[.int .i64 (s + 62135596800), .int .i64 n] 118)) := (Below.refl _ _).alloc (Nat.le_refl _) _
  have hp : Blk (w.alloc (.cells #[.int .i64 (s + 62135596800), .int .i64 n] 118)) w.heap.size 118 [.int .i64 (s + 62135596800), .int .i64 n] := Blk.new _ _ _
  have HB := Lib.hid hb
  have HP := Lib.hid hp
  clear hb hp
  have h2 : ¬ n < 0 := by omega
  have h3 : ¬ n ≥ 1000000000 := by omega
  go_enter Tryz.func104, Tryz.ntmps104
  go_wp2
  try simp only [Exit.inBlock, Exit.then]
  refine bodyPost_ret (results_cell_row rfl _ _ w.heap.size 118 #[.int .i64 (s + 62135596800), .int .i64 n] (0, 0) _ rfl HP.out Tryz.underlying118 rfl (by kernel_rfl)) rfl ?_
  exact ⟨rfl, HB.out⟩
theorem t98 (m : Int) (w : World) (h0 : 0 ≤ m) (h1 : m < 8796093022208) :
    Calls Tryz.prog 98 #[.int .i64 m] w fun e w' => e = .returned (.agg #[.int .i64 (m / 1000 + 62135596800), .int .i64 (m % 1000 * 1000000)]) ∧ Below w.heap.size w w' := by
  have hb0 : Below w.heap.size w (w.alloc (.cells #[.int .i64 0, .int .i64 0] 118)) := (Below.refl _ _).alloc (Nat.le_refl _) _
  have hp0 : Blk (w.alloc (.cells #[.int .i64 0, .int .i64 0] 118)) w.heap.size 118 [.int .i64 0, .int .i64 0] := Blk.new _ _ _
  have HB := Lib.hid (And.intro hb0 hp0)
  clear hb0 hp0
  go_enter Tryz.func98, Tryz.ntmps98
  go_wp2_with (go_at_call 104; refine (t104 _ _ _ (by omega) (by omega) (by omega) (by omega)).mono ?_; rintro e w1 ⟨rfl, hb1⟩; have hp1 := HB.out.2.below hb1 (by simp); have c0 := hp1.cell 0; have c1 := hp1.cell 1; have z0 := hp1.frozen 0; have z1 := hp1.frozen 1; simp only [List.getElem?_cons_zero, List.getElem?_cons_succ] at c0 c1; have H1 := Lib.hid (And.intro hp1 hb1); clear hp1 hb1)
  go_wp2
  have hp2 : Blk ((w1.setCell ⟨w.heap.size, 0, none⟩ (.int .i64 (m / 1000 + 62135596800))).setCell ⟨w.heap.size, 1, none⟩ (.int .i64 (m % 1000 * 1000000))) w.heap.size 118 [.int .i64 (m / 1000 + 62135596800), .int .i64 (m % 1000 * 1000000)] := (H1.out.1.set_ 0 _).set_ 1 _
  have hbF : Below w.heap.size w ((w1.setCell ⟨w.heap.size, 0, none⟩ (.int .i64 (m / 1000 + 62135596800))).setCell ⟨w.heap.size, 1, none⟩ (.int .i64 (m % 1000 * 1000000))) := ((HB.out.1.trans (H1.out.2.mono (by simp))).setCell (p := ⟨w.heap.size, 0, none⟩) (Nat.le_refl _) _).setCell (p := ⟨w.heap.size, 1, none⟩) (Nat.le_refl _) _
  try simp only [Exit.inBlock, Exit.then]
  refine bodyPost_ret (results_cell_row rfl _ _ w.heap.size 118 #[.int .i64 (m / 1000 + 62135596800), .int .i64 (m % 1000 * 1000000)] (0, 0) _ rfl hp2 Tryz.underlying118 rfl (by kernel_rfl)) rfl ?_
  exact ⟨rfl, hbF⟩
/-- The moment of milliseconds: none for -1. -/
def secOf (m : Int) : Int := if m < 0 then 0 else m / 1000 + 62135596800
def nsecOf (m : Int) : Int := if m < 0 then 0 else m % 1000 * 1000000
theorem t87 (m : Int) (w : World) (h0 : -1 ≤ m) (h1 : m < 8796093022208) :
    Calls Tryz.prog 87 #[.int .i64 m] w fun e w' => e = .returned (.agg #[.int .i64 (secOf m), .int .i64 (nsecOf m)]) ∧ Below w.heap.size w w' := by
  have hb0 : Below w.heap.size w (w.alloc (.cells #[.int .i64 0, .int .i64 0] 118)) := (Below.refl _ _).alloc (Nat.le_refl _) _
  have hp0 : Blk (w.alloc (.cells #[.int .i64 0, .int .i64 0] 118)) w.heap.size 118 [.int .i64 0, .int .i64 0] := Blk.new _ _ _
  have HB := Lib.hid (And.intro hb0 hp0)
  clear hb0 hp0
  by_cases hm : m < 0
  · have e1 : secOf m = 0 := by simp [secOf, hm]
    have e2 : nsecOf m = 0 := by simp [nsecOf, hm]
    rw [e1, e2]
    clear e1 e2
    go_enter Tryz.func87, Tryz.ntmps87
    go_wp2
    try simp only [Exit.inBlock, Exit.then]
    refine bodyPost_ret (results_cell_row rfl _ _ w.heap.size 118 #[.int .i64 0, .int .i64 0] (0, 0) _ rfl HB.out.2 Tryz.underlying118 rfl (by kernel_rfl)) rfl ?_
    exact ⟨rfl, HB.out.1⟩
  · have e1 : secOf m = m / 1000 + 62135596800 := by simp [secOf, hm]
    have e2 : nsecOf m = m % 1000 * 1000000 := by simp [nsecOf, hm]
    rw [e1, e2]
    clear e1 e2
    go_enter Tryz.func87, Tryz.ntmps87
    go_wp2_with (go_at_call 98; refine (t98 m _ (by omega) (by omega)).mono ?_; rintro e w1 ⟨rfl, hb1⟩; have hp1 := HB.out.2.below hb1 (by simp); have c0 := hp1.cell 0; have c1 := hp1.cell 1; have z0 := hp1.frozen 0; have z1 := hp1.frozen 1; simp only [List.getElem?_cons_zero, List.getElem?_cons_succ] at c0 c1; have H1 := Lib.hid (And.intro hp1 hb1); clear hp1 hb1)
    go_wp2
    have hp2 : Blk ((w1.setCell ⟨w.heap.size, 0, none⟩ (.int .i64 (m / 1000 + 62135596800))).setCell ⟨w.heap.size, 1, none⟩ (.int .i64 (m % 1000 * 1000000))) w.heap.size 118 [.int .i64 (m / 1000 + 62135596800), .int .i64 (m % 1000 * 1000000)] := (H1.out.1.set_ 0 _).set_ 1 _
    have hbF : Below w.heap.size w ((w1.setCell ⟨w.heap.size, 0, none⟩ (.int .i64 (m / 1000 + 62135596800))).setCell ⟨w.heap.size, 1, none⟩ (.int .i64 (m % 1000 * 1000000))) := ((HB.out.1.trans (H1.out.2.mono (by simp))).setCell (p := ⟨w.heap.size, 0, none⟩) (Nat.le_refl _) _).setCell (p := ⟨w.heap.size, 1, none⟩) (Nat.le_refl _) _
    try simp only [Exit.inBlock, Exit.then]
    refine bodyPost_ret (results_cell_row rfl _ _ w.heap.size 118 #[.int .i64 (m / 1000 + 62135596800), .int .i64 (m % 1000 * 1000000)] (0, 0) _ rfl hp2 Tryz.underlying118 rfl (by kernel_rfl)) rfl ?_
    exact ⟨rfl, hbF⟩
end Go.Proofs.YtmiflkccfieefaaGreatDoor
