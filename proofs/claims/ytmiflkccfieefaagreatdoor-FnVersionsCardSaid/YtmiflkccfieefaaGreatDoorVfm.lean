/-
  A number's text: strconv.FormatUint at base 10, below 1000.
-/
import Derived.Test.YtmiflkccfieefaaGreatDoorVdg
import Derived.Lib.ItoaMem
namespace Go.Proofs.YtmiflkccfieefaaGreatDoor
open Go.ChangeShapes Go.WideShapes Go.ChangeAt Go.RowKit Go.Sort Go.Lib
set_option maxRecDepth 100000
set_option linter.unusedVariables false
set_option linter.unusedSimpArgs false

abbrev Pow (w : World) : Prop := TabIs Tryz.prog w "internal/strconv.uint64pow10" .u64 pow10Tab
theorem powNamed : Tryz.prog.globalNamed "internal/strconv.uint64pow10" = some 1 := by kernel_rfl
theorem Pow.lt {w : World} (h : Pow w) : 1 < w.heap.size := by
  unfold Pow TabIs World.var? at h
  rw [powNamed] at h
  simp only [Option.bind_some] at h
  rcases Nat.lt_or_ge 1 w.heap.size with h' | h'
  · exact h'
  · rw [Array.getElem?_eq_none h'] at h; simp at h
theorem Pow.below {w w' : World} {C : Nat} (h : Pow w) (hb : Below C w w') (hC : 1 < C) : Pow w' := by
  unfold Pow TabIs World.var? at h ⊢
  rw [powNamed] at h ⊢
  simp only [Option.bind_some] at h ⊢
  rw [hb.block 1 hC]
  exact h
theorem holds_zero0 (w : World) (T : TypeId) (nd : Nat) (hs : nd ≤ 24) : Holds (fun (b : UInt8) => Value.int .u8 (b.toNat : Int)) (w.alloc (.cells zeros24 T)) w.heap.size 0 (Array.replicate nd (0 : UInt8)) := fun j hj => by
  have hj' : j < nd := by simpa using hj
  refine ⟨?_, World.frozen?_alloc_new _ _ _ _⟩
  rw [World.cell?_alloc_new, zeros24_at _ (by omega), getElem!_pos _ j hj]
  simp
theorem below_grow {w : World} {k : Nat} {os : Array Obj} : Below w.heap.size w (grow (w.drewN k) os) := by
  refine ⟨rfl, rfl, rfl, by simp [grow], fun i hi => ?_⟩
  simp [grow, Array.getElem?_append, hi]
theorem fin_pos0 (w : World) (o : Obj) (dk : Array UInt8) (k : Nat) : Below w.heap.size w ((putRow (fun (b : UInt8) => Value.int .u8 (b.toNat : Int)) (w.alloc o) w.heap.size 0 dk).drewN k) := by
  rw [alloc_eq_grow]
  obtain ⟨os', _, e⟩ := putRow_grow_new (fun (b : UInt8) => Value.int .u8 (b.toNat : Int)) w #[o] w.heap.size 0 dk (Nat.le_refl _)
  rw [e]
  exact below_grow (w := w) (k := k)
set_option maxHeartbeats 2000000 in
theorem f105 (u : Nat) (w : World) (hu : u ≤ 999) (ht : Pow w) : Calls Tryz.prog 105 #[.int .u64 u, .int .i64 10] w fun e w' => e = .returned (.string (bs (decDigits u))) ∧ Below w.heap.size w w' := by
  by_cases hs : u < 100
  · go_enter Tryz.func105, Tryz.ntmps105
    go_wp2_with (go_at_call 106; refine (Tryz.internal_strconv_small u hs _).mono ?_; rintro e w' ⟨rfl, rfl⟩)
    go_ret
    exact ⟨rfl, Below.refl _ _⟩
  · have hnd : nDigits u = 3 := nDigits_unique 2 u (by omega) (by omega)
    have hal : Tryz.prog.arrayLen 224 = 24 := by kernel_rfl
    have hsl : ∀ W, (Instr.sliceAt 224 (.pointer (some ⟨w.heap.size, 0, none⟩)) none (some (.int .i64 3)) none).run Tryz.prog W = .ok (.slice (some ⟨w.heap.size, 0, none⟩) 3 24) W := fun W => by
      rw [run_sliceAt_array_h W 224 ⟨w.heap.size, 0, none⟩ (by kernel_rfl) .i64 3 (by omega) (by rw [hal]; omega)]
      go_simp
    have hH0 := holds_zero0 w 224 3 (by omega)
    have hnum := Tryz.internal_strconv_numDigits u (by omega) (by omega) (w.alloc (.cells zeros24 224)) (tabIs_alloc ht _)
    rw [hnd] at hnum
    have hfmt := Tryz.internal_strconv_formatBase10 w.heap.size 0 24 u (Array.replicate 3 0) (w.alloc (.cells zeros24 224)) hH0 (by simp; omega) (by omega) (by simp)
    rw [Array.size_replicate] at hfmt
    have HH0 := Lib.hid hH0
    have HND := Lib.hid hnd
    clear hH0 hal hnd
    go_enter Tryz.func105, Tryz.ntmps105
    go_wp2_with (go_at_call 107; refine hnum.mono ?_; rintro e w' ⟨rfl, rfl⟩)
    go_at_call 108
    refine hfmt.mono ?_
    rintro e w' ⟨rfl, k, v', dk, rfl, hF⟩
    have hcv : (convert 23 9 (.slice (some ⟨w.heap.size, 0, none⟩) 3 24)).run Tryz.prog ((putRow (fun (b : UInt8) => Value.int .u8 (b.toNat : Int)) (w.alloc (.cells zeros24 224)) w.heap.size 0 dk).drewN k) = .ok (.string (bs (decDigits u))) ((putRow (fun (b : UInt8) => Value.int .u8 (b.toNat : Int)) (w.alloc (.cells zeros24 224)) w.heap.size 0 dk).drewN k) := by
      have hF' := hF
      have h := run_convert_bytes_back (P := Tryz.prog) ((putRow (fun (b : UInt8) => Value.int .u8 (b.toNat : Int)) (w.alloc (.cells zeros24 224)) w.heap.size 0 dk).drewN k) 23 9 5 ⟨w.heap.size, 0, none⟩ 24 (decDigits u) Tryz.underlying23 Tryz.underlying5 Tryz.underlying9 (fun j hj => by
        rw [← HND.out] at hF'
        rw [row_is_numeral hF' j hj, Lib.add_plain, World.cell?_drewN]
        exact cell?_putRow (fun (b : UInt8) => Value.int .u8 (b.toNat : Int)) _ w.heap.size 0 _ dk HH0.out (by rw [hF.size, Array.size_replicate]) j (by rw [hF.size]; rw [decDigits_length, HND.out] at hj; exact hj))
      rw [decDigits_length, HND.out] at h
      exact h
    have HF := Lib.hid (fin_pos0 w (.cells zeros24 224) dk k)
    go_wp2
    go_ret
    exact ⟨rfl, HF.out⟩
theorem f102 (u : Nat) (w : World) (hu : u ≤ 999) (ht : Pow w) : Calls Tryz.prog 102 #[.int .u64 u, .int .i64 10] w fun e w' => e = .returned (.string (bs (decDigits u))) ∧ Below w.heap.size w w' := by
  have HT := Lib.hid ht
  clear ht
  go_enter Tryz.func102, Tryz.ntmps102
  go_wp2_with (go_at_call 105; refine (f105 u _ hu HT.out).mono ?_; rintro e w' ⟨rfl, hb⟩)
  go_ret
  exact ⟨rfl, hb⟩
theorem f96 (u : Nat) (w : World) (hu : u ≤ 999) (ht : Pow w) : Calls Tryz.prog 96 #[.int .u64 u] w fun e w' => e = .returned (.string (bs (decDigits u))) ∧ Below w.heap.size w w' := by
  have HT := Lib.hid ht
  clear ht
  go_enter Tryz.func96, Tryz.ntmps96
  go_wp2_with (go_at_call 102; refine (f102 u _ hu HT.out).mono ?_; rintro e w' ⟨rfl, hb⟩)
  go_ret
  exact ⟨rfl, hb⟩
end Go.Proofs.YtmiflkccfieefaaGreatDoor
