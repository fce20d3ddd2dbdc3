/-
  The law's versions: texts (laws.version).
-/
import Derived.Test.YtmiflkccfieefaaGreatDoorVdg
namespace Go.Proofs.YtmiflkccfieefaaGreatDoor
open Go.ChangeShapes Go.WideShapes Go.ChangeAt Go.RowKit
set_option maxRecDepth 100000
set_option linter.unusedVariables false
set_option linter.unusedSimpArgs false

def vp (a b c d : Nat) : Nat → List UInt8
  | 0 => []
  | 1 => Lib.decDigits a
  | 2 => (Lib.decDigits a ++ [46]) ++ Lib.decDigits b
  | 3 => (((Lib.decDigits a ++ [46]) ++ Lib.decDigits b) ++ [46]) ++ Lib.decDigits c
  | _ => (((((Lib.decDigits a ++ [46]) ++ Lib.decDigits b) ++ [46]) ++ Lib.decDigits c) ++ [46]) ++ Lib.decDigits d
theorem vp_text (a b c d : Nat) : vp a b c d (if 0 < a then 3 else 4) = dotted (vnums a b c d) := by
  unfold vnums
  split <;> simp [vp, dotted]
theorem dot_bs : (⟨#[46]⟩ : ByteArray) = bs [46] := rfl
theorem add_dot (a : List UInt8) (h : a.length ≤ 100) (w : World) : (Op.stringOp .add (bs a) ⟨#[46]⟩).run Tryz.prog w = .ok (.string (bs (a ++ [46]))) w := add_bs a [46] (by simp; omega) w
set_option maxHeartbeats 2000000 in
theorem f42 (a b c d : Nat) (w : World) (ha : a ≤ 999) (hb : b ≤ 999) (hc : c ≤ 999) (hd : d ≤ 999) :
    Calls Tryz.prog 42 #[.agg #[.int .u16 a, .int .u16 b, .int .u16 c, .int .u16 d]] w fun e w' => e = .returned (.string (bs (dotted (vnums a b c d)))) ∧ Below w.heap.size w w' := by
  have i0 : ∀ w, (Instr.index 79 (.agg #[.int .u16 a, .int .u16 b, .int .u16 c, .int .u16 d]) (.int .i64 0)).run Tryz.prog w = .ok (.int .u16 a) w := fun _ => by kernel_rfl
  have i1 : ∀ w, (Instr.index 79 (.agg #[.int .u16 a, .int .u16 b, .int .u16 c, .int .u16 d]) (.int .i64 1)).run Tryz.prog w = .ok (.int .u16 b) w := fun _ => by kernel_rfl
  have i2 : ∀ w, (Instr.index 79 (.agg #[.int .u16 a, .int .u16 b, .int .u16 c, .int .u16 d]) (.int .i64 2)).run Tryz.prog w = .ok (.int .u16 c) w := fun _ => by kernel_rfl
  have i3 : ∀ w, (Instr.index 79 (.agg #[.int .u16 a, .int .u16 b, .int .u16 c, .int .u16 d]) (.int .i64 3)).run Tryz.prog w = .ok (.int .u16 d) w := fun _ => by kernel_rfl
  have la := dec_len ha
  have lb := dec_len hb
  have lc := dec_len hc
  have ld := dec_len hd
  have s1 : ∀ w, (Op.stringOp .add (bs []) (bs (Lib.decDigits a))).run Tryz.prog w = .ok (.string (bs (vp a b c d 1))) w := add_bs [] (Lib.decDigits a) (by simp; omega)
  have s2 := add_dot (vp a b c d 1) (by simp [vp]; omega)
  have s3 : ∀ w, (Op.stringOp .add (bs (vp a b c d 1 ++ [46])) (bs (Lib.decDigits b))).run Tryz.prog w = .ok (.string (bs (vp a b c d 2))) w := add_bs (vp a b c d 1 ++ [46]) (Lib.decDigits b) (by simp [vp]; omega)
  have s4 := add_dot (vp a b c d 2) (by simp [vp]; omega)
  have s5 : ∀ w, (Op.stringOp .add (bs (vp a b c d 2 ++ [46])) (bs (Lib.decDigits c))).run Tryz.prog w = .ok (.string (bs (vp a b c d 3))) w := add_bs (vp a b c d 2 ++ [46]) (Lib.decDigits c) (by simp [vp]; omega)
  have s6 := add_dot (vp a b c d 3) (by simp [vp]; omega)
  have s7 : ∀ w, (Op.stringOp .add (bs (vp a b c d 3 ++ [46])) (bs (Lib.decDigits d))).run Tryz.prog w = .ok (.string (bs (vp a b c d 4))) w := add_bs (vp a b c d 3 ++ [46]) (Lib.decDigits d) (by simp [vp]; omega)
  have HT := Lib.hid (vp_text a b c d)
  clear la lb lc ld
  have hb0 : Below w.heap.size w (w.alloc (.cells #[.int .u16 a, .int .u16 b, .int .u16 c, .int .u16 d] 79)) := (Below.refl _ _).alloc (Nat.le_refl _) _
  have hp0 := Blk.new w 79 [.int .u16 a, .int .u16 b, .int .u16 c, .int .u16 d]
  have H0 := Lib.hid (And.intro hb0 hp0)
  clear hb0 hp0
  by_cases h0 : 0 < a
  · have hz : decide ((0 : Int) < (a : Int)) = true := by simpa using h0
    go_enter Tryz.func42, Tryz.ntmps42
    go_wp2
    go_loopw [3, 7] (fun s i wr => Hid (Below w.heap.size w wr ∧ Blk wr w.heap.size 79 [.int .u16 a, .int .u16 b, .int .u16 c, .int .u16 d]) ∧ ((i = .int .i64 0 ∧ s = .string (bs [])) ∨ (i = .int .i64 1 ∧ s = .string (bs (vp a b c d 1))) ∨ (i = .int .i64 2 ∧ s = .string (bs (vp a b c d 2))) ∨ (i = .int .i64 3 ∧ s = .string (bs (vp a b c d 3))))) (fun _ i _ => 4 - (intOf i).toNat)
    case atStart => exact ⟨H0, .inl ⟨rfl, rfl⟩⟩
    case round =>
      obtain ⟨hB, hrel⟩ := hrel
      rcases hrel with ⟨rfl, rfl⟩ | ⟨rfl, rfl⟩ | ⟨rfl, rfl⟩ | ⟨rfl, rfl⟩
      · have cc := hB.out.2.cell 0
        simp only [List.getElem?_cons_zero] at cc
        go_wp2_with (go_at_call 73; refine (f73 a _ ha).mono ?_; rintro e w1 ⟨rfl, hb1⟩; have H1 := Lib.hid (And.intro (hB.out.1.trans (hb1.mono hB.out.1.size)) (hB.out.2.below hb1 hB.out.2.lt)); clear hb1)
        go_roundw
        case rel => exact ⟨H1, .inr (.inl ⟨rfl, rfl⟩)⟩
        case measure => simp [intOf]
      · have cc := hB.out.2.cell 0
        simp only [List.getElem?_cons_zero] at cc
        go_wp2_with (go_at_call 73; refine (f73 b _ hb).mono ?_; rintro e w1 ⟨rfl, hb1⟩; have H1 := Lib.hid (And.intro (hB.out.1.trans (hb1.mono hB.out.1.size)) (hB.out.2.below hb1 hB.out.2.lt)); clear hb1)
        go_roundw
        case rel => exact ⟨H1, .inr (.inr (.inl ⟨rfl, rfl⟩))⟩
        case measure => simp [intOf]
      · have cc := hB.out.2.cell 0
        simp only [List.getElem?_cons_zero] at cc
        go_wp2_with (go_at_call 73; refine (f73 c _ hc).mono ?_; rintro e w1 ⟨rfl, hb1⟩; have H1 := Lib.hid (And.intro (hB.out.1.trans (hb1.mono hB.out.1.size)) (hB.out.2.below hb1 hB.out.2.lt)); clear hb1)
        go_roundw
        case rel => exact ⟨H1, .inr (.inr (.inr (⟨rfl, rfl⟩)))⟩
        case measure => simp [intOf]
      · have cc := hB.out.2.cell 0
        simp only [List.getElem?_cons_zero] at cc
        go_wp2
        go_ret
        exact ⟨by show Ending.returned (Value.string (bs (vp a b c d 3))) = _; rw [← HT.out, if_pos h0], hB.out.1⟩
  · have hz : decide ((0 : Int) < (a : Int)) = false := by simpa using h0
    go_enter Tryz.func42, Tryz.ntmps42
    go_wp2
    go_loopw [3, 7] (fun s i wr => Hid (Below w.heap.size w wr ∧ Blk wr w.heap.size 79 [.int .u16 a, .int .u16 b, .int .u16 c, .int .u16 d]) ∧ ((i = .int .i64 0 ∧ s = .string (bs [])) ∨ (i = .int .i64 1 ∧ s = .string (bs (vp a b c d 1))) ∨ (i = .int .i64 2 ∧ s = .string (bs (vp a b c d 2))) ∨ (i = .int .i64 3 ∧ s = .string (bs (vp a b c d 3))) ∨ (i = .int .i64 4 ∧ s = .string (bs (vp a b c d 4))))) (fun _ i _ => 4 - (intOf i).toNat)
    case atStart => exact ⟨H0, .inl ⟨rfl, rfl⟩⟩
    case round =>
      obtain ⟨hB, hrel⟩ := hrel
      rcases hrel with ⟨rfl, rfl⟩ | ⟨rfl, rfl⟩ | ⟨rfl, rfl⟩ | ⟨rfl, rfl⟩ | ⟨rfl, rfl⟩
      · have cc := hB.out.2.cell 0
        simp only [List.getElem?_cons_zero] at cc
        go_wp2_with (go_at_call 73; refine (f73 a _ ha).mono ?_; rintro e w1 ⟨rfl, hb1⟩; have H1 := Lib.hid (And.intro (hB.out.1.trans (hb1.mono hB.out.1.size)) (hB.out.2.below hb1 hB.out.2.lt)); clear hb1)
        go_roundw
        case rel => exact ⟨H1, .inr (.inl ⟨rfl, rfl⟩)⟩
        case measure => simp [intOf]
      · have cc := hB.out.2.cell 0
        simp only [List.getElem?_cons_zero] at cc
        go_wp2_with (go_at_call 73; refine (f73 b _ hb).mono ?_; rintro e w1 ⟨rfl, hb1⟩; have H1 := Lib.hid (And.intro (hB.out.1.trans (hb1.mono hB.out.1.size)) (hB.out.2.below hb1 hB.out.2.lt)); clear hb1)
        go_roundw
        case rel => exact ⟨H1, .inr (.inr (.inl ⟨rfl, rfl⟩))⟩
        case measure => simp [intOf]
      · have cc := hB.out.2.cell 0
        simp only [List.getElem?_cons_zero] at cc
        go_wp2_with (go_at_call 73; refine (f73 c _ hc).mono ?_; rintro e w1 ⟨rfl, hb1⟩; have H1 := Lib.hid (And.intro (hB.out.1.trans (hb1.mono hB.out.1.size)) (hB.out.2.below hb1 hB.out.2.lt)); clear hb1)
        go_roundw
        case rel => exact ⟨H1, .inr (.inr (.inr (.inl ⟨rfl, rfl⟩)))⟩
        case measure => simp [intOf]
      · have cc := hB.out.2.cell 0
        simp only [List.getElem?_cons_zero] at cc
        go_wp2_with (go_at_call 73; refine (f73 d _ hd).mono ?_; rintro e w1 ⟨rfl, hb1⟩; have H1 := Lib.hid (And.intro (hB.out.1.trans (hb1.mono hB.out.1.size)) (hB.out.2.below hb1 hB.out.2.lt)); clear hb1)
        go_roundw
        case rel => exact ⟨H1, .inr (.inr (.inr (.inr (⟨rfl, rfl⟩))))⟩
        case measure => simp [intOf]
      · have cc := hB.out.2.cell 0
        simp only [List.getElem?_cons_zero] at cc
        go_wp2
        go_ret
        exact ⟨by show Ending.returned (Value.string (bs (vp a b c d 4))) = _; rw [← HT.out, if_neg h0], hB.out.1⟩
end Go.Proofs.YtmiflkccfieefaaGreatDoor
