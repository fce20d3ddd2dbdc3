/-
  A version is told: KafkaVersion.String.
-/
import Derived.Test.YtmiflkccfieefaaGreatDoorVfm
import Derived.Test.YtmiflkccfieefaaGreatDoorVtx
namespace Go.Proofs.YtmiflkccfieefaaGreatDoor
open Go.ChangeShapes Go.WideShapes Go.ChangeAt Go.RowKit
set_option maxRecDepth 100000
set_option linter.unusedVariables false
set_option linter.unusedSimpArgs false

structure BoxV (w0 : World) (p t : Nat) (cs : List Value) (W : World) : Prop where
  blk : Blk W p t cs
  bel : Below w0.heap.size w0 W
theorem BoxV.call {w0 W W' : World} {p t : Nat} {cs : List Value} (h : BoxV w0 p t cs W) (hb : Below W.heap.size W W') : BoxV w0 p t cs W' := ⟨h.blk.below hb h.blk.lt, h.bel.trans (hb.mono h.bel.size)⟩
theorem BoxV.all {w0 W : World} {p t : Nat} {c0 c1 c2 c3 : Value} (h : BoxV w0 p t [c0, c1, c2, c3] W) :
    W.cell? ⟨p, 0, none⟩ = some c0 ∧ W.cell? ⟨p, 1, none⟩ = some c1 ∧ W.cell? ⟨p, 2, none⟩ = some c2 ∧ W.cell? ⟨p, 3, none⟩ = some c3 ∧ BoxV w0 p t [c0, c1, c2, c3] W :=
  ⟨h.blk.cell 0, h.blk.cell 1, h.blk.cell 2, h.blk.cell 3, h⟩
theorem str_one (a b c : List UInt8) (h : a.length ≤ 3) (hb : b.length ≤ 3) (hc : c.length ≤ 3) : ∃ V1 V2 V3 V4 : ByteArray,
    (∀ w, (Op.stringOp .add (bs a) ⟨#[46]⟩).run Tryz.prog w = .ok (.string V1) w) ∧ (∀ w, (Op.stringOp .add V1 (bs b)).run Tryz.prog w = .ok (.string V2) w) ∧ (∀ w, (Op.stringOp .add V2 ⟨#[46]⟩).run Tryz.prog w = .ok (.string V3) w) ∧ (∀ w, (Op.stringOp .add V3 (bs c)).run Tryz.prog w = .ok (.string V4) w) ∧ V4 = bs (((a ++ [46]) ++ b) ++ [46] ++ c) :=
  ⟨_, _, _, _, add_dot a (by omega), add_bs (a ++ [46]) b (by simp; omega), add_dot ((a ++ [46]) ++ b) (by simp; omega), add_bs (((a ++ [46]) ++ b) ++ [46]) c (by simp; omega), rfl⟩
theorem str_zero (b c d : List UInt8) (hb : b.length ≤ 3) (hc : c.length ≤ 3) (hd : d.length ≤ 3) : ∃ V1 V2 V3 V4 V5 : ByteArray,
    (∀ w, (Op.stringOp .add ⟨#[48, 46]⟩ (bs b)).run Tryz.prog w = .ok (.string V1) w) ∧ (∀ w, (Op.stringOp .add V1 ⟨#[46]⟩).run Tryz.prog w = .ok (.string V2) w) ∧ (∀ w, (Op.stringOp .add V2 (bs c)).run Tryz.prog w = .ok (.string V3) w) ∧ (∀ w, (Op.stringOp .add V3 ⟨#[46]⟩).run Tryz.prog w = .ok (.string V4) w) ∧ (∀ w, (Op.stringOp .add V4 (bs d)).run Tryz.prog w = .ok (.string V5) w) ∧ V5 = bs ((((([48, 46] ++ b) ++ [46]) ++ c) ++ [46]) ++ d) :=
  ⟨_, _, _, _, _, add_bs [48, 46] b (by simp; omega), add_dot ([48, 46] ++ b) (by simp; omega), add_bs (([48, 46] ++ b) ++ [46]) c (by simp; omega), add_dot ((([48, 46] ++ b) ++ [46]) ++ c) (by simp; omega), add_bs (((([48, 46] ++ b) ++ [46]) ++ c) ++ [46]) d (by simp; omega), rfl⟩
set_option maxHeartbeats 2000000 in
theorem f76z (b c d : Nat) (w : World) (hb : b ≤ 999) (hc : c ≤ 999) (hd : d ≤ 999) (ht : Pow w) :
    Calls Tryz.prog 76 #[.agg #[.int .u64 0, .int .u64 b, .int .u64 c, .int .u64 d]] w fun e w' => e = .returned (.string (bs (dotted (vnums 0 b c d)))) ∧ Below w.heap.size w w' := by
  have HT := Lib.hid ht
  have h1l := ht.lt
  clear ht
  have lb := dec_len hb
  have lc := dec_len hc
  have ld := dec_len hd
  have ha : (0 : Nat) ≤ 999 := by omega
  have la := dec_len ha
  have hbx : BoxV w w.heap.size 151 [.int .u64 0, .int .u64 b, .int .u64 c, .int .u64 d] (w.alloc (.cells #[.int .u64 0, .int .u64 b, .int .u64 c, .int .u64 d] 151)).drew :=
    ⟨(Blk.new w 151 [.int .u64 0, .int .u64 b, .int .u64 c, .int .u64 d]).drew, ((Below.refl _ _).alloc (Nat.le_refl _) _).drew⟩
  have hHeld := hbx.all
  obtain ⟨V1, V2, V3, V4, VL, s1, s2, s3, s4, s5, e4⟩ := str_zero (Lib.decDigits b) (Lib.decDigits c) (Lib.decDigits d) (by omega) (by omega) (by omega)
  have e : VL = bs (dotted (vnums 0 b c d)) := by rw [e4]; simp [vnums, dotted, dec_zero]
  have HE := Lib.hid e
  clear la lb lc ld e e4
  go_enter Tryz.func76, Tryz.ntmps76
  go_wp2_with fail
  go_region_held3 (fun W => W.cell? ⟨w.heap.size, 0, none⟩ = some (.int .u64 0) ∧ W.cell? ⟨w.heap.size, 1, none⟩ = some (.int .u64 b) ∧ W.cell? ⟨w.heap.size, 2, none⟩ = some (.int .u64 c) ∧ W.cell? ⟨w.heap.size, 3, none⟩ = some (.int .u64 d) ∧ BoxV w w.heap.size 151 [.int .u64 0, .int .u64 b, .int .u64 c, .int .u64 d] W)
    (first | with_reducible exact hbx.all | with_reducible exact BoxV.all (by assumption))
    (first | (go_at_call 96; refine (f96 _ _ (by omega) (HT.out.below (BoxV.bel (by assumption)) h1l)).mono ?_; rintro e w1 ⟨rfl, hb1⟩; have hbx1 := BoxV.call (by assumption) hb1))
  have HF := Lib.hid (BoxV.bel (show BoxV w w.heap.size 151 [.int .u64 0, .int .u64 b, .int .u64 c, .int .u64 d] _ from by assumption))
  go_wp2
  go_ret
  exact ⟨by show Ending.returned (Value.string VL) = _; rw [HE.out], HF.out⟩
set_option maxHeartbeats 2000000 in
theorem f76 (a b c d : Nat) (w : World) (ha : a ≤ 999) (hb : b ≤ 999) (hc : c ≤ 999) (hd : d ≤ 999) (ht : Pow w) :
    Calls Tryz.prog 76 #[.agg #[.int .u64 a, .int .u64 b, .int .u64 c, .int .u64 d]] w fun e w' => e = .returned (.string (bs (dotted (vnums a b c d)))) ∧ Below w.heap.size w w' := by
  have HT := Lib.hid ht
  have h1l := ht.lt
  clear ht
  have la := dec_len ha
  have lb := dec_len hb
  have lc := dec_len hc
  have ld := dec_len hd
  have hbx : BoxV w w.heap.size 151 [.int .u64 a, .int .u64 b, .int .u64 c, .int .u64 d] (w.alloc (.cells #[.int .u64 a, .int .u64 b, .int .u64 c, .int .u64 d] 151)).drew :=
    ⟨(Blk.new w 151 [.int .u64 a, .int .u64 b, .int .u64 c, .int .u64 d]).drew, ((Below.refl _ _).alloc (Nat.le_refl _) _).drew⟩
  have hHeld := hbx.all
  by_cases h0 : 0 < a
  · obtain ⟨V1, V2, V3, VL, s1, s2, s3, s4, e4⟩ := str_one (Lib.decDigits a) (Lib.decDigits b) (Lib.decDigits c) (by omega) (by omega) (by omega)
    have hz : ((a : Int) == 0) = false := by simp; omega
    have e : VL = bs (dotted (vnums a b c d)) := by rw [e4]; simp [vnums, h0, dotted]
    have HE := Lib.hid e
    clear la lb lc ld e e4
    go_enter Tryz.func76, Tryz.ntmps76
    go_wp2_with fail
    go_region_held3 (fun W => W.cell? ⟨w.heap.size, 0, none⟩ = some (.int .u64 a) ∧ W.cell? ⟨w.heap.size, 1, none⟩ = some (.int .u64 b) ∧ W.cell? ⟨w.heap.size, 2, none⟩ = some (.int .u64 c) ∧ W.cell? ⟨w.heap.size, 3, none⟩ = some (.int .u64 d) ∧ BoxV w w.heap.size 151 [.int .u64 a, .int .u64 b, .int .u64 c, .int .u64 d] W)
      (first | with_reducible exact hbx.all | with_reducible exact BoxV.all (by assumption))
      (first | (go_at_call 96; refine (f96 _ _ (by omega) (HT.out.below (BoxV.bel (by assumption)) h1l)).mono ?_; rintro e w1 ⟨rfl, hb1⟩; have hbx1 := BoxV.call (by assumption) hb1))
    have HF := Lib.hid (BoxV.bel (show BoxV w w.heap.size 151 [.int .u64 a, .int .u64 b, .int .u64 c, .int .u64 d] _ from by assumption))
    go_wp2
    go_ret
    exact ⟨by show Ending.returned (Value.string VL) = _; rw [HE.out], HF.out⟩
  · obtain rfl : a = 0 := by omega
    exact f76z b c d w hb hc hd HT.out
end Go.Proofs.YtmiflkccfieefaaGreatDoor
