/-
  A record is like itself: spec.SameRecord.
-/
import Derived.Test.YtmiflkccfieefaaGreatDoorRby
namespace Go.Proofs.YtmiflkccfieefaaGreatDoor
open Go.ChangeShapes Go.WideShapes Go.ChangeAt Go.RowKit
set_option maxRecDepth 100000
set_option linter.unusedVariables false
set_option linter.unusedSimpArgs false

theorem same2 (b : Bool) (d1 d2 : Value) (l : List UInt8) (D1 D2 : Nat) (w : World) (h1 : DataAt w D1 d1 l) (h2 : DataAt w D2 d2 l) (hD1 : D1 ≤ w.heap.size) (hD2 : D2 ≤ w.heap.size) :
    Calls Tryz.prog 54 #[.agg #[.bool b, d1], .agg #[.bool b, d2]] w fun e w' => e = .returned (.bool true) ∧ Below w.heap.size w w' := by
  refine (sameBytes b b d1 d2 l l D1 D2 w h1 h2 hD1 hD2).mono ?_
  rintro e w' ⟨rfl, hb⟩
  exact ⟨by simp, hb⟩
/-- Two variables' blocks, and all below. -/
structure P2 (w0 : World) (cs1 cs2 : List Value) (W : World) : Prop where
  one : Blk W w0.heap.size 28 cs1
  two : Blk W (w0.heap.size + 1) 28 cs2
  bel : Below w0.heap.size w0 W
theorem P2.call {w0 : World} {cs1 cs2 : List Value} {W W' : World} (h : P2 w0 cs1 cs2 W) (hb : Below W.heap.size W W') : P2 w0 cs1 cs2 W' := ⟨h.one.below hb h.one.lt, h.two.below hb h.two.lt, h.bel.trans (hb.mono h.bel.size)⟩
theorem P2.drew {w0 : World} {cs1 cs2 : List Value} {W : World} (h : P2 w0 cs1 cs2 W) : P2 w0 cs1 cs2 W.drew := ⟨h.one.drew, h.two.drew, h.bel.drew⟩

set_option maxHeartbeats 4000000 in
theorem f19 (D : Nat) (x : RecV) (v1 v2 : Value) (w : World) (h1 : RIn w D v1 x) (h2 : RIn w D v2 x) (hD : D ≤ w.heap.size) (hhl : x.hs.length ≤ 6) :
    Calls Tryz.prog 19 #[v1, v2] w fun e w' => e = .returned (.bool true) ∧ Below w.heap.size w w' := by
  obtain ⟨kd1, vd1, hv1, rfl, k1, p1, q1⟩ := h1
  obtain ⟨kd2, vd2, hv2, rfl, k2, p2, q2⟩ := h2
  obtain ⟨kA1, kc1, rfl⟩ := k1.sl
  obtain ⟨kA2, kc2, rfl⟩ := k2.sl
  obtain ⟨vA1, vc1, rfl⟩ := p1.sl
  obtain ⟨vA2, vc2, rfl⟩ := p2.sl
  have HD := Lib.hid (And.intro (And.intro k1 (And.intro p1 q1)) (And.intro k2 (And.intro p2 q2)))
  obtain ⟨hA1, hc1, rfl, _⟩ := q1
  obtain ⟨hA2, hc2, rfl, _⟩ := q2
  have hp0 : P2 w [.int .i8 x.attr, .int .i64 x.tm, .int .i64 x.od, .bool x.key.1, .slice kA1 x.key.2.length kc1, .bool x.val.1, .slice vA1 x.val.2.length vc1, .slice hA1 x.hs.length hc1] [.int .i8 x.attr, .int .i64 x.tm, .int .i64 x.od, .bool x.key.1, .slice kA2 x.key.2.length kc2, .bool x.val.1, .slice vA2 x.val.2.length vc2, .slice hA2 x.hs.length hc2] ((w.alloc (.cells #[.int .i8 x.attr, .int .i64 x.tm, .int .i64 x.od, .bool x.key.1, .slice kA1 x.key.2.length kc1, .bool x.val.1, .slice vA1 x.val.2.length vc1, .slice hA1 x.hs.length hc1] 28)).alloc (.cells #[.int .i8 x.attr, .int .i64 x.tm, .int .i64 x.od, .bool x.key.1, .slice kA2 x.key.2.length kc2, .bool x.val.1, .slice vA2 x.val.2.length vc2, .slice hA2 x.hs.length hc2] 28)) :=
    ⟨(Blk.new w 28 _).alloc _, by have h := Blk.new (w.alloc (.cells #[.int .i8 x.attr, .int .i64 x.tm, .int .i64 x.od, .bool x.key.1, .slice kA1 x.key.2.length kc1, .bool x.val.1, .slice vA1 x.val.2.length vc1, .slice hA1 x.hs.length hc1] 28)) 28 [.int .i8 x.attr, .int .i64 x.tm, .int .i64 x.od, .bool x.key.1, .slice kA2 x.key.2.length kc2, .bool x.val.1, .slice vA2 x.val.2.length vc2, .slice hA2 x.hs.length hc2]; rw [show (w.alloc (.cells #[.int .i8 x.attr, .int .i64 x.tm, .int .i64 x.od, .bool x.key.1, .slice kA1 x.key.2.length kc1, .bool x.val.1, .slice vA1 x.val.2.length vc1, .slice hA1 x.hs.length hc1] 28)).heap.size = w.heap.size + 1 by simp] at h; exact h, ((Below.refl _ _).alloc (Nat.le_refl _) _).alloc (by simp) _⟩
  have H0 := Lib.hid hp0
  clear k1 p1 k2 p2 hp0
  go_enter Tryz.func19, Tryz.ntmps19
  go_wp2_with fail
  refine (same2 _ _ _ _ D D _ (HD.out.1.1.below H0.out.bel hD) (HD.out.2.1.below H0.out.bel hD) (Nat.le_trans hD H0.out.bel.size) (Nat.le_trans hD H0.out.bel.size)).mono ?_
  rintro e w1 ⟨rfl, hb1⟩
  have hp1 := H0.out.call hb1
  have a5 := hp1.one.cell 5
  have a6 := hp1.one.cell 6
  have b5 := hp1.two.cell 5
  have b6 := hp1.two.cell 6
  simp only [List.getElem?_cons_zero, List.getElem?_cons_succ] at a5 a6 b5 b6
  have H1 := Lib.hid hp1
  clear hp1 hb1
  go_wp2_with fail
  refine (same2 _ _ _ _ D D _ (HD.out.1.2.1.below H1.out.bel hD) (HD.out.2.2.1.below H1.out.bel hD) (Nat.le_trans hD H1.out.bel.size) (Nat.le_trans hD H1.out.bel.size)).mono ?_
  rintro e w2 ⟨rfl, hb2⟩
  have hp2 := H1.out.call hb2
  have a7 := hp2.one.cell 7
  have b7 := hp2.two.cell 7
  simp only [List.getElem?_cons_zero, List.getElem?_cons_succ] at a7 b7
  have H2 := Lib.hid hp2
  clear hp2 hb2 a5 a6 b5 b6
  go_wp2_with fail
  go_loopw [53] (fun i wr => ∃ k : Nat, k ≤ x.hs.length ∧ i = .int .i64 k ∧ Hid (P2 w [.int .i8 x.attr, .int .i64 x.tm, .int .i64 x.od, .bool x.key.1, .slice kA1 x.key.2.length kc1, .bool x.val.1, .slice vA1 x.val.2.length vc1, .slice hA1 x.hs.length hc1] [.int .i8 x.attr, .int .i64 x.tm, .int .i64 x.od, .bool x.key.1, .slice kA2 x.key.2.length kc2, .bool x.val.1, .slice vA2 x.val.2.length vc2, .slice hA2 x.hs.length hc2] wr)) (fun i _ => x.hs.length - (intOf i).toNat)
  case atStart => exact ⟨0, by omega, rfl, H2⟩
  case round =>
    obtain ⟨k, hkk, rfl, HR⟩ := hrel
    clear a7 b7
    by_cases hlt : k < x.hs.length
    · obtain ⟨A', c', hAe, hh⟩ := HD.out.1.2.2
      injection hAe with hA1e hA2e hA3e
      subst hA1e
      obtain ⟨a, rfl, haD, hall⟩ := hh (by intro e; rw [e] at hlt; simp at hlt)
      obtain ⟨B', d', hBe, hg⟩ := HD.out.2.2.2
      injection hBe with hB1e hB2e hB3e
      subst hB1e
      obtain ⟨b, rfl, hbD, hbll⟩ := hg (by intro e; rw [e] at hlt; simp at hlt)
      have hel := hall k hlt
      have hml := hbll k hlt
      generalize hxk : x.hs[k] = xk at hel hml
      clear hxk hall hbll hh hg hA2e hA3e hB2e hB3e
      obtain ⟨kd1, vd1, g0, g1, g2, g3, hkd1, hvd1⟩ := hel
      obtain ⟨kd2, vd2, e0, e1, e2, e3, hkd2, hvd2⟩ := hml
      have HX := Lib.hid (And.intro (And.intro hkd1 hvd1) (And.intro hkd2 hvd2))
      obtain ⟨jA1, jc1, rfl⟩ := hkd1.sl
      obtain ⟨uA1, uc1, rfl⟩ := hvd1.sl
      obtain ⟨jA2, jc2, rfl⟩ := hkd2.sl
      obtain ⟨uA2, uc2, rfl⟩ := hvd2.sl
      clear hkd1 hvd1 hkd2 hvd2
      have hS : ∀ W, P2 w [.int .i8 x.attr, .int .i64 x.tm, .int .i64 x.od, .bool x.key.1, .slice kA1 x.key.2.length kc1, .bool x.val.1, .slice vA1 x.val.2.length vc1, .slice (some a) x.hs.length hc1] [.int .i8 x.attr, .int .i64 x.tm, .int .i64 x.od, .bool x.key.1, .slice kA2 x.key.2.length kc2, .bool x.val.1, .slice vA2 x.val.2.length vc2, .slice (some b) x.hs.length hc2] W → (fun W => W.cell? ⟨w.heap.size, 7, none⟩ = some (.slice (some a) x.hs.length hc1) ∧ W.cell? ⟨w.heap.size + 1, 7, none⟩ = some (.slice (some b) x.hs.length hc2) ∧ W.cell? (a.add (k * 4)) = some (.bool xk.1.1) ∧ W.cell? ⟨(a.add (k * 4)).block, (a.add (k * 4)).off + 1, none⟩ = some (.slice jA1 xk.1.2.length jc1) ∧ W.cell? ⟨(a.add (k * 4)).block, (a.add (k * 4)).off + 2, none⟩ = some (.bool xk.2.1) ∧ W.cell? ⟨(a.add (k * 4)).block, (a.add (k * 4)).off + 3, none⟩ = some (.slice uA1 xk.2.2.length uc1) ∧ W.cell? (b.add (k * 4)) = some (.bool xk.1.1) ∧ W.cell? ⟨(b.add (k * 4)).block, (b.add (k * 4)).off + 1, none⟩ = some (.slice jA2 xk.1.2.length jc2) ∧ W.cell? ⟨(b.add (k * 4)).block, (b.add (k * 4)).off + 2, none⟩ = some (.bool xk.2.1) ∧ W.cell? ⟨(b.add (k * 4)).block, (b.add (k * 4)).off + 3, none⟩ = some (.slice uA2 xk.2.2.length uc2) ∧ P2 w [.int .i8 x.attr, .int .i64 x.tm, .int .i64 x.od, .bool x.key.1, .slice kA1 x.key.2.length kc1, .bool x.val.1, .slice vA1 x.val.2.length vc1, .slice (some a) x.hs.length hc1] [.int .i8 x.attr, .int .i64 x.tm, .int .i64 x.od, .bool x.key.1, .slice kA2 x.key.2.length kc2, .bool x.val.1, .slice vA2 x.val.2.length vc2, .slice (some b) x.hs.length hc2] W) W := fun W h =>
        have e : ∀ j, W.cell? ⟨(a.add (k * 4)).block, j, none⟩ = w.cell? ⟨(a.add (k * 4)).block, j, none⟩ := fun j => cell_below h.bel _ (by show (a.add (k * 4)).block < w.heap.size; rw [add_block]; omega)
        have e' : ∀ j, W.cell? ⟨(b.add (k * 4)).block, j, none⟩ = w.cell? ⟨(b.add (k * 4)).block, j, none⟩ := fun j => cell_below h.bel _ (by show (b.add (k * 4)).block < w.heap.size; rw [add_block]; omega)
        ⟨h.one.cell 7, h.two.cell 7, (cell_below h.bel _ (by rw [add_block]; omega)).trans g0, (e _).trans g1, (e _).trans g2, (e _).trans g3, (cell_below h.bel _ (by rw [add_block]; omega)).trans e0, (e' _).trans e1, (e' _).trans e2, (e' _).trans e3, h⟩
      have HS := Lib.hid hS
      clear hS g0 g1 g2 g3 e0 e1 e2 e3
      have hp0 := HR.out.drew
      have hHeld := HS.out _ hp0
      go_wp2_with fail
      go_region_held3 (fun W => W.cell? ⟨w.heap.size, 7, none⟩ = some (.slice (some a) x.hs.length hc1) ∧ W.cell? ⟨w.heap.size + 1, 7, none⟩ = some (.slice (some b) x.hs.length hc2) ∧ W.cell? (a.add (k * 4)) = some (.bool xk.1.1) ∧ W.cell? ⟨(a.add (k * 4)).block, (a.add (k * 4)).off + 1, none⟩ = some (.slice jA1 xk.1.2.length jc1) ∧ W.cell? ⟨(a.add (k * 4)).block, (a.add (k * 4)).off + 2, none⟩ = some (.bool xk.2.1) ∧ W.cell? ⟨(a.add (k * 4)).block, (a.add (k * 4)).off + 3, none⟩ = some (.slice uA1 xk.2.2.length uc1) ∧ W.cell? (b.add (k * 4)) = some (.bool xk.1.1) ∧ W.cell? ⟨(b.add (k * 4)).block, (b.add (k * 4)).off + 1, none⟩ = some (.slice jA2 xk.1.2.length jc2) ∧ W.cell? ⟨(b.add (k * 4)).block, (b.add (k * 4)).off + 2, none⟩ = some (.bool xk.2.1) ∧ W.cell? ⟨(b.add (k * 4)).block, (b.add (k * 4)).off + 3, none⟩ = some (.slice uA2 xk.2.2.length uc2) ∧ P2 w [.int .i8 x.attr, .int .i64 x.tm, .int .i64 x.od, .bool x.key.1, .slice kA1 x.key.2.length kc1, .bool x.val.1, .slice vA1 x.val.2.length vc1, .slice (some a) x.hs.length hc1] [.int .i8 x.attr, .int .i64 x.tm, .int .i64 x.od, .bool x.key.1, .slice kA2 x.key.2.length kc2, .bool x.val.1, .slice vA2 x.val.2.length vc2, .slice (some b) x.hs.length hc2] W)
        (first | with_reducible exact HS.out _ hp0 | with_reducible exact HS.out _ hp1 | with_reducible exact HS.out _ hp2)
        (first | (go_at_call_of 54 (Value.agg #[.bool xk.1.1, .slice jA1 xk.1.2.length jc1]); refine (same2 _ _ _ _ D D _ (HX.out.1.1.below hp0.bel hD) (HX.out.2.1.below hp0.bel hD) (Nat.le_trans hD hp0.bel.size) (Nat.le_trans hD hp0.bel.size)).mono ?_; rintro e w1 ⟨rfl, hb1⟩; have hp1 := hp0.call hb1) | (go_at_call_of 54 (Value.agg #[.bool xk.2.1, .slice uA1 xk.2.2.length uc1]); refine (same2 _ _ _ _ D D _ (HX.out.1.2.below hp1.bel hD) (HX.out.2.2.below hp1.bel hD) (Nat.le_trans hD hp1.bel.size) (Nat.le_trans hD hp1.bel.size)).mono ?_; rintro e w2 ⟨rfl, hb2⟩; have hp2 := hp1.call hb2))
      have HN := Lib.hid hp2
      rename_i hHeld2
      clear hHeld2 hp0 hp1 hp2 hb1 hb2
      go_wp2
      go_roundw
      case rel =>
        first
          | exact ⟨k + 1, by omega, by go_num, HN⟩
          | ((repeat apply Exists.intro); exact ⟨⟨k + 1, by omega, by go_num, HN⟩, rfl⟩)
      case measure => simp [intOf]; omega
    · obtain rfl : k = x.hs.length := by omega
      go_wp2
      go_ret
      exact ⟨rfl, HR.out.bel⟩
end Go.Proofs.YtmiflkccfieefaaGreatDoor
