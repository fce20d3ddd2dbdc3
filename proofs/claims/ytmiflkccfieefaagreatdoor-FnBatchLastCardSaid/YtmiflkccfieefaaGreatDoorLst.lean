/-
  The law FnBatchLast: what it answers.
-/
import Derived.Test.YtmiflkccfieefaaGreatDoorBtm
import Derived.Test.YtmiflkccfieefaaGreatDoorAlv
namespace Go.Proofs.YtmiflkccfieefaaGreatDoor
open Go.ChangeShapes Go.WideShapes Go.ChangeAt Go.RowKit
set_option maxRecDepth 100000
set_option linter.unusedVariables false
set_option linter.unusedSimpArgs false

theorem f58 (b : Nat) (cs : List Value) (fo lo : Int) (w : World) (hb : Blk w b 125 cs) (h0 : cs[0]? = some (.int .i64 fo)) (h7 : cs[7]? = some (.int .i32 lo)) (f0 : -4611686018427387904 ≤ fo) (f1 : fo ≤ 4611686018427387904) (l0 : -2147483648 ≤ lo) (l1 : lo ≤ 2147483647) :
    Calls Tryz.prog 58 #[.pointer (some ⟨b, 0, none⟩)] w fun e w' => e = .returned (.int .i64 (fo + lo)) ∧ Below w.heap.size w w' := by
  have c0 := (hb.cell 0).trans h0
  have c7 := (hb.cell 7).trans h7
  have HW := Lib.hid (IntWalk.i64_in (fo + lo) (by omega))
  clear h0 h7 hb
  go_enter Tryz.func58, Tryz.ntmps58
  go_wp2
  go_quiet (fail)
  go_wp2
  go_ret
  refine ⟨?_, ⟨rfl, rfl, rfl, Nat.le_refl _, fun _ _ => rfl⟩⟩
  first | rfl | rw [HW.out]
theorem BIn.below {w w' : World} {D C : Nat} {v : Value} {y : BatV} (h : BIn w D v y) (hb : Below C w w') (hC : D ≤ C) : BIn w' D v y := by
  obtain ⟨rv, rfl, hr⟩ := h
  exact ⟨rv, rfl, hr.below hb hC⟩
theorem f22 (D : Nat) (v : Value) (y : BatV) (w : World) (h : BIn w D v y) (hD : D ≤ w.heap.size) (hr : BRight y) (f0 : -4611686018427387904 ≤ y.fo) (f1 : y.fo ≤ 4611686018427387904) (l0 : -2147483648 ≤ y.lo) (l1 : y.lo ≤ 2147483647) :
    Calls Tryz.prog 22 #[v] w fun e w' => e = .returned (.int .i64 (y.fo + y.lo)) ∧ Below w.heap.size w w' := by
  have H := Lib.hid h
  obtain ⟨rv, rfl, hrs⟩ := h
  obtain ⟨A, c, rfl, _⟩ := hrs
  have hb0 : Below w.heap.size w (w.alloc (.cells #[.int .i64 y.fo, .int .i32 y.le, .int .i32 y.lo, .bool y.la, .bool y.tx, .bool y.ct, .int .i64 y.ft, .int .i64 y.mt, .int .i64 y.pid, .int .i16 y.pe, .int .i32 y.fs, .slice A y.rs.length c, .bool y.part] 41)) := (Below.refl _ _).alloc (Nat.le_refl _) _
  have HB := Lib.hid (And.intro hb0 hr)
  clear hb0 hr
  go_enter Tryz.func22, Tryz.ntmps22
  go_wp2_with fail
  refine (f57 D _ y _ (H.out.below HB.out.1 hD) (by simp; omega) HB.out.2).mono ?_
  rintro e w1 ⟨b, cs, rfl, hb1, h0, h7, hb2⟩
  have H1 := Lib.hid (And.intro (And.intro hb1 (And.intro h0 h7)) (HB.out.1.trans (hb2.mono (by simp))))
  clear hb1 h0 h7 hb2
  go_wp2_with fail
  refine (f58 b cs y.fo y.lo _ H1.out.1.1 H1.out.1.2.1 H1.out.1.2.2 f0 f1 l0 l1).mono ?_
  rintro e w2 ⟨rfl, hb3⟩
  have H2 := Lib.hid (H1.out.2.trans (hb3.mono H1.out.2.size))
  clear hb3
  go_wp2
  go_ret
  exact ⟨rfl, H2.out⟩
def BNum (y : BatV) : Prop := -9223372036854775808 ≤ y.fo ∧ y.fo ≤ 9223372036854775807 ∧ -2147483648 ≤ y.lo ∧ y.lo ≤ 2147483647
theorem Blk.all13 {W : World} {p t : Nat} {c0 c1 c2 c3 c4 c5 c6 c7 c8 c9 c10 c11 c12 : Value} (h : Blk W p t [c0, c1, c2, c3, c4, c5, c6, c7, c8, c9, c10, c11, c12]) :
    W.cell? ⟨p, 0, none⟩ = some c0 ∧ W.cell? ⟨p, 1, none⟩ = some c1 ∧ W.cell? ⟨p, 2, none⟩ = some c2 ∧ W.cell? ⟨p, 3, none⟩ = some c3 ∧ W.cell? ⟨p, 4, none⟩ = some c4 ∧ W.cell? ⟨p, 5, none⟩ = some c5 ∧ W.cell? ⟨p, 6, none⟩ = some c6 ∧ W.cell? ⟨p, 7, none⟩ = some c7 ∧ W.cell? ⟨p, 8, none⟩ = some c8 ∧ W.cell? ⟨p, 9, none⟩ = some c9 ∧ W.cell? ⟨p, 10, none⟩ = some c10 ∧ W.cell? ⟨p, 11, none⟩ = some c11 ∧ W.cell? ⟨p, 12, none⟩ = some c12 :=
  ⟨h.cell 0, h.cell 1, h.cell 2, h.cell 3, h.cell 4, h.cell 5, h.cell 6, h.cell 7, h.cell 8, h.cell 9, h.cell 10, h.cell 11, h.cell 12⟩
set_option maxHeartbeats 2000000 in
theorem f4 (D : Nat) (v : Value) (y : BatV) (w : World) (h : BIn w D v y) (hD : D ≤ w.heap.size) (hbig : RsBig y.rs) (hn : BNum y) :
    Calls Tryz.prog 4 #[v] w fun e w' => e = .returned (.bool true) ∧ Below w.heap.size w w' := by
  have H := Lib.hid h
  obtain ⟨rv, rfl, hrs⟩ := h
  obtain ⟨A, c, rfl, _⟩ := hrs
  have hb0 : Below w.heap.size w (w.alloc (.cells #[.int .i64 y.fo, .int .i32 y.le, .int .i32 y.lo, .bool y.la, .bool y.tx, .bool y.ct, .int .i64 y.ft, .int .i64 y.mt, .int .i64 y.pid, .int .i16 y.pe, .int .i32 y.fs, .slice A y.rs.length c, .bool y.part] 41)) := (Below.refl _ _).alloc (Nat.le_refl _) _
  have hp0 := Blk.new w 41 [.int .i64 y.fo, .int .i32 y.le, .int .i32 y.lo, .bool y.la, .bool y.tx, .bool y.ct, .int .i64 y.ft, .int .i64 y.mt, .int .i64 y.pid, .int .i16 y.pe, .int .i32 y.fs, .slice A y.rs.length c, .bool y.part]
  have HB := Lib.hid (And.intro hb0 hp0)
  have HG := Lib.hid hbig
  obtain ⟨n0, n1, n2, n3⟩ := hn
  clear hb0 hp0 hbig
  go_enter Tryz.func4, Tryz.ntmps4
  go_wp2_with fail
  refine (f20 D _ y _ (H.out.below HB.out.1 hD) (by simp; omega) HG.out).mono ?_
  rintro e w1 ⟨b1, rfl, hb1⟩
  have H1 := Lib.hid (And.intro (HB.out.1.trans (hb1.mono (by simp))) (HB.out.2.below hb1 HB.out.2.lt))
  clear hb1
  cases b1
  · go_wp2
    go_ret
    exact ⟨rfl, H1.out.1⟩
  have ld := H1.out.2.all13
  obtain ⟨y0, y1, y2, y3, y4, y5, y6, y7, y8, y9, y10, y11, y12⟩ := ld
  go_wp2_with fail
  refine (f21 D _ y _ (H.out.below H1.out.1 hD) (Nat.le_trans hD H1.out.1.size) HG.out).mono ?_
  rintro e w2 ⟨b2, rfl, hr2, hb2⟩
  have H2 := Lib.hid (And.intro (H1.out.1.trans (hb2.mono H1.out.1.size)) (And.intro (H1.out.2.below hb2 H1.out.2.lt) hr2))
  clear hb2 hr2 y0 y1 y2 y3 y4 y5 y6 y7 y8 y9 y10 y11 y12
  cases b2
  · go_wp2_with fail
    refine (f15 _).mono ?_
    rintro e w3 ⟨rfl, hb3⟩
    have HF := Lib.hid (H2.out.1.trans (hb3.mono H2.out.1.size))
    clear hb3
    go_wp2
    go_ret
    exact ⟨rfl, HF.out⟩
  have c0 := H2.out.2.1.cell 0
  simp only [List.getElem?_cons_zero] at c0
  by_cases hf : 4611686018427387904 < y.fo
  · go_wp2_with fail
    refine (f15 _).mono ?_
    rintro e w3 ⟨rfl, hb3⟩
    have HF := Lib.hid (H2.out.1.trans (hb3.mono H2.out.1.size))
    clear hb3
    go_wp2
    go_ret
    exact ⟨rfl, HF.out⟩
  by_cases hf2 : y.fo < -4611686018427387904
  · go_wp2_with fail
    refine (f15 _).mono ?_
    rintro e w3 ⟨rfl, hb3⟩
    have HF := Lib.hid (H2.out.1.trans (hb3.mono H2.out.1.size))
    clear hb3
    go_wp2
    go_ret
    exact ⟨rfl, HF.out⟩
  have hbr : BRight y := H2.out.2.2 rfl
  have HRR := Lib.hid hbr
  have HW := IntWalk.i64_in (y.fo + y.lo) (by omega)
  clear hbr
  go_upto_region 5 with fail
  have hbx : BoxB w w.heap.size 41 [.int .i64 y.fo, .int .i32 y.le, .int .i32 y.lo, .bool y.la, .bool y.tx, .bool y.ct, .int .i64 y.ft, .int .i64 y.mt, .int .i64 y.pid, .int .i16 y.pe, .int .i32 y.fs, .slice A y.rs.length c, .bool y.part] w2.drew := ⟨H2.out.2.1.drew, H2.out.1.drew⟩
  clear c0
  have hHeld := hbx.all
  go_region_held3 (fun W => W.cell? ⟨w.heap.size, 0, none⟩ = some (.int .i64 y.fo) ∧ W.cell? ⟨w.heap.size, 1, none⟩ = some (.int .i32 y.le) ∧ W.cell? ⟨w.heap.size, 2, none⟩ = some (.int .i32 y.lo) ∧ W.cell? ⟨w.heap.size, 3, none⟩ = some (.bool y.la) ∧ W.cell? ⟨w.heap.size, 4, none⟩ = some (.bool y.tx) ∧ W.cell? ⟨w.heap.size, 5, none⟩ = some (.bool y.ct) ∧ W.cell? ⟨w.heap.size, 6, none⟩ = some (.int .i64 y.ft) ∧ W.cell? ⟨w.heap.size, 7, none⟩ = some (.int .i64 y.mt) ∧ W.cell? ⟨w.heap.size, 8, none⟩ = some (.int .i64 y.pid) ∧ W.cell? ⟨w.heap.size, 9, none⟩ = some (.int .i16 y.pe) ∧ W.cell? ⟨w.heap.size, 10, none⟩ = some (.int .i32 y.fs) ∧ W.cell? ⟨w.heap.size, 11, none⟩ = some (.slice A y.rs.length c) ∧ W.cell? ⟨w.heap.size, 12, none⟩ = some (.bool y.part) ∧ BoxB w w.heap.size 41 [.int .i64 y.fo, .int .i32 y.le, .int .i32 y.lo, .bool y.la, .bool y.tx, .bool y.ct, .int .i64 y.ft, .int .i64 y.mt, .int .i64 y.pid, .int .i16 y.pe, .int .i32 y.fs, .slice A y.rs.length c, .bool y.part] W)
    (first | with_reducible exact hbx.all | with_reducible exact hbx1.all | with_reducible exact hbx2.all)
    (first | (go_at_call 15; refine (f15 _).mono ?_; rintro e w3 ⟨rfl, hb3⟩; have hbx1 := BoxB.call hbx hb3) | (go_at_call 22; refine (f22 D _ y _ (by exact H.out.below hbx1.bel hD) (Nat.le_trans hD hbx1.bel.size) HRR.out (by omega) (by omega) n2 n3).mono ?_; rintro e w4 ⟨rfl, hb4⟩; have hbx2 := BoxB.call hbx1 hb4))
  have HF := Lib.hid hbx2.bel
  clear hbx hbx1 hbx2
  go_wp2
  go_ret
  refine ⟨?_, HF.out⟩
  show Ending.returned (Value.bool (y.fo + y.lo == IntKind.i64.wrap (y.fo + IntKind.i64.wrap y.lo))) = _
  rw [IntWalk.i64_in y.lo (by omega), HW]
  simp
end Go.Proofs.YtmiflkccfieefaaGreatDoor
