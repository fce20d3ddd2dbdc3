/-
  A batch, opened.
-/
import Derived.Test.YtmiflkccfieefaaGreatDoorOpn
import Derived.Test.YtmiflkccfieefaaGreatDoorBtr
namespace Go.Proofs.YtmiflkccfieefaaGreatDoor
open Go.ChangeShapes Go.WideShapes Go.ChangeAt Go.RowKit Go.Deep
set_option maxRecDepth 100000
set_option linter.unusedVariables false
set_option linter.unusedSimpArgs false

theorem Tryz.cells39 : Tryz.prog.cellsOf 39 = 1 := by kernel_rfl
theorem Tryz.cells21 : Tryz.prog.cellsOf 21 = 1 := by kernel_rfl
theorem Tryz.cells38 : Tryz.prog.cellsOf 38 = 1 := by kernel_rfl
theorem Tryz.cells41 : Tryz.prog.cellsOf 41 = 13 := by kernel_rfl

section
variable {H : Type} {enc : TypeId × Value → H} {W : World} {base : Nat} {sp : Nat → Bool} {held : Bool}
theorem in_recs {n : Nat} {cs : List Value} {y : DataW H × List MemPlace} (h : DataW.trod enc Tryz.prog W base sp held n 39 cs = some y) :
    ∃ v rs, cs = [v] ∧ RsIn W W.heap.size v rs ∧ RsBig rs := by
  rcases open_slice Tryz.underlying39 h with ⟨rfl, _⟩ | ⟨a, len, cap, m, n', D, Pl, rfl, hb, hl, hm, hmm, _, hel⟩
  · exact ⟨_, [], rfl, ⟨none, 0, rfl, fun h => absurd rfl h⟩, by simp, fun x hx => by cases hx⟩
  · rw [Tryz.cells28] at hel
    have hle : len ≤ m := by rw [hmm]; split <;> omega
    have key : ∀ i, i < len → ∃ x : RecV, a.block < W.heap.size ∧ RElem W W.heap.size a i x ∧ RBig x := by
      intro i hi
      obtain ⟨cs', hc, ht⟩ := hel i (by omega)
      obtain ⟨_, hlen, hat⟩ := World.cells?_some hc
      obtain ⟨x, kd, vd, hv, hcs, hri, hbig, _⟩ := in_rec ht
      subst hcs
      obtain ⟨kd', vd', hv', he, d1, d2, d3⟩ := hri
      have he2 : [Value.int .i8 x.attr, .int .i64 x.tm, .int .i64 x.od, .bool x.key.1, kd, .bool x.val.1, vd, hv] = [.int .i8 x.attr, .int .i64 x.tm, .int .i64 x.od, .bool x.key.1, kd', .bool x.val.1, vd', hv'] := by
        injection he with he
        simpa using congrArg Array.toList he
      simp at he2
      obtain ⟨rfl, rfl, rfl⟩ := he2
      have k0 := hat 0 (by simp)
      have k1 := hat 1 (by simp)
      have k2 := hat 2 (by simp)
      have k3 := hat 3 (by simp)
      have k4 := hat 4 (by simp)
      have k5 := hat 5 (by simp)
      have k6 := hat 6 (by simp)
      have k7 := hat 7 (by simp)
      have hlt := lt_of_cell (k0.trans rfl)
      simp only [add_block] at hlt
      exact ⟨x, hlt, ⟨_, _, _, k0, k1, k2, k3, k4, k5, k6, k7, d1, d2, d3⟩, hbig⟩
    obtain ⟨rs, hlen, hall⟩ := choose_list _ len key
    refine ⟨_, rs, rfl, ⟨some a, cap, by rw [hlen], fun hne => ⟨a, rfl, ?_, fun i hi => (hall i hi).2.1⟩⟩, by rw [hlen]; have : maxLen = 9223372036854775807 := rfl; omega, fun x hx => ?_⟩
    · have h0 : 0 < rs.length := by cases rs with | nil => exact absurd rfl hne | cons _ _ => simp
      exact (hall 0 h0).1
    · obtain ⟨i, hi, rfl⟩ := List.mem_iff_getElem.1 hx
      exact (hall i hi).2.2
def BNumX (y : BatV) : Prop := -9223372036854775808 ≤ y.fo ∧ y.fo ≤ 9223372036854775807 ∧ -2147483648 ≤ y.lo ∧ y.lo ≤ 2147483647
theorem in_batch {n : Nat} {cs : List Value} {y : DataW H × List MemPlace} (h : DataW.trod enc Tryz.prog W base sp held n 41 cs = some y) :
    ∃ b : BatV, BIn W W.heap.size (.agg cs.toArray) b ∧ RsBig b.rs ∧ BNumX b := by
  obtain ⟨xs, m, _, _, hl, hlen, hf⟩ := DataW.trod_struct Tryz.underlying41 h
  rw [Tryz.cells41] at hl
  match cs, hl, xs, hlen with
  | [c0, c1, c2, c3, c4, c5, c6, c7, c8, c9, c10, c11, c12], _, [y0, y1, y2, y3, y4, y5, y6, y7, y8, y9, y10, y11, y12], _ =>
    have h0 : DataW.trod enc Tryz.prog W base sp held m 2 (([c0, c1, c2, c3, c4, c5, c6, c7, c8, c9, c10, c11, c12].drop 0).take (Tryz.prog.cellsOf 2)) = some y0 := hf 0 _ rfl
    have h1 : DataW.trod enc Tryz.prog W base sp held m 21 (([c0, c1, c2, c3, c4, c5, c6, c7, c8, c9, c10, c11, c12].drop 1).take (Tryz.prog.cellsOf 21)) = some y1 := hf 1 _ rfl
    have h2 : DataW.trod enc Tryz.prog W base sp held m 21 (([c0, c1, c2, c3, c4, c5, c6, c7, c8, c9, c10, c11, c12].drop 2).take (Tryz.prog.cellsOf 21)) = some y2 := hf 2 _ rfl
    have h3 : DataW.trod enc Tryz.prog W base sp held m 4 (([c0, c1, c2, c3, c4, c5, c6, c7, c8, c9, c10, c11, c12].drop 3).take (Tryz.prog.cellsOf 4)) = some y3 := hf 3 _ rfl
    have h4 : DataW.trod enc Tryz.prog W base sp held m 4 (([c0, c1, c2, c3, c4, c5, c6, c7, c8, c9, c10, c11, c12].drop 4).take (Tryz.prog.cellsOf 4)) = some y4 := hf 4 _ rfl
    have h5 : DataW.trod enc Tryz.prog W base sp held m 4 (([c0, c1, c2, c3, c4, c5, c6, c7, c8, c9, c10, c11, c12].drop 5).take (Tryz.prog.cellsOf 4)) = some y5 := hf 5 _ rfl
    have h6 : DataW.trod enc Tryz.prog W base sp held m 2 (([c0, c1, c2, c3, c4, c5, c6, c7, c8, c9, c10, c11, c12].drop 6).take (Tryz.prog.cellsOf 2)) = some y6 := hf 6 _ rfl
    have h7 : DataW.trod enc Tryz.prog W base sp held m 2 (([c0, c1, c2, c3, c4, c5, c6, c7, c8, c9, c10, c11, c12].drop 7).take (Tryz.prog.cellsOf 2)) = some y7 := hf 7 _ rfl
    have h8 : DataW.trod enc Tryz.prog W base sp held m 2 (([c0, c1, c2, c3, c4, c5, c6, c7, c8, c9, c10, c11, c12].drop 8).take (Tryz.prog.cellsOf 2)) = some y8 := hf 8 _ rfl
    have h9 : DataW.trod enc Tryz.prog W base sp held m 38 (([c0, c1, c2, c3, c4, c5, c6, c7, c8, c9, c10, c11, c12].drop 9).take (Tryz.prog.cellsOf 38)) = some y9 := hf 9 _ rfl
    have h10 : DataW.trod enc Tryz.prog W base sp held m 21 (([c0, c1, c2, c3, c4, c5, c6, c7, c8, c9, c10, c11, c12].drop 10).take (Tryz.prog.cellsOf 21)) = some y10 := hf 10 _ rfl
    have h11 : DataW.trod enc Tryz.prog W base sp held m 39 (([c0, c1, c2, c3, c4, c5, c6, c7, c8, c9, c10, c11, c12].drop 11).take (Tryz.prog.cellsOf 39)) = some y11 := hf 11 _ rfl
    have h12 : DataW.trod enc Tryz.prog W base sp held m 4 (([c0, c1, c2, c3, c4, c5, c6, c7, c8, c9, c10, c11, c12].drop 12).take (Tryz.prog.cellsOf 4)) = some y12 := hf 12 _ rfl
    rw [Tryz.cells2] at h0 h6 h7 h8
    rw [Tryz.cells4] at h3 h4 h5 h12
    rw [Tryz.cells21] at h1 h2 h10
    rw [Tryz.cells38] at h9
    rw [Tryz.cells39] at h11
    obtain ⟨z0, e0, _, w0⟩ := DataW.trod_int Tryz.underlying2 (x := y0) h0
    obtain ⟨z1, e1, _, w1⟩ := DataW.trod_int Tryz.underlying21 (x := y1) h1
    obtain ⟨z2, e2, _, w2⟩ := DataW.trod_int Tryz.underlying21 (x := y2) h2
    obtain ⟨z3, e3, _⟩ := DataW.trod_bool Tryz.underlying4 (x := y3) h3
    obtain ⟨z4, e4, _⟩ := DataW.trod_bool Tryz.underlying4 (x := y4) h4
    obtain ⟨z5, e5, _⟩ := DataW.trod_bool Tryz.underlying4 (x := y5) h5
    obtain ⟨z6, e6, _, w6⟩ := DataW.trod_int Tryz.underlying2 (x := y6) h6
    obtain ⟨z7, e7, _, w7⟩ := DataW.trod_int Tryz.underlying2 (x := y7) h7
    obtain ⟨z8, e8, _, w8⟩ := DataW.trod_int Tryz.underlying2 (x := y8) h8
    obtain ⟨z9, e9, _, w9⟩ := DataW.trod_int Tryz.underlying38 (x := y9) h9
    obtain ⟨z10, e10, _, w10⟩ := DataW.trod_int Tryz.underlying21 (x := y10) h10
    obtain ⟨v11, rs, e11, d11, g11⟩ := in_recs (y := y11) h11
    obtain ⟨z12, e12, _⟩ := DataW.trod_bool Tryz.underlying4 (x := y12) h12
    simp at e0 e1 e2 e3 e4 e5 e6 e7 e8 e9 e10 e11 e12
    subst e0 e1 e2 e3 e4 e5 e6 e7 e8 e9 e10 e11 e12
    have b0 := bounds_i64 w0
    have b2 := bounds_i32 w2
    exact ⟨⟨z0, z1, z2, z3, z4, z5, z6, z7, z8, z9, z10, rs, z12⟩, ⟨_, rfl, d11⟩, g11, b0.1, b0.2, b2.1, b2.2⟩
end
end Go.Proofs.YtmiflkccfieefaaGreatDoor
