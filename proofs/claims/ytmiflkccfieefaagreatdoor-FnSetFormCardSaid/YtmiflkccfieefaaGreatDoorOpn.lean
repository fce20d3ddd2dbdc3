/-
  The laws' arguments, opened: bytes, a pair of a flag and bytes, a record.
-/
import Derived.Test.YtmiflkccfieefaaGreatDoorFit
import Derived.ProofKit
import Derived.Deep.Slices
namespace Go.Proofs.YtmiflkccfieefaaGreatDoor
open Go.ChangeShapes Go.WideShapes Go.ChangeAt Go.RowKit Go.Deep
set_option maxRecDepth 100000
set_option linter.unusedVariables false
set_option linter.unusedSimpArgs false

theorem Tryz.cells5 : Tryz.prog.cellsOf 5 = 1 := by kernel_rfl
theorem Tryz.cells4 : Tryz.prog.cellsOf 4 = 1 := by kernel_rfl
theorem Tryz.cells2 : Tryz.prog.cellsOf 2 = 1 := by kernel_rfl
theorem Tryz.cells22 : Tryz.prog.cellsOf 22 = 1 := by kernel_rfl
theorem Tryz.cells23 : Tryz.prog.cellsOf 23 = 1 := by kernel_rfl
theorem Tryz.cells25 : Tryz.prog.cellsOf 25 = 2 := by kernel_rfl
theorem Tryz.cells26 : Tryz.prog.cellsOf 26 = 1 := by kernel_rfl
theorem Tryz.cells28 : Tryz.prog.cellsOf 28 = 8 := by kernel_rfl
theorem Tryz.cells90 : Tryz.prog.cellsOf 90 = 4 := by kernel_rfl

section
variable {H : Type} {enc : TypeId × Value → H} {W : World} {base : Nat} {sp : Nat → Bool} {held : Bool}
theorem lt_of_cell {w : World} {a : Addr} {v : Value} (h : w.cell? a = some v) : a.block < w.heap.size := by
  rcases Nat.lt_or_ge a.block w.heap.size with hl | hl
  · exact hl
  · have e : w.heap[a.block]? = none := Array.getElem?_eq_none hl
    simp [World.cell?, e] at h
theorem in_bytes {n : Nat} {cs : List Value} {y : DataW H × List MemPlace} (h : DataW.trod enc Tryz.prog W base sp held n 23 cs = some y) :
    ∃ v l, cs = [v] ∧ DataAt W W.heap.size v l ∧ l.length ≤ maxLen := by
  rcases open_ints Tryz.underlying23 Tryz.underlying5 Tryz.cells5 h with ⟨rfl, _⟩ | ⟨a, len, cap, zs, rfl, hb, hl, hm, hlen, _, hc, hw⟩
  · exact ⟨_, [], rfl, .inr (.inl ⟨rfl, rfl⟩), Nat.zero_le _⟩
  · have hle : len ≤ zs.length := by rw [hlen]; split <;> omega
    have hll : ((zs.take len).map fun z => UInt8.ofNat z.toNat).length = len := by simp; omega
    refine ⟨_, (zs.take len).map fun z => UInt8.ofNat z.toNat, rfl, .inr (.inr ⟨a, cap, by rw [hll], fun j u hj => ?_⟩), by rw [hll]; omega⟩
    have hjl : j < len := by
      have := (List.getElem?_eq_some_iff.1 hj).1
      simp only [Lib.byteCells_length] at this
      omega
    have hjz : j < zs.length := by omega
    have hcj := hc j hjz
    have e : zs.getD j 0 = zs[j] := by simp [List.getD, List.getElem?_eq_getElem hjz]
    rw [e] at hcj
    have hwf := hw zs[j] (List.getElem_mem hjz)
    have hbd := bounds_u8 hwf
    have hu : u = .int .u8 zs[j] := by
      have hj' : (Lib.byteCells ((zs.take len).map fun z => UInt8.ofNat z.toNat))[j]? = some (.int .u8 zs[j]) := by
        simp only [Lib.byteCells, List.map_map, List.getElem?_map, List.getElem?_take, hjl, if_true, List.getElem?_eq_getElem hjz, Option.map_some, Function.comp]
        congr 2
        have : (zs[j].toNat) % 256 = zs[j].toNat := Nat.mod_eq_of_lt (by omega)
        simp [this]
        omega
      exact Option.some.inj (hj.symm.trans hj')
    subst hu
    have hlt := lt_of_cell hcj
    rw [add_block] at hlt
    exact ⟨hlt, hcj⟩
theorem in_bp {n : Nat} {cs : List Value} {y : DataW H × List MemPlace} (h : DataW.trod enc Tryz.prog W base sp held n 25 cs = some y) :
    ∃ b v l, cs = [.bool b, v] ∧ DataAt W W.heap.size v l ∧ l.length ≤ maxLen := by
  obtain ⟨y0, y1, m, _, hl, h0, h1⟩ := trod_struct2 Tryz.underlying25 h
  rw [Tryz.cells25] at hl
  match cs, hl with
  | [c0, c1], _ =>
    rw [Tryz.cells4] at h0
    rw [Tryz.cells23] at h1
    obtain ⟨b, hb, _⟩ := DataW.trod_bool Tryz.underlying4 h0
    obtain ⟨v, l, hv, hd, hle⟩ := in_bytes h1
    simp at hb hv
    subst hb hv
    exact ⟨b, _, l, rfl, hd, hle⟩
theorem choose_list {α : Type} (p : Nat → α → Prop) : ∀ n, (∀ i, i < n → ∃ x, p i x) → ∃ l : List α, l.length = n ∧ ∀ i (h : i < l.length), p i l[i]
  | 0, _ => ⟨[], rfl, fun i h => by simp at h⟩
  | n + 1, h => by
    obtain ⟨l, hl, hp⟩ := choose_list p n (fun i hi => h i (by omega))
    obtain ⟨x, hx⟩ := h n (by omega)
    refine ⟨l ++ [x], by simp [hl], fun i hi => ?_⟩
    by_cases hin : i < l.length
    · rw [List.getElem_append_left hin]
      exact hp i hin
    · have : i = n := by simp at hi; omega
      subst this
      rw [List.getElem_append_right (by omega)]
      simpa using hx
theorem in_row {n : Nat} {cs : List Value} {y : DataW H × List MemPlace} (h : DataW.trod enc Tryz.prog W base sp held n 26 cs = some y) :
    ∃ v hs, cs = [v] ∧ HIn W W.heap.size v hs ∧ HBig hs := by
  rcases open_slice Tryz.underlying26 h with ⟨rfl, _⟩ | ⟨a, len, cap, m, n', D, Pl, rfl, hb, hl, hm, hmm, _, hel⟩
  · exact ⟨_, [], rfl, ⟨none, 0, rfl, fun h => absurd rfl h⟩, by simp, fun x hx => by cases hx⟩
  · rw [Tryz.cells90] at hel
    have hle : len ≤ m := by rw [hmm]; split <;> omega
    have key : ∀ i, i < len → ∃ x : BP × BP, a.block < W.heap.size ∧ HElem W W.heap.size a i x ∧ x.1.2.length ≤ maxLen ∧ x.2.2.length ≤ maxLen := by
      intro i hi
      obtain ⟨cs', hc, ht⟩ := hel i (by omega)
      obtain ⟨_, hlen, hat⟩ := World.cells?_some hc
      obtain ⟨y0, y1, k, _, _, h0, h1⟩ := trod_struct2 Tryz.underlying90 ht
      match cs', hlen with
      | [c0, c1, c2, c3], _ =>
        simp only [Tryz.cells25] at h0 h1
        obtain ⟨b0, v0, l0, e0, d0, g0⟩ := in_bp h0
        obtain ⟨b1, v1, l1, e1, d1, g1⟩ := in_bp h1
        simp at e0 e1
        obtain ⟨rfl, rfl⟩ := e0
        obtain ⟨rfl, rfl⟩ := e1
        have k0 := hat 0 (by omega)
        have k1 := hat 1 (by omega)
        have k2 := hat 2 (by omega)
        have k3 := hat 3 (by omega)
        have hlt := lt_of_cell (k0.trans rfl)
        simp only [add_block] at hlt
        exact ⟨((b0, l0), (b1, l1)), hlt, ⟨_, _, k0, k1, k2, k3, d0, d1⟩, g0, g1⟩
    obtain ⟨hs, hlen, hall⟩ := choose_list _ len key
    refine ⟨_, hs, rfl, ⟨some a, cap, by rw [hlen], fun hne => ⟨a, rfl, ?_, fun i hi => (hall i hi).2.1⟩⟩, by rw [hlen]; have : maxLen = 9223372036854775807 := rfl; omega, fun x hx => ?_⟩
    · have h0 : 0 < hs.length := by cases hs with | nil => exact absurd rfl hne | cons _ _ => simp
      exact (hall 0 h0).1
    · obtain ⟨i, hi, rfl⟩ := List.mem_iff_getElem.1 hx
      have := (hall i hi).2.2
      exact this
/-- The whole numbers' bounds. -/
def RNumX (x : RecV) : Prop := -128 ≤ x.attr ∧ x.attr ≤ 127 ∧ -9223372036854775808 ≤ x.od ∧ x.od ≤ 9223372036854775807
theorem in_rec {n : Nat} {cs : List Value} {y : DataW H × List MemPlace} (h : DataW.trod enc Tryz.prog W base sp held n 28 cs = some y) :
    ∃ x kd vd hv, cs = [.int .i8 x.attr, .int .i64 x.tm, .int .i64 x.od, .bool x.key.1, kd, .bool x.val.1, vd, hv] ∧ RIn W W.heap.size (.agg cs.toArray) x ∧ RBig x ∧ RNumX x := by
  obtain ⟨xs, m, _, _, hl, hlen, hf⟩ := DataW.trod_struct Tryz.underlying28 h
  rw [Tryz.cells28] at hl
  match cs, hl, xs, hlen with
  | [c0, c1, c2, c3, c4, c5, c6, c7], _, [y0, y1, y2, y3, y4, y5], _ =>
    have h0 : DataW.trod enc Tryz.prog W base sp held m 22 (([c0, c1, c2, c3, c4, c5, c6, c7].drop 0).take (Tryz.prog.cellsOf 22)) = some y0 := hf 0 _ rfl
    have h1 : DataW.trod enc Tryz.prog W base sp held m 2 (([c0, c1, c2, c3, c4, c5, c6, c7].drop 1).take (Tryz.prog.cellsOf 2)) = some y1 := hf 1 _ rfl
    have h2 : DataW.trod enc Tryz.prog W base sp held m 2 (([c0, c1, c2, c3, c4, c5, c6, c7].drop 2).take (Tryz.prog.cellsOf 2)) = some y2 := hf 2 _ rfl
    have h3 : DataW.trod enc Tryz.prog W base sp held m 25 (([c0, c1, c2, c3, c4, c5, c6, c7].drop 3).take (Tryz.prog.cellsOf 25)) = some y3 := hf 3 _ rfl
    have h4 : DataW.trod enc Tryz.prog W base sp held m 25 (([c0, c1, c2, c3, c4, c5, c6, c7].drop 5).take (Tryz.prog.cellsOf 25)) = some y4 := hf 4 _ rfl
    have h5 : DataW.trod enc Tryz.prog W base sp held m 26 (([c0, c1, c2, c3, c4, c5, c6, c7].drop 7).take (Tryz.prog.cellsOf 26)) = some y5 := hf 5 _ rfl
    rw [Tryz.cells22] at h0
    rw [Tryz.cells2] at h1 h2
    rw [Tryz.cells25] at h3 h4
    rw [Tryz.cells26] at h5
    obtain ⟨z0, e0, _, w0⟩ := DataW.trod_int Tryz.underlying22 (x := y0) h0
    obtain ⟨z1, e1, _, w1⟩ := DataW.trod_int Tryz.underlying2 (x := y1) h1
    obtain ⟨z2, e2, _, w2⟩ := DataW.trod_int Tryz.underlying2 (x := y2) h2
    obtain ⟨b3, v3, l3, e3, d3, g3⟩ := in_bp (y := y3) h3
    obtain ⟨b4, v4, l4, e4, d4, g4⟩ := in_bp (y := y4) h4
    obtain ⟨v5, hs, e5, d5, g5⟩ := in_row (y := y5) h5
    simp at e0 e1 e2 e3 e4 e5
    subst e0 e1 e2 e5
    obtain ⟨rfl, rfl⟩ := e3
    obtain ⟨rfl, rfl⟩ := e4
    have b0 := bounds_i8 w0
    have b1 := bounds_i64 w1
    have b2 := bounds_i64 w2
    exact ⟨⟨z0, z1, z2, (b3, l3), (b4, l4), hs⟩, _, _, _, rfl, ⟨_, _, _, rfl, d3, d4, d5⟩, ⟨g3, g4, g5⟩, ⟨b0.1, b0.2, b2.1, b2.2⟩⟩
end
end Go.Proofs.YtmiflkccfieefaaGreatDoor
