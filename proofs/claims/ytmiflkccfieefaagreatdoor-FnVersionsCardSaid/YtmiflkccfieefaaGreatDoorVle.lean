/-
  Versions are compared: KafkaVersion.IsAtLeast; made: newKafkaVersion.
-/
import Derived.Test.YtmiflkccfieefaaGreatDoorVst
namespace Go.Proofs.YtmiflkccfieefaaGreatDoor
open Go.ChangeShapes Go.WideShapes Go.ChangeAt Go.RowKit
set_option maxRecDepth 100000
set_option linter.unusedVariables false
set_option linter.unusedSimpArgs false

theorem f95 (a b c d : Int) (w : World) :
    Calls Tryz.prog 95 #[.int .u64 a, .int .u64 b, .int .u64 c, .int .u64 d] w fun e w' => e = .returned (.agg #[.int .u64 a, .int .u64 b, .int .u64 c, .int .u64 d]) ∧ Below w.heap.size w w' := by
  have hb0 : Below w.heap.size w (w.alloc (.cells #[.int .u64 a, .int .u64 b, .int .u64 c, .int .u64 d] 151)) := (Below.refl _ _).alloc (Nat.le_refl _) _
  have hp0 : Blk (w.alloc (.cells #[.int .u64 a, .int .u64 b, .int .u64 c, .int .u64 d] 151)) w.heap.size 151 [.int .u64 a, .int .u64 b, .int .u64 c, .int .u64 d] := Blk.new _ _ _
  have HB := Lib.hid (And.intro hb0 hp0)
  clear hb0 hp0
  go_enter Tryz.func95, Tryz.ntmps95
  go_wp2
  refine bodyPost_ret (results_cell_row rfl _ _ w.heap.size 151 #[.int .u64 a, .int .u64 b, .int .u64 c, .int .u64 d] (0, 0) _ rfl HB.out.2 Tryz.underlying151 rfl (by kernel_rfl)) rfl ?_
  exact ⟨rfl, HB.out.1⟩
theorem lex_gt {x y : Nat} {xs ys : List Nat} (h : y < x) : lexge (x :: xs) (y :: ys) = true := by
  simp only [lexge]
  rw [if_neg (by omega)]
  simpa using h
theorem lex_lt {x y : Nat} {xs ys : List Nat} (h : x < y) : lexge (x :: xs) (y :: ys) = false := by
  simp only [lexge]
  rw [if_neg (by omega)]
  simp
  omega
theorem lex_eq {x : Nat} {xs ys : List Nat} : lexge (x :: xs) (x :: ys) = lexge xs ys := by
  simp [lexge]
set_option maxHeartbeats 2000000 in
theorem f78 (a b c d a' b' c' d' : Nat) (w : World) :
    Calls Tryz.prog 78 #[.agg #[.int .u64 a, .int .u64 b, .int .u64 c, .int .u64 d], .agg #[.int .u64 a', .int .u64 b', .int .u64 c', .int .u64 d']] w fun e w' => e = .returned (.bool (lexge [a, b, c, d] [a', b', c', d'])) ∧ Below w.heap.size w w' := by
  have hb0 : Below w.heap.size w ((w.alloc (.cells #[.int .u64 a, .int .u64 b, .int .u64 c, .int .u64 d] 151)).alloc (.cells #[.int .u64 a', .int .u64 b', .int .u64 c', .int .u64 d'] 151)) := ((Below.refl _ _).alloc (Nat.le_refl _) _).alloc (by simp) _
  have hp0 : Blk ((w.alloc (.cells #[.int .u64 a, .int .u64 b, .int .u64 c, .int .u64 d] 151)).alloc (.cells #[.int .u64 a', .int .u64 b', .int .u64 c', .int .u64 d'] 151)) w.heap.size 151 [.int .u64 a, .int .u64 b, .int .u64 c, .int .u64 d] := (Blk.new w 151 [.int .u64 a, .int .u64 b, .int .u64 c, .int .u64 d]).alloc _
  have hp1 : Blk ((w.alloc (.cells #[.int .u64 a, .int .u64 b, .int .u64 c, .int .u64 d] 151)).alloc (.cells #[.int .u64 a', .int .u64 b', .int .u64 c', .int .u64 d'] 151)) (w.heap.size + 1) 151 [.int .u64 a', .int .u64 b', .int .u64 c', .int .u64 d'] := by
    have h := Blk.new (w.alloc (.cells #[.int .u64 a, .int .u64 b, .int .u64 c, .int .u64 d] 151)) 151 [.int .u64 a', .int .u64 b', .int .u64 c', .int .u64 d']
    simpa using h
  have H0 := Lib.hid (And.intro hb0 (And.intro hp0 hp1))
  clear hb0 hp0 hp1
  go_enter Tryz.func78, Tryz.ntmps78
  go_wp2
  go_loopw [6] (fun i wr => Hid (Below w.heap.size w wr ∧ Blk wr w.heap.size 151 [.int .u64 a, .int .u64 b, .int .u64 c, .int .u64 d] ∧ Blk wr (w.heap.size + 1) 151 [.int .u64 a', .int .u64 b', .int .u64 c', .int .u64 d']) ∧
      (i = .int .i64 0 ∨ (i = .int .i64 1 ∧ Hid (a = a')) ∨ (i = .int .i64 2 ∧ Hid (a = a' ∧ b = b')) ∨ (i = .int .i64 3 ∧ Hid (a = a' ∧ b = b' ∧ c = c')) ∨ (i = .int .i64 4 ∧ Hid (a = a' ∧ b = b' ∧ c = c' ∧ d = d')))) (fun i _ => 4 - (intOf i).toNat)
  case atStart => exact ⟨H0, .inl rfl⟩
  case round =>
    obtain ⟨hB, hrel⟩ := hrel
    rcases hrel with rfl | ⟨rfl, HE⟩ | ⟨rfl, HE⟩ | ⟨rfl, HE⟩ | ⟨rfl, HE⟩
    · have c0 := hB.out.2.1.cell 0
      have c1 := hB.out.2.2.cell 0
      simp only [List.getElem?_cons_zero, List.getElem?_cons_succ] at c0 c1
      by_cases hgt : a' < a
      · have hz : decide (a' < a) = true := by simpa using hgt
        have HR : Hid (lexge [a, b, c, d] [a', b', c', d'] = true) := by
          exact (by exact lex_gt hgt)
        clear hgt
        go_wp2
        go_quiet (fail)
        go_wp2
        go_ret
        exact ⟨by rw [HR.out]; rfl, ⟨hB.out.1.os, hB.out.1.tape, hB.out.1.output, hB.out.1.size, hB.out.1.block⟩⟩
      · have hz : decide (a' < a) = false := by simpa using hgt
        by_cases hlt : a < a'
        · have hz2 : decide (a < a') = true := by simpa using hlt
          have HR : Hid (lexge [a, b, c, d] [a', b', c', d'] = false) := by
            exact (by exact lex_lt hlt)
          clear hgt hlt
          go_wp2
          go_quiet (fail)
          go_wp2
          go_quiet (fail)
          go_wp2
          go_ret
          exact ⟨by rw [HR.out]; rfl, ⟨hB.out.1.os, hB.out.1.tape, hB.out.1.output, hB.out.1.size, hB.out.1.block⟩⟩
        · have hz2 : decide (a < a') = false := by simpa using hlt
          have hxy : a = a' := by omega
          have HN := Lib.hid hxy
          clear hgt hlt hxy
          go_wp2
          go_quiet (fail)
          go_wp2
          go_quiet (fail)
          go_wp2
          go_roundw
          case rel => exact ⟨⟨⟨hB.out.1.os, hB.out.1.tape, hB.out.1.output, hB.out.1.size, hB.out.1.block⟩, hB.out.2.1, hB.out.2.2⟩, .inr (.inl ⟨rfl, HN⟩)⟩
          case measure => simp [intOf]
    · have c0 := hB.out.2.1.cell 1
      have c1 := hB.out.2.2.cell 1
      simp only [List.getElem?_cons_zero, List.getElem?_cons_succ] at c0 c1
      by_cases hgt : b' < b
      · have hz : decide (b' < b) = true := by simpa using hgt
        have HR : Hid (lexge [a, b, c, d] [a', b', c', d'] = true) := by
          obtain rfl := HE.out
          exact (by rw [lex_eq]; exact lex_gt hgt)
        clear hgt
        go_wp2
        go_quiet (fail)
        go_wp2
        go_ret
        exact ⟨by rw [HR.out]; rfl, ⟨hB.out.1.os, hB.out.1.tape, hB.out.1.output, hB.out.1.size, hB.out.1.block⟩⟩
      · have hz : decide (b' < b) = false := by simpa using hgt
        by_cases hlt : b < b'
        · have hz2 : decide (b < b') = true := by simpa using hlt
          have HR : Hid (lexge [a, b, c, d] [a', b', c', d'] = false) := by
            obtain rfl := HE.out
            exact (by rw [lex_eq]; exact lex_lt hlt)
          clear hgt hlt
          go_wp2
          go_quiet (fail)
          go_wp2
          go_quiet (fail)
          go_wp2
          go_ret
          exact ⟨by rw [HR.out]; rfl, ⟨hB.out.1.os, hB.out.1.tape, hB.out.1.output, hB.out.1.size, hB.out.1.block⟩⟩
        · have hz2 : decide (b < b') = false := by simpa using hlt
          have hxy : b = b' := by omega
          have HN := Lib.hid hxy
          clear hgt hlt hxy
          go_wp2
          go_quiet (fail)
          go_wp2
          go_quiet (fail)
          go_wp2
          go_roundw
          case rel => exact ⟨⟨⟨hB.out.1.os, hB.out.1.tape, hB.out.1.output, hB.out.1.size, hB.out.1.block⟩, hB.out.2.1, hB.out.2.2⟩, .inr (.inr (.inl ⟨rfl, ⟨HE.out, HN.out⟩⟩))⟩
          case measure => simp [intOf]
    · have c0 := hB.out.2.1.cell 2
      have c1 := hB.out.2.2.cell 2
      simp only [List.getElem?_cons_zero, List.getElem?_cons_succ] at c0 c1
      by_cases hgt : c' < c
      · have hz : decide (c' < c) = true := by simpa using hgt
        have HR : Hid (lexge [a, b, c, d] [a', b', c', d'] = true) := by
          obtain ⟨rfl, rfl⟩ := HE.out
          exact (by rw [lex_eq, lex_eq]; exact lex_gt hgt)
        clear hgt
        go_wp2
        go_quiet (fail)
        go_wp2
        go_ret
        exact ⟨by rw [HR.out]; rfl, ⟨hB.out.1.os, hB.out.1.tape, hB.out.1.output, hB.out.1.size, hB.out.1.block⟩⟩
      · have hz : decide (c' < c) = false := by simpa using hgt
        by_cases hlt : c < c'
        · have hz2 : decide (c < c') = true := by simpa using hlt
          have HR : Hid (lexge [a, b, c, d] [a', b', c', d'] = false) := by
            obtain ⟨rfl, rfl⟩ := HE.out
            exact (by rw [lex_eq, lex_eq]; exact lex_lt hlt)
          clear hgt hlt
          go_wp2
          go_quiet (fail)
          go_wp2
          go_quiet (fail)
          go_wp2
          go_ret
          exact ⟨by rw [HR.out]; rfl, ⟨hB.out.1.os, hB.out.1.tape, hB.out.1.output, hB.out.1.size, hB.out.1.block⟩⟩
        · have hz2 : decide (c < c') = false := by simpa using hlt
          have hxy : c = c' := by omega
          have HN := Lib.hid hxy
          clear hgt hlt hxy
          go_wp2
          go_quiet (fail)
          go_wp2
          go_quiet (fail)
          go_wp2
          go_roundw
          case rel => exact ⟨⟨⟨hB.out.1.os, hB.out.1.tape, hB.out.1.output, hB.out.1.size, hB.out.1.block⟩, hB.out.2.1, hB.out.2.2⟩, .inr (.inr (.inr (.inl ⟨rfl, ⟨HE.out.1, HE.out.2, HN.out⟩⟩)))⟩
          case measure => simp [intOf]
    · have c0 := hB.out.2.1.cell 3
      have c1 := hB.out.2.2.cell 3
      simp only [List.getElem?_cons_zero, List.getElem?_cons_succ] at c0 c1
      by_cases hgt : d' < d
      · have hz : decide (d' < d) = true := by simpa using hgt
        have HR : Hid (lexge [a, b, c, d] [a', b', c', d'] = true) := by
          obtain ⟨rfl, rfl, rfl⟩ := HE.out
          exact (by rw [lex_eq, lex_eq, lex_eq]; exact lex_gt hgt)
        clear hgt
        go_wp2
        go_quiet (fail)
        go_wp2
        go_ret
        exact ⟨by rw [HR.out]; rfl, ⟨hB.out.1.os, hB.out.1.tape, hB.out.1.output, hB.out.1.size, hB.out.1.block⟩⟩
      · have hz : decide (d' < d) = false := by simpa using hgt
        by_cases hlt : d < d'
        · have hz2 : decide (d < d') = true := by simpa using hlt
          have HR : Hid (lexge [a, b, c, d] [a', b', c', d'] = false) := by
            obtain ⟨rfl, rfl, rfl⟩ := HE.out
            exact (by rw [lex_eq, lex_eq, lex_eq]; exact lex_lt hlt)
          clear hgt hlt
          go_wp2
          go_quiet (fail)
          go_wp2
          go_quiet (fail)
          go_wp2
          go_ret
          exact ⟨by rw [HR.out]; rfl, ⟨hB.out.1.os, hB.out.1.tape, hB.out.1.output, hB.out.1.size, hB.out.1.block⟩⟩
        · have hz2 : decide (d < d') = false := by simpa using hlt
          have hxy : d = d' := by omega
          have HN := Lib.hid hxy
          clear hgt hlt hxy
          go_wp2
          go_quiet (fail)
          go_wp2
          go_quiet (fail)
          go_wp2
          go_roundw
          case rel => exact ⟨⟨⟨hB.out.1.os, hB.out.1.tape, hB.out.1.output, hB.out.1.size, hB.out.1.block⟩, hB.out.2.1, hB.out.2.2⟩, .inr (.inr (.inr (.inr (⟨rfl, ⟨HE.out.1, HE.out.2.1, HE.out.2.2, HN.out⟩⟩))))⟩
          case measure => simp [intOf]
    · have HR : Hid (lexge [a, b, c, d] [a', b', c', d'] = true) := by
        obtain ⟨rfl, rfl, rfl, rfl⟩ := HE.out
        exact (by rw [lex_eq, lex_eq, lex_eq, lex_eq]; rfl)
      go_wp2
      go_ret
      exact ⟨by rw [HR.out]; rfl, hB.out.1⟩
end Go.Proofs.YtmiflkccfieefaaGreatDoor
