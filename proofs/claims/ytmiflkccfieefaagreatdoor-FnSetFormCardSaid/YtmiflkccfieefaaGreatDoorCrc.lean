/-
  The sum of 32 bits: what the package's loops compute.
-/
import Derived.Test.YtmiflkccfieefaaGreatDoorReal
namespace Go.Proofs.YtmiflkccfieefaaGreatDoor
open Go.ChangeShapes Go.WideShapes Go.ChangeAt Go.RowKit
set_option maxRecDepth 100000
set_option linter.unusedVariables false

/-- One bit; k bits; a byte; bytes. -/
def crcBit (p y : Int) : Int := if (bits .and .u32 y 1 == 1) = true then bits .xor .u32 (y / 2) p else y / 2
def crcIt (p : Int) : Nat → Int → Int
  | 0, y => y
  | k + 1, y => crcBit p (crcIt p k y)
def crcByte (p x : Int) (b : UInt8) : Int := crcIt p 8 (bits .xor .u32 x ((b.toNat : Int) % 4294967296))
def crcL (p x : Int) (l : List UInt8) : Int := l.foldl (crcByte p) x
/-- The sum of bytes by a polynomial. -/
def crc (p : Int) (l : List UInt8) : Int := bits .xor .u32 IntKind.u32.max (crcL p (bits .xor .u32 IntKind.u32.max 0) l)

theorem xor_range (a b : Int) : 0 ≤ bits .xor .u32 a b ∧ bits .xor .u32 a b < 4294967296 := by
  have h := bounds_u32 (wf_bits .xor .u32 a b)
  omega
theorem crcBit_range {p y : Int} (h0 : 0 ≤ y) (h1 : y < 4294967296) : 0 ≤ crcBit p y ∧ crcBit p y < 4294967296 := by
  unfold crcBit
  split
  · exact xor_range _ _
  · omega
theorem crcIt_range {p y : Int} (h0 : 0 ≤ y) (h1 : y < 4294967296) : ∀ k, 0 ≤ crcIt p k y ∧ crcIt p k y < 4294967296
  | 0 => ⟨h0, h1⟩
  | k + 1 => by
    obtain ⟨a, b⟩ := crcIt_range (p := p) h0 h1 k
    exact crcBit_range a b
theorem crcL_range {p x : Int} (h0 : 0 ≤ x) (h1 : x < 4294967296) : ∀ l, 0 ≤ crcL p x l ∧ crcL p x l < 4294967296 := by
  intro l
  induction l generalizing x with
  | nil => exact ⟨h0, h1⟩
  | cons b l ih =>
    obtain ⟨a, c⟩ := xor_range x ((b.toNat : Int) % 4294967296)
    obtain ⟨d, e⟩ := crcIt_range (p := p) a c 8
    exact ih d e
theorem crcL_snoc (p x : Int) (l : List UInt8) (b : UInt8) : crcL p x (l ++ [b]) = crcByte p (crcL p x l) b := by simp [crcL, List.foldl_append]
theorem crc_range (p : Int) (l : List UInt8) : 0 ≤ crc p l ∧ crc p l < 4294967296 := xor_range _ _

set_option maxHeartbeats 1000000 in
theorem c273 (c0 : Int) (tb : Nat) (p : Int) (a : Addr) (c : Nat) (l : List UInt8) (w : World) (hl : l.length ≤ 1000000000) (ht : w.cell? ⟨tb, 0, none⟩ = some (.int .u32 p))
    (hc : ∀ j u, (Lib.byteCells l)[j]? = some u → w.cell? (a.add j) = some u) :
    Calls Tryz.prog 273 #[.int .u32 c0, .pointer (some ⟨tb, 0, none⟩), .slice (some a) l.length c] w fun e w' => e = .returned (.int .u32 (bits .xor .u32 IntKind.u32.max (crcL p (bits .xor .u32 IntKind.u32.max c0) l))) ∧ w = w' := by
  have hs0 := xor_range IntKind.u32.max c0
  have HC := Lib.hid hc
  clear hc
  generalize hs : bits .xor .u32 IntKind.u32.max c0 = s0 at hs0
  have HS := Lib.hid hs
  clear hs
  go_enter Tryz.func273, Tryz.ntmps273
  go_wp2
  rw [HS.out]
  go_loop [0, 13] (fun s i => ∃ k : Nat, k ≤ l.length ∧ i = .int .i64 k ∧ s = .int .u32 (crcL p s0 (l.take k))) (fun _ i => l.length - (intOf i).toNat)
  case atStart => exact ⟨0, by omega, rfl, rfl⟩
  case round =>
    obtain ⟨k, hk, rfl, rfl⟩ := hrel
    by_cases hlt : k < l.length
    · have hu : w.cell? (a.add k) = some (.int .u8 (l[k]).toNat) := HC.out k _ (by simp [Lib.byteCells, hlt])
      have hr := xor_range (crcL p s0 (l.take k)) (((l[k]).toNat : Int) % 4294967296)
      have HE : Hid (crcL p s0 (l.take (k + 1)) = crcIt p 8 (bits .xor .u32 (crcL p s0 (l.take k)) (((l[k]).toNat : Int) % 4294967296))) := by
        rw [List.take_succ_eq_append_getElem hlt, crcL_snoc]
        rfl
      generalize hy : bits .xor .u32 (crcL p s0 (l.take k)) (((l[k]).toNat : Int) % 4294967296) = y0 at hr HE
      have HY := Lib.hid hy
      clear hy
      go_wp2
      rw [HY.out]
      go_loop [0, 21] (fun s i => ∃ j : Nat, j ≤ 8 ∧ i = .int .i64 j ∧ s = .int .u32 (crcIt p j y0)) (fun _ i => 8 - (intOf i).toNat)
      case atStart => exact ⟨0, by omega, rfl, rfl⟩
      case round =>
        obtain ⟨j, hj, rfl, rfl⟩ := hrel
        have hyr := crcIt_range (p := p) hr.1 hr.2 j
        by_cases hlt8 : j < 8
        · have HB : ∀ v : Int, v = crcBit p (crcIt p j y0) → Hid (crcIt p (j + 1) y0 = v) := fun v hv => hv.symm
          go_wp2
          all_goals
            go_round
            case rel =>
              refine ⟨j + 1, by omega, by go_num, ?_⟩
              have e : crcIt p (j + 1) y0 = crcBit p (crcIt p j y0) := rfl
              rw [e, crcBit]
              first | rw [if_pos ‹_›] | rw [if_neg (by simp [*])]
            case measure => simp [intOf]; omega
        · obtain rfl : j = 8 := by omega
          go_wp2
          go_round
          case rel => exact ⟨k + 1, by omega, by go_num, by rw [HE.out]⟩
          case measure => simp [intOf]; omega
    · obtain rfl : k = l.length := by omega
      go_wp2
      go_ret
      exact ⟨rfl, rfl⟩

theorem c271 (p : Int) (w : World) : Calls Tryz.prog 271 #[.int .u32 p] w fun e w' => e = .returned (.pointer (some ⟨w.heap.size, 0, none⟩)) ∧ w.alloc (.cells #[.int .u32 p] 364) = w' := by
  go_enter Tryz.func271, Tryz.ntmps271
  go_wp2
  go_ret
  exact ⟨rfl, rfl⟩
theorem c272 (tb : Nat) (p : Int) (a : Addr) (n c : Nat) (l : List UInt8) (w : World) (hn : l.length = n) (hl : l.length ≤ 1000000000) (ht : w.cell? ⟨tb, 0, none⟩ = some (.int .u32 p))
    (hc : ∀ j u, (Lib.byteCells l)[j]? = some u → w.cell? (a.add j) = some u) :
    Calls Tryz.prog 272 #[.slice (some a) n c, .pointer (some ⟨tb, 0, none⟩)] w fun e w' => e = .returned (.int .u32 (crc p l)) ∧ w = w' := by
  have HC := Lib.hid hc
  clear hc
  subst hn
  go_enter Tryz.func272, Tryz.ntmps272
  go_wp2_with (go_at_call 273; refine (c273 0 tb p a c l _ hl ht HC.out).mono ?_; rintro e w1 ⟨rfl, rfl⟩)
  go_ret
  exact ⟨rfl, rfl⟩
/-- The usual polynomial. -/
def ieee : Int := 3988292384
theorem c271i (w : World) : Calls Tryz.prog 271 #[.int .u32 3988292384] w fun e w' => e = .returned (.pointer (some ⟨w.heap.size, 0, none⟩)) ∧ w.alloc (.cells #[.int .u32 ieee] 364) = w' := c271 ieee w
/-- crc32Field.crc: the sum of the bytes behind the sum's own four. -/
theorem c270 (r g so : Nat) (N off : Nat) (a mid body rest : List UInt8) (w : World) (hr : w.cell? ⟨r, 0, none⟩ = some (.int .i64 so)) (hk : w.cell? ⟨r, 1, none⟩ = some (.int .i8 0)) (hg : Blk w g 5 (Lib.byteCells (a ++ (mid ++ (body ++ rest)))))
    (ha : a.length = so) (hb1 : 1 ≤ body.length) (hm : mid.length = 4) (hoff : off = so + 4 + body.length) (hN : so + 4 + body.length + rest.length = N) (hN1 : N ≤ 1000000000) :
    Calls Tryz.prog 270 #[.pointer (some ⟨r, 0, none⟩), .int .i64 off, .slice (some ⟨g, 0, none⟩) N N] w fun e w' => e = .returned (.tuple #[.int .u32 (crc ieee body), .nilIface]) ∧ Kept w.heap.size [] w w' := by
  have hcells : ∀ j u, (Lib.byteCells body)[j]? = some u → ∀ w1, Kept w.heap.size [] w w1 → w1.cell? ⟨g, so + 4 + j, none⟩ = some u := by
    intro j u hu w1 hk1
    have hj : j < body.length := by
      have := (List.getElem?_eq_some_iff.1 hu).1
      rwa [Lib.byteCells_length] at this
    have h1 := hg.kept hk1 (by simp) (.inl hg.lt)
    rw [h1.cell, ← hu]
    simp only [Lib.byteCells_append]
    rw [List.getElem?_append_right (by rw [Lib.byteCells_length]; omega), Lib.byteCells_length, List.getElem?_append_right (by rw [Lib.byteCells_length]; omega), Lib.byteCells_length,
      List.getElem?_append_left (by rw [Lib.byteCells_length]; omega)]
    congr 1
    omega
  have hrl := World.block_lt_of_cell? w _ hr
  have HG := Lib.hid (And.intro ha (And.intro hm (And.intro hoff hN)))
  have HC := Lib.hid hcells
  have hso : (so : Int) + 4 ≤ 1000000000 := by omega
  have b1 : so + 4 ≤ off := by omega
  have b2 : off ≤ N := by omega
  have b3 : off ≤ 1000000000 := by omega
  have b4 : ¬ N = so + 4 := by omega
  clear hg ha hm hoff hN hcells
  go_enter Tryz.func270, Tryz.ntmps270
  go_wp2_with (go_at_call 271; refine (c271i _).mono ?_; rintro e w1 ⟨rfl, rfl⟩)
  go_wp2_with fail
  have hk1 : Kept w.heap.size [] w (w.alloc (.cells #[.int .u32 ieee] 364)) := (Kept.refl _ _ _).alloc _
  refine (c272 _ ieee _ _ _ body _ (by have := HG.out; omega) (by have := HG.out; omega) (by simp) ?_).mono ?_
  · intro j u hu
    have hadd : (⟨g, so + 4, none⟩ : Addr).add j = ⟨g, so + 4 + j, none⟩ := by unfold Addr.add; split <;> simp_all
    rw [hadd]
    exact HC.out j u hu _ hk1
  · rintro e w2 ⟨rfl, rfl⟩
    have HK := Lib.hid hk1
    clear hk1
    go_wp2
    go_ret2
    exact ⟨rfl, HK.out⟩
end Go.Proofs.YtmiflkccfieefaaGreatDoor
