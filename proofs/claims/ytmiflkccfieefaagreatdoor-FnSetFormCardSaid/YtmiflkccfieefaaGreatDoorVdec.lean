/-
  A varint is read back, whatever stands behind it.
-/
import Derived.Lib.Varint
import Derived.Lib.VarintDec
import Derived.Lib.Zigzag
namespace Go.Proofs.YtmiflkccfieefaaGreatDoor

theorem uvarintFrom_back : ∀ (n x i acc : Nat) (r : List UInt8), x ≤ n → i ≤ 9 → x * 2 ^ (7 * i) < 18446744073709551616 →
    Lib.uvarintFrom i acc (Lib.uvarint x ++ r) = (acc + x * 2 ^ (7 * i), ((i + (Lib.uvarint x).length : Nat) : Int)) := by
  intro n
  induction n with
  | zero =>
    intro x i acc r hx hi hlt
    obtain rfl : x = 0 := by omega
    rw [Lib.uvarint_small (by omega)]
    simp [Lib.uvarintFrom]
    omega
  | succ n ih =>
    intro x i acc r hx hi hlt
    by_cases h : x < 128
    · rw [Lib.uvarint_small h]
      have hb : x.toUInt8.toNat = x := by simp; omega
      simp only [List.cons_append, List.nil_append, Lib.uvarintFrom, hb]
      rw [if_neg (by omega), if_pos h, if_neg (by
        rintro ⟨rfl, h1⟩
        have e : (2 : Nat) ^ (7 * 9) = 9223372036854775808 := by decide
        rw [e] at hlt
        omega)]
      simp
    · rw [Lib.uvarint_big (by omega)]
      have hb : (x % 128 + 128).toUInt8.toNat = x % 128 + 128 := by simp; omega
      have hi9 : i ≠ 9 := by
        rintro rfl
        have e : (2 : Nat) ^ (7 * 9) = 9223372036854775808 := by decide
        rw [e] at hlt
        omega
      have he : 2 ^ (7 * (i + 1)) = 128 * 2 ^ (7 * i) := by
        rw [show 7 * (i + 1) = 7 + 7 * i by omega, Nat.pow_add]
      have hle : x / 128 * 2 ^ (7 * (i + 1)) ≤ x * 2 ^ (7 * i) := by
        rw [he, ← Nat.mul_assoc]
        exact Nat.mul_le_mul_right _ (by omega)
      simp only [List.cons_append, Lib.uvarintFrom, hb]
      rw [if_neg (by omega), if_neg (by omega), ih (x / 128) (i + 1) _ r (by omega) (by omega) (by omega)]
      refine Prod.ext ?_ ?_
      · simp only []
        rw [he, ← Nat.mul_assoc, Nat.add_assoc, ← Nat.add_mul]
        congr 2
        omega
      · simp only [List.length_cons]
        omega
theorem unzigzag_back (x : Int) : Lib.unzigzag (Lib.zigzag x) = x := by
  unfold Lib.unzigzag Lib.zigzag
  split <;> split <;> omega
theorem varint_back {x : Int} (h0 : -9223372036854775808 ≤ x) (h1 : x ≤ 9223372036854775807) (r : List UInt8) :
    Lib.varintDec (Lib.uvarint (Lib.zigzag x) ++ r) = (x, ((Lib.uvarint (Lib.zigzag x)).length : Int)) := by
  unfold Lib.varintDec Lib.uvarintDec
  rw [uvarintFrom_back _ _ 0 0 r (Nat.le_refl _) (by omega) (by have := Lib.zigzag_lt h0 h1; simpa using this)]
  simp [unzigzag_back]
end Go.Proofs.YtmiflkccfieefaaGreatDoor
