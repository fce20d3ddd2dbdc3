/-
  Versions, in plain lists: digits, points, and what a parser makes of them.
-/
import Derived.Lib.ItoaNum
namespace Go.Proofs.YtmiflkccfieefaaGreatDoor
open Go.Lib
set_option linter.unusedVariables false
set_option linter.unusedSimpArgs false

/-- What the parser has: the numbers that are read whole, the one that is being read, its digits. -/
structure PS where
  l : List Nat
  n : Nat
  d : Nat
def pstep (s : PS) (c : UInt8) : PS := if c = 46 then ⟨s.l ++ [s.n], 0, 0⟩ else ⟨s.l, s.n * 10 + (c.toNat - 48), s.d + 1⟩
def pok (s : PS) (c : UInt8) : Prop := (c = 46 ∧ 0 < s.d) ∨ (c ≠ 46 ∧ 48 ≤ c.toNat ∧ c.toNat ≤ 57 ∧ s.n ≤ 99)
def Pok : PS → List UInt8 → Prop
  | _, [] => True
  | s, c :: r => pok s c ∧ Pok (pstep s c) r
def prun (s : PS) (l : List UInt8) : PS := l.foldl pstep s
theorem prun_append (s : PS) (a b : List UInt8) : prun s (a ++ b) = prun (prun s a) b := by simp [prun]
theorem Pok.app : ∀ (a b : List UInt8) (s : PS), Pok s a → Pok (prun s a) b → Pok s (a ++ b)
  | [], _, _, _, h => h
  | c :: a, b, s, h, k => ⟨h.1, Pok.app a b _ h.2 k⟩
theorem Pok.at_ : ∀ (l : List UInt8) (s : PS) (k : Nat) (h : k < l.length), Pok s l → pok (prun s (l.take k)) l[k]
  | [], _, _, h, _ => by simp at h
  | c :: r, s, 0, _, h => h.1
  | c :: r, s, k + 1, h, p => Pok.at_ r _ k (by simpa using h) p.2
theorem prun_snoc (s : PS) (l : List UInt8) (k : Nat) (h : k < l.length) : prun s (l.take (k + 1)) = pstep (prun s (l.take k)) l[k] := by
  rw [List.take_succ_eq_append_getElem h, prun_append]; rfl
theorem prun_n : ∀ (l : List UInt8) (s : PS), Pok s l → s.n ≤ 999 → (prun s l).n ≤ 999
  | [], _, _, h => h
  | c :: r, s, p, h => prun_n r _ p.2 (by
    rcases p.1 with ⟨e, _⟩ | ⟨e, h1, h2, h3⟩
    · simp [pstep, e]
    · simp only [pstep, e, if_false]; omega)
theorem prun_d : ∀ (l : List UInt8) (s : PS), (prun s l).d ≤ s.d + l.length
  | [], _ => Nat.le_refl _
  | c :: r, s => by
    have := prun_d r (pstep s c)
    have : (pstep s c).d ≤ s.d + 1 := by unfold pstep; split <;> simp
    simp only [List.length_cons]
    show (prun (pstep s c) r).d ≤ _
    omega
theorem prun_l : ∀ (l : List UInt8) (s : PS), (prun s l).l.length ≤ s.l.length + l.length
  | [], _ => Nat.le_refl _
  | c :: r, s => by
    have := prun_l r (pstep s c)
    have : (pstep s c).l.length ≤ s.l.length + 1 := by unfold pstep; split <;> simp
    simp only [List.length_cons]
    show (prun (pstep s c) r).l.length ≤ _
    omega
theorem Pok.take : ∀ (l : List UInt8) (s : PS) (k : Nat), Pok s l → Pok s (l.take k)
  | [], _, k, _ => by simp [Pok]
  | c :: r, s, 0, _ => by simp [Pok]
  | c :: r, s, k + 1, h => ⟨h.1, Pok.take r _ k h.2⟩
/-- A digit. -/
theorem dig_ok {m : Nat} (h : m < 10) {s : PS} (hn : s.n ≤ 99) : pok s (UInt8.ofNat (48 + m)) ∧ pstep s (UInt8.ofNat (48 + m)) = ⟨s.l, s.n * 10 + m, s.d + 1⟩ := by
  have e : (UInt8.ofNat (48 + m)).toNat = 48 + m := by simp; omega
  have ne : UInt8.ofNat (48 + m) ≠ 46 := fun he => by
    have := congrArg UInt8.toNat he
    rw [e] at this
    simp at this
    omega
  refine ⟨.inr ⟨ne, by omega, by omega, hn⟩, ?_⟩
  simp only [pstep, ne, if_false, e]
  congr 2
  omega
theorem dd3 {n : Nat} (h1 : ¬ n < 100) (h2 : n < 1000) : decDigits n = [UInt8.ofNat (48 + n / 100), UInt8.ofNat (48 + n / 10 % 10), UInt8.ofNat (48 + n % 10)] := by
  rw [decDigits, dif_neg (by omega), decDigits_two (by omega) (by omega)]
  have e : n / 10 / 10 = n / 100 := by omega
  rw [e]
  rfl
theorem seg (n : Nat) (h : n ≤ 999) (ls : List Nat) : Pok ⟨ls, 0, 0⟩ (decDigits n) ∧ ∃ d, 0 < d ∧ prun ⟨ls, 0, 0⟩ (decDigits n) = ⟨ls, n, d⟩ := by
  by_cases h1 : n < 10
  · rw [decDigits_one h1]
    obtain ⟨a, b⟩ := dig_ok (m := n) h1 (s := ⟨ls, 0, 0⟩) (by simp)
    refine ⟨⟨a, trivial⟩, 1, by omega, ?_⟩
    show pstep _ _ = _
    rw [b]
    simp
  by_cases h2 : n < 100
  · rw [decDigits_two h1 h2]
    obtain ⟨a, b⟩ := dig_ok (m := n / 10) (by omega) (s := ⟨ls, 0, 0⟩) (by simp)
    simp only [Nat.zero_mul, Nat.zero_add] at b
    obtain ⟨a2, b2⟩ := dig_ok (m := n % 10) (by omega) (s := ⟨ls, n / 10, 1⟩) (by simp; omega)
    refine ⟨⟨a, by rw [b]; exact ⟨a2, trivial⟩⟩, 2, by omega, ?_⟩
    show pstep (pstep _ _) _ = _
    rw [b, b2]
    simp
    omega
  · rw [dd3 h2 (by omega)]
    obtain ⟨a, b⟩ := dig_ok (m := n / 100) (by omega) (s := ⟨ls, 0, 0⟩) (by simp)
    simp only [Nat.zero_mul, Nat.zero_add] at b
    obtain ⟨a2, b2⟩ := dig_ok (m := n / 10 % 10) (by omega) (s := ⟨ls, n / 100, 1⟩) (by simp; omega)
    obtain ⟨a3, b3⟩ := dig_ok (m := n % 10) (by omega) (s := ⟨ls, n / 100 * 10 + n / 10 % 10, 2⟩) (by simp; omega)
    refine ⟨⟨a, by rw [b]; refine ⟨a2, ?_⟩; rw [b2]; exact ⟨a3, trivial⟩⟩, 3, by omega, ?_⟩
    show pstep (pstep (pstep _ _) _) _ = _
    rw [b, b2, b3]
    simp
    omega
/-- Numbers, with points between them. -/
def dotted : List Nat → List UInt8
  | [] => []
  | [n] => decDigits n
  | n :: r => decDigits n ++ 46 :: dotted r
theorem dotted_ok : ∀ (r : List Nat) (n : Nat) (ls : List Nat), n ≤ 999 → (∀ x ∈ r, x ≤ 999) → Pok ⟨ls, 0, 0⟩ (dotted (n :: r)) ∧ ∃ d, 0 < d ∧ (prun ⟨ls, 0, 0⟩ (dotted (n :: r))).d = d ∧ (prun ⟨ls, 0, 0⟩ (dotted (n :: r))).l ++ [(prun ⟨ls, 0, 0⟩ (dotted (n :: r))).n] = ls ++ (n :: r)
  | [], n, ls, h, _ => by
    obtain ⟨a, d, hd, e⟩ := seg n h ls
    refine ⟨a, d, hd, ?_⟩
    show (prun _ (decDigits n)).d = d ∧ _
    rw [show dotted [n] = decDigits n from rfl, e]
    exact ⟨rfl, rfl⟩
  | m :: r, n, ls, h, hr => by
    obtain ⟨a, d, hd, e⟩ := seg n h ls
    obtain ⟨a2, d2, hd2, e2, e3⟩ := dotted_ok r m (ls ++ [n]) (hr m (by simp)) (fun x hx => hr x (by simp [hx]))
    have hp : pstep ⟨ls, n, d⟩ 46 = ⟨ls ++ [n], 0, 0⟩ := rfl
    have e4 : prun ⟨ls, 0, 0⟩ (dotted (n :: m :: r)) = prun ⟨ls ++ [n], 0, 0⟩ (dotted (m :: r)) := by
      rw [show dotted (n :: m :: r) = decDigits n ++ 46 :: dotted (m :: r) from rfl, prun_append, e]
      rfl
    refine ⟨?_, d2, hd2, ?_⟩
    · refine Pok.app _ _ _ a ?_
      rw [e]
      exact ⟨.inl ⟨rfl, hd⟩, by rw [hp]; exact a2⟩
    · rw [e4]
      exact ⟨e2, by rw [e3]; simp⟩
theorem dec_len {n : Nat} (h : n ≤ 999) : 1 ≤ (decDigits n).length ∧ (decDigits n).length ≤ 3 := by
  by_cases h1 : n < 10
  · rw [decDigits_one h1]; simp
  by_cases h2 : n < 100
  · rw [decDigits_two h1 h2]; simp
  · rw [dd3 h2 (by omega)]; simp
theorem dec_zero : decDigits 0 = [48] := by rw [decDigits_one (by omega)]; rfl
theorem dec_head {n : Nat} (h : n ≤ 999) (h0 : 0 < n) : ∃ c r, decDigits n = c :: r ∧ c ≠ 48 := by
  have key : ∀ m, 0 < m → m < 10 → UInt8.ofNat (48 + m) ≠ 48 := fun m a b he => by
    have e : (UInt8.ofNat (48 + m)).toNat = 48 + m := by simp; omega
    have := congrArg UInt8.toNat he
    rw [e] at this
    simp at this
    omega
  by_cases h1 : n < 10
  · rw [decDigits_one h1]; exact ⟨_, _, rfl, key _ h0 h1⟩
  by_cases h2 : n < 100
  · rw [decDigits_two h1 h2]; exact ⟨_, _, rfl, key _ (by omega) (by omega)⟩
  · rw [dd3 h2 (by omega)]; exact ⟨_, _, rfl, key _ (by omega) (by omega)⟩
/-- The numbers that a version's text tells. -/
def vnums (a b c d : Nat) : List Nat := if 0 < a then [a, b, c] else [a, b, c, d]
/-- Of two lists one is at least the other. -/
def lexge : List Nat → List Nat → Bool
  | x :: xs, y :: ys => if x = y then lexge xs ys else decide (y < x)
  | _, _ => true
end Go.Proofs.YtmiflkccfieefaaGreatDoor
