/-
  The law's versions: digits and texts (laws.digits, laws.version).
-/
import Derived.Test.YtmiflkccfieefaaGreatDoorVpl
import Derived.Test.YtmiflkccfieefaaGreatDoorByt
namespace Go.Proofs.YtmiflkccfieefaaGreatDoor
open Go.ChangeShapes Go.WideShapes Go.ChangeAt Go.RowKit
set_option maxRecDepth 100000
set_option linter.unusedVariables false
set_option linter.unusedSimpArgs false

/-- A list of bytes as a string. -/
def bs (l : List UInt8) : ByteArray := ⟨l.toArray⟩
theorem bs_app (a b : List UInt8) : bs a ++ bs b = bs (a ++ b) := by
  unfold bs
  apply ByteArray.ext
  simp
theorem bs_size (a : List UInt8) : (bs a).size = a.length := by simp [bs, ByteArray.size]
theorem add_bs (a b : List UInt8) (h : a.length + b.length ≤ 9223372036854775807) (w : World) : (Op.stringOp .add (bs a) (bs b)).run Tryz.prog w = .ok (.string (bs (a ++ b))) w := by
  rw [run_string_add_sum w _ _ (by rw [bs_size, bs_size]; omega), bs_app]
theorem one_data (w : World) (c : Int) (u : UInt8) (h : c = (u.toNat : Int)) : DataAt (w.alloc (.cells #[.int .u8 c] 5)) (w.heap.size + 1) (.slice (some ⟨w.heap.size, 0, none⟩) 1 1) [u] := by
  subst h
  refine .inl ⟨⟨w.heap.size, 0, none⟩, 1, #[.int .u8 u.toNat], (0, 0), rfl, by simp, heap_alloc_new _ _, fun j v hj => ?_⟩
  have hc : ∀ k, (w.alloc (.cells #[.int .u8 u.toNat] 5)).cell? ⟨w.heap.size, k, none⟩ = (#[Value.int .u8 u.toNat] : Array Value)[k]? := fun k => cell_of_row _ _ _ _ _ _ (heap_alloc_new _ _)
  match j, hj with
  | 0, hj =>
    have e : (⟨w.heap.size, 0, none⟩ : Addr).add 0 = ⟨w.heap.size, 0, none⟩ := rfl
    rw [e, hc]
    simpa [Lib.byteCells] using hj
  | j + 1, hj => simp [Lib.byteCells] at hj
theorem f73a (n : Nat) (w : World) (hn : n < 10) : Calls Tryz.prog 73 #[.int .i64 n] w fun e w' => e = .returned (.string (bs (Lib.decDigits n))) ∧ Below w.heap.size w w' := by
  have hb : Below w.heap.size w (w.alloc (.cells #[.int .u8 (48 + n)] 5)) := (Below.refl _ _).alloc (Nat.le_refl _) _
  have ks := run_str (w.alloc (.cells #[.int .u8 (48 + n)] 5)) (w.heap.size + 1) _ _ (one_data w (48 + n) (UInt8.ofNat (48 + n)) (by simp; omega))
  rw [← Lib.decDigits_one hn] at ks
  have HB := Lib.hid hb
  clear hb
  go_enter Tryz.func73, Tryz.ntmps73
  go_wp2
  go_ret
  exact ⟨rfl, HB.out⟩
theorem f73b (n : Nat) (w : World) (hn : n < 100) : Calls Tryz.prog 73 #[.int .i64 n] w fun e w' => e = .returned (.string (bs (Lib.decDigits n))) ∧ Below w.heap.size w w' := by
  by_cases h : n < 10
  · exact f73a n w h
  · have e : Lib.decDigits n = Lib.decDigits (n / 10) ++ Lib.decDigits (n % 10) := by
      rw [Lib.decDigits_two h hn, Lib.decDigits_one (by omega), Lib.decDigits_one (by omega)]
      rfl
    rw [e]
    clear e
    have hx := dec_len (n := n / 10) (by omega)
    have hy := dec_len (n := n % 10) (by omega)
    have ha := add_bs (Lib.decDigits (n / 10)) (Lib.decDigits (n % 10)) (by omega)
    clear hx hy
    go_enter Tryz.func73, Tryz.ntmps73
    go_wp2_with fail
    refine (f73a (n / 10) _ (by omega)).mono ?_
    rintro e w1 ⟨rfl, hb1⟩
    have H1 := Lib.hid hb1
    clear hb1
    go_wp2_with fail
    refine (f73a (n % 10) _ (by omega)).mono ?_
    rintro e w2 ⟨rfl, hb2⟩
    have H2 := Lib.hid (H1.out.trans (hb2.mono H1.out.size))
    clear hb2
    go_wp2
    go_ret
    exact ⟨rfl, H2.out⟩
theorem f73 (n : Nat) (w : World) (hn : n ≤ 999) : Calls Tryz.prog 73 #[.int .i64 n] w fun e w' => e = .returned (.string (bs (Lib.decDigits n))) ∧ Below w.heap.size w w' := by
  by_cases h : n < 100
  · exact f73b n w h
  · have e : Lib.decDigits n = Lib.decDigits (n / 10) ++ Lib.decDigits (n % 10) := by
      rw [dd3 h (by omega), Lib.decDigits_two (by omega) (by omega), Lib.decDigits_one (by omega)]
      have e : n / 10 / 10 = n / 100 := by omega
      rw [e]
      rfl
    rw [e]
    clear e
    have hx := dec_len (n := n / 10) (by omega)
    have hy := dec_len (n := n % 10) (by omega)
    have ha := add_bs (Lib.decDigits (n / 10)) (Lib.decDigits (n % 10)) (by omega)
    clear hx hy
    go_enter Tryz.func73, Tryz.ntmps73
    go_wp2_with fail
    refine (f73b (n / 10) _ (by omega)).mono ?_
    rintro e w1 ⟨rfl, hb1⟩
    have H1 := Lib.hid hb1
    clear hb1
    go_wp2_with fail
    refine (f73a (n % 10) _ (by omega)).mono ?_
    rintro e w2 ⟨rfl, hb2⟩
    have H2 := Lib.hid (H1.out.trans (hb2.mono H1.out.size))
    clear hb2
    go_wp2
    go_ret
    exact ⟨rfl, H2.out⟩
end Go.Proofs.YtmiflkccfieefaaGreatDoor
