/-
  Whatever the kind of partitioner that the argument picks out of the five, the law answers true: each of them says that its choice must be respected; the argument reads as it did. No condition.
-/
import Derived.Test.YtdpcngkifpkokaaRows
import Derived.WalkKit
import Derived.ProofKit
import Derived.OpenShut
import Derived.WalkLawsBesides
namespace Go.Proofs.Ytdpcngkifpkokaa.fnPartitionSteady
open Go.ChangeShapes Go.WideShapes Go.ChangeAt Go.RowKit
set_option linter.unusedVariables false
set_option maxRecDepth 100000

theorem m36 (a : Option Addr) (w : World) : (method 300 36 (.pointer a) "RequiresConsistency").run Try.prog w = .ok (73, .pointer a) w := by kernel_rfl
theorem m42 (a : Option Addr) (w : World) : (method 300 42 (.pointer a) "RequiresConsistency").run Try.prog w = .ok (75, .pointer a) w := by kernel_rfl
theorem m45 (a : Option Addr) (w : World) : (method 300 45 (.pointer a) "RequiresConsistency").run Try.prog w = .ok (77, .pointer a) w := by kernel_rfl
def Steady (w : World) (e : Ending) (w' : World) : Prop := ∃ T a, (T = 36 ∨ T = 42 ∨ T = 45) ∧ e = .returned (.iface T (.pointer (some a))) ∧ Grown w w'
theorem h9 (s : ByteArray) (w : World) : Calls Try.prog 9 #[.string s] w (Steady w) := by
  go_enter Try.func9, Try.ntmps9
  go_wp2
  go_ret
  exact ⟨_, _, .inl rfl, rfl, by repeat (first | exact Grown.refl _ | apply Grown.drew | apply Grown.alloc)⟩
theorem h10 (s : ByteArray) (w : World) : Calls Try.prog 10 #[.string s] w (Steady w) := by
  go_enter Try.func10, Try.ntmps10
  go_wp2
  go_ret
  exact ⟨_, _, .inl rfl, rfl, by repeat (first | exact Grown.refl _ | apply Grown.drew | apply Grown.alloc)⟩
theorem h11 (s : ByteArray) (w : World) : Calls Try.prog 11 #[.string s] w (Steady w) := by
  go_enter Try.func11, Try.ntmps11
  go_wp2
  go_ret
  exact ⟨_, _, .inl rfl, rfl, by repeat (first | exact Grown.refl _ | apply Grown.drew | apply Grown.alloc)⟩
theorem h12 (s : ByteArray) (w : World) : Calls Try.prog 12 #[.string s] w (Steady w) := by
  go_enter Try.func12, Try.ntmps12
  go_wp2
  go_ret
  exact ⟨_, _, .inr (.inl rfl), rfl, by repeat (first | exact Grown.refl _ | apply Grown.drew | apply Grown.alloc)⟩
theorem h13 (s : ByteArray) (w : World) : Calls Try.prog 13 #[.string s] w (Steady w) := by
  go_enter Try.func13, Try.ntmps13
  go_wp2
  go_ret
  exact ⟨_, _, .inr (.inr rfl), rfl, by repeat (first | exact Grown.refl _ | apply Grown.drew | apply Grown.alloc)⟩
theorem h7 (k : Int) (h0 : 0 ≤ k) (h5 : k < 5) (w : World) : Calls Try.prog 7 #[.int .i64 k] w (Steady w) := by
  rcases (by omega : k = 0 ∨ k = 1 ∨ k = 2 ∨ k = 3 ∨ k = 4) with rfl | rfl | rfl | rfl | rfl
  all_goals
    go_enter Try.func7, Try.ntmps7
    go_wp2_with (first | (go_at_call 9; refine (h9 _ _).mono ?_) | (go_at_call 10; refine (h10 _ _).mono ?_) | (go_at_call 11; refine (h11 _ _).mono ?_) | (go_at_call 12; refine (h12 _ _).mono ?_) | (go_at_call 13; refine (h13 _ _).mono ?_))
    rintro e w1 ⟨T, a, hT, rfl, hg⟩
    go_wp2
    go_ret
    exact ⟨_, _, hT, rfl, hg⟩
theorem h5 (k : Int) (h0 : 0 ≤ k) (h5 : k < 5) (w : World) : Calls Try.prog 5 #[.int .i64 k] w fun e w' => e = .returned (.bool true) ∧ Grown w w' := by
  have m36 := m36
  have m42 := m42
  have m45 := m45
  go_enter Try.func5, Try.ntmps5
  go_wp2_with (go_at_call 7; refine (h7 _ h0 h5 _).mono ?_)
  rintro e w1 ⟨T, a, hT, rfl, hg⟩
  rcases hT with rfl | rfl | rfl
  all_goals
    go_wp2
    go_ret
    exact ⟨rfl, hg⟩
theorem walk (a0 : Int) (w0 : (Lit.int .u8 a0).wf = true) (w : World) :
    Calls Try.prog 3 #[.int .u8 a0] w fun e w' => e = .returned (.bool true) ∧ Grown w w' := by
  have hb := bounds_u8 w0
  go_enter Try.func3, Try.ntmps3
  go_wp2_with (go_at_call 5; refine (h5 _ (by omega) (by omega) _).mono ?_; rintro e w1 ⟨rfl, hg⟩)
  go_ret
  exact ⟨rfl, hg⟩

theorem own : ownKnob Try.prog.godebug = none := by kernel_rfl

/-! ### THE ROW's STEP: WRITTEN OUT: LEAVE IT -/
set_option maxRecDepth 100000 in
theorem lifted (os : Os) (started : os.Started) (H : Type) (enc : TypeId × Value → H) :
    ReturnsInHanded {} Try.checked os 3 .any (Rows.fnPartitionSteadySpec.pre6 enc Try.prog Try.f3 Rows.fnPartitionSteadyRow.domain false) (Rows.fnPartitionSteadySpec.post enc Try.prog Try.f3 false true false false) := by
  refine returnsInHanded_of_change (C := Try.checked) own started (by kernel_rfl) Try.func3
    (ChangeSpec.witness6 (enc := enc) (C := Try.checked) false ⟨#[], #[.int .u8 0], []⟩ 8 (by kernel_rfl) (by kernel_rfl) (by kernel_rfl) (by kernel_rfl)) ?_
  intro W base args ds gs before hval0 hW hcnd _
  have hval : ∀ (j : Nat) t v, Try.f3.params[j]? = some t → args[j]? = some v → Value.okWide Try.prog W .any base t v := hval0
  have hW' := hW
  obtain ⟨p, q, hA0, hV, rfl, hfz, hnd⟩ := hW
  have hA : DataW.TrodAll enc Try.prog W 0 (fun _ => true) true Try.f3.params.toList args.toList ds p := hA0
  rw [Try.params3] at hA hval
  obtain ⟨v0, vs0, d0, ds0, p0, q0, hargs, rfl, rfl, h0, r0⟩ := trodAll_cons hA
  obtain ⟨rfl, rfl, rfl⟩ := trodAll_nil r0
  obtain rfl : args = #[v0] := by cases args; simp_all
  obtain ⟨rfl, rfl⟩ := trodVars_none hV
  obtain ⟨a0, rfl, rfl, rfl, w0⟩ := open_int Try.underlying5 (hval 0 5 v0 rfl rfl) h0
  clear hA0 hval0
  simp only [List.append_nil] at hW'
  refine (walk a0 w0 W).mono fun e W' ⟨he, hg⟩ => ?_
  subst he
  exact ⟨_, rfl, post_of_same (pa := []) (pv := []) hW' (fun _ _ _ => (trodAll_cons_mk (shut_bool Try.underlying4 _) trodAll_mk0)) (fun sp _ => (trodAll_cons_mk (shut_int Try.underlying5 w0) trodAll_mk0)) (fun _ _ => rfl) rfl
    (hg.frame _) hg.2.1 (ok_one (by kernel_rfl) rfl (okWide_bool_mk Try.underlying4 _))⟩

theorem over : Rows.fnPartitionSteadyRow.holds Try.pinned (OpenSpec.ofChange Rows.fnPartitionSteadySpec) :=
  OpenClaim.holds_of_wide 3 Try.f3 rfl rfl rfl rfl rfl rfl rfl ⟨rfl, rfl, rfl, rfl, rfl⟩ rfl rfl rfl rfl rfl (by kernel_rfl) Try.func3 (by kernel_rfl)
    (of_decide_eq_true (by kernel_rfl)) (by unfold Func.isWrapper; first | (rw [if_pos (by decide +kernel)]; kernel_rfl) | (rw [if_neg (by decide +kernel)]; exact ⟨rfl, rfl⟩))
    (fun os started H enc _ => lifted os started H enc)

/-- ████ THE STATEMENT ████ -/
theorem proved : Rows.FnPartitionSteadySaid :=
  over
#print axioms proved
end Go.Proofs.Ytdpcngkifpkokaa.fnPartitionSteady
