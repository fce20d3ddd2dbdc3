/-
  Whatever strategy the argument picks out of the four, the law answers true: the sticky strategy and the picked one have their names; the argument reads as it did. No condition.
-/
import Derived.Test.YtdpcngkifpkokaaRows
import Derived.WalkKit
import Derived.ProofKit
import Derived.OpenShut
import Derived.WalkLawsBesides
import Derived.Deep.RegionWith
import Derived.BigQuiet
namespace Go.Proofs.Ytdpcngkifpkokaa.fnGroupNames
open Go.ChangeShapes Go.WideShapes Go.ChangeAt Go.RowKit
set_option linter.unusedVariables false
set_option maxRecDepth 100000

theorem m48 (a : Option Addr) (w : World) : (method 300 48 (.pointer a) "Name").run Try.prog w = .ok (79, .pointer a) w := by kernel_rfl
theorem m59 (a : Option Addr) (w : World) : (method 300 59 (.pointer a) "Name").run Try.prog w = .ok (82, .pointer a) w := by kernel_rfl
theorem m61 (a : Option Addr) (w : World) : (method 300 61 (.pointer a) "Name").run Try.prog w = .ok (85, .pointer a) w := by kernel_rfl
theorem m68 (a : Option Addr) (w : World) : (method 300 68 (.pointer a) "Name").run Try.prog w = .ok (88, .pointer a) w := by kernel_rfl
theorem s14 (w : World) : Calls Try.prog 14 #[] w fun e w' => ∃ f : Value, e = .returned (.iface 48 (.pointer (some ⟨w.heap.size, 0, none⟩))) ∧ w.alloc (.cells #[f, .string ⟨#[114, 97, 110, 103, 101]⟩] 58) = w' := by
  go_enter Try.func14, Try.ntmps14
  go_wp2
  go_ret
  exact ⟨_, rfl, rfl⟩
theorem s15 (w : World) : Calls Try.prog 15 #[] w fun e w' => e = .returned (.iface 59 (.pointer (some ⟨w.heap.size, 0, none⟩))) ∧ ∃ (cs : Array Value) (t : TypeId), w.alloc (.cells cs t) = w' := by
  go_enter Try.func15, Try.ntmps15
  go_wp2
  go_ret
  exact ⟨rfl, _, _, rfl⟩
theorem s16 (w : World) : Calls Try.prog 16 #[] w fun e w' => e = .returned (.iface 61 (.pointer (some ⟨w.heap.size, 0, none⟩))) ∧ ∃ (cs : Array Value) (t : TypeId), w.alloc (.cells cs t) = w' := by
  go_enter Try.func16, Try.ntmps16
  go_wp2
  go_ret
  exact ⟨rfl, _, _, rfl⟩
theorem s17 (w : World) : Calls Try.prog 17 #[] w fun e w' => e = .returned (.iface 68 (.pointer (some ⟨w.heap.size, 0, none⟩))) ∧ ∃ (cs : Array Value) (t : TypeId), w.alloc (.cells cs t) = w' := by
  go_enter Try.func17, Try.ntmps17
  go_wp2
  go_end0
  go_wp2
  go_ret
  exact ⟨rfl, _, _, rfl⟩
def Named (s : ByteArray) (w : World) (e : Ending) (w' : World) : Prop := e = .returned (.string s) ∧ ∃ (cs : Array Value) (t : TypeId), w.alloc (.cells cs t) = w'
theorem n0 (w : World) : Calls Try.prog 6 #[.int .i64 0] w (Named ⟨#[114, 97, 110, 103, 101]⟩ w) := by
  have m48 := m48
  go_enter Try.func6, Try.ntmps6
  go_wp2_with (first | (go_at_call 8; go_in) | (go_at_call 14; refine (s14 _).mono ?_; rintro e w1 ⟨f, rfl, rfl⟩) | (go_at_call 79; go_in))
  go_ret
  exact ⟨rfl, _, _, rfl⟩
theorem n1 (w : World) : Calls Try.prog 6 #[.int .i64 1] w (Named ⟨#[114, 111, 117, 110, 100, 114, 111, 98, 105, 110]⟩ w) := by
  have m59 := m59
  go_enter Try.func6, Try.ntmps6
  go_wp2_with (first | (go_at_call 8; go_in) | (go_at_call 15; refine (s15 _).mono ?_; rintro e w1 ⟨rfl, c1, t1, rfl⟩) | (go_at_call 82; go_in))
  go_ret
  exact ⟨rfl, _, _, rfl⟩
theorem n2 (w : World) : Calls Try.prog 6 #[.int .i64 2] w (Named ⟨#[115, 116, 105, 99, 107, 121]⟩ w) := by
  have m61 := m61
  go_enter Try.func6, Try.ntmps6
  go_wp2_with (first | (go_at_call 8; go_in) | (go_at_call 16; refine (s16 _).mono ?_; rintro e w1 ⟨rfl, c1, t1, rfl⟩) | (go_at_call 85; go_in))
  go_ret
  exact ⟨rfl, _, _, rfl⟩
theorem n3 (w : World) : Calls Try.prog 6 #[.int .i64 3] w (Named ⟨#[99, 111, 111, 112, 101, 114, 97, 116, 105, 118, 101, 45, 115, 116, 105, 99, 107, 121]⟩ w) := by
  have m68 := m68
  go_enter Try.func6, Try.ntmps6
  go_wp2_with (first | (go_at_call 8; go_in) | (go_at_call 17; refine (s17 _).mono ?_; rintro e w1 ⟨rfl, c1, t1, rfl⟩) | (go_at_call 88; go_in))
  go_ret
  exact ⟨rfl, _, _, rfl⟩
theorem law0 (a0 : Int) (w0 : (Lit.int .u8 a0).wf = true) (hk : a0 % 4 = 0) (w : World) :
    Calls Try.prog 4 #[.int .u8 a0] w fun e w' => e = .returned (.bool true) ∧ Grown w w' := by
  have hb := bounds_u8 w0
  go_enter Try.func4, Try.ntmps4
  go_wp2_with fail
  go_region_with (first | (go_at_call_of 6 (Value.int .i64 2); refine (n2 _).mono ?_; rintro e w1 ⟨rfl, c1, t1, rfl⟩) | (go_at_call_of 6 (Value.int .i64 0); refine (n0 _).mono ?_; rintro e w1 ⟨rfl, c1, t1, rfl⟩))
  all_goals (go_wp2; go_ret; exact ⟨rfl, by repeat (first | exact Grown.refl _ | apply Grown.drew | apply Grown.alloc)⟩)
theorem law1 (a0 : Int) (w0 : (Lit.int .u8 a0).wf = true) (hk : a0 % 4 = 1) (w : World) :
    Calls Try.prog 4 #[.int .u8 a0] w fun e w' => e = .returned (.bool true) ∧ Grown w w' := by
  have hb := bounds_u8 w0
  go_enter Try.func4, Try.ntmps4
  go_wp2_with fail
  go_region_with (first | (go_at_call_of 6 (Value.int .i64 2); refine (n2 _).mono ?_; rintro e w1 ⟨rfl, c1, t1, rfl⟩) | (go_at_call_of 6 (Value.int .i64 1); refine (n1 _).mono ?_; rintro e w1 ⟨rfl, c1, t1, rfl⟩))
  all_goals (go_wp2; go_ret; exact ⟨rfl, by repeat (first | exact Grown.refl _ | apply Grown.drew | apply Grown.alloc)⟩)
theorem law2 (a0 : Int) (w0 : (Lit.int .u8 a0).wf = true) (hk : a0 % 4 = 2) (w : World) :
    Calls Try.prog 4 #[.int .u8 a0] w fun e w' => e = .returned (.bool true) ∧ Grown w w' := by
  have hb := bounds_u8 w0
  go_enter Try.func4, Try.ntmps4
  go_wp2_with fail
  go_region_with (first | (go_at_call_of 6 (Value.int .i64 2); refine (n2 _).mono ?_; rintro e w1 ⟨rfl, c1, t1, rfl⟩))
  all_goals (go_wp2; go_ret; exact ⟨rfl, by repeat (first | exact Grown.refl _ | apply Grown.drew | apply Grown.alloc)⟩)
theorem law3 (a0 : Int) (w0 : (Lit.int .u8 a0).wf = true) (hk : a0 % 4 = 3) (w : World) :
    Calls Try.prog 4 #[.int .u8 a0] w fun e w' => e = .returned (.bool true) ∧ Grown w w' := by
  have hb := bounds_u8 w0
  go_enter Try.func4, Try.ntmps4
  go_wp2_with fail
  go_region_with (first | (go_at_call_of 6 (Value.int .i64 2); refine (n2 _).mono ?_; rintro e w1 ⟨rfl, c1, t1, rfl⟩) | (go_at_call_of 6 (Value.int .i64 3); refine (n3 _).mono ?_; rintro e w1 ⟨rfl, c1, t1, rfl⟩))
  all_goals (go_wp2; go_ret; exact ⟨rfl, by repeat (first | exact Grown.refl _ | apply Grown.drew | apply Grown.alloc)⟩)

theorem walk (a0 : Int) (w0 : (Lit.int .u8 a0).wf = true) (w : World) :
    Calls Try.prog 4 #[.int .u8 a0] w fun e w' => e = .returned (.bool true) ∧ Grown w w' := by
  have hb := bounds_u8 w0
  rcases (by omega : a0 % 4 = 0 ∨ a0 % 4 = 1 ∨ a0 % 4 = 2 ∨ a0 % 4 = 3) with h | h | h | h
  · exact law0 a0 w0 h w
  · exact law1 a0 w0 h w
  · exact law2 a0 w0 h w
  · exact law3 a0 w0 h w

theorem own : ownKnob Try.prog.godebug = none := by kernel_rfl

/-! ### THE ROW's STEP: WRITTEN OUT: LEAVE IT -/
set_option maxRecDepth 100000 in
theorem lifted (os : Os) (started : os.Started) (H : Type) (enc : TypeId × Value → H) :
    ReturnsInHanded {} Try.checked os 4 .any (Rows.fnGroupNamesSpec.pre6 enc Try.prog Try.f4 Rows.fnGroupNamesRow.domain false) (Rows.fnGroupNamesSpec.post enc Try.prog Try.f4 false true false false) := by
  refine returnsInHanded_of_change (C := Try.checked) own started (by kernel_rfl) Try.func4
    (ChangeSpec.witness6 (enc := enc) (C := Try.checked) false ⟨#[], #[.int .u8 0], []⟩ 8 (by kernel_rfl) (by kernel_rfl) (by kernel_rfl) (by kernel_rfl)) ?_
  intro W base args ds gs before hval0 hW hcnd _
  have hval : ∀ (j : Nat) t v, Try.f4.params[j]? = some t → args[j]? = some v → Value.okWide Try.prog W .any base t v := hval0
  have hW' := hW
  obtain ⟨p, q, hA0, hV, rfl, hfz, hnd⟩ := hW
  have hA : DataW.TrodAll enc Try.prog W 0 (fun _ => true) true Try.f4.params.toList args.toList ds p := hA0
  rw [Try.params4] at hA hval
  obtain ⟨v0, vs0, d0, ds0, p0, q0, hargs, rfl, rfl, h0, r0⟩ := trodAll_cons hA
  obtain ⟨rfl, rfl, rfl⟩ := trodAll_nil r0
  obtain rfl : args = #[v0] := by cases args; simp_all
  obtain ⟨rfl, rfl⟩ := trodVars_none hV
  obtain ⟨a0, rfl, rfl, rfl, w0⟩ := open_int Try.underlying5 (hval 0 5 v0 rfl rfl) h0
  clear hA0 hval0
  simp only [List.append_nil] at hW'
  refine (walk a0 w0 W).mono fun e W' ⟨he, hg⟩ => ?_
  subst he
  exact ⟨_, rfl, post_of_same (pa := []) (pv := []) hW' (fun _ _ _ => (trodAll_cons_mk (shut_bool Try.underlying4 _) trodAll_mk0)) (fun sp _ => (trodAll_cons_mk (shut_int Try.underlying5 w0) trodAll_mk0)) (fun _ _ => rfl) rfl
    (hg.frame _) hg.2.1 (ok_one (by kernel_rfl) rfl (okWide_bool_mk Try.underlying4 _))⟩

theorem over : Rows.fnGroupNamesRow.holds Try.pinned (OpenSpec.ofChange Rows.fnGroupNamesSpec) :=
  OpenClaim.holds_of_wide 4 Try.f4 rfl rfl rfl rfl rfl rfl rfl ⟨rfl, rfl, rfl, rfl, rfl⟩ rfl rfl rfl rfl rfl (by kernel_rfl) Try.func4 (by kernel_rfl)
    (of_decide_eq_true (by kernel_rfl)) (by unfold Func.isWrapper; first | (rw [if_pos (by decide +kernel)]; kernel_rfl) | (rw [if_neg (by decide +kernel)]; exact ⟨rfl, rfl⟩))
    (fun os started H enc _ => lifted os started H enc)

/-- ████ THE STATEMENT ████ -/
theorem proved : Rows.FnGroupNamesSaid :=
  over
#print axioms proved
end Go.Proofs.Ytdpcngkifpkokaa.fnGroupNames
