/-
  The law FnBatchLast: the last offset of a batch is its first one and the delta of the last one: for every batch that can be read, whatever the memory and the schedule, the law answers true and leaves its argument as it was.
  Conditions: those of the given row alone: the variable sarama.ErrUnknownMessage reads as the program's text lays it, which the given tie pays.
-/
import Derived.Test.YtmiflkccfieefaaGreatDoorLst
import Derived.Test.YtmiflkccfieefaaGreatDoorBro
import Derived.Test.YtmiflkccfieefaaGreatDoorPst
namespace Go.Proofs.YtmiflkccfieefaaGreatDoor
open Go.ChangeShapes Go.WideShapes Go.ChangeAt Go.RowKit
set_option linter.unusedVariables false

theorem agg_backB {W : World} {D : Nat} {c0 : Array Value} {x : BatV} (h : BIn W D (.agg (Value.agg c0).cells.toList.toArray) x) : BIn W D (.agg c0) x := by
  have e : (Value.agg c0).cells.toList.toArray = c0 := by simp [Value.cells]
  rw [e] at h
  exact h
set_option maxRecDepth 100000 in
theorem fnBatchLast_lifted (os : Os) (started : os.Started) (H : Type) (enc : TypeId × Value → H) :
    ReturnsInHanded {} Tryz.checked os 4 .any (fun w args => (Rows.fnBatchLastSpec.pre enc Tryz.prog Tryz.f4 Rows.fnBatchLastRow.domain false w args ∧ laidMetH Tryz.prog Rows.fnBatchLastRow.laid w) ∧ sizedMet enc Tryz.prog Tryz.f4 (OpenSpec.ofChange Rows.fnBatchLastSpec) false w args)
      (Rows.fnBatchLastSpec.post enc Tryz.prog Tryz.f4 false true false false) := by
  refine returnsInHanded_of_change_and (C := Tryz.checked) (X := fun w _ => laidMetH Tryz.prog Rows.fnBatchLastRow.laid w) (fun _ _ _ hh h => h.of_heap hh) Tryz.ownq started (by kernel_rfl) Tryz.func4
    (ChangeSpec.witness_shaped (enc := enc) (C := Tryz.checked) (os := os) (X := fun w _ => laidMetH Tryz.prog Rows.fnBatchLastRow.laid w) false (World.laidAll Tryz.prog os Rows.fnBatchLastRow.laid) #[.agg #[.int .i64 0, .int .i32 0, .int .i32 0, .bool false, .bool false, .bool false, .int .i64 0, .int .i64 0, .int .i64 0, .int .i16 0, .int .i32 0, .slice none 0 0, .bool false]] 8 (World.laidAll_os _ _ _)
      (World.shaped_of_ZipB (by kernel_rfl) (by kernel_rfl)) (by kernel_rfl) (by kernel_rfl) (by kernel_rfl)
      (by rw [MakeChecks.laidMetH_plain _ _ _ (by kernel_rfl)]; exact laidMet_laidAll _ (by kernel_rfl) (by kernel_rfl))) ?_
  intro W base args ds gs before hval0 hW hc _ hL _
  have hval : ∀ (j : Nat) t v, Tryz.f4.params[j]? = some t → args[j]? = some v → Value.okWide Tryz.prog W .any base t v := hval0
  have hW' := hW
  have hWl := hW.lt
  obtain ⟨p, q, hA0, hV, rfl, _, _⟩ := hW
  have hA : DataW.TrodAll enc Tryz.prog W 0 (fun _ => true) true Tryz.f4.params.toList args.toList ds p := hA0
  rw [Tryz.params4] at hA hval
  obtain ⟨v0, d0, rfl, rfl, h0⟩ := trodAll_one hA
  obtain ⟨rfl, rfl⟩ := trodVars_none hV
  obtain ⟨c0, rfl, hsz0⟩ := okWide_struct Tryz.underlying41 (hval 0 41 v0 rfl rfl)
  obtain ⟨n0, g0⟩ := id h0
  obtain ⟨b, hbi, hbig, hnum⟩ := in_batch g0
  simp only [List.append_nil] at hW' hWl
  refine (f4 W.heap.size (.agg c0) b W (agg_backB hbi) (Nat.le_refl _) hbig hnum).mono fun e W' ⟨he, hb⟩ => ?_
  subst he
  refine ⟨_, rfl, post_below (pa := p ++ []) (pv := []) hW' (fun _ _ _ => trodAll_mk1 (shut_bool Tryz.underlying4 _)) (fun sp hsp => ?_) (fun _ _ => rfl) (by simp) hb (ok_one (by kernel_rfl) rfl (okWide_bool_mk Tryz.underlying4 _))⟩
  have k0 := WideElems.Trod_stays (sp' := sp) Tryz.laidq (by kernel_rfl) (by decide +kernel) h0 (fun y hy => hb.same (hWl y hy)) (fun y hy => hsp y hy)
  rw [Tryz.params4]
  exact trodAll_cons_mk k0 trodAll_mk0

set_option maxHeartbeats 4000000 in
theorem fnBatchLast_closed : joinedFacts Tryz.pinned.checked.prog 4 Tryz.f4 Rows.fnBatchLastSpec Rows.fnBatchLastRow = true := by
  unfold joinedFacts
  simp only [Bool.and_eq_true]
  repeat' (with_reducible refine And.intro ?_ ?_)
  all_goals (as_aux_lemma => kernel_rfl)
theorem fnBatchLast_inst : Tryz.f4.isInstance Tryz.pinned.checked.prog Rows.fnBatchLastRow.origin Rows.fnBatchLastRow.targs := of_decide_eq_true (by kernel_rfl)
theorem fnBatchLast_wrap : Tryz.f4.isWrapper Tryz.pinned.checked.prog Rows.fnBatchLastRow.wrapper Rows.fnBatchLastRow.mainSum := by unfold Func.isWrapper; first | (rw [if_pos (by decide +kernel)]; kernel_rfl) | (rw [if_neg (by decide +kernel)]; exact ⟨rfl, rfl⟩)
theorem fnBatchLast_holds : Rows.FnBatchLastSaid :=
  OpenClaim.holds_of_wide 4 Tryz.f4 rfl rfl rfl rfl rfl rfl rfl ⟨rfl, rfl, rfl, rfl, rfl⟩ rfl rfl rfl rfl rfl (by kernel_rfl) Tryz.func4 fnBatchLast_closed
    fnBatchLast_inst fnBatchLast_wrap
    (fun os started H enc _ => fnBatchLast_lifted os started H enc)
theorem fnBatchLast_card : Rows.FnBatchLastCardSaid :=
  Claim7.holds_tied_plain_at .later [] [.sentinel] true (true, "576496b8967643ec15a3de1da37131e7030462a4b78f1afc68b6580dbc98e485") true fnBatchLast_holds (fun _ h => by cases h) (by kernel_rfl) (fun _ h => by cases h) fnBatchLast_row_tie rfl ⟨rfl, rfl⟩ (by kernel_rfl) rfl
    (fun f fn hf hfn => by
      obtain rfl : f = 4 := Option.some.inj ((show Tryz.prog.funcNamed "pub-kestrel/laws.FnBatchLast" = some 4 by kernel_rfl).symm.trans hf) |>.symm
      obtain rfl : fn = Tryz.f4 := (Option.some.inj (Tryz.func4.symm.trans hfn)).symm
      exact ⟨by kernel_rfl, fun j t ht => by
        rw [Tryz.params4] at ht
        have h3 : t = 41 := by
          rcases j with _ | j
          · simpa using ht.symm
          · simp at ht
        subst h3
        exact (show Tryz.prog.wantsStandIn 41 = false by kernel_rfl)⟩)
    (by kernel_rfl)
#print axioms fnBatchLast_card
end Go.Proofs.YtmiflkccfieefaaGreatDoor
