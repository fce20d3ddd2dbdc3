/-
  The row of FnRecordForm, and its tied card.
-/
import Derived.Test.YtmiflkccfieefaaGreatDoorRf
import Derived.Test.YtmiflkccfieefaaGreatDoorOpn
import Derived.Test.YtmiflkccfieefaaGreatDoorRows
import Derived.Test.YtmiflkccfieefaaGreatDoorCards
import Derived.Test.YtmiflkccfieefaaGreatDoorTie
import Derived.ProofKit
import Derived.OpenShut
import Derived.OpenVars
import Derived.Carry
import Derived.LaidMore
import Derived.Lay
import Derived.SevenTiedAt
import Derived.Stop.Joined
namespace Go.Proofs.YtmiflkccfieefaaGreatDoor
open Go.ChangeShapes Go.WideShapes Go.ChangeAt Go.RowKit
set_option linter.unusedVariables false

section
variable {H : Type} {enc : TypeId × Value → H} {P : Program}
theorem post_of_below {f : Func} {s : ChangeSpec} {apart fresh handsOn again : Bool} {W W' : World} {args : Array Value} {v : Value} {ds gs : List (DataW H)} {before pa pv : List MemPlace}
    (hW : DataW.Whole enc P f.params.toList s.vars apart W args.toList ds gs before)
    (hres : ∀ (b : Nat) (sp : Nat → Bool) (hd : Bool), DataW.TrodAll enc P W' b sp hd f.resultTypes.toList (v.resultList f.resultTypes.size) (s.fn H (ds ++ gs)).results [])
    (hargs : ∀ sp : Nat → Bool, (∀ p ∈ before, sp p.block = true) → DataW.TrodAll enc P W' 0 sp true f.params.toList args.toList (s.fn H (ds ++ gs)).args pa)
    (hvars : ∀ sp : Nat → Bool, (∀ p ∈ before, sp p.block = true) → DataW.TrodVars enc P W' sp s.vars (s.fn H (ds ++ gs)).vars pv)
    (hps : before = pa ++ pv) (hb : Below W.heap.size W W')
    (hok : ∀ (j : Nat) (t : TypeId) (r : Value), f.resultTypes[j]? = some t → (v.resultList f.resultTypes.size)[j]? = some r → Value.okWide P W' .any 0 t r) :
    s.post enc P f apart fresh handsOn again W args v W' := by
  have hlt : ∀ p ∈ before, p.block < W.heap.size := fun p hp => hW.lt p hp
  have hold : ∀ p ∈ before, (fun b => decide (b < W.heap.size)) p.block = true := fun p hp => by simpa using hlt p hp
  refine ⟨ds, gs, before, [], pa, pv, hW, hres _ _ _, hargs _ hold, hvars _ hold, World.keptBut_mono (fun p hp => ⟨hp, ?_⟩) (hb.frame (· ∈ before)), fun _ => ?_⟩
  · rw [hps, List.mem_append] at hp
    exact Or.inr hp
  · obtain ⟨_, _, _, _, _, hz, hn⟩ := hW
    refine ⟨hok, _, _, ([] ++ pa) ++ pv, ⟨[] ++ pa, pv, trodAll_append (hargs _ (fun _ _ => rfl)) (hres _ _ _), hvars _ (fun _ _ => rfl), rfl, ?_, ?_⟩, ?_⟩
    · intro b off hp
      have hin : MemPlace.cell b off ∈ before := by rw [hps]; simpa using hp
      rw [hb.frozen (hlt _ hin)]
      exact hz b off hin
    · intro ha
      have := hn ha
      rw [hps] at this
      simpa using this
    · intro p hp _
      rw [hps]
      simpa using hp
end
theorem agg_back {W : World} {D : Nat} {c0 : Array Value} {x : RecV} (h : RIn W D (.agg (Value.agg c0).cells.toList.toArray) x) : RIn W D (.agg c0) x := by
  have e : (Value.agg c0).cells.toList.toArray = c0 := by simp [Value.cells]
  rw [e] at h
  exact h
theorem Tryz.own : ownKnob Tryz.prog.godebug = none := by kernel_rfl
set_option linter.constructorNameAsVariable false in
set_option maxRecDepth 10000 in
theorem slice_of_ok {W : World} {base : Nat} {v1 : Value} (h : Value.okWide Tryz.prog W .any base 23 v1) : ∃ A n c, v1 = .slice A n c := by
  cases v1 <;> first | exact ⟨_, _, _, rfl⟩ | (simp [Value.okWide, Cell.okWide, Tryz.underlying23, Cell.ok] at h)
theorem Tryz.laidOut : laidOutB Tryz.prog = true := by kernel_rfl

set_option maxRecDepth 100000 in
theorem fnRecordForm_lifted (os : Os) (started : os.Started) (H : Type) (enc : TypeId × Value → H) :
    ReturnsInHanded {} Tryz.checked os 3 .any (fun w args => (Rows.fnRecordFormSpec.pre enc Tryz.prog Tryz.f3 Rows.fnRecordFormRow.domain false w args ∧ laidMetH Tryz.prog Rows.fnRecordFormRow.laid w) ∧ sizedMet enc Tryz.prog Tryz.f3 (OpenSpec.ofChange Rows.fnRecordFormSpec) false w args)
      (Rows.fnRecordFormSpec.post enc Tryz.prog Tryz.f3 false true false false) := by
  refine returnsInHanded_of_change_and (C := Tryz.checked) (X := fun w _ => laidMetH Tryz.prog Rows.fnRecordFormRow.laid w) (fun _ _ _ hh h => h.of_heap hh) Tryz.own started (by kernel_rfl) Tryz.func3
    (ChangeSpec.witness_shaped (enc := enc) (C := Tryz.checked) (os := os) (X := fun w _ => laidMetH Tryz.prog Rows.fnRecordFormRow.laid w) false (World.laidAll Tryz.prog os Rows.fnRecordFormRow.laid) #[.agg #[.int .i8 0, .int .i64 0, .int .i64 0, .bool false, .slice none 0 0, .bool false, .slice none 0 0, .slice none 0 0], .slice none 0 0] 8 (World.laidAll_os _ _ _)
      (World.shaped_of_ZipB (by kernel_rfl) (by kernel_rfl)) (by kernel_rfl) (by kernel_rfl) (by kernel_rfl)
      (by rw [MakeChecks.laidMetH_plain _ _ _ (by kernel_rfl)]; exact laidMet_laidAll _ (by kernel_rfl) (by kernel_rfl))) ?_
  intro W base args ds gs before hval0 hW hc _ hL _
  have hval : ∀ (j : Nat) t v, Tryz.f3.params[j]? = some t → args[j]? = some v → Value.okWide Tryz.prog W .any base t v := hval0
  have hW' := hW
  have hWl := hW.lt
  obtain ⟨p, q, hA0, hV, rfl, _, _⟩ := hW
  have hA : DataW.TrodAll enc Tryz.prog W 0 (fun _ => true) true Tryz.f3.params.toList args.toList ds p := hA0
  rw [Tryz.params3] at hA hval
  obtain ⟨v0, v1, d0, d1, p0, p1, rfl, rfl, rfl, h0, h1⟩ := trodAll_two hA
  obtain ⟨rfl, rfl⟩ := trodVars_none hV
  obtain ⟨c0, rfl, hsz0⟩ := okWide_struct Tryz.underlying28 (hval 0 28 v0 rfl rfl)
  obtain ⟨n0, g0⟩ := id h0
  obtain ⟨x, kd, vd, hv, hcs, hri, hbig, hnum⟩ := in_rec g0
  have hb1 : ∃ A n c, v1 = .slice A n c := slice_of_ok (hval 1 23 v1 rfl rfl)
  obtain ⟨A1, n1, c1, rfl⟩ := hb1
  obtain ⟨n1', g1⟩ := id h1
  obtain ⟨bv, b, hbv, hbd, hbl⟩ := in_bytes g1
  simp only [List.append_nil] at hW' hWl
  refine (f3 W.heap.size x (.agg c0) (.slice A1 n1 c1) b W (agg_back hri) (by simp [Value.cells] at hbv; subst hbv; exact hbd) (Nat.le_refl _) hbig hnum (by simpa [maxLen] using hbl)).mono fun e W' ⟨he, hb⟩ => ?_
  subst he
  refine ⟨_, rfl, post_of_below (pa := p0 ++ (p1 ++ [])) (pv := []) hW' (fun _ _ _ => trodAll_mk1 (shut_bool Tryz.underlying4 _)) (fun sp hsp => ?_) (fun _ _ => rfl) (by simp) hb (ok_one (by kernel_rfl) rfl (okWide_bool_mk Tryz.underlying4 _))⟩
  have k0 := WideElems.Trod_stays (sp' := sp) Tryz.laidOut (by kernel_rfl) (by decide +kernel) h0 (fun y hy => hb.same (hWl y (List.mem_append_left _ hy))) (fun y hy => hsp y (List.mem_append_left _ hy))
  have k1 := WideElems.Trod_stays (sp' := sp) Tryz.laidOut (by kernel_rfl) (by decide +kernel) h1 (fun y hy => hb.same (hWl y (List.mem_append_right _ hy))) (fun y hy => hsp y (List.mem_append_right _ hy))
  rw [Tryz.params3]
  exact trodAll_cons_mk k0 (trodAll_cons_mk k1 trodAll_mk0)

theorem fnRecordForm_holds : Rows.FnRecordFormSaid :=
  OpenClaim.holds_of_wide 3 Tryz.f3 rfl rfl rfl rfl rfl rfl rfl ⟨rfl, rfl, rfl, rfl, rfl⟩ rfl rfl rfl rfl rfl (by kernel_rfl) Tryz.func3 (by kernel_rfl)
    (of_decide_eq_true (by kernel_rfl)) (by unfold Func.isWrapper; first | (rw [if_pos (by decide +kernel)]; kernel_rfl) | (rw [if_neg (by decide +kernel)]; exact ⟨rfl, rfl⟩))
    (fun os started H enc _ => fnRecordForm_lifted os started H enc)
theorem fnRecordForm_card : Rows.FnRecordFormCardSaid :=
  Claim7.holds_tied_plain_at .later [] [.sentinel] true (true, "576496b8967643ec15a3de1da37131e7030462a4b78f1afc68b6580dbc98e485") true fnRecordForm_holds (fun _ h => by cases h) (by kernel_rfl) (fun _ h => by cases h) fnRecordForm_row_tie rfl ⟨rfl, rfl⟩ (by kernel_rfl) rfl
    (fun f fn hf hfn => by
      obtain rfl : f = 3 := Option.some.inj ((show Tryz.prog.funcNamed "pub-kestrel/laws.FnRecordForm" = some 3 by kernel_rfl).symm.trans hf) |>.symm
      obtain rfl : fn = Tryz.f3 := (Option.some.inj (Tryz.func3.symm.trans hfn)).symm
      exact ⟨by kernel_rfl, fun j t ht => by
        rw [Tryz.params3] at ht
        have h3 : t = 28 ∨ t = 23 := by
          rcases j with _ | _ | j
          · exact .inl (by simpa using ht.symm)
          · exact .inr (by simpa using ht.symm)
          · simp at ht
        rcases h3 with rfl | rfl
        · exact (show Tryz.prog.wantsStandIn 28 = false by kernel_rfl)
        · exact (show Tryz.prog.wantsStandIn 23 = false by kernel_rfl)⟩)
    (by kernel_rfl)
#print axioms fnRecordForm_card
end Go.Proofs.YtmiflkccfieefaaGreatDoor
