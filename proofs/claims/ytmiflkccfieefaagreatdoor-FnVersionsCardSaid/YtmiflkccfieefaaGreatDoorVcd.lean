/-
  The law FnVersions: a version of three numbers (of four, if the first one is 0) is parsed and told as it stands, and of two versions one is at least the other by their numbers in order: for every pair of quadruples of 16-bit numbers, whatever the memory and the schedule, the law answers true and leaves its arguments as they were.
  Conditions: those of the given row alone: its listed variables (the sentinel ErrUnknownMessage and three tables of Go's library) read as the program's text lays them, which the given tie pays.
-/
import Derived.Test.YtmiflkccfieefaaGreatDoorVlw
import Derived.Test.YtmiflkccfieefaaGreatDoorPst
import Derived.LaidSub
namespace Go.Proofs.YtmiflkccfieefaaGreatDoor
open Go.ChangeShapes Go.WideShapes Go.ChangeAt Go.RowKit
set_option linter.unusedVariables false

theorem Tryz.cells46 : Tryz.prog.cellsOf 46 = 1 := by kernel_rfl
theorem Tryz.cells79 : Tryz.prog.cellsOf 79 = 4 := by kernel_rfl
section
variable {H : Type} {enc : TypeId × Value → H} {W : World} {base : Nat} {sp : Nat → Bool} {held : Bool}
theorem in_arr {n : Nat} {cs : List Value} {y : DataW H × List MemPlace} (h : DataW.trod enc Tryz.prog W base sp held n 79 cs = some y) :
    ∃ a b c d : Nat, cs = [.int .u16 a, .int .u16 b, .int .u16 c, .int .u16 d] := by
  obtain ⟨xs, m, _, _, hl, hlen, hf⟩ := DataW.trod_array Tryz.underlying79 h
  rw [Tryz.cells79] at hl
  rw [Tryz.cells46] at hf
  have key : ∀ i (hi : i < 4), ∃ z : Nat, (cs.drop (i * 1)).take 1 = [.int .u16 z] := by
    intro i hi
    have hx := hf i hi
    have hs : ∃ x, xs[i]? = some x := ⟨_, List.getElem?_eq_getElem (by omega)⟩
    obtain ⟨x, hx'⟩ := hs
    rw [hx'] at hx
    obtain ⟨z, e, _, w⟩ := DataW.trod_int Tryz.underlying46 hx
    have hb := bounds_u16 w
    exact ⟨z.toNat, by rw [e]; congr 2; omega⟩
  match cs, hl with
  | [c0, c1, c2, c3], _ =>
    obtain ⟨a, ha⟩ := key 0 (by omega)
    obtain ⟨b, hb⟩ := key 1 (by omega)
    obtain ⟨c, hc⟩ := key 2 (by omega)
    obtain ⟨d, hd⟩ := key 3 (by omega)
    simp at ha hb hc hd
    subst ha hb hc hd
    exact ⟨a, b, c, d, rfl⟩
end
set_option linter.constructorNameAsVariable false in
set_option maxRecDepth 10000 in
theorem okWide_arr {W : World} {base : Nat} {v : Value} (h : Value.okWide Tryz.prog W .any base 79 v) : ∃ cs, v = .agg cs := by
  simp only [Value.okWide, Tryz.underlying79] at h
  obtain ⟨cs, h1, h2, _⟩ := h
  exact ⟨cs, h1⟩
theorem pow_of_laid {W : World} (h : laidMetH Tryz.prog Rows.fnVersionsRow.laid W) : Pow W := by
  rw [MakeChecks.laidMetH_plain _ _ _ (by kernel_rfl)] at h
  have h2 := laidMet.filter (fun x => x.1 == "internal/strconv.uint64pow10") h
  have e : Rows.fnVersionsRow.laid.filter (fun x => x.1 == "internal/strconv.uint64pow10") = [("internal/strconv.uint64pow10", Lib.tabData .u64 Lib.pow10Tab)] := by kernel_rfl
  rw [e] at h2
  exact Lib.tabIs_of_head (t := 231) (e := 157) (n := 20) powNamed (by kernel_rfl) (by kernel_rfl) (by kernel_rfl) (by kernel_rfl) (by kernel_rfl) h2
theorem agg_eq {c0 : Array Value} {l : List Value} (h : (Value.agg c0).cells.toList = l) : Value.agg c0 = .agg l.toArray := by
  subst h
  simp [Value.cells]
set_option maxRecDepth 100000 in
theorem fnVersions_lifted (os : Os) (started : os.Started) (H : Type) (enc : TypeId × Value → H) :
    ReturnsInHanded {} Tryz.checked os 12 .any (fun w args => (Rows.fnVersionsSpec.pre enc Tryz.prog Tryz.f12 Rows.fnVersionsRow.domain false w args ∧ laidMetH Tryz.prog Rows.fnVersionsRow.laid w) ∧ sizedMet enc Tryz.prog Tryz.f12 (OpenSpec.ofChange Rows.fnVersionsSpec) false w args)
      (Rows.fnVersionsSpec.post enc Tryz.prog Tryz.f12 false true false false) := by
  refine returnsInHanded_of_change_and (C := Tryz.checked) (X := fun w _ => laidMetH Tryz.prog Rows.fnVersionsRow.laid w) (fun _ _ _ hh h => h.of_heap hh) Tryz.ownq started (by kernel_rfl) Tryz.func12
    (ChangeSpec.witness_shaped (enc := enc) (C := Tryz.checked) (os := os) (X := fun w _ => laidMetH Tryz.prog Rows.fnVersionsRow.laid w) false (World.laidAll Tryz.prog os Rows.fnVersionsRow.laid) #[.agg #[.int .u16 0, .int .u16 0, .int .u16 0, .int .u16 0], .agg #[.int .u16 0, .int .u16 0, .int .u16 0, .int .u16 0]] 8 (World.laidAll_os _ _ _)
      (World.shaped_of_ZipB (by kernel_rfl) (by kernel_rfl)) (by kernel_rfl) (by kernel_rfl) (by kernel_rfl)
      (by rw [MakeChecks.laidMetH_plain _ _ _ (by kernel_rfl)]; exact laidMet_laidAll _ (by kernel_rfl) (by kernel_rfl))) ?_
  intro W base args ds gs before hval0 hW hc _ hL _
  have hval : ∀ (j : Nat) t v, Tryz.f12.params[j]? = some t → args[j]? = some v → Value.okWide Tryz.prog W .any base t v := hval0
  have hpow := pow_of_laid hL
  have hW' := hW
  have hWl := hW.lt
  obtain ⟨p, q, hA0, hV, rfl, _, _⟩ := hW
  have hA : DataW.TrodAll enc Tryz.prog W 0 (fun _ => true) true Tryz.f12.params.toList args.toList ds p := hA0
  rw [Tryz.params12] at hA hval
  obtain ⟨v0, v1, d0, d1, p0, p1, rfl, rfl, rfl, h0, h1⟩ := trodAll_two hA
  obtain ⟨rfl, rfl⟩ := trodVars_none hV
  obtain ⟨c0, rfl⟩ := okWide_arr (hval 0 79 v0 rfl rfl)
  obtain ⟨c1, rfl⟩ := okWide_arr (hval 1 79 v1 rfl rfl)
  obtain ⟨n0, g0⟩ := id h0
  obtain ⟨n1, g1⟩ := id h1
  obtain ⟨a, b, c, d, e0⟩ := in_arr g0
  obtain ⟨a', b', c', d', e1⟩ := in_arr g1
  have k0 := agg_eq e0
  have k1 := agg_eq e1
  simp only [List.append_nil] at hW' hWl
  have hf := f12 a b c d a' b' c' d' W hpow
  rw [show (#[Value.int IntKind.u16 (a : Int), .int .u16 b, .int .u16 c, .int .u16 d] : Array Value) = [Value.int IntKind.u16 (a : Int), .int .u16 b, .int .u16 c, .int .u16 d].toArray from rfl, show (#[Value.int IntKind.u16 (a' : Int), .int .u16 b', .int .u16 c', .int .u16 d'] : Array Value) = [Value.int IntKind.u16 (a' : Int), .int .u16 b', .int .u16 c', .int .u16 d'].toArray from rfl, ← k0, ← k1] at hf
  refine hf.mono fun e W' ⟨he, hb⟩ => ?_
  subst he
  refine ⟨_, rfl, post_below (pa := p0 ++ (p1 ++ [])) (pv := []) hW' (fun _ _ _ => trodAll_mk1 (shut_bool Tryz.underlying4 _)) (fun sp hsp => ?_) (fun _ _ => rfl) (by simp) hb (ok_one (by kernel_rfl) rfl (okWide_bool_mk Tryz.underlying4 _))⟩
  have m0 := WideElems.Trod_stays (sp' := sp) Tryz.laidq (by kernel_rfl) (by decide +kernel) h0 (fun y hy => hb.same (hWl y (List.mem_append_left _ hy))) (fun y hy => hsp y (List.mem_append_left _ hy))
  have m1 := WideElems.Trod_stays (sp' := sp) Tryz.laidq (by kernel_rfl) (by decide +kernel) h1 (fun y hy => hb.same (hWl y (List.mem_append_right _ hy))) (fun y hy => hsp y (List.mem_append_right _ hy))
  rw [Tryz.params12]
  exact trodAll_cons_mk m0 (trodAll_cons_mk m1 trodAll_mk0)

set_option maxHeartbeats 4000000 in
theorem fnVersions_closed : joinedFacts Tryz.pinned.checked.prog 12 Tryz.f12 Rows.fnVersionsSpec Rows.fnVersionsRow = true := by
  unfold joinedFacts
  simp only [Bool.and_eq_true]
  repeat' (with_reducible refine And.intro ?_ ?_)
  all_goals (as_aux_lemma => kernel_rfl)
theorem fnVersions_inst : Tryz.f12.isInstance Tryz.pinned.checked.prog Rows.fnVersionsRow.origin Rows.fnVersionsRow.targs := of_decide_eq_true (by kernel_rfl)
theorem fnVersions_wrap : Tryz.f12.isWrapper Tryz.pinned.checked.prog Rows.fnVersionsRow.wrapper Rows.fnVersionsRow.mainSum := by unfold Func.isWrapper; first | (rw [if_pos (by decide +kernel)]; kernel_rfl) | (rw [if_neg (by decide +kernel)]; exact ⟨rfl, rfl⟩)
theorem fnVersions_holds : Rows.FnVersionsSaid :=
  OpenClaim.holds_of_wide 12 Tryz.f12 rfl rfl rfl rfl rfl rfl rfl ⟨rfl, rfl, rfl, rfl, rfl⟩ rfl rfl rfl rfl rfl (by kernel_rfl) Tryz.func12 fnVersions_closed
    fnVersions_inst fnVersions_wrap
    (fun os started H enc _ => fnVersions_lifted os started H enc)
theorem fnVersions_card : Rows.FnVersionsCardSaid :=
  Claim7.holds_tied_plain_at .later [] [.data, .data, .data, .sentinel] true (true, "576496b8967643ec15a3de1da37131e7030462a4b78f1afc68b6580dbc98e485") true fnVersions_holds (fun _ h => by cases h) (by kernel_rfl) (fun _ h => by cases h) fnVersions_row_tie rfl ⟨rfl, rfl⟩ (by kernel_rfl) rfl
    (fun f fn hf hfn => by
      obtain rfl : f = 12 := Option.some.inj ((show Tryz.prog.funcNamed "pub-kestrel/laws.FnVersions" = some 12 by kernel_rfl).symm.trans hf) |>.symm
      obtain rfl : fn = Tryz.f12 := (Option.some.inj (Tryz.func12.symm.trans hfn)).symm
      exact ⟨by kernel_rfl, fun j t ht => by
        rw [Tryz.params12] at ht
        have h3 : t = 79 := by
          rcases j with _ | _ | j
          · simpa using ht.symm
          · simpa using ht.symm
          · simp at ht
        subst h3
        exact (show Tryz.prog.wantsStandIn 79 = false by kernel_rfl)⟩)
    (by kernel_rfl)
#print axioms fnVersions_card
end Go.Proofs.YtmiflkccfieefaaGreatDoor
