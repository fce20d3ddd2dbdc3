/-
  A set, opened.
-/
import Derived.Test.YtmiflkccfieefaaGreatDoorOpn
import Derived.Test.YtmiflkccfieefaaGreatDoorZaa
import Derived.Test.YtmiflkccfieefaaGreatDoorZae
import Derived.Test.YtmiflkccfieefaaGreatDoorZag
namespace Go.Proofs.YtmiflkccfieefaaGreatDoor
open Go.ChangeShapes Go.WideShapes Go.ChangeAt Go.RowKit Go.Deep
set_option maxRecDepth 100000
set_option linter.unusedVariables false
set_option linter.unusedSimpArgs false

theorem Tryz.cells45 : Tryz.prog.cellsOf 45 = 7 := by kernel_rfl
theorem Tryz.cells62 : Tryz.prog.cellsOf 62 = 8 := by kernel_rfl
section
variable {H : Type} {enc : TypeId × Value → H} {W : World} {base : Nat} {sp : Nat → Bool} {held : Bool}
theorem in_msg {n : Nat} {cs : List Value} {y : DataW H × List MemPlace} (h : DataW.trod enc Tryz.prog W base sp held n 45 cs = some y) :
    ∃ (x : MsgV) (kd vd : Value), cs = [.int .i8 x.ver, .bool x.la, .int .i64 x.tm, .bool x.key.1, kd, .bool x.val.1, vd] ∧ DataAt W W.heap.size kd x.key.2 ∧ DataAt W W.heap.size vd x.val.2 ∧ MBig x := by
  obtain ⟨xs, m, _, _, hl, hlen, hf⟩ := DataW.trod_struct Tryz.underlying45 h
  rw [Tryz.cells45] at hl
  match cs, hl, xs, hlen with
  | [c0, c1, c2, c3, c4, c5, c6], _, [y0, y1, y2, y3, y4], _ =>
    have h0 : DataW.trod enc Tryz.prog W base sp held m 22 (([c0, c1, c2, c3, c4, c5, c6].drop 0).take (Tryz.prog.cellsOf 22)) = some y0 := hf 0 _ rfl
    have h1 : DataW.trod enc Tryz.prog W base sp held m 4 (([c0, c1, c2, c3, c4, c5, c6].drop 1).take (Tryz.prog.cellsOf 4)) = some y1 := hf 1 _ rfl
    have h2 : DataW.trod enc Tryz.prog W base sp held m 2 (([c0, c1, c2, c3, c4, c5, c6].drop 2).take (Tryz.prog.cellsOf 2)) = some y2 := hf 2 _ rfl
    have h3 : DataW.trod enc Tryz.prog W base sp held m 25 (([c0, c1, c2, c3, c4, c5, c6].drop 3).take (Tryz.prog.cellsOf 25)) = some y3 := hf 3 _ rfl
    have h4 : DataW.trod enc Tryz.prog W base sp held m 25 (([c0, c1, c2, c3, c4, c5, c6].drop 5).take (Tryz.prog.cellsOf 25)) = some y4 := hf 4 _ rfl
    rw [Tryz.cells22] at h0
    rw [Tryz.cells4] at h1
    rw [Tryz.cells2] at h2
    rw [Tryz.cells25] at h3 h4
    obtain ⟨z0, e0, _, w0⟩ := DataW.trod_int Tryz.underlying22 (x := y0) h0
    obtain ⟨z1, e1, _⟩ := DataW.trod_bool Tryz.underlying4 (x := y1) h1
    obtain ⟨z2, e2, _, w2⟩ := DataW.trod_int Tryz.underlying2 (x := y2) h2
    obtain ⟨b3, v3, l3, e3, d3, g3⟩ := in_bp (y := y3) h3
    obtain ⟨b4, v4, l4, e4, d4, g4⟩ := in_bp (y := y4) h4
    simp at e0 e1 e2 e3 e4
    subst e0 e1 e2
    obtain ⟨rfl, rfl⟩ := e3
    obtain ⟨rfl, rfl⟩ := e4
    exact ⟨⟨z0, z1, z2, (b3, l3), (b4, l4)⟩, _, _, rfl, d3, d4, ⟨g3, g4⟩⟩
theorem in_blk {n : Nat} {cs : List Value} {y : DataW H × List MemPlace} (h : DataW.trod enc Tryz.prog W base sp held n 62 cs = some y) :
    ∃ (x : BlkV) (kd vd : Value), cs = [.int .i64 x.off, .int .i8 x.msg.ver, .bool x.msg.la, .int .i64 x.msg.tm, .bool x.msg.key.1, kd, .bool x.msg.val.1, vd] ∧ DataAt W W.heap.size kd x.msg.key.2 ∧ DataAt W W.heap.size vd x.msg.val.2 ∧ MBig x.msg ∧ -9223372036854775808 ≤ x.off ∧ x.off ≤ 9223372036854775807 := by
  obtain ⟨xs, m, _, _, hl, hlen, hf⟩ := DataW.trod_struct Tryz.underlying62 h
  rw [Tryz.cells62] at hl
  match cs, hl, xs, hlen with
  | [c0, c1, c2, c3, c4, c5, c6, c7], _, [y0, y1], _ =>
    have h0 : DataW.trod enc Tryz.prog W base sp held m 2 (([c0, c1, c2, c3, c4, c5, c6, c7].drop 0).take (Tryz.prog.cellsOf 2)) = some y0 := hf 0 _ rfl
    have h1 : DataW.trod enc Tryz.prog W base sp held m 45 (([c0, c1, c2, c3, c4, c5, c6, c7].drop 1).take (Tryz.prog.cellsOf 45)) = some y1 := hf 1 _ rfl
    rw [Tryz.cells2] at h0
    rw [Tryz.cells45] at h1
    obtain ⟨z0, e0, _, w0⟩ := DataW.trod_int Tryz.underlying2 (x := y0) h0
    obtain ⟨x, kd, vd, e1, d1, d2, g1⟩ := in_msg (y := y1) h1
    simp at e0 e1
    subst e0
    obtain ⟨rfl, rfl, rfl, rfl, rfl, rfl, rfl⟩ := e1
    have b0 := bounds_i64 w0
    exact ⟨⟨z0, x⟩, _, _, rfl, d1, d2, g1, b0.1, b0.2⟩
theorem in_blks {n : Nat} {cs : List Value} {y : DataW H × List MemPlace} (h : DataW.trod enc Tryz.prog W base sp held n 59 cs = some y) :
    ∃ v ys, cs = [v] ∧ BksIn W W.heap.size v ys ∧ BksBig ys ∧ BkNum ys := by
  rcases open_slice Tryz.underlying59 h with ⟨rfl, _⟩ | ⟨a, len, cap, m, n', D, Pl, rfl, hb, hl, hm, hmm, _, hel⟩
  · exact ⟨_, [], rfl, ⟨none, 0, rfl, fun h => absurd rfl h⟩, ⟨by simp, fun x hx => by cases hx⟩, fun x hx => by cases hx⟩
  · rw [Tryz.cells62] at hel
    have hle : len ≤ m := by rw [hmm]; split <;> omega
    have key : ∀ i, i < len → ∃ x : BlkV, a.block < W.heap.size ∧ BkElem W W.heap.size a i x ∧ MBig x.msg ∧ -9223372036854775808 ≤ x.off ∧ x.off ≤ 9223372036854775807 := by
      intro i hi
      obtain ⟨cs', hc, ht⟩ := hel i (by omega)
      obtain ⟨_, hlen, hat⟩ := World.cells?_some hc
      obtain ⟨x, kd, vd, hcs, d1, d2, hbig, hn⟩ := in_blk ht
      subst hcs
      have k0 := hat 0 (by simp)
      have k1 := hat 1 (by simp)
      have k2 := hat 2 (by simp)
      have k3 := hat 3 (by simp)
      have k4 := hat 4 (by simp)
      have k5 := hat 5 (by simp)
      have k6 := hat 6 (by simp)
      have k7 := hat 7 (by simp)
      have hlt := lt_of_cell (k0.trans rfl)
      simp only [add_block] at hlt
      exact ⟨x, hlt, ⟨_, _, k0, k1, k2, k3, k4, k5, k6, k7, d1, d2⟩, hbig, hn⟩
    obtain ⟨rs, hlen, hall⟩ := choose_list _ len key
    refine ⟨_, rs, rfl, ⟨some a, cap, by rw [hlen], fun hne => ⟨a, rfl, ?_, fun i hi => (hall i hi).2.1⟩⟩, ⟨by rw [hlen]; have : maxLen = 9223372036854775807 := rfl; omega, fun x hx => ?_⟩, fun x hx => ?_⟩
    · have h0 : 0 < rs.length := by cases rs with | nil => exact absurd rfl hne | cons _ _ => simp
      exact (hall 0 h0).1
    · obtain ⟨i, hi, rfl⟩ := List.mem_iff_getElem.1 hx
      exact (hall i hi).2.2.1
    · obtain ⟨i, hi, rfl⟩ := List.mem_iff_getElem.1 hx
      exact (hall i hi).2.2.2
end
end Go.Proofs.YtmiflkccfieefaaGreatDoor

/-
  The law FnSetForm: a message set that is in order encodes to the bytes of the specification and reads back as it was: for every set, whatever the memory and the schedule, the law answers true and leaves its argument as it was.
  Conditions: those of the given row alone: the variable sarama.ErrUnknownMessage reads as the program's text lays it, which the given tie pays.
-/
namespace Go.Proofs.YtmiflkccfieefaaGreatDoor
open Go.ChangeShapes Go.WideShapes Go.ChangeAt Go.RowKit
set_option linter.unusedVariables false

set_option linter.constructorNameAsVariable false in
set_option maxRecDepth 10000 in
theorem slice59_of_ok {W : World} {base : Nat} {v1 : Value} (h : Value.okWide Tryz.prog W .any base 59 v1) : ∃ A n c, v1 = .slice A n c := by
  cases v1 <;> first | exact ⟨_, _, _, rfl⟩ | (simp [Value.okWide, Cell.okWide, Tryz.underlying59, Cell.ok] at h)
set_option maxRecDepth 100000 in
theorem fnSetForm_lifted (os : Os) (started : os.Started) (H : Type) (enc : TypeId × Value → H) :
    ReturnsInHanded {} Tryz.checked os 11 .any (fun w args => (Rows.fnSetFormSpec.pre enc Tryz.prog Tryz.f11 Rows.fnSetFormRow.domain false w args ∧ laidMetH Tryz.prog Rows.fnSetFormRow.laid w) ∧ sizedMet enc Tryz.prog Tryz.f11 (OpenSpec.ofChange Rows.fnSetFormSpec) false w args)
      (Rows.fnSetFormSpec.post enc Tryz.prog Tryz.f11 false true false false) := by
  refine returnsInHanded_of_change_and (C := Tryz.checked) (X := fun w _ => laidMetH Tryz.prog Rows.fnSetFormRow.laid w) (fun _ _ _ hh h => h.of_heap hh) Tryz.ownq started (by kernel_rfl) Tryz.func11
    (ChangeSpec.witness_shaped (enc := enc) (C := Tryz.checked) (os := os) (X := fun w _ => laidMetH Tryz.prog Rows.fnSetFormRow.laid w) false (World.laidAll Tryz.prog os Rows.fnSetFormRow.laid) #[.slice none 0 0] 8 (World.laidAll_os _ _ _)
      (World.shaped_of_ZipB (by kernel_rfl) (by kernel_rfl)) (by kernel_rfl) (by kernel_rfl) (by kernel_rfl)
      (by rw [MakeChecks.laidMetH_plain _ _ _ (by kernel_rfl)]; exact laidMet_laidAll _ (by kernel_rfl) (by kernel_rfl))) ?_
  intro W base args ds gs before hval0 hW hc _ hL _
  have hval : ∀ (j : Nat) t v, Tryz.f11.params[j]? = some t → args[j]? = some v → Value.okWide Tryz.prog W .any base t v := hval0
  have hW' := hW
  have hWl := hW.lt
  obtain ⟨p, q, hA0, hV, rfl, _, _⟩ := hW
  have hA : DataW.TrodAll enc Tryz.prog W 0 (fun _ => true) true Tryz.f11.params.toList args.toList ds p := hA0
  rw [Tryz.params11] at hA hval
  obtain ⟨v0, d0, rfl, rfl, h0⟩ := trodAll_one hA
  obtain ⟨rfl, rfl⟩ := trodVars_none hV
  obtain ⟨A0, n1, c1, rfl⟩ := slice59_of_ok (hval 0 59 v0 rfl rfl)
  obtain ⟨n0, g0⟩ := id h0
  obtain ⟨v1, ys, hcv, hbi, hbig, hnum⟩ := in_blks g0
  have hv1 : v1 = .slice A0 n1 c1 := by simpa [Value.cells] using hcv.symm
  subst hv1
  simp only [List.append_nil] at hW' hWl
  refine (f11 W.heap.size ys (.slice A0 n1 c1) W hbi (Nat.le_refl _) hbig hnum).mono fun e W' ⟨he, hb⟩ => ?_
  subst he
  refine ⟨_, rfl, post_below (pa := p ++ []) (pv := []) hW' (fun _ _ _ => trodAll_mk1 (shut_bool Tryz.underlying4 _)) (fun sp hsp => ?_) (fun _ _ => rfl) (by simp) hb (ok_one (by kernel_rfl) rfl (okWide_bool_mk Tryz.underlying4 _))⟩
  have k0 := WideElems.Trod_stays (sp' := sp) Tryz.laidq (by kernel_rfl) (by decide +kernel) h0 (fun y hy => hb.same (hWl y hy)) (fun y hy => hsp y hy)
  rw [Tryz.params11]
  exact trodAll_cons_mk k0 trodAll_mk0

theorem fnSetForm_holds : Rows.FnSetFormSaid :=
  OpenClaim.holds_of_wide 11 Tryz.f11 rfl rfl rfl rfl rfl rfl rfl ⟨rfl, rfl, rfl, rfl, rfl⟩ rfl rfl rfl rfl rfl (by kernel_rfl) Tryz.func11 fnSetForm_closed
    fnSetForm_inst fnSetForm_wrap
    (fun os started H enc _ => fnSetForm_lifted os started H enc)
theorem fnSetForm_card : Rows.FnSetFormCardSaid :=
  Claim7.holds_tied_plain_at .later [] [.sentinel] true (true, "576496b8967643ec15a3de1da37131e7030462a4b78f1afc68b6580dbc98e485") true fnSetForm_holds (fun _ h => by cases h) (by kernel_rfl) (fun _ h => by cases h) fnSetForm_row_tie rfl ⟨rfl, rfl⟩ (by kernel_rfl) rfl
    (fun f fn hf hfn => by
      obtain rfl : f = 11 := Option.some.inj ((show Tryz.prog.funcNamed "pub-kestrel/laws.FnSetForm" = some 11 by kernel_rfl).symm.trans hf) |>.symm
      obtain rfl : fn = Tryz.f11 := (Option.some.inj (Tryz.func11.symm.trans hfn)).symm
      exact ⟨by kernel_rfl, fun j t ht => by
        rw [Tryz.params11] at ht
        have h3 : t = 59 := by
          rcases j with _ | j
          · simpa using ht.symm
          · simp at ht
        subst h3
        exact (show Tryz.prog.wantsStandIn 59 = false by kernel_rfl)⟩)
    (by kernel_rfl)
#print axioms fnSetForm_card
end Go.Proofs.YtmiflkccfieefaaGreatDoor
