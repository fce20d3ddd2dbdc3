/-
  The encoders give up a field that is no length of its own kind; what the writing encoder's field then writes.
-/
import Derived.Test.YtmiflkccfieefaaGreatDoorPopA
import Derived.Test.YtmiflkccfieefaaGreatDoorRun
namespace Go.Proofs.YtmiflkccfieefaaGreatDoor
open Go.ChangeShapes Go.WideShapes Go.ChangeAt Go.RowKit
set_option maxRecDepth 100000
set_option linter.unusedVariables false

set_option maxHeartbeats 1000000 in
theorem pop184_264 {B : Nat} (p n : Nat) (a : Addr) (stk : List Value) (w : World) (h : PE B w p n (stk ++ [Value.iface 264 (.pointer (some a))])) (hs : stk.length ≤ 1000) :
    Calls Tryz.prog 184 #[.pointer (some ⟨p, 0, none⟩)] w fun e w' => e = .returned .nilIface ∧ PE B w' p n stk ∧ Kept B [p] w w' := by
  obtain ⟨hBp, sv, hp, hown⟩ := h
  obtain ⟨gs, cap, rfl, hcap, hgl, hgc, hown'⟩ := own_form hown
  have hlt : B ≤ w.heap.size := by
    have := hown.lt gs rfl
    omega
  have hps := own_ne hown hp (by decide)
  have hpl := hp.lt
  have h0 := hp.cell 0
  have f0 := hp.frozen 0
  simp at h0
  have i3 : IntKind.i64.wrap (stk.length : Int) = stk.length := IntWalk.i64_in _ (by omega)
  have i4 : stk.length ≤ cap := by omega
  have i2 : IntKind.i64.wrap ((stk.length : Int) + 1 - 1) = stk.length := by rw [IntWalk.i64_in _ (by omega)]; omega
  have i1 : (0 : Int) ≤ (stk.length : Int) + 1 - 1 := by omega
  have HH := Lib.hid (And.intro hp hown')
  clear hp hown' hown
  go_enter Tryz.func184, Tryz.ntmps184
  go_wp2_with fail
  go_quiet (fail)
  go_wp2_with fail
  refine wp_region_still_tail 14 (by kernel_rfl) (by kernel_rfl) ?_
  show wpStill _ _ (World.drew _) (fun a' => wpList _ _ _ _ _ (World.drew _)) _ _
  simp only [List.take_succ_cons, List.take_zero, List.drop_succ_cons, List.drop_zero]
  repeat still_step
  refine wpStill_nil ?_
  go_wp2
  go_ret
  obtain ⟨hp, hown'⟩ := HH.out
  have hk2 : Kept w.heap.size [p] w ((w.setCell ⟨p, 0, none⟩ (.slice (some ⟨gs, 0, none⟩) stk.length cap)).drewN (nq + 1)) := ((Kept.refl _ _ _).setCell (p := ⟨p, 0, none⟩) (.inl (by simp)) _).drewN _
  exact ⟨rfl, ⟨hBp, _, (hp.set_ 0 _).drewN _, own_kept hown' hk2 (fun x hx => by
    have : x = p := by simpa using hx
    subst this
    exact own_ne hown' hp (by decide))⟩, hk2.mono hlt (fun x hx => .inl hx)⟩
set_option maxHeartbeats 1000000 in
theorem pop184_277 {B : Nat} (p n : Nat) (a : Addr) (stk : List Value) (w : World) (h : PE B w p n (stk ++ [Value.iface 277 (.pointer (some a))])) (hs : stk.length ≤ 1000) :
    Calls Tryz.prog 184 #[.pointer (some ⟨p, 0, none⟩)] w fun e w' => e = .returned .nilIface ∧ PE B w' p n stk ∧ Kept B [p] w w' := by
  obtain ⟨hBp, sv, hp, hown⟩ := h
  obtain ⟨gs, cap, rfl, hcap, hgl, hgc, hown'⟩ := own_form hown
  have hlt : B ≤ w.heap.size := by
    have := hown.lt gs rfl
    omega
  have hps := own_ne hown hp (by decide)
  have hpl := hp.lt
  have h0 := hp.cell 0
  have f0 := hp.frozen 0
  simp at h0
  have i3 : IntKind.i64.wrap (stk.length : Int) = stk.length := IntWalk.i64_in _ (by omega)
  have i4 : stk.length ≤ cap := by omega
  have i2 : IntKind.i64.wrap ((stk.length : Int) + 1 - 1) = stk.length := by rw [IntWalk.i64_in _ (by omega)]; omega
  have i1 : (0 : Int) ≤ (stk.length : Int) + 1 - 1 := by omega
  have HH := Lib.hid (And.intro hp hown')
  clear hp hown' hown
  go_enter Tryz.func184, Tryz.ntmps184
  go_wp2_with fail
  go_quiet (fail)
  go_wp2_with fail
  refine wp_region_still_tail 14 (by kernel_rfl) (by kernel_rfl) ?_
  show wpStill _ _ (World.drew _) (fun a' => wpList _ _ _ _ _ (World.drew _)) _ _
  simp only [List.take_succ_cons, List.take_zero, List.drop_succ_cons, List.drop_zero]
  repeat still_step
  refine wpStill_nil ?_
  go_wp2
  go_ret
  obtain ⟨hp, hown'⟩ := HH.out
  have hk2 : Kept w.heap.size [p] w ((w.setCell ⟨p, 0, none⟩ (.slice (some ⟨gs, 0, none⟩) stk.length cap)).drewN (nq + 1)) := ((Kept.refl _ _ _).setCell (p := ⟨p, 0, none⟩) (.inl (by simp)) _).drewN _
  exact ⟨rfl, ⟨hBp, _, (hp.set_ 0 _).drewN _, own_kept hown' hk2 (fun x hx => by
    have : x = p := by simpa using hx
    subst this
    exact own_ne hown' hp (by decide))⟩, hk2.mono hlt (fun x hx => .inl hx)⟩
set_option maxHeartbeats 2000000 in
theorem rpop253 {B : Nat} (p g N : Nat) (r o tr so : Nat) (m : Int) (cs : List Value) (a mid body rest : List UInt8) (stk : List Value) (w : World) (h : RE B w p g N (a ++ (mid ++ body)) rest (stk ++ [Value.iface 253 (.pointer (some ⟨r, o, none⟩))])) (hN1 : N ≤ 1000000000) (hs : stk.length ≤ 1000)
   (hr : Blk w r tr cs) (hso : cs[o]? = some (.int .i64 so)) (hm : cs[o + 1]? = some (.int .i64 m)) (hm0 : -9223372036854775808 ≤ m) (hm1 : m ≤ 9223372036854775807) (htr : tr ≠ 182) (htr5g : tr ≠ 5)
   (ha : a.length = so) (hml : mid.length = (vb m).length) :
    Calls Tryz.prog 198 #[.pointer (some ⟨p, 0, none⟩)] w fun e w' => e = .returned .nilIface ∧ RE B w' p g N (a ++ (vb m ++ body)) rest stk ∧ Kept B [p, g] w w' := by
  obtain ⟨hBp, hBg, hNe, sv, hp, hg, hown⟩ := h
  obtain ⟨gs, cap, rfl, hcap, hgl, hgc, hown'⟩ := own_form hown
  have hlt : B ≤ w.heap.size := by
    have := hown.lt gs rfl
    omega
  have hpg : p ≠ g := hp.ne_ hg (by decide)
  have hpl := hp.lt
  have h0 := hp.cell 0
  have h1 := hp.cell 1
  have h2 := hp.cell 2
  have f2 := hp.frozen 2
  simp at h0 h1 h2
  have i3 : IntKind.i64.wrap (stk.length : Int) = stk.length := IntWalk.i64_in _ (by omega)
  have i4 : stk.length ≤ cap := by omega
  have i2 : IntKind.i64.wrap ((stk.length : Int) + 1 - 1) = stk.length := by rw [IntWalk.i64_in _ (by omega)]; omega
  have i1 : (0 : Int) ≤ (stk.length : Int) + 1 - 1 := by omega
  have hoff : (a ++ (mid ++ body)).length ≤ 1000000000 := by omega
  have HG := Lib.hid (And.intro ha (And.intro hml (And.intro hNe (And.intro hso hm))))
  have hpr : p ≠ r := hp.ne_ hr (by first | exact Ne.symm htr | decide)
  have hgr : r ≠ g := hr.ne_ hg (by exact htr5g)
  have HH := Lib.hid (And.intro hp (And.intro hg (And.intro hr hown')))
  generalize hofv : (a ++ (mid ++ body)).length = ov at h1 hoff
  have HO := Lib.hid hofv
  have HOW := Lib.hid hown
  clear hp hg hown' hown hr ha hml hNe hofv hso hm
  go_enter Tryz.func198, Tryz.ntmps198
  go_wp2_with fail
  go_quiet (fail)
  go_wp2_with fail
  refine wp_region_still_tail 14 (by kernel_rfl) (by kernel_rfl) ?_
  show wpStill _ _ (World.drew _) (fun a' => wpList _ _ _ _ _ (World.drew _)) _ _
  simp only [List.take_succ_cons, List.take_zero, List.drop_succ_cons, List.drop_zero]
  repeat still_step
  refine wpStill_nil ?_
  go_wp2_with fail
  obtain ⟨hp, hg, hr, hown'⟩ := HH.out
  rw [HO.out] at hp
  have hk3 : Kept w.heap.size [p] w ((w.drewN (nq + 1)).setCell ⟨p, 2, none⟩ (.slice (some ⟨gs, 0, none⟩) stk.length cap)) := ((Kept.refl _ _ _).drewN _).setCell (p := ⟨p, 2, none⟩) (.inl (by simp)) _
  have hp3 : Blk ((w.drewN (nq + 1)).setCell ⟨p, 2, none⟩ (.slice (some ⟨gs, 0, none⟩) stk.length cap)) p 182 [.slice (some ⟨g, 0, none⟩) N N, .int .i64 ov, .slice (some ⟨gs, 0, none⟩) stk.length cap] := (hp.drewN (nq + 1)).set_ 2 _
  have hg3 := (hg.drewN (nq + 1)).far (p := ⟨p, 2, none⟩) (Ne.symm hpg) (.slice (some ⟨gs, 0, none⟩) stk.length cap)
  have hr3 := (hr.drewN (nq + 1)).far (p := ⟨p, 2, none⟩) (Ne.symm hpr) (.slice (some ⟨gs, 0, none⟩) stk.length cap)
  have hown3 := own_kept hown' hk3 (fun x hx => by
    have : x = p := by simpa using hx
    subst this
    exact own_ne hown' hp (by decide))
  clear hp hg hr hown' h0 h1 h2 f2 hgc
  generalize ((w.drewN (nq + 1)).setCell ⟨p, 2, none⟩ (.slice (some ⟨gs, 0, none⟩) stk.length cap)) = W3 at hp3 hg3 hr3 hown3 hk3 ⊢
  have h0 := hp3.cell 0
  have h1 := hp3.cell 1
  simp at h0 h1
  have H3 := Lib.hid (And.intro hp3 (And.intro hk3 hown3))
  have HG3 := Lib.hid (And.intro hg3 hr3)
  clear hp3 hk3 hown3 hg3 hr3
  go_wp2_with fail
  refine wp_region_still_tail 12 (by kernel_rfl) (by kernel_rfl) ?_
  show wpStill _ _ (World.drew _) (fun a' => wpList _ _ _ _ _ (World.drew _)) _ _
  simp only [List.take_succ_cons, List.take_zero, List.drop_succ_cons, List.drop_zero]
  repeat still_step
  refine wpStill_nil ?_
  go_wp2_with fail
  obtain ⟨hg3, hr3⟩ := HG3.out
  simp only [List.append_assoc] at hg3
  rw [← HO.out]
  refine (run264 r o tr g N so _ m cs a mid (body ++ rest) _ (by exact hr3.drew) HG.out.2.2.2.1 HG.out.2.2.2.2 hm0 hm1 (by exact hg3.drew) HG.out.1 HG.out.2.1 (by have := HG.out; simp at this ⊢; omega) hN1).mono ?_
  rintro e w4 ⟨rfl, hk4, hg4⟩
  replace hk4 := Kept.undrew hk4
  obtain ⟨hp3, hk3, hown3⟩ := H3.out
  have hp4 := hp3.kept hk4 (by simpa using hpg) (.inl hp3.lt)
  have hown4 := own_kept hown3 hk4 (fun x hx => by
    have : x = g := by simpa using hx
    subst this
    exact own_ne hown3 hg3 (by decide))
  have hk5 : Kept B [p, g] w w4 := (hk3.trans (hk4.mono hk3.size (fun x hx => .inl hx)) (fun x hx => .inl (by simp at hx ⊢; exact .inl hx)) (fun x hx => .inl (by simp at hx ⊢; exact .inr hx))).mono hlt (fun x hx => .inl hx)
  have hlen : (a ++ (vb m ++ body)).length = ov := by
    have h5 := HO.out
    have h6 := HG.out.2.1
    simp at h5 ⊢; omega
  have hre : RE B w4 p g N (a ++ (vb m ++ body)) rest stk := by
    refine ⟨hBp, hBg, ?_, _, ?_, ?_, hown4⟩
    · rw [hlen, ← HO.out]
      exact HG.out.2.2.1
    · rw [hlen]
      exact hp4
    · simp only [List.append_assoc]
      exact hg4
  have HF := Lib.hid (And.intro hre hk5)
  clear hk4 hg4 hp3 hk3 hown3 hp4 hown4 hk5 hre hlen hg3 hr3
  go_wp2
  go_ret
  exact ⟨rfl, HF.out⟩
set_option maxHeartbeats 2000000 in
theorem rpop264 {B : Nat} (p g N : Nat) (r so : Nat) (a mid body rest : List UInt8) (stk : List Value) (w : World) (h : RE B w p g N (a ++ (mid ++ body)) rest (stk ++ [Value.iface 264 (.pointer (some ⟨r, 0, none⟩))])) (hN1 : N ≤ 1000000000) (hs : stk.length ≤ 1000)
   (hr : Blk w r 288 [.int .i64 so, .int .i8 0]) (ha : a.length = so) (hb1 : 1 ≤ body.length) (hml : mid.length = 4) :
    Calls Tryz.prog 198 #[.pointer (some ⟨p, 0, none⟩)] w fun e w' => e = .returned .nilIface ∧ RE B w' p g N (a ++ (Lib.beBytes 4 (crc ieee body).toNat ++ body)) rest stk ∧ Kept B [p, g] w w' := by
  obtain ⟨hBp, hBg, hNe, sv, hp, hg, hown⟩ := h
  obtain ⟨gs, cap, rfl, hcap, hgl, hgc, hown'⟩ := own_form hown
  have hlt : B ≤ w.heap.size := by
    have := hown.lt gs rfl
    omega
  have hpg : p ≠ g := hp.ne_ hg (by decide)
  have hpl := hp.lt
  have h0 := hp.cell 0
  have h1 := hp.cell 1
  have h2 := hp.cell 2
  have f2 := hp.frozen 2
  simp at h0 h1 h2
  have i3 : IntKind.i64.wrap (stk.length : Int) = stk.length := IntWalk.i64_in _ (by omega)
  have i4 : stk.length ≤ cap := by omega
  have i2 : IntKind.i64.wrap ((stk.length : Int) + 1 - 1) = stk.length := by rw [IntWalk.i64_in _ (by omega)]; omega
  have i1 : (0 : Int) ≤ (stk.length : Int) + 1 - 1 := by omega
  have hoff : (a ++ (mid ++ body)).length ≤ 1000000000 := by omega
  have HG := Lib.hid (And.intro ha (And.intro hml hNe))
  have hpr : p ≠ r := hp.ne_ hr (by first | exact Ne.symm htr | decide)
  have hgr : r ≠ g := hr.ne_ hg (by decide)
  have HH := Lib.hid (And.intro hp (And.intro hg (And.intro hr hown')))
  generalize hofv : (a ++ (mid ++ body)).length = ov at h1 hoff
  have HO := Lib.hid hofv
  have HOW := Lib.hid hown
  clear hp hg hown' hown hr ha hml hNe hofv 
  go_enter Tryz.func198, Tryz.ntmps198
  go_wp2_with fail
  go_quiet (fail)
  go_wp2_with fail
  refine wp_region_still_tail 14 (by kernel_rfl) (by kernel_rfl) ?_
  show wpStill _ _ (World.drew _) (fun a' => wpList _ _ _ _ _ (World.drew _)) _ _
  simp only [List.take_succ_cons, List.take_zero, List.drop_succ_cons, List.drop_zero]
  repeat still_step
  refine wpStill_nil ?_
  go_wp2_with fail
  obtain ⟨hp, hg, hr, hown'⟩ := HH.out
  rw [HO.out] at hp
  have hk3 : Kept w.heap.size [p] w ((w.drewN (nq + 1)).setCell ⟨p, 2, none⟩ (.slice (some ⟨gs, 0, none⟩) stk.length cap)) := ((Kept.refl _ _ _).drewN _).setCell (p := ⟨p, 2, none⟩) (.inl (by simp)) _
  have hp3 : Blk ((w.drewN (nq + 1)).setCell ⟨p, 2, none⟩ (.slice (some ⟨gs, 0, none⟩) stk.length cap)) p 182 [.slice (some ⟨g, 0, none⟩) N N, .int .i64 ov, .slice (some ⟨gs, 0, none⟩) stk.length cap] := (hp.drewN (nq + 1)).set_ 2 _
  have hg3 := (hg.drewN (nq + 1)).far (p := ⟨p, 2, none⟩) (Ne.symm hpg) (.slice (some ⟨gs, 0, none⟩) stk.length cap)
  have hr3 := (hr.drewN (nq + 1)).far (p := ⟨p, 2, none⟩) (Ne.symm hpr) (.slice (some ⟨gs, 0, none⟩) stk.length cap)
  have hown3 := own_kept hown' hk3 (fun x hx => by
    have : x = p := by simpa using hx
    subst this
    exact own_ne hown' hp (by decide))
  clear hp hg hr hown' h0 h1 h2 f2 hgc
  generalize ((w.drewN (nq + 1)).setCell ⟨p, 2, none⟩ (.slice (some ⟨gs, 0, none⟩) stk.length cap)) = W3 at hp3 hg3 hr3 hown3 hk3 ⊢
  have h0 := hp3.cell 0
  have h1 := hp3.cell 1
  simp at h0 h1
  have H3 := Lib.hid (And.intro hp3 (And.intro hk3 hown3))
  have HG3 := Lib.hid (And.intro hg3 hr3)
  clear hp3 hk3 hown3 hg3 hr3
  go_wp2_with fail
  refine wp_region_still_tail 12 (by kernel_rfl) (by kernel_rfl) ?_
  show wpStill _ _ (World.drew _) (fun a' => wpList _ _ _ _ _ (World.drew _)) _ _
  simp only [List.take_succ_cons, List.take_zero, List.drop_succ_cons, List.drop_zero]
  repeat still_step
  refine wpStill_nil ?_
  go_wp2_with fail
  obtain ⟨hg3, hr3⟩ := HG3.out
  simp only [List.append_assoc] at hg3
  rw [← HO.out]
  refine (run268 r g so N _ a mid body rest _ (by exact hr3.drew) (by exact hg3.drew) HG.out.1 hb1 HG.out.2.1 (by have := HG.out; simp at this ⊢; omega) (by have := HG.out; simp at this ⊢; omega) hN1).mono ?_
  rintro e w4 ⟨rfl, hk4, hg4⟩
  replace hk4 := Kept.undrew hk4
  obtain ⟨hp3, hk3, hown3⟩ := H3.out
  have hp4 := hp3.kept hk4 (by simpa using hpg) (.inl hp3.lt)
  have hown4 := own_kept hown3 hk4 (fun x hx => by
    have : x = g := by simpa using hx
    subst this
    exact own_ne hown3 hg3 (by decide))
  have hk5 : Kept B [p, g] w w4 := (hk3.trans (hk4.mono hk3.size (fun x hx => .inl hx)) (fun x hx => .inl (by simp at hx ⊢; exact .inl hx)) (fun x hx => .inl (by simp at hx ⊢; exact .inr hx))).mono hlt (fun x hx => .inl hx)
  have hlen : (a ++ (Lib.beBytes 4 (crc ieee body).toNat ++ body)).length = ov := by
    have h5 := HO.out
    have h6 := HG.out.2.1
    simp [Lib.beBytes_length] at h5 ⊢; omega
  have hre : RE B w4 p g N (a ++ (Lib.beBytes 4 (crc ieee body).toNat ++ body)) rest stk := by
    refine ⟨hBp, hBg, ?_, _, ?_, ?_, hown4⟩
    · rw [hlen, ← HO.out]
      exact HG.out.2.2
    · rw [hlen]
      exact hp4
    · simp only [List.append_assoc]
      exact hg4
  have HF := Lib.hid (And.intro hre hk5)
  clear hk4 hg4 hp3 hk3 hown3 hp4 hown4 hk5 hre hlen hg3 hr3
  go_wp2
  go_ret
  exact ⟨rfl, HF.out⟩
set_option maxHeartbeats 2000000 in
theorem rpop277 {B : Nat} (p g N : Nat) (r so : Nat) (L : Int) (a mid body rest : List UInt8) (stk : List Value) (w : World) (h : RE B w p g N (a ++ (mid ++ body)) rest (stk ++ [Value.iface 277 (.pointer (some ⟨r, 0, none⟩))])) (hN1 : N ≤ 1000000000) (hs : stk.length ≤ 1000)
   (hr : Blk w r 279 [.int .i64 so, .int .i32 L]) (ha : a.length = so) (hml : mid.length = 4) :
    Calls Tryz.prog 198 #[.pointer (some ⟨p, 0, none⟩)] w fun e w' => e = .returned .nilIface ∧ RE B w' p g N (a ++ (Lib.beBytes 4 body.length ++ body)) rest stk ∧ Kept B [p, g] w w' := by
  obtain ⟨hBp, hBg, hNe, sv, hp, hg, hown⟩ := h
  obtain ⟨gs, cap, rfl, hcap, hgl, hgc, hown'⟩ := own_form hown
  have hlt : B ≤ w.heap.size := by
    have := hown.lt gs rfl
    omega
  have hpg : p ≠ g := hp.ne_ hg (by decide)
  have hpl := hp.lt
  have h0 := hp.cell 0
  have h1 := hp.cell 1
  have h2 := hp.cell 2
  have f2 := hp.frozen 2
  simp at h0 h1 h2
  have i3 : IntKind.i64.wrap (stk.length : Int) = stk.length := IntWalk.i64_in _ (by omega)
  have i4 : stk.length ≤ cap := by omega
  have i2 : IntKind.i64.wrap ((stk.length : Int) + 1 - 1) = stk.length := by rw [IntWalk.i64_in _ (by omega)]; omega
  have i1 : (0 : Int) ≤ (stk.length : Int) + 1 - 1 := by omega
  have hoff : (a ++ (mid ++ body)).length ≤ 1000000000 := by omega
  have HG := Lib.hid (And.intro ha (And.intro hml hNe))
  have hpr : p ≠ r := hp.ne_ hr (by first | exact Ne.symm htr | decide)
  have hgr : r ≠ g := hr.ne_ hg (by decide)
  have HH := Lib.hid (And.intro hp (And.intro hg (And.intro hr hown')))
  generalize hofv : (a ++ (mid ++ body)).length = ov at h1 hoff
  have HO := Lib.hid hofv
  have HOW := Lib.hid hown
  clear hp hg hown' hown hr ha hml hNe hofv 
  go_enter Tryz.func198, Tryz.ntmps198
  go_wp2_with fail
  go_quiet (fail)
  go_wp2_with fail
  refine wp_region_still_tail 14 (by kernel_rfl) (by kernel_rfl) ?_
  show wpStill _ _ (World.drew _) (fun a' => wpList _ _ _ _ _ (World.drew _)) _ _
  simp only [List.take_succ_cons, List.take_zero, List.drop_succ_cons, List.drop_zero]
  repeat still_step
  refine wpStill_nil ?_
  go_wp2_with fail
  obtain ⟨hp, hg, hr, hown'⟩ := HH.out
  rw [HO.out] at hp
  have hk3 : Kept w.heap.size [p] w ((w.drewN (nq + 1)).setCell ⟨p, 2, none⟩ (.slice (some ⟨gs, 0, none⟩) stk.length cap)) := ((Kept.refl _ _ _).drewN _).setCell (p := ⟨p, 2, none⟩) (.inl (by simp)) _
  have hp3 : Blk ((w.drewN (nq + 1)).setCell ⟨p, 2, none⟩ (.slice (some ⟨gs, 0, none⟩) stk.length cap)) p 182 [.slice (some ⟨g, 0, none⟩) N N, .int .i64 ov, .slice (some ⟨gs, 0, none⟩) stk.length cap] := (hp.drewN (nq + 1)).set_ 2 _
  have hg3 := (hg.drewN (nq + 1)).far (p := ⟨p, 2, none⟩) (Ne.symm hpg) (.slice (some ⟨gs, 0, none⟩) stk.length cap)
  have hr3 := (hr.drewN (nq + 1)).far (p := ⟨p, 2, none⟩) (Ne.symm hpr) (.slice (some ⟨gs, 0, none⟩) stk.length cap)
  have hown3 := own_kept hown' hk3 (fun x hx => by
    have : x = p := by simpa using hx
    subst this
    exact own_ne hown' hp (by decide))
  clear hp hg hr hown' h0 h1 h2 f2 hgc
  generalize ((w.drewN (nq + 1)).setCell ⟨p, 2, none⟩ (.slice (some ⟨gs, 0, none⟩) stk.length cap)) = W3 at hp3 hg3 hr3 hown3 hk3 ⊢
  have h0 := hp3.cell 0
  have h1 := hp3.cell 1
  simp at h0 h1
  have H3 := Lib.hid (And.intro hp3 (And.intro hk3 hown3))
  have HG3 := Lib.hid (And.intro hg3 hr3)
  clear hp3 hk3 hown3 hg3 hr3
  go_wp2_with fail
  refine wp_region_still_tail 12 (by kernel_rfl) (by kernel_rfl) ?_
  show wpStill _ _ (World.drew _) (fun a' => wpList _ _ _ _ _ (World.drew _)) _ _
  simp only [List.take_succ_cons, List.take_zero, List.drop_succ_cons, List.drop_zero]
  repeat still_step
  refine wpStill_nil ?_
  go_wp2_with fail
  obtain ⟨hg3, hr3⟩ := HG3.out
  simp only [List.append_assoc] at hg3
  rw [← HO.out]
  refine (run279 r g N so _ L a mid (body ++ rest) _ (by exact hr3.drew) (by exact hg3.drew) HG.out.1 HG.out.2.1 (by have := HG.out; simp at this ⊢; omega) hN1 (by have := HG.out; simp at this ⊢; omega) (by have := HG.out; simp at this ⊢; omega)).mono ?_
  rintro e w4 ⟨rfl, hk4, hg4⟩
  replace hk4 := Kept.undrew hk4
  obtain ⟨hp3, hk3, hown3⟩ := H3.out
  have hp4 := hp3.kept hk4 (by simpa using hpg) (.inl hp3.lt)
  have hown4 := own_kept hown3 hk4 (fun x hx => by
    have : x = g := by simpa using hx
    subst this
    exact own_ne hown3 hg3 (by decide))
  have hk5 : Kept B [p, g] w w4 := (hk3.trans (hk4.mono hk3.size (fun x hx => .inl hx)) (fun x hx => .inl (by simp at hx ⊢; exact .inl hx)) (fun x hx => .inl (by simp at hx ⊢; exact .inr hx))).mono hlt (fun x hx => .inl hx)
  have hlen : (a ++ (Lib.beBytes 4 body.length ++ body)).length = ov := by
    have h5 := HO.out
    have h6 := HG.out.2.1
    simp [Lib.beBytes_length] at h5 ⊢; omega
  have hre : RE B w4 p g N (a ++ (Lib.beBytes 4 body.length ++ body)) rest stk := by
    refine ⟨hBp, hBg, ?_, _, ?_, ?_, hown4⟩
    · rw [hlen, ← HO.out]
      exact HG.out.2.2
    · rw [hlen]
      exact hp4
    · simp only [List.append_assoc]
      have e7 : (a ++ (mid ++ body)).length - so - 4 = body.length := by
        have h5 := HG.out
        simp at h5 ⊢
        omega
      rw [e7] at hg4
      exact hg4
  have HF := Lib.hid (And.intro hre hk5)
  clear hk4 hg4 hp3 hk3 hown3 hp4 hown4 hk5 hre hlen hg3 hr3
  go_wp2
  go_ret
  exact ⟨rfl, HF.out⟩
end Go.Proofs.YtmiflkccfieefaaGreatDoor
