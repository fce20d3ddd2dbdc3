/-
  The writing encoder's methods: varints and bytes.
-/
import Derived.Test.YtmiflkccfieefaaGreatDoorReal
namespace Go.Proofs.YtmiflkccfieefaaGreatDoor
open Go.ChangeShapes Go.WideShapes Go.ChangeAt Go.RowKit
set_option maxRecDepth 100000
set_option linter.unusedVariables false

theorem r207 {B : Nat} (p g N : Nat) (v : Value) (l pre rest : List UInt8) (stk : List Value) (w : World) (h : RE B w p g N pre rest stk) (hN : N ≤ 1000000000) (D : Nat) (hv : BytesAt w D v l) (hDg : D ≤ g) (hr : l.length ≤ rest.length) :
    Calls Tryz.prog 207 #[.pointer (some ⟨p, 0, none⟩), v] w fun e w' => e = .returned .nilIface ∧ RE B w' p g N (pre ++ l) (rest.drop l.length) stk ∧ Kept B [p, g] w w' := by
  have H := Lib.hid h
  obtain ⟨hBp, hBg, hNe, sv, hp, hg, hown⟩ := h
  have hpg : p ≠ g := hp.ne_ hg (by decide)
  have h0 := hp.cell 0
  have h1 := hp.cell 1
  have f1 := hp.frozen 1
  simp at h0 h1
  have hle : pre.length ≤ N := by omega
  have hpl := hp.lt
  have HH := Lib.hid (And.intro hNe (And.intro hp (And.intro hg hv)))
  obtain ⟨ad, c, _, _, rfl, _⟩ := hv
  have hadd : pre.length + l.length ≤ 1000000000 := by omega
  have tail : ∀ w1, Kept w.heap.size [g] w w1 → w1.cell? ⟨p, 1, none⟩ = some (.int .i64 pre.length) ∧ w1.frozen? ⟨p, 1, none⟩ = false := fun w1 hk =>
    ⟨(World.cell?_of_block (hk.block p hpl (by simpa using hpg) (.inl hpl))).trans h1, (World.frozen?_of_block (hk.block p hpl (by simpa using hpg) (.inl hpl))).trans f1⟩
  clear hp hg hown
  by_cases hne : N = pre.length
  · have hl0 : l.length = 0 := by omega
    clear hNe
    subst hne
    go_enter Tryz.func207, Tryz.ntmps207
    have hHl := Lib.hid hl0
    clear hl0
    go_wp2_with fail
    refine wp_region_still_tail 10 (by kernel_rfl) (by kernel_rfl) ?_
    show wpStill _ _ (World.drew _) (fun a' => wpList _ _ _ _ _ (World.drew _)) _ _
    simp only [List.take_succ_cons, List.take_zero, List.drop_succ_cons, List.drop_zero]
    repeat still_step
    refine wpStill_nil ?_
    refine wpList_copy_kept rfl _ _ rfl _ _ _ g _ pre rest l rfl rfl D (by exact HH.out.2.2.2) hDg (fun hz => absurd hHl.out (by omega)) (by have := hHl.out; omega) hr (by exact HH.out.2.2.1) ?_
    intro w1 hk hs
    replace hk := Kept.undrew hk
    obtain ⟨h11, f11⟩ := tail w1 hk
    have HS := Lib.hid (And.intro hk hs)
    clear hk hs
    go_wp2
    go_ret
    obtain ⟨hk, hs⟩ := HS.out
    exact ⟨rfl, RE.wrote (d := l) H.out hr hk hs⟩
  · clear hNe
    go_enter Tryz.func207, Tryz.ntmps207
    go_wp2_with fail
    refine wp_region_still_tail 10 (by kernel_rfl) (by kernel_rfl) ?_
    show wpStill _ _ (World.drew _) (fun a' => wpList _ _ _ _ _ (World.drew _)) _ _
    simp only [List.take_succ_cons, List.take_zero, List.drop_succ_cons, List.drop_zero]
    repeat still_step
    refine wpStill_nil ?_
    refine wpList_copy_kept rfl _ _ rfl _ _ _ g _ pre rest l rfl rfl D (by exact HH.out.2.2.2) hDg (fun _ => rfl) (by have := HH.out.1; omega) hr (by exact HH.out.2.2.1) ?_
    intro w1 hk hs
    replace hk := Kept.undrew hk
    obtain ⟨h11, f11⟩ := tail w1 hk
    have HS := Lib.hid (And.intro hk hs)
    clear hk hs
    go_wp2
    go_ret
    obtain ⟨hk, hs⟩ := HS.out
    exact ⟨rfl, RE.wrote (d := l) H.out hr hk hs⟩
theorem putvar (g N : Nat) (x : Int) (pre rest : List UInt8) (w : World) (hg : Blk w g 5 (Lib.byteCells (pre ++ rest))) (hN : pre.length + rest.length = N) (h0 : -9223372036854775808 ≤ x) (h1 : x ≤ 9223372036854775807) (hr : (vb x).length ≤ rest.length) :
    Calls Tryz.prog 196 #[.slice (some ⟨g, pre.length, none⟩) (N - pre.length) (N - pre.length), .int .i64 x] w
      fun e w' => e = .returned (.int .i64 (vb x).length) ∧ Kept w.heap.size [g] w w' ∧ Blk w' g 5 (Lib.byteCells (pre ++ (vb x ++ rest.drop (vb x).length))) := by
  have hl := vb_le h0 h1
  refine (Tryz.binary_PutVarint g pre.length (N - pre.length) (N - pre.length) x h0 h1 w (by unfold vb at hr; omega) (fun j hj => ?_)).mono ?_
  · obtain ⟨u, hu⟩ := byteCells_get (l := pre ++ rest) (i := pre.length + j) (by unfold vb at hr; simp; omega)
    exact ⟨by rw [hg.cell, hu]; rfl, hg.frozen _⟩
  · rintro e w1 ⟨rfl, rfl⟩
    exact ⟨rfl, Kept.setCells (.inl (by simp)) _ _ _ (Kept.refl _ _ _), RE.sets (d := vb x) hg hr⟩
set_option maxHeartbeats 4000000 in
theorem r208 {B : Nat} (p g N : Nat) (x : Int) (pre rest : List UInt8) (stk : List Value) (w : World) (h : RE B w p g N pre rest stk) (hN : N ≤ 1000000000) (hx0 : -9223372036854775808 ≤ x) (hx1 : x ≤ 9223372036854775807) (hr : (vb x).length ≤ rest.length) :
    Calls Tryz.prog 208 #[.pointer (some ⟨p, 0, none⟩), .int .i64 x] w fun e w' => e = .returned (.tuple #[]) ∧ RE B w' p g N (pre ++ vb x) (rest.drop (vb x).length) stk ∧ Kept B [p, g] w w' := by
  have H := Lib.hid h
  have hvp := vb_pos x
  have hvl := vb_le hx0 hx1
  obtain ⟨hBp, hBg, hNe, sv, hp, hg, hown⟩ := h
  have hpg : p ≠ g := hp.ne_ hg (by decide)
  have h0 := hp.cell 0
  have h1 := hp.cell 1
  have f1 := hp.frozen 1
  simp at h0 h1
  have hlt : pre.length < N := by omega
  have hle : pre.length ≤ N := by omega
  have hne : ¬ N = pre.length := by omega
  have hpl := hp.lt
  have HW := Lib.hid (IntWalk.i64_in ((pre.length : Int) + ((vb x).length : Int)) (by omega))
  have HH := Lib.hid (And.intro hNe (And.intro hp hg))
  have tail : ∀ w1, Kept w.heap.size [g] w w1 → w1.cell? ⟨p, 1, none⟩ = some (.int .i64 pre.length) ∧ w1.frozen? ⟨p, 1, none⟩ = false := fun w1 hk =>
    ⟨(World.cell?_of_block (hk.block p hpl (by simpa using hpg) (.inl hpl))).trans h1, (World.frozen?_of_block (hk.block p hpl (by simpa using hpg) (.inl hpl))).trans f1⟩
  clear hNe hp hg hown
  go_enter Tryz.func208, Tryz.ntmps208
  go_wp2_with fail
  go_region_with (go_at_call 196; refine (putvar g N x pre rest _ (by exact HH.out.2.2) HH.out.1 hx0 hx1 hr).mono ?_; rintro e w1 ⟨rfl, hk, hs⟩; replace hk := Kept.undrew hk; obtain ⟨h11, f11⟩ := tail w1 hk; have HS := Lib.hid (And.intro hk hs); clear hk hs)
  all_goals
    rw [HW.out]
    go_wp2
    go_end0
    obtain ⟨hk, hs⟩ := HS.out
    exact ⟨rfl, RE.wrote (d := vb x) H.out hr hk hs⟩
theorem r209 {B : Nat} (p g N : Nat) (v : Value) (o : Option (List UInt8)) (pre rest : List UInt8) (stk : List Value) (w : World) (h : RE B w p g N pre rest stk) (hN : N ≤ 1000000000) (D : Nat) (hv : NBytesAt w D v o) (hDg : D ≤ g) (hDp : D ≤ p) (hr : (vBytes o).length ≤ rest.length) :
    Calls Tryz.prog 209 #[.pointer (some ⟨p, 0, none⟩), v] w fun e w' => e = .returned .nilIface ∧ RE B w' p g N (pre ++ vBytes o) (rest.drop (vBytes o).length) stk ∧ Kept B [p, g] w w' := by
  have heq := fun (W : World) (a : Option Addr) (l c : Nat) => Lib.run_eql_slice_nil (P := Tryz.prog) W 23 5 a l c 0 0 Tryz.underlying23
  cases o with
  | none =>
    subst hv
    go_enter Tryz.func209, Tryz.ntmps209
    go_wp2_with (go_at_call 208; refine (r208 _ _ _ _ _ _ _ _ h hN (by omega) (by omega) hr).mono ?_; rintro e w1 ⟨rfl, hp, hk⟩)
    go_ret
    exact ⟨rfl, hp, hk⟩
  | some l =>
    have hv' : BytesAt w D v l := hv
    have HV := Lib.hid hv'
    obtain ⟨a, c, _, _, rfl, _⟩ := hv'
    clear hv
    have hr' : (vb l.length).length + l.length ≤ rest.length := by simpa [vBytes] using hr
    have hNe := h.2.2.1
    have hl : l.length ≤ 1000000000 := by omega
    clear hNe hr
    have e1 : pre ++ vBytes (some l) = pre ++ vb l.length ++ l := by simp [vBytes]
    have e2 : rest.drop (vBytes (some l)).length = (rest.drop (vb l.length).length).drop l.length := by simp [vBytes]
    rw [e1, e2]
    clear e1 e2
    go_enter Tryz.func209, Tryz.ntmps209
    go_wp2_with (go_at_call 208; refine (r208 _ _ _ _ _ _ _ _ h hN (by omega) (by omega) (by omega)).mono ?_; rintro e w1 ⟨rfl, hp, hk⟩)
    have hv1 := HV.out.kept hk (fun s hs => .inl (by simp at hs; rcases hs with rfl | rfl <;> assumption))
    go_wp2_with (go_at_call 207; refine (r207 _ _ _ _ l _ _ _ _ hp hN D hv1 hDg (by simp; omega)).mono ?_; rintro e w2 ⟨rfl, hp2, hk2⟩)
    go_ret
    exact ⟨rfl, hp2, hk.trans hk2 (fun x hx => .inl hx) (fun x hx => .inl hx)⟩
theorem r201 {B : Nat} (p g N : Nat) (v : Value) (o : Option (List UInt8)) (pre rest : List UInt8) (stk : List Value) (w : World) (h : RE B w p g N pre rest stk) (hN : N ≤ 1000000000) (D : Nat) (hv : NBytesAt w D v o) (hDg : D ≤ g) (hDp : D ≤ p) (hr : (sBytes o).length ≤ rest.length) :
    Calls Tryz.prog 201 #[.pointer (some ⟨p, 0, none⟩), v] w fun e w' => e = .returned .nilIface ∧ RE B w' p g N (pre ++ sBytes o) (rest.drop (sBytes o).length) stk ∧ Kept B [p, g] w w' := by
  have heq := fun (W : World) (a : Option Addr) (l c : Nat) => Lib.run_eql_slice_nil (P := Tryz.prog) W 23 5 a l c 0 0 Tryz.underlying23
  have hb4 : ∀ x, (Lib.beBytes 4 x).length = 4 := fun x => Lib.beBytes_length 4 x
  cases o with
  | none =>
    subst hv
    have hr4 : 4 ≤ rest.length := by simpa [sBytes, hb4] using hr
    have e1 : rest.drop (sBytes none).length = rest.drop 4 := by simp [sBytes, hb4]
    rw [e1]
    clear e1 hr hb4
    go_enter Tryz.func201, Tryz.ntmps201
    go_wp2_with (go_at_call 204; refine (r204 _ _ _ _ _ _ _ _ h hN hr4).mono ?_; rintro e w1 ⟨rfl, hp, hk⟩)
    go_ret
    exact ⟨rfl, hp, hk⟩
  | some l =>
    have hv' : BytesAt w D v l := hv
    have HV := Lib.hid hv'
    obtain ⟨a, c, _, _, rfl, _⟩ := hv'
    clear hv
    have hr' : 4 + l.length ≤ rest.length := by simpa [sBytes, hb4] using hr
    have hNe := h.2.2.1
    have hl : l.length ≤ 1000000000 := by omega
    have e0 : ((l.length : Int) % 4294967296).toNat = l.length := by omega
    have e1 : pre ++ sBytes (some l) = pre ++ Lib.beBytes 4 ((l.length : Int) % 4294967296).toNat ++ l := by rw [e0]; simp [sBytes]
    have e2 : rest.drop (sBytes (some l)).length = (rest.drop 4).drop l.length := by simp [sBytes, hb4]
    rw [e1, e2]
    clear e0 e1 e2 hNe hr hb4
    go_enter Tryz.func201, Tryz.ntmps201
    go_wp2_with (go_at_call 204; refine (r204 _ _ _ _ _ _ _ _ h hN (by omega)).mono ?_; rintro e w1 ⟨rfl, hp, hk⟩)
    have hv1 := HV.out.kept hk (fun s hs => .inl (by simp at hs; rcases hs with rfl | rfl <;> assumption))
    go_wp2_with (go_at_call 207; refine (r207 _ _ _ _ l _ _ _ _ hp hN D hv1 hDg (by simp; omega)).mono ?_; rintro e w2 ⟨rfl, hp2, hk2⟩)
    go_ret
    exact ⟨rfl, hp2, hk.trans hk2 (fun x hx => .inl hx) (fun x hx => .inl hx)⟩
end Go.Proofs.YtmiflkccfieefaaGreatDoor
