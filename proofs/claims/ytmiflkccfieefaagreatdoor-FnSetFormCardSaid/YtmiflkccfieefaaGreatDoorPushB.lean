/-
  The writing encoder takes a field on its stack: three kinds of fields.
-/
import Derived.Test.YtmiflkccfieefaaGreatDoorPushLeaf
namespace Go.Proofs.YtmiflkccfieefaaGreatDoor
open Go.ChangeShapes Go.WideShapes Go.ChangeAt Go.RowKit
set_option maxRecDepth 100000
set_option maxHeartbeats 2000000 in
theorem push199_253 {B : Nat} (p n : Nat) (raw : Value) (r o tr : Nat) (cs : List Value) (u : Value) (m : Int) (stk : List Value) (sv : Value) (w : World) (hBp : B ≤ p) (hp : Blk w p 182 [raw, .int .i64 n, sv]) (hown : w.ownsRow B 323 1 sv stk.length stk) (hn : n ≤ 1000000000)
   (hr : Blk w r tr cs) (hencT : tr ≠ 182) (h323 : tr ≠ 323) (hc : cs[o]? = some u) (hm : cs[o + 1]? = some (.int .i64 m)) (hm0 : -9223372036854775808 ≤ m) (hm1 : m ≤ 9223372036854775807) (hs : stk.length ≤ 1000) :
    Calls Tryz.prog 199 #[.pointer (some ⟨p, 0, none⟩), .iface 253 (.pointer (some ⟨r, o, none⟩))] w fun e w' => e = .returned (.tuple #[]) ∧
      ∃ sv', Blk w' p 182 [raw, .int .i64 ((n : Int) + (vb m).length), sv'] ∧ w'.ownsRow B 323 1 sv' (stk ++ [Value.iface 253 (.pointer (some ⟨r, o, none⟩))]).length (stk ++ [Value.iface 253 (.pointer (some ⟨r, o, none⟩))]) ∧ Blk w' r tr (cs.set o (.int .i64 n)) ∧ Kept B [p, r] w w' := by
  obtain ⟨i0, hi, hz0, hz1, hz2⟩ := info_parts info323
  have hlt : B ≤ w.heap.size := Nat.le_trans hBp (Nat.le_of_lt hp.lt)
  have hpr : p ≠ r := hp.ne_ hr (Ne.symm hencT)
  have hvm := vb_le hm0 hm1
  -- behind saveOffset
  have hp1 : Blk (w.drew.setCell ⟨r, o, none⟩ (.int .i64 n)) p 182 [raw, .int .i64 n, sv] := hp.drew.far (p := ⟨r, o, none⟩) hpr _
  have hr1 : Blk (w.drew.setCell ⟨r, o, none⟩ (.int .i64 n)) r tr (cs.set o (.int .i64 n)) := hr.drew.set_ o _
  have hk1 : Kept w.heap.size [r] w (w.drew.setCell ⟨r, o, none⟩ (.int .i64 n)) := (Kept.refl _ _ _).drew.setCell (p := ⟨r, o, none⟩) (.inl (by simp)) _
  have hown1 : (w.drew.setCell ⟨r, o, none⟩ (.int .i64 n)).ownsRow B 323 1 sv stk.length stk := own_kept hown hk1 (fun x hx => by
    have : x = r := by simpa using hx
    subst this
    exact own_ne hown hr (Ne.symm h323))
  have h0 := hp.cell 2
  have h1 := hp.cell 1
  have f1 := hp.frozen 1
  have hc' : w.cell? ⟨r, o, none⟩ = some u := (hr.cell o).trans hc
  have hf' := hr.frozen o
  simp at h0 h1
  have HH := Lib.hid (And.intro hp1 (And.intro hr1 (And.intro hk1 hown1)))
  have hm' := hm
  clear hp1 hr1 hk1 hown1 hown hp hr hc hm
  go_enter Tryz.func199, Tryz.ntmps199
  go_wp2_with fail
  refine wp_region_still_tail 8 (by kernel_rfl) (by kernel_rfl) ?_
  show wpStill _ _ (World.drew _) (fun a' => wpList _ _ _ _ _ (World.drew _)) _ _
  simp only [List.take_succ_cons, List.take_zero, List.drop_succ_cons, List.drop_zero]
  repeat still_step
  refine wpStill_nil ?_
  go_wp2_with (go_at_call 265; refine (l265 _ _ u _ (by exact hc') (by exact hf')).mono ?_)
  rintro e w1 ⟨rfl, hw1⟩
  obtain ⟨hp1, hr1, hk1, hown1⟩ := HH.out
  rw [hw1] at hp1 hr1 hk1 hown1
  clear hw1 hc' hf' h0 h1 f1
  have h0 := hp1.cell 2
  have h1 := hp1.cell 1
  have f1 := hp1.frozen 1
  have hcm : w1.cell? ⟨r, o + 1, none⟩ = some (.int .i64 m) := by
    rw [hr1.cell, List.getElem?_set_ne (by omega)]
    exact hm'
  simp at h0 h1
  have HW := Lib.hid (IntWalk.i64_in ((n : Int) + ((vb m).length : Int)) (by omega))
  have hlt1 := hp1.lt
  have hcell : ∀ w2, Kept w1.heap.size [] w1 w2 → w2.cell? ⟨p, 1, none⟩ = some (.int .i64 n) ∧ w2.frozen? ⟨p, 1, none⟩ = false := fun w2 hk =>
    ⟨(World.cell?_of_block (hk.block p hlt1 (by simp) (.inl hlt1))).trans h1, (World.frozen?_of_block (hk.block p hlt1 (by simp) (.inl hlt1))).trans f1⟩
  have H1 := Lib.hid (And.intro hp1 (And.intro hr1 (And.intro hk1 hown1)))
  clear hp1 hr1 hk1 hown1
  go_wp2_with fail
  go_region_with (go_at_call 263; refine (l263 r o m _ hm0 hm1 ?_).mono ?_; exact hcm; rintro e w2 ⟨rfl, hk2⟩; have hk2 := Kept.undrew hk2; obtain ⟨hc2, hf2⟩ := hcell _ hk2)
  all_goals
    rw [HW.out]
    obtain ⟨hp1, hr1, hk1, hown1⟩ := H1.out
    have hkk : Kept w1.heap.size [p] w1 (w2.setCell ⟨p, 1, none⟩ (.int .i64 (n + (vb m).length))) := (hk2.mono (Nat.le_refl _) (fun x hx => by cases hx)).setCell (p := ⟨p, 1, none⟩) (.inl (by simp)) _
    have hp3 : Blk (w2.setCell ⟨p, 1, none⟩ (.int .i64 (n + (vb m).length))) p 182 [raw, .int .i64 (n + (vb m).length), sv] := (hp1.kept hk2 (by simp) (.inl hlt1)).set_ 1 _
    have hr3 := hr1.kept hkk (by simpa using Ne.symm hpr) (.inl hr1.lt)
    have hown3 := own_kept hown1 hkk (fun x hx => by
      have : x = p := by simpa using hx
      subst this
      exact own_ne hown1 hp1 (by decide))
    have hk3 : Kept w.heap.size [p, r] w (w2.setCell ⟨p, 1, none⟩ (.int .i64 (n + (vb m).length))) := hk1.trans (hkk.mono hk1.size (fun x hx => .inl hx)) (fun x hx => .inl (by simp at hx ⊢; exact .inr hx)) (fun x hx => .inl (by simp at hx ⊢; exact .inl hx))
    clear hkk hp1 hr1 hk1 hown1 hk2 hc2 hf2 h0 h1 f1 hcm H1 hcell
    generalize (w2.setCell ⟨p, 1, none⟩ (.int .i64 (n + (vb m).length))) = W3 at hp3 hr3 hown3 hk3 ⊢
    have h0 := hp3.cell 2
    have f0 := hp3.frozen 2
    simp at h0
    have hlt3 := hp3.lt
    have hne := own_ne hown3 hp3 (by decide)
    have hner := own_ne hown3 hr3 (Ne.symm h323)
    have H3 := Lib.hid (And.intro hp3 (And.intro hr3 hk3))
    clear hp3 hr3 hk3
    go_wp2_with (at_builtin; refine wpList_append_own _ rfl _ _ 176 rfl B 323 i0 .nilIface 1 16 Tryz.underlying176 hi hz0 hz1 hz2 rfl (by decide) _ _ _ rfl (hown3.alloc _) ⟨W3.heap.size, 0, none⟩ 1 1 [Value.iface 253 (.pointer (some ⟨r, o, none⟩))] rfl rfl ?c1 ?c2 ?c3 ?c4 ?c5 ?_)
    case c1 => exact cell_one_new _ _ _
    case c2 => intro u hu; simp at hu; subst hu; rfl
    case c3 => unfold maxLen; omega
    case c4 => omega
    case c5 => simp; omega
    intro v' w4 hown4 hg4 hnn
    obtain ⟨hp3, hr3, hk3⟩ := H3.out
    have hex : ∃ g cap, v' = .slice (some ⟨g, 0, none⟩) (stk.length + 1) cap := by
      rcases hown4.2 with ⟨_, hz⟩ | ⟨g, cap, cur, hv, _⟩
      · exact absurd hz (by omega)
      · exact ⟨g, cap, hv⟩
    obtain ⟨g, cap, rfl⟩ := hex
    have hp4 : Blk w4 p 182 [raw, .int .i64 (n + (vb m).length), sv] := (hg4.block p (by simp; omega) (fun e => hne e.symm)).trans (hp3.alloc _)
    have hr4 : Blk w4 r tr (cs.set o (.int .i64 n)) := (hg4.block r (by have := hr3.lt; simp; omega) (fun e => hner e.symm)).trans (hr3.alloc _)
    have hk4 : Kept B [p, r] w w4 := kept_grown (hk3.mono hlt (fun x hx => .inl hx)) hg4 hown3
    have hpne := own_ne hown4 hp4 (by decide)
    have h04 := hp4.cell 2
    have f04 := hp4.frozen 2
    simp at h04
    have HF : Hid (∃ sv', Blk (w4.setCell ⟨p, 2, none⟩ (.slice (some ⟨g, 0, none⟩) (stk.length + 1) cap)) p 182 [raw, .int .i64 ((n : Int) + (vb m).length), sv'] ∧ (w4.setCell ⟨p, 2, none⟩ (.slice (some ⟨g, 0, none⟩) (stk.length + 1) cap)).ownsRow B 323 1 sv' (stk ++ [Value.iface 253 (.pointer (some ⟨r, o, none⟩))]).length (stk ++ [Value.iface 253 (.pointer (some ⟨r, o, none⟩))]) ∧ Blk (w4.setCell ⟨p, 2, none⟩ (.slice (some ⟨g, 0, none⟩) (stk.length + 1) cap)) r tr (cs.set o (.int .i64 n)) ∧ Kept B [p, r] w (w4.setCell ⟨p, 2, none⟩ (.slice (some ⟨g, 0, none⟩) (stk.length + 1) cap))) := by
      refine ⟨_, hp4.set_ 2 _, ?_, hr4.far (p := ⟨p, 2, none⟩) (Ne.symm hpr) _, hk4.setCell (p := ⟨p, 2, none⟩) (.inl (by simp)) _⟩
      rw [List.length_append]
      exact own_kept hown4 ((Kept.refl _ [p] _).setCell (p := ⟨p, 2, none⟩) (.inl (by simp)) _) (fun x hx => by
        have : x = p := by simpa using hx
        subst this
        exact hpne)
    clear hp3 hr3 hk3 hp4 hr4 hk4 hg4 hown4
    go_wp2
    go_end0
    exact ⟨rfl, HF.out⟩
set_option maxHeartbeats 2000000 in
theorem push199_264 {B : Nat} (p n : Nat) (raw : Value) (r o tr : Nat) (cs : List Value) (u : Value) (stk : List Value) (sv : Value) (w : World) (hBp : B ≤ p) (hp : Blk w p 182 [raw, .int .i64 n, sv]) (hown : w.ownsRow B 323 1 sv stk.length stk) (hn : n ≤ 1000000000)
   (hr : Blk w r tr cs) (hencT : tr ≠ 182) (h323 : tr ≠ 323) (hc : cs[o]? = some u) (hs : stk.length ≤ 1000) :
    Calls Tryz.prog 199 #[.pointer (some ⟨p, 0, none⟩), .iface 264 (.pointer (some ⟨r, o, none⟩))] w fun e w' => e = .returned (.tuple #[]) ∧
      ∃ sv', Blk w' p 182 [raw, .int .i64 ((n : Int) + 4), sv'] ∧ w'.ownsRow B 323 1 sv' (stk ++ [Value.iface 264 (.pointer (some ⟨r, o, none⟩))]).length (stk ++ [Value.iface 264 (.pointer (some ⟨r, o, none⟩))]) ∧ Blk w' r tr (cs.set o (.int .i64 n)) ∧ Kept B [p, r] w w' := by
  obtain ⟨i0, hi, hz0, hz1, hz2⟩ := info_parts info323
  have hlt : B ≤ w.heap.size := Nat.le_trans hBp (Nat.le_of_lt hp.lt)
  have hpr : p ≠ r := hp.ne_ hr (Ne.symm hencT)
  -- behind saveOffset
  have hp1 : Blk (w.drew.setCell ⟨r, o, none⟩ (.int .i64 n)) p 182 [raw, .int .i64 n, sv] := hp.drew.far (p := ⟨r, o, none⟩) hpr _
  have hr1 : Blk (w.drew.setCell ⟨r, o, none⟩ (.int .i64 n)) r tr (cs.set o (.int .i64 n)) := hr.drew.set_ o _
  have hk1 : Kept w.heap.size [r] w (w.drew.setCell ⟨r, o, none⟩ (.int .i64 n)) := (Kept.refl _ _ _).drew.setCell (p := ⟨r, o, none⟩) (.inl (by simp)) _
  have hown1 : (w.drew.setCell ⟨r, o, none⟩ (.int .i64 n)).ownsRow B 323 1 sv stk.length stk := own_kept hown hk1 (fun x hx => by
    have : x = r := by simpa using hx
    subst this
    exact own_ne hown hr (Ne.symm h323))
  have h0 := hp.cell 2
  have h1 := hp.cell 1
  have f1 := hp.frozen 1
  have hc' : w.cell? ⟨r, o, none⟩ = some u := (hr.cell o).trans hc
  have hf' := hr.frozen o
  simp at h0 h1
  have HH := Lib.hid (And.intro hp1 (And.intro hr1 (And.intro hk1 hown1)))
  clear hp1 hr1 hk1 hown1 hown hp hr hc
  go_enter Tryz.func199, Tryz.ntmps199
  go_wp2_with fail
  refine wp_region_still_tail 8 (by kernel_rfl) (by kernel_rfl) ?_
  show wpStill _ _ (World.drew _) (fun a' => wpList _ _ _ _ _ (World.drew _)) _ _
  simp only [List.take_succ_cons, List.take_zero, List.drop_succ_cons, List.drop_zero]
  repeat still_step
  refine wpStill_nil ?_
  go_wp2_with (go_at_call 269; refine (l269 _ _ u _ (by exact hc') (by exact hf')).mono ?_)
  rintro e w1 ⟨rfl, hw1⟩
  obtain ⟨hp1, hr1, hk1, hown1⟩ := HH.out
  rw [hw1] at hp1 hr1 hk1 hown1
  clear hw1 hc' hf' h0 h1 f1
  have h0 := hp1.cell 2
  have h1 := hp1.cell 1
  have f1 := hp1.frozen 1
  simp at h0 h1
  have HW := Lib.hid (IntWalk.i64_in ((n : Int) + 4) (by omega))
  have hlt1 := hp1.lt
  have hcell : ∀ w2, Kept w1.heap.size [] w1 w2 → w2.cell? ⟨p, 1, none⟩ = some (.int .i64 n) ∧ w2.frozen? ⟨p, 1, none⟩ = false := fun w2 hk =>
    ⟨(World.cell?_of_block (hk.block p hlt1 (by simp) (.inl hlt1))).trans h1, (World.frozen?_of_block (hk.block p hlt1 (by simp) (.inl hlt1))).trans f1⟩
  have H1 := Lib.hid (And.intro hp1 (And.intro hr1 (And.intro hk1 hown1)))
  clear hp1 hr1 hk1 hown1
  go_wp2_with fail
  go_region_with (go_at_call 267; refine (l267 _ _).mono ?_; rintro e w2 ⟨rfl, hk2⟩; have hk2 := Kept.undrew hk2; obtain ⟨hc2, hf2⟩ := hcell _ hk2)
  all_goals
    rw [HW.out]
    obtain ⟨hp1, hr1, hk1, hown1⟩ := H1.out
    have hkk : Kept w1.heap.size [p] w1 (w2.setCell ⟨p, 1, none⟩ (.int .i64 (n + 4))) := (hk2.mono (Nat.le_refl _) (fun x hx => by cases hx)).setCell (p := ⟨p, 1, none⟩) (.inl (by simp)) _
    have hp3 : Blk (w2.setCell ⟨p, 1, none⟩ (.int .i64 (n + 4))) p 182 [raw, .int .i64 (n + 4), sv] := (hp1.kept hk2 (by simp) (.inl hlt1)).set_ 1 _
    have hr3 := hr1.kept hkk (by simpa using Ne.symm hpr) (.inl hr1.lt)
    have hown3 := own_kept hown1 hkk (fun x hx => by
      have : x = p := by simpa using hx
      subst this
      exact own_ne hown1 hp1 (by decide))
    have hk3 : Kept w.heap.size [p, r] w (w2.setCell ⟨p, 1, none⟩ (.int .i64 (n + 4))) := hk1.trans (hkk.mono hk1.size (fun x hx => .inl hx)) (fun x hx => .inl (by simp at hx ⊢; exact .inr hx)) (fun x hx => .inl (by simp at hx ⊢; exact .inl hx))
    clear hkk hp1 hr1 hk1 hown1 hk2 hc2 hf2 h0 h1 f1 H1 hcell
    generalize (w2.setCell ⟨p, 1, none⟩ (.int .i64 (n + 4))) = W3 at hp3 hr3 hown3 hk3 ⊢
    have h0 := hp3.cell 2
    have f0 := hp3.frozen 2
    simp at h0
    have hlt3 := hp3.lt
    have hne := own_ne hown3 hp3 (by decide)
    have hner := own_ne hown3 hr3 (Ne.symm h323)
    have H3 := Lib.hid (And.intro hp3 (And.intro hr3 hk3))
    clear hp3 hr3 hk3
    go_wp2_with (at_builtin; refine wpList_append_own _ rfl _ _ 176 rfl B 323 i0 .nilIface 1 16 Tryz.underlying176 hi hz0 hz1 hz2 rfl (by decide) _ _ _ rfl (hown3.alloc _) ⟨W3.heap.size, 0, none⟩ 1 1 [Value.iface 264 (.pointer (some ⟨r, o, none⟩))] rfl rfl ?c1 ?c2 ?c3 ?c4 ?c5 ?_)
    case c1 => exact cell_one_new _ _ _
    case c2 => intro u hu; simp at hu; subst hu; rfl
    case c3 => unfold maxLen; omega
    case c4 => omega
    case c5 => simp; omega
    intro v' w4 hown4 hg4 hnn
    obtain ⟨hp3, hr3, hk3⟩ := H3.out
    have hex : ∃ g cap, v' = .slice (some ⟨g, 0, none⟩) (stk.length + 1) cap := by
      rcases hown4.2 with ⟨_, hz⟩ | ⟨g, cap, cur, hv, _⟩
      · exact absurd hz (by omega)
      · exact ⟨g, cap, hv⟩
    obtain ⟨g, cap, rfl⟩ := hex
    have hp4 : Blk w4 p 182 [raw, .int .i64 (n + 4), sv] := (hg4.block p (by simp; omega) (fun e => hne e.symm)).trans (hp3.alloc _)
    have hr4 : Blk w4 r tr (cs.set o (.int .i64 n)) := (hg4.block r (by have := hr3.lt; simp; omega) (fun e => hner e.symm)).trans (hr3.alloc _)
    have hk4 : Kept B [p, r] w w4 := kept_grown (hk3.mono hlt (fun x hx => .inl hx)) hg4 hown3
    have hpne := own_ne hown4 hp4 (by decide)
    have h04 := hp4.cell 2
    have f04 := hp4.frozen 2
    simp at h04
    have HF : Hid (∃ sv', Blk (w4.setCell ⟨p, 2, none⟩ (.slice (some ⟨g, 0, none⟩) (stk.length + 1) cap)) p 182 [raw, .int .i64 ((n : Int) + 4), sv'] ∧ (w4.setCell ⟨p, 2, none⟩ (.slice (some ⟨g, 0, none⟩) (stk.length + 1) cap)).ownsRow B 323 1 sv' (stk ++ [Value.iface 264 (.pointer (some ⟨r, o, none⟩))]).length (stk ++ [Value.iface 264 (.pointer (some ⟨r, o, none⟩))]) ∧ Blk (w4.setCell ⟨p, 2, none⟩ (.slice (some ⟨g, 0, none⟩) (stk.length + 1) cap)) r tr (cs.set o (.int .i64 n)) ∧ Kept B [p, r] w (w4.setCell ⟨p, 2, none⟩ (.slice (some ⟨g, 0, none⟩) (stk.length + 1) cap))) := by
      refine ⟨_, hp4.set_ 2 _, ?_, hr4.far (p := ⟨p, 2, none⟩) (Ne.symm hpr) _, hk4.setCell (p := ⟨p, 2, none⟩) (.inl (by simp)) _⟩
      rw [List.length_append]
      exact own_kept hown4 ((Kept.refl _ [p] _).setCell (p := ⟨p, 2, none⟩) (.inl (by simp)) _) (fun x hx => by
        have : x = p := by simpa using hx
        subst this
        exact hpne)
    clear hp3 hr3 hk3 hp4 hr4 hk4 hg4 hown4
    go_wp2
    go_end0
    exact ⟨rfl, HF.out⟩
set_option maxHeartbeats 2000000 in
theorem push199_277 {B : Nat} (p n : Nat) (raw : Value) (r o tr : Nat) (cs : List Value) (u : Value) (stk : List Value) (sv : Value) (w : World) (hBp : B ≤ p) (hp : Blk w p 182 [raw, .int .i64 n, sv]) (hown : w.ownsRow B 323 1 sv stk.length stk) (hn : n ≤ 1000000000)
   (hr : Blk w r tr cs) (hencT : tr ≠ 182) (h323 : tr ≠ 323) (hc : cs[o]? = some u) (hs : stk.length ≤ 1000) :
    Calls Tryz.prog 199 #[.pointer (some ⟨p, 0, none⟩), .iface 277 (.pointer (some ⟨r, o, none⟩))] w fun e w' => e = .returned (.tuple #[]) ∧
      ∃ sv', Blk w' p 182 [raw, .int .i64 ((n : Int) + 4), sv'] ∧ w'.ownsRow B 323 1 sv' (stk ++ [Value.iface 277 (.pointer (some ⟨r, o, none⟩))]).length (stk ++ [Value.iface 277 (.pointer (some ⟨r, o, none⟩))]) ∧ Blk w' r tr (cs.set o (.int .i64 n)) ∧ Kept B [p, r] w w' := by
  obtain ⟨i0, hi, hz0, hz1, hz2⟩ := info_parts info323
  have hlt : B ≤ w.heap.size := Nat.le_trans hBp (Nat.le_of_lt hp.lt)
  have hpr : p ≠ r := hp.ne_ hr (Ne.symm hencT)
  -- behind saveOffset
  have hp1 : Blk (w.drew.setCell ⟨r, o, none⟩ (.int .i64 n)) p 182 [raw, .int .i64 n, sv] := hp.drew.far (p := ⟨r, o, none⟩) hpr _
  have hr1 : Blk (w.drew.setCell ⟨r, o, none⟩ (.int .i64 n)) r tr (cs.set o (.int .i64 n)) := hr.drew.set_ o _
  have hk1 : Kept w.heap.size [r] w (w.drew.setCell ⟨r, o, none⟩ (.int .i64 n)) := (Kept.refl _ _ _).drew.setCell (p := ⟨r, o, none⟩) (.inl (by simp)) _
  have hown1 : (w.drew.setCell ⟨r, o, none⟩ (.int .i64 n)).ownsRow B 323 1 sv stk.length stk := own_kept hown hk1 (fun x hx => by
    have : x = r := by simpa using hx
    subst this
    exact own_ne hown hr (Ne.symm h323))
  have h0 := hp.cell 2
  have h1 := hp.cell 1
  have f1 := hp.frozen 1
  have hc' : w.cell? ⟨r, o, none⟩ = some u := (hr.cell o).trans hc
  have hf' := hr.frozen o
  simp at h0 h1
  have HH := Lib.hid (And.intro hp1 (And.intro hr1 (And.intro hk1 hown1)))
  clear hp1 hr1 hk1 hown1 hown hp hr hc
  go_enter Tryz.func199, Tryz.ntmps199
  go_wp2_with fail
  refine wp_region_still_tail 8 (by kernel_rfl) (by kernel_rfl) ?_
  show wpStill _ _ (World.drew _) (fun a' => wpList _ _ _ _ _ (World.drew _)) _ _
  simp only [List.take_succ_cons, List.take_zero, List.drop_succ_cons, List.drop_zero]
  repeat still_step
  refine wpStill_nil ?_
  go_wp2_with (go_at_call 280; refine (l280 _ _ u _ (by exact hc') (by exact hf')).mono ?_)
  rintro e w1 ⟨rfl, hw1⟩
  obtain ⟨hp1, hr1, hk1, hown1⟩ := HH.out
  rw [hw1] at hp1 hr1 hk1 hown1
  clear hw1 hc' hf' h0 h1 f1
  have h0 := hp1.cell 2
  have h1 := hp1.cell 1
  have f1 := hp1.frozen 1
  simp at h0 h1
  have HW := Lib.hid (IntWalk.i64_in ((n : Int) + 4) (by omega))
  have hlt1 := hp1.lt
  have hcell : ∀ w2, Kept w1.heap.size [] w1 w2 → w2.cell? ⟨p, 1, none⟩ = some (.int .i64 n) ∧ w2.frozen? ⟨p, 1, none⟩ = false := fun w2 hk =>
    ⟨(World.cell?_of_block (hk.block p hlt1 (by simp) (.inl hlt1))).trans h1, (World.frozen?_of_block (hk.block p hlt1 (by simp) (.inl hlt1))).trans f1⟩
  have H1 := Lib.hid (And.intro hp1 (And.intro hr1 (And.intro hk1 hown1)))
  clear hp1 hr1 hk1 hown1
  go_wp2_with fail
  go_region_with (go_at_call 278; refine (l278 _ _).mono ?_; rintro e w2 ⟨rfl, hk2⟩; have hk2 := Kept.undrew hk2; obtain ⟨hc2, hf2⟩ := hcell _ hk2)
  all_goals
    rw [HW.out]
    obtain ⟨hp1, hr1, hk1, hown1⟩ := H1.out
    have hkk : Kept w1.heap.size [p] w1 (w2.setCell ⟨p, 1, none⟩ (.int .i64 (n + 4))) := (hk2.mono (Nat.le_refl _) (fun x hx => by cases hx)).setCell (p := ⟨p, 1, none⟩) (.inl (by simp)) _
    have hp3 : Blk (w2.setCell ⟨p, 1, none⟩ (.int .i64 (n + 4))) p 182 [raw, .int .i64 (n + 4), sv] := (hp1.kept hk2 (by simp) (.inl hlt1)).set_ 1 _
    have hr3 := hr1.kept hkk (by simpa using Ne.symm hpr) (.inl hr1.lt)
    have hown3 := own_kept hown1 hkk (fun x hx => by
      have : x = p := by simpa using hx
      subst this
      exact own_ne hown1 hp1 (by decide))
    have hk3 : Kept w.heap.size [p, r] w (w2.setCell ⟨p, 1, none⟩ (.int .i64 (n + 4))) := hk1.trans (hkk.mono hk1.size (fun x hx => .inl hx)) (fun x hx => .inl (by simp at hx ⊢; exact .inr hx)) (fun x hx => .inl (by simp at hx ⊢; exact .inl hx))
    clear hkk hp1 hr1 hk1 hown1 hk2 hc2 hf2 h0 h1 f1 H1 hcell
    generalize (w2.setCell ⟨p, 1, none⟩ (.int .i64 (n + 4))) = W3 at hp3 hr3 hown3 hk3 ⊢
    have h0 := hp3.cell 2
    have f0 := hp3.frozen 2
    simp at h0
    have hlt3 := hp3.lt
    have hne := own_ne hown3 hp3 (by decide)
    have hner := own_ne hown3 hr3 (Ne.symm h323)
    have H3 := Lib.hid (And.intro hp3 (And.intro hr3 hk3))
    clear hp3 hr3 hk3
    go_wp2_with (at_builtin; refine wpList_append_own _ rfl _ _ 176 rfl B 323 i0 .nilIface 1 16 Tryz.underlying176 hi hz0 hz1 hz2 rfl (by decide) _ _ _ rfl (hown3.alloc _) ⟨W3.heap.size, 0, none⟩ 1 1 [Value.iface 277 (.pointer (some ⟨r, o, none⟩))] rfl rfl ?c1 ?c2 ?c3 ?c4 ?c5 ?_)
    case c1 => exact cell_one_new _ _ _
    case c2 => intro u hu; simp at hu; subst hu; rfl
    case c3 => unfold maxLen; omega
    case c4 => omega
    case c5 => simp; omega
    intro v' w4 hown4 hg4 hnn
    obtain ⟨hp3, hr3, hk3⟩ := H3.out
    have hex : ∃ g cap, v' = .slice (some ⟨g, 0, none⟩) (stk.length + 1) cap := by
      rcases hown4.2 with ⟨_, hz⟩ | ⟨g, cap, cur, hv, _⟩
      · exact absurd hz (by omega)
      · exact ⟨g, cap, hv⟩
    obtain ⟨g, cap, rfl⟩ := hex
    have hp4 : Blk w4 p 182 [raw, .int .i64 (n + 4), sv] := (hg4.block p (by simp; omega) (fun e => hne e.symm)).trans (hp3.alloc _)
    have hr4 : Blk w4 r tr (cs.set o (.int .i64 n)) := (hg4.block r (by have := hr3.lt; simp; omega) (fun e => hner e.symm)).trans (hr3.alloc _)
    have hk4 : Kept B [p, r] w w4 := kept_grown (hk3.mono hlt (fun x hx => .inl hx)) hg4 hown3
    have hpne := own_ne hown4 hp4 (by decide)
    have h04 := hp4.cell 2
    have f04 := hp4.frozen 2
    simp at h04
    have HF : Hid (∃ sv', Blk (w4.setCell ⟨p, 2, none⟩ (.slice (some ⟨g, 0, none⟩) (stk.length + 1) cap)) p 182 [raw, .int .i64 ((n : Int) + 4), sv'] ∧ (w4.setCell ⟨p, 2, none⟩ (.slice (some ⟨g, 0, none⟩) (stk.length + 1) cap)).ownsRow B 323 1 sv' (stk ++ [Value.iface 277 (.pointer (some ⟨r, o, none⟩))]).length (stk ++ [Value.iface 277 (.pointer (some ⟨r, o, none⟩))]) ∧ Blk (w4.setCell ⟨p, 2, none⟩ (.slice (some ⟨g, 0, none⟩) (stk.length + 1) cap)) r tr (cs.set o (.int .i64 n)) ∧ Kept B [p, r] w (w4.setCell ⟨p, 2, none⟩ (.slice (some ⟨g, 0, none⟩) (stk.length + 1) cap))) := by
      refine ⟨_, hp4.set_ 2 _, ?_, hr4.far (p := ⟨p, 2, none⟩) (Ne.symm hpr) _, hk4.setCell (p := ⟨p, 2, none⟩) (.inl (by simp)) _⟩
      rw [List.length_append]
      exact own_kept hown4 ((Kept.refl _ [p] _).setCell (p := ⟨p, 2, none⟩) (.inl (by simp)) _) (fun x hx => by
        have : x = p := by simpa using hx
        subst this
        exact hpne)
    clear hp3 hr3 hk3 hp4 hr4 hk4 hg4 hown4
    go_wp2
    go_end0
    exact ⟨rfl, HF.out⟩
end Go.Proofs.YtmiflkccfieefaaGreatDoor
