/-
  The decoder takes a length and a sum on its stack, and off it.
-/
import Derived.Test.YtmiflkccfieefaaGreatDoorDcp
import Derived.Test.YtmiflkccfieefaaGreatDoorPushLeaf
import Derived.Test.YtmiflkccfieefaaGreatDoorTim
import Derived.Deep.DeepCutAuto
import Derived.Test.YtmiflkccfieefaaGreatDoorZab
namespace Go.Proofs.YtmiflkccfieefaaGreatDoor
open Go.ChangeShapes Go.WideShapes Go.ChangeAt Go.RowKit
set_option maxRecDepth 100000
set_option linter.unusedVariables false
set_option linter.unusedSimpArgs false

/-- Four bytes of a number. -/
def b4 (x : Int) : List UInt8 := Lib.beBytes 4 (x % 4294967296).toNat
theorem b4_len (x : Int) : (b4 x).length = 4 := Lib.beBytes_length _ _
theorem i32_small (n : Nat) (h : n ≤ 2000000) : IntKind.i32.wrap (n : Int) = n := by
  simp [IntKind.wrap, IntKind.bits, IntKind.signed]
  omega
set_option maxHeartbeats 1000000 in
theorem d277 {B : Nat} (p g c r o tr : Nat) (cs : List Value) (u : Value) (x : Int) (pre rest : List UInt8) (stk : List Value) (w : World) (h : RD B w p g c pre (b4 x ++ rest) stk) (hl : pre.length + rest.length ≤ 1000000) (hx0 : 0 ≤ x) (hx1 : x ≤ rest.length)
    (hr : Blk w r tr cs) (h174 : tr ≠ 174) (h314 : tr ≠ 314) (h5 : tr ≠ 5) (h323 : tr ≠ 323) (hc : cs[o + 1]? = some u) (hol : o + 1 < cs.length) :
    Calls Tryz.prog 277 #[.pointer (some ⟨r, o, none⟩), .iface 171 (.pointer (some ⟨p, 0, none⟩))] w fun e w' => e = .returned .nilIface ∧ RD B w' p g c (pre ++ b4 x) rest stk ∧ Blk w' r tr (cs.set (o + 1) (.int .i32 x)) ∧ Kept B [p, r] w w' := by
  have hpr : r ≠ p := by
    obtain ⟨_, sv, hp, _⟩ := h
    exact hr.ne_ hp h174
  have hst : ¬ stackT tr := fun h => by rcases h with h | h; exact h323 h; exact h314 h
  have H := Lib.hid (And.intro h hr)
  clear h hr
  go_enter Tryz.func277, Tryz.ntmps277
  go_wp2_with fail
  refine (d169 p g c x pre rest stk _ (by exact H.out.1) hl (by omega) (by omega)).mono ?_
  rintro e w1 ⟨rfl, hd, hk⟩
  have hr1 := H.out.2.kept hk (by simpa using hpr) (.inr hst)
  have hc1 : w1.cell? ⟨r, o + 1, none⟩ = some u := (hr1.cell _).trans hc
  have hf1 := hr1.frozen (o + 1)
  have hb := H.out.1.base
  have hcv : (w1.setCell ⟨r, o + 1, none⟩ (.int .i32 x)).cell? ⟨r, o + 1, none⟩ = some (.int .i32 x) := World.cell?_setCell_same w1 _ _ hc1
  have HF := Lib.hid (show RD B (w1.setCell ⟨r, o + 1, none⟩ (.int .i32 x)) p g c (pre ++ b4 x) rest stk ∧ Blk (w1.setCell ⟨r, o + 1, none⟩ (.int .i32 x)) r tr (cs.set (o + 1) (.int .i32 x)) ∧ Kept B [p, r] w (w1.setCell ⟨r, o + 1, none⟩ (.int .i32 x)) from
    ⟨hd.kept ((Kept.refl _ _ _).setCell (p := ⟨r, o + 1, none⟩) (S := [r]) (.inl (by simp)) _) (fun s hs => by
      have : s = r := by simpa using hs
      subst this
      exact ⟨_, _, hr1, h5, h174, h314⟩), hr1.set_ _ _, (hk.mono (Nat.le_refl _) (fun y hy => .inl (by simp at hy ⊢; exact .inl hy))).setCell (p := ⟨r, o + 1, none⟩) (.inl (by simp)) _⟩)
  clear hd hk hr1
  have hw := i32_small rest.length (by omega)
  have hgt : decide ((rest.length : Int) < x) = false := by simp; omega
  go_wp2_with fail
  go_quiet ((go_at_call 178; exact Calls.quiet_of (d178 p g c _ rest stk _ (by exact (HF.out.1.drewN _)) (by rw [List.length_append, b4_len]; omega))))
  go_wp2
  go_ret
  exact ⟨rfl, HF.out.1.drewN _, HF.out.2.1.drewN _, HF.out.2.2.drewN _⟩
set_option maxHeartbeats 2000000 in
theorem dpush277 {B : Nat} (p g c r o tr : Nat) (cs : List Value) (u u1 : Value) (x : Int) (pre rest : List UInt8) (stk : List Value) (w : World) (h : RD B w p g c pre (b4 x ++ rest) stk) (hl : pre.length + rest.length ≤ 1000000) (hx0 : 0 ≤ x) (hx1 : x ≤ rest.length)
    (hr : Blk w r tr cs) (h174 : tr ≠ 174) (h314 : tr ≠ 314) (h5 : tr ≠ 5) (h323 : tr ≠ 323) (hc : cs[o]? = some u) (hc1 : cs[o + 1]? = some u1) (hs : stk.length ≤ 1000) :
    Calls Tryz.prog 177 #[.pointer (some ⟨p, 0, none⟩), .iface 277 (.pointer (some ⟨r, o, none⟩))] w fun e w' => e = .returned .nilIface ∧ RD B w' p g c (pre ++ b4 x) rest (stk ++ [Value.iface 277 (.pointer (some ⟨r, o, none⟩))]) ∧
      Blk w' r tr ((cs.set o (.int .i64 pre.length)).set (o + 1) (.int .i32 x)) ∧ Kept B [p, r] w w' := by
  obtain ⟨i0, hi, hz0, hz1, hz2⟩ := info_parts info314
  have hrp : r ≠ p := by
    obtain ⟨_, sv, hp, _⟩ := h
    exact hr.ne_ hp h174
  have hvl := b4_len x
  have hol : o + 1 < (cs.set o (.int .i64 pre.length)).length := by
    have := (List.getElem?_eq_some_iff.1 hc1).1
    simpa using this
  have hk0 : Kept w.heap.size [r] w (w.drew.setCell ⟨r, o, none⟩ (.int .i64 pre.length)) := (Kept.refl _ _ _).drew.setCell (p := ⟨r, o, none⟩) (.inl (by simp)) _
  have hd0 := h.kept hk0 (fun s hs => by
    have : s = r := by simpa using hs
    subst this
    exact ⟨_, _, hr, h5, h174, h314⟩)
  have hr0 := hr.drew.set_ o (.int .i64 pre.length)
  have hlt := h.base
  have hBp := h.1
  obtain ⟨_, sv, hp, _⟩ := h
  have h1 := hp.cell 1
  have hc' : w.cell? ⟨r, o, none⟩ = some u := (hr.cell o).trans hc
  have hf' := hr.frozen o
  simp at h1
  have hcs1 : (cs.set o (.int .i64 pre.length))[o + 1]? = some u1 := by rw [List.getElem?_set_ne (by omega)]; exact hc1
  have H := Lib.hid (And.intro hd0 (And.intro hr0 hk0))
  clear hp hr hk0 hd0 hr0
  go_enter Tryz.func177, Tryz.ntmps177
  go_wp2_with fail
  refine wp_region_still_tail 8 (by kernel_rfl) (by kernel_rfl) ?_
  show wpStill _ _ (World.drew _) (fun a' => wpList _ _ _ _ _ (World.drew _)) _ _
  simp only [List.take_succ_cons, List.take_zero, List.drop_succ_cons, List.drop_zero]
  repeat still_step
  refine wpStill_nil ?_
  go_wp2_with (go_at_call 280; refine (l280 _ _ u _ (by exact hc') (by exact hf')).mono ?_)
  rintro e w1 ⟨rfl, hw1⟩
  obtain ⟨hd1, hr1, hk1⟩ := H.out
  rw [hw1] at hd1 hr1 hk1
  clear hw1 hc' hf' h1 H
  have H1 := Lib.hid (And.intro hd1 (And.intro hr1 hk1))
  clear hd1 hr1 hk1
  go_wp2_with (first | (at_builtin; refine wpList_append_own _ rfl _ _ 172 rfl B 314 i0 .nilIface 1 16 Tryz.underlying172 hi hz0 hz1 hz2 rfl (by decide) _ _ _ rfl (hown2.alloc _) ⟨w2.heap.size, 0, none⟩ 1 1 [Value.iface 277 (.pointer (some ⟨r, o, none⟩))] rfl rfl ?c1 ?c2 ?c3 ?c4 ?c5 ?_) | (go_at_call 277; refine (d277 p g c r o tr _ u1 x pre rest stk _ (by exact H1.out.1) hl hx0 hx1 (by exact H1.out.2.1) h174 h314 h5 h323 hcs1 hol).mono ?_; rintro e w2 ⟨rfl, hd2, hr2, hk2⟩; have H2 := Lib.hid (And.intro hd2 (And.intro hr2 hk2)); obtain ⟨_, sv2, hp2, hraw2, hown2⟩ := hd2; have c2 := hp2.cell 2; have z2 := hp2.frozen 2; simp at c2; have HP2 := Lib.hid (And.intro hp2 (And.intro hraw2 hr2)); clear hp2 hraw2 hr2 hk2))
  case c1 => exact cell_one_new _ _ _
  case c2 => intro u hu; simp at hu; subst hu; rfl
  case c3 => unfold maxLen; omega
  case c4 => omega
  case c5 => have := H2.out.1.base; simp; omega
  intro v' w4 hown4 hg4 hnn
  have hkA : Kept B [p, r] w w2 := (H1.out.2.2.mono hlt (fun y hy => .inl hy)).trans H2.out.2.2 (fun y hy => .inl (by simp at hy ⊢; exact .inr hy)) (fun y hy => .inl hy)
  obtain ⟨hp4, hd5, hk5, hr5⟩ := rd_pushed hBp HP2.out.1 HP2.out.2.1 hown2 hg4 hown4 hkA (by simp)
  have hex : ∃ g cap, v' = .slice (some ⟨g, 0, none⟩) (stk.length + 1) cap := by
    rcases hown4.2 with ⟨_, hz⟩ | ⟨g, cap, cur, hv, _⟩
    · exact absurd hz (by omega)
    · exact ⟨g, cap, hv⟩
  obtain ⟨g4, cap4, rfl⟩ := hex
  have c42 := hp4.cell 2
  have z42 := hp4.frozen 2
  simp at c42
  have hr6 := hr5 r tr _ HP2.out.2.2 h314 hrp
  have hp5 := hp4.set_ 2 (.slice (some ⟨g4, 0, none⟩) (stk.length + 1) cap4)
  have c51 := hp5.cell 1
  have z51 := hp5.frozen 1
  simp at c51
  have hb1 : (pre.length : Int) + ((b4 x).length : Int) ≤ 2000000 := by omega
  have hA := hd5.adv (d := []) (Kept.refl _ _ _)
  have hA2 : RD B ((w4.setCell ⟨p, 2, none⟩ (.slice (some ⟨g4, 0, none⟩) (stk.length + 1) cap4)).setCell ⟨p, 1, none⟩ (.int .i64 (pre.length + (b4 x).length))) p g c (pre ++ b4 x) rest (stk ++ [Value.iface 277 (.pointer (some ⟨r, o, none⟩))]) ∧
      Kept B [p] (w4.setCell ⟨p, 2, none⟩ (.slice (some ⟨g4, 0, none⟩) (stk.length + 1) cap4)) ((w4.setCell ⟨p, 2, none⟩ (.slice (some ⟨g4, 0, none⟩) (stk.length + 1) cap4)).setCell ⟨p, 1, none⟩ (.int .i64 (pre.length + (b4 x).length))) := by
    simpa using hA
  have HF := Lib.hid (And.intro hA2.1 (And.intro (hr6.far (p := ⟨p, 1, none⟩) hrp (.int .i64 (pre.length + (b4 x).length))) (hk5.trans hA2.2 (fun y hy => .inl hy) (fun y hy => .inl (by simp at hy ⊢; exact .inl hy)))))
  clear hA hA2 hd5 hk5 hr5 hr6 hp5 hp4 hg4 hown4 hkA
  go_wp2
  go_ret
  exact ⟨rfl, HF.out⟩

set_option maxHeartbeats 2000000 in
theorem dpush264 {B : Nat} (p g c r o tr : Nat) (cs : List Value) (u : Value) (mid pre rest : List UInt8) (stk : List Value) (w : World) (h : RD B w p g c pre (mid ++ rest) stk) (hl : pre.length + rest.length ≤ 1000000) (hml : mid.length = 4)
    (hr : Blk w r tr cs) (h174 : tr ≠ 174) (h314 : tr ≠ 314) (h5 : tr ≠ 5) (h323 : tr ≠ 323) (hc : cs[o]? = some u) (hs : stk.length ≤ 1000) :
    Calls Tryz.prog 177 #[.pointer (some ⟨p, 0, none⟩), .iface 264 (.pointer (some ⟨r, o, none⟩))] w fun e w' => e = .returned .nilIface ∧ RD B w' p g c (pre ++ mid) rest (stk ++ [Value.iface 264 (.pointer (some ⟨r, o, none⟩))]) ∧
      Blk w' r tr (cs.set o (.int .i64 pre.length)) ∧ Kept B [p, r] w w' := by
  obtain ⟨i0, hi, hz0, hz1, hz2⟩ := info_parts info314
  have hrp : r ≠ p := by
    obtain ⟨_, sv, hp, _⟩ := h
    exact hr.ne_ hp h174
  have hk0 : Kept w.heap.size [r] w (w.drew.setCell ⟨r, o, none⟩ (.int .i64 pre.length)) := (Kept.refl _ _ _).drew.setCell (p := ⟨r, o, none⟩) (.inl (by simp)) _
  have hd0 := h.kept hk0 (fun s hs => by
    have : s = r := by simpa using hs
    subst this
    exact ⟨_, _, hr, h5, h174, h314⟩)
  have hr0 := hr.drew.set_ o (.int .i64 pre.length)
  have hlt := h.base
  have hBp := h.1
  obtain ⟨_, sv, hp, _⟩ := h
  have h1 := hp.cell 1
  have hc' : w.cell? ⟨r, o, none⟩ = some u := (hr.cell o).trans hc
  have hf' := hr.frozen o
  simp at h1
  have HML := Lib.hid hml
  have hml4 : mid.length ≤ 4 ∧ 4 ≤ mid.length := by omega
  clear hml
  have H := Lib.hid (And.intro hd0 (And.intro hr0 hk0))
  clear hp hr hk0 hd0 hr0
  go_enter Tryz.func177, Tryz.ntmps177
  go_wp2_with fail
  refine wp_region_still_tail 8 (by kernel_rfl) (by kernel_rfl) ?_
  show wpStill _ _ (World.drew _) (fun a' => wpList _ _ _ _ _ (World.drew _)) _ _
  simp only [List.take_succ_cons, List.take_zero, List.drop_succ_cons, List.drop_zero]
  repeat still_step
  refine wpStill_nil ?_
  go_wp2_with (go_at_call 269; refine (l269 _ _ u _ (by exact hc') (by exact hf')).mono ?_)
  rintro e w1 ⟨rfl, hw1⟩
  obtain ⟨hd1, hr1, hk1⟩ := H.out
  rw [hw1] at hd1 hr1 hk1
  clear hw1 hc' hf' h1 H
  have H1 := Lib.hid (And.intro hd1 (And.intro hr1 hk1))
  clear hd1 hr1 hk1
  have hge : ¬ ((mid.length : Int) + (rest.length : Int) < 4) := by omega
  go_wp2_with (first
    | (at_builtin; refine wpList_append_own _ rfl _ _ 172 rfl B 314 i0 .nilIface 1 16 Tryz.underlying172 hi hz0 hz1 hz2 rfl (by decide) _ _ _ rfl (hown2.alloc _) ⟨w2.heap.size, 0, none⟩ 1 1 [Value.iface 264 (.pointer (some ⟨r, o, none⟩))] rfl rfl ?c1 ?c2 ?c3 ?c4 ?c5 ?_)
    | (go_at_call 267; refine (l267 _ _).mono ?_; rintro e w1a ⟨rfl, hka⟩; have HKA := Lib.hid hka; clear hka)
    | (go_at_call 178; refine (d178 p g c pre (mid ++ rest) stk _ (by exact H1.out.1.kept (S := []) HKA.out (fun s hs => by cases hs)) (by rw [List.length_append]; omega)).mono ?_; rintro e wq ⟨rfl, nq, hwq⟩; have hkq : Kept w1.heap.size [] w1 wq := by { rw [hwq]; exact HKA.out.drewN nq }; clear hwq; obtain ⟨w2, rfl⟩ : ∃ w2, w2 = wq := ⟨_, rfl⟩; have hd2 := H1.out.1.kept (S := []) hkq (fun s hs => by cases hs); have hr2 := H1.out.2.1.kept hkq (by simp) (.inl H1.out.2.1.lt); have H2 := Lib.hid (And.intro hd2 (And.intro hr2 (hkq.mono (B' := B) (S' := []) H1.out.1.base (fun y hy => by cases hy)))); obtain ⟨_, sv2, hp2, hraw2, hown2⟩ := hd2; have c2 := hp2.cell 2; have z2 := hp2.frozen 2; simp at c2; have HP2 := Lib.hid (And.intro hp2 (And.intro hraw2 hr2)); clear hp2 hraw2 hr2 hkq))
  case c1 => exact cell_one_new _ _ _
  case c2 => intro u hu; simp at hu; subst hu; rfl
  case c3 => unfold maxLen; omega
  case c4 => omega
  case c5 => have := H2.out.1.base; simp; omega
  intro v' w4 hown4 hg4 hnn
  have hkA : Kept B [p, r] w w2 := (H1.out.2.2.mono hlt (fun y hy => .inl hy)).trans H2.out.2.2 (fun y hy => .inl (by simp at hy ⊢; exact .inr hy)) (fun y hy => by cases hy)
  obtain ⟨hp4, hd5, hk5, hr5⟩ := rd_pushed hBp HP2.out.1 HP2.out.2.1 hown2 hg4 hown4 hkA (by simp)
  have hex : ∃ g cap, v' = .slice (some ⟨g, 0, none⟩) (stk.length + 1) cap := by
    rcases hown4.2 with ⟨_, hz⟩ | ⟨g, cap, cur, hv, _⟩
    · exact absurd hz (by omega)
    · exact ⟨g, cap, hv⟩
  obtain ⟨g4, cap4, rfl⟩ := hex
  have c42 := hp4.cell 2
  have z42 := hp4.frozen 2
  simp at c42
  have hr6 := hr5 r tr _ HP2.out.2.2 h314 hrp
  have hp5 := hp4.set_ 2 (.slice (some ⟨g4, 0, none⟩) (stk.length + 1) cap4)
  have c51 := hp5.cell 1
  have z51 := hp5.frozen 1
  simp at c51
  have hb1 : (pre.length : Int) + (mid.length : Int) ≤ 2000000 := by omega
  have hA := hd5.adv (d := mid) (Kept.refl _ _ _)
  have hA2 : RD B ((w4.setCell ⟨p, 2, none⟩ (.slice (some ⟨g4, 0, none⟩) (stk.length + 1) cap4)).setCell ⟨p, 1, none⟩ (.int .i64 (pre.length + 4))) p g c (pre ++ mid) rest (stk ++ [Value.iface 264 (.pointer (some ⟨r, o, none⟩))]) ∧
      Kept B [p] (w4.setCell ⟨p, 2, none⟩ (.slice (some ⟨g4, 0, none⟩) (stk.length + 1) cap4)) ((w4.setCell ⟨p, 2, none⟩ (.slice (some ⟨g4, 0, none⟩) (stk.length + 1) cap4)).setCell ⟨p, 1, none⟩ (.int .i64 (pre.length + 4))) := by
    rw [HML.out] at hA
    simpa using hA
  have HF := Lib.hid (And.intro hA2.1 (And.intro (hr6.far (p := ⟨p, 1, none⟩) hrp (.int .i64 (pre.length + 4))) (hk5.trans hA2.2 (fun y hy => .inl hy) (fun y hy => .inl (by simp at hy ⊢; exact .inl hy)))))
  clear hA hA2 hd5 hk5 hr5 hr6 hp5 hp4 hg4 hown4 hkA
  go_wp2
  go_ret
  exact ⟨rfl, HF.out⟩

end Go.Proofs.YtmiflkccfieefaaGreatDoor

/-
  The decoder takes a length and a sum off its stack: both are checked.
-/
namespace Go.Proofs.YtmiflkccfieefaaGreatDoor
open Go.ChangeShapes Go.WideShapes Go.ChangeAt Go.RowKit
set_option maxRecDepth 100000
set_option linter.unusedVariables false
set_option linter.unusedSimpArgs false

theorem l276 (r o tr : Nat) (cs : List Value) (n so L : Int) (v : Value) (w : World) (hr : Blk w r tr cs) (hso : cs[o]? = some (.int .i64 so)) (hm : cs[o + 1]? = some (.int .i32 L))
    (hm0 : 0 ≤ L) (hm1 : L ≤ 1000000) (hn0 : 0 ≤ n) (hn1 : n ≤ 1000000000) (hs0 : 0 ≤ so) (hs1 : so ≤ 1000000000) (he : n - so - 4 = L) :
    Calls Tryz.prog 276 #[.pointer (some ⟨r, o, none⟩), .int .i64 n, v] w fun e w' => e = .returned .nilIface ∧ Kept w.heap.size [] w w' := by
  have hcs := (hr.cell o).trans hso
  have hcm := (hr.cell (o + 1)).trans hm
  have s1 : IntKind.i64.wrap (n - so) = n - so := IntWalk.i64_in _ (by omega)
  have s2 : IntKind.i64.wrap (n - so - 4) = L := by rw [he]; exact IntWalk.i64_in _ (by omega)
  have s3 : IntKind.i32.wrap L = L := by
    simp [IntKind.wrap, IntKind.bits, IntKind.signed]
    omega
  clear hr hso hm he
  go_enter Tryz.func276, Tryz.ntmps276
  go_wp2
  go_quiet (fail)
  go_wp2
  go_ret
  exact ⟨rfl, (Kept.refl _ _ _).drewN _⟩
set_option maxHeartbeats 2000000 in
theorem dpop277 {B : Nat} (p g c : Nat) (r o tr : Nat) (L : Int) (cs : List Value) (a body rest : List UInt8) (stk : List Value) (w : World) (h : RD B w p g c (a ++ (b4 L ++ body)) rest (stk ++ [Value.iface 277 (.pointer (some ⟨r, o, none⟩))])) (hs : stk.length ≤ 1000)
   (hr : Blk w r tr cs) (hso : cs[o]? = some (.int .i64 a.length)) (hm : cs[o + 1]? = some (.int .i32 L)) (hL : L = body.length) (hl : a.length + body.length ≤ 900000) (htr : tr ≠ 174) (h314 : tr ≠ 314) :
    Calls Tryz.prog 176 #[.pointer (some ⟨p, 0, none⟩)] w fun e w' => e = .returned .nilIface ∧ RD B w' p g c (a ++ (b4 L ++ body)) rest stk ∧ Kept B [p] w w' := by
  have hvl := b4_len L
  obtain ⟨hBp, sv, hp, hg, hown⟩ := h
  obtain ⟨gs, cap, rfl, hcap, hgl, hgc, hown'⟩ := own_form hown
  have hlt : B ≤ w.heap.size := Nat.le_trans hBp (Nat.le_of_lt hp.lt)
  have hgp : g ≠ p := hg.ne hp (by decide)
  have hpl := hp.lt
  have h0 := hp.cell 0
  have h1 := hp.cell 1
  have h2 := hp.cell 2
  have f2 := hp.frozen 2
  simp only [List.getElem?_cons_zero, List.getElem?_cons_succ] at h0 h1 h2
  have i3 : IntKind.i64.wrap (stk.length : Int) = stk.length := IntWalk.i64_in _ (by omega)
  have i4 : stk.length ≤ cap := by omega
  have i2 : IntKind.i64.wrap ((stk.length : Int) + 1 - 1) = stk.length := by rw [IntWalk.i64_in _ (by omega)]; omega
  have i1 : (0 : Int) ≤ (stk.length : Int) + 1 - 1 := by omega
  have hpr : p ≠ r := hp.ne_ hr (Ne.symm htr)
  have HG := Lib.hid (And.intro hso (And.intro hm hL))
  have HH := Lib.hid (And.intro hp (And.intro hg (And.intro hr hown')))
  have hov : (a ++ (b4 L ++ body)).length ≤ 1000000 := by simp; omega
  generalize hofv : (a ++ (b4 L ++ body)).length = ov at h0 h1 hov
  generalize hNv : ov + rest.length = N at h0
  have HO := Lib.hid (And.intro hofv hNv)
  have HOW := Lib.hid hown
  clear hp hg hown' hown hr hofv hNv hso hm hL
  go_enter Tryz.func176, Tryz.ntmps176
  go_wp2_with fail
  go_quiet (fail)
  go_wp2_with fail
  refine wp_region_still_tail 14 (by kernel_rfl) (by kernel_rfl) ?_
  show wpStill _ _ (World.drew _) (fun a' => wpList _ _ _ _ _ (World.drew _)) _ _
  simp only [List.take_succ_cons, List.take_zero, List.drop_succ_cons, List.drop_zero]
  repeat still_step
  refine wpStill_nil ?_
  go_wp2_with fail
  obtain ⟨hp, hg, hr, hown'⟩ := HH.out
  have hk3 : Kept w.heap.size [p] w ((w.drewN (nq + 1)).setCell ⟨p, 2, none⟩ (.slice (some ⟨gs, 0, none⟩) stk.length cap)) := ((Kept.refl _ _ _).drewN _).setCell (p := ⟨p, 2, none⟩) (.inl (by simp)) _
  have hp3 := (hp.drewN (nq + 1)).set_ 2 (.slice (some ⟨gs, 0, none⟩) stk.length cap)
  have hg3 := hg.kept hk3 (by simpa using hgp)
  have hr3 := (hr.drewN (nq + 1)).far (p := ⟨p, 2, none⟩) (Ne.symm hpr) (.slice (some ⟨gs, 0, none⟩) stk.length cap)
  have hown3 := own_kept hown' hk3 (fun x hx => by
    have : x = p := by simpa using hx
    subst this
    exact own_ne hown' hp (by decide))
  clear hp hg hr hown' h0 h1 h2 f2 hgc
  generalize ((w.drewN (nq + 1)).setCell ⟨p, 2, none⟩ (.slice (some ⟨gs, 0, none⟩) stk.length cap)) = W3 at hp3 hg3 hr3 hown3 hk3 ⊢
  have h0 := hp3.cell 0
  have h1 := hp3.cell 1
  simp only [List.set_cons_succ, List.set_cons_zero, List.getElem?_cons_zero, List.getElem?_cons_succ, HO.out.1, HO.out.2] at h0 h1
  have H3 := Lib.hid (show RD B W3 p g c (a ++ (b4 L ++ body)) rest stk ∧ Kept w.heap.size [p] w W3 ∧ Blk W3 r tr cs from ⟨⟨hBp, _, hp3, hg3, hown3⟩, hk3, hr3⟩)
  clear hp3 hk3 hown3 hg3 hr3
  go_wp2_with fail
  refine wp_region_still_tail 12 (by kernel_rfl) (by kernel_rfl) ?_
  show wpStill _ _ (World.drew _) (fun a' => wpList _ _ _ _ _ (World.drew _)) _ _
  simp only [List.take_succ_cons, List.take_zero, List.drop_succ_cons, List.drop_zero]
  repeat still_step
  refine wpStill_nil ?_
  go_wp2_with fail
  refine (l276 r o tr cs ov a.length L _ _ (by exact H3.out.2.2.drew) HG.out.1 HG.out.2.1 (by have := HG.out.2.2; omega) (by have := HG.out.2.2; omega) (by omega) (by omega) (by omega) (by omega) (by have h5 := HO.out.1; have h6 := HG.out.2.2; simp at h5; omega)).mono ?_
  rintro e w4 ⟨rfl, hk4⟩
  replace hk4 := Kept.undrew hk4
  have HF := Lib.hid (show RD B w4 p g c (a ++ (b4 L ++ body)) rest stk ∧ Kept B [p] w w4 from ⟨H3.out.1.kept (S := []) hk4 (fun s hs => by cases hs), (H3.out.2.1.mono hlt (fun x hx => .inl hx)).trans (S2 := []) (hk4.mono (Nat.le_trans hlt H3.out.2.1.size) (fun x hx => by cases hx)) (fun x hx => .inl hx) (fun x hx => by cases hx)⟩)
  clear hk4
  go_wp2
  go_ret
  exact ⟨rfl, HF.out⟩
/-- crc32Field.crc over the decoder's bytes. -/
theorem c270d (r g c so : Nat) (N off : Nat) (a mid body rest : List UInt8) (w : World) (hr : w.cell? ⟨r, 0, none⟩ = some (.int .i64 so)) (hk : w.cell? ⟨r, 1, none⟩ = some (.int .i8 0)) (hg : RawAt w g c (a ++ (mid ++ (body ++ rest))))
    (ha : a.length = so) (hb1 : 1 ≤ body.length) (hm : mid.length = 4) (hoff : off = so + 4 + body.length) (hN : so + 4 + body.length + rest.length = N) (hN1 : N ≤ 1000000000) (hNc : N ≤ c) :
    Calls Tryz.prog 270 #[.pointer (some ⟨r, 0, none⟩), .int .i64 off, .slice (some ⟨g, 0, none⟩) N c] w fun e w' => e = .returned (.tuple #[.int .u32 (crc ieee body), .nilIface]) ∧ Kept w.heap.size [] w w' := by
  have hcells : ∀ j u, (Lib.byteCells body)[j]? = some u → ∀ w1, Kept w.heap.size [] w w1 → w1.cell? ⟨g, so + 4 + j, none⟩ = some u := by
    intro j u hu w1 hk1
    have hj : j < body.length := by
      have := (List.getElem?_eq_some_iff.1 hu).1
      rwa [Lib.byteCells_length] at this
    have h1 := hg.kept hk1 (by simp)
    have h2 := h1.cell (j := so + 4 + j) (by simp; omega)
    rw [h2]
    have e : (a ++ (mid ++ (body ++ rest)))[so + 4 + j]'(by simp; omega) = body[j] := by
      rw [List.getElem_append_right (by omega), List.getElem_append_right (by omega), List.getElem_append_left (by omega)]
      congr 1
      omega
    rw [e, ← hu]
    simp [Lib.byteCells, hj]
  have hrl := World.block_lt_of_cell? w _ hr
  have HG := Lib.hid (And.intro ha (And.intro hm (And.intro hoff hN)))
  have HC := Lib.hid hcells
  have hso : (so : Int) + 4 ≤ 1000000000 := by omega
  have b1 : so + 4 ≤ off := by omega
  have b2 : off ≤ c := by omega
  have b3 : off ≤ 1000000000 := by omega
  have b4' : ¬ c = so + 4 := by omega
  clear hg ha hm hoff hN hcells
  go_enter Tryz.func270, Tryz.ntmps270
  go_wp2_with (go_at_call 271; refine (c271i _).mono ?_; rintro e w1 ⟨rfl, rfl⟩)
  go_wp2_with fail
  have hk1 : Kept w.heap.size [] w (w.alloc (.cells #[.int .u32 ieee] 364)) := (Kept.refl _ _ _).alloc _
  refine (c272 _ ieee _ _ _ body _ (by have := HG.out; omega) (by have := HG.out; omega) (by simp) ?_).mono ?_
  · intro j u hu
    have hadd : (⟨g, so + 4, none⟩ : Addr).add j = ⟨g, so + 4 + j, none⟩ := by unfold Addr.add; split <;> simp_all
    rw [hadd]
    exact HC.out j u hu _ hk1
  · rintro e w2 ⟨rfl, rfl⟩
    have HK := Lib.hid hk1
    clear hk1
    go_wp2
    go_ret2
    exact ⟨rfl, HK.out⟩
def sum4 (body : List UInt8) : List UInt8 := Lib.beBytes 4 (crc ieee body).toNat
theorem sum4_len (body : List UInt8) : (sum4 body).length = 4 := Lib.beBytes_length _ _
theorem sum4_nat (body : List UInt8) : ((Lib.beNat (sum4 body) : Nat) : Int) = crc ieee body := by
  obtain ⟨h0, h1⟩ := crc_range ieee body
  unfold sum4
  rw [Lib.beNat_beBytes _ _ (by omega)]
  omega
set_option maxHeartbeats 1000000 in
theorem l266 (r g c : Nat) (N off : Nat) (a body rest : List UInt8) (w : World) (hr : Blk w r 288 [.int .i64 a.length, .int .i8 0]) (hg : RawAt w g c (a ++ (sum4 body ++ (body ++ rest)))) (hb1 : 1 ≤ body.length)
    (hoff : off = a.length + 4 + body.length) (hN : a.length + 4 + body.length + rest.length = N) (hN1 : N ≤ 1000000000) (hNc : N ≤ c) :
    Calls Tryz.prog 266 #[.pointer (some ⟨r, 0, none⟩), .int .i64 off, .slice (some ⟨g, 0, none⟩) N c] w fun e w' => e = .returned .nilIface ∧ Kept w.heap.size [] w w' := by
  have hs4 := sum4_len body
  have hcr := sum4_nat body
  have c0 := hr.cell 0
  have c1 := hr.cell 1
  simp only [List.getElem?_cons_zero, List.getElem?_cons_succ] at c0 c1
  have hcrc := c270d r g c a.length N off a (sum4 body) body rest w c0 c1 hg rfl hb1 hs4 hoff hN hN1 hNc
  have hrl := hr.lt
  have H := Lib.hid (And.intro hr hg)
  generalize hcv : crc ieee body = cv at hcrc hcr
  generalize hsv : sum4 body = sv at H hs4 hcr
  have HS := Lib.hid (And.intro hs4 hcr)
  clear hr hg hcv hsv c0 c1 hs4 hcr
  have b1 : a.length ≤ N := by omega
  have b2 : N ≤ c := hNc
  have b3 : ¬ c = a.length := by omega
  have b4' : a.length ≤ 1000000000 := by omega
  have b5 : 4 ≤ N - a.length := by omega
  clear hN hoff
  go_enter Tryz.func266, Tryz.ntmps266
  go_wp2_with (go_at_call 270; refine hcrc.mono ?_; rintro e w1 ⟨rfl, hk1⟩)
  have hr1 := H.out.1.kept hk1 (by simp) (.inl hrl)
  have hg1 := H.out.2.kept hk1 (by simp)
  have d0 := hr1.cell 0
  simp only [List.getElem?_cons_zero] at d0
  have H1 := Lib.hid (And.intro hg1 hk1)
  clear hr1 hg1 hk1
  refine wp_region_still_tail 7 (by kernel_rfl) (by kernel_rfl) ?_
  show wpStill _ _ (World.drew _) (fun a' => wpList _ _ _ _ _ (World.drew _)) _ _
  simp only [List.take_succ_cons, List.take_zero, List.drop_succ_cons, List.drop_zero]
  repeat still_step
  refine wpStill_nil ?_
  go_wp2_with fail
  refine (get32 g c a sv (body ++ rest) (N - a.length) _ (by exact H1.out.1) HS.out.1 (by omega) _).mono ?_
  rintro e w2 ⟨rfl, hb2⟩
  have hk2 := kept_drewn (B := w.heap.size) hb2
  have HF := Lib.hid (H1.out.2.trans (S2 := []) hk2 (fun x hx => .inl hx) (fun x hx => by cases hx))
  clear hb2 hk2
  rw [HS.out.2]
  go_wp2
  go_ret
  exact ⟨rfl, HF.out⟩
set_option maxHeartbeats 2000000 in
theorem dpop264 {B : Nat} (p g c : Nat) (r : Nat) (a body rest : List UInt8) (stk : List Value) (w : World) (h : RD B w p g c (a ++ (sum4 body ++ body)) rest (stk ++ [Value.iface 264 (.pointer (some ⟨r, 0, none⟩))])) (hs : stk.length ≤ 1000)
   (hr : Blk w r 288 [.int .i64 a.length, .int .i8 0]) (hb1 : 1 ≤ body.length) (hl : a.length + body.length + rest.length ≤ 900000) :
    Calls Tryz.prog 176 #[.pointer (some ⟨p, 0, none⟩)] w fun e w' => e = .returned .nilIface ∧ RD B w' p g c (a ++ (sum4 body ++ body)) rest stk ∧ Kept B [p] w w' := by
  have hvl := sum4_len body
  obtain ⟨hBp, sv, hp, hg, hown⟩ := h
  obtain ⟨gs, cap, rfl, hcap, hgl, hgc, hown'⟩ := own_form hown
  have hlt : B ≤ w.heap.size := Nat.le_trans hBp (Nat.le_of_lt hp.lt)
  have hgp : g ≠ p := hg.ne hp (by decide)
  have hpl := hp.lt
  have h0 := hp.cell 0
  have h1 := hp.cell 1
  have h2 := hp.cell 2
  have f2 := hp.frozen 2
  simp only [List.getElem?_cons_zero, List.getElem?_cons_succ] at h0 h1 h2
  have i3 : IntKind.i64.wrap (stk.length : Int) = stk.length := IntWalk.i64_in _ (by omega)
  have i4 : stk.length ≤ cap := by omega
  have i2 : IntKind.i64.wrap ((stk.length : Int) + 1 - 1) = stk.length := by rw [IntWalk.i64_in _ (by omega)]; omega
  have i1 : (0 : Int) ≤ (stk.length : Int) + 1 - 1 := by omega
  have hpr : p ≠ r := hp.ne_ hr (by decide)
  have HH := Lib.hid (And.intro hp (And.intro hg (And.intro hr hown')))
  have hov : (a ++ (sum4 body ++ body)).length ≤ 1000000 := by simp; omega
  have hcc : (a ++ (sum4 body ++ body)).length + rest.length ≤ c := by
    obtain ⟨C, f, _, h2, _⟩ := hg
    simp at h2 ⊢
    omega
  generalize hofv : (a ++ (sum4 body ++ body)).length = ov at h0 h1 hov hcc
  generalize hNv : ov + rest.length = N at h0 hcc
  have HO := Lib.hid (And.intro hofv hNv)
  have HOW := Lib.hid hown
  clear hp hg hown' hown hr hofv hNv
  go_enter Tryz.func176, Tryz.ntmps176
  go_wp2_with fail
  go_quiet (fail)
  go_wp2_with fail
  refine wp_region_still_tail 14 (by kernel_rfl) (by kernel_rfl) ?_
  show wpStill _ _ (World.drew _) (fun a' => wpList _ _ _ _ _ (World.drew _)) _ _
  simp only [List.take_succ_cons, List.take_zero, List.drop_succ_cons, List.drop_zero]
  repeat still_step
  refine wpStill_nil ?_
  go_wp2_with fail
  obtain ⟨hp, hg, hr, hown'⟩ := HH.out
  have hk3 : Kept w.heap.size [p] w ((w.drewN (nq + 1)).setCell ⟨p, 2, none⟩ (.slice (some ⟨gs, 0, none⟩) stk.length cap)) := ((Kept.refl _ _ _).drewN _).setCell (p := ⟨p, 2, none⟩) (.inl (by simp)) _
  have hp3 := (hp.drewN (nq + 1)).set_ 2 (.slice (some ⟨gs, 0, none⟩) stk.length cap)
  have hg3 := hg.kept hk3 (by simpa using hgp)
  have hr3 := (hr.drewN (nq + 1)).far (p := ⟨p, 2, none⟩) (Ne.symm hpr) (.slice (some ⟨gs, 0, none⟩) stk.length cap)
  have hown3 := own_kept hown' hk3 (fun x hx => by
    have : x = p := by simpa using hx
    subst this
    exact own_ne hown' hp (by decide))
  clear hp hg hr hown' h0 h1 h2 f2 hgc
  generalize ((w.drewN (nq + 1)).setCell ⟨p, 2, none⟩ (.slice (some ⟨gs, 0, none⟩) stk.length cap)) = W3 at hp3 hg3 hr3 hown3 hk3 ⊢
  have h0 := hp3.cell 0
  have h1 := hp3.cell 1
  simp only [List.set_cons_succ, List.set_cons_zero, List.getElem?_cons_zero, List.getElem?_cons_succ, HO.out.1, HO.out.2] at h0 h1
  have H3 := Lib.hid (show RD B W3 p g c (a ++ (sum4 body ++ body)) rest stk ∧ Kept w.heap.size [p] w W3 ∧ Blk W3 r 288 [.int .i64 a.length, .int .i8 0] from ⟨⟨hBp, _, hp3, hg3, hown3⟩, hk3, hr3⟩)
  clear hp3 hk3 hown3 hg3 hr3
  go_wp2_with fail
  refine wp_region_still_tail 12 (by kernel_rfl) (by kernel_rfl) ?_
  show wpStill _ _ (World.drew _) (fun a' => wpList _ _ _ _ _ (World.drew _)) _ _
  simp only [List.take_succ_cons, List.take_zero, List.drop_succ_cons, List.drop_zero]
  repeat still_step
  refine wpStill_nil ?_
  go_wp2_with fail
  refine (l266 r g c N ov a body rest _ (by exact H3.out.2.2.drew) (by obtain ⟨_, _, _, h9, _⟩ := H3.out.1; have h10 : RawAt W3.drew g c ((a ++ (sum4 body ++ body)) ++ rest) := h9; simpa using h10) hb1 (by have h5 := HO.out.1; simp at h5; omega) (by have h5 := HO.out.1; have h6 := HO.out.2; simp at h5; omega) (by have h6 := HO.out.2; omega) hcc).mono ?_
  rintro e w4 ⟨rfl, hk4⟩
  replace hk4 := Kept.undrew hk4
  have HF := Lib.hid (show RD B w4 p g c (a ++ (sum4 body ++ body)) rest stk ∧ Kept B [p] w w4 from ⟨H3.out.1.kept (S := []) hk4 (fun s hs => by cases hs), (H3.out.2.1.mono hlt (fun x hx => .inl hx)).trans (S2 := []) (hk4.mono (Nat.le_trans hlt H3.out.2.1.size) (fun x hx => by cases hx)) (fun x hx => .inl hx) (fun x hx => by cases hx)⟩)
  clear hk4
  go_wp2
  go_ret
  exact ⟨rfl, HF.out⟩
end Go.Proofs.YtmiflkccfieefaaGreatDoor

/-
  A timestamp is decoded.
-/
namespace Go.Proofs.YtmiflkccfieefaaGreatDoor
open Go.ChangeShapes Go.WideShapes Go.ChangeAt Go.RowKit
set_option maxRecDepth 100000
set_option linter.unusedVariables false
set_option linter.unusedSimpArgs false

set_option maxHeartbeats 2000000 in
theorem t140n {B : Nat} (p g c r : Nat) (cs : List Value) (u7 u8 : Value) (m : Int) (pre rest : List UInt8) (stk : List Value) (w : World) (h : RD B w p g c pre (Lib.beBytes 8 (m % 18446744073709551616).toNat ++ rest) stk) (hl : pre.length + rest.length ≤ 1000000) (hr : Blk w r 120 cs) (h7 : cs[7]? = some u7) (h8 : cs[8]? = some u8) (hm : m = -1) :
    Calls Tryz.prog 140 #[.agg #[.pointer (some ⟨r, 7, none⟩)], .iface 171 (.pointer (some ⟨p, 0, none⟩))] w fun e w' => e = .returned .nilIface ∧ RD B w' p g c (pre ++ Lib.beBytes 8 (m % 18446744073709551616).toNat) rest stk ∧ Blk w' r 120 ((cs.set 7 (.int .i64 (secOf m))).set 8 (.int .i64 (nsecOf m))) ∧ Kept B [p, r] w w' := by
  subst hm
  have e1 : secOf (-1) = 0 := by simp [secOf]
  have e2 : nsecOf (-1) = 0 := by simp [nsecOf]
  rw [e1, e2]
  clear e1 e2
  have hpr : r ≠ p := by
    obtain ⟨_, sv, hp, _⟩ := h
    exact hr.ne_ hp (by decide)
  have hb := h.base
  have hrl := hr.lt
  have hd0 := h.kept (S := []) ((Kept.refl _ _ _).alloc (.cells #[.pointer (some ⟨r, 7, none⟩)] 270)) (fun s hs => by cases hs)
  have hq0 := Blk.new w 270 [.pointer (some ⟨r, 7, none⟩)]
  have hr0 := hr.alloc (.cells #[.pointer (some ⟨r, 7, none⟩)] 270)
  have hk0 : Kept B [p, r] w (w.alloc (.cells #[.pointer (some ⟨r, 7, none⟩)] 270)) := (Kept.refl _ _ _).alloc _
  have hpl := h.lt
  have H0 := Lib.hid (And.intro hd0 (And.intro hq0 (And.intro hr0 hk0)))
  have HC := Lib.hid (And.intro h7 h8)
  clear h hr hd0 hq0 hr0 hk0 h7 h8
  go_enter Tryz.func140, Tryz.ntmps140
  go_wp2_with fail
  refine (d170 p g c (-1) pre rest stk _ (by exact H0.out.1) hl (by omega) (by omega)).mono ?_
  rintro e w1 ⟨rfl, hd1, hk1⟩
  have not118 : ¬ stackT 118 := by rintro (h5 | h5) <;> exact absurd h5 (by decide)
  have not270 : ¬ stackT 270 := by rintro (h5 | h5) <;> exact absurd h5 (by decide)
  have hq1 := H0.out.2.1.kept hk1 (by simp; omega) (.inr not270)
  have hr1 := H0.out.2.2.1.kept hk1 (by simpa using hpr) (.inr (by rintro (h5 | h5) <;> exact absurd h5 (by decide)))
  have hk01 : Kept B [p, r] w w1 := H0.out.2.2.2.trans hk1 (fun x hx => .inl hx) (fun x hx => .inl (by simp at hx; simp [hx]))
  have hs1 := hk01.size
  have hv2 := Blk.new w1 118 [.int .i64 0, .int .i64 0]
  have H1 := Lib.hid (And.intro (hd1.kept (S := []) ((Kept.refl _ _ _).alloc (.cells #[.int .i64 0, .int .i64 0] 118)) (fun s hs => by cases hs)) (And.intro (hq1.alloc (.cells #[.int .i64 0, .int .i64 0] 118)) (And.intro (hr1.alloc (.cells #[.int .i64 0, .int .i64 0] 118)) (And.intro hv2 (hk01.alloc (.cells #[.int .i64 0, .int .i64 0] 118))))))
  have hw1 : w.heap.size + 1 ≤ w1.heap.size := by have := hk1.size; simpa using this
  clear hd1 hk1 hq1 hr1 hk01 hv2
  have q0 := H1.out.2.1.cell 0
  have v0 := H1.out.2.2.2.1.cell 0
  have v1 := H1.out.2.2.2.1.cell 1
  have r7 := (H1.out.2.2.1.cell 7).trans HC.out.1
  have r8 := (H1.out.2.2.1.cell 8).trans HC.out.2
  have z7 := H1.out.2.2.1.frozen 7
  have z8 := H1.out.2.2.1.frozen 8
  simp only [List.getElem?_cons_zero, List.getElem?_cons_succ] at q0 v0 v1
  go_upto_region 5 with fail
  generalize (w1.alloc (.cells #[.int .i64 0, .int .i64 0] 118)) = w3 at *
  have H3 := Lib.hid (And.intro H1.out.1 (And.intro H1.out.2.2.1 H1.out.2.2.2.2))
  go_wp2
  go_ret
  refine ⟨rfl, ?_, (H3.out.2.1.set_ 7 (.int .i64 0)).set_ 8 (.int .i64 0), (H3.out.2.2.setCell (p := ⟨r, 7, none⟩) (.inl (by simp)) (.int .i64 0)).setCell (p := ⟨r, 8, none⟩) (.inl (by simp)) (.int .i64 0)⟩
  exact H3.out.1.kept (((Kept.refl _ _ _).setCell (p := ⟨r, 7, none⟩) (S := [r]) (.inl (by simp)) _).setCell (p := ⟨r, 8, none⟩) (.inl (by simp)) _) (fun s hs => by
    have : s = r := by simpa using hs
    subst this
    exact ⟨_, _, H3.out.2.1, by decide, by decide, by decide⟩)
set_option maxHeartbeats 2000000 in
theorem t140p {B : Nat} (p g c r : Nat) (cs : List Value) (u7 u8 : Value) (m : Int) (pre rest : List UInt8) (stk : List Value) (w : World) (h : RD B w p g c pre (Lib.beBytes 8 (m % 18446744073709551616).toNat ++ rest) stk) (hl : pre.length + rest.length ≤ 1000000) (hr : Blk w r 120 cs) (h7 : cs[7]? = some u7) (h8 : cs[8]? = some u8) (hm : 0 ≤ m) (hm1 : m < 8796093022208) :
    Calls Tryz.prog 140 #[.agg #[.pointer (some ⟨r, 7, none⟩)], .iface 171 (.pointer (some ⟨p, 0, none⟩))] w fun e w' => e = .returned .nilIface ∧ RD B w' p g c (pre ++ Lib.beBytes 8 (m % 18446744073709551616).toNat) rest stk ∧ Blk w' r 120 ((cs.set 7 (.int .i64 (secOf m))).set 8 (.int .i64 (nsecOf m))) ∧ Kept B [p, r] w w' := by
  have e1 : secOf m = m / 1000 + 62135596800 := by simp only [secOf]; rw [if_neg (by omega)]
  have e2 : nsecOf m = m % 1000 * 1000000 := by simp only [nsecOf]; rw [if_neg (by omega)]
  rw [e1, e2]
  clear e1 e2
  have hpr : r ≠ p := by
    obtain ⟨_, sv, hp, _⟩ := h
    exact hr.ne_ hp (by decide)
  have hb := h.base
  have hrl := hr.lt
  have hd0 := h.kept (S := []) ((Kept.refl _ _ _).alloc (.cells #[.pointer (some ⟨r, 7, none⟩)] 270)) (fun s hs => by cases hs)
  have hq0 := Blk.new w 270 [.pointer (some ⟨r, 7, none⟩)]
  have hr0 := hr.alloc (.cells #[.pointer (some ⟨r, 7, none⟩)] 270)
  have hk0 : Kept B [p, r] w (w.alloc (.cells #[.pointer (some ⟨r, 7, none⟩)] 270)) := (Kept.refl _ _ _).alloc _
  have hpl := h.lt
  have H0 := Lib.hid (And.intro hd0 (And.intro hq0 (And.intro hr0 hk0)))
  have HC := Lib.hid (And.intro h7 h8)
  clear h hr hd0 hq0 hr0 hk0 h7 h8
  go_enter Tryz.func140, Tryz.ntmps140
  go_wp2_with fail
  refine (d170 p g c m pre rest stk _ (by exact H0.out.1) hl (by omega) (by omega)).mono ?_
  rintro e w1 ⟨rfl, hd1, hk1⟩
  have not118 : ¬ stackT 118 := by rintro (h5 | h5) <;> exact absurd h5 (by decide)
  have not270 : ¬ stackT 270 := by rintro (h5 | h5) <;> exact absurd h5 (by decide)
  have hq1 := H0.out.2.1.kept hk1 (by simp; omega) (.inr not270)
  have hr1 := H0.out.2.2.1.kept hk1 (by simpa using hpr) (.inr (by rintro (h5 | h5) <;> exact absurd h5 (by decide)))
  have hk01 : Kept B [p, r] w w1 := H0.out.2.2.2.trans hk1 (fun x hx => .inl hx) (fun x hx => .inl (by simp at hx; simp [hx]))
  have hs1 := hk01.size
  have hv2 := Blk.new w1 118 [.int .i64 0, .int .i64 0]
  have H1 := Lib.hid (And.intro (hd1.kept (S := []) ((Kept.refl _ _ _).alloc (.cells #[.int .i64 0, .int .i64 0] 118)) (fun s hs => by cases hs)) (And.intro (hq1.alloc (.cells #[.int .i64 0, .int .i64 0] 118)) (And.intro (hr1.alloc (.cells #[.int .i64 0, .int .i64 0] 118)) (And.intro hv2 (hk01.alloc (.cells #[.int .i64 0, .int .i64 0] 118))))))
  have hw1 : w.heap.size + 1 ≤ w1.heap.size := by have := hk1.size; simpa using this
  clear hd1 hk1 hq1 hr1 hk01 hv2
  have hmd : ¬ m < 0 := by omega
  go_wp2_with fail
  refine (t104 (m / 1000) (m % 1000 * 1000000) _ (by omega) (by omega) (by omega) (by omega)).mono ?_
  rintro e w2 ⟨rfl, hb2⟩
  have hq2 := H1.out.2.1.below hb2 H1.out.2.1.lt
  have hr2 := H1.out.2.2.1.below hb2 H1.out.2.2.1.lt
  have hv2 := H1.out.2.2.2.1.below hb2 H1.out.2.2.2.1.lt
  have hd2 := H1.out.1.kept (Kept.of_below hb2 []) (fun s hs => by cases hs)
  have hk2 := H1.out.2.2.2.2.trans (S2 := []) (Kept.of_below (B := B) hb2 []) (fun x hx => .inl hx) (fun x hx => by cases hx)
  have y0 := hv2.cell 0
  have y1 := hv2.cell 1
  have x0 := hv2.frozen 0
  have x1 := hv2.frozen 1
  have q0' := hq2.cell 0
  have r7' := (hr2.cell 7).trans HC.out.1
  have r8' := (hr2.cell 8).trans HC.out.2
  have z7' := hr2.frozen 7
  have z8' := hr2.frozen 8
  simp only [List.getElem?_cons_zero, List.getElem?_cons_succ] at y0 y1 q0'
  have hne7 : w1.heap.size ≠ r := by omega
  have hneq : w1.heap.size ≠ w.heap.size := by omega
  have H3 := Lib.hid (show RD B ((w2.setCell ⟨w1.heap.size, 0, none⟩ (.int .i64 (m / 1000 + 62135596800))).setCell ⟨w1.heap.size, 1, none⟩ (.int .i64 (m % 1000 * 1000000))) p g c (pre ++ Lib.beBytes 8 (m % 18446744073709551616).toNat) rest stk ∧ Blk ((w2.setCell ⟨w1.heap.size, 0, none⟩ (.int .i64 (m / 1000 + 62135596800))).setCell ⟨w1.heap.size, 1, none⟩ (.int .i64 (m % 1000 * 1000000))) r 120 cs ∧ Kept B [p, r] w ((w2.setCell ⟨w1.heap.size, 0, none⟩ (.int .i64 (m / 1000 + 62135596800))).setCell ⟨w1.heap.size, 1, none⟩ (.int .i64 (m % 1000 * 1000000))) from
    ⟨hd2.kept (((Kept.refl _ _ _).setCell (p := ⟨w1.heap.size, 0, none⟩) (S := [w1.heap.size]) (.inl (by simp)) _).setCell (p := ⟨w1.heap.size, 1, none⟩) (.inl (by simp)) _) (fun s hs => by
      have : s = w1.heap.size := by simpa using hs
      subst this
      exact ⟨_, _, hv2, by decide, by decide, by decide⟩), (hr2.far (p := ⟨w1.heap.size, 0, none⟩) (Ne.symm hne7) _).far (p := ⟨w1.heap.size, 1, none⟩) (Ne.symm hne7) _, (hk2.setCell (p := ⟨w1.heap.size, 0, none⟩) (.inr hs1) _).setCell (p := ⟨w1.heap.size, 1, none⟩) (.inr hs1) _⟩)
  clear hq2 hr2 hv2 hd2 hk2 hb2
  go_wp2
  go_ret
  refine ⟨rfl, ?_, (H3.out.2.1.set_ 7 (.int .i64 (m / 1000 + 62135596800))).set_ 8 (.int .i64 (m % 1000 * 1000000)), (H3.out.2.2.setCell (p := ⟨r, 7, none⟩) (.inl (by simp)) (.int .i64 (m / 1000 + 62135596800))).setCell (p := ⟨r, 8, none⟩) (.inl (by simp)) (.int .i64 (m % 1000 * 1000000))⟩
  exact H3.out.1.kept (((Kept.refl _ _ _).setCell (p := ⟨r, 7, none⟩) (S := [r]) (.inl (by simp)) _).setCell (p := ⟨r, 8, none⟩) (.inl (by simp)) _) (fun s hs => by
    have : s = r := by simpa using hs
    subst this
    exact ⟨_, _, H3.out.2.1, by decide, by decide, by decide⟩)
theorem t140 {B : Nat} (p g c r : Nat) (cs : List Value) (u7 u8 : Value) (m : Int) (pre rest : List UInt8) (stk : List Value) (w : World) (h : RD B w p g c pre (Lib.beBytes 8 (m % 18446744073709551616).toNat ++ rest) stk) (hl : pre.length + rest.length ≤ 1000000) (hr : Blk w r 120 cs) (h7 : cs[7]? = some u7) (h8 : cs[8]? = some u8) (hm : -1 ≤ m) (hm1 : m < 8796093022208) :
    Calls Tryz.prog 140 #[.agg #[.pointer (some ⟨r, 7, none⟩)], .iface 171 (.pointer (some ⟨p, 0, none⟩))] w fun e w' => e = .returned .nilIface ∧ RD B w' p g c (pre ++ Lib.beBytes 8 (m % 18446744073709551616).toNat) rest stk ∧ Blk w' r 120 ((cs.set 7 (.int .i64 (secOf m))).set 8 (.int .i64 (nsecOf m))) ∧ Kept B [p, r] w w' := by
  by_cases hn : m = -1
  · exact t140n p g c r cs u7 u8 m pre rest stk w h hl hr h7 h8 hn
  · exact t140p p g c r cs u7 u8 m pre rest stk w h hl hr h7 h8 (by omega) hm1
end Go.Proofs.YtmiflkccfieefaaGreatDoor

/-
  A message is decoded: Message.decode.
-/
namespace Go.Proofs.YtmiflkccfieefaaGreatDoor
open Go.ChangeShapes Go.WideShapes Go.ChangeAt Go.RowKit
set_option maxRecDepth 100000
set_option linter.unusedVariables false
set_option linter.unusedSimpArgs false

theorem r139 (a : Addr) (u : FrameMode) (w : World) : CallsD Tryz.prog 139 #[.pointer (some a)] u w fun e u' w' => u' = u ∧ (e = .returned (.tuple #[]) ∧ w' = w) := by
  go_enter_d Tryz.func139, Tryz.ntmps139
  go_wp2
  go_end0
  exact ⟨rfl, rfl⟩
theorem r160 (a : Addr) (u : FrameMode) (w : World) : CallsD Tryz.prog 160 #[.pointer (some a)] u w fun e u' w' => u' = u ∧ (e = .returned (.tuple #[]) ∧ w' = w) := by
  go_enter_d Tryz.func160, Tryz.ntmps160
  go_wp2
  go_end0
  exact ⟨rfl, rfl⟩
theorem a138 (w : World) : Calls Tryz.prog 138 #[.int .i8 0] w fun e w' => e = .returned (.pointer (some ⟨w.heap.size, 0, none⟩)) ∧ w.alloc (.cells #[.int .i64 0, .int .i8 0] 288) = w' := by
  go_enter Tryz.func138, Tryz.ntmps138
  go_wp2_with (go_at_call 144; refine (c144 _).mono ?_; rintro e w1 ⟨rfl, rfl⟩)
  go_ret
  exact ⟨rfl, rfl⟩
/-- The decoder, the sum's field at q, the message at r. -/
structure MS (B : Nat) (w0 W : World) (p g c q r : Nat) (pre rest : List UInt8) (stk : List Value) (so : Nat) (cs : List Value) : Prop where
  rd : RD B W p g c pre rest stk
  fld : Blk W q 288 [.int .i64 so, .int .i8 0]
  msg : Blk W r 120 cs
  kp : Kept B [p, r] w0 W
theorem not288 : ¬ stackT 288 := by rintro (h5 | h5) <;> exact absurd h5 (by decide)
theorem rd_ne {B : Nat} {W : World} {p g c r t : Nat} {pre rest : List UInt8} {stk cs : List Value} (h : RD B W p g c pre rest stk) (hr : Blk W r t cs) (ht : t ≠ 174) : r ≠ p := by
  obtain ⟨_, sv, hp, _⟩ := h
  exact hr.ne_ hp ht
theorem MS.get {B : Nat} {w0 W W' : World} {p g c q r : Nat} {pre rest pre' rest' : List UInt8} {stk : List Value} {so : Nat} {cs : List Value} (h : MS B w0 W p g c q r pre rest stk so cs) (hd : RD B W' p g c pre' rest' stk) (hk : Kept B [p] W W') : MS B w0 W' p g c q r pre' rest' stk so cs :=
  ⟨hd, h.fld.kept hk (by simpa using rd_ne h.rd h.fld (by decide)) (.inr not288), h.msg.kept hk (by simpa using rd_ne h.rd h.msg (by decide)) (.inr not120), h.kp.trans hk (fun x hx => .inl hx) (fun x hx => .inl (by simp at hx; simp [hx]))⟩
theorem MS.set_ {B : Nat} {w0 W : World} {p g c q r : Nat} {pre rest : List UInt8} {stk : List Value} {so : Nat} {cs : List Value} (h : MS B w0 W p g c q r pre rest stk so cs) (i : Nat) (u : Value) : MS B w0 (W.setCell ⟨r, i, none⟩ u) p g c q r pre rest stk so (cs.set i u) :=
  ⟨h.rd.kept ((Kept.refl _ _ _).setCell (p := ⟨r, i, none⟩) (S := [r]) (.inl (by simp)) _) (fun s hs => by
    have : s = r := by simpa using hs
    subst this
    exact ⟨_, _, h.msg, by decide, by decide, by decide⟩), h.fld.far (p := ⟨r, i, none⟩) (h.fld.ne_ h.msg (by decide)) _, h.msg.set_ _ _, h.kp.setCell (p := ⟨r, i, none⟩) (.inl (by simp)) _⟩
theorem MS.time {B : Nat} {w0 W W' : World} {p g c q r : Nat} {pre rest pre' rest' : List UInt8} {stk : List Value} {so : Nat} {cs cs' : List Value} (h : MS B w0 W p g c q r pre rest stk so cs) (hd : RD B W' p g c pre' rest' stk) (hm : Blk W' r 120 cs') (hk : Kept B [p, r] W W') : MS B w0 W' p g c q r pre' rest' stk so cs' :=
  ⟨hd, h.fld.kept hk (by simp; exact ⟨rd_ne h.rd h.fld (by decide), h.fld.ne_ h.msg (by decide)⟩) (.inr not288), hm, h.kp.trans hk (fun x hx => .inl hx) (fun x hx => .inl hx)⟩
theorem MS.nb {B : Nat} {w0 W W' : World} {p g c q r : Nat} {pre rest : List UInt8} {stk : List Value} {so : Nat} {cs : List Value} (h : MS B w0 W p g c q r pre rest stk so cs) {D : Nat} {v : Value} {o : NB} (hn : NBytesAt W D v o) {S : List Nat} (hk : Kept B S W W') (hS : ∀ s ∈ S, s = p ∨ s = r) : NBytesAt W' D v o :=
  hn.kept hk (fun s hs => by
    rcases hS s hs with rfl | rfl
    · obtain ⟨_, sv, hp, _⟩ := h.rd
      exact .inr ⟨174, _, by decide, hp⟩
    · exact .inr ⟨120, _, by decide, h.msg⟩)
theorem Blk.all11 {W : World} {p t : Nat} {c0 c1 c2 c3 c4 c5 c6 c7 c8 c9 c10 : Value} (h : Blk W p t [c0, c1, c2, c3, c4, c5, c6, c7, c8, c9, c10]) :
    W.cell? ⟨p, 0, none⟩ = some c0 ∧ W.cell? ⟨p, 2, none⟩ = some c2 ∧ W.cell? ⟨p, 3, none⟩ = some c3 ∧ W.cell? ⟨p, 4, none⟩ = some c4 ∧ W.cell? ⟨p, 6, none⟩ = some c6 ∧ W.cell? ⟨p, 10, none⟩ = some c10 ∧ W.frozen? ⟨p, 0, none⟩ = false ∧ W.frozen? ⟨p, 2, none⟩ = false ∧ W.frozen? ⟨p, 3, none⟩ = false ∧ W.frozen? ⟨p, 4, none⟩ = false ∧ W.frozen? ⟨p, 6, none⟩ = false ∧ W.frozen? ⟨p, 10, none⟩ = false :=
  ⟨h.cell 0, h.cell 2, h.cell 3, h.cell 4, h.cell 6, h.cell 10, h.frozen 0, h.frozen 2, h.frozen 3, h.frozen 4, h.frozen 6, h.frozen 10⟩
end Go.Proofs.YtmiflkccfieefaaGreatDoor

/-
  A message is decoded: Message.decode.
-/
namespace Go.Proofs.YtmiflkccfieefaaGreatDoor
open Go.ChangeShapes Go.WideShapes Go.ChangeAt Go.RowKit
set_option maxRecDepth 100000
set_option linter.unusedVariables false
set_option linter.unusedSimpArgs false

set_option maxHeartbeats 4000000 in
theorem d153a {B : Nat} (p g c D r : Nat) (m : Int) (ko vo : NB) (pre rest : List UInt8) (stk : List Value) (w : World) (h : RD B w p g c pre (msgBytes 0 false (tBytes 0 m) ko vo ++ rest) stk) (hl : pre.length + rest.length ≤ 600000) (hko : ol ko ≤ 300) (hvo : ol vo ≤ 300) (hm : m = -1) (hstk : stk.length ≤ 100) (hgD : g < D)
    (hr : Blk w r 120 [.int .i8 0, .int .i64 0, .bool false, .slice none 0 0, .slice none 0 0, .pointer none, .int .i8 0, .int .i64 0, .int .i64 0, .slice none 0 0, .int .i64 0]) :
    Calls Tryz.prog 153 #[.pointer (some ⟨r, 0, none⟩), .iface 171 (.pointer (some ⟨p, 0, none⟩))] w fun e w' => e = .returned .nilIface ∧ RD B w' p g c (pre ++ msgBytes 0 false (tBytes 0 m) ko vo) rest stk ∧ MsgAt w' D r 0 false (secOf m) (nsecOf m) ko vo true ∧ Kept B [p, r] w w' := by
  have hbl : (msgBody 0 false (tBytes 0 m) ko vo).length = 2 + ((tBytes 0 m).length + ((4 + ol ko) + (4 + ol vo))) := by
    have h1 := msgLen 0 false (tBytes 0 m) ko vo
    simp only [msgBytes, List.length_append, Lib.beBytes_length] at h1
    omega
  have htl : (tBytes 0 m).length ≤ 8 := by unfold tBytes; split <;> simp [Lib.beBytes_length]
  have hmb : msgBytes 0 false (tBytes 0 m) ko vo = sum4 (msgBody 0 false (tBytes 0 m) ko vo) ++ msgBody 0 false (tBytes 0 m) ko vo := rfl
  have hbody : msgBody 0 false (tBytes 0 m) ko vo = [byteOf 0] ++ ([byteOf 0] ++ ((tBytes 0 m) ++ (sBytes ko ++ sBytes vo))) := rfl
  rw [hmb] at h ⊢
  generalize hbv : msgBody 0 false (tBytes 0 m) ko vo = body at h hbl hbody ⊢
  have hs4 := sum4_len body
  have hsk := sBytes_le ko
  have hsv := sBytes_le vo
  have hpr := rd_ne h hr (by decide)
  have hrl := hr.lt
  have hb := h.base
  have hd0 := h.kept (S := []) ((Kept.refl _ _ _).alloc (.cells #[.int .i64 0, .int .i8 0] 288)) (fun s hs => by cases hs)
  have hq0 := Blk.new w 288 [.int .i64 0, .int .i8 0]
  have hr0 := hr.alloc (.cells #[.int .i64 0, .int .i8 0] 288)
  have hk0 : Kept B [p, r] w (w.alloc (.cells #[.int .i64 0, .int .i8 0] 288)) := (Kept.refl _ _ _).alloc _
  have hpl := h.lt
  rw [List.append_assoc] at hd0
  have H0 := Lib.hid (And.intro hd0 (And.intro hq0 (And.intro hr0 hk0)))
  have HB := Lib.hid hbody
  have HS4 := Lib.hid hs4
  have hs4' : (sum4 body).length ≤ 4 := by omega
  have heq := fun (W : World) (a : Option Addr) (l c : Nat) => run_neq_slice_nil_any (P := Tryz.prog) W 23 5 a l c 0 0 Tryz.underlying23
  have e1 : bits .and .i8 0 7 = 0 := by decide
  have e2 : bits .and .i8 0 8 = 0 := by decide
  clear h hr hd0 hq0 hr0 hk0 hs4 hbody hmb hbv
  go_enter_defers Tryz.func153, Tryz.ntmps153
  go_wp2_with (go_at_call 138; refine (a138 _).mono ?_; rintro e w1 ⟨rfl, rfl⟩)
  refine (dpush264 p g c w.heap.size 0 288 [.int .i64 0, .int .i8 0] (.int .i64 0) (sum4 body) pre (body ++ rest) stk _ (by exact H0.out.1) (by rw [List.length_append]; omega) HS4.out (by exact H0.out.2.1) (by decide) (by decide) (by decide) (by decide) rfl (by omega)).mono ?_
  rintro e w1 ⟨rfl, hd1, hq1, hk1⟩
  have hr1 := H0.out.2.2.1.kept hk1 (by simp; omega) (.inr not120)
  have hms1 : MS B w w1 p g c w.heap.size r (pre ++ sum4 body) (body ++ rest) (stk ++ [Value.iface 264 (.pointer (some ⟨w.heap.size, 0, none⟩))]) pre.length [.int .i8 0, .int .i64 0, .bool false, .slice none 0 0, .slice none 0 0, .pointer none, .int .i8 0, .int .i64 0, .int .i64 0, .slice none 0 0, .int .i64 0] :=
    ⟨hd1, hq1, hr1, H0.out.2.2.2.trans hk1 (fun x hx => .inl hx) (fun x hx => by
      simp at hx
      rcases hx with rfl | rfl
      · exact .inl (by simp)
      · exact .inr (Nat.le_refl _))⟩
  have M1 := Lib.hid hms1
  clear hd1 hq1 hk1 hr1 hms1
  have hpl1 : (pre ++ sum4 body).length = pre.length + 4 := by rw [List.length_append, HS4.out]
  have HPL := Lib.hid hpl1
  have hpl1' : (pre ++ sum4 body).length ≤ pre.length + 4 := by omega
  clear hpl1
  generalize hp1 : pre ++ sum4 body = p1 at M1 HPL hpl1'
  have HP1 := Lib.hid hp1
  clear hp1
  go_wp2_with fail
  refine (d171 p g c 0 p1 ([byteOf 0] ++ ((tBytes 0 m) ++ (sBytes ko ++ (sBytes vo ++ rest)))) _ _ (by have h := M1.out.rd; rw [HB.out] at h; simpa using h) (by simp only [List.length_append, List.length_cons, List.length_nil]; omega) (by omega) (by omega)).mono ?_
  rintro e w2 ⟨rfl, hd2, hk2⟩
  have M2 := Lib.hid (M1.out.get hd2 hk2)
  clear hd2 hk2
  obtain ⟨k0, k2, k3, k4, k6, k10, f0, f2, f3, f4, f6, f10⟩ := M2.out.msg.all11
  go_wp2_with fail
  refine (d171 p g c 0 (p1 ++ [byteOf 0]) ((tBytes 0 m) ++ (sBytes ko ++ (sBytes vo ++ rest))) _ _ (by exact (M2.out.set_ 6 (.int .i8 0)).rd) (by simp only [List.length_append, List.length_cons, List.length_nil]; omega) (by omega) (by omega)).mono ?_
  rintro e w3 ⟨rfl, hd3, hk3⟩
  have M3 := Lib.hid ((M2.out.set_ 6 (.int .i8 0)).get hd3 hk3)
  clear hd3 hk3
  clear k0 k2 k3 k4 k6 k10 f0 f2 f3 f4 f6 f10
  obtain ⟨k0, k2, k3, k4, k6, k10, f0, f2, f3, f4, f6, f10⟩ := M3.out.msg.all11
  try simp only [List.set_cons_succ, List.set_cons_zero] at k6
  go_wp2_with fail
  refine (d167 p g c D ko ((p1 ++ [byteOf 0]) ++ [byteOf 0]) (sBytes vo ++ rest) _ _ (by have h := ((M3.out.set_ 0 (.int .i8 0)).set_ 2 (.bool false)).rd; simpa [tBytes, hm] using h) (by simp only [List.length_append, List.length_cons, List.length_nil]; omega) hgD).mono ?_
  rintro e w5 ⟨kv, rfl, hkv, hd5, hk5⟩
  obtain ⟨kA, kn, kc, rfl⟩ := nb_form hkv
  have M5 := Lib.hid ((((M3.out.set_ 0 (.int .i8 0)).set_ 2 (.bool false)).get hd5 hk5))
  have HKV := Lib.hid hkv
  clear hd5 hk5 hkv
  clear k0 k2 k3 k4 k6 k10 f0 f2 f3 f4 f6 f10
  obtain ⟨k0, k2, k3, k4, k6, k10, f0, f2, f3, f4, f6, f10⟩ := M5.out.msg.all11
  try simp only [List.set_cons_succ, List.set_cons_zero] at k0 k2 k3 k4 k6 k10
  go_wp2_with fail
  refine (d167 p g c D vo (((p1 ++ [byteOf 0]) ++ [byteOf 0]) ++ sBytes ko) rest _ _ (by exact (M5.out.set_ 3 (.slice kA kn kc)).rd) (by simp only [List.length_append, List.length_cons, List.length_nil]; omega) hgD).mono ?_
  rintro e w6 ⟨vv, rfl, hvv, hd6, hk6⟩
  obtain ⟨vA, vn, vc, rfl⟩ := nb_form hvv
  have hkv6 := (M5.out.set_ 3 (.slice kA kn kc)).nb (M5.out.nb HKV.out ((Kept.refl B [r] _).setCell (p := ⟨r, 3, none⟩) (.inl (by simp)) (.slice kA kn kc)) (fun s hs => .inr (by simpa using hs))) hk6 (fun s hs => .inl (by simpa using hs))
  have M6 := Lib.hid ((M5.out.set_ 3 (.slice kA kn kc)).get hd6 hk6)
  have HV6 := Lib.hid (And.intro hkv6 hvv)
  clear hd6 hk6 hvv hkv6
  clear k0 k2 k3 k4 k6 k10 f0 f2 f3 f4 f6 f10
  obtain ⟨k0, k2, k3, k4, k6, k10, f0, f2, f3, f4, f6, f10⟩ := M6.out.msg.all11
  try simp only [List.set_cons_succ, List.set_cons_zero] at k0 k2 k3 k4 k6 k10
  have hslv := HV6.out.2.sl
  cases vo with
  | none =>
    obtain ⟨rfl, rfl, rfl⟩ : vA = none ∧ vn = 0 ∧ vc = 0 := by
      have h : (Value.slice vA vn vc) = .slice none 0 0 := hslv
      injection h with h1 h2 h3
      exact ⟨h1, h2, h3⟩
    clear hslv
    have M7 := Lib.hid ((M6.out.set_ 4 (.slice none 0 0)).set_ 10 (.int .i64 0))
    have hkW : Kept B [r] w6 ((w6.setCell ⟨r, 4, none⟩ (.slice none 0 0)).setCell ⟨r, 10, none⟩ (.int .i64 0)) := ((Kept.refl B [r] _).setCell (p := ⟨r, 4, none⟩) (.inl (by simp)) _).setCell (p := ⟨r, 10, none⟩) (.inl (by simp)) _
    have HV7 := Lib.hid (And.intro (M6.out.nb HV6.out.1 hkW (fun s hs => .inr (by simpa using hs))) (M6.out.nb HV6.out.2 hkW (fun s hs => .inr (by simpa using hs))))
    clear hkW
    go_wp2_with fail
    have hall : (((p1 ++ [byteOf 0]) ++ [byteOf 0]) ++ sBytes ko) ++ sBytes none = pre ++ (sum4 body ++ body) := by
      rw [← HP1.out]
      conv => rhs; arg 2; arg 2; rw [HB.out]
      simp [tBytes, hm]
    have hrd7 := M7.out.rd
    rw [hall] at hrd7
    have HRD := Lib.hid hrd7
    clear hall hrd7
    refine (dpop264 p g c w.heap.size pre body rest stk _ (by exact HRD.out) (by omega) (by exact M7.out.fld) (by omega) (by omega)).mono ?_
    rintro e w8 ⟨rfl, hd8, hk8⟩
    have hr8 := M7.out.msg.kept hk8 (by simpa using hpr) (.inr not120)
    have hF : RD B w8 p g c (pre ++ (sum4 body ++ body)) rest stk ∧ MsgAt w8 D r 0 false (secOf m) (nsecOf m) ko none true ∧ Kept B [p, r] w w8 :=
      ⟨hd8, ⟨_, _, _, _, (by simpa [hm, secOf, nsecOf] using hr8), M7.out.nb HV7.out.1 hk8 (fun s hs => .inl (by simpa using hs)), M7.out.nb HV7.out.2 hk8 (fun s hs => .inl (by simpa using hs)), rfl⟩, M7.out.kp.trans hk8 (fun x hx => .inl hx) (fun x hx => .inl (by simp at hx; simp [hx]))⟩
    have HF := Lib.hid hF
    clear hd8 hk8 hr8 hF k0 k2 k3 k4 k6 k10 f0 f2 f3 f4 f6 f10
    go_wp2
    refine leaves_cons (f := 139) (args := #[.pointer (some ⟨w.heap.size, 0, none⟩)]) (by simp) (by simp [go_sem]) ?_
    refine (r139 ⟨w.heap.size, 0, none⟩ .returning _).mono ?_
    rintro e u' w9 ⟨rfl, rfl, rfl⟩
    exact ⟨_, results_tmp rfl _ _ _, rfl, HF.out⟩
  | some l =>
    obtain ⟨a, rfl, rfl⟩ : ∃ a, vA = some a ∧ vn = l.length := by
      obtain ⟨a, c, h⟩ := hslv
      injection h with h1 h2 h3
      exact ⟨a, h1, h2⟩
    clear hslv
    have M7 := Lib.hid ((M6.out.set_ 4 (.slice (some a) l.length vc)).set_ 10 (.int .i64 l.length))
    have hkW : Kept B [r] w6 ((w6.setCell ⟨r, 4, none⟩ (.slice (some a) l.length vc)).setCell ⟨r, 10, none⟩ (.int .i64 l.length)) := ((Kept.refl B [r] _).setCell (p := ⟨r, 4, none⟩) (.inl (by simp)) _).setCell (p := ⟨r, 10, none⟩) (.inl (by simp)) _
    have HV7 := Lib.hid (And.intro (M6.out.nb HV6.out.1 hkW (fun s hs => .inr (by simpa using hs))) (M6.out.nb HV6.out.2 hkW (fun s hs => .inr (by simpa using hs))))
    clear hkW
    go_wp2_with fail
    have hall : (((p1 ++ [byteOf 0]) ++ [byteOf 0]) ++ sBytes ko) ++ sBytes (some l) = pre ++ (sum4 body ++ body) := by
      rw [← HP1.out]
      conv => rhs; arg 2; arg 2; rw [HB.out]
      simp [tBytes, hm]
    have hrd7 := M7.out.rd
    rw [hall] at hrd7
    have HRD := Lib.hid hrd7
    clear hall hrd7
    refine (dpop264 p g c w.heap.size pre body rest stk _ (by exact HRD.out) (by omega) (by exact M7.out.fld) (by omega) (by omega)).mono ?_
    rintro e w8 ⟨rfl, hd8, hk8⟩
    have hr8 := M7.out.msg.kept hk8 (by simpa using hpr) (.inr not120)
    have hF : RD B w8 p g c (pre ++ (sum4 body ++ body)) rest stk ∧ MsgAt w8 D r 0 false (secOf m) (nsecOf m) ko (some l) true ∧ Kept B [p, r] w w8 :=
      ⟨hd8, ⟨_, _, _, _, (by simpa [hm, secOf, nsecOf] using hr8), M7.out.nb HV7.out.1 hk8 (fun s hs => .inl (by simpa using hs)), M7.out.nb HV7.out.2 hk8 (fun s hs => .inl (by simpa using hs)), rfl⟩, M7.out.kp.trans hk8 (fun x hx => .inl hx) (fun x hx => .inl (by simp at hx; simp [hx]))⟩
    have HF := Lib.hid hF
    clear hd8 hk8 hr8 hF k0 k2 k3 k4 k6 k10 f0 f2 f3 f4 f6 f10
    go_wp2
    refine leaves_cons (f := 139) (args := #[.pointer (some ⟨w.heap.size, 0, none⟩)]) (by simp) (by simp [go_sem]) ?_
    refine (r139 ⟨w.heap.size, 0, none⟩ .returning _).mono ?_
    rintro e u' w9 ⟨rfl, rfl, rfl⟩
    exact ⟨_, results_tmp rfl _ _ _, rfl, HF.out⟩
end Go.Proofs.YtmiflkccfieefaaGreatDoor

/-
  A message is decoded: Message.decode.
-/
namespace Go.Proofs.YtmiflkccfieefaaGreatDoor
open Go.ChangeShapes Go.WideShapes Go.ChangeAt Go.RowKit
set_option maxRecDepth 100000
set_option linter.unusedVariables false
set_option linter.unusedSimpArgs false

set_option maxHeartbeats 4000000 in
theorem d153b {B : Nat} (p g c D r : Nat) (m : Int) (ko vo : NB) (pre rest : List UInt8) (stk : List Value) (w : World) (h : RD B w p g c pre (msgBytes 1 false (tBytes 1 m) ko vo ++ rest) stk) (hl : pre.length + rest.length ≤ 600000) (hko : ol ko ≤ 300) (hvo : ol vo ≤ 300) (hm : -1 ≤ m) (hm1 : m < 8796093022208) (hstk : stk.length ≤ 100) (hgD : g < D)
    (hr : Blk w r 120 [.int .i8 0, .int .i64 0, .bool false, .slice none 0 0, .slice none 0 0, .pointer none, .int .i8 0, .int .i64 0, .int .i64 0, .slice none 0 0, .int .i64 0]) :
    Calls Tryz.prog 153 #[.pointer (some ⟨r, 0, none⟩), .iface 171 (.pointer (some ⟨p, 0, none⟩))] w fun e w' => e = .returned .nilIface ∧ RD B w' p g c (pre ++ msgBytes 1 false (tBytes 1 m) ko vo) rest stk ∧ MsgAt w' D r 1 false (secOf m) (nsecOf m) ko vo true ∧ Kept B [p, r] w w' := by
  have hbl : (msgBody 1 false (tBytes 1 m) ko vo).length = 2 + ((tBytes 1 m).length + ((4 + ol ko) + (4 + ol vo))) := by
    have h1 := msgLen 1 false (tBytes 1 m) ko vo
    simp only [msgBytes, List.length_append, Lib.beBytes_length] at h1
    omega
  have htl : (tBytes 1 m).length ≤ 8 := by unfold tBytes; split <;> simp [Lib.beBytes_length]
  have hmb : msgBytes 1 false (tBytes 1 m) ko vo = sum4 (msgBody 1 false (tBytes 1 m) ko vo) ++ msgBody 1 false (tBytes 1 m) ko vo := rfl
  have hbody : msgBody 1 false (tBytes 1 m) ko vo = [byteOf 1] ++ ([byteOf 0] ++ ((tBytes 1 m) ++ (sBytes ko ++ sBytes vo))) := rfl
  rw [hmb] at h ⊢
  generalize hbv : msgBody 1 false (tBytes 1 m) ko vo = body at h hbl hbody ⊢
  have hs4 := sum4_len body
  have hsk := sBytes_le ko
  have hsv := sBytes_le vo
  have hpr := rd_ne h hr (by decide)
  have hrl := hr.lt
  have hb := h.base
  have hd0 := h.kept (S := []) ((Kept.refl _ _ _).alloc (.cells #[.int .i64 0, .int .i8 0] 288)) (fun s hs => by cases hs)
  have hq0 := Blk.new w 288 [.int .i64 0, .int .i8 0]
  have hr0 := hr.alloc (.cells #[.int .i64 0, .int .i8 0] 288)
  have hk0 : Kept B [p, r] w (w.alloc (.cells #[.int .i64 0, .int .i8 0] 288)) := (Kept.refl _ _ _).alloc _
  have hpl := h.lt
  rw [List.append_assoc] at hd0
  have H0 := Lib.hid (And.intro hd0 (And.intro hq0 (And.intro hr0 hk0)))
  have HB := Lib.hid hbody
  have HS4 := Lib.hid hs4
  have hs4' : (sum4 body).length ≤ 4 := by omega
  have heq := fun (W : World) (a : Option Addr) (l c : Nat) => run_neq_slice_nil_any (P := Tryz.prog) W 23 5 a l c 0 0 Tryz.underlying23
  have e1 : bits .and .i8 0 7 = 0 := by decide
  have e2 : bits .and .i8 0 8 = 0 := by decide
  clear h hr hd0 hq0 hr0 hk0 hs4 hbody hmb hbv
  go_enter_defers Tryz.func153, Tryz.ntmps153
  go_wp2_with (go_at_call 138; refine (a138 _).mono ?_; rintro e w1 ⟨rfl, rfl⟩)
  refine (dpush264 p g c w.heap.size 0 288 [.int .i64 0, .int .i8 0] (.int .i64 0) (sum4 body) pre (body ++ rest) stk _ (by exact H0.out.1) (by rw [List.length_append]; omega) HS4.out (by exact H0.out.2.1) (by decide) (by decide) (by decide) (by decide) rfl (by omega)).mono ?_
  rintro e w1 ⟨rfl, hd1, hq1, hk1⟩
  have hr1 := H0.out.2.2.1.kept hk1 (by simp; omega) (.inr not120)
  have hms1 : MS B w w1 p g c w.heap.size r (pre ++ sum4 body) (body ++ rest) (stk ++ [Value.iface 264 (.pointer (some ⟨w.heap.size, 0, none⟩))]) pre.length [.int .i8 0, .int .i64 0, .bool false, .slice none 0 0, .slice none 0 0, .pointer none, .int .i8 0, .int .i64 0, .int .i64 0, .slice none 0 0, .int .i64 0] :=
    ⟨hd1, hq1, hr1, H0.out.2.2.2.trans hk1 (fun x hx => .inl hx) (fun x hx => by
      simp at hx
      rcases hx with rfl | rfl
      · exact .inl (by simp)
      · exact .inr (Nat.le_refl _))⟩
  have M1 := Lib.hid hms1
  clear hd1 hq1 hk1 hr1 hms1
  have hpl1 : (pre ++ sum4 body).length = pre.length + 4 := by rw [List.length_append, HS4.out]
  have HPL := Lib.hid hpl1
  have hpl1' : (pre ++ sum4 body).length ≤ pre.length + 4 := by omega
  clear hpl1
  generalize hp1 : pre ++ sum4 body = p1 at M1 HPL hpl1'
  have HP1 := Lib.hid hp1
  clear hp1
  go_wp2_with fail
  refine (d171 p g c 1 p1 ([byteOf 0] ++ ((tBytes 1 m) ++ (sBytes ko ++ (sBytes vo ++ rest)))) _ _ (by have h := M1.out.rd; rw [HB.out] at h; simpa using h) (by simp only [List.length_append, List.length_cons, List.length_nil]; omega) (by omega) (by omega)).mono ?_
  rintro e w2 ⟨rfl, hd2, hk2⟩
  have M2 := Lib.hid (M1.out.get hd2 hk2)
  clear hd2 hk2
  obtain ⟨k0, k2, k3, k4, k6, k10, f0, f2, f3, f4, f6, f10⟩ := M2.out.msg.all11
  go_wp2_with fail
  refine (d171 p g c 0 (p1 ++ [byteOf 1]) ((tBytes 1 m) ++ (sBytes ko ++ (sBytes vo ++ rest))) _ _ (by exact (M2.out.set_ 6 (.int .i8 1)).rd) (by simp only [List.length_append, List.length_cons, List.length_nil]; omega) (by omega) (by omega)).mono ?_
  rintro e w3 ⟨rfl, hd3, hk3⟩
  have M3 := Lib.hid ((M2.out.set_ 6 (.int .i8 1)).get hd3 hk3)
  clear hd3 hk3
  clear k0 k2 k3 k4 k6 k10 f0 f2 f3 f4 f6 f10
  obtain ⟨k0, k2, k3, k4, k6, k10, f0, f2, f3, f4, f6, f10⟩ := M3.out.msg.all11
  try simp only [List.set_cons_succ, List.set_cons_zero] at k6
  go_wp2_with fail
  refine (t140 p g c r _ _ _ m ((p1 ++ [byteOf 1]) ++ [byteOf 0]) (sBytes ko ++ (sBytes vo ++ rest)) _ _ (by have h := ((M3.out.set_ 0 (.int .i8 0)).set_ 2 (.bool false)).rd; simpa [tBytes] using h) (by simp only [List.length_append, List.length_cons, List.length_nil]; omega) (by exact ((M3.out.set_ 0 (.int .i8 0)).set_ 2 (.bool false)).msg) rfl rfl hm hm1).mono ?_
  rintro e w4 ⟨rfl, hd4, hb4, hk4⟩
  have M4 := Lib.hid (((M3.out.set_ 0 (.int .i8 0)).set_ 2 (.bool false)).time hd4 hb4 hk4)
  clear hd4 hb4 hk4
  clear k0 k2 k3 k4 k6 k10 f0 f2 f3 f4 f6 f10
  obtain ⟨k0, k2, k3, k4, k6, k10, f0, f2, f3, f4, f6, f10⟩ := M4.out.msg.all11
  try simp only [List.set_cons_succ, List.set_cons_zero] at k0 k2 k3 k4 k6 k10
  have htb : (Lib.beBytes 8 (m % 18446744073709551616).toNat).length = 8 := Lib.beBytes_length _ _
  go_wp2_with fail
  refine (d167 p g c D ko (((p1 ++ [byteOf 1]) ++ [byteOf 0]) ++ Lib.beBytes 8 (m % 18446744073709551616).toNat) (sBytes vo ++ rest) _ _ (by exact M4.out.rd) (by simp only [List.length_append, List.length_cons, List.length_nil]; omega) hgD).mono ?_
  rintro e w5 ⟨kv, rfl, hkv, hd5, hk5⟩
  obtain ⟨kA, kn, kc, rfl⟩ := nb_form hkv
  have M5 := Lib.hid ((M4.out.get hd5 hk5))
  have HKV := Lib.hid hkv
  clear hd5 hk5 hkv
  clear k0 k2 k3 k4 k6 k10 f0 f2 f3 f4 f6 f10
  obtain ⟨k0, k2, k3, k4, k6, k10, f0, f2, f3, f4, f6, f10⟩ := M5.out.msg.all11
  try simp only [List.set_cons_succ, List.set_cons_zero] at k0 k2 k3 k4 k6 k10
  go_wp2_with fail
  refine (d167 p g c D vo ((((p1 ++ [byteOf 1]) ++ [byteOf 0]) ++ Lib.beBytes 8 (m % 18446744073709551616).toNat) ++ sBytes ko) rest _ _ (by exact (M5.out.set_ 3 (.slice kA kn kc)).rd) (by simp only [List.length_append, List.length_cons, List.length_nil]; omega) hgD).mono ?_
  rintro e w6 ⟨vv, rfl, hvv, hd6, hk6⟩
  obtain ⟨vA, vn, vc, rfl⟩ := nb_form hvv
  have hkv6 := (M5.out.set_ 3 (.slice kA kn kc)).nb (M5.out.nb HKV.out ((Kept.refl B [r] _).setCell (p := ⟨r, 3, none⟩) (.inl (by simp)) (.slice kA kn kc)) (fun s hs => .inr (by simpa using hs))) hk6 (fun s hs => .inl (by simpa using hs))
  have M6 := Lib.hid ((M5.out.set_ 3 (.slice kA kn kc)).get hd6 hk6)
  have HV6 := Lib.hid (And.intro hkv6 hvv)
  clear hd6 hk6 hvv hkv6
  clear k0 k2 k3 k4 k6 k10 f0 f2 f3 f4 f6 f10
  obtain ⟨k0, k2, k3, k4, k6, k10, f0, f2, f3, f4, f6, f10⟩ := M6.out.msg.all11
  try simp only [List.set_cons_succ, List.set_cons_zero] at k0 k2 k3 k4 k6 k10
  have hslv := HV6.out.2.sl
  cases vo with
  | none =>
    obtain ⟨rfl, rfl, rfl⟩ : vA = none ∧ vn = 0 ∧ vc = 0 := by
      have h : (Value.slice vA vn vc) = .slice none 0 0 := hslv
      injection h with h1 h2 h3
      exact ⟨h1, h2, h3⟩
    clear hslv
    have M7 := Lib.hid ((M6.out.set_ 4 (.slice none 0 0)).set_ 10 (.int .i64 0))
    have hkW : Kept B [r] w6 ((w6.setCell ⟨r, 4, none⟩ (.slice none 0 0)).setCell ⟨r, 10, none⟩ (.int .i64 0)) := ((Kept.refl B [r] _).setCell (p := ⟨r, 4, none⟩) (.inl (by simp)) _).setCell (p := ⟨r, 10, none⟩) (.inl (by simp)) _
    have HV7 := Lib.hid (And.intro (M6.out.nb HV6.out.1 hkW (fun s hs => .inr (by simpa using hs))) (M6.out.nb HV6.out.2 hkW (fun s hs => .inr (by simpa using hs))))
    clear hkW
    go_wp2_with fail
    have hall : ((((p1 ++ [byteOf 1]) ++ [byteOf 0]) ++ Lib.beBytes 8 (m % 18446744073709551616).toNat) ++ sBytes ko) ++ sBytes none = pre ++ (sum4 body ++ body) := by
      rw [← HP1.out]
      conv => rhs; arg 2; arg 2; rw [HB.out]
      simp [tBytes]
    have hrd7 := M7.out.rd
    rw [hall] at hrd7
    have HRD := Lib.hid hrd7
    clear hall hrd7
    refine (dpop264 p g c w.heap.size pre body rest stk _ (by exact HRD.out) (by omega) (by exact M7.out.fld) (by omega) (by omega)).mono ?_
    rintro e w8 ⟨rfl, hd8, hk8⟩
    have hr8 := M7.out.msg.kept hk8 (by simpa using hpr) (.inr not120)
    have hF : RD B w8 p g c (pre ++ (sum4 body ++ body)) rest stk ∧ MsgAt w8 D r 1 false (secOf m) (nsecOf m) ko none true ∧ Kept B [p, r] w w8 :=
      ⟨hd8, ⟨_, _, _, _, hr8, M7.out.nb HV7.out.1 hk8 (fun s hs => .inl (by simpa using hs)), M7.out.nb HV7.out.2 hk8 (fun s hs => .inl (by simpa using hs)), rfl⟩, M7.out.kp.trans hk8 (fun x hx => .inl hx) (fun x hx => .inl (by simp at hx; simp [hx]))⟩
    have HF := Lib.hid hF
    clear hd8 hk8 hr8 hF k0 k2 k3 k4 k6 k10 f0 f2 f3 f4 f6 f10
    go_wp2
    refine leaves_cons (f := 139) (args := #[.pointer (some ⟨w.heap.size, 0, none⟩)]) (by simp) (by simp [go_sem]) ?_
    refine (r139 ⟨w.heap.size, 0, none⟩ .returning _).mono ?_
    rintro e u' w9 ⟨rfl, rfl, rfl⟩
    exact ⟨_, results_tmp rfl _ _ _, rfl, HF.out⟩
  | some l =>
    obtain ⟨a, rfl, rfl⟩ : ∃ a, vA = some a ∧ vn = l.length := by
      obtain ⟨a, c, h⟩ := hslv
      injection h with h1 h2 h3
      exact ⟨a, h1, h2⟩
    clear hslv
    have M7 := Lib.hid ((M6.out.set_ 4 (.slice (some a) l.length vc)).set_ 10 (.int .i64 l.length))
    have hkW : Kept B [r] w6 ((w6.setCell ⟨r, 4, none⟩ (.slice (some a) l.length vc)).setCell ⟨r, 10, none⟩ (.int .i64 l.length)) := ((Kept.refl B [r] _).setCell (p := ⟨r, 4, none⟩) (.inl (by simp)) _).setCell (p := ⟨r, 10, none⟩) (.inl (by simp)) _
    have HV7 := Lib.hid (And.intro (M6.out.nb HV6.out.1 hkW (fun s hs => .inr (by simpa using hs))) (M6.out.nb HV6.out.2 hkW (fun s hs => .inr (by simpa using hs))))
    clear hkW
    go_wp2_with fail
    have hall : ((((p1 ++ [byteOf 1]) ++ [byteOf 0]) ++ Lib.beBytes 8 (m % 18446744073709551616).toNat) ++ sBytes ko) ++ sBytes (some l) = pre ++ (sum4 body ++ body) := by
      rw [← HP1.out]
      conv => rhs; arg 2; arg 2; rw [HB.out]
      simp [tBytes]
    have hrd7 := M7.out.rd
    rw [hall] at hrd7
    have HRD := Lib.hid hrd7
    clear hall hrd7
    refine (dpop264 p g c w.heap.size pre body rest stk _ (by exact HRD.out) (by omega) (by exact M7.out.fld) (by omega) (by omega)).mono ?_
    rintro e w8 ⟨rfl, hd8, hk8⟩
    have hr8 := M7.out.msg.kept hk8 (by simpa using hpr) (.inr not120)
    have hF : RD B w8 p g c (pre ++ (sum4 body ++ body)) rest stk ∧ MsgAt w8 D r 1 false (secOf m) (nsecOf m) ko (some l) true ∧ Kept B [p, r] w w8 :=
      ⟨hd8, ⟨_, _, _, _, hr8, M7.out.nb HV7.out.1 hk8 (fun s hs => .inl (by simpa using hs)), M7.out.nb HV7.out.2 hk8 (fun s hs => .inl (by simpa using hs)), rfl⟩, M7.out.kp.trans hk8 (fun x hx => .inl hx) (fun x hx => .inl (by simp at hx; simp [hx]))⟩
    have HF := Lib.hid hF
    clear hd8 hk8 hr8 hF k0 k2 k3 k4 k6 k10 f0 f2 f3 f4 f6 f10
    go_wp2
    refine leaves_cons (f := 139) (args := #[.pointer (some ⟨w.heap.size, 0, none⟩)]) (by simp) (by simp [go_sem]) ?_
    refine (r139 ⟨w.heap.size, 0, none⟩ .returning _).mono ?_
    rintro e u' w9 ⟨rfl, rfl, rfl⟩
    exact ⟨_, results_tmp rfl _ _ _, rfl, HF.out⟩
end Go.Proofs.YtmiflkccfieefaaGreatDoor

/-
  A message is decoded: Message.decode.
-/
namespace Go.Proofs.YtmiflkccfieefaaGreatDoor
open Go.ChangeShapes Go.WideShapes Go.ChangeAt Go.RowKit
set_option maxRecDepth 100000
set_option linter.unusedVariables false
set_option linter.unusedSimpArgs false

set_option maxHeartbeats 4000000 in
theorem d153c {B : Nat} (p g c D r : Nat) (m : Int) (ko vo : NB) (pre rest : List UInt8) (stk : List Value) (w : World) (h : RD B w p g c pre (msgBytes 1 true (tBytes 1 m) ko vo ++ rest) stk) (hl : pre.length + rest.length ≤ 600000) (hko : ol ko ≤ 300) (hvo : ol vo ≤ 300) (hm : -1 ≤ m) (hm1 : m < 8796093022208) (hstk : stk.length ≤ 100) (hgD : g < D)
    (hr : Blk w r 120 [.int .i8 0, .int .i64 0, .bool false, .slice none 0 0, .slice none 0 0, .pointer none, .int .i8 0, .int .i64 0, .int .i64 0, .slice none 0 0, .int .i64 0]) :
    Calls Tryz.prog 153 #[.pointer (some ⟨r, 0, none⟩), .iface 171 (.pointer (some ⟨p, 0, none⟩))] w fun e w' => e = .returned .nilIface ∧ RD B w' p g c (pre ++ msgBytes 1 true (tBytes 1 m) ko vo) rest stk ∧ MsgAt w' D r 1 true (secOf m) (nsecOf m) ko vo true ∧ Kept B [p, r] w w' := by
  have hbl : (msgBody 1 true (tBytes 1 m) ko vo).length = 2 + ((tBytes 1 m).length + ((4 + ol ko) + (4 + ol vo))) := by
    have h1 := msgLen 1 true (tBytes 1 m) ko vo
    simp only [msgBytes, List.length_append, Lib.beBytes_length] at h1
    omega
  have htl : (tBytes 1 m).length ≤ 8 := by unfold tBytes; split <;> simp [Lib.beBytes_length]
  have hmb : msgBytes 1 true (tBytes 1 m) ko vo = sum4 (msgBody 1 true (tBytes 1 m) ko vo) ++ msgBody 1 true (tBytes 1 m) ko vo := rfl
  have hbody : msgBody 1 true (tBytes 1 m) ko vo = [byteOf 1] ++ ([byteOf 8] ++ ((tBytes 1 m) ++ (sBytes ko ++ sBytes vo))) := rfl
  rw [hmb] at h ⊢
  generalize hbv : msgBody 1 true (tBytes 1 m) ko vo = body at h hbl hbody ⊢
  have hs4 := sum4_len body
  have hsk := sBytes_le ko
  have hsv := sBytes_le vo
  have hpr := rd_ne h hr (by decide)
  have hrl := hr.lt
  have hb := h.base
  have hd0 := h.kept (S := []) ((Kept.refl _ _ _).alloc (.cells #[.int .i64 0, .int .i8 0] 288)) (fun s hs => by cases hs)
  have hq0 := Blk.new w 288 [.int .i64 0, .int .i8 0]
  have hr0 := hr.alloc (.cells #[.int .i64 0, .int .i8 0] 288)
  have hk0 : Kept B [p, r] w (w.alloc (.cells #[.int .i64 0, .int .i8 0] 288)) := (Kept.refl _ _ _).alloc _
  have hpl := h.lt
  rw [List.append_assoc] at hd0
  have H0 := Lib.hid (And.intro hd0 (And.intro hq0 (And.intro hr0 hk0)))
  have HB := Lib.hid hbody
  have HS4 := Lib.hid hs4
  have hs4' : (sum4 body).length ≤ 4 := by omega
  have heq := fun (W : World) (a : Option Addr) (l c : Nat) => run_neq_slice_nil_any (P := Tryz.prog) W 23 5 a l c 0 0 Tryz.underlying23
  have e1 : bits .and .i8 8 7 = 0 := by decide
  have e2 : bits .and .i8 8 8 = 8 := by decide
  clear h hr hd0 hq0 hr0 hk0 hs4 hbody hmb hbv
  go_enter_defers Tryz.func153, Tryz.ntmps153
  go_wp2_with (go_at_call 138; refine (a138 _).mono ?_; rintro e w1 ⟨rfl, rfl⟩)
  refine (dpush264 p g c w.heap.size 0 288 [.int .i64 0, .int .i8 0] (.int .i64 0) (sum4 body) pre (body ++ rest) stk _ (by exact H0.out.1) (by rw [List.length_append]; omega) HS4.out (by exact H0.out.2.1) (by decide) (by decide) (by decide) (by decide) rfl (by omega)).mono ?_
  rintro e w1 ⟨rfl, hd1, hq1, hk1⟩
  have hr1 := H0.out.2.2.1.kept hk1 (by simp; omega) (.inr not120)
  have hms1 : MS B w w1 p g c w.heap.size r (pre ++ sum4 body) (body ++ rest) (stk ++ [Value.iface 264 (.pointer (some ⟨w.heap.size, 0, none⟩))]) pre.length [.int .i8 0, .int .i64 0, .bool false, .slice none 0 0, .slice none 0 0, .pointer none, .int .i8 0, .int .i64 0, .int .i64 0, .slice none 0 0, .int .i64 0] :=
    ⟨hd1, hq1, hr1, H0.out.2.2.2.trans hk1 (fun x hx => .inl hx) (fun x hx => by
      simp at hx
      rcases hx with rfl | rfl
      · exact .inl (by simp)
      · exact .inr (Nat.le_refl _))⟩
  have M1 := Lib.hid hms1
  clear hd1 hq1 hk1 hr1 hms1
  have hpl1 : (pre ++ sum4 body).length = pre.length + 4 := by rw [List.length_append, HS4.out]
  have HPL := Lib.hid hpl1
  have hpl1' : (pre ++ sum4 body).length ≤ pre.length + 4 := by omega
  clear hpl1
  generalize hp1 : pre ++ sum4 body = p1 at M1 HPL hpl1'
  have HP1 := Lib.hid hp1
  clear hp1
  go_wp2_with fail
  refine (d171 p g c 1 p1 ([byteOf 8] ++ ((tBytes 1 m) ++ (sBytes ko ++ (sBytes vo ++ rest)))) _ _ (by have h := M1.out.rd; rw [HB.out] at h; simpa using h) (by simp only [List.length_append, List.length_cons, List.length_nil]; omega) (by omega) (by omega)).mono ?_
  rintro e w2 ⟨rfl, hd2, hk2⟩
  have M2 := Lib.hid (M1.out.get hd2 hk2)
  clear hd2 hk2
  obtain ⟨k0, k2, k3, k4, k6, k10, f0, f2, f3, f4, f6, f10⟩ := M2.out.msg.all11
  go_wp2_with fail
  refine (d171 p g c 8 (p1 ++ [byteOf 1]) ((tBytes 1 m) ++ (sBytes ko ++ (sBytes vo ++ rest))) _ _ (by exact (M2.out.set_ 6 (.int .i8 1)).rd) (by simp only [List.length_append, List.length_cons, List.length_nil]; omega) (by omega) (by omega)).mono ?_
  rintro e w3 ⟨rfl, hd3, hk3⟩
  have M3 := Lib.hid ((M2.out.set_ 6 (.int .i8 1)).get hd3 hk3)
  clear hd3 hk3
  clear k0 k2 k3 k4 k6 k10 f0 f2 f3 f4 f6 f10
  obtain ⟨k0, k2, k3, k4, k6, k10, f0, f2, f3, f4, f6, f10⟩ := M3.out.msg.all11
  try simp only [List.set_cons_succ, List.set_cons_zero] at k6
  go_wp2_with fail
  refine (t140 p g c r _ _ _ m ((p1 ++ [byteOf 1]) ++ [byteOf 8]) (sBytes ko ++ (sBytes vo ++ rest)) _ _ (by have h := ((M3.out.set_ 0 (.int .i8 0)).set_ 2 (.bool true)).rd; simpa [tBytes] using h) (by simp only [List.length_append, List.length_cons, List.length_nil]; omega) (by exact ((M3.out.set_ 0 (.int .i8 0)).set_ 2 (.bool true)).msg) rfl rfl hm hm1).mono ?_
  rintro e w4 ⟨rfl, hd4, hb4, hk4⟩
  have M4 := Lib.hid (((M3.out.set_ 0 (.int .i8 0)).set_ 2 (.bool true)).time hd4 hb4 hk4)
  clear hd4 hb4 hk4
  clear k0 k2 k3 k4 k6 k10 f0 f2 f3 f4 f6 f10
  obtain ⟨k0, k2, k3, k4, k6, k10, f0, f2, f3, f4, f6, f10⟩ := M4.out.msg.all11
  try simp only [List.set_cons_succ, List.set_cons_zero] at k0 k2 k3 k4 k6 k10
  have htb : (Lib.beBytes 8 (m % 18446744073709551616).toNat).length = 8 := Lib.beBytes_length _ _
  go_wp2_with fail
  refine (d167 p g c D ko (((p1 ++ [byteOf 1]) ++ [byteOf 8]) ++ Lib.beBytes 8 (m % 18446744073709551616).toNat) (sBytes vo ++ rest) _ _ (by exact M4.out.rd) (by simp only [List.length_append, List.length_cons, List.length_nil]; omega) hgD).mono ?_
  rintro e w5 ⟨kv, rfl, hkv, hd5, hk5⟩
  obtain ⟨kA, kn, kc, rfl⟩ := nb_form hkv
  have M5 := Lib.hid ((M4.out.get hd5 hk5))
  have HKV := Lib.hid hkv
  clear hd5 hk5 hkv
  clear k0 k2 k3 k4 k6 k10 f0 f2 f3 f4 f6 f10
  obtain ⟨k0, k2, k3, k4, k6, k10, f0, f2, f3, f4, f6, f10⟩ := M5.out.msg.all11
  try simp only [List.set_cons_succ, List.set_cons_zero] at k0 k2 k3 k4 k6 k10
  go_wp2_with fail
  refine (d167 p g c D vo ((((p1 ++ [byteOf 1]) ++ [byteOf 8]) ++ Lib.beBytes 8 (m % 18446744073709551616).toNat) ++ sBytes ko) rest _ _ (by exact (M5.out.set_ 3 (.slice kA kn kc)).rd) (by simp only [List.length_append, List.length_cons, List.length_nil]; omega) hgD).mono ?_
  rintro e w6 ⟨vv, rfl, hvv, hd6, hk6⟩
  obtain ⟨vA, vn, vc, rfl⟩ := nb_form hvv
  have hkv6 := (M5.out.set_ 3 (.slice kA kn kc)).nb (M5.out.nb HKV.out ((Kept.refl B [r] _).setCell (p := ⟨r, 3, none⟩) (.inl (by simp)) (.slice kA kn kc)) (fun s hs => .inr (by simpa using hs))) hk6 (fun s hs => .inl (by simpa using hs))
  have M6 := Lib.hid ((M5.out.set_ 3 (.slice kA kn kc)).get hd6 hk6)
  have HV6 := Lib.hid (And.intro hkv6 hvv)
  clear hd6 hk6 hvv hkv6
  clear k0 k2 k3 k4 k6 k10 f0 f2 f3 f4 f6 f10
  obtain ⟨k0, k2, k3, k4, k6, k10, f0, f2, f3, f4, f6, f10⟩ := M6.out.msg.all11
  try simp only [List.set_cons_succ, List.set_cons_zero] at k0 k2 k3 k4 k6 k10
  have hslv := HV6.out.2.sl
  cases vo with
  | none =>
    obtain ⟨rfl, rfl, rfl⟩ : vA = none ∧ vn = 0 ∧ vc = 0 := by
      have h : (Value.slice vA vn vc) = .slice none 0 0 := hslv
      injection h with h1 h2 h3
      exact ⟨h1, h2, h3⟩
    clear hslv
    have M7 := Lib.hid ((M6.out.set_ 4 (.slice none 0 0)).set_ 10 (.int .i64 0))
    have hkW : Kept B [r] w6 ((w6.setCell ⟨r, 4, none⟩ (.slice none 0 0)).setCell ⟨r, 10, none⟩ (.int .i64 0)) := ((Kept.refl B [r] _).setCell (p := ⟨r, 4, none⟩) (.inl (by simp)) _).setCell (p := ⟨r, 10, none⟩) (.inl (by simp)) _
    have HV7 := Lib.hid (And.intro (M6.out.nb HV6.out.1 hkW (fun s hs => .inr (by simpa using hs))) (M6.out.nb HV6.out.2 hkW (fun s hs => .inr (by simpa using hs))))
    clear hkW
    go_wp2_with fail
    have hall : ((((p1 ++ [byteOf 1]) ++ [byteOf 8]) ++ Lib.beBytes 8 (m % 18446744073709551616).toNat) ++ sBytes ko) ++ sBytes none = pre ++ (sum4 body ++ body) := by
      rw [← HP1.out]
      conv => rhs; arg 2; arg 2; rw [HB.out]
      simp [tBytes]
    have hrd7 := M7.out.rd
    rw [hall] at hrd7
    have HRD := Lib.hid hrd7
    clear hall hrd7
    refine (dpop264 p g c w.heap.size pre body rest stk _ (by exact HRD.out) (by omega) (by exact M7.out.fld) (by omega) (by omega)).mono ?_
    rintro e w8 ⟨rfl, hd8, hk8⟩
    have hr8 := M7.out.msg.kept hk8 (by simpa using hpr) (.inr not120)
    have hF : RD B w8 p g c (pre ++ (sum4 body ++ body)) rest stk ∧ MsgAt w8 D r 1 true (secOf m) (nsecOf m) ko none true ∧ Kept B [p, r] w w8 :=
      ⟨hd8, ⟨_, _, _, _, hr8, M7.out.nb HV7.out.1 hk8 (fun s hs => .inl (by simpa using hs)), M7.out.nb HV7.out.2 hk8 (fun s hs => .inl (by simpa using hs)), rfl⟩, M7.out.kp.trans hk8 (fun x hx => .inl hx) (fun x hx => .inl (by simp at hx; simp [hx]))⟩
    have HF := Lib.hid hF
    clear hd8 hk8 hr8 hF k0 k2 k3 k4 k6 k10 f0 f2 f3 f4 f6 f10
    go_wp2
    refine leaves_cons (f := 139) (args := #[.pointer (some ⟨w.heap.size, 0, none⟩)]) (by simp) (by simp [go_sem]) ?_
    refine (r139 ⟨w.heap.size, 0, none⟩ .returning _).mono ?_
    rintro e u' w9 ⟨rfl, rfl, rfl⟩
    exact ⟨_, results_tmp rfl _ _ _, rfl, HF.out⟩
  | some l =>
    obtain ⟨a, rfl, rfl⟩ : ∃ a, vA = some a ∧ vn = l.length := by
      obtain ⟨a, c, h⟩ := hslv
      injection h with h1 h2 h3
      exact ⟨a, h1, h2⟩
    clear hslv
    have M7 := Lib.hid ((M6.out.set_ 4 (.slice (some a) l.length vc)).set_ 10 (.int .i64 l.length))
    have hkW : Kept B [r] w6 ((w6.setCell ⟨r, 4, none⟩ (.slice (some a) l.length vc)).setCell ⟨r, 10, none⟩ (.int .i64 l.length)) := ((Kept.refl B [r] _).setCell (p := ⟨r, 4, none⟩) (.inl (by simp)) _).setCell (p := ⟨r, 10, none⟩) (.inl (by simp)) _
    have HV7 := Lib.hid (And.intro (M6.out.nb HV6.out.1 hkW (fun s hs => .inr (by simpa using hs))) (M6.out.nb HV6.out.2 hkW (fun s hs => .inr (by simpa using hs))))
    clear hkW
    go_wp2_with fail
    have hall : ((((p1 ++ [byteOf 1]) ++ [byteOf 8]) ++ Lib.beBytes 8 (m % 18446744073709551616).toNat) ++ sBytes ko) ++ sBytes (some l) = pre ++ (sum4 body ++ body) := by
      rw [← HP1.out]
      conv => rhs; arg 2; arg 2; rw [HB.out]
      simp [tBytes]
    have hrd7 := M7.out.rd
    rw [hall] at hrd7
    have HRD := Lib.hid hrd7
    clear hall hrd7
    refine (dpop264 p g c w.heap.size pre body rest stk _ (by exact HRD.out) (by omega) (by exact M7.out.fld) (by omega) (by omega)).mono ?_
    rintro e w8 ⟨rfl, hd8, hk8⟩
    have hr8 := M7.out.msg.kept hk8 (by simpa using hpr) (.inr not120)
    have hF : RD B w8 p g c (pre ++ (sum4 body ++ body)) rest stk ∧ MsgAt w8 D r 1 true (secOf m) (nsecOf m) ko (some l) true ∧ Kept B [p, r] w w8 :=
      ⟨hd8, ⟨_, _, _, _, hr8, M7.out.nb HV7.out.1 hk8 (fun s hs => .inl (by simpa using hs)), M7.out.nb HV7.out.2 hk8 (fun s hs => .inl (by simpa using hs)), rfl⟩, M7.out.kp.trans hk8 (fun x hx => .inl hx) (fun x hx => .inl (by simp at hx; simp [hx]))⟩
    have HF := Lib.hid hF
    clear hd8 hk8 hr8 hF k0 k2 k3 k4 k6 k10 f0 f2 f3 f4 f6 f10
    go_wp2
    refine leaves_cons (f := 139) (args := #[.pointer (some ⟨w.heap.size, 0, none⟩)]) (by simp) (by simp [go_sem]) ?_
    refine (r139 ⟨w.heap.size, 0, none⟩ .returning _).mono ?_
    rintro e u' w9 ⟨rfl, rfl, rfl⟩
    exact ⟨_, results_tmp rfl _ _ _, rfl, HF.out⟩
end Go.Proofs.YtmiflkccfieefaaGreatDoor

/-
  A block of a message set is decoded: MessageBlock.decode.
-/
namespace Go.Proofs.YtmiflkccfieefaaGreatDoor
open Go.ChangeShapes Go.WideShapes Go.ChangeAt Go.RowKit
set_option maxRecDepth 100000
set_option linter.unusedVariables false
set_option linter.unusedSimpArgs false

theorem d153 {B : Nat} (p g c D r : Nat) (ver : Int) (la : Bool) (m : Int) (ko vo : NB) (pre rest : List UInt8) (stk : List Value) (w : World) (h : RD B w p g c pre (msgBytes ver la (tBytes ver m) ko vo ++ rest) stk) (hl : pre.length + rest.length ≤ 600000) (hok : MOk ver la m ko vo) (hstk : stk.length ≤ 100) (hgD : g < D)
    (hr : Blk w r 120 [.int .i8 0, .int .i64 0, .bool false, .slice none 0 0, .slice none 0 0, .pointer none, .int .i8 0, .int .i64 0, .int .i64 0, .slice none 0 0, .int .i64 0]) :
    Calls Tryz.prog 153 #[.pointer (some ⟨r, 0, none⟩), .iface 171 (.pointer (some ⟨p, 0, none⟩))] w fun e w' => e = .returned .nilIface ∧ RD B w' p g c (pre ++ msgBytes ver la (tBytes ver m) ko vo) rest stk ∧ MsgAt w' D r ver la (secOf m) (nsecOf m) ko vo true ∧ Kept B [p, r] w w' := by
  obtain ⟨hv, hm0, hm1, hk, hvo⟩ := hok
  rcases hv with ⟨rfl, hm, rfl⟩ | rfl
  · exact d153a p g c D r m ko vo pre rest stk w h hl hk hvo hm hstk hgD hr
  · cases la
    · exact d153b p g c D r m ko vo pre rest stk w h hl hk hvo hm0 hm1 hstk hgD hr
    · exact d153c p g c D r m ko vo pre rest stk w h hl hk hvo hm0 hm1 hstk hgD hr
theorem a159 (w : World) : Calls Tryz.prog 159 #[] w fun e w' => e = .returned (.pointer (some ⟨w.heap.size, 0, none⟩)) ∧ w.alloc (.cells #[.int .i64 0, .int .i32 0] 279) = w' := by
  go_enter Tryz.func159, Tryz.ntmps159
  go_wp2
  go_ret
  exact ⟨rfl, rfl⟩
theorem Blk.len_ {W : World} {p t : Nat} {cs ds : List Value} (h : Blk W p t cs) : cs.length = cs.length := rfl

set_option maxHeartbeats 4000000 in
theorem d158 {B : Nat} (p g c D q : Nat) (off ver : Int) (la : Bool) (m : Int) (ko vo : NB) (pre rest : List UInt8) (stk : List Value) (w : World) (h : RD B w p g c pre (blkBytes off ver la m ko vo ++ rest) stk) (hl : pre.length + rest.length ≤ 500000) (hok : MOk ver la m ko vo) (hstk : stk.length ≤ 50) (hgD : g < D)
    (ho0 : -9223372036854775808 ≤ off) (ho1 : off ≤ 9223372036854775807) (hq : Blk w q 146 [.int .i64 0, .pointer none]) :
    Calls Tryz.prog 158 #[.pointer (some ⟨q, 0, none⟩), .iface 171 (.pointer (some ⟨p, 0, none⟩))] w fun e w' => e = .returned .nilIface ∧ ∃ r, RD B w' p g c (pre ++ blkBytes off ver la m ko vo) rest stk ∧ BlkAt w' D q r off ver la m ko vo true ∧ w.heap.size ≤ r ∧ Kept B [p, q] w w' := by
  have hml := hok.len
  have hbb : blkBytes off ver la m ko vo = Lib.beBytes 8 (off % 18446744073709551616).toNat ++ (b4 (msgBytes ver la (tBytes ver m) ko vo).length ++ msgBytes ver la (tBytes ver m) ko vo) := by
    have : ((msgBytes ver la (tBytes ver m) ko vo).length : Int) % 4294967296 = (msgBytes ver la (tBytes ver m) ko vo).length := by omega
    simp only [blkBytes, b4, this, Int.toNat_natCast]
  rw [hbb] at h ⊢
  clear hbb
  have hfun := fun (b : Nat) (pre2 : List UInt8) (stk2 : List Value) (W : World) (hW : RD b W p g c pre2 (msgBytes ver la (tBytes ver m) ko vo ++ rest) stk2) (h1 : pre2.length + rest.length ≤ 600000) (h2 : stk2.length ≤ 100) (r : Nat) (hr : Blk W r 120 [.int .i8 0, .int .i64 0, .bool false, .slice none 0 0, .slice none 0 0, .pointer none, .int .i8 0, .int .i64 0, .int .i64 0, .slice none 0 0, .int .i64 0]) => d153 p g c D r ver la m ko vo pre2 rest stk2 W hW h1 hok h2 hgD hr
  generalize hmv : msgBytes ver la (tBytes ver m) ko vo = M at h hml hfun ⊢
  clear hmv
  have HF153 := Lib.hid hfun
  clear hfun
  generalize ho8 : Lib.beBytes 8 (off % 18446744073709551616).toNat = o8 at h ⊢
  have ho8l : o8.length = 8 := by rw [← ho8]; exact Lib.beBytes_length _ _
  have hd170 := fun (pre2 rest2 : List UInt8) (W : World) (hW : RD B W p g c pre2 (o8 ++ rest2) stk) (hl : pre2.length + rest2.length ≤ 1000000) => d170 p g c off pre2 rest2 stk W (by rw [ho8]; exact hW) hl ho0 ho1
  rw [ho8] at hd170
  have H170 := Lib.hid hd170
  clear hd170
  have hpq := rd_ne h hq (by decide)
  have hqw := hq.lt
  have hpw := h.lt
  have hb := h.base
  have c0 := hq.cell 0
  simp only [List.getElem?_cons_zero] at c0
  have H0 := Lib.hid (And.intro h hq)
  have HO := Lib.hid (And.intro ho8l ho8)
  clear h hq ho8l ho8
  go_enter_defers Tryz.func158, Tryz.ntmps158
  go_wp2_with fail
  refine (H170.out pre (b4 M.length ++ (M ++ rest)) _ (by have h := H0.out.1; simpa using h) (by simp only [List.length_append, b4_len]; omega)).mono ?_
  rintro e w1 ⟨rfl, hd1, hk1⟩
  have hq1 := H0.out.2.kept hk1 (by simpa using hpq) (.inr not146)
  have hq2 := hq1.set_ 0 (.int .i64 off)
  simp only [List.set_cons_zero] at hq2
  have hd2 := hd1.kept (S := [q]) ((Kept.refl _ _ _).setCell (p := ⟨q, 0, none⟩) (.inl (by simp)) (.int .i64 off)) (fun s hs => by
    have : s = q := by simpa using hs
    subst this
    exact ⟨_, _, hq1, by decide, by decide, by decide⟩)
  have hk2 : Kept B [p, q] w (w1.setCell ⟨q, 0, none⟩ (.int .i64 off)) := (hk1.mono (S' := [p, q]) (Nat.le_refl _) (fun x hx => .inl (by simp at hx; simp [hx]))).setCell (p := ⟨q, 0, none⟩) (.inl (by simp)) _
  have hf1 := hq1.frozen 0
  have c0 := hq1.cell 0
  simp only [List.getElem?_cons_zero] at c0
  have hs2 : w.heap.size ≤ w1.heap.size := hk1.size
  generalize hW2 : w1.setCell ⟨q, 0, none⟩ (.int .i64 off) = w2 at hd2 hq2 hk2
  have hsz2 : w2.heap.size = w1.heap.size := by rw [← hW2]; simp [World.setCell]
  have H2 := Lib.hid (And.intro hd2 (And.intro hq2 hk2))
  have HW2 := Lib.hid hW2
  clear hd1 hk1 hq1 hq2 hd2 hk2 hW2
  go_wp2_with (rw [HW2.out]; go_at_call 159; refine (a159 _).mono ?_; rintro e w3 ⟨rfl, rfl⟩)
  have hd3 := H2.out.1.kept (S := []) ((Kept.refl _ _ _).alloc (.cells #[.int .i64 0, .int .i32 0] 279)) (fun s hs => by cases hs)
  have hl3 := Blk.new w2 279 [.int .i64 0, .int .i32 0]
  rw [hsz2] at hl3
  refine (dpush277 p g c w1.heap.size 0 279 [.int .i64 0, .int .i32 0] (.int .i64 0) (.int .i32 0) M.length (pre ++ o8) (M ++ rest) stk _ (by exact hd3) (by simp only [List.length_append]; have := HO.out.1; omega) (by omega) (by simp only [List.length_append]; omega) (by exact hl3) (by decide) (by decide) (by decide) (by decide) rfl rfl (by omega)).mono ?_
  rintro e w3 ⟨rfl, hd4, hl4, hk4⟩
  simp only [List.set_cons_zero, List.set_cons_succ] at hl4
  have hqn : q ∉ [p, w1.heap.size] := by simp; omega
  have hq4 := (H2.out.2.1.alloc (.cells #[.int .i64 0, .int .i32 0] 279)).kept hk4 hqn (.inr not146)
  have hk04 : Kept B [p, q] w w3 := (H2.out.2.2.alloc (.cells #[.int .i64 0, .int .i32 0] 279)).trans hk4 (fun x hx => .inl hx) (fun x hx => by
    simp at hx
    rcases hx with rfl | rfl
    · exact .inl (by simp)
    · exact .inr hs2)
  have hs3 : w.heap.size ≤ w3.heap.size := hk04.size
  have hd5a := hd4.kept (S := [q]) ((Kept.refl _ _ _).setCell (p := ⟨q, 1, none⟩) (.inl (by simp)) (.pointer (some ⟨w3.heap.size, 0, none⟩))) (fun s hs => by
    have : s = q := by simpa using hs
    subst this
    exact ⟨_, _, hq4, by decide, by decide, by decide⟩)
  have hqn1 : w1.heap.size ≠ q := by omega
  have hl5a := hl4.far (p := ⟨q, 1, none⟩) hqn1 (.pointer (some ⟨w3.heap.size, 0, none⟩))
  have hq5a := hq4.set_ 1 (.pointer (some ⟨w3.heap.size, 0, none⟩))
  simp only [List.set_cons_zero, List.set_cons_succ] at hq5a
  have hk5a := hk04.setCell (p := ⟨q, 1, none⟩) (.inl (by simp)) (.pointer (some ⟨w3.heap.size, 0, none⟩))
  have hd5 := hd5a.kept (S := []) ((Kept.refl _ _ _).alloc (.cells #[.int .i8 0, .int .i64 0, .bool false, .slice none 0 0, .slice none 0 0, .pointer none, .int .i8 0, .int .i64 0, .int .i64 0, .slice none 0 0, .int .i64 0] 120)) (fun s hs => by cases hs)
  have hm5 := Blk.new (w3.setCell ⟨q, 1, none⟩ (.pointer (some ⟨w3.heap.size, 0, none⟩))) 120 [.int .i8 0, .int .i64 0, .bool false, .slice none 0 0, .slice none 0 0, .pointer none, .int .i8 0, .int .i64 0, .int .i64 0, .slice none 0 0, .int .i64 0]
  have hsz3 : (w3.setCell ⟨q, 1, none⟩ (.pointer (some ⟨w3.heap.size, 0, none⟩))).heap.size = w3.heap.size := by simp [World.setCell]
  rw [hsz3] at hm5
  have hl5 := hl5a.alloc (.cells #[.int .i8 0, .int .i64 0, .bool false, .slice none 0 0, .slice none 0 0, .pointer none, .int .i8 0, .int .i64 0, .int .i64 0, .slice none 0 0, .int .i64 0] 120)
  have hq5 := hq5a.alloc (.cells #[.int .i8 0, .int .i64 0, .bool false, .slice none 0 0, .slice none 0 0, .pointer none, .int .i8 0, .int .i64 0, .int .i64 0, .slice none 0 0, .int .i64 0] 120)
  have hk5 := hk5a.alloc (.cells #[.int .i8 0, .int .i64 0, .bool false, .slice none 0 0, .slice none 0 0, .pointer none, .int .i8 0, .int .i64 0, .int .i64 0, .slice none 0 0, .int .i64 0] 120)
  have c1 := hq4.cell 1
  have f1 := hq4.frozen 1
  simp only [List.getElem?_cons_zero, List.getElem?_cons_succ] at c1
  have hqw3 := hq4.lt
  have H5 := Lib.hid (And.intro hd5 (And.intro hm5 (And.intro hl5 (And.intro hq5 hk5))))
  have hlw3 := hl4.lt
  have hpw3 := hd4.lt
  clear hd3 hl3 hd4 hl4 hk4 hq4 hk04 hd5 hm5 hl5 hq5 hk5 hqn hd5a hl5a hq5a hk5a hqn1 hsz3
  go_wp2_with fail
  refine (HF153.out _ ((pre ++ o8) ++ b4 M.length) _ _ (by exact H5.out.1) (by simp only [List.length_append, b4_len]; have := HO.out.1; omega) (by simp; omega) _ (by exact H5.out.2.1)).mono ?_
  rintro e w6 ⟨rfl, hd6, hM6, hk6⟩
  have hq6 := H5.out.2.2.2.1.kept hk6 (by simp; omega) (.inr not146)
  have hl6 := H5.out.2.2.1.kept hk6 (by simp; omega) (.inr not279)
  have hk06 := H5.out.2.2.2.2.trans hk6 (fun x hx => .inl hx) (fun x hx => by
    simp at hx
    rcases hx with rfl | rfl
    · exact .inl (by simp)
    · exact .inr hs3)
  have H6 := Lib.hid (And.intro hd6 (And.intro hM6 (And.intro hq6 (And.intro hl6 hk06))))
  clear hd6 hM6 hk6 hq6 hl6 hk06
  go_wp2_with fail
  have hrd := H6.out.1
  have hal : (pre ++ o8) ++ b4 M.length ++ M = (pre ++ o8) ++ (b4 M.length ++ M) := by simp
  rw [hal] at hrd
  clear hal
  have HRD := Lib.hid hrd
  clear hrd
  refine (dpop277 p g c w1.heap.size 0 279 M.length [.int .i64 (pre ++ o8).length, .int .i32 M.length] (pre ++ o8) M rest stk _ (by exact HRD.out) (by omega) (by exact H6.out.2.2.2.1) rfl rfl rfl (by simp only [List.length_append]; have := HO.out.1; omega) (by decide) (by decide)).mono ?_
  rintro e w8 ⟨rfl, hd8, hk8⟩
  have hF : ∃ r, RD B w8 p g c (pre ++ (o8 ++ (b4 M.length ++ M))) rest stk ∧ BlkAt w8 D q r off ver la m ko vo true ∧ w.heap.size ≤ r ∧ Kept B [p, q] w w8 :=
    ⟨w3.heap.size, by simpa using hd8, ⟨H6.out.2.2.1.kept hk8 (by simpa using hpq) (.inr not146), MsgAt.kept H6.out.2.1 hk8 (fun s hs => by
      have : s = p := by simpa using hs
      subst this
      obtain ⟨_, sv, hp, _⟩ := H6.out.1
      exact .inr ⟨174, _, by decide, hp⟩) (by simp; omega)⟩, hs3, H6.out.2.2.2.2.trans hk8 (fun x hx => .inl hx) (fun x hx => .inl (by simp at hx; simp [hx]))⟩
  have HF := Lib.hid hF
  clear hd8 hk8 hF
  go_wp2
  refine leaves_cons (f := 160) (args := #[.pointer (some ⟨w1.heap.size, 0, none⟩)]) (by simp) (by simp [go_sem]) ?_
  refine (r160 ⟨w1.heap.size, 0, none⟩ .returning _).mono ?_
  rintro e u' w9 ⟨rfl, rfl, rfl⟩
  exact ⟨_, results_tmp rfl _ _ _, rfl, HF.out⟩
end Go.Proofs.YtmiflkccfieefaaGreatDoor
