/-
  The decoder takes a field on its stack, and off it: three kinds of fields.
-/
import Derived.Test.YtmiflkccfieefaaGreatDoorDec
namespace Go.Proofs.YtmiflkccfieefaaGreatDoor
open Go.ChangeShapes Go.WideShapes Go.ChangeAt Go.RowKit
set_option maxRecDepth 100000
set_option linter.unusedVariables false
set_option linter.unusedSimpArgs false

theorem info314 : (Tryz.prog.info? 314).map (fun i => (i.zero, i.size, i.bytes)) = some (some .nilIface, 1, 16) := by kernel_rfl
theorem kept_grown314 {B n : Nat} {S : List Nat} {a b c : World} {o : Obj} {sv : Value} {xs : List Value} (h : Kept B S a b) (hg : (b.alloc o).grownBy c sv.ownBlock) (hown : b.ownsRow B 314 1 sv n xs) : Kept B S a c := by
  refine ⟨hg.os.trans h.os, hg.tape.trans h.tape, hg.output.trans h.output, Nat.le_trans h.size (Nat.le_trans (by simp) hg.size), fun i hi hn hst => ?_⟩
  have hib : i < b.heap.size := Nat.lt_of_lt_of_le hi h.size
  have hb := h.block i hi hn hst
  refine (hg.block i (by simp; omega) ?_).trans ((Below.heap_alloc b o i hib).trans hb)
  intro e
  rcases hown.2 with ⟨rfl, _⟩ | ⟨g, cap, cur, rfl, hBg, hgg, _⟩
  · simp [Value.ownBlock] at e
  · have : i = g := by simpa [Value.ownBlock] using e
    subst this
    rcases hst with hlt | hst
    · omega
    · exact hst _ _ _ (hb ▸ hgg) (.inr rfl)
/-- The last steps of push: the field is appended, and so many bytes are passed by. -/
theorem d262 {B : Nat} (p g c r o tr : Nat) (cs : List Value) (u : Value) (x : Int) (pre rest : List UInt8) (stk : List Value) (w : World) (h : RD B w p g c pre (vb x ++ rest) stk) (hl : pre.length + rest.length ≤ 1000000) (hx0 : -9223372036854775808 ≤ x) (hx1 : x ≤ 9223372036854775807)
    (hr : Blk w r tr cs) (h174 : tr ≠ 174) (h314 : tr ≠ 314) (h5 : tr ≠ 5) (h323 : tr ≠ 323) (hc : cs[o + 1]? = some u) :
    Calls Tryz.prog 262 #[.pointer (some ⟨r, o, none⟩), .iface 171 (.pointer (some ⟨p, 0, none⟩))] w fun e w' => e = .returned .nilIface ∧ RD B w' p g c (pre ++ vb x) rest stk ∧ Blk w' r tr (cs.set (o + 1) (.int .i64 x)) ∧ Kept B [p, r] w w' := by
  have hpr : r ≠ p := by
    obtain ⟨_, sv, hp, _⟩ := h
    exact hr.ne_ hp h174
  have hst : ¬ stackT tr := fun h => by rcases h with h | h; exact h323 h; exact h314 h
  have H := Lib.hid (And.intro h hr)
  clear h hr
  go_enter Tryz.func262, Tryz.ntmps262
  go_wp2_with fail
  refine (d173 p g c x pre rest stk _ (by exact H.out.1) hl hx0 hx1).mono ?_
  rintro e w1 ⟨rfl, hd, hk⟩
  have hr1 := H.out.2.kept hk (by simpa using hpr) (.inr hst)
  have hc1 : w1.cell? ⟨r, o + 1, none⟩ = some u := (hr1.cell _).trans hc
  have hf1 := hr1.frozen (o + 1)
  have hb := H.out.1.base
  have HF := Lib.hid (show RD B (w1.setCell ⟨r, o + 1, none⟩ (.int .i64 x)) p g c (pre ++ vb x) rest stk ∧ Blk (w1.setCell ⟨r, o + 1, none⟩ (.int .i64 x)) r tr (cs.set (o + 1) (.int .i64 x)) ∧ Kept B [p, r] w (w1.setCell ⟨r, o + 1, none⟩ (.int .i64 x)) from
    ⟨hd.kept ((Kept.refl _ _ _).setCell (p := ⟨r, o + 1, none⟩) (S := [r]) (.inl (by simp)) _) (fun s hs => by
      have : s = r := by simpa using hs
      subst this
      exact ⟨_, _, hr1, h5, h174, h314⟩), hr1.set_ _ _, (hk.mono (Nat.le_refl _) (fun y hy => .inl (by simp at hy ⊢; exact .inl hy))).setCell (p := ⟨r, o + 1, none⟩) (.inl (by simp)) _⟩)
  clear hd hk hr1
  go_wp2
  go_ret
  exact ⟨rfl, HF.out⟩

/-- Behind the append and its store. -/
theorem rd_pushed {B : Nat} {w w3 w4 : World} {p g c : Nat} {pre rest : List UInt8} {stk : List Value} {sv v' x : Value} {S : List Nat} (hBp : B ≤ p)
    (hp3 : Blk w3 p 174 [.slice (some ⟨g, 0, none⟩) (pre.length + rest.length) c, .int .i64 pre.length, sv]) (hr3 : RawAt w3 g c (pre ++ rest)) (hown3 : w3.ownsRow B 314 1 sv stk.length stk) {o : Obj}
    (hg4 : (w3.alloc o).grownBy w4 sv.ownBlock) (hown4 : w4.ownsRow B 314 1 v' (stk.length + 1) (stk ++ [x])) (hk3 : Kept B S w w3) (hpS : p ∈ S) :
    Blk w4 p 174 [.slice (some ⟨g, 0, none⟩) (pre.length + rest.length) c, .int .i64 pre.length, sv] ∧ RD B (w4.setCell ⟨p, 2, none⟩ v') p g c pre rest (stk ++ [x]) ∧
      Kept B S w (w4.setCell ⟨p, 2, none⟩ v') ∧ ∀ r tr cs, Blk w3 r tr cs → tr ≠ 314 → r ≠ p → Blk (w4.setCell ⟨p, 2, none⟩ v') r tr cs := by
  have hp4 := (hg4.block p (by have := hp3.lt; simp; omega) (fun e => own_ne hown3 hp3 (by decide) e.symm)).trans (hp3.alloc o)
  have hgp := hr3.ne hp3 (by decide)
  refine ⟨hp4, ⟨hBp, v', Blk.set_ hp4 2 v', ?_, ?_⟩, ?_, ?_⟩
  · refine hr3.block ?_
    rw [Below.heap_setCell w4 ⟨p, 2, none⟩ v' g hgp]
    have e1 := Below.heap_alloc w3 o g hr3.lt
    rw [← e1]
    refine hg4.block g (by have := hr3.lt; simp; omega) (fun e => ?_)
    obtain ⟨C, f, hC, _⟩ := hr3
    rcases hown3.2 with ⟨rfl, _⟩ | ⟨g', cap, cur, rfl, hBg, hgg, _⟩
    · simp [Value.ownBlock] at e
    · have : g = g' := by simpa [Value.ownBlock] using e
      subst this
      rw [hgg] at hC
      injection hC with hC
      injection hC with _ hC
      exact absurd hC (by decide)
  · rw [List.length_append]
    exact own_kept hown4 ((Kept.refl _ [p] _).setCell (p := ⟨p, 2, none⟩) (.inl (by simp)) _) (fun y hy => by
      have : y = p := by simpa using hy
      subst this
      exact own_ne hown4 hp4 (by decide))
  · exact (kept_grown314 hk3 hg4 hown3).setCell (p := ⟨p, 2, none⟩) (.inl hpS) _
  · intro r tr cs hr h314 hrp
    have hr4 : Blk w4 r tr cs := (hg4.block r (by have := hr.lt; simp; omega) (fun e => own_ne hown3 hr (Ne.symm h314) e.symm)).trans (hr.alloc o)
    exact hr4.far (p := ⟨p, 2, none⟩) hrp _

set_option maxHeartbeats 2000000 in
theorem dpush253 {B : Nat} (p g c r o tr : Nat) (cs : List Value) (u u1 : Value) (x : Int) (pre rest : List UInt8) (stk : List Value) (w : World) (h : RD B w p g c pre (vb x ++ rest) stk) (hl : pre.length + rest.length ≤ 1000000) (hx0 : -9223372036854775808 ≤ x) (hx1 : x ≤ 9223372036854775807)
    (hr : Blk w r tr cs) (h174 : tr ≠ 174) (h314 : tr ≠ 314) (h5 : tr ≠ 5) (h323 : tr ≠ 323) (hc : cs[o]? = some u) (hc1 : cs[o + 1]? = some u1) (hs : stk.length ≤ 1000) :
    Calls Tryz.prog 177 #[.pointer (some ⟨p, 0, none⟩), .iface 253 (.pointer (some ⟨r, o, none⟩))] w fun e w' => e = .returned .nilIface ∧ RD B w' p g c (pre ++ vb x) rest (stk ++ [Value.iface 253 (.pointer (some ⟨r, o, none⟩))]) ∧
      Blk w' r tr ((cs.set o (.int .i64 pre.length)).set (o + 1) (.int .i64 x)) ∧ Kept B [p, r] w w' := by
  obtain ⟨i0, hi, hz0, hz1, hz2⟩ := info_parts info314
  have hrp : r ≠ p := by
    obtain ⟨_, sv, hp, _⟩ := h
    exact hr.ne_ hp h174
  have hvl := vb_le hx0 hx1
  have hk0 : Kept w.heap.size [r] w (w.drew.setCell ⟨r, o, none⟩ (.int .i64 pre.length)) := (Kept.refl _ _ _).drew.setCell (p := ⟨r, o, none⟩) (.inl (by simp)) _
  have hd0 := h.kept hk0 (fun s hs => by
    have : s = r := by simpa using hs
    subst this
    exact ⟨_, _, hr, h5, h174, h314⟩)
  have hr0 := hr.drew.set_ o (.int .i64 pre.length)
  have hlt := h.base
  have hBp := h.1
  obtain ⟨_, sv, hp, _⟩ := h
  have h1 := hp.cell 1
  have hc' : w.cell? ⟨r, o, none⟩ = some u := (hr.cell o).trans hc
  have hf' := hr.frozen o
  simp at h1
  have hcs1 : (cs.set o (.int .i64 pre.length))[o + 1]? = some u1 := by rw [List.getElem?_set_ne (by omega)]; exact hc1
  have H := Lib.hid (And.intro hd0 (And.intro hr0 hk0))
  clear hp hr hk0 hd0 hr0
  go_enter Tryz.func177, Tryz.ntmps177
  go_wp2_with fail
  refine wp_region_still_tail 8 (by kernel_rfl) (by kernel_rfl) ?_
  show wpStill _ _ (World.drew _) (fun a' => wpList _ _ _ _ _ (World.drew _)) _ _
  simp only [List.take_succ_cons, List.take_zero, List.drop_succ_cons, List.drop_zero]
  repeat still_step
  refine wpStill_nil ?_
  go_wp2_with (go_at_call 265; refine (l265 _ _ u _ (by exact hc') (by exact hf')).mono ?_)
  rintro e w1 ⟨rfl, hw1⟩
  obtain ⟨hd1, hr1, hk1⟩ := H.out
  rw [hw1] at hd1 hr1 hk1
  clear hw1 hc' hf' h1 H
  have H1 := Lib.hid (And.intro hd1 (And.intro hr1 hk1))
  clear hd1 hr1 hk1
  go_wp2_with (first | (at_builtin; refine wpList_append_own _ rfl _ _ 172 rfl B 314 i0 .nilIface 1 16 Tryz.underlying172 hi hz0 hz1 hz2 rfl (by decide) _ _ _ rfl (hown2.alloc _) ⟨w2.heap.size, 0, none⟩ 1 1 [Value.iface 253 (.pointer (some ⟨r, o, none⟩))] rfl rfl ?c1 ?c2 ?c3 ?c4 ?c5 ?_) | (go_at_call 262; refine (d262 p g c r o tr _ u1 x pre rest stk _ (by exact H1.out.1) hl hx0 hx1 (by exact H1.out.2.1) h174 h314 h5 h323 hcs1).mono ?_; rintro e w2 ⟨rfl, hd2, hr2, hk2⟩; have H2 := Lib.hid (And.intro hd2 (And.intro hr2 hk2)); obtain ⟨_, sv2, hp2, hraw2, hown2⟩ := hd2; have c2 := hp2.cell 2; have z2 := hp2.frozen 2; simp at c2; have HP2 := Lib.hid (And.intro hp2 (And.intro hraw2 hr2)); clear hp2 hraw2 hr2 hk2))
  case c1 => exact cell_one_new _ _ _
  case c2 => intro u hu; simp at hu; subst hu; rfl
  case c3 => unfold maxLen; omega
  case c4 => omega
  case c5 => have := H2.out.1.base; simp; omega
  intro v' w4 hown4 hg4 hnn
  have hkA : Kept B [p, r] w w2 := (H1.out.2.2.mono hlt (fun y hy => .inl hy)).trans H2.out.2.2 (fun y hy => .inl (by simp at hy ⊢; exact .inr hy)) (fun y hy => .inl hy)
  obtain ⟨hp4, hd5, hk5, hr5⟩ := rd_pushed hBp HP2.out.1 HP2.out.2.1 hown2 hg4 hown4 hkA (by simp)
  have hex : ∃ g cap, v' = .slice (some ⟨g, 0, none⟩) (stk.length + 1) cap := by
    rcases hown4.2 with ⟨_, hz⟩ | ⟨g, cap, cur, hv, _⟩
    · exact absurd hz (by omega)
    · exact ⟨g, cap, hv⟩
  obtain ⟨g4, cap4, rfl⟩ := hex
  have c42 := hp4.cell 2
  have z42 := hp4.frozen 2
  simp at c42
  have hr6 := hr5 r tr _ HP2.out.2.2 h314 hrp
  have hp5 := hp4.set_ 2 (.slice (some ⟨g4, 0, none⟩) (stk.length + 1) cap4)
  have c51 := hp5.cell 1
  have z51 := hp5.frozen 1
  simp at c51
  have hb1 : (pre.length : Int) + ((vb x).length : Int) ≤ 2000000 := by omega
  have hA := hd5.adv (d := []) (Kept.refl _ _ _)
  have hA2 : RD B ((w4.setCell ⟨p, 2, none⟩ (.slice (some ⟨g4, 0, none⟩) (stk.length + 1) cap4)).setCell ⟨p, 1, none⟩ (.int .i64 (pre.length + (vb x).length))) p g c (pre ++ vb x) rest (stk ++ [Value.iface 253 (.pointer (some ⟨r, o, none⟩))]) ∧
      Kept B [p] (w4.setCell ⟨p, 2, none⟩ (.slice (some ⟨g4, 0, none⟩) (stk.length + 1) cap4)) ((w4.setCell ⟨p, 2, none⟩ (.slice (some ⟨g4, 0, none⟩) (stk.length + 1) cap4)).setCell ⟨p, 1, none⟩ (.int .i64 (pre.length + (vb x).length))) := by
    simpa using hA
  have HF := Lib.hid (And.intro hA2.1 (And.intro (hr6.far (p := ⟨p, 1, none⟩) hrp (.int .i64 (pre.length + (vb x).length))) (hk5.trans hA2.2 (fun y hy => .inl hy) (fun y hy => .inl (by simp at hy ⊢; exact .inl hy)))))
  clear hA hA2 hd5 hk5 hr5 hr6 hp5 hp4 hg4 hown4 hkA
  go_wp2
  go_ret
  exact ⟨rfl, HF.out⟩

set_option maxHeartbeats 2000000 in
/-- The length that was read is the one that was passed by. -/
theorem l261 (r o tr : Nat) (cs : List Value) (n so L : Int) (v : Value) (w : World) (hr : Blk w r tr cs) (hso : cs[o]? = some (.int .i64 so)) (hm : cs[o + 1]? = some (.int .i64 L))
    (hm0 : 0 ≤ L) (hm1 : L ≤ 1000000000) (hn0 : 0 ≤ n) (hn1 : n ≤ 1000000000) (hs0 : 0 ≤ so) (hs1 : so ≤ 1000000000) (he : n - so - (vb L).length = L) :
    Calls Tryz.prog 261 #[.pointer (some ⟨r, o, none⟩), .int .i64 n, v] w fun e w' => e = .returned .nilIface ∧ Kept w.heap.size [] w w' := by
  have hvm := vb_le (x := L) (by omega) (by omega)
  have hrl := hr.lt
  have hcs := hr.cell o
  have hcm := (hr.cell (o + 1)).trans hm
  rw [hso] at hcs
  have hcm2 := hcm
  have tail : ∀ w1, Kept w.heap.size [] w w1 → w1.cell? ⟨r, o, none⟩ = some (.int .i64 so) ∧ w1.cell? ⟨r, o + 1, none⟩ = some (.int .i64 L) := fun w1 hk =>
    ⟨(World.cell?_of_block (hk.block r hrl (by simp) (.inl hrl))).trans hcs, (World.cell?_of_block (hk.block r hrl (by simp) (.inl hrl))).trans hcm⟩
  have s1 : IntKind.i64.wrap (n - so) = n - so := IntWalk.i64_in _ (by omega)
  have s2 : IntKind.i64.wrap (n - so - ((vb L).length : Int)) = L := by rw [he]; exact IntWalk.i64_in _ (by omega)
  have HE := Lib.hid he
  clear hr hso hm he
  go_enter Tryz.func261, Tryz.ntmps261
  go_wp2_with fail
  go_region_with (go_at_call 263; refine (l263 r o L _ (by omega) (by omega) ?_).mono ?_; exact hcm2; rintro e w2 ⟨rfl, hk2⟩; have hk2 := Kept.undrew hk2; obtain ⟨hc2, hc3⟩ := tail _ hk2)
  all_goals
    go_wp2
    go_ret
    exact ⟨rfl, hk2⟩
set_option maxHeartbeats 2000000 in
theorem dpop253 {B : Nat} (p g c : Nat) (r o tr : Nat) (L : Int) (cs : List Value) (a body rest : List UInt8) (stk : List Value) (w : World) (h : RD B w p g c (a ++ (vb L ++ body)) rest (stk ++ [Value.iface 253 (.pointer (some ⟨r, o, none⟩))])) (hs : stk.length ≤ 1000)
   (hr : Blk w r tr cs) (hso : cs[o]? = some (.int .i64 a.length)) (hm : cs[o + 1]? = some (.int .i64 L)) (hL : L = body.length) (hl : a.length + body.length ≤ 900000) (htr : tr ≠ 174) (h314 : tr ≠ 314) :
    Calls Tryz.prog 176 #[.pointer (some ⟨p, 0, none⟩)] w fun e w' => e = .returned .nilIface ∧ RD B w' p g c (a ++ (vb L ++ body)) rest stk ∧ Kept B [p] w w' := by
  have hvl := vb_le (x := L) (by omega) (by omega)
  obtain ⟨hBp, sv, hp, hg, hown⟩ := h
  obtain ⟨gs, cap, rfl, hcap, hgl, hgc, hown'⟩ := own_form hown
  have hlt : B ≤ w.heap.size := Nat.le_trans hBp (Nat.le_of_lt hp.lt)
  have hgp : g ≠ p := hg.ne hp (by decide)
  have hpl := hp.lt
  have h0 := hp.cell 0
  have h1 := hp.cell 1
  have h2 := hp.cell 2
  have f2 := hp.frozen 2
  simp only [List.getElem?_cons_zero, List.getElem?_cons_succ] at h0 h1 h2
  have i3 : IntKind.i64.wrap (stk.length : Int) = stk.length := IntWalk.i64_in _ (by omega)
  have i4 : stk.length ≤ cap := by omega
  have i2 : IntKind.i64.wrap ((stk.length : Int) + 1 - 1) = stk.length := by rw [IntWalk.i64_in _ (by omega)]; omega
  have i1 : (0 : Int) ≤ (stk.length : Int) + 1 - 1 := by omega
  have hpr : p ≠ r := hp.ne_ hr (Ne.symm htr)
  have HG := Lib.hid (And.intro hso (And.intro hm hL))
  have HH := Lib.hid (And.intro hp (And.intro hg (And.intro hr hown')))
  have hov : (a ++ (vb L ++ body)).length ≤ 1000000 := by simp; omega
  generalize hofv : (a ++ (vb L ++ body)).length = ov at h0 h1 hov
  generalize hNv : ov + rest.length = N at h0
  have HO := Lib.hid (And.intro hofv hNv)
  have HOW := Lib.hid hown
  clear hp hg hown' hown hr hofv hNv hso hm hL
  go_enter Tryz.func176, Tryz.ntmps176
  go_wp2_with fail
  go_quiet (fail)
  go_wp2_with fail
  refine wp_region_still_tail 14 (by kernel_rfl) (by kernel_rfl) ?_
  show wpStill _ _ (World.drew _) (fun a' => wpList _ _ _ _ _ (World.drew _)) _ _
  simp only [List.take_succ_cons, List.take_zero, List.drop_succ_cons, List.drop_zero]
  repeat still_step
  refine wpStill_nil ?_
  go_wp2_with fail
  obtain ⟨hp, hg, hr, hown'⟩ := HH.out
  have hk3 : Kept w.heap.size [p] w ((w.drewN (nq + 1)).setCell ⟨p, 2, none⟩ (.slice (some ⟨gs, 0, none⟩) stk.length cap)) := ((Kept.refl _ _ _).drewN _).setCell (p := ⟨p, 2, none⟩) (.inl (by simp)) _
  have hp3 := (hp.drewN (nq + 1)).set_ 2 (.slice (some ⟨gs, 0, none⟩) stk.length cap)
  have hg3 := hg.kept hk3 (by simpa using hgp)
  have hr3 := (hr.drewN (nq + 1)).far (p := ⟨p, 2, none⟩) (Ne.symm hpr) (.slice (some ⟨gs, 0, none⟩) stk.length cap)
  have hown3 := own_kept hown' hk3 (fun x hx => by
    have : x = p := by simpa using hx
    subst this
    exact own_ne hown' hp (by decide))
  clear hp hg hr hown' h0 h1 h2 f2 hgc
  generalize ((w.drewN (nq + 1)).setCell ⟨p, 2, none⟩ (.slice (some ⟨gs, 0, none⟩) stk.length cap)) = W3 at hp3 hg3 hr3 hown3 hk3 ⊢
  have h0 := hp3.cell 0
  have h1 := hp3.cell 1
  simp only [List.set_cons_succ, List.set_cons_zero, List.getElem?_cons_zero, List.getElem?_cons_succ, HO.out.1, HO.out.2] at h0 h1
  have H3 := Lib.hid (show RD B W3 p g c (a ++ (vb L ++ body)) rest stk ∧ Kept w.heap.size [p] w W3 ∧ Blk W3 r tr cs from ⟨⟨hBp, _, hp3, hg3, hown3⟩, hk3, hr3⟩)
  clear hp3 hk3 hown3 hg3 hr3
  go_wp2_with fail
  refine wp_region_still_tail 12 (by kernel_rfl) (by kernel_rfl) ?_
  show wpStill _ _ (World.drew _) (fun a' => wpList _ _ _ _ _ (World.drew _)) _ _
  simp only [List.take_succ_cons, List.take_zero, List.drop_succ_cons, List.drop_zero]
  repeat still_step
  refine wpStill_nil ?_
  go_wp2_with fail
  refine (l261 r o tr cs ov a.length L _ _ (by exact H3.out.2.2.drew) HG.out.1 HG.out.2.1 (by have := HG.out.2.2; omega) (by have := HG.out.2.2; omega) (by omega) (by omega) (by omega) (by omega) (by have h5 := HO.out.1; have h6 := HG.out.2.2; simp at h5; omega)).mono ?_
  rintro e w4 ⟨rfl, hk4⟩
  replace hk4 := Kept.undrew hk4
  have HF := Lib.hid (show RD B w4 p g c (a ++ (vb L ++ body)) rest stk ∧ Kept B [p] w w4 from ⟨H3.out.1.kept (S := []) hk4 (fun s hs => by cases hs), (H3.out.2.1.mono hlt (fun x hx => .inl hx)).trans (S2 := []) (hk4.mono (Nat.le_trans hlt H3.out.2.1.size) (fun x hx => by cases hx)) (fun x hx => .inl hx) (fun x hx => by cases hx)⟩)
  clear hk4
  go_wp2
  go_ret
  exact ⟨rfl, HF.out⟩
end Go.Proofs.YtmiflkccfieefaaGreatDoor
