/-
  A message of format 0, by the writing encoder.
-/
import Derived.Test.YtmiflkccfieefaaGreatDoorMsg
namespace Go.Proofs.YtmiflkccfieefaaGreatDoor
open Go.ChangeShapes Go.WideShapes Go.ChangeAt Go.RowKit
set_option maxRecDepth 100000
set_option linter.unusedVariables false
set_option linter.unusedSimpArgs false

/-- The writing encoder, where other blocks are written. -/
theorem rx_far {B : Nat} {w w' : World} {p g N : Nat} {pre : List UInt8} {stk : List Value} {S : List Nat} (h : RX B w p g N pre stk) (hk : Kept w.heap.size S w w') (hS : ∀ s ∈ S, ∃ t cs, Blk w s t cs ∧ t ≠ 182 ∧ t ≠ 5 ∧ t ≠ 323) : RX B w' p g N pre stk := by
  obtain ⟨rest, h1, h2, h3, sv, h4, h5, h6⟩ := h
  refine ⟨rest, h1, h2, h3, sv, h4.kept hk (fun hm => ?_) (.inl h4.lt), h5.kept hk (fun hm => ?_) (.inl h5.lt), own_kept h6 hk (fun x hx => ?_)⟩
  · obtain ⟨t, cs, hb, ht, _⟩ := hS p hm
    exact hb.ne_ h4 ht rfl
  · obtain ⟨t, cs, hb, _, ht, _⟩ := hS g hm
    exact hb.ne_ h5 ht rfl
  · obtain ⟨t, cs, hb, _, _, ht⟩ := hS x hx
    exact own_ne h6 hb (Ne.symm ht)
theorem RX.glt {B : Nat} {w : World} {p g N : Nat} {pre : List UInt8} {stk : List Value} (h : RX B w p g N pre stk) : g < w.heap.size := by
  obtain ⟨rest, _, _, _, sv, _, h5, _⟩ := h
  exact h5.lt
theorem byteOf_len (x : Int) : [byteOf x].length = 1 := rfl
set_option maxHeartbeats 4000000 in
theorem e155r0f {B : Nat} (p g N D r : Nat) (sec nsec : Int) (ko vo : NB) (pre : List UInt8) (stk : List Value) (w : World) (h : RX B w p g N pre stk) (hN : N ≤ 1000000) (hstk : stk.length ≤ 100)
    (hM : MsgAt w D r 0 false sec nsec ko vo false) (hko : ol ko ≤ 300) (hvo : ol vo ≤ 300) (hDp : D ≤ p) (hDg : D ≤ g) (hrD : r < D) (hBD : B = D) (hroom : pre.length + (msgBytes 0 false [] ko vo).length ≤ N) :
    Calls Tryz.prog 155 #[.pointer (some ⟨r, 0, none⟩), .iface 180 (.pointer (some ⟨p, 0, none⟩))] w fun e w' => e = .returned .nilIface ∧
      RX B w' p g N (pre ++ msgBytes 0 false [] ko vo) stk ∧ Kept B [p, g, r] w w' := by
  have hpr : p ≠ r := by omega
  have hgr : g ≠ r := by omega
  obtain ⟨kv, vv, cv, sz, hb, hk, hv, hcv⟩ := hM
  obtain ⟨kA, kn, kc, rfl⟩ := nb_form hk
  obtain ⟨vA, vn, vc, rfl⟩ := nb_form hv
  simp at hcv
  subst hcv
  have hrl := hb.lt
  have heq := fun (W : World) (a : Option Addr) (l c : Nat) => run_neq_slice_nil_any (P := Tryz.prog) W 23 5 a l c 0 0 Tryz.underlying23
  have hroom2 : pre.length + 4 + 1 + 1 + (sBytes ko).length + (sBytes vo).length ≤ N := by
    have h : (msgBytes 0 false [] ko vo).length = 4 + (2 + ((sBytes ko).length + (sBytes vo).length)) := by simp [msgBytes, msgBody, Lib.beBytes_length]; omega
    omega
  clear hroom
  obtain ⟨hBp, hBg, hpl⟩ := h.base
  have hk0 : Kept B [p, g, r] w (w.alloc (.cells #[.int .i64 0, .int .i8 0] 288)) := (Kept.refl _ _ _).alloc _
  have hM0 := hb.alloc (.cells #[.int .i64 0, .int .i8 0] 288)
  have hc0 := Blk.new w 288 [.int .i64 0, .int .i8 0]
  have hpe0 : RX B (w.alloc (.cells #[.int .i64 0, .int .i8 0] 288)) p g N pre stk := rx_far (S := []) h ((Kept.refl _ _ _).alloc _) (fun s hs => by cases hs)
  have H0 := Lib.hid (And.intro hpe0 (And.intro hM0 (And.intro hc0 hk0)))
  have HB := Lib.hid (And.intro hb (And.intro hk hv))
  have hgl := h.glt
  clear h hb hk hv hk0 hM0 hc0 hpe0
  go_enter Tryz.func155, Tryz.ntmps155
  go_upto_region 1 with fail
  go_cut [9] (fun s9 w2 => ∃ mid : List UInt8, Hid (mid.length = 4 ∧ RX B w2 p g N (pre ++ mid) (stk ++ [Value.iface 264 (.pointer (some ⟨w.heap.size, 0, none⟩))]) ∧ Blk w2 r 120 [.int .i8 0, .int .i64 0, .bool false, .slice kA kn kc, .slice vA vn vc, .pointer none, .int .i8 0, .int .i64 sec, .int .i64 nsec, .slice vA vn vc, .int .i64 sz] ∧ Blk w2 w.heap.size 288 [.int .i64 pre.length, .int .i8 0] ∧ Kept B [p, g, r] w w2))
  case first =>
    go_region_with (first | (go_at_call 144; refine (c144 _).mono ?_; rintro e w1 ⟨rfl, rfl⟩) | (go_at_call 199; refine (xpush264 p g N w.heap.size 0 288 [.int .i64 0, .int .i8 0] (.int .i64 0) pre stk _ (by exact H0.out.1) (by omega) (by exact H0.out.2.2.1) (by decide) (by decide) (by decide) rfl (by omega) (by omega)).mono ?_; rintro e w2 ⟨rfl, mid, hml, hp2, hr2, hk2⟩))
    all_goals
      obtain ⟨hpe0, hM0, hc0, hk0⟩ := H0.out
      have HF : Hid (mid.length = 4 ∧ RX B w2 p g N (pre ++ mid) (stk ++ [Value.iface 264 (.pointer (some ⟨w.heap.size, 0, none⟩))]) ∧ Blk w2 r 120 [.int .i8 0, .int .i64 0, .bool false, .slice kA kn kc, .slice vA vn vc, .pointer none, .int .i8 0, .int .i64 sec, .int .i64 nsec, .slice vA vn vc, .int .i64 sz] ∧ Blk w2 w.heap.size 288 [.int .i64 pre.length, .int .i8 0] ∧ Kept B [p, g, r] w w2) := by
        refine ⟨hml, hp2, ?_, hr2, ?_⟩
        · exact hM0.drew.kept hk2 (by simp; omega) (.inr (by rintro (h5 | h5) <;> exact absurd h5 (by decide)))
        · exact hk0.drew.trans (S2 := [p, w.heap.size]) hk2 (fun x hx => .inl hx) (fun x hx => by
            simp at hx
            rcases hx with rfl | rfl
            · exact .inl (by simp)
            · exact .inr (Nat.le_refl _))
      clear hp2 hr2 hk2 hpe0 hM0 hc0 hk0 hml
      go_wp2_with fail
      go_meet
      exact ⟨mid, HF⟩
  case rest =>
    obtain ⟨mid, H1⟩ := hcut
    have hSS : ∀ s ∈ [p, g, r], D ≤ s ∨ ∃ t cs, t ≠ 5 ∧ Blk w s t cs := fun s hs => by
      simp at hs
      rcases hs with rfl | rfl | rfl
      · exact .inl hDp
      · exact .inl hDg
      · exact .inr ⟨120, _, by decide, HB.out.1⟩
    clear H0
    have hml4 : mid.length = 4 := H1.out.1
    have HML := Lib.hid hml4
    have hpl1 : (pre ++ mid).length ≤ pre.length + 4 := by simp; omega
    clear hml4
    have e1 : bits .and .i8 0 7 = 0 := by decide
    have e2 : bits .or .i8 0 8 = 8 := by decide
    have c6 := H1.out.2.2.1.cell 6
    simp only [List.getElem?_cons_zero, List.getElem?_cons_succ] at c6
    generalize hstv : stk ++ [Value.iface 264 (.pointer (some ⟨w.heap.size, 0, none⟩))] = st at H1
    have HST := Lib.hid hstv
    clear hstv
    have hst : ¬ stackT 120 := by rintro (h5 | h5) <;> exact absurd h5 (by decide)
    have hst2 : ¬ stackT 288 := by rintro (h5 | h5) <;> exact absurd h5 (by decide)
    have hne : p ≠ w.heap.size := by omega
    generalize hpv : pre ++ mid = pr at H1 hpl1
    have HPV := Lib.hid hpv
    clear hpv
    replace H1 := Lib.hid (And.intro H1.out.2.1 (And.intro H1.out.2.2.1 (And.intro H1.out.2.2.2.1 H1.out.2.2.2.2)))
    go_wp2_with fail
    refine wp_region_still_tail 8 (by kernel_rfl) (by kernel_rfl) ?_
    show wpStill _ _ (World.drew _) (fun a' => wpList _ _ _ _ _ (World.drew _)) _ _
    simp only [List.take_succ_cons, List.take_zero, List.drop_succ_cons, List.drop_zero]
    repeat still_step
    refine wpStill_nil ?_
    go_wp2_with fail
    refine (x206 p g N 0 _ _ _ (by exact H1.out.1) (by omega) (by omega) (by omega) (by rw [byteOf_len]; omega)).mono ?_
    rintro e w3 ⟨rfl, hp3, hk3⟩
    replace hk3 := Kept.undrew hk3
    have hb3 := H1.out.2.1.kept hk3 (by simp; exact ⟨Ne.symm hpr, Ne.symm hgr⟩) (.inr hst)
    have hc3 := H1.out.2.2.1.kept hk3 (by simp; omega) (.inr hst2)
    have H3 := Lib.hid (And.intro hp3 (And.intro hb3 (And.intro hc3 (H1.out.2.2.2.trans hk3 (fun x hx => .inl hx) (fun x hx => .inl (by simp at hx ⊢; rcases hx with hx | hx; exact .inl hx; exact .inr (.inl hx)))))))
    have hpl3 : (pr ++ [byteOf 0]).length = pr.length + 1 := by simp
    have c0 := hb3.cell 0
    have c2 := hb3.cell 2
    simp only [List.getElem?_cons_zero, List.getElem?_cons_succ] at c0 c2
    clear hp3 hk3 hb3 hc3 c6
    · go_wp2_with fail
      refine (x206 p g N _ _ _ _ (by exact H3.out.1) (by omega) (by decide) (by decide) (by rw [byteOf_len, hpl3]; omega)).mono ?_
      rintro e w4 ⟨rfl, hp4, hk4⟩
      have hb4 := H3.out.2.1.kept hk4 (by simp; exact ⟨Ne.symm hpr, Ne.symm hgr⟩) (.inr hst)
      have hc4 := H3.out.2.2.1.kept hk4 (by simp; omega) (.inr hst2)
      have H4 := Lib.hid (And.intro hp4 (And.intro hb4 (And.intro hc4 (H3.out.2.2.2.trans hk4 (fun x hx => .inl hx) (fun x hx => .inl (by simp at hx ⊢; rcases hx with hx | hx; exact .inl hx; exact .inr (.inl hx)))))))
      have c3 := hb4.cell 3
      have c6 := hb4.cell 6
      simp only [List.getElem?_cons_zero, List.getElem?_cons_succ] at c3 c6
      clear hp4 hk4 hb4 hc4 c0 c2
      go_wp2_with fail
      refine wp_region_still_tail 8 (by kernel_rfl) (by kernel_rfl) ?_
      show wpStill _ _ (World.drew _) (fun a' => wpList _ _ _ _ _ (World.drew _)) _ _
      simp only [List.take_succ_cons, List.take_zero, List.drop_succ_cons, List.drop_zero]
      repeat still_step
      refine wpStill_nil ?_
      go_wp2_with fail
      refine (x201 p g N _ ko D _ _ _ (by exact H4.out.1) (by omega) (by exact HB.out.2.1.kept H4.out.2.2.2.drew hSS) hDg hDp (by rw [List.length_append, hpl3, byteOf_len]; omega)).mono ?_
      rintro e w5 ⟨rfl, hp5, hk5⟩
      replace hk5 := Kept.undrew hk5
      have hb5 := H4.out.2.1.kept hk5 (by simp; exact ⟨Ne.symm hpr, Ne.symm hgr⟩) (.inr hst)
      have hc5 := H4.out.2.2.1.kept hk5 (by simp; omega) (.inr hst2)
      have H5 := Lib.hid (And.intro hp5 (And.intro hb5 (And.intro hc5 (H4.out.2.2.2.trans hk5 (fun x hx => .inl hx) (fun x hx => .inl (by simp at hx ⊢; rcases hx with hx | hx; exact .inl hx; exact .inr (.inl hx)))))))
      have c0 := hb5.cell 0
      have c1 := hb5.cell 1
      have c4 := hb5.cell 4
      have c9 := hb5.cell 9
      have z9 := hb5.frozen 9
      have z10 := hb5.frozen 10
      have c10 := hb5.cell 10
      simp only [List.getElem?_cons_zero, List.getElem?_cons_succ] at c0 c1 c4 c9 c10
      clear hp5 hk5 hb5 hc5 c3 c6
      have hpl5 : (pr ++ [byteOf 0]).length + 1 + (sBytes ko).length = pr.length + 2 + (sBytes ko).length := by omega
      cases vo with
      | none =>
        obtain ⟨rfl, rfl, rfl⟩ : vA = none ∧ vn = 0 ∧ vc = 0 := by
          have h : (Value.slice vA vn vc) = .slice none 0 0 := HB.out.2.2
          injection h with h1 h2 h3
          exact ⟨h1, h2, h3⟩
        go_wp2_with fail
        refine (x201 p g N _ none D _ _ _ (by exact H5.out.1) (by omega) rfl hDg hDp (by rw [List.length_append, List.length_append, hpl3, byteOf_len]; omega)).mono ?_
        rintro e w6 ⟨rfl, hp6, hk6⟩
        have hb6 := H5.out.2.1.kept hk6 (by simp; exact ⟨Ne.symm hpr, Ne.symm hgr⟩) (.inr hst)
        have hc6 := H5.out.2.2.1.kept hk6 (by simp; omega) (.inr hst2)
        have H6 := Lib.hid (And.intro hp6 (And.intro hb6 (And.intro hc6 (H5.out.2.2.2.trans hk6 (fun x hx => .inl hx) (fun x hx => .inl (by simp at hx ⊢; rcases hx with hx | hx; exact .inl hx; exact .inr (.inl hx)))))))
        clear hp6 hk6 hb6 hc6 c0 c1 c4 c9 z9 z10 c10
        go_wp2_with fail
        refine (xpop264 p g N w.heap.size pre.length pre mid (msgBody 0 false [] ko none) stk _ (by have h := H6.out.1; rw [← HST.out, ← HPV.out] at h; simpa [msgBody, attrOf] using h) (by omega) (by omega) (by exact H6.out.2.2.1) rfl (by simp [msgBody]) HML.out).mono ?_
        rintro e w7 ⟨rfl, hp7, hk7⟩
        have HF := Lib.hid (show RX B w7 p g N (pre ++ msgBytes 0 false [] ko none) stk ∧ Kept B [p, g, r] w w7 from ⟨by simpa [msgBytes] using hp7, H6.out.2.2.2.trans hk7 (fun x hx => .inl hx) (fun x hx => .inl (by simp at hx ⊢; rcases hx with hx | hx; exact .inl hx; exact .inr (.inl hx)))⟩)
        clear hp7 hk7
        go_wp2
        go_ret
        exact ⟨rfl, HF.out⟩
      | some l =>
        obtain ⟨a, rfl, rfl⟩ : ∃ a, vA = some a ∧ vn = l.length := by
          obtain ⟨a, c, h⟩ := HB.out.2.2.sl
          injection h with h1 h2 h3
          exact ⟨a, h1, h2⟩
        go_wp2_with fail
        have hks : Kept B [p, g, r] w (w5.setCell ⟨r, 9, none⟩ (.slice none 0 0)) := H5.out.2.2.2.setCell (p := ⟨r, 9, none⟩) (.inl (by simp)) _
        have hps := rx_far H5.out.1 (S := [r]) ((Kept.refl _ _ w5).setCell (p := ⟨r, 9, none⟩) (.inl (by simp)) (.slice none 0 0)) (fun x hx => by simp at hx; subst hx; exact ⟨_, _, H5.out.2.1, by decide, by decide, by decide⟩)
        have hcs := H5.out.2.2.1.far (p := ⟨r, 9, none⟩) (show w.heap.size ≠ r by omega) (.slice none 0 0)
        have HS := Lib.hid (And.intro hps (And.intro (H5.out.2.1.set_ 9 (.slice none 0 0)) (And.intro hcs hks)))
        clear hks hps hcs c0 c1 c4 c9 z9 z10 c10
        generalize (w5.setCell ⟨r, 9, none⟩ (.slice none 0 0)) = ws at HS ⊢
        refine (x201 p g N _ (some l) D _ _ _ (by exact HS.out.1) (by omega) (by exact HB.out.2.2.kept HS.out.2.2.2 hSS) hDg hDp (by rw [List.length_append, List.length_append, hpl3, byteOf_len]; omega)).mono ?_
        rintro e w6 ⟨rfl, hp6, hk6⟩
        have hb6 := HS.out.2.1.kept hk6 (by simp; exact ⟨Ne.symm hpr, Ne.symm hgr⟩) (.inr hst)
        have hc6 := HS.out.2.2.1.kept hk6 (by simp; omega) (.inr hst2)
        have H6 := Lib.hid (And.intro hp6 (And.intro hb6 (And.intro hc6 (HS.out.2.2.2.trans hk6 (fun x hx => .inl hx) (fun x hx => .inl (by simp at hx ⊢; rcases hx with hx | hx; exact .inl hx; exact .inr (.inl hx)))))))
        clear hp6 hk6 hb6 hc6
        go_wp2_with fail
        refine (xpop264 p g N w.heap.size pre.length pre mid (msgBody 0 false [] ko (some l)) stk _ (by have h := H6.out.1; rw [← HST.out, ← HPV.out] at h; simpa [msgBody, attrOf] using h) (by omega) (by omega) (by exact H6.out.2.2.1) rfl (by simp [msgBody]) HML.out).mono ?_
        rintro e w7 ⟨rfl, hp7, hk7⟩
        have HF := Lib.hid (show RX B w7 p g N (pre ++ msgBytes 0 false [] ko (some l)) stk ∧ Kept B [p, g, r] w w7 from ⟨by simpa [msgBytes] using hp7, H6.out.2.2.2.trans hk7 (fun x hx => .inl hx) (fun x hx => .inl (by simp at hx ⊢; rcases hx with hx | hx; exact .inl hx; exact .inr (.inl hx)))⟩)
        clear hp7 hk7
        go_wp2
        go_ret
        exact ⟨rfl, HF.out⟩
end Go.Proofs.YtmiflkccfieefaaGreatDoor
