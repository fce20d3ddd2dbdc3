/-
  A message of format 0, by the preparing encoder.
-/
import Derived.Test.YtmiflkccfieefaaGreatDoorRecR
import Derived.Deep.DeepCutAuto
namespace Go.Proofs.YtmiflkccfieefaaGreatDoor
open Go.ChangeShapes Go.WideShapes Go.ChangeAt Go.RowKit
set_option maxRecDepth 100000
set_option linter.unusedVariables false
set_option linter.unusedSimpArgs false

/-- A message in memory at block r; what was handed on to the encoder is kept, or not yet. -/
def MsgAt (w : World) (D r : Nat) (ver : Int) (la : Bool) (sec nsec : Int) (ko vo : NB) (fresh : Bool) : Prop :=
  ∃ kv vv cv sz, Blk w r 120 [.int .i8 0, .int .i64 0, .bool la, kv, vv, .pointer none, .int .i8 ver, .int .i64 sec, .int .i64 nsec, cv, .int .i64 sz] ∧ NBytesAt w D kv ko ∧ NBytesAt w D vv vo ∧ cv = (if fresh then .slice none 0 0 else vv)
theorem MsgAt.kept {B D : Nat} {S : List Nat} {w w' : World} {r : Nat} {ver : Int} {la : Bool} {sec nsec : Int} {ko vo : NB} {fresh : Bool} (h : MsgAt w D r ver la sec nsec ko vo fresh) (hk : Kept B S w w') (hS : ∀ s ∈ S, D ≤ s ∨ ∃ t cs, t ≠ 5 ∧ Blk w s t cs) (hr : r ∉ S) : MsgAt w' D r ver la sec nsec ko vo fresh := by
  obtain ⟨kv, vv, cv, sz, h1, h2, h3, h4⟩ := h
  exact ⟨kv, vv, cv, sz, h1.kept hk hr (.inr (by rintro (h5 | h5) <;> exact absurd h5 (by decide))), h2.kept hk hS, h3.kept hk hS, h4⟩
theorem nb_form {w : World} {D : Nat} {v : Value} {o : NB} (h : NBytesAt w D v o) : ∃ A n c, v = .slice A n c := by
  cases o with
  | none => exact ⟨_, _, _, h⟩
  | some l =>
    obtain ⟨a, c, _, _, rfl, _⟩ := h
    exact ⟨_, _, _, rfl⟩
theorem c144 (w : World) : Calls Tryz.prog 144 #[.int .i8 0] w fun e w' => e = .returned (.pointer (some ⟨w.heap.size, 0, none⟩)) ∧ w.alloc (.cells #[.int .i64 0, .int .i8 0] 288) = w' := by
  go_enter Tryz.func144, Tryz.ntmps144
  go_wp2
  go_ret
  exact ⟨rfl, rfl⟩
theorem c152 (A : Option Addr) (n c : Nat) (lv : Value) (w : World) : Calls Tryz.prog 152 #[.int .i8 0, lv, .slice A n c] w fun e w' => e = .returned (.tuple #[.slice A n c, .nilIface]) ∧ w' = w := by
  go_enter Tryz.func152, Tryz.ntmps152
  go_wp2
  go_ret2
  exact ⟨rfl, rfl⟩
/-- The preparing encoder, where other blocks are written. -/
theorem pe_far {B : Nat} {w w' : World} {p n : Nat} {stk : List Value} {S : List Nat} (h : PE B w p n stk) (hk : Kept w.heap.size S w w') (hS : ∀ s ∈ S, ∃ t cs, Blk w s t cs ∧ t ≠ 178 ∧ t ≠ 323) : PE B w' p n stk := by
  obtain ⟨h1, sv, h2, h3⟩ := h
  refine ⟨h1, sv, h2.kept hk (fun hm => ?_) (.inl h2.lt), own_kept h3 hk (fun x hx => ?_)⟩
  · obtain ⟨t, cs, hb, ht, _⟩ := hS p hm
    exact hb.ne_ h2 ht rfl
  · obtain ⟨t, cs, hb, _, ht⟩ := hS x hx
    exact own_ne h3 hb (Ne.symm ht)
/-- A message's attributes; its bytes behind the sum; its bytes. -/
def attrOf (la : Bool) : Int := if la then 8 else 0
def msgBody (ver : Int) (la : Bool) (tb : List UInt8) (ko vo : NB) : List UInt8 := byteOf ver :: byteOf (attrOf la) :: (tb ++ (sBytes ko ++ sBytes vo))
def msgBytes (ver : Int) (la : Bool) (tb : List UInt8) (ko vo : NB) : List UInt8 := Lib.beBytes 4 (crc ieee (msgBody ver la tb ko vo)).toNat ++ msgBody ver la tb ko vo

set_option maxHeartbeats 4000000 in
theorem e155p0 {B : Nat} (p n D r : Nat) (la : Bool) (sec nsec : Int) (ko vo : NB) (stk : List Value) (w : World) (h : PE B w p n stk) (hn : n ≤ 200000) (hstk : stk.length ≤ 100)
    (hM : MsgAt w D r 0 la sec nsec ko vo true) (hko : ol ko ≤ 300) (hvo : ol vo ≤ 300) (hDp : D ≤ p) (hrD : r < D) (hBD : B = D) :
    Calls Tryz.prog 155 #[.pointer (some ⟨r, 0, none⟩), .iface 175 (.pointer (some ⟨p, 0, none⟩))] w fun e w' => e = .returned .nilIface ∧
      PE B w' p (n + 4 + 1 + 1 + (4 + ol ko) + (4 + ol vo)) stk ∧ MsgAt w' D r 0 la sec nsec ko vo false ∧ Kept B [p, r] w w' := by
  have hpr : p ≠ r := by omega
  obtain ⟨kv, vv, cv, sz, hb, hk, hv, hcv⟩ := hM
  obtain ⟨kA, kn, kc, rfl⟩ := nb_form hk
  obtain ⟨vA, vn, vc, rfl⟩ := nb_form hv
  simp only [if_true] at hcv
  subst hcv
  have hrl := hb.lt
  have heq := fun (W : World) (a : Option Addr) (l c : Nat) => run_neq_slice_nil_any (P := Tryz.prog) W 23 5 a l c 0 0 Tryz.underlying23
  have hk0 : Kept B [p, r] w (w.alloc (.cells #[.int .i64 0, .int .i8 0] 288)) := (Kept.refl _ _ _).alloc _
  have hB := h.lt
  have hM0 := hb.alloc (.cells #[.int .i64 0, .int .i8 0] 288)
  have hc0 := Blk.new w 288 [.int .i64 0, .int .i8 0]
  have hpe0 : PE B (w.alloc (.cells #[.int .i64 0, .int .i8 0] 288)) p n stk := h.keep ((Kept.refl _ _ _).alloc _) (fun sv hb => hb.alloc _)
  have H0 := Lib.hid (And.intro hpe0 (And.intro hM0 (And.intro hc0 hk0)))
  have HB := Lib.hid (And.intro hb (And.intro hk hv))
  clear h hb hk hv hk0 hM0 hc0 hpe0
  obtain ⟨hpe0, hM0, hc0, hk0⟩ := H0.out
  obtain ⟨hBp, sv, hp, hown⟩ := hpe0
  have hlc := hc0.lt
  have hcne : p ≠ w.heap.size := hp.ne_ hc0 (by decide)
  have HP := Lib.hid (And.intro hp hown)
  clear hM0 hc0 hk0 hp hown
  go_enter Tryz.func155, Tryz.ntmps155
  go_upto_region 1 with fail
  go_cut [9] (fun s9 w2 => Hid (PE B w2 p (n + 4) (stk ++ [Value.iface 264 (.pointer (some ⟨w.heap.size, 0, none⟩))]) ∧ Blk w2 r 120 [.int .i8 0, .int .i64 0, .bool la, .slice kA kn kc, .slice vA vn vc, .pointer none, .int .i8 0, .int .i64 sec, .int .i64 nsec, .slice none 0 0, .int .i64 sz] ∧ Kept B [p, r] w w2))
  case first =>
    go_region_with (first | (go_at_call 144; refine (c144 _).mono ?_; rintro e w1 ⟨rfl, rfl⟩) | (go_at_call 185; refine (push185_264 p n w.heap.size 0 288 [.int .i64 0, .int .i8 0] (.int .i64 0) stk sv _ hBp (by exact HP.out.1) (by exact HP.out.2) (by omega) (by exact H0.out.2.2.1) (by decide) (by decide) rfl (by omega)).mono ?_; rintro e w2 ⟨rfl, sv2, hp2, hown2, hr2, hk2⟩))
    all_goals
      obtain ⟨hpe0, hM0, hc0, hk0⟩ := H0.out
      have HF : Hid (PE B w2 p (n + 4) (stk ++ [Value.iface 264 (.pointer (some ⟨w.heap.size, 0, none⟩))]) ∧ Blk w2 r 120 [.int .i8 0, .int .i64 0, .bool la, .slice kA kn kc, .slice vA vn vc, .pointer none, .int .i8 0, .int .i64 sec, .int .i64 nsec, .slice none 0 0, .int .i64 sz] ∧ Kept B [p, r] w w2) := by
        refine ⟨⟨hBp, sv2, by exact_mod_cast hp2, hown2⟩, ?_, ?_⟩
        · exact hM0.drew.kept hk2 (by simp; omega) (.inr (by rintro (h5 | h5) <;> exact absurd h5 (by decide)))
        · exact hk0.drew.trans (S2 := [p, w.heap.size]) hk2 (fun x hx => .inl hx) (fun x hx => by
            simp at hx
            rcases hx with rfl | rfl
            · exact .inl (by simp)
            · exact .inr (Nat.le_refl _))
      clear hp2 hown2 hr2 hk2 hpe0 hM0 hc0 hk0
      go_wp2_with fail
      go_meet
      exact HF
  case rest =>
    have H1 := hcut
    clear hcut H0 HP hcne hlc
    have e1 : bits .and .i8 0 7 = 0 := by decide
    have e2 : bits .or .i8 0 8 = 8 := by decide
    have c6 := H1.out.2.1.cell 6
    simp only [List.getElem?_cons_zero, List.getElem?_cons_succ] at c6
    generalize hstv : stk ++ [Value.iface 264 (.pointer (some ⟨w.heap.size, 0, none⟩))] = st at H1
    have HST := Lib.hid hstv
    clear hstv
    go_wp2_with fail
    refine wp_region_still_tail 8 (by kernel_rfl) (by kernel_rfl) ?_
    show wpStill _ _ (World.drew _) (fun a' => wpList _ _ _ _ _ (World.drew _)) _ _
    simp only [List.take_succ_cons, List.take_zero, List.drop_succ_cons, List.drop_zero]
    repeat still_step
    refine wpStill_nil ?_
    go_wp2_with fail
    refine (p192 p _ 0 _ _ (by exact H1.out.1) (by omega)).mono ?_
    rintro e w3 ⟨rfl, hp3, hk3⟩
    replace hk3 := Kept.undrew hk3
    have hb3 := H1.out.2.1.kept hk3 (by simpa using Ne.symm hpr) (.inr (by rintro (h5 | h5) <;> exact absurd h5 (by decide)))
    have H3 := Lib.hid (And.intro hp3 (And.intro hb3 (H1.out.2.2.trans hk3 (fun x hx => .inl hx) (fun x hx => .inl (by simp at hx ⊢; exact .inl hx)))))
    have c0 := hb3.cell 0
    have c2 := hb3.cell 2
    simp only [List.getElem?_cons_zero, List.getElem?_cons_succ] at c0 c2
    clear hp3 hk3 hb3 c6
    have hst : ¬ stackT 120 := by rintro (h5 | h5) <;> exact absurd h5 (by decide)
    go_wp2_with fail
    all_goals
      refine (p192 p _ _ _ _ (by exact H3.out.1) (by omega)).mono ?_
      rintro e w4 ⟨rfl, hp4, hk4⟩
      have hb4 := H3.out.2.1.kept hk4 (by simpa using Ne.symm hpr) (.inr hst)
      have H4 := Lib.hid (And.intro hp4 (And.intro hb4 (H3.out.2.2.trans hk4 (fun x hx => .inl hx) (fun x hx => .inl (by simp at hx ⊢; exact .inl hx)))))
      have c3 := hb4.cell 3
      have c6 := hb4.cell 6
      simp only [List.getElem?_cons_zero, List.getElem?_cons_succ] at c3 c6
      clear hp4 hk4 hb4 c0 c2
      go_wp2_with fail
      refine wp_region_still_tail 8 (by kernel_rfl) (by kernel_rfl) ?_
      show wpStill _ _ (World.drew _) (fun a' => wpList _ _ _ _ _ (World.drew _)) _ _
      simp only [List.take_succ_cons, List.take_zero, List.drop_succ_cons, List.drop_zero]
      repeat still_step
      refine wpStill_nil ?_
      go_wp2_with fail
      refine (p187 p _ _ ko _ _ (by exact H4.out.1) (by omega) HB.out.2.1.sl (by omega)).mono ?_
      rintro e w5 ⟨rfl, hp5, hk5⟩
      replace hk5 := Kept.undrew hk5
      have hb5 := H4.out.2.1.kept hk5 (by simpa using Ne.symm hpr) (.inr hst)
      have H5 := Lib.hid (And.intro hp5 (And.intro hb5 (H4.out.2.2.trans hk5 (fun x hx => .inl hx) (fun x hx => .inl (by simp at hx ⊢; exact .inl hx)))))
      have c0 := hb5.cell 0
      have c1 := hb5.cell 1
      have c4 := hb5.cell 4
      have c9 := hb5.cell 9
      have z9 := hb5.frozen 9
      have z10 := hb5.frozen 10
      have c10 := hb5.cell 10
      simp only [List.getElem?_cons_zero, List.getElem?_cons_succ] at c0 c1 c4 c9 c10
      clear hp5 hk5 hb5 c3 c6
      cases vo with
      | none =>
        obtain ⟨rfl, rfl, rfl⟩ : vA = none ∧ vn = 0 ∧ vc = 0 := by
          have h : (Value.slice vA vn vc) = .slice none 0 0 := HB.out.2.2
          injection h with h1 h2 h3
          exact ⟨h1, h2, h3⟩
        go_wp2_with fail
        refine (p187 p _ _ none _ _ (by exact H5.out.1) (by omega) rfl (by simp [ol])).mono ?_
        rintro e w6 ⟨rfl, hp6, hk6⟩
        have hb6 := H5.out.2.1.kept hk6 (by simpa using Ne.symm hpr) (.inr hst)
        have H6 := Lib.hid (And.intro hp6 (And.intro hb6 (H5.out.2.2.trans hk6 (fun x hx => .inl hx) (fun x hx => .inl (by simp at hx ⊢; exact .inl hx)))))
        clear hp6 hk6 hb6 c0 c1 c4 c9 z9 z10 c10
        go_wp2_with fail
        refine (pop184_264 p _ ⟨w.heap.size, 0, none⟩ stk _ (by have h := H6.out.1; rw [← HST.out] at h; exact h) (by omega)).mono ?_
        rintro e w7 ⟨rfl, hp7, hk7⟩
        have hb7 := H6.out.2.1.kept hk7 (by simpa using Ne.symm hpr) (.inr hst)
        have hkw := H6.out.2.2.trans hk7 (fun x hx => .inl hx) (fun x hx => .inl (by simp at hx ⊢; exact .inl hx))
        have hSS : ∀ s ∈ [p, r], D ≤ s ∨ ∃ t cs, t ≠ 5 ∧ Blk w s t cs := fun s hs => by
          simp at hs
          rcases hs with rfl | rfl
          · exact .inl hDp
          · exact .inr ⟨120, _, by decide, HB.out.1⟩
        have hM7 : MsgAt w7 D r 0 la sec nsec ko none false := ⟨_, _, _, _, hb7, HB.out.2.1.kept hkw hSS, HB.out.2.2.kept hkw hSS, rfl⟩
        have HF := Lib.hid (And.intro hp7 (And.intro hM7 hkw))
        clear hp7 hM7 hkw hb7 hk7
        go_wp2
        go_ret
        exact ⟨rfl, HF.out⟩
      | some l =>
        obtain ⟨a, rfl, rfl⟩ : ∃ a, vA = some a ∧ vn = l.length := by
          obtain ⟨a, c, h⟩ := HB.out.2.2.sl
          injection h with h1 h2 h3
          exact ⟨a, h1, h2⟩
        go_wp2_with fail
        go_quiet ((go_at_call 152; exact Calls.quiet_of_same (c152 _ _ _ _ _)))
        go_wp2_with fail
        have hks : Kept B [p, r] w (((w5.drewN nq).setCell ⟨r, 9, none⟩ (.slice (some a) l.length vc)).setCell ⟨r, 10, none⟩ (.int .i64 l.length)) := ((H5.out.2.2.drewN nq).setCell (p := ⟨r, 9, none⟩) (.inl (by simp)) _).setCell (p := ⟨r, 10, none⟩) (.inl (by simp)) _
        have hkr : Kept w5.heap.size [r] w5 (((w5.drewN nq).setCell ⟨r, 9, none⟩ (.slice (some a) l.length vc)).setCell ⟨r, 10, none⟩ (.int .i64 l.length)) := (((Kept.refl _ _ _).drewN nq).setCell (p := ⟨r, 9, none⟩) (.inl (by simp)) _).setCell (p := ⟨r, 10, none⟩) (.inl (by simp)) _
        have hbs := ((H5.out.2.1.drewN nq).set_ 9 (.slice (some a) l.length vc)).set_ 10 (.int .i64 l.length)
        have hps := pe_far H5.out.1 hkr (fun x hx => by simp at hx; subst hx; exact ⟨_, _, H5.out.2.1, by decide, by decide⟩)
        have HS := Lib.hid (And.intro hps (And.intro hbs hks))
        clear hks hkr hbs hps c0 c1 c4 c9 z9 z10 c10
        generalize (((w5.drewN nq).setCell ⟨r, 9, none⟩ (.slice (some a) l.length vc)).setCell ⟨r, 10, none⟩ (.int .i64 l.length)) = ws at HS ⊢
        refine (p187 p _ _ (some l) _ _ (by exact HS.out.1) (by omega) HB.out.2.2.sl (by omega)).mono ?_
        rintro e w6 ⟨rfl, hp6, hk6⟩
        have hb6 := HS.out.2.1.kept hk6 (by simpa using Ne.symm hpr) (.inr hst)
        have H6 := Lib.hid (And.intro hp6 (And.intro hb6 (HS.out.2.2.trans hk6 (fun x hx => .inl hx) (fun x hx => .inl (by simp at hx ⊢; exact .inl hx)))))
        clear hp6 hk6 hb6
        go_wp2_with fail
        refine (pop184_264 p _ ⟨w.heap.size, 0, none⟩ stk _ (by have h := H6.out.1; rw [← HST.out] at h; exact h) (by omega)).mono ?_
        rintro e w7 ⟨rfl, hp7, hk7⟩
        have hb7 := H6.out.2.1.kept hk7 (by simpa using Ne.symm hpr) (.inr hst)
        have hkw := H6.out.2.2.trans hk7 (fun x hx => .inl hx) (fun x hx => .inl (by simp at hx ⊢; exact .inl hx))
        have hSS : ∀ s ∈ [p, r], D ≤ s ∨ ∃ t cs, t ≠ 5 ∧ Blk w s t cs := fun s hs => by
          simp at hs
          rcases hs with rfl | rfl
          · exact .inl hDp
          · exact .inr ⟨120, _, by decide, HB.out.1⟩
        have hM7 : MsgAt w7 D r 0 la sec nsec ko (some l) false := ⟨_, _, _, _, hb7, HB.out.2.1.kept hkw hSS, HB.out.2.2.kept hkw hSS, rfl⟩
        have HF := Lib.hid (And.intro hp7 (And.intro hM7 hkw))
        clear hp7 hM7 hkw hb7 hk7
        go_wp2
        go_ret
        exact ⟨rfl, HF.out⟩
end Go.Proofs.YtmiflkccfieefaaGreatDoor
