/-
  The encoders give up the last field of their stacks: what the field then does.
-/
import Derived.Test.YtmiflkccfieefaaGreatDoorPushLeaf
import Derived.Test.YtmiflkccfieefaaGreatDoorAsrt
namespace Go.Proofs.YtmiflkccfieefaaGreatDoor
open Go.ChangeShapes Go.WideShapes Go.ChangeAt Go.RowKit
set_option maxRecDepth 100000
set_option linter.unusedVariables false

theorem l260 (r o tr : Nat) (cs : List Value) (n so m : Int) (w : World) (hr : Blk w r tr cs) (hso : cs[o]? = some (.int .i64 so)) (hm : cs[o + 1]? = some (.int .i64 m))
    (hm0 : -9223372036854775808 ≤ m) (hm1 : m ≤ 9223372036854775807) (hn0 : 0 ≤ n) (hn1 : n ≤ 1000000000) (hs0 : 0 ≤ so) (hs1 : so ≤ 1000000000) :
    Calls Tryz.prog 260 #[.pointer (some ⟨r, o, none⟩), .int .i64 n] w fun e w' => e = .returned (.int .i64 ((vb (n - so - (vb m).length)).length - (vb m).length)) ∧
      Blk w' r tr (cs.set (o + 1) (.int .i64 (n - so - (vb m).length))) ∧ Kept w.heap.size [r] w w' := by
  have hvm := vb_le hm0 hm1
  have hvn := vb_le (x := n - so - (vb m).length) (by omega) (by omega)
  have hrl := hr.lt
  have hcs := hr.cell o
  have hcm := (hr.cell (o + 1)).trans hm
  rw [hso] at hcs
  have HR := Lib.hid hr
  have tail : ∀ w1, Kept w.heap.size [] w w1 → w1.cell? ⟨r, o, none⟩ = some (.int .i64 so) ∧ w1.cell? ⟨r, o + 1, none⟩ = some (.int .i64 m) ∧ w1.frozen? ⟨r, o + 1, none⟩ = false := fun w1 hk =>
    ⟨(World.cell?_of_block (hk.block r hrl (by simp) (.inl hrl))).trans hcs, (World.cell?_of_block (hk.block r hrl (by simp) (.inl hrl))).trans hcm, (World.frozen?_of_block (hk.block r hrl (by simp) (.inl hrl))).trans (hr.frozen _)⟩
  clear hr hso hm
  go_enter Tryz.func260, Tryz.ntmps260
  go_wp2_with (go_at_call 263; refine (l263 r o m _ hm0 hm1 hcm).mono ?_)
  rintro e w1 ⟨rfl, hk1⟩
  obtain ⟨hc1, hc2, hf2⟩ := tail _ hk1
  go_wp2_with fail
  refine (l263 r o (n - so - (vb m).length) _ (by omega) (by omega) (by exact World.cell?_setCell_same w1 _ _ hc2)).mono ?_
  rintro e w2 ⟨rfl, hk2⟩
  have hk3 : Kept w.heap.size [r] w w2 := ((hk1.mono (Nat.le_refl _) (fun x hx => by cases hx)).setCell (p := ⟨r, o + 1, none⟩) (.inl (by simp)) _).trans (hk2.mono (by simpa using hk1.size) (fun x hx => by cases hx)) (fun x hx => .inl hx) (fun x hx => .inl hx)
  have hr1 : Blk w1 r tr cs := HR.out.kept hk1 (by simp) (.inl hrl)
  have hr2 : Blk w2 r tr (cs.set (o + 1) (.int .i64 (n - so - (vb m).length))) := (hr1.set_ (o + 1) _).kept hk2 (by simp) (.inl (hr1.set_ (o + 1) _).lt)
  have HF := Lib.hid (And.intro hr2 hk3)
  clear hk1 hk2 hk3 hr1 hr2 tail hc1 hc2 hf2
  go_wp2
  go_ret
  exact ⟨rfl, HF.out⟩
/-- The first cells of an owned row. -/
theorem own_form {w : World} {B : Nat} {e : TypeId} {sv x : Value} {stk : List Value} (h : w.ownsRow B e 1 sv (stk ++ [x]).length (stk ++ [x])) :
    ∃ g cap, sv = .slice (some ⟨g, 0, none⟩) (stk.length + 1) cap ∧ stk.length + 1 ≤ cap ∧ g < w.heap.size ∧ w.cell? ⟨g, stk.length, none⟩ = some x ∧ w.ownsRow B e 1 (.slice (some ⟨g, 0, none⟩) stk.length cap) stk.length stk := by
  rcases h.2 with ⟨rfl, hz⟩ | ⟨g, cap, cur, rfl, hb, hg, hn, hcap, hsz, htk⟩
  · simp at hz
  · simp only [List.length_append, List.length_cons, List.length_nil, Nat.zero_add, Nat.mul_one] at hn htk
    have hx : cur.toList[stk.length]? = some x := by
      have h2 : (cur.toList.take (stk.length + 1))[stk.length]? = some x := by rw [htk]; simp
      rwa [List.getElem?_take_of_lt (by omega)] at h2
    refine ⟨g, cap, by simp, hn, (Array.getElem?_eq_some_iff.1 hg).1, ?_, by simp, .inr ⟨g, cap, cur, rfl, hb, hg, by omega, hcap, hsz, ?_⟩⟩
    · rw [cell_of_row w g _ cur e (0, 0) hg]
      simpa using hx
    · have h3 : (cur.toList.take (stk.length + 1)).take stk.length = stk := by rw [htk]; simp
      rw [List.take_take, Nat.min_eq_left (by omega)] at h3
      simpa using h3

set_option maxHeartbeats 2000000 in
theorem pop184_253 {B : Nat} (p n : Nat) (r o tr : Nat) (cs : List Value) (so : Nat) (m : Int) (stk : List Value) (sv : Value) (w : World) (hBp : B ≤ p) (hp : Blk w p 178 [sv, .int .i64 n])
   (hown : w.ownsRow B 323 1 sv (stk ++ [Value.iface 253 (.pointer (some ⟨r, o, none⟩))]).length (stk ++ [Value.iface 253 (.pointer (some ⟨r, o, none⟩))])) (hn : n ≤ 1000000000) (hso1 : so ≤ 1000000000)
   (hr : Blk w r tr cs) (hencT : tr ≠ 178) (h323 : tr ≠ 323) (hc : cs[o]? = some (.int .i64 so)) (hm : cs[o + 1]? = some (.int .i64 m)) (hm0 : -9223372036854775808 ≤ m) (hm1 : m ≤ 9223372036854775807) (hs : stk.length ≤ 1000) :
    Calls Tryz.prog 184 #[.pointer (some ⟨p, 0, none⟩)] w fun e w' => e = .returned .nilIface ∧
      ∃ sv', Blk w' p 178 [sv', .int .i64 (n + ((vb (n - so - (vb m).length)).length - (vb m).length))] ∧ w'.ownsRow B 323 1 sv' stk.length stk ∧ Blk w' r tr (cs.set (o + 1) (.int .i64 (n - so - (vb m).length))) ∧ Kept B [p, r] w w' := by
  obtain ⟨g, cap, rfl, hcap, hgl, hgc, hown'⟩ := own_form hown
  have hpr : p ≠ r := hp.ne_ hr (Ne.symm hencT)
  have hpg := own_ne hown hp (by decide)
  have hrg := own_ne hown hr (Ne.symm h323)
  have h0 := hp.cell 0
  have h1 := hp.cell 1
  have f0 := hp.frozen 0
  have f1 := hp.frozen 1
  simp at h0 h1
  have HH := Lib.hid (And.intro hp (And.intro hr (And.intro hown' (And.intro hc hm))))
  have HO := Lib.hid hown
  clear hp hr hown' hown hc hm
  have i1 : (0 : Int) ≤ (stk.length : Int) + 1 - 1 := by omega
  have i3 : IntKind.i64.wrap (stk.length : Int) = stk.length := IntWalk.i64_in _ (by omega)
  have i4 : stk.length ≤ cap := by omega
  have i2 : IntKind.i64.wrap ((stk.length : Int) + 1 - 1) = stk.length := by rw [IntWalk.i64_in _ (by omega)]; omega
  go_enter Tryz.func184, Tryz.ntmps184
  go_wp2_with fail
  go_quiet (fail)
  go_wp2_with fail
  refine wp_region_still_tail 14 (by kernel_rfl) (by kernel_rfl) ?_
  show wpStill _ _ (World.drew _) (fun a' => wpList _ _ _ _ _ (World.drew _)) _ _
  simp only [List.take_succ_cons, List.take_zero, List.drop_succ_cons, List.drop_zero]
  repeat still_step
  refine wpStill_nil ?_
  go_wp2_with fail
  obtain ⟨hp, hr, hown', hc, hm⟩ := HH.out
  have hp2 : Blk ((w.drewN (nq + 1)).setCell ⟨p, 0, none⟩ (.slice (some ⟨g, 0, none⟩) stk.length cap)) p 178 [.slice (some ⟨g, 0, none⟩) stk.length cap, .int .i64 n] := (hp.drewN (nq + 1)).set_ 0 _
  have hr2 : Blk ((w.drewN (nq + 1)).setCell ⟨p, 0, none⟩ (.slice (some ⟨g, 0, none⟩) stk.length cap)) r tr cs := (hr.drewN (nq + 1)).far (p := ⟨p, 0, none⟩) (Ne.symm hpr) _
  have hk2 : Kept w.heap.size [p] w ((w.drewN (nq + 1)).setCell ⟨p, 0, none⟩ (.slice (some ⟨g, 0, none⟩) stk.length cap)) := ((Kept.refl _ _ _).drewN _).setCell (p := ⟨p, 0, none⟩) (.inl (by simp)) _
  have hown2 := own_kept hown' hk2 (fun x hx => by
    have : x = p := by simpa using hx
    subst this
    exact own_ne hown' hp (by decide))
  clear hp hr hown' HH h0 h1 f0 f1 hgc
  generalize ((w.drewN (nq + 1)).setCell ⟨p, 0, none⟩ (.slice (some ⟨g, 0, none⟩) stk.length cap)) = W2 at hp2 hr2 hk2 hown2 ⊢
  have h1 := hp2.cell 1
  have f1 := hp2.frozen 1
  simp at h1
  have hvm := vb_le hm0 hm1
  have hvn := vb_le (x := n - so - (vb m).length) (by omega) (by omega)
  have HW := Lib.hid (IntWalk.i64_in ((n : Int) + (((vb (n - so - (vb m).length)).length : Int) - ((vb m).length : Int))) (by omega))
  have hpl := hp2.lt
  have tail : ∀ w3, Kept W2.heap.size [r] W2 w3 → w3.cell? ⟨p, 1, none⟩ = some (.int .i64 n) ∧ w3.frozen? ⟨p, 1, none⟩ = false := fun w3 hk =>
    ⟨(World.cell?_of_block (hk.block p hpl (by simpa using hpr) (.inl hpl))).trans h1, (World.frozen?_of_block (hk.block p hpl (by simpa using hpr) (.inl hpl))).trans f1⟩
  have HH := Lib.hid (And.intro hp2 (And.intro hr2 (And.intro hk2 (And.intro hown2 (And.intro hc hm)))))
  clear hp2 hr2 hk2 hown2 hc hm
  go_region_with (go_at_call 260; refine (l260 r o tr cs n so m _ (by exact HH.out.2.1) HH.out.2.2.2.2.1 HH.out.2.2.2.2.2 hm0 hm1 (by omega) (by omega) (by omega) (by omega)).mono ?_; rintro e w3 ⟨rfl, hr3, hk3⟩; replace hk3 := Kept.undrew hk3; obtain ⟨h13, f13⟩ := tail w3 hk3; have HS := Lib.hid (And.intro hr3 hk3); clear hr3 hk3)
  all_goals
    rw [HW.out]
    obtain ⟨hr3, hk3⟩ := HS.out
    obtain ⟨hp2, hr2, hk2, hown2, _, _⟩ := HH.out
    have hkk : Kept W2.heap.size [p, r] W2 (w3.setCell ⟨p, 1, none⟩ (.int .i64 (n + ((vb (n - so - (vb m).length)).length - (vb m).length)))) := (hk3.mono (Nat.le_refl _) (fun x hx => .inl (by simp at hx ⊢; exact .inr hx))).setCell (p := ⟨p, 1, none⟩) (.inl (by simp)) _
    have hp4 := (hp2.kept hk3 (by simpa using hpr) (.inl hpl)).set_ 1 (.int .i64 (n + ((vb (n - so - (vb m).length)).length - (vb m).length)))
    have hr4 := hr3.far (p := ⟨p, 1, none⟩) (Ne.symm hpr) (.int .i64 (n + ((vb (n - so - (vb m).length)).length - (vb m).length)))
    have hown4 := own_kept hown2 hkk (fun x hx => by
      rcases List.mem_cons.1 hx with rfl | hx
      · exact own_ne hown2 hp2 (by decide)
      · have : x = r := by simpa using hx
        subst this
        exact own_ne hown2 hr2 (Ne.symm h323))
    have hlt : B ≤ w.heap.size := by
      have hs2 := hk2.size
      have := HO.out.lt g rfl
      omega
    have hk4 : Kept B [p, r] w (w3.setCell ⟨p, 1, none⟩ (.int .i64 (n + ((vb (n - so - (vb m).length)).length - (vb m).length)))) := (hk2.trans (hkk.mono hk2.size (fun x hx => .inl hx)) (fun x hx => .inl (by simp at hx ⊢; exact .inl hx)) (fun x hx => .inl hx)).mono hlt (fun x hx => .inl hx)
    have HF := Lib.hid (And.intro hp4 (And.intro hown4 (And.intro hr4 hk4)))
    clear hr3 hk3 hp2 hr2 hk2 hown2 hkk hp4 hr4 hown4 hk4
    go_wp2
    go_ret
    exact ⟨rfl, _, HF.out⟩
end Go.Proofs.YtmiflkccfieefaaGreatDoor
