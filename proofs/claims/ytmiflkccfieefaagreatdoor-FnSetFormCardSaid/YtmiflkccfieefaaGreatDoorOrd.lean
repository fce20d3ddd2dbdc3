/-
  A drawn region whose last operation, number n, waits for every other: a load may be taken first if no operation but the last writes what it reads.
-/
import Derived.OrdersHeld
import Derived.StillTail
import Derived.Deep.RegionHeld3
import Derived.Test.YtmiflkccfieefaaGreatDoorByt
namespace Go.Proofs.YtmiflkccfieefaaGreatDoor
open Go.ChangeShapes Go.WideShapes Go.ChangeAt Go.RowKit
set_option linter.unusedVariables false

section
variable {P : Program} {ops : Array Oper} {Q : Exit → Act → World → Prop} {md : Region.Mode} {S : World → Prop} {n : Nat}

/-- Whatever order is drawn: behind each operation S holds, as long as number n has not come up. -/
def wpE (P : Program) (md : Region.Mode) (ops : Array Oper) (Q : Exit → Act → World → Prop) (S : World → Prop) (n : Nat) : Nat → Array Bool → Act → World → Prop
  | 0, listed, a, w => Region.ready md ops listed = [] ∧ Q .normal a w
  | fuel + 1, listed, a, w => (Region.ready md ops listed = [] → Q .normal a w) ∧
      ∀ i ∈ Region.ready md ops listed, wpOp P ops Q i (fun a' w' => ((listed.setIfInBounds i true).getD n true = false → S w') ∧ wpE P md ops Q S n fuel (listed.setIfInBounds i true) a' w') a w

theorem wpAny_of_E : ∀ (fuel : Nat) (listed : Array Bool) (a : Act) (w : World), wpE P md ops Q S n fuel listed a w → wpAny P md ops Q fuel listed a w
  | 0, _, _, _, h => h
  | fuel + 1, _, _, _, h => ⟨h.1, fun i hi => wpOp_mono (fun a' w' h' => wpAny_of_E fuel _ a' w' h'.2) (h.2 i hi)⟩

theorem wpE_first {i : Nat} {oi : Oper} {v : Value} (hi : ops[i]? = some oi) (hsel : ∀ (j : Nat) (o : Oper) cs b, ops[j]? = some o → o.op ≠ .select cs b) (hni : n ≠ i) (hwait : Region.waitsFor md ops n i = true)
    (hQ : ∀ c a w, Q (.panic c) (a.put oi.dst v) w → Q (.panic c) a w) :
    ∀ (fuel : Nat) (listed : Array Bool) (a : Act) (w : World),
      (∀ j oj, ops[j]? = some oj → j ≠ i → listed.getD j true = false → (∀ e ∈ oj.after, Region.binds md e = true → e.on ≠ i) → oi.apart ops oj = true) →
      i ∈ Region.ready md ops listed → listed.getD n true = false → YieldsIf P ops S oi v a → S w →
      wpE P md ops Q S n fuel (listed.setIfInBounds i true) (a.put oi.dst v) w → wpE P md ops Q S n (fuel + 1) listed a w := by
  intro fuel
  have notn : ∀ (listed : Array Bool) (j : Nat), i ∈ Region.ready md ops listed → j ∈ Region.ready md ops listed → j ≠ n := by
    rintro listed j hr hj rfl
    obtain ⟨on, hon, e, he, hb, heo⟩ := Region.waitsFor_spec hwait
    obtain ⟨_, on', hon', hall⟩ := mem_ready.1 hj
    have : on' = on := Option.some.inj (hon'.symm.trans hon)
    subst this
    have h1 := hall e he hb
    rw [heo, getD_both (mem_ready.1 hr).1] at h1
    cases h1
  induction fuel with
  | zero =>
    intro listed a w _ hr _ hy hS H
    refine ⟨fun h => (by rw [h] at hr; cases hr), fun j hj => ?_⟩
    by_cases hji : j = i
    · subst hji; exact hy.wpOp hi hS ⟨fun _ => hS, H⟩
    · have := ready_mono hj hji
      rw [H.1] at this
      cases this
  | succ fuel ih =>
    intro listed a w hfree hr hun0 hy hS H
    refine ⟨fun h => (by rw [h] at hr; cases hr), fun j hj => ?_⟩
    by_cases hji : j = i
    · subst hji; exact hy.wpOp hi hS ⟨fun _ => hS, H⟩
    · have h1 := H.2 j (ready_mono hj hji)
      obtain ⟨hjun, oj, hoj, hall⟩ := mem_ready.1 hj
      have hnot : ∀ e ∈ oj.after, Region.binds md e = true → e.on ≠ i := fun e he hb heq => by
        have h1 := hall e he hb
        rw [heq, getD_both (mem_ready.1 hr).1] at h1
        cases h1
      have hjn := notn listed j hr hj
      have h2 := wpOp_putIf hoj (hfree j oj hoj hji hjun hnot) (fun cs b => hsel i oi cs b hi) (fun cs b => hsel j oj cs b hoj) hQ hy h1
      have hfree' : ∀ k ok, ops[k]? = some ok → k ≠ i → (listed.setIfInBounds j true).getD k true = false →
          (∀ e ∈ ok.after, Region.binds md e = true → e.on ≠ i) → oi.apart ops ok = true := fun k ok hk hki hun hno => by
        refine hfree k ok hk hki ?_ hno
        by_cases hjk : j = k
        · subst hjk; exact hjun
        · rw [getD_set_ne true hjk] at hun; exact hun
      have hnj : (listed.setIfInBounds j true).getD n true = false := by rw [getD_set_ne true hjn]; exact hun0
      have hnij : ((listed.setIfInBounds i true).setIfInBounds j true).getD n true = false := by rw [getD_set_ne true hjn, getD_set_ne true (Ne.symm hni)]; exact hun0
      refine wpOp_mono (fun a' w' h3 => ⟨fun _ => h3.2.1 hnij, ih (listed.setIfInBounds j true) a' w' hfree' (ready_mono hr (Ne.symm hji)) hnj h3.1 (h3.2.1 hnij) ?_⟩) h2
      rw [Array.setIfInBounds_comm _ _ hji]
      exact h3.2.2

theorem wpE_take {i : Nat} {oi : Oper} {v : Value} {fuel : Nat} {listed : Array Bool} {a : Act} {w : World} (hi : ops[i]? = some oi)
    (hs : Region.noSelect ops = true) (hf : Region.free md ops listed i = true) (hr : (Region.ready md ops listed).contains i = true)
    (hn : (!(n == i) && Region.waitsFor md ops n i && !(listed.getD n true)) = true)
    (hQ : ∀ c a w, Q (.panic c) (a.put oi.dst v) w → Q (.panic c) a w) (hS : S w) (hy : YieldsIf P ops S oi v a)
    (h : wpE P md ops Q S n fuel (listed.setIfInBounds i true) (a.put oi.dst v) w) : wpE P md ops Q S n (fuel + 1) listed a w := by
  simp only [Bool.and_eq_true, Bool.not_eq_true', beq_eq_false_iff_ne] at hn
  exact wpE_first hi (Region.noSelect_spec hs) hn.1.1 hn.1.2 hQ fuel listed a w (Region.free_spec hi hf) (by simpa using hr) hn.2 hy hS h

/-- One operation alone may come up. -/
theorem wpE_one {i : Nat} {o : Oper} {fuel : Nat} {listed : Array Bool} {a : Act} {w : World} (hi : ops[i]? = some o) (hr : Region.ready md ops listed = [i])
    (h : ∀ K' : Act → World → Prop, Shut (∀ a w, ((listed.setIfInBounds i true).getD n true = false → S w) → wpE P md ops Q S n fuel (listed.setIfInBounds i true) a w → K' a w) →
      if Region.wanted o (yielded ops a.tmps) = true then Oper.wp P o a w K' Q else K' (a.put o.dst undef) w) : wpE P md ops Q S n (fuel + 1) listed a w := by
  refine ⟨fun h0 => (by rw [hr] at h0; cases h0), fun j hj => ?_⟩
  rw [hr] at hj
  have : j = i := by simpa using hj
  subst this
  exact wpOp_step hi (fun K' hK => h K' (fun a w hS hW => hK a w ⟨hS, hW⟩))

theorem wpE_takeL {l : List Oper} {i : Nat} {oi : Oper} {v : Value} {fuel : Nat} {listed : Array Bool} {a : Act} {w : World} (hi : l[i]? = some oi)
    (hs : Region.noSelect l.toArray = true) (hf : Region.free md l.toArray listed i = true) (hr : (Region.ready md l.toArray listed).contains i = true)
    (hn : (!(n == i) && Region.waitsFor md l.toArray n i && !(listed.getD n true)) = true)
    (hQ : ∀ c a w, Q (.panic c) (a.put oi.dst v) w → Q (.panic c) a w) (hS : S w) (hy : YieldsIf P l.toArray S oi v a)
    (h : wpE P md l.toArray Q S n fuel (listed.setIfInBounds i true) (a.put oi.dst v) w) : wpE P md l.toArray Q S n (fuel + 1) listed a w :=
  wpE_take (by simpa using hi) hs hf hr hn hQ hS hy h
theorem wpE_oneL {l : List Oper} {i : Nat} {o : Oper} {fuel : Nat} {listed : Array Bool} {a : Act} {w : World} (hi : l[i]? = some o) (hr : Region.ready md l.toArray listed = [i])
    (h : ∀ K' : Act → World → Prop, Shut (∀ a w, ((listed.setIfInBounds i true).getD n true = false → S w) → wpE P md l.toArray Q S n fuel (listed.setIfInBounds i true) a w → K' a w) →
      if Region.wanted o (yielded l.toArray a.tmps) = true then Oper.wp P o a w K' Q else K' (a.put o.dst undef) w) : wpE P md l.toArray Q S n (fuel + 1) listed a w :=
  wpE_one (by simpa using hi) hr h

theorem wpE_done {listed : Array Bool} {a : Act} {w : World} (hr : Region.ready md ops listed = []) (h : Q .normal a w) : ∀ fuel, wpE P md ops Q S n fuel listed a w
  | 0 => ⟨hr, h⟩
  | _ + 1 => ⟨fun _ => h, by rw [hr]; simp⟩

theorem wp_region_E {id : Nat} {a : Act} {w : World} (n : Nat) (S : World → Prop) (hm : P.follows .mixedOrders = true)
    (h : wpE P .any ops (NoPanic Q) S n ops.size (Array.replicate ops.size false) a w.drew) : (Code.region id ops true).wp P Q a w :=
  wp_region_noPanic (wp_region_any hm (wpAny_of_E _ _ _ _ h))
end
end Go.Proofs.YtmiflkccfieefaaGreatDoor
