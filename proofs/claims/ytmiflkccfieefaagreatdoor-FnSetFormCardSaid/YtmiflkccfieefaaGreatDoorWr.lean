/-
  What carries the encoding out: the interface's test, the closure, the call that recovers, the copy.
-/
import Derived.Test.YtmiflkccfieefaaGreatDoorRin
import Derived.Test.YtmiflkccfieefaaGreatDoorEnc
import Derived.Test.YtmiflkccfieefaaGreatDoorAsrt
namespace Go.Proofs.YtmiflkccfieefaaGreatDoor
open Go.ChangeShapes Go.WideShapes Go.ChangeAt Go.RowKit
set_option maxRecDepth 100000
set_option linter.unusedVariables false
set_option linter.unusedSimpArgs false

/-- What encoding leaves, of the data at block r. -/
def EncPost (r : Nat) (bs : List UInt8) (W : World) (e : Ending) (w' : World) : Prop :=
  ∃ g, e = .returned (.tuple #[.slice (some ⟨g, 0, none⟩) bs.length bs.length, .nilIface]) ∧ W.heap.size ≤ g ∧ Blk w' g 5 (Lib.byteCells bs) ∧ Kept W.heap.size [r] W w'
theorem f81_94 (r : Nat) (bs : List UInt8) (W : World) (H : Calls Tryz.prog 97 #[.iface 94 (.pointer (some ⟨r, 0, none⟩))] W (EncPost r bs W)) :
    Calls Tryz.prog 81 #[.iface 94 (.pointer (some ⟨r, 0, none⟩))] W (EncPost r bs W) := by
  go_enter Tryz.func81, Tryz.ntmps81
  go_wp2_with (go_at_call 97; refine H.mono ?_; rintro e w1 ⟨g, rfl, hg, hb, hk⟩; have HR := Lib.hid (And.intro hg (And.intro hb hk)); clear hg hb hk)
  go_wp2
  go_ret2
  exact ⟨g, rfl, HR.out⟩
theorem f81_113 (r : Nat) (bs : List UInt8) (W : World) (H : Calls Tryz.prog 97 #[.iface 113 (.pointer (some ⟨r, 0, none⟩))] W (EncPost r bs W)) :
    Calls Tryz.prog 81 #[.iface 113 (.pointer (some ⟨r, 0, none⟩))] W (EncPost r bs W) := by
  go_enter Tryz.func81, Tryz.ntmps81
  go_wp2_with (go_at_call 97; refine H.mono ?_; rintro e w1 ⟨g, rfl, hg, hb, hk⟩; have HR := Lib.hid (And.intro hg (And.intro hb hk)); clear hg hb hk)
  go_wp2
  go_ret2
  exact ⟨g, rfl, HR.out⟩
theorem f81_116 (r : Nat) (bs : List UInt8) (W : World) (H : Calls Tryz.prog 97 #[.iface 116 (.pointer (some ⟨r, 0, none⟩))] W (EncPost r bs W)) :
    Calls Tryz.prog 81 #[.iface 116 (.pointer (some ⟨r, 0, none⟩))] W (EncPost r bs W) := by
  go_enter Tryz.func81, Tryz.ntmps81
  go_wp2_with (go_at_call 97; refine H.mono ?_; rintro e w1 ⟨g, rfl, hg, hb, hk⟩; have HR := Lib.hid (And.intro hg (And.intro hb hk)); clear hg hb hk)
  go_wp2
  go_ret2
  exact ⟨g, rfl, HR.out⟩
theorem f80 (K r p0 p1 p2 : Nat) (bs : List UInt8) (u1 u2 : Value) (W : World) (h0 : W.cell? ⟨p0, 0, none⟩ = some (.iface K (.pointer (some ⟨r, 0, none⟩)))) (h1 : Blk W p1 23 [u1]) (h2 : Blk W p2 4 [u2]) (hr1 : p1 ≠ r) (hr2 : p2 ≠ r)
    (HE : Calls Tryz.prog 81 #[.iface K (.pointer (some ⟨r, 0, none⟩))] W (EncPost r bs W)) :
    Calls Tryz.prog 80 #[.pointer (some ⟨p0, 0, none⟩), .pointer (some ⟨p1, 0, none⟩), .pointer (some ⟨p2, 0, none⟩)] W fun e w' => e = .returned (.tuple #[]) ∧
      ∃ g, W.heap.size ≤ g ∧ Blk w' g 5 (Lib.byteCells bs) ∧ Blk w' p1 23 [.slice (some ⟨g, 0, none⟩) bs.length bs.length] ∧ Blk w' p2 4 [.bool true] ∧ Kept W.heap.size [r, p1, p2] W w' := by
  have H := Lib.hid (And.intro h1 h2)
  have h12 : p1 ≠ p2 := h1.ne_ h2 (by decide)
  clear h1 h2
  go_enter Tryz.func80, Tryz.ntmps80
  go_wp2_with (go_at_call 81; refine HE.mono ?_; rintro e w1 ⟨g, rfl, hg, hb, hk⟩)
  have hp1 := H.out.1.kept hk (by simpa using hr1) (.inr (by rintro (h5 | h5) <;> exact absurd h5 (by decide)))
  have hp2 := H.out.2.kept hk (by simpa using hr2) (.inr (by rintro (h5 | h5) <;> exact absurd h5 (by decide)))
  have c1 := hp1.cell 0
  have z1 := hp1.frozen 0
  have c2 := hp2.cell 0
  have z2 := hp2.frozen 0
  simp only [List.getElem?_cons_zero] at c1 c2
  have hlt1 := H.out.1.lt
  have hlt2 := H.out.2.lt
  have hg1 : g ≠ p1 := by omega
  have hg2 : g ≠ p2 := by omega
  have HR := Lib.hid (And.intro hb (And.intro hk (And.intro hp1 hp2)))
  clear hb hk hp1 hp2
  go_wp2_with fail
  go_region
  all_goals
    go_wp2
    go_end0
    refine ⟨rfl, g, hg, ?_, ?_, ?_, ?_⟩
    · exact ((HR.out.1.far (p := ⟨_, 0, none⟩) (by assumption) _).far (p := ⟨_, 0, none⟩) (by assumption) _).drew
    · first
        | exact ((HR.out.2.2.1.set_ 0 _).far (p := ⟨p2, 0, none⟩) h12 _).drew
        | exact ((HR.out.2.2.1.far (p := ⟨p2, 0, none⟩) h12 _).set_ 0 _).drew
    · first
        | exact ((HR.out.2.2.2.far (p := ⟨p1, 0, none⟩) (Ne.symm h12) _).set_ 0 _).drew
        | exact ((HR.out.2.2.2.set_ 0 _).far (p := ⟨p1, 0, none⟩) (Ne.symm h12) _).drew
    · have hk3 : Kept W.heap.size [r, p1, p2] W w1 := HR.out.2.1.mono (Nat.le_refl _) (fun x hx => .inl (by simp at hx; simp [hx]))
      exact ((hk3.setCell (p := ⟨_, 0, none⟩) (.inl (by simp)) _).setCell (p := ⟨_, 0, none⟩) (.inl (by simp)) _).drew
theorem kept_alloc_base {S : List Nat} {a b : World} (o : Obj) (h : Kept (a.alloc o).heap.size S (a.alloc o) b) : Kept a.heap.size S a b :=
  ((Kept.refl a.heap.size S a).alloc o).trans (h.mono (by simp) (fun x hx => .inl hx)) (fun x hx => .inl hx) (fun x hx => .inl hx)

/-- impl.write. -/
theorem f50 (K r : Nat) (bs : List UInt8) (w : World) (hbs : bs.length ≤ 1000000) (hr : r < w.heap.size)
    (HE : ∀ W, Below w.heap.size w W → Calls Tryz.prog 81 #[.iface K (.pointer (some ⟨r, 0, none⟩))] W (EncPost r bs W)) :
    Calls Tryz.prog 50 #[.iface K (.pointer (some ⟨r, 0, none⟩))] w fun e w' => ∃ v, e = .returned (.tuple #[v, .bool true]) ∧ Own w' w.heap.size v bs ∧ Kept w.heap.size [r] w w' := by
  have hmf : ∀ (fn : Fn) (first cap : Array Value) (w : World), (Instr.makeFunc fn first cap).run Tryz.prog w = .ok (.func fn first cap) w := fun _ _ _ _ => rfl
  have hp0 : Blk (((w.alloc (.cells #[.iface K (.pointer (some ⟨r, 0, none⟩))] 20)).alloc (.cells #[.slice none 0 0] 23)).alloc (.cells #[.bool false] 4)) w.heap.size 20 [.iface K (.pointer (some ⟨r, 0, none⟩))] := ((Blk.new w 20 [.iface K (.pointer (some ⟨r, 0, none⟩))]).alloc _).alloc _
  have hp1 : Blk (((w.alloc (.cells #[.iface K (.pointer (some ⟨r, 0, none⟩))] 20)).alloc (.cells #[.slice none 0 0] 23)).alloc (.cells #[.bool false] 4)) (w.heap.size + 1) 23 [.slice none 0 0] := by
    have h := (Blk.new (w.alloc (.cells #[.iface K (.pointer (some ⟨r, 0, none⟩))] 20)) 23 [.slice none 0 0]).alloc (.cells #[.bool false] 4)
    simpa using h
  have hp2 : Blk (((w.alloc (.cells #[.iface K (.pointer (some ⟨r, 0, none⟩))] 20)).alloc (.cells #[.slice none 0 0] 23)).alloc (.cells #[.bool false] 4)) (w.heap.size + 2) 4 [.bool false] := by
    have h := Blk.new ((w.alloc (.cells #[.iface K (.pointer (some ⟨r, 0, none⟩))] 20)).alloc (.cells #[.slice none 0 0] 23)) 4 [.bool false]
    simpa using h
  have hk3 : Kept w.heap.size [r] w (((w.alloc (.cells #[.iface K (.pointer (some ⟨r, 0, none⟩))] 20)).alloc (.cells #[.slice none 0 0] 23)).alloc (.cells #[.bool false] 4)) := (((Kept.refl _ _ _).alloc _).alloc _).alloc _
  have hbw : Below w.heap.size w (((w.alloc (.cells #[.iface K (.pointer (some ⟨r, 0, none⟩))] 20)).alloc (.cells #[.slice none 0 0] 23)).alloc (.cells #[.bool false] 4)) := ((((Below.refl _ _).alloc (Nat.le_refl _) _).alloc (by simp) _).alloc (by simp; omega) _)
  have hs3 : (((w.alloc (.cells #[.iface K (.pointer (some ⟨r, 0, none⟩))] 20)).alloc (.cells #[.slice none 0 0] 23)).alloc (.cells #[.bool false] 4)).heap.size = w.heap.size + 3 := by simp
  have hfin : ∀ w3 : World, Blk w3 w.heap.size 20 [.iface K (.pointer (some ⟨r, 0, none⟩))] → Blk w3 (w.heap.size + 1) 23 [.slice none 0 0] → Blk w3 (w.heap.size + 2) 4 [.bool false] → Kept w.heap.size [r] w w3 → Below w.heap.size w w3 → w3.heap.size = w.heap.size + 3 →
      Calls Tryz.prog 67 #[.func (.func 80) #[] #[.pointer (some ⟨w.heap.size, 0, none⟩), .pointer (some ⟨w.heap.size + 1, 0, none⟩), .pointer (some ⟨w.heap.size + 2, 0, none⟩)]] w3 fun e w' => e = .returned (.bool true) ∧
        ∃ g, w.heap.size + 3 < g ∧ Blk w' g 5 (Lib.byteCells bs) ∧ Blk w' (w.heap.size + 1) 23 [.slice (some ⟨g, 0, none⟩) bs.length bs.length] ∧ Blk w' (w.heap.size + 2) 4 [.bool true] ∧ Kept w.heap.size [r] w w' := by
    intro w3 hp0 hp1 hp2 hk3 hbw hs3
    have hst : ∀ t : TypeId, t = 20 ∨ t = 23 ∨ t = 4 ∨ t = 5 → ¬ stackT t := by
      rintro t ht (h5 | h5) <;> rw [h5] at ht <;> rcases ht with h | h | h | h <;> exact absurd h (by decide)
    have hb3 : Blk (w3.alloc (.cells #[.bool false] 4)) w3.heap.size 4 [.bool false] := Blk.new _ _ _
    have h80 := f80 K r w.heap.size (w.heap.size + 1) (w.heap.size + 2) bs _ _ (w3.alloc (.cells #[.bool false] 4)) ((hp0.alloc _).cell 0) (hp1.alloc _) (hp2.alloc _) (by omega) (by omega) (HE _ (hbw.alloc (by omega) _))
    refine (s67 80 _ w3 (fun w' => ∃ g, (w3.alloc (.cells #[.bool false] 4)).heap.size ≤ g ∧ Blk w' g 5 (Lib.byteCells bs) ∧ Blk w' (w.heap.size + 1) 23 [.slice (some ⟨g, 0, none⟩) bs.length bs.length] ∧ Blk w' (w.heap.size + 2) 4 [.bool true] ∧ Kept (w3.alloc (.cells #[.bool false] 4)).heap.size [r, w.heap.size + 1, w.heap.size + 2] (w3.alloc (.cells #[.bool false] 4)) w') h80 ?_ (fun W => enters_of Tryz.func80 (by kernel_rfl) rfl _ W)).mono ?_
    · rintro w' ⟨g, hg, q1, q2, q3, q4⟩
      have h := hb3.kept q4 (by simp; omega) (.inr (hst 4 (by simp)))
      exact ⟨false, h.cell 0, h.frozen 0⟩
    · rintro e w' ⟨rfl, w1, ⟨g, hg, q1, q2, q3, q4⟩, rfl⟩
      simp at hg
      have hkk : Kept w.heap.size [r] w w1 := (hk3.alloc _).trans (q4.mono (by simp; omega) (fun x hx => .inl hx)) (fun x hx => .inl hx) (fun x hx => by
        simp at hx
        rcases hx with rfl | rfl | rfl
        · exact .inl (by simp)
        · exact .inr (by omega)
        · exact .inr (by omega))
      exact ⟨rfl, g, by omega, (q1.far (p := ⟨w3.heap.size, 0, none⟩) (show g ≠ w3.heap.size by omega) _).far (p := ⟨w3.heap.size, 0, none⟩) (show g ≠ w3.heap.size by omega) _,
        (q2.far (p := ⟨w3.heap.size, 0, none⟩) (show w.heap.size + 1 ≠ w3.heap.size by omega) _).far (p := ⟨w3.heap.size, 0, none⟩) (show w.heap.size + 1 ≠ w3.heap.size by omega) _,
        (q3.far (p := ⟨w3.heap.size, 0, none⟩) (show w.heap.size + 2 ≠ w3.heap.size by omega) _).far (p := ⟨w3.heap.size, 0, none⟩) (show w.heap.size + 2 ≠ w3.heap.size by omega) _,
        (hkk.setCell (p := ⟨w3.heap.size, 0, none⟩) (.inr (by show w.heap.size ≤ w3.heap.size; omega)) _).setCell (p := ⟨w3.heap.size, 0, none⟩) (.inr (by show w.heap.size ≤ w3.heap.size; omega)) _⟩
  have h67 := hfin _ hp0 hp1 hp2 hk3 hbw hs3
  clear hfin hp0 hp1 hp2 hk3 hbw HE
  go_enter Tryz.func50, Tryz.ntmps50
  go_wp2_with (first
    | (go_at_call 67
       refine h67.mono ?_
       rintro e w5 ⟨rfl, g, hg, q1, q2, q3, q4⟩
       have c2 := q3.cell 0
       have c1 := q2.cell 0
       simp only [List.getElem?_cons_zero] at c1 c2
       have hw5 := q4.size
       have hb5 : BytesAt w5 w5.heap.size (.slice (some ⟨g, 0, none⟩) bs.length bs.length) bs := ⟨⟨g, 0, none⟩, bs.length, _, (0, 0), rfl, q1.lt, q1, World.news_of_block q1⟩
       have hcp := copied (.slice (some ⟨g, 0, none⟩) bs.length bs.length) bs w5.heap.size w5 (.inl hb5) hbs (Nat.le_refl _))
    | (go_at_call 70
       refine hcp.mono ?_
       rintro e w6 ⟨v, rfl, ho, hb6⟩
       obtain ⟨g6, cap6, cur6, hv6, _⟩ := ho.form
       subst hv6
       have r2 := q2.below hb6 q2.lt
       have r3 := q3.below hb6 q3.lt
       have e1 := r2.cell 0
       have z1 := r2.frozen 0
       have e2 := r3.cell 0
       have z2 := r3.frozen 0
       simp only [List.getElem?_cons_zero] at e1 e2
       have hk6 : Kept w.heap.size [r] w w6 := q4.trans (Kept.of_below hb6 []) (fun x hx => .inl hx) (fun x hx => by cases hx)
       have hF : Own ((w6.setCell ⟨w.heap.size + 1, 0, none⟩ (.slice (some ⟨g6, 0, none⟩) bs.length cap6)).setCell ⟨w.heap.size + 2, 0, none⟩ (.bool true)) w.heap.size (.slice (some ⟨g6, 0, none⟩) bs.length cap6) bs :=
         ⟨own_setCell (own_setCell (World.ownsRow.mono ho.1 hw5) r2 (by decide) 0 _) (r3.far (p := ⟨w.heap.size + 1, 0, none⟩) (show w.heap.size + 2 ≠ w.heap.size + 1 by omega) _) (by decide) 0 _, by simp⟩
       have hkF : Kept w.heap.size [r] w ((w6.setCell ⟨w.heap.size + 1, 0, none⟩ (.slice (some ⟨g6, 0, none⟩) bs.length cap6)).setCell ⟨w.heap.size + 2, 0, none⟩ (.bool true)) := (hk6.setCell (p := ⟨w.heap.size + 1, 0, none⟩) (.inr (by show w.heap.size ≤ w.heap.size + 1; omega)) _).setCell (p := ⟨w.heap.size + 2, 0, none⟩) (.inr (by show w.heap.size ≤ w.heap.size + 2; omega)) _
       have s1 := ((r2.set_ 0 (.slice (some ⟨g6, 0, none⟩) bs.length cap6)).far (p := ⟨w.heap.size + 2, 0, none⟩) (show w.heap.size + 1 ≠ w.heap.size + 2 by omega) (.bool true)).cell 0
       have s2 := ((r3.far (p := ⟨w.heap.size + 1, 0, none⟩) (show w.heap.size + 2 ≠ w.heap.size + 1 by omega) (.slice (some ⟨g6, 0, none⟩) bs.length cap6)).set_ 0 (.bool true)).cell 0
       simp only [List.set_cons_zero, List.getElem?_cons_zero] at s1 s2
       have HF := Lib.hid (And.intro hF hkF)
       have HS := Lib.hid (And.intro s1 s2)
       clear ho hb6 hF hkF s1 s2))
  go_wp2
  have s1 := HS.out.1
  have s2 := HS.out.2
  try simp only [Exit.inBlock, Exit.then]
  refine ⟨rfl, .tuple #[.slice (some ⟨g6, 0, none⟩) bs.length cap6, .bool true], ?_, _, rfl, HF.out⟩
  simp [results, Tryz.results50, go_sem, s1, s2]
end Go.Proofs.YtmiflkccfieefaaGreatDoor
