/-
  Something is encoded: counted first, then written into as many bytes as were counted.
-/
import Derived.Test.YtmiflkccfieefaaGreatDoorFlex
import Derived.Test.YtmiflkccfieefaaGreatDoorEnc
import Derived.Test.YtmiflkccfieefaaGreatDoorWr
import Derived.Test.YtmiflkccfieefaaGreatDoorZab
namespace Go.Proofs.YtmiflkccfieefaaGreatDoor
open Go.ChangeShapes Go.WideShapes Go.ChangeAt Go.RowKit
set_option maxRecDepth 100000
set_option linter.unusedVariables false


set_option maxHeartbeats 4000000 in
theorem enc97_116 (D r : Nat) (M0 M1 M2 : World → Prop) (R : List Nat) (bs : List UInt8) (w : World) (hbs : bs.length ≤ 1000000) (hM0 : M0 w) (hD : D = w.heap.size) (hRD : ∀ x ∈ R, x < D)
    (hst0 : ∀ w1 w2, M0 w1 → Kept D [] w1 w2 → M0 w2)
    (hP : ∀ w1 p, M0 w1 → D ≤ p → PE D w1 p 0 [] → Calls Tryz.prog 163 #[.pointer (some ⟨r, 0, none⟩), .iface 175 (.pointer (some ⟨p, 0, none⟩))] w1 fun e w' => e = .returned .nilIface ∧ PE D w' p bs.length [] ∧ M1 w' ∧ Kept D (p :: R) w1 w')
    (hst1 : ∀ w1 w2 S, M1 w1 → Kept D S w1 w2 → (∀ s ∈ S, D ≤ s) → M1 w2)
    (hW : ∀ w1 p g, M1 w1 → D ≤ p → D ≤ g → RX D w1 p g bs.length [] [] → Calls Tryz.prog 163 #[.pointer (some ⟨r, 0, none⟩), .iface 180 (.pointer (some ⟨p, 0, none⟩))] w1 fun e w' => e = .returned .nilIface ∧ RX D w' p g bs.length bs [] ∧ M2 w' ∧ Kept D (p :: g :: R) w1 w') :
    Calls Tryz.prog 97 #[.iface 116 (.pointer (some ⟨r, 0, none⟩))] w fun e w' => ∃ g, e = .returned (.tuple #[.slice (some ⟨g, 0, none⟩) bs.length bs.length, .nilIface]) ∧ D ≤ g ∧ Blk w' g 5 (Lib.byteCells bs) ∧ M2 w' ∧ Kept D R w w' := by
  -- the world with both encoders
  have HP := Lib.hid hP
  have HW := Lib.hid hW
  have HS := Lib.hid (And.intro hst0 hst1)
  have hk0 : Kept D [] w ((w.alloc (.cells #[.slice none 0 0, .int .i64 0] 178)).alloc (.cells #[.slice none 0 0, .int .i64 0, .slice none 0 0] 182)) := ((Kept.refl _ _ _).alloc _).alloc _
  have hp0 : Blk ((w.alloc (.cells #[.slice none 0 0, .int .i64 0] 178)).alloc (.cells #[.slice none 0 0, .int .i64 0, .slice none 0 0] 182)) w.heap.size 178 [.slice none 0 0, .int .i64 0] := (Blk.new w 178 [.slice none 0 0, .int .i64 0]).alloc _
  have hq0 : Blk ((w.alloc (.cells #[.slice none 0 0, .int .i64 0] 178)).alloc (.cells #[.slice none 0 0, .int .i64 0, .slice none 0 0] 182)) (w.heap.size + 1) 182 [.slice none 0 0, .int .i64 0, .slice none 0 0] := by
    have h := Blk.new (w.alloc (.cells #[.slice none 0 0, .int .i64 0] 178)) 182 [.slice none 0 0, .int .i64 0, .slice none 0 0]
    simpa using h
  have hM0' := hst0 _ _ hM0 hk0
  have H0 := Lib.hid (And.intro hM0' (And.intro hp0 (And.intro hq0 hk0)))
  have HD := Lib.hid hD
  have HRD := Lib.hid hRD
  clear hP hW hst0 hst1 hM0 hM0' hk0 hp0 hq0 hD hRD
  go_enter Tryz.func97, Tryz.ntmps97
  go_wp2_with fail
  go_region_with (first | (go_at_call 103; refine (flex116 _ _ _).mono ?_; rintro e w1 ⟨rfl, rfl⟩) | (go_at_call 163; refine (HP.out _ w.heap.size (by exact (HS.out.1 _ _ H0.out.1 (Kept.refl _ _ _).drew)) (by rw [HD.out]; exact Nat.le_refl _) (by exact ⟨by rw [HD.out]; exact Nat.le_refl _, _, H0.out.2.1.drew, World.ownsRow_nil _ _ _ _⟩)).mono ?_; rintro e w1 ⟨rfl, hp1, hM1, hk1⟩; replace hk1 := Kept.undrew hk1; have H1 := Lib.hid (And.intro hp1 (And.intro hM1 hk1)); clear hp1 hM1 hk1))
  all_goals
    have hkw := H0.out.2.2.2.trans (H1.out.2.2) (show ∀ x ∈ ([] : List Nat), x ∈ R ∨ w.heap.size ≤ x from fun x hx => by cases hx) (show ∀ x ∈ w.heap.size :: R, x ∈ R ∨ w.heap.size ≤ x from fun x hx => by rcases List.mem_cons.1 hx with rfl | hx; exact .inr (Nat.le_refl _); exact .inl hx)
    have hq1 : Blk w1 (w.heap.size + 1) 182 [.slice none 0 0, .int .i64 0, .slice none 0 0] := H0.out.2.2.1.kept H1.out.2.2 (by
      intro hm
      rcases List.mem_cons.1 hm with hm | hm
      · omega
      · have := HRD.out _ hm
        have := HD.out
        omega) (.inr (by rintro (h5 | h5) <;> exact absurd h5 (by decide)))
    obtain ⟨_, sv1, hpb, _⟩ := H1.out.1
    have c1 := hpb.cell 1
    have cq := hq1.cell 0
    have fq := hq1.frozen 0
    simp at c1 cq
    have hw1s := hkw.size
    have hql := hq1.lt
    have hmk := make23 bs.length (by omega)
    have hk2 : Kept D [w.heap.size + 1] w1 ((w1.setCell ⟨w.heap.size + 1, 0, none⟩ (.slice (some ⟨w1.heap.size, 0, none⟩) bs.length bs.length)).alloc (.cells (Lib.byteCells (List.replicate bs.length 0)).toArray 5)) := ((Kept.refl _ _ _).setCell (p := ⟨w.heap.size + 1, 0, none⟩) (.inl (by simp)) _).alloc _
    have hq2 : Blk ((w1.setCell ⟨w.heap.size + 1, 0, none⟩ (.slice (some ⟨w1.heap.size, 0, none⟩) bs.length bs.length)).alloc (.cells (Lib.byteCells (List.replicate bs.length 0)).toArray 5)) (w.heap.size + 1) 182 [.slice (some ⟨w1.heap.size, 0, none⟩) bs.length bs.length, .int .i64 0, .slice none 0 0] := (hq1.set_ 0 _).alloc _
    have hg2 : Blk ((w1.setCell ⟨w.heap.size + 1, 0, none⟩ (.slice (some ⟨w1.heap.size, 0, none⟩) bs.length bs.length)).alloc (.cells (Lib.byteCells (List.replicate bs.length 0)).toArray 5)) w1.heap.size 5 (Lib.byteCells (List.replicate bs.length 0)) := by
      have h := Blk.new (w1.setCell ⟨w.heap.size + 1, 0, none⟩ (.slice (some ⟨w1.heap.size, 0, none⟩) bs.length bs.length)) 5 (Lib.byteCells (List.replicate bs.length 0))
      rw [World.size_setCell] at h
      exact h
    have hD2 : D ≤ w.heap.size + 1 ∧ D ≤ w1.heap.size := by
      have := HD.out
      omega
    have hrx : RX D ((w1.setCell ⟨w.heap.size + 1, 0, none⟩ (.slice (some ⟨w1.heap.size, 0, none⟩) bs.length bs.length)).alloc (.cells (Lib.byteCells (List.replicate bs.length 0)).toArray 5)) (w.heap.size + 1) w1.heap.size bs.length [] [] :=
      ⟨List.replicate bs.length 0, hD2.1, hD2.2, by simp, _, hq2, hg2, World.ownsRow_nil _ _ _ _⟩
    have hM2 := HS.out.2 _ _ _ H1.out.2.1 hk2 (fun s hs => by simp at hs; omega)
    have H2 := Lib.hid (And.intro hrx (And.intro hM2 (And.intro hk2 hkw)))
    clear hkw hq1 hpb hk2 hq2 hg2 hrx hM2
    go_wp2_with fail
    go_region_with (first | (go_at_call 103; refine (flex116 _ _ _).mono ?_; rintro e w3 ⟨rfl, rfl⟩) | (go_at_call 163; refine (HW.out _ (w.heap.size + 1) w1.heap.size (by exact (HS.out.2 _ _ [] H2.out.2.1 (Kept.refl _ _ _).drew (fun s hs => by cases hs))) hD2.1 hD2.2 (by exact H2.out.1)).mono ?_; rintro e w3 ⟨rfl, hp3, hM3, hk3⟩; replace hk3 := Kept.undrew hk3; have H3 := Lib.hid (And.intro hp3 (And.intro hM3 hk3)); clear hp3 hM3 hk3))
    all_goals
      obtain ⟨rest, _, _, hNe, sv3, hq3, hg3, _⟩ := H3.out.1
      have hr0 : rest = [] := List.eq_nil_of_length_eq_zero (by omega)
      subst hr0
      have cq3 := hq3.cell 0
      simp at cq3
      have hkF : Kept D R w w3 := (H2.out.2.2.2.trans (H2.out.2.2.1) (fun x hx => .inl hx) (fun x hx => .inr (by simp at hx; omega))).trans H3.out.2.2 (fun x hx => .inl hx) (fun x hx => by
        rcases List.mem_cons.1 hx with rfl | hx
        · exact .inr (by omega)
        · rcases List.mem_cons.1 hx with rfl | hx
          · exact .inr (by omega)
          · exact .inl hx)
      have hgF : Blk w3 w1.heap.size 5 (Lib.byteCells bs) := by simpa using hg3
      have HF := Lib.hid (And.intro hgF (And.intro H3.out.2.1 hkF))
      clear hq3 hg3 hNe hkF hgF
      go_wp2
      go_ret2
      exact ⟨_, rfl, hD2.2, HF.out⟩
end Go.Proofs.YtmiflkccfieefaaGreatDoor

/-
  Something is written, where several blocks may be turned: impl.write.
-/
namespace Go.Proofs.YtmiflkccfieefaaGreatDoor
open Go.ChangeShapes Go.WideShapes Go.ChangeAt Go.RowKit
set_option maxRecDepth 100000
set_option linter.unusedVariables false
set_option linter.unusedSimpArgs false

def EncPostL (R : List Nat) (bs : List UInt8) (W : World) (e : Ending) (w' : World) : Prop :=
  ∃ g, e = .returned (.tuple #[.slice (some ⟨g, 0, none⟩) bs.length bs.length, .nilIface]) ∧ W.heap.size ≤ g ∧ Blk w' g 5 (Lib.byteCells bs) ∧ Kept W.heap.size R W w'
theorem f81L (r : Nat) (R : List Nat) (bs : List UInt8) (W : World) (H : Calls Tryz.prog 97 #[.iface 116 (.pointer (some ⟨r, 0, none⟩))] W (EncPostL R bs W)) :
    Calls Tryz.prog 81 #[.iface 116 (.pointer (some ⟨r, 0, none⟩))] W (EncPostL R bs W) := by
  go_enter Tryz.func81, Tryz.ntmps81
  go_wp2_with (go_at_call 97; refine H.mono ?_; rintro e w1 ⟨g, rfl, hg, hb, hk⟩; have HR := Lib.hid (And.intro hg (And.intro hb hk)); clear hg hb hk)
  go_wp2
  go_ret2
  exact ⟨g, rfl, HR.out⟩
theorem f80L (K r p0 p1 p2 : Nat) (R : List Nat) (bs : List UInt8) (u1 u2 : Value) (W : World) (h0 : W.cell? ⟨p0, 0, none⟩ = some (.iface K (.pointer (some ⟨r, 0, none⟩)))) (h1 : Blk W p1 23 [u1]) (h2 : Blk W p2 4 [u2]) (hr1 : p1 ∉ R) (hr2 : p2 ∉ R)
    (HE : Calls Tryz.prog 81 #[.iface K (.pointer (some ⟨r, 0, none⟩))] W (EncPostL R bs W)) :
    Calls Tryz.prog 80 #[.pointer (some ⟨p0, 0, none⟩), .pointer (some ⟨p1, 0, none⟩), .pointer (some ⟨p2, 0, none⟩)] W fun e w' => e = .returned (.tuple #[]) ∧
      ∃ g, W.heap.size ≤ g ∧ Blk w' g 5 (Lib.byteCells bs) ∧ Blk w' p1 23 [.slice (some ⟨g, 0, none⟩) bs.length bs.length] ∧ Blk w' p2 4 [.bool true] ∧ Kept W.heap.size (p1 :: p2 :: R) W w' := by
  have H := Lib.hid (And.intro h1 h2)
  have h12 : p1 ≠ p2 := h1.ne_ h2 (by decide)
  clear h1 h2
  go_enter Tryz.func80, Tryz.ntmps80
  go_wp2_with (go_at_call 81; refine HE.mono ?_; rintro e w1 ⟨g, rfl, hg, hb, hk⟩)
  have hp1 := H.out.1.kept hk hr1 (.inr (by rintro (h5 | h5) <;> exact absurd h5 (by decide)))
  have hp2 := H.out.2.kept hk hr2 (.inr (by rintro (h5 | h5) <;> exact absurd h5 (by decide)))
  have c1 := hp1.cell 0
  have z1 := hp1.frozen 0
  have c2 := hp2.cell 0
  have z2 := hp2.frozen 0
  simp only [List.getElem?_cons_zero] at c1 c2
  have hlt1 := H.out.1.lt
  have hlt2 := H.out.2.lt
  have hg1 : g ≠ p1 := by omega
  have hg2 : g ≠ p2 := by omega
  have HR := Lib.hid (And.intro hb (And.intro hk (And.intro hp1 hp2)))
  clear hb hk hp1 hp2
  go_wp2_with fail
  go_region
  all_goals
    go_wp2
    go_end0
    refine ⟨rfl, g, hg, ?_, ?_, ?_, ?_⟩
    · exact ((HR.out.1.far (p := ⟨_, 0, none⟩) (by assumption) _).far (p := ⟨_, 0, none⟩) (by assumption) _).drew
    · first
        | exact ((HR.out.2.2.1.set_ 0 _).far (p := ⟨p2, 0, none⟩) h12 _).drew
        | exact ((HR.out.2.2.1.far (p := ⟨p2, 0, none⟩) h12 _).set_ 0 _).drew
    · first
        | exact ((HR.out.2.2.2.far (p := ⟨p1, 0, none⟩) (Ne.symm h12) _).set_ 0 _).drew
        | exact ((HR.out.2.2.2.set_ 0 _).far (p := ⟨p1, 0, none⟩) (Ne.symm h12) _).drew
    · have hk3 : Kept W.heap.size (p1 :: p2 :: R) W w1 := HR.out.2.1.mono (Nat.le_refl _) (fun x hx => .inl (by simp [hx]))
      exact ((hk3.setCell (p := ⟨_, 0, none⟩) (.inl (by simp)) _).setCell (p := ⟨_, 0, none⟩) (.inl (by simp)) _).drew
/-- impl.write. -/
theorem f50L (K r : Nat) (R : List Nat) (bs : List UInt8) (w : World) (hbs : bs.length ≤ 1000000) (hr : ∀ x ∈ R, x < w.heap.size)
    (HE : ∀ W, Below w.heap.size w W → Calls Tryz.prog 81 #[.iface K (.pointer (some ⟨r, 0, none⟩))] W (EncPostL R bs W)) :
    Calls Tryz.prog 50 #[.iface K (.pointer (some ⟨r, 0, none⟩))] w fun e w' => ∃ v, e = .returned (.tuple #[v, .bool true]) ∧ Own w' w.heap.size v bs ∧ Kept w.heap.size R w w' := by
  have hmf : ∀ (fn : Fn) (first cap : Array Value) (w : World), (Instr.makeFunc fn first cap).run Tryz.prog w = .ok (.func fn first cap) w := fun _ _ _ _ => rfl
  have hp0 : Blk (((w.alloc (.cells #[.iface K (.pointer (some ⟨r, 0, none⟩))] 20)).alloc (.cells #[.slice none 0 0] 23)).alloc (.cells #[.bool false] 4)) w.heap.size 20 [.iface K (.pointer (some ⟨r, 0, none⟩))] := ((Blk.new w 20 [.iface K (.pointer (some ⟨r, 0, none⟩))]).alloc _).alloc _
  have hp1 : Blk (((w.alloc (.cells #[.iface K (.pointer (some ⟨r, 0, none⟩))] 20)).alloc (.cells #[.slice none 0 0] 23)).alloc (.cells #[.bool false] 4)) (w.heap.size + 1) 23 [.slice none 0 0] := by
    have h := (Blk.new (w.alloc (.cells #[.iface K (.pointer (some ⟨r, 0, none⟩))] 20)) 23 [.slice none 0 0]).alloc (.cells #[.bool false] 4)
    simpa using h
  have hp2 : Blk (((w.alloc (.cells #[.iface K (.pointer (some ⟨r, 0, none⟩))] 20)).alloc (.cells #[.slice none 0 0] 23)).alloc (.cells #[.bool false] 4)) (w.heap.size + 2) 4 [.bool false] := by
    have h := Blk.new ((w.alloc (.cells #[.iface K (.pointer (some ⟨r, 0, none⟩))] 20)).alloc (.cells #[.slice none 0 0] 23)) 4 [.bool false]
    simpa using h
  have hk3 : Kept w.heap.size R w (((w.alloc (.cells #[.iface K (.pointer (some ⟨r, 0, none⟩))] 20)).alloc (.cells #[.slice none 0 0] 23)).alloc (.cells #[.bool false] 4)) := (((Kept.refl _ _ _).alloc _).alloc _).alloc _
  have hbw : Below w.heap.size w (((w.alloc (.cells #[.iface K (.pointer (some ⟨r, 0, none⟩))] 20)).alloc (.cells #[.slice none 0 0] 23)).alloc (.cells #[.bool false] 4)) := ((((Below.refl _ _).alloc (Nat.le_refl _) _).alloc (by simp) _).alloc (by simp; omega) _)
  have hs3 : (((w.alloc (.cells #[.iface K (.pointer (some ⟨r, 0, none⟩))] 20)).alloc (.cells #[.slice none 0 0] 23)).alloc (.cells #[.bool false] 4)).heap.size = w.heap.size + 3 := by simp
  have hfin : ∀ w3 : World, Blk w3 w.heap.size 20 [.iface K (.pointer (some ⟨r, 0, none⟩))] → Blk w3 (w.heap.size + 1) 23 [.slice none 0 0] → Blk w3 (w.heap.size + 2) 4 [.bool false] → Kept w.heap.size R w w3 → Below w.heap.size w w3 → w3.heap.size = w.heap.size + 3 →
      Calls Tryz.prog 67 #[.func (.func 80) #[] #[.pointer (some ⟨w.heap.size, 0, none⟩), .pointer (some ⟨w.heap.size + 1, 0, none⟩), .pointer (some ⟨w.heap.size + 2, 0, none⟩)]] w3 fun e w' => e = .returned (.bool true) ∧
        ∃ g, w.heap.size + 3 < g ∧ Blk w' g 5 (Lib.byteCells bs) ∧ Blk w' (w.heap.size + 1) 23 [.slice (some ⟨g, 0, none⟩) bs.length bs.length] ∧ Blk w' (w.heap.size + 2) 4 [.bool true] ∧ Kept w.heap.size R w w' := by
    intro w3 hp0 hp1 hp2 hk3 hbw hs3
    have hst : ∀ t : TypeId, t = 20 ∨ t = 23 ∨ t = 4 ∨ t = 5 → ¬ stackT t := by
      rintro t ht (h5 | h5) <;> rw [h5] at ht <;> rcases ht with h | h | h | h <;> exact absurd h (by decide)
    have hb3 : Blk (w3.alloc (.cells #[.bool false] 4)) w3.heap.size 4 [.bool false] := Blk.new _ _ _
    have h80 := f80L K r w.heap.size (w.heap.size + 1) (w.heap.size + 2) R bs _ _ (w3.alloc (.cells #[.bool false] 4)) ((hp0.alloc _).cell 0) (hp1.alloc _) (hp2.alloc _) (fun hm => by have := hr _ hm; omega) (fun hm => by have := hr _ hm; omega) (HE _ (hbw.alloc (by omega) _))
    refine (s67 80 _ w3 (fun w' => ∃ g, (w3.alloc (.cells #[.bool false] 4)).heap.size ≤ g ∧ Blk w' g 5 (Lib.byteCells bs) ∧ Blk w' (w.heap.size + 1) 23 [.slice (some ⟨g, 0, none⟩) bs.length bs.length] ∧ Blk w' (w.heap.size + 2) 4 [.bool true] ∧ Kept (w3.alloc (.cells #[.bool false] 4)).heap.size ((w.heap.size + 1) :: (w.heap.size + 2) :: R) (w3.alloc (.cells #[.bool false] 4)) w') h80 ?_ (fun W => enters_of Tryz.func80 (by kernel_rfl) rfl _ W)).mono ?_
    · rintro w' ⟨g, hg, q1, q2, q3, q4⟩
      have h := hb3.kept q4 (fun hm => by
        rcases List.mem_cons.1 hm with hm | hm
        · omega
        · rcases List.mem_cons.1 hm with hm | hm
          · omega
          · have := hr _ hm; omega) (.inr (hst 4 (by simp)))
      exact ⟨false, h.cell 0, h.frozen 0⟩
    · rintro e w' ⟨rfl, w1, ⟨g, hg, q1, q2, q3, q4⟩, rfl⟩
      simp at hg
      have hkk : Kept w.heap.size R w w1 := (hk3.alloc _).trans (q4.mono (by simp; omega) (fun x hx => .inl hx)) (fun x hx => .inl hx) (fun x hx => by
        rcases List.mem_cons.1 hx with rfl | hx
        · exact .inr (by omega)
        · rcases List.mem_cons.1 hx with rfl | hx
          · exact .inr (by omega)
          · exact .inl hx)
      exact ⟨rfl, g, by omega, (q1.far (p := ⟨w3.heap.size, 0, none⟩) (show g ≠ w3.heap.size by omega) _).far (p := ⟨w3.heap.size, 0, none⟩) (show g ≠ w3.heap.size by omega) _,
        (q2.far (p := ⟨w3.heap.size, 0, none⟩) (show w.heap.size + 1 ≠ w3.heap.size by omega) _).far (p := ⟨w3.heap.size, 0, none⟩) (show w.heap.size + 1 ≠ w3.heap.size by omega) _,
        (q3.far (p := ⟨w3.heap.size, 0, none⟩) (show w.heap.size + 2 ≠ w3.heap.size by omega) _).far (p := ⟨w3.heap.size, 0, none⟩) (show w.heap.size + 2 ≠ w3.heap.size by omega) _,
        (hkk.setCell (p := ⟨w3.heap.size, 0, none⟩) (.inr (by show w.heap.size ≤ w3.heap.size; omega)) _).setCell (p := ⟨w3.heap.size, 0, none⟩) (.inr (by show w.heap.size ≤ w3.heap.size; omega)) _⟩
  have h67 := hfin _ hp0 hp1 hp2 hk3 hbw hs3
  clear hfin hp0 hp1 hp2 hk3 hbw HE
  go_enter Tryz.func50, Tryz.ntmps50
  go_wp2_with (first
    | (go_at_call 67
       refine h67.mono ?_
       rintro e w5 ⟨rfl, g, hg, q1, q2, q3, q4⟩
       have c2 := q3.cell 0
       have c1 := q2.cell 0
       simp only [List.getElem?_cons_zero] at c1 c2
       have hw5 := q4.size
       have hb5 : BytesAt w5 w5.heap.size (.slice (some ⟨g, 0, none⟩) bs.length bs.length) bs := ⟨⟨g, 0, none⟩, bs.length, _, (0, 0), rfl, q1.lt, q1, World.news_of_block q1⟩
       have hcp := copied (.slice (some ⟨g, 0, none⟩) bs.length bs.length) bs w5.heap.size w5 (.inl hb5) hbs (Nat.le_refl _))
    | (go_at_call 70
       refine hcp.mono ?_
       rintro e w6 ⟨v, rfl, ho, hb6⟩
       obtain ⟨g6, cap6, cur6, hv6, _⟩ := ho.form
       subst hv6
       have r2 := q2.below hb6 q2.lt
       have r3 := q3.below hb6 q3.lt
       have e1 := r2.cell 0
       have z1 := r2.frozen 0
       have e2 := r3.cell 0
       have z2 := r3.frozen 0
       simp only [List.getElem?_cons_zero] at e1 e2
       have hk6 : Kept w.heap.size R w w6 := q4.trans (Kept.of_below hb6 []) (fun x hx => .inl hx) (fun x hx => by cases hx)
       have hF : Own ((w6.setCell ⟨w.heap.size + 1, 0, none⟩ (.slice (some ⟨g6, 0, none⟩) bs.length cap6)).setCell ⟨w.heap.size + 2, 0, none⟩ (.bool true)) w.heap.size (.slice (some ⟨g6, 0, none⟩) bs.length cap6) bs :=
         ⟨own_setCell (own_setCell (World.ownsRow.mono ho.1 hw5) r2 (by decide) 0 _) (r3.far (p := ⟨w.heap.size + 1, 0, none⟩) (show w.heap.size + 2 ≠ w.heap.size + 1 by omega) _) (by decide) 0 _, by simp⟩
       have hkF : Kept w.heap.size R w ((w6.setCell ⟨w.heap.size + 1, 0, none⟩ (.slice (some ⟨g6, 0, none⟩) bs.length cap6)).setCell ⟨w.heap.size + 2, 0, none⟩ (.bool true)) := (hk6.setCell (p := ⟨w.heap.size + 1, 0, none⟩) (.inr (by show w.heap.size ≤ w.heap.size + 1; omega)) _).setCell (p := ⟨w.heap.size + 2, 0, none⟩) (.inr (by show w.heap.size ≤ w.heap.size + 2; omega)) _
       have s1 := ((r2.set_ 0 (.slice (some ⟨g6, 0, none⟩) bs.length cap6)).far (p := ⟨w.heap.size + 2, 0, none⟩) (show w.heap.size + 1 ≠ w.heap.size + 2 by omega) (.bool true)).cell 0
       have s2 := ((r3.far (p := ⟨w.heap.size + 1, 0, none⟩) (show w.heap.size + 2 ≠ w.heap.size + 1 by omega) (.slice (some ⟨g6, 0, none⟩) bs.length cap6)).set_ 0 (.bool true)).cell 0
       simp only [List.set_cons_zero, List.getElem?_cons_zero] at s1 s2
       have HF := Lib.hid (And.intro hF hkF)
       have HS := Lib.hid (And.intro s1 s2)
       clear ho hb6 hF hkF s1 s2))
  go_wp2
  have s1 := HS.out.1
  have s2 := HS.out.2
  try simp only [Exit.inBlock, Exit.then]
  refine ⟨rfl, .tuple #[.slice (some ⟨g6, 0, none⟩) bs.length cap6, .bool true], ?_, _, rfl, HF.out⟩
  simp [results, Tryz.results50, go_sem, s1, s2]
end Go.Proofs.YtmiflkccfieefaaGreatDoor

/-
  A set is made and written: impl.SetWrite.
-/
namespace Go.Proofs.YtmiflkccfieefaaGreatDoor
open Go.ChangeShapes Go.WideShapes Go.ChangeAt Go.RowKit
set_option maxRecDepth 100000
set_option linter.unusedVariables false
set_option linter.unusedSimpArgs false

/-- From w to w' no block that holds a message's data has turned. -/
def Sam2 (w w' : World) : Prop := w.heap.size ≤ w'.heap.size ∧ ∀ (k : Nat) (C : Array Value) (t : TypeId) (f : Nat × Nat), w.heap[k]? = some (Obj.cells C t f) → (t = 5 ∨ t = 120 ∨ t = 146) → w'.heap[k]? = w.heap[k]?
theorem Sam2.refl (w : World) : Sam2 w w := ⟨Nat.le_refl _, fun _ _ _ _ _ _ => rfl⟩
theorem Sam2.trans {a b c : World} (h : Sam2 a b) (k : Sam2 b c) : Sam2 a c := ⟨Nat.le_trans h.1 k.1, fun i C t f hi ht => by
  have e := h.2 i C t f hi ht
  exact (k.2 i C t f (e.trans hi) ht).trans e⟩
theorem Sam2.of_below {a b : World} (h : Below a.heap.size a b) : Sam2 a b := ⟨h.size, fun k C t f hk _ => h.block k (lt_of_heap hk)⟩
theorem Sam2.alloc {a b : World} (h : Sam2 a b) (o : Obj) : Sam2 a (b.alloc o) := h.trans ⟨by simp, fun k C t f hk _ => Below.heap_alloc b o k (lt_of_heap hk)⟩
theorem Sam2.setCell {a b : World} (h : Sam2 a b) {g t : Nat} {cs : List Value} (hg : Blk b g t cs) (ht : ¬ (t = 5 ∨ t = 120 ∨ t = 146)) (i : Nat) (u : Value) : Sam2 a (b.setCell ⟨g, i, none⟩ u) := h.trans ⟨by simp, fun k C t' f hk hk' => Below.heap_setCell b ⟨g, i, none⟩ u k (by
  rintro rfl
  unfold Blk at hg
  rw [hg] at hk
  injection hk with hk
  injection hk with _ hk
  subst hk
  exact ht hk')⟩
theorem Sam2.grown {a b c : World} (h : Sam2 a b) {row : Option Nat} (hg : b.grownBy c row) (hr : ∀ g, row = some g → ∃ C t f, b.heap[g]? = some (Obj.cells C t f) ∧ ¬ (t = 5 ∨ t = 120 ∨ t = 146)) : Sam2 a c := h.trans ⟨hg.size, fun k C t f hk ht => hg.block k (lt_of_heap hk) (fun e => by
  obtain ⟨C', t', f', h1, h2⟩ := hr k e.symm
  rw [hk] at h1
  injection h1 with h1
  injection h1 with _ h1
  subst h1
  exact h2 ht)⟩
theorem NBytesAt.sam2 {w w' : World} {D : Nat} {v : Value} {o : NB} (h : NBytesAt w D v o) (hs : Sam2 w w') : NBytesAt w' D v o := by
  cases o with
  | none => exact h
  | some l =>
    obtain ⟨a, c, C, f, rfl, hD, hg, hc⟩ := h
    have e := hs.2 _ _ _ _ hg (.inl rfl)
    refine ⟨a, c, C, f, rfl, hD, e.trans hg, fun j u hj => ?_⟩
    rw [← hc j u hj]
    exact World.cell?_of_block (by rw [add_block]; exact e)
theorem BlkAt.sam2 {w w' : World} {D D' q r : Nat} {off ver : Int} {la : Bool} {m : Int} {ko vo : NB} {fresh : Bool} (h : BlkAt w D q r off ver la m ko vo fresh) (hs : Sam2 w w') (hD : D ≤ D') : BlkAt w' D' q r off ver la m ko vo fresh := by
  obtain ⟨h1, kv, vv, cv, sz, g1, g2, g3, g4⟩ := h
  exact ⟨(hs.2 _ _ _ _ h1 (.inr (.inr rfl))).trans h1, kv, vv, cv, sz, (hs.2 _ _ _ _ g1 (.inr (.inl rfl))).trans g1, (g2.sam2 hs).mono hD, (g3.sam2 hs).mono hD, g4⟩
/-- Pointers to blocks of the encoders' type. -/
structure QAt (w : World) (ptrs : List Value) (ys : List BlkV) (qs rs : List Nat) : Prop where
  pl : ptrs.length = ys.length
  ql : qs.length = ys.length
  rl : rs.length = ys.length
  qlt : ∀ q ∈ qs, q < w.heap.size
  rlt : ∀ r ∈ rs, r < w.heap.size
  nd : rs.Nodup
  ptr : ∀ i (h : i < qs.length), i < ys.length → ptrs[i]? = some (.pointer (some ⟨qs[i], 0, none⟩))
  each : ∀ i (h : i < ys.length) (hq : i < qs.length) (hr : i < rs.length), ys[i].at_ w w.heap.size qs[i] rs[i] true
theorem QAt.nil (w : World) : QAt w [] [] [] [] := { pl := rfl, ql := rfl, rl := rfl, qlt := (by simp), rlt := (by simp), nd := List.nodup_nil, ptr := (by simp), each := (by simp) }
theorem QAt.sam2 {w w' : World} {ptrs : List Value} {ys : List BlkV} {qs rs : List Nat} (h : QAt w ptrs ys qs rs) (hs : Sam2 w w') : QAt w' ptrs ys qs rs :=
  ⟨h.pl, h.ql, h.rl, fun q hq => Nat.lt_of_lt_of_le (h.qlt q hq) hs.1, fun q hq => Nat.lt_of_lt_of_le (h.rlt q hq) hs.1, h.nd, h.ptr, fun i hi hq hr => (h.each i hi hq hr).sam2 hs hs.1⟩
theorem QAt.snoc {w w' : World} {ptrs : List Value} {ys : List BlkV} {qs rs : List Nat} (h : QAt w ptrs ys qs rs) (hs : Sam2 w w') {q r : Nat} {y : BlkV} (hy : y.at_ w' w'.heap.size q r true) (hq : q < w'.heap.size) (hr0 : w.heap.size ≤ r) (hr : r < w'.heap.size) :
    QAt w' (ptrs ++ [.pointer (some ⟨q, 0, none⟩)]) (ys ++ [y]) (qs ++ [q]) (rs ++ [r]) := by
  have h' := h.sam2 hs
  refine ⟨by simp [h.pl], by simp [h.ql], by simp [h.rl], ?_, ?_, ?_, ?_, ?_⟩
  · intro x hx
    rcases List.mem_append.1 hx with hx | hx
    · exact h'.qlt x hx
    · have : x = q := by simpa using hx
      omega
  · intro x hx
    rcases List.mem_append.1 hx with hx | hx
    · exact h'.rlt x hx
    · have : x = r := by simpa using hx
      omega
  · rw [List.nodup_append]
    refine ⟨h.nd, by simp, ?_⟩
    intro x hx z hz
    have := h.rlt x hx
    have : z = r := by simpa using hz
    omega
  · intro i hi hy'
    by_cases hlt : i < qs.length
    · rw [List.getElem_append_left hlt, List.getElem?_append_left (by rw [h.pl, ← h.ql]; exact hlt)]
      exact h.ptr i hlt (by rw [← h.ql]; exact hlt)
    · have e : i = qs.length := by simp at hi; omega
      subst e
      rw [List.getElem_append_right (Nat.le_refl _)]
      simp only [Nat.sub_self, List.getElem_cons_zero]
      have e1 : qs.length = ptrs.length := by rw [h.pl, h.ql]
      rw [e1]
      simp
  · intro i hi hq' hr'
    by_cases hlt : i < ys.length
    · have h1 : i < qs.length := by rw [h.ql]; exact hlt
      have h2 : i < rs.length := by rw [h.rl]; exact hlt
      rw [List.getElem_append_left hlt, List.getElem_append_left h1, List.getElem_append_left h2]
      exact h'.each i hlt h1 h2
    · have e : i = ys.length := by simp at hi; omega
      subst e
      rw [List.getElem_append_right (Nat.le_refl _), List.getElem_append_right (by rw [h.ql]; exact Nat.le_refl _), List.getElem_append_right (by rw [h.rl]; exact Nat.le_refl _)]
      simp only [h.ql, h.rl, Nat.sub_self, List.getElem_cons_zero]
      exact hy
theorem info144 : (Tryz.prog.info? 144).map (fun i => (i.zero, i.size, i.bytes)) = some (some (.pointer none), 1, 8) := by kernel_rfl
theorem MRight.mok {x : MsgV} (h : MRight x) : MOk x.ver x.la x.tm x.key.nb x.val.nb := by
  obtain ⟨h1, h2, h3, h4⟩ := h
  have a := ol_le (b := x.key.1) (l := x.key.2)
  have b := ol_le (b := x.val.1) (l := x.val.2)
  have := h3.1
  have := h4.1
  exact ⟨h1, h2.1, h2.2, by show ol (nb x.key.1 x.key.2) ≤ 300; omega, by show ol (nb x.val.1 x.val.2) ≤ 300; omega⟩
theorem SetAt.mono {w : World} {D D' s : Nat} {ys : List BlkV} {qs rs : List Nat} {P : Nat → Option Bool} (h : SetAt w D s ys qs rs P) (hD : D ≤ D') : SetAt w D' s ys qs rs P := by
  refine ⟨?_, Nat.lt_of_lt_of_le h.slt hD, h.ql, h.rl, fun q hq => Nat.lt_of_lt_of_le (h.qlt q hq) hD, fun q hq => Nat.lt_of_lt_of_le (h.rlt q hq) hD, h.nd, fun i hi hq hr f hf => ?_⟩
  · obtain ⟨A, c, h1, h2⟩ := h.sblk
    refine ⟨A, c, h1, fun hy => ?_⟩
    obtain ⟨g, cs, hA, hg, hb, hc⟩ := h2 hy
    exact ⟨g, cs, hA, Nat.lt_of_lt_of_le hg hD, hb, hc⟩
  · obtain ⟨h1, h2⟩ := h.each i hi hq hr f hf
    exact ⟨h1, h2.mono hD⟩
theorem set_of {w : World} {B s : Nat} {hv : Value} {n : Nat} {ptrs : List Value} {ys : List BlkV} {qs rs : List Nat} (hs : Blk w s 130 [.bool false, .bool false, hv]) (hn : n = ys.length) (h : w.ownsRow B 144 1 hv n ptrs) (hq : QAt w ptrs ys qs rs) : SetAt w w.heap.size s ys qs rs (freshP 0) := by
  subst hn
  refine ⟨?_, hs.lt, hq.ql, hq.rl, hq.qlt, hq.rlt, hq.nd, fun i hi h1 h2 f hf => ?_⟩
  · rcases h.2 with ⟨rfl, h0⟩ | ⟨g, cap, cur, rfl, hB, hg, h1, h2, h3, h4⟩
    · have hy : ys = [] := List.eq_nil_of_length_eq_zero h0
      subst hy
      exact ⟨none, 0, hs, fun hne => absurd rfl hne⟩
    · refine ⟨some ⟨g, 0, none⟩, cap, hs, fun _ => ⟨g, cur.toList, rfl, lt_of_heap hg, by unfold Blk; simpa using hg, fun i hi hy => ?_⟩⟩
      have hp := hq.ptr i hi hy
      rw [← h4] at hp
      rw [List.getElem?_take] at hp
      split at hp
      · exact hp
      · cases hp
  · have hff : f = true := by
      simp [freshP] at hf
      first | exact hf | exact hf.symm
    subst hff
    exact hq.each i hi h1 h2
theorem SetAt.real {w : World} {D s : Nat} {ys : List BlkV} {qs rs : List Nat} (h : SetAt w D s ys qs rs (freshP ys.length)) : SetAt w D s ys qs rs (freshR 0) :=
  ⟨h.sblk, h.slt, h.ql, h.rl, h.qlt, h.rlt, h.nd, fun i hi hq hr f hf => by
    have hff : f = false := by
      simp [freshR] at hf
      first | exact hf | exact hf.symm
    subst hff
    refine h.each i hi hq hr false ?_
    simp [freshP]
    omega⟩
theorem f97s (s : Nat) (ys : List BlkV) (qs rs : List Nat) (W : World) (h : SetAt W W.heap.size s ys qs rs (freshP 0)) (hok : ∀ y ∈ ys, y.ok) (hl8 : ys.length ≤ 8) (hlen : (setBytes ys).length ≤ 10000) :
    Calls Tryz.prog 97 #[.iface 116 (.pointer (some ⟨s, 0, none⟩))] W (EncPostL rs (setBytes ys) W) := by
  refine (enc97_116 W.heap.size s (fun w => SetAt w W.heap.size s ys qs rs (freshP 0)) (fun w => SetAt w W.heap.size s ys qs rs (freshP ys.length)) (fun _ => True) rs (setBytes ys) W (by omega) h rfl h.rlt ?_ ?_ ?_ ?_).mono ?_
  · intro w1 w2 h1 hk
    exact h1.far hk (fun x hx => by cases hx)
  · intro w1 p h1 hp hpe
    exact e163p p W.heap.size s ys qs rs w1 hpe h1 hok hl8 hp rfl hlen
  · intro w1 w2 S h1 hk hS
    exact h1.far hk hS
  · intro w1 p g h1 hp hg hrx
    refine (e163r p g W.heap.size s ys qs rs w1 hrx h1.real hok hl8 hp hg rfl hlen).mono ?_
    rintro e w' ⟨he, h2, h3⟩
    exact ⟨he, h2, trivial, h3⟩
  · rintro e w' ⟨g, he, h1, h2, _, h3⟩
    exact ⟨g, he, h1, h2, h3⟩
set_option maxHeartbeats 4000000 in
theorem f41 (D : Nat) (v : Value) (ys : List BlkV) (w : World) (h : BksIn w D v ys) (hD : D ≤ w.heap.size) (hr : BksRight ys) :
    Calls Tryz.prog 41 #[v] w fun e w' => ∃ u, e = .returned (.tuple #[u, .bool true]) ∧ Own w' w.heap.size u (setBytes ys) ∧ Below w.heap.size w w' := by
  have H := Lib.hid h
  obtain ⟨A, c, rfl, _⟩ := h
  obtain ⟨hl8, hx⟩ := hr
  have hlen := setBytes_len ys hx
  have HX := Lib.hid hx
  have hs0 := Blk.new w 130 [.bool false, .bool false, .slice none 0 0]
  have hb0 : Below w.heap.size w (w.alloc (.cells #[.bool false, .bool false, .slice none 0 0] 130)) := (Below.refl _ _).alloc (Nat.le_refl _) _
  have H0 := Lib.hid (And.intro hs0 hb0)
  clear hx hs0 hb0
  go_enter Tryz.func41, Tryz.ntmps41
  go_wp2
  have hsw : w.heap.size ≤ w.heap.size := Nat.le_refl _
  generalize hse : w.heap.size = s at hsw
  have HSE := Lib.hid hse
  generalize (w.alloc (.cells #[.bool false, .bool false, .slice none 0 0] 130)) = w0 at *
  rw [hse] at H0
  clear hse
  go_loopw [11] (fun i wr => ∃ k : Nat, k ≤ ys.length ∧ i = .int .i64 k ∧ Hid (∃ hv ptrs qs rs, Blk wr s 130 [.bool false, .bool false, hv] ∧ wr.ownsRow s 144 1 hv k ptrs ∧ QAt wr ptrs (ys.take k) qs rs ∧ Below s w wr ∧ ∀ r ∈ rs, s ≤ r)) (fun i _ => ys.length - (intOf i).toNat)
  case atStart => exact ⟨0, by omega, rfl, ⟨_, [], [], [], H0.out.1, World.ownsRow_nil _ _ _ _, QAt.nil _, H0.out.2, fun r h => by cases h⟩⟩
  case round =>
    obtain ⟨k, hk, rfl, HS⟩ := hrel
    by_cases hlt : k < ys.length
    · obtain ⟨hv, ptrs, qs, rs, hrr, hown, hqa, hbel, hrge⟩ := HS.out
      have hDs : D ≤ s := by rw [← HSE.out]; exact hD
      obtain ⟨A', c', hAe, hh⟩ := H.out.below hbel hDs
      injection hAe with hA1 hA2 hA3
      subst hA1
      obtain ⟨a, rfl, haD, hall⟩ := hh (by intro e; rw [e] at hlt; simp at hlt)
      have hel := hall k hlt
      have hbk := HX.out ys[k] (by simp)
      generalize hyk : ys[k] = y at hel hbk
      have HYK := Lib.hid hyk
      clear hyk
      obtain ⟨kd, vd, g0, g1, g2, g3, g4, g5, g6, g7, hkd, hvd⟩ := hel
      obtain ⟨kA, kc, rfl⟩ := hkd.sl
      obtain ⟨vA, vc, rfl⟩ := hvd.sl
      obtain ⟨o, x⟩ := y
      simp only at g0 g1 g2 g3 g4 g5 g6 g7 hkd hvd hbk
      have hmi : MIn wr D (.agg #[.int .i8 x.ver, .bool x.la, .int .i64 x.tm, .bool x.key.1, .slice kA x.key.2.length kc, .bool x.val.1, .slice vA x.val.2.length vc]) x := ⟨_, _, rfl, hkd, hvd⟩
      have HR := Lib.hid (And.intro hmi (And.intro hrr (And.intro hown (And.intro hbel hqa))))
      have HK := Lib.hid hbk
      have HGE := Lib.hid hrge
      clear hrge
      clear hall hh hkd hvd hmi hA2 hA3 hrr hown hbel hqa hbk
      go_wp2_with fail
      have hbv : Below wr.heap.size wr (wr.alloc (.cells #[.int .i64 o, .int .i8 x.ver, .bool x.la, .int .i64 x.tm, .bool x.key.1, .slice kA x.key.2.length kc, .bool x.val.1, .slice vA x.val.2.length vc] 62)).drew := ((Below.refl _ _).alloc (Nat.le_refl _) _).drew
      have hB3 : Blk (wr.alloc (.cells #[.int .i64 o, .int .i8 x.ver, .bool x.la, .int .i64 x.tm, .bool x.key.1, .slice kA x.key.2.length kc, .bool x.val.1, .slice vA x.val.2.length vc] 62)).drew wr.heap.size 62 [.int .i64 o, .int .i8 x.ver, .bool x.la, .int .i64 x.tm, .bool x.key.1, .slice kA x.key.2.length kc, .bool x.val.1, .slice vA x.val.2.length vc] := (Blk.new wr 62 [.int .i64 o, .int .i8 x.ver, .bool x.la, .int .i64 x.tm, .bool x.key.1, .slice kA x.key.2.length kc, .bool x.val.1, .slice vA x.val.2.length vc]).drew
      have hrlt := HR.out.2.1.lt
      have hbsz := HR.out.2.2.2.1.size
      have hwr : s ≤ wr.heap.size := by omega
      have cr3 := (HR.out.2.1.below hbv hrlt).cell 2
      simp only [List.getElem?_cons_zero, List.getElem?_cons_succ] at cr3
      generalize (wr.alloc (.cells #[.int .i64 o, .int .i8 x.ver, .bool x.la, .int .i64 x.tm, .bool x.key.1, .slice kA x.key.2.length kc, .bool x.val.1, .slice vA x.val.2.length vc] 62)) = wv at *
      obtain ⟨i1, hi1, hz1, hs1, hb1⟩ := info_parts info144
      have hS3 : (fun W => W.cell? ⟨wr.heap.size, 0, none⟩ = some (.int .i64 o) ∧ W.cell? ⟨wr.heap.size, 1, none⟩ = some (.int .i8 x.ver) ∧ W.cell? ⟨wr.heap.size, 2, none⟩ = some (.bool x.la) ∧ W.cell? ⟨wr.heap.size, 3, none⟩ = some (.int .i64 x.tm) ∧ W.cell? ⟨wr.heap.size, 4, none⟩ = some (.bool x.key.1) ∧ W.cell? ⟨wr.heap.size, 5, none⟩ = some (.slice kA x.key.2.length kc) ∧ W.cell? ⟨wr.heap.size, 6, none⟩ = some (.bool x.val.1) ∧ W.cell? ⟨wr.heap.size, 7, none⟩ = some (.slice vA x.val.2.length vc) ∧ W.cell? ⟨s, 2, none⟩ = some hv) wv.drew := ⟨(hB3).cell 0, (hB3).cell 1, (hB3).cell 2, (hB3).cell 3, (hB3).cell 4, (hB3).cell 5, (hB3).cell 6, (hB3).cell 7, cr3⟩
      refine wp_region_E 16 (fun W => W.cell? ⟨wr.heap.size, 0, none⟩ = some (.int .i64 o) ∧ W.cell? ⟨wr.heap.size, 1, none⟩ = some (.int .i8 x.ver) ∧ W.cell? ⟨wr.heap.size, 2, none⟩ = some (.bool x.la) ∧ W.cell? ⟨wr.heap.size, 3, none⟩ = some (.int .i64 x.tm) ∧ W.cell? ⟨wr.heap.size, 4, none⟩ = some (.bool x.key.1) ∧ W.cell? ⟨wr.heap.size, 5, none⟩ = some (.slice kA x.key.2.length kc) ∧ W.cell? ⟨wr.heap.size, 6, none⟩ = some (.bool x.val.1) ∧ W.cell? ⟨wr.heap.size, 7, none⟩ = some (.slice vA x.val.2.length vc) ∧ W.cell? ⟨s, 2, none⟩ = some hv) (by kernel_rfl) ?_
      refine wpE_takeL (i := 0) (v := ?_) rfl (by kernel_rfl) (by kernel_rfl) (by kernel_rfl) (by kernel_rfl) (fun _ _ _ h => h) (by assumption) (Or.inl ⟨by rfl, ?_⟩) ?_
      rotate_left
      · intro W hSw
        try dsimp only at hSw
        go_split_ands
        go_simp
        try with_reducible rfl
      try simp only [Act.put, List.setIfInBounds_toArray, List.set_cons_zero, List.set_cons_succ]
      refine wpE_takeL (i := 1) (v := ?_) rfl (by kernel_rfl) (by kernel_rfl) (by kernel_rfl) (by kernel_rfl) (fun _ _ _ h => h) (by assumption) (Or.inl ⟨by rfl, ?_⟩) ?_
      rotate_left
      · intro W hSw
        try dsimp only at hSw
        go_split_ands
        go_simp
        try with_reducible rfl
      try simp only [Act.put, List.setIfInBounds_toArray, List.set_cons_zero, List.set_cons_succ]
      refine wpE_takeL (i := 2) (v := ?_) rfl (by kernel_rfl) (by kernel_rfl) (by kernel_rfl) (by kernel_rfl) (fun _ _ _ h => h) (by assumption) (Or.inl ⟨by rfl, ?_⟩) ?_
      rotate_left
      · intro W hSw
        try dsimp only at hSw
        go_split_ands
        go_simp
        try with_reducible rfl
      try simp only [Act.put, List.setIfInBounds_toArray, List.set_cons_zero, List.set_cons_succ]
      refine wpE_takeL (i := 3) (v := ?_) rfl (by kernel_rfl) (by kernel_rfl) (by kernel_rfl) (by kernel_rfl) (fun _ _ _ h => h) (by assumption) (Or.inl ⟨by rfl, ?_⟩) ?_
      rotate_left
      · intro W hSw
        try dsimp only at hSw
        go_split_ands
        go_simp
        try with_reducible rfl
      try simp only [Act.put, List.setIfInBounds_toArray, List.set_cons_zero, List.set_cons_succ]
      refine wpE_takeL (i := 4) (v := ?_) rfl (by kernel_rfl) (by kernel_rfl) (by kernel_rfl) (by kernel_rfl) (fun _ _ _ h => h) (by assumption) (Or.inl ⟨by rfl, ?_⟩) ?_
      rotate_left
      · intro W hSw
        try dsimp only at hSw
        go_split_ands
        go_simp
        try with_reducible rfl
      try simp only [Act.put, List.setIfInBounds_toArray, List.set_cons_zero, List.set_cons_succ]
      refine wpE_takeL (i := 5) (v := ?_) rfl (by kernel_rfl) (by kernel_rfl) (by kernel_rfl) (by kernel_rfl) (fun _ _ _ h => h) (by assumption) (Or.inl ⟨by rfl, ?_⟩) ?_
      rotate_left
      · intro W hSw
        try dsimp only at hSw
        go_split_ands
        go_simp
        try with_reducible rfl
      try simp only [Act.put, List.setIfInBounds_toArray, List.set_cons_zero, List.set_cons_succ]
      refine wpE_takeL (i := 6) (v := ?_) rfl (by kernel_rfl) (by kernel_rfl) (by kernel_rfl) (by kernel_rfl) (fun _ _ _ h => h) (by assumption) (Or.inl ⟨by rfl, ?_⟩) ?_
      rotate_left
      · intro W hSw
        try dsimp only at hSw
        go_split_ands
        go_simp
        try with_reducible rfl
      try simp only [Act.put, List.setIfInBounds_toArray, List.set_cons_zero, List.set_cons_succ]
      refine wpE_takeL (i := 7) (v := ?_) rfl (by kernel_rfl) (by kernel_rfl) (by kernel_rfl) (by kernel_rfl) (fun _ _ _ h => h) (by assumption) (Or.inl ⟨by rfl, ?_⟩) ?_
      rotate_left
      · intro W hSw
        try dsimp only at hSw
        go_split_ands
        go_simp
        try with_reducible rfl
      try simp only [Act.put, List.setIfInBounds_toArray, List.set_cons_zero, List.set_cons_succ]
      refine wpE_takeL (i := 8) (v := ?_) rfl (by kernel_rfl) (by kernel_rfl) (by kernel_rfl) (by kernel_rfl) (fun _ _ _ h => h) (by assumption) (Or.inl ⟨by rfl, ?_⟩) ?_
      rotate_left
      · intro W hSw
        try dsimp only at hSw
        go_split_ands
        go_simp
        try with_reducible rfl
      try simp only [Act.put, List.setIfInBounds_toArray, List.set_cons_zero, List.set_cons_succ]
      refine wpE_oneL (i := 9) rfl (by kernel_rfl) (fun K hK => ?_)
      go_simp
      go_at_call 61
      refine (f61 D x _ _ (HR.out.1.below hbv (by omega)) (by have := hbv.size; omega) (by have := HK.out.2.2.1.1; omega) (by have := HK.out.2.2.2.1; omega) HK.out.2.1.1 HK.out.2.1.2).mono ?_
      rintro e w4 ⟨r, rfl, hr0, hr1, hma, hb4⟩
      have hE4 := hbv.trans (hb4.mono hbv.size)
      have hB4 := hB3.below hb4 (Blk.lt hB3)
      have cr4 := (HR.out.2.1.below hE4 hrlt).cell 2
      simp only [List.getElem?_cons_zero, List.getElem?_cons_succ] at cr4
      try simp only []
      have hS4 : (fun W => W.cell? ⟨wr.heap.size, 0, none⟩ = some (.int .i64 o) ∧ W.cell? ⟨wr.heap.size, 1, none⟩ = some (.int .i8 x.ver) ∧ W.cell? ⟨wr.heap.size, 2, none⟩ = some (.bool x.la) ∧ W.cell? ⟨wr.heap.size, 3, none⟩ = some (.int .i64 x.tm) ∧ W.cell? ⟨wr.heap.size, 4, none⟩ = some (.bool x.key.1) ∧ W.cell? ⟨wr.heap.size, 5, none⟩ = some (.slice kA x.key.2.length kc) ∧ W.cell? ⟨wr.heap.size, 6, none⟩ = some (.bool x.val.1) ∧ W.cell? ⟨wr.heap.size, 7, none⟩ = some (.slice vA x.val.2.length vc) ∧ W.cell? ⟨s, 2, none⟩ = some hv) w4 := ⟨(hB4).cell 0, (hB4).cell 1, (hB4).cell 2, (hB4).cell 3, (hB4).cell 4, (hB4).cell 5, (hB4).cell 6, (hB4).cell 7, cr4⟩
      refine hK.out _ _ (fun _ => hS4) ?_
      clear hK K
      try simp only [Act.put, List.setIfInBounds_toArray, List.set_cons_zero, List.set_cons_succ]
      refine wpE_takeL (i := 10) (v := ?_) rfl (by kernel_rfl) (by kernel_rfl) (by kernel_rfl) (by kernel_rfl) (fun _ _ _ h => h) (by assumption) (Or.inl ⟨by rfl, ?_⟩) ?_
      rotate_left
      · intro W hSw
        try dsimp only at hSw
        go_split_ands
        go_simp
        try with_reducible rfl
      try simp only [Act.put, List.setIfInBounds_toArray, List.set_cons_zero, List.set_cons_succ]
      refine wpE_oneL (i := 11) rfl (by kernel_rfl) (fun K hK => ?_)
      go_simp
      have hE5 := hE4.alloc hE4.size (.cells #[.int .i64 o, .pointer (some ⟨r, 0, none⟩)] 146)
      have hB5 := hB4.alloc (.cells #[.int .i64 o, .pointer (some ⟨r, 0, none⟩)] 146)
      have cr5 := (HR.out.2.1.below hE5 hrlt).cell 2
      simp only [List.getElem?_cons_zero, List.getElem?_cons_succ] at cr5
      have hS5 : (fun W => W.cell? ⟨wr.heap.size, 0, none⟩ = some (.int .i64 o) ∧ W.cell? ⟨wr.heap.size, 1, none⟩ = some (.int .i8 x.ver) ∧ W.cell? ⟨wr.heap.size, 2, none⟩ = some (.bool x.la) ∧ W.cell? ⟨wr.heap.size, 3, none⟩ = some (.int .i64 x.tm) ∧ W.cell? ⟨wr.heap.size, 4, none⟩ = some (.bool x.key.1) ∧ W.cell? ⟨wr.heap.size, 5, none⟩ = some (.slice kA x.key.2.length kc) ∧ W.cell? ⟨wr.heap.size, 6, none⟩ = some (.bool x.val.1) ∧ W.cell? ⟨wr.heap.size, 7, none⟩ = some (.slice vA x.val.2.length vc) ∧ W.cell? ⟨s, 2, none⟩ = some hv) (w4.alloc (.cells #[.int .i64 o, .pointer (some ⟨r, 0, none⟩)] 146)) := ⟨(hB5).cell 0, (hB5).cell 1, (hB5).cell 2, (hB5).cell 3, (hB5).cell 4, (hB5).cell 5, (hB5).cell 6, (hB5).cell 7, cr5⟩
      refine hK.out _ _ (fun _ => hS5) ?_
      clear hK K
      try simp only [Act.put, List.setIfInBounds_toArray, List.set_cons_zero, List.set_cons_succ]
      refine wpE_oneL (i := 12) rfl (by kernel_rfl) (fun K hK => ?_)
      go_simp
      have hE52 := hE5.alloc hE5.size (.cells #[.pointer (some ⟨w4.heap.size, 0, none⟩)] 144)
      have hB52 := hB5.alloc (.cells #[.pointer (some ⟨w4.heap.size, 0, none⟩)] 144)
      have cr52 := (HR.out.2.1.below hE52 hrlt).cell 2
      simp only [List.getElem?_cons_zero, List.getElem?_cons_succ] at cr52
      have hS52 : (fun W => W.cell? ⟨wr.heap.size, 0, none⟩ = some (.int .i64 o) ∧ W.cell? ⟨wr.heap.size, 1, none⟩ = some (.int .i8 x.ver) ∧ W.cell? ⟨wr.heap.size, 2, none⟩ = some (.bool x.la) ∧ W.cell? ⟨wr.heap.size, 3, none⟩ = some (.int .i64 x.tm) ∧ W.cell? ⟨wr.heap.size, 4, none⟩ = some (.bool x.key.1) ∧ W.cell? ⟨wr.heap.size, 5, none⟩ = some (.slice kA x.key.2.length kc) ∧ W.cell? ⟨wr.heap.size, 6, none⟩ = some (.bool x.val.1) ∧ W.cell? ⟨wr.heap.size, 7, none⟩ = some (.slice vA x.val.2.length vc) ∧ W.cell? ⟨s, 2, none⟩ = some hv) ((w4.alloc (.cells #[.int .i64 o, .pointer (some ⟨r, 0, none⟩)] 146)).alloc (.cells #[.pointer (some ⟨w4.heap.size, 0, none⟩)] 144)) := ⟨(hB52).cell 0, (hB52).cell 1, (hB52).cell 2, (hB52).cell 3, (hB52).cell 4, (hB52).cell 5, (hB52).cell 6, (hB52).cell 7, cr52⟩
      refine hK.out _ _ (fun _ => hS52) ?_
      clear hK K
      try simp only [Act.put, List.setIfInBounds_toArray, List.set_cons_zero, List.set_cons_succ]
      refine wpE_oneL (i := 13) rfl (by kernel_rfl) (fun K hK => ?_)
      refine step_append_lies _ rfl _ _ 128 rfl s 144 i1 (.pointer none) 1 8 Tryz.underlying128 hi1 hz1 hs1 hb1 rfl (by omega) hv k ptrs rfl (own_below HR.out.2.2.1 hE52 (Nat.le_refl _)) ⟨w4.heap.size + 1, 0, none⟩ 1 1 [.pointer (some ⟨w4.heap.size, 0, none⟩)] rfl rfl (World.news_of_block (cs := #[.pointer (some ⟨w4.heap.size, 0, none⟩)]) (t := 144) (fr := (0, 0)) (by have h := heap_alloc_new (w4.alloc (.cells #[.int .i64 o, .pointer (some ⟨r, 0, none⟩)] 146)) (.cells #[.pointer (some ⟨w4.heap.size, 0, none⟩)] 144); simpa using h)) (by simp [Value.oneCell']) (by omega) (by simp only [maxLen]; omega) (by omega) (by have := hE4.size; simp; omega) (w4.heap.size + 2) (by simp) ?_
      intro g6 cap6 w6 hown6 hgr6 hat6 hlt6
      have ho5 := own_below HR.out.2.2.1 hE52 (Nat.le_refl _)
      have hr5 := HR.out.2.1.below hE52 hrlt
      have hr6 : Blk w6 s 130 _ := (hgr6.block s hr5.lt (fun e => own_ne ho5 hr5 (by decide) e.symm)).trans hr5
      have hB6 : Blk w6 wr.heap.size 62 _ := (hgr6.block wr.heap.size hB52.lt (fun e => own_ne ho5 hB52 (by decide) e.symm)).trans hB52
      have hE6 := grownBy_below hgr6 (fun g e => (own_row ho5 e).1) (by have := hE52.size; omega)
      have c6 := hr6.cell 2
      have z6 := hr6.frozen 2
      simp only [List.getElem?_cons_zero, List.getElem?_cons_succ] at c6
      have hsg : Sam2 ((w4.alloc (.cells #[.int .i64 o, .pointer (some ⟨r, 0, none⟩)] 146)).alloc (.cells #[.pointer (some ⟨w4.heap.size, 0, none⟩)] 144)) w6 := (Sam2.refl _).grown hgr6 (fun g e => by
        obtain ⟨C, hC⟩ := (own_row ho5 e).2
        exact ⟨C, 144, _, hC, by decide⟩)
      have hss := (Sam2.refl w6).setCell hr6 (by decide) 2 (.slice (some ⟨g6, 0, none⟩) (k + 1) cap6)
      have hsam : Sam2 wr (w6.setCell ⟨s, 2, none⟩ (.slice (some ⟨g6, 0, none⟩) (k + 1) cap6)) := ((Sam2.of_below hE52).trans hsg).trans hss
      have hsam4 : Sam2 w4 (w6.setCell ⟨s, 2, none⟩ (.slice (some ⟨g6, 0, none⟩) (k + 1) cap6)) := (((Sam2.refl w4).alloc _).alloc _).trans (hsg.trans hss)
      have hnb : Blk w6 w4.heap.size 146 [.int .i64 o, .pointer (some ⟨r, 0, none⟩)] := (hsg.2 _ _ _ _ ((Blk.new w4 146 [.int .i64 o, .pointer (some ⟨r, 0, none⟩)]).alloc (.cells #[.pointer (some ⟨w4.heap.size, 0, none⟩)] 144)) (.inr (.inr rfl))).trans ((Blk.new w4 146 [.int .i64 o, .pointer (some ⟨r, 0, none⟩)]).alloc _)
      have hnbF : Blk (w6.setCell ⟨s, 2, none⟩ (.slice (some ⟨g6, 0, none⟩) (k + 1) cap6)) w4.heap.size 146 [.int .i64 o, .pointer (some ⟨r, 0, none⟩)] := (hss.2 _ _ _ _ hnb (.inr (.inr rfl))).trans hnb
      have hmaF : MsgAt (w6.setCell ⟨s, 2, none⟩ (.slice (some ⟨g6, 0, none⟩) (k + 1) cap6)) (w6.setCell ⟨s, 2, none⟩ (.slice (some ⟨g6, 0, none⟩) (k + 1) cap6)).heap.size r x.ver x.la (secOf x.tm) (nsecOf x.tm) x.key.nb x.val.nb true := by
        obtain ⟨kv, vv, cv, sz, q1, q2, q3, q4⟩ := hma
        exact ⟨kv, vv, cv, sz, (hsam4.2 _ _ _ _ q1 (.inr (.inl rfl))).trans q1, (q2.sam2 hsam4).mono hsam4.1, (q3.sam2 hsam4).mono hsam4.1, q4⟩
      have hqF : QAt (w6.setCell ⟨s, 2, none⟩ (.slice (some ⟨g6, 0, none⟩) (k + 1) cap6)) (ptrs ++ [.pointer (some ⟨w4.heap.size, 0, none⟩)]) (ys.take (k + 1)) (qs ++ [w4.heap.size]) (rs ++ [r]) := by
        rw [List.take_succ_eq_append_getElem hlt, HYK.out]
        have hs5 : w4.heap.size + 2 ≤ w6.heap.size := by have := hgr6.size; simpa using this
        exact HR.out.2.2.2.2.snoc hsam ⟨hnbF, hmaF⟩ (by simp; omega) (by have := hbv.size; omega) (by simp; omega)
      have HN := Lib.hid (show ∃ hv ptrs qs rs, Blk (w6.setCell ⟨s, 2, none⟩ (.slice (some ⟨g6, 0, none⟩) (k + 1) cap6)) s 130 [.bool false, .bool false, hv] ∧ (w6.setCell ⟨s, 2, none⟩ (.slice (some ⟨g6, 0, none⟩) (k + 1) cap6)).ownsRow s 144 1 hv (k + 1) ptrs ∧ QAt (w6.setCell ⟨s, 2, none⟩ (.slice (some ⟨g6, 0, none⟩) (k + 1) cap6)) ptrs (ys.take (k + 1)) qs rs ∧ Below s w (w6.setCell ⟨s, 2, none⟩ (.slice (some ⟨g6, 0, none⟩) (k + 1) cap6)) ∧ ∀ r ∈ rs, s ≤ r from
        ⟨_, _, _, _, hr6.set_ 2 _, own_setCell hown6 hr6 (by decide) 2 _, hqF, ((HR.out.2.2.2.1.trans (hE52.mono hwr)).trans hE6).setCell (p := ⟨s, 2, none⟩) (Nat.le_refl _) _, fun z hz => by
          rcases List.mem_append.1 hz with hz | hz
          · exact HGE.out z hz
          · have : z = r := by simpa using hz
            have := hbv.size
            omega⟩)
      have hS6 : (fun W => W.cell? ⟨wr.heap.size, 0, none⟩ = some (.int .i64 o) ∧ W.cell? ⟨wr.heap.size, 1, none⟩ = some (.int .i8 x.ver) ∧ W.cell? ⟨wr.heap.size, 2, none⟩ = some (.bool x.la) ∧ W.cell? ⟨wr.heap.size, 3, none⟩ = some (.int .i64 x.tm) ∧ W.cell? ⟨wr.heap.size, 4, none⟩ = some (.bool x.key.1) ∧ W.cell? ⟨wr.heap.size, 5, none⟩ = some (.slice kA x.key.2.length kc) ∧ W.cell? ⟨wr.heap.size, 6, none⟩ = some (.bool x.val.1) ∧ W.cell? ⟨wr.heap.size, 7, none⟩ = some (.slice vA x.val.2.length vc) ∧ W.cell? ⟨s, 2, none⟩ = some hv) w6 := ⟨(hB6).cell 0, (hB6).cell 1, (hB6).cell 2, (hB6).cell 3, (hB6).cell 4, (hB6).cell 5, (hB6).cell 6, (hB6).cell 7, c6⟩
      refine hK.out _ _ (fun _ => hS6) ?_
      clear hK K
      try simp only [Act.put, List.setIfInBounds_toArray, List.set_cons_zero, List.set_cons_succ]
      clear hS5 hS52 hS4 hS3 hqF hmaF hnbF hnb hsam4 hsam hss hsg
      refine wpE_oneL (i := 14) rfl (by kernel_rfl) (fun K hK => ?_)
      go_simp
      refine hK.out _ _ (fun _ => hS6) ?_
      clear hK K
      try simp only [Act.put, List.setIfInBounds_toArray, List.set_cons_zero, List.set_cons_succ]
      refine wpE_oneL (i := 15) rfl (by kernel_rfl) (fun K hK => ?_)
      go_simp
      refine hK.out _ _ (fun _ => hS6) ?_
      clear hK K
      try simp only [Act.put, List.setIfInBounds_toArray, List.set_cons_zero, List.set_cons_succ]
      refine wpE_oneL (i := 16) rfl (by kernel_rfl) (fun K hK => ?_)
      go_simp
      refine hK.out _ _ (fun h => Bool.noConfusion (show true = false from h)) ?_
      clear hK K
      try simp only [Act.put, List.setIfInBounds_toArray, List.set_cons_zero, List.set_cons_succ]
      refine wpE_done (by kernel_rfl) ?_ _
      refine NoPanic.normal ?_
      clear HR
      go_wp2
      go_roundw
      case rel =>
        exact ⟨k + 1, by omega, by go_num, HN⟩
      case measure => simp [intOf]; omega
    · obtain rfl : k = ys.length := by omega
      obtain ⟨hv, ptrs, qs, rs, hrr, hown, hqa, hbel, hrge⟩ := HS.out
      rw [List.take_length] at hqa
      have hset := set_of hrr rfl hown hqa
      have hsz := hbel.size
      have hrlt := hset.rlt
      have hok : ∀ y ∈ ys, y.ok := fun y hy => (HX.out y hy).mok
      have HF := Lib.hid (And.intro hset (And.intro hbel (And.intro hrge (And.intro hrlt hok))))
      clear hset hbel hrge hrlt hok hrr hown hqa
      go_wp2_with fail
      refine (f50L 116 s rs (setBytes ys) _ (by omega) (by exact HF.out.2.2.2.1) (fun W hW => f81L s rs _ W (f97s s ys qs rs W ((HF.out.1.far (Kept.of_below (B := 0) hW []) (fun x hx => by cases hx)).mono hW.size) HF.out.2.2.2.2 hl8 (by omega)))).mono ?_
      rintro e w2 ⟨u, rfl, ho, hk2⟩
      have hfin : Own w2 s u (setBytes ys) ∧ Below s w w2 := by
        have hse := HSE.out
        refine ⟨⟨World.ownsRow.mono ho.1 (by omega), ho.2⟩, HF.out.2.1.trans ((hk2.mono (show s ≤ wr.heap.size by omega) (fun x hx => .inl hx)).to_below (by omega) HF.out.2.2.1)⟩
      rw [← HSE.out] at hfin
      have HFF := Lib.hid hfin
      clear ho hk2 hfin
      go_wp2
      go_ret2
      exact ⟨u, rfl, HFF.out⟩
end Go.Proofs.YtmiflkccfieefaaGreatDoor
