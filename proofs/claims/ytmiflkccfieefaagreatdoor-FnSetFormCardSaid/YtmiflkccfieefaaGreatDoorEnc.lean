/-
  Something is encoded: counted first, then written into as many bytes as were counted.
-/
import Derived.Test.YtmiflkccfieefaaGreatDoorFlex
import Derived.Test.YtmiflkccfieefaaGreatDoorHdr
namespace Go.Proofs.YtmiflkccfieefaaGreatDoor
open Go.ChangeShapes Go.WideShapes Go.ChangeAt Go.RowKit
set_option maxRecDepth 100000
set_option linter.unusedVariables false

theorem info5 : (Tryz.prog.info? 5).map (fun i => (i.zero, i.size, i.bytes)) = some (some (.int .u8 0), 1, 1) := by kernel_rfl
theorem made5 (n : Nat) : madeCells #[.int .u8 0] n = (Lib.byteCells (List.replicate n 0)).toArray := by
  apply Array.ext
  · simp [madeCells, Lib.byteCells_length]
  · intro i h1 h2
    simp [madeCells, Lib.byteCells, Nat.mod_one]
theorem make23 (n : Nat) (hn : n ≤ 1000000000) (w : World) : (Instr.makeSlice 23 (.int .i64 (n : Int)) (.int .i64 (n : Int))).run Tryz.prog w = .ok (.slice (some ⟨w.heap.size, 0, none⟩) n n) (w.alloc (.cells (Lib.byteCells (List.replicate n 0)).toArray 5)) := by
  obtain ⟨i, hi, hz, hs, hb⟩ := info_parts info5
  have h := run_make (P := Tryz.prog) w 23 5 i (.int .u8 0) Tryz.underlying23 hi hz .i64 .i64 n n (by omega) (by omega) (by rw [hb]; omega) (by omega)
  simp only [Int.toNat_natCast, hs, Nat.mul_one] at h
  rw [h]
  congr 3
  exact made5 n

set_option maxHeartbeats 4000000 in
theorem enc97_94 (D r : Nat) (M0 M1 M2 : World → Prop) (R : List Nat) (bs : List UInt8) (w : World) (hbs : bs.length ≤ 1000000) (hM0 : M0 w) (hD : D = w.heap.size) (hRD : ∀ x ∈ R, x < D)
    (hst0 : ∀ w1 w2, M0 w1 → Kept D [] w1 w2 → M0 w2)
    (hP : ∀ w1 p, M0 w1 → D ≤ p → PE D w1 p 0 [] → Calls Tryz.prog 133 #[.pointer (some ⟨r, 0, none⟩), .iface 175 (.pointer (some ⟨p, 0, none⟩))] w1 fun e w' => e = .returned .nilIface ∧ PE D w' p bs.length [] ∧ M1 w' ∧ Kept D (p :: R) w1 w')
    (hst1 : ∀ w1 w2 S, M1 w1 → Kept D S w1 w2 → (∀ s ∈ S, D ≤ s) → M1 w2)
    (hW : ∀ w1 p g, M1 w1 → D ≤ p → D ≤ g → RX D w1 p g bs.length [] [] → Calls Tryz.prog 133 #[.pointer (some ⟨r, 0, none⟩), .iface 180 (.pointer (some ⟨p, 0, none⟩))] w1 fun e w' => e = .returned .nilIface ∧ RX D w' p g bs.length bs [] ∧ M2 w' ∧ Kept D (p :: g :: R) w1 w') :
    Calls Tryz.prog 97 #[.iface 94 (.pointer (some ⟨r, 0, none⟩))] w fun e w' => ∃ g, e = .returned (.tuple #[.slice (some ⟨g, 0, none⟩) bs.length bs.length, .nilIface]) ∧ D ≤ g ∧ Blk w' g 5 (Lib.byteCells bs) ∧ M2 w' ∧ Kept D R w w' := by
  -- the world with both encoders
  have HP := Lib.hid hP
  have HW := Lib.hid hW
  have HS := Lib.hid (And.intro hst0 hst1)
  have hk0 : Kept D [] w ((w.alloc (.cells #[.slice none 0 0, .int .i64 0] 178)).alloc (.cells #[.slice none 0 0, .int .i64 0, .slice none 0 0] 182)) := ((Kept.refl _ _ _).alloc _).alloc _
  have hp0 : Blk ((w.alloc (.cells #[.slice none 0 0, .int .i64 0] 178)).alloc (.cells #[.slice none 0 0, .int .i64 0, .slice none 0 0] 182)) w.heap.size 178 [.slice none 0 0, .int .i64 0] := (Blk.new w 178 [.slice none 0 0, .int .i64 0]).alloc _
  have hq0 : Blk ((w.alloc (.cells #[.slice none 0 0, .int .i64 0] 178)).alloc (.cells #[.slice none 0 0, .int .i64 0, .slice none 0 0] 182)) (w.heap.size + 1) 182 [.slice none 0 0, .int .i64 0, .slice none 0 0] := by
    have h := Blk.new (w.alloc (.cells #[.slice none 0 0, .int .i64 0] 178)) 182 [.slice none 0 0, .int .i64 0, .slice none 0 0]
    simpa using h
  have hM0' := hst0 _ _ hM0 hk0
  have H0 := Lib.hid (And.intro hM0' (And.intro hp0 (And.intro hq0 hk0)))
  have HD := Lib.hid hD
  have HRD := Lib.hid hRD
  clear hP hW hst0 hst1 hM0 hM0' hk0 hp0 hq0 hD hRD
  go_enter Tryz.func97, Tryz.ntmps97
  go_wp2_with fail
  go_region_with (first | (go_at_call 103; refine (flex94 _ _ _).mono ?_; rintro e w1 ⟨rfl, rfl⟩) | (go_at_call 133; refine (HP.out _ w.heap.size (by exact (HS.out.1 _ _ H0.out.1 (Kept.refl _ _ _).drew)) (by rw [HD.out]; exact Nat.le_refl _) (by exact ⟨by rw [HD.out]; exact Nat.le_refl _, _, H0.out.2.1.drew, World.ownsRow_nil _ _ _ _⟩)).mono ?_; rintro e w1 ⟨rfl, hp1, hM1, hk1⟩; replace hk1 := Kept.undrew hk1; have H1 := Lib.hid (And.intro hp1 (And.intro hM1 hk1)); clear hp1 hM1 hk1))
  all_goals
    have hkw := H0.out.2.2.2.trans (H1.out.2.2) (show ∀ x ∈ ([] : List Nat), x ∈ R ∨ w.heap.size ≤ x from fun x hx => by cases hx) (show ∀ x ∈ w.heap.size :: R, x ∈ R ∨ w.heap.size ≤ x from fun x hx => by rcases List.mem_cons.1 hx with rfl | hx; exact .inr (Nat.le_refl _); exact .inl hx)
    have hq1 : Blk w1 (w.heap.size + 1) 182 [.slice none 0 0, .int .i64 0, .slice none 0 0] := H0.out.2.2.1.kept H1.out.2.2 (by
      intro hm
      rcases List.mem_cons.1 hm with hm | hm
      · omega
      · have := HRD.out _ hm
        have := HD.out
        omega) (.inr (by rintro (h5 | h5) <;> exact absurd h5 (by decide)))
    obtain ⟨_, sv1, hpb, _⟩ := H1.out.1
    have c1 := hpb.cell 1
    have cq := hq1.cell 0
    have fq := hq1.frozen 0
    simp at c1 cq
    have hw1s := hkw.size
    have hql := hq1.lt
    have hmk := make23 bs.length (by omega)
    have hk2 : Kept D [w.heap.size + 1] w1 ((w1.setCell ⟨w.heap.size + 1, 0, none⟩ (.slice (some ⟨w1.heap.size, 0, none⟩) bs.length bs.length)).alloc (.cells (Lib.byteCells (List.replicate bs.length 0)).toArray 5)) := ((Kept.refl _ _ _).setCell (p := ⟨w.heap.size + 1, 0, none⟩) (.inl (by simp)) _).alloc _
    have hq2 : Blk ((w1.setCell ⟨w.heap.size + 1, 0, none⟩ (.slice (some ⟨w1.heap.size, 0, none⟩) bs.length bs.length)).alloc (.cells (Lib.byteCells (List.replicate bs.length 0)).toArray 5)) (w.heap.size + 1) 182 [.slice (some ⟨w1.heap.size, 0, none⟩) bs.length bs.length, .int .i64 0, .slice none 0 0] := (hq1.set_ 0 _).alloc _
    have hg2 : Blk ((w1.setCell ⟨w.heap.size + 1, 0, none⟩ (.slice (some ⟨w1.heap.size, 0, none⟩) bs.length bs.length)).alloc (.cells (Lib.byteCells (List.replicate bs.length 0)).toArray 5)) w1.heap.size 5 (Lib.byteCells (List.replicate bs.length 0)) := by
      have h := Blk.new (w1.setCell ⟨w.heap.size + 1, 0, none⟩ (.slice (some ⟨w1.heap.size, 0, none⟩) bs.length bs.length)) 5 (Lib.byteCells (List.replicate bs.length 0))
      rw [World.size_setCell] at h
      exact h
    have hD2 : D ≤ w.heap.size + 1 ∧ D ≤ w1.heap.size := by
      have := HD.out
      omega
    have hrx : RX D ((w1.setCell ⟨w.heap.size + 1, 0, none⟩ (.slice (some ⟨w1.heap.size, 0, none⟩) bs.length bs.length)).alloc (.cells (Lib.byteCells (List.replicate bs.length 0)).toArray 5)) (w.heap.size + 1) w1.heap.size bs.length [] [] :=
      ⟨List.replicate bs.length 0, hD2.1, hD2.2, by simp, _, hq2, hg2, World.ownsRow_nil _ _ _ _⟩
    have hM2 := HS.out.2 _ _ _ H1.out.2.1 hk2 (fun s hs => by simp at hs; omega)
    have H2 := Lib.hid (And.intro hrx (And.intro hM2 (And.intro hk2 hkw)))
    clear hkw hq1 hpb hk2 hq2 hg2 hrx hM2
    go_wp2_with fail
    go_region_with (first | (go_at_call 103; refine (flex94 _ _ _).mono ?_; rintro e w3 ⟨rfl, rfl⟩) | (go_at_call 133; refine (HW.out _ (w.heap.size + 1) w1.heap.size (by exact (HS.out.2 _ _ [] H2.out.2.1 (Kept.refl _ _ _).drew (fun s hs => by cases hs))) hD2.1 hD2.2 (by exact H2.out.1)).mono ?_; rintro e w3 ⟨rfl, hp3, hM3, hk3⟩; replace hk3 := Kept.undrew hk3; have H3 := Lib.hid (And.intro hp3 (And.intro hM3 hk3)); clear hp3 hM3 hk3))
    all_goals
      obtain ⟨rest, _, _, hNe, sv3, hq3, hg3, _⟩ := H3.out.1
      have hr0 : rest = [] := List.eq_nil_of_length_eq_zero (by omega)
      subst hr0
      have cq3 := hq3.cell 0
      simp at cq3
      have hkF : Kept D R w w3 := (H2.out.2.2.2.trans (H2.out.2.2.1) (fun x hx => .inl hx) (fun x hx => .inr (by simp at hx; omega))).trans H3.out.2.2 (fun x hx => .inl hx) (fun x hx => by
        rcases List.mem_cons.1 hx with rfl | hx
        · exact .inr (by omega)
        · rcases List.mem_cons.1 hx with rfl | hx
          · exact .inr (by omega)
          · exact .inl hx)
      have hgF : Blk w3 w1.heap.size 5 (Lib.byteCells bs) := by simpa using hg3
      have HF := Lib.hid (And.intro hgF (And.intro H3.out.2.1 hkF))
      clear hq3 hg3 hNe hkF hgF
      go_wp2
      go_ret2
      exact ⟨_, rfl, hD2.2, HF.out⟩
end Go.Proofs.YtmiflkccfieefaaGreatDoor
