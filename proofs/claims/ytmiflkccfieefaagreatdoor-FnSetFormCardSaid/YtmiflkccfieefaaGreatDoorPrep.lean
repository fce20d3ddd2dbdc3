/-
  The preparing encoder's methods: how many bytes each counts.
-/
import Derived.Test.YtmiflkccfieefaaGreatDoorBase
import Derived.Test.YtmiflkccfieefaaGreatDoorShelf
namespace Go.Proofs.YtmiflkccfieefaaGreatDoor
open Go.ChangeShapes Go.WideShapes Go.ChangeAt Go.RowKit
set_option maxRecDepth 100000

theorem l265 (a : Addr) (n : Int) (u : Value) (w : World) (hc : w.cell? a = some u) (hf : w.frozen? a = false) :
    Calls Tryz.prog 265 #[.pointer (some a), .int .i64 n] w fun e w' => e = .returned (.tuple #[]) ∧ w.setCell a (.int .i64 n) = w' := by
  go_enter Tryz.func265, Tryz.ntmps265
  go_wp2
  go_end0
  exact ⟨rfl, rfl⟩
/-- A varint put into a fresh array of ten bytes: its length. -/
theorem vtmp (x : Int) (w : World) (h0 : -9223372036854775808 ≤ x) (h1 : x ≤ 9223372036854775807) :
    Calls Tryz.prog 196 #[.slice (some ⟨w.heap.size, 0, none⟩) 10 10, .int .i64 x] (w.alloc (.cells #[.int .u8 0, .int .u8 0, .int .u8 0, .int .u8 0, .int .u8 0, .int .u8 0, .int .u8 0, .int .u8 0, .int .u8 0, .int .u8 0] 327)).drew
      fun e w' => e = .returned (.int .i64 (vb x).length) ∧ Kept w.heap.size [] w w' := by
  have hl := vb_le h0 h1
  refine (Tryz.binary_PutVarint _ _ _ _ _ h0 h1 _ hl ?_).mono ?_
  · intro j hj
    have hj' : j < 10 := by unfold vb at hl; omega
    refine ⟨?_, by simp⟩
    rw [World.cell?_drew, World.cell?_alloc_new]
    rcases (by omega : j = 0 ∨ j = 1 ∨ j = 2 ∨ j = 3 ∨ j = 4 ∨ j = 5 ∨ j = 6 ∨ j = 7 ∨ j = 8 ∨ j = 9) with rfl | rfl | rfl | rfl | rfl | rfl | rfl | rfl | rfl | rfl <;> rfl
  · rintro e w1 ⟨rfl, rfl⟩
    exact ⟨rfl, Kept.setCells (.inr (by simp)) _ _ _ ((Kept.refl _ _ _).alloc _).drew⟩
theorem l263 (b o : Nat) (n : Int) (w : World) (h0 : -9223372036854775808 ≤ n) (h1 : n ≤ 9223372036854775807) (hc : w.cell? ⟨b, o + 1, none⟩ = some (.int .i64 n)) :
    Calls Tryz.prog 263 #[.pointer (some ⟨b, o, none⟩)] w fun e w' => e = .returned (.int .i64 (vb n).length) ∧ Kept w.heap.size [] w w' := by
  have hb := World.block_lt_of_cell? w _ hc
  have hb' : b < w.heap.size := hb
  go_enter Tryz.func263, Tryz.ntmps263
  go_wp2
  refine wp_region_still_tail 5 (by kernel_rfl) (by kernel_rfl) ?_
  show wpStill _ _ (World.drew _) (fun a' => wpList _ _ _ _ _ (World.drew _)) _ _
  simp only [List.take_succ_cons, List.take_zero, List.drop_succ_cons, List.drop_zero]
  repeat still_step
  refine wpStill_nil ?_
  go_wp2_with (go_at_call 196; refine (vtmp n w h0 h1).mono ?_)
  rintro e w1 ⟨rfl, hk⟩
  go_wp2
  go_ret
  exact ⟨rfl, hk⟩
theorem p192 {B : Nat} (p n : Nat) (x : Int) (stk : List Value) (w : World) (h : PE B w p n stk) (hn : n ≤ 1000000000) :
    Calls Tryz.prog 192 #[.pointer (some ⟨p, 0, none⟩), .int .i8 x] w fun e w' => e = .returned (.tuple #[]) ∧ PE B w' p (n + 1) stk ∧ Kept B [p] w w' := by
  have H := Lib.hid h
  have hB := h.lt
  obtain ⟨_, sv, hp, _⟩ := h
  have h1 := hp.cell 1
  have f1 := hp.frozen 1
  simp at h1
  clear hp
  go_enter Tryz.func192, Tryz.ntmps192
  go_wp2
  go_end0
  have hk : Kept w.heap.size [p] w (w.setCell ⟨p, 1, none⟩ (.int .i64 (n + 1))) := (Kept.refl _ _ _).setCell (p := ⟨p, 1, none⟩) (.inl (by simp)) _
  exact ⟨rfl, H.out.keep hk (fun _ hb => hb.set_ 1 _), hk.mono hB (fun x hx => .inl hx)⟩
theorem p191 {B : Nat} (p n : Nat) (x : Int) (stk : List Value) (w : World) (h : PE B w p n stk) (hn : n ≤ 1000000000) :
    Calls Tryz.prog 191 #[.pointer (some ⟨p, 0, none⟩), .int .i64 x] w fun e w' => e = .returned (.tuple #[]) ∧ PE B w' p (n + 8) stk ∧ Kept B [p] w w' := by
  have H := Lib.hid h
  have hB := h.lt
  obtain ⟨_, sv, hp, _⟩ := h
  have h1 := hp.cell 1
  have f1 := hp.frozen 1
  simp at h1
  clear hp
  go_enter Tryz.func191, Tryz.ntmps191
  go_wp2
  go_end0
  have hk : Kept w.heap.size [p] w (w.setCell ⟨p, 1, none⟩ (.int .i64 (n + 8))) := (Kept.refl _ _ _).setCell (p := ⟨p, 1, none⟩) (.inl (by simp)) _
  exact ⟨rfl, H.out.keep hk (fun _ hb => hb.set_ 1 _), hk.mono hB (fun x hx => .inl hx)⟩
theorem p193 {B : Nat} (p n : Nat) (v : Value) (o : List UInt8) (stk : List Value) (w : World) (h : PE B w p n stk) (hn : n ≤ 1000000000) (hv : SlIs v (some o)) (ho : o.length ≤ 1000000000) :
    Calls Tryz.prog 193 #[.pointer (some ⟨p, 0, none⟩), v] w fun e w' => e = .returned .nilIface ∧ PE B w' p (n + o.length) stk ∧ Kept B [p] w w' := by
  have H := Lib.hid h
  have hB := h.lt
  obtain ⟨_, sv, hp, _⟩ := h
  have h1 := hp.cell 1
  have f1 := hp.frozen 1
  simp at h1
  clear hp
  obtain ⟨a, c, rfl⟩ := hv
  go_enter Tryz.func193, Tryz.ntmps193
  go_wp2
  go_ret
  have hk : Kept w.heap.size [p] w (w.setCell ⟨p, 1, none⟩ (.int .i64 (n + o.length))) := (Kept.refl _ _ _).setCell (p := ⟨p, 1, none⟩) (.inl (by simp)) _
  exact ⟨rfl, H.out.keep hk (fun _ hb => hb.set_ 1 _), hk.mono hB (fun x hx => .inl hx)⟩
theorem p194 {B : Nat} (p n : Nat) (x : Int) (stk : List Value) (w : World) (h : PE B w p n stk) (hn : n ≤ 1000000000) (h0 : -9223372036854775808 ≤ x) (h1 : x ≤ 9223372036854775807) :
    Calls Tryz.prog 194 #[.pointer (some ⟨p, 0, none⟩), .int .i64 x] w fun e w' => e = .returned (.tuple #[]) ∧ PE B w' p (n + (vb x).length) stk ∧ Kept B [p] w w' := by
  have H := Lib.hid h
  have hB := h.lt
  obtain ⟨_, sv, hp, _⟩ := h
  have hpl := hp.lt
  have hc1 := hp.cell 1
  have hf1 := hp.frozen 1
  simp at hc1
  clear hp
  have hl := vb_le h0 h1
  go_enter Tryz.func194, Tryz.ntmps194
  go_wp2
  have HW := Lib.hid (IntWalk.i64_in ((n : Int) + ((vb x).length : Int)) (by omega))
  have hcell : ∀ w1, Kept w.heap.size [] w w1 → w1.cell? ⟨p, 1, none⟩ = some (.int .i64 n) ∧ w1.frozen? ⟨p, 1, none⟩ = false := fun w1 hk =>
    ⟨(World.cell?_of_block (hk.block p hpl (by simp) (.inl hpl))).trans hc1, (World.frozen?_of_block (hk.block p hpl (by simp) (.inl hpl))).trans hf1⟩
  go_region_with (go_at_call 196; refine (vtmp x w h0 h1).mono ?_; rintro e w1 ⟨rfl, hk⟩; obtain ⟨hc2, hf2⟩ := hcell _ hk)
  all_goals
    go_wp2
    go_end0
    rw [HW.out]
    refine ⟨rfl, ?_⟩
    have hk2 : Kept w.heap.size [p] w (w1.setCell ⟨p, 1, none⟩ (.int .i64 (n + (vb x).length))) := (hk.mono (Nat.le_refl _) (fun x hx => by cases hx)).setCell (p := ⟨p, 1, none⟩) (.inl (by simp)) _
    exact ⟨H.out.keep hk2 (fun _ hb => (hb.kept hk (by simp) (.inl hpl)).set_ 1 _), hk2.mono hB (fun x hx => .inl hx)⟩
/-- What is counted of bytes that may be null. -/
def ol : Option (List UInt8) → Nat
  | none => 0
  | some l => l.length
theorem p195 {B : Nat} (p n : Nat) (v : Value) (o : Option (List UInt8)) (stk : List Value) (w : World) (h : PE B w p n stk) (hn : n ≤ 1000000) (hv : SlIs v o) (ho : ol o ≤ 1000000) :
    Calls Tryz.prog 195 #[.pointer (some ⟨p, 0, none⟩), v] w fun e w' => e = .returned .nilIface ∧ PE B w' p (n + (vBytes o).length) stk ∧ Kept B [p] w w' := by
  have heq := fun (W : World) (a : Option Addr) (l c : Nat) => Lib.run_eql_slice_nil (P := Tryz.prog) W 23 5 a l c 0 0 Tryz.underlying23
  cases o with
  | none =>
    subst hv
    go_enter Tryz.func195, Tryz.ntmps195
    go_wp2_with (go_at_call 194; refine (p194 _ _ _ _ _ h (by omega) (by omega) (by omega)).mono ?_; rintro e w1 ⟨rfl, hp, hk⟩)
    go_ret
    exact ⟨rfl, hp, hk⟩
  | some l =>
    obtain ⟨a, c, rfl⟩ := hv
    have ho' : l.length ≤ 1000000 := ho
    have hvl := vb_le (x := l.length) (by omega) (by omega)
    have e1 : n + (vBytes (some l)).length = n + (vb l.length).length + l.length := by simp [vBytes]; omega
    rw [e1]
    clear e1
    go_enter Tryz.func195, Tryz.ntmps195
    go_wp2_with (go_at_call 194; refine (p194 _ _ _ _ _ h (by omega) (by omega) (by omega)).mono ?_; rintro e w1 ⟨rfl, hp, hk⟩)
    go_wp2_with (go_at_call 193; refine (p193 _ _ _ l _ _ hp (by omega) ⟨_, _, rfl⟩ (by omega)).mono ?_; rintro e w2 ⟨rfl, hp2, hk2⟩)
    go_ret
    exact ⟨rfl, hp2, hk.trans hk2 (fun x hx => .inl hx) (fun x hx => .inl hx)⟩
theorem p187 {B : Nat} (p n : Nat) (v : Value) (o : Option (List UInt8)) (stk : List Value) (w : World) (h : PE B w p n stk) (hn : n ≤ 1000000) (hv : SlIs v o) (ho : ol o ≤ 1000000) :
    Calls Tryz.prog 187 #[.pointer (some ⟨p, 0, none⟩), v] w fun e w' => e = .returned .nilIface ∧ PE B w' p (n + (4 + ol o)) stk ∧ Kept B [p] w w' := by
  have heq := fun (W : World) (a : Option Addr) (l c : Nat) => Lib.run_eql_slice_nil (P := Tryz.prog) W 23 5 a l c 0 0 Tryz.underlying23
  have H := Lib.hid h
  have hB := h.lt
  obtain ⟨_, sv, hp, _⟩ := h
  have h1 := hp.cell 1
  have f1 := hp.frozen 1
  simp at h1
  clear hp
  have hk0 : Kept w.heap.size [p] w (w.setCell ⟨p, 1, none⟩ (.int .i64 (n + 4))) := (Kept.refl _ _ _).setCell (p := ⟨p, 1, none⟩) (.inl (by simp)) _
  have hp0 : PE B (w.setCell ⟨p, 1, none⟩ (.int .i64 (n + 4))) p (n + 4) stk := H.out.keep hk0 (fun _ hb => hb.set_ 1 _)
  cases o with
  | none =>
    subst hv
    go_enter Tryz.func187, Tryz.ntmps187
    go_wp2
    go_ret
    exact ⟨rfl, hp0, hk0.mono hB (fun x hx => .inl hx)⟩
  | some l =>
    obtain ⟨a, c, rfl⟩ := hv
    have ho' : l.length ≤ 1000000 := ho
    have e1 : n + (4 + ol (some l)) = n + 4 + l.length := by simp [ol]; omega
    rw [e1]
    clear e1
    go_enter Tryz.func187, Tryz.ntmps187
    go_wp2_with (go_at_call 193; refine (p193 _ _ _ l _ _ hp0 (by omega) ⟨_, _, rfl⟩ (by omega)).mono ?_; rintro e w2 ⟨rfl, hp2, hk2⟩)
    go_ret
    exact ⟨rfl, hp2, (hk0.mono hB (fun x hx => .inl hx)).trans hk2 (fun x hx => .inl hx) (fun x hx => .inl hx)⟩
end Go.Proofs.YtmiflkccfieefaaGreatDoor
