/-
  Bytes that may be null: as the law's type has them, and as the encoders take them.
-/
import Derived.Test.YtmiflkccfieefaaGreatDoorBts
import Derived.Laws.IdiomStrings
import Derived.Lib.BufferRead
import Derived.Deep.Onto
import Derived.Deep.RegionHeld3
namespace Go.Proofs.YtmiflkccfieefaaGreatDoor
open Go.ChangeShapes Go.WideShapes Go.ChangeAt Go.RowKit
set_option maxRecDepth 100000
set_option linter.unusedVariables false

/-- Bytes that may be null, out of the law's type. -/
def nb (b : Bool) (l : List UInt8) : NB := if b then none else some l
theorem NBytesAt.below {w w' : World} {D C : Nat} {v : Value} {o : NB} (h : NBytesAt w D v o) (hb : Below C w w') (hC : D ≤ C) : NBytesAt w' D v o := by
  cases o with
  | none => exact h
  | some l => exact BytesAt.below h hb hC
theorem NBytesAt.mono {w : World} {D D' : Nat} {v : Value} {o : NB} (h : NBytesAt w D v o) (hD : D ≤ D') : NBytesAt w D' v o := by
  cases o with
  | none => exact h
  | some l => exact BytesAt.mono h hD
theorem DataAt.sl {w : World} {D : Nat} {v : Value} {l : List UInt8} (h : DataAt w D v l) : ∃ A c, v = .slice A l.length c := by
  rcases h.norm with ⟨a, c, rfl, _⟩ | ⟨rfl, rfl⟩
  · exact ⟨_, _, rfl⟩
  · exact ⟨none, 0, rfl⟩
theorem DataSt.sl {w : World} {D : Nat} {v : Value} {l : List UInt8} (h : DataSt w D v l) : ∃ A c, v = .slice A l.length c := h.weak.sl
theorem run_str (w : World) (D : Nat) (v : Value) (l : List UInt8) (h : DataAt w D v l) : (convert 23 9 v).run Tryz.prog w = .ok (.string ⟨l.toArray⟩) w := by
  rcases h.norm with ⟨a, c, rfl, hc⟩ | ⟨rfl, rfl⟩
  · refine run_convert_bytes_back w 23 9 5 a c l Tryz.underlying23 Tryz.underlying5 Tryz.underlying9 fun j hj => ?_
    refine (hc j _ ?_).2
    simp [Lib.byteCells, hj]
  · exact Lib.run_convert_nil_bytes w 23 9 5 0 Tryz.underlying23 Tryz.underlying5 Tryz.underlying9

theorem raw (b : Bool) (dv : Value) (l : List UInt8) (D : Nat) (w : World) (h : DataAt w D dv l) (hl : l.length ≤ 1000000) (hD : D ≤ w.heap.size) :
    Calls Tryz.prog 82 #[.agg #[.bool b, dv]] w fun e w' => ∃ v, e = .returned v ∧ NBytesAt w' w'.heap.size v (nb b l) ∧ Below w.heap.size w w' := by
  have H := Lib.hid (And.intro h hl)
  clear h hl
  have hb0 : Below w.heap.size w (w.alloc (.cells #[.bool b, dv] 25)) := (Below.refl _ _).alloc (Nat.le_refl _) _
  cases b with
  | true =>
    go_enter Tryz.func82, Tryz.ntmps82
    go_wp2
    go_ret
    exact ⟨_, rfl, rfl, hb0⟩
  | false =>
    have hk := copied dv l D (w.alloc (.cells #[.bool false, dv] 25)) (H.out.1.below hb0 hD) H.out.2 (by simp; omega)
    go_enter Tryz.func82, Tryz.ntmps82
    go_wp2_with (go_at_call 70; refine hk.mono ?_; rintro e w1 ⟨v, rfl, ho, hb⟩)
    have HR := Lib.hid (show NBytesAt w1 w1.heap.size v (nb false l) ∧ Below w.heap.size w w1 from ⟨ho.bytes rfl, hb0.trans (hb.mono (by simp))⟩)
    clear ho hb
    go_wp2
    go_ret
    exact ⟨_, rfl, HR.out⟩

theorem small (b : Bool) (dv : Value) (l : List UInt8) (D : Nat) (k : Nat) (w : World) (h : DataAt w D dv l) (hk : k ≤ 1000) :
    Calls Tryz.prog 47 #[.agg #[.bool b, dv], .int .i64 k] w fun e w' => e = .returned (.bool (decide (l.length ≤ k) && (!b || decide (l.length = 0)))) ∧ Below w.heap.size w w' := by
  obtain ⟨A, c, rfl⟩ := h.sl
  have hb0 : Below w.heap.size w (w.alloc (.cells #[.bool b, .slice A l.length c] 25)) := (Below.refl _ _).alloc (Nat.le_refl _) _
  by_cases h1 : l.length ≤ k
  · cases b
    · go_enter Tryz.func47, Tryz.ntmps47
      go_wp2
      go_ret
      exact ⟨by simp [h1], hb0⟩
    · by_cases h2 : l.length = 0
      · go_enter Tryz.func47, Tryz.ntmps47
        go_wp2
        go_ret
        rw [h2] at hb0
        exact ⟨by simp [h2], hb0⟩
      · have h3 : ¬ (l = []) := fun e => h2 (by simp [e])
        go_enter Tryz.func47, Tryz.ntmps47
        go_wp2
        go_ret
        exact ⟨by simp [h1, h3], hb0⟩
  · go_enter Tryz.func47, Tryz.ntmps47
    go_wp2
    go_ret
    exact ⟨by simp [h1], hb0⟩

theorem sameBytes (b1 b2 : Bool) (d1 d2 : Value) (l1 l2 : List UInt8) (D1 D2 : Nat) (w : World) (h1 : DataAt w D1 d1 l1) (h2 : DataAt w D2 d2 l2) (hD1 : D1 ≤ w.heap.size) (hD2 : D2 ≤ w.heap.size) :
    Calls Tryz.prog 54 #[.agg #[.bool b1, d1], .agg #[.bool b2, d2]] w fun e w' => e = .returned (.bool (decide (b1 = b2) && decide (l1 = l2))) ∧ Below w.heap.size w w' := by
  have hb0 : Below w.heap.size w ((w.alloc (.cells #[.bool b1, d1] 25)).alloc (.cells #[.bool b2, d2] 25)) := ((Below.refl _ _).alloc (Nat.le_refl _) _).alloc (by simp) _
  have k1 := run_str _ D1 d1 l1 (h1.below hb0 hD1)
  have k2 := run_str _ D2 d2 l2 (h2.below hb0 hD2)
  by_cases hb : b1 = b2
  · by_cases hl : l1 = l2
    · subst hb
      subst hl
      go_enter Tryz.func54, Tryz.ntmps54
      go_wp2
      go_ret
      exact ⟨by simp, hb0⟩
    · subst hb
      have hne : ¬ ((⟨l1.toArray⟩ : ByteArray) = ⟨l2.toArray⟩) := fun e => hl (by simpa using e)
      go_enter Tryz.func54, Tryz.ntmps54
      go_wp2
      go_ret
      exact ⟨by simp [hl], hb0⟩
  · go_enter Tryz.func54, Tryz.ntmps54
    go_wp2
    go_ret
    exact ⟨by simp [hb], hb0⟩

theorem plain (v : Value) (o : NB) (D : Nat) (w : World) (h : NBytesAt w D v o) (hl : ol o ≤ 1000000) (hD : D ≤ w.heap.size) :
    Calls Tryz.prog 86 #[v] w fun e w' => ∃ b dv l, e = .returned (.agg #[.bool b, dv]) ∧ DataSt w' w'.heap.size dv l ∧ nb b l = o ∧ (b = true → l = []) ∧ Below w.heap.size w w' := by
  have heq := fun (W : World) (a : Option Addr) (l c : Nat) => Lib.run_eql_slice_nil (P := Tryz.prog) W 23 5 a l c 0 0 Tryz.underlying23
  have hb0 : Below w.heap.size w (w.alloc (.cells #[.bool false, .slice none 0 0] 25)) := (Below.refl _ _).alloc (Nat.le_refl _) _
  have hp0 := Blk.new w 25 [.bool false, .slice none 0 0]
  cases o with
  | none =>
    have hv : v = .slice none 0 0 := h
    subst hv
    have hbel : Below w.heap.size w (w.alloc (.cells #[.bool true, .slice none 0 0] 25)) := (Below.refl _ _).alloc (Nat.le_refl _) _
    have hp2 : Blk (w.alloc (.cells #[.bool true, .slice none 0 0] 25)) w.heap.size 25 [.bool true, .slice none 0 0] := Blk.new _ _ _
    have HB := Lib.hid hbel
    have HP := Lib.hid hp2
    clear h hbel hp2
    go_enter Tryz.func86, Tryz.ntmps86
    go_wp2
    try simp only [Exit.inBlock, Exit.then]
    refine bodyPost_ret (results_cell_row rfl _ _ w.heap.size 25 #[.bool true, .slice none 0 0] (0, 0) _ rfl HP.out Tryz.underlying25 rfl (by kernel_rfl)) rfl ?_
    exact ⟨_, _, [], rfl, .inr ⟨rfl, rfl⟩, rfl, fun _ => rfl, HB.out⟩
  | some l =>
    have hv : BytesAt w D v l := h
    have hl' : l.length ≤ 1000000 := hl
    have hk := copied v l D (w.alloc (.cells #[.bool false, .slice none 0 0] 25)) (.inl (hv.below hb0 hD)) hl' (by simp; omega)
    obtain ⟨a, c, rfl⟩ := hv.sl
    clear h hv
    go_enter Tryz.func86, Tryz.ntmps86
    go_wp2_with (
      go_at_call 70
      refine hk.mono ?_
      rintro e w1 ⟨v, rfl, ho, hb⟩
      obtain ⟨g2, cap2, cur2, hv2, _⟩ := ho.form
      subst hv2
      have hp1 : Blk w1 w.heap.size 25 [.bool false, .slice none 0 0] := hp0.below hb (by simp)
      have c0 := hp1.cell 0
      have c1 := hp1.cell 1
      have z0 := hp1.frozen 0
      have z1 := hp1.frozen 1
      simp at c0 c1
      have hsz := hb.size
      simp at hsz
      have hd := (DataAt.below (.inl (ho.bytes rfl)) ((Below.refl w1.heap.size w1).trans (Below.refl _ _)) (Nat.le_refl _) : DataAt w1 w1.heap.size (.slice (some ⟨g2, 0, none⟩) l.length cap2) l)
      have hob := ho.bytes rfl
      have hk2 : Kept w1.heap.size [w.heap.size] w1 ((w1.setCell ⟨w.heap.size, 0, none⟩ (.bool false)).setCell ⟨w.heap.size, 1, none⟩ (.slice (some ⟨g2, 0, none⟩) l.length cap2)) := ((Kept.refl _ _ _).setCell (p := ⟨w.heap.size, 0, none⟩) (.inl (by simp)) _).setCell (p := ⟨w.heap.size, 1, none⟩) (.inl (by simp)) _
      have hob2 := hob.kept hk2 (fun s hs => .inr ⟨25, _, by decide, by simp at hs; subst hs; exact hp1⟩)
      have hbel : Below w.heap.size w ((w1.setCell ⟨w.heap.size, 0, none⟩ (.bool false)).setCell ⟨w.heap.size, 1, none⟩ (.slice (some ⟨g2, 0, none⟩) l.length cap2)) := ((hb0.trans (hb.mono (by simp))).setCell (p := ⟨w.heap.size, 0, none⟩) (Nat.le_refl _) _).setCell (p := ⟨w.heap.size, 1, none⟩) (Nat.le_refl _) _
      have hp2 : Blk ((w1.setCell ⟨w.heap.size, 0, none⟩ (.bool false)).setCell ⟨w.heap.size, 1, none⟩ (.slice (some ⟨g2, 0, none⟩) l.length cap2)) w.heap.size 25 [.bool false, (.slice (some ⟨g2, 0, none⟩) l.length cap2)] := (hp1.set_ 0 (.bool false)).set_ 1 (.slice (some ⟨g2, 0, none⟩) l.length cap2)
      have e0 := hp2.cell 0
      have e1 := hp2.cell 1
      simp at e0 e1
      have HR := Lib.hid (And.intro hob2 hbel)
      have HP := Lib.hid hp2
      clear hob2 hbel hob hd ho hb hp1 hp2 e0 e1)
    go_wp2
    try simp only [Exit.inBlock, Exit.then]
    refine bodyPost_ret (results_cell_row rfl _ _ w.heap.size 25 #[.bool false, (.slice (some ⟨g2, 0, none⟩) l.length cap2)] (0, 0) _ rfl HP.out Tryz.underlying25 rfl (by kernel_rfl)) rfl ?_
    refine ⟨_, _, l, rfl, .inl (by simpa using HR.out.1), rfl, fun e => by simp at e, HR.out.2⟩

set_option maxHeartbeats 2000000 in
theorem f49 (b : Bool) (dv : Value) (l : List UInt8) (D : Nat) (w : World) (h : DataAt w D dv l) (hl : l.length ≤ 1000000) (hD : D ≤ w.heap.size) :
    Calls Tryz.prog 49 #[.agg #[.bool b, dv]] w fun e w' => ∃ v, e = .returned v ∧ Own w' w.heap.size v (vBytes (nb b l)) ∧ Below w.heap.size w w' := by
  have hb0 : Below w.heap.size w (w.alloc (.cells #[.bool b, dv] 25)) := (Below.refl _ _).alloc (Nat.le_refl _) _
  obtain ⟨A, c, rfl⟩ := h.sl
  have H := Lib.hid (h.below hb0 hD)
  clear h
  cases b with
  | true =>
    have hk := f48 (-1) (by omega) (by omega) (w.alloc (.cells #[.bool true, .slice A l.length c] 25))
    go_enter Tryz.func49, Tryz.ntmps49
    go_wp2_with (go_at_call 48; refine hk.mono ?_; rintro e w1 ⟨v, rfl, ho, hb⟩)
    have HR := Lib.hid (show Own w1 w.heap.size v (vBytes (nb true l)) ∧ Below w.heap.size w w1 from ⟨⟨World.ownsRow.mono ho.1 (by simp), ho.2⟩, hb0.trans (hb.mono (by simp))⟩)
    clear ho hb
    go_wp2
    go_ret
    exact ⟨_, rfl, HR.out⟩
  | false =>
    have hk := f48 l.length (by omega) (by omega) ((w.alloc (.cells #[.bool false, .slice A l.length c] 25)).drew)
    have hvl := vb_le (x := (l.length : Int)) (by omega) (by omega)
    have HK := Lib.hid hk
    have HL := Lib.hid hvl
    clear hk hvl
    go_enter Tryz.func49, Tryz.ntmps49
    go_wp2_with fail
    have hbx : Blk (w.alloc (.cells #[.bool false, .slice A l.length c] 25)).drew w.heap.size 25 [.bool false, .slice A l.length c] := (Blk.new w 25 [.bool false, .slice A l.length c]).drew
    have HD := Lib.hid (show DataAt (w.alloc (.cells #[.bool false, .slice A l.length c] 25)).drew D (.slice A l.length c) l from H.out)
    go_region_held3 (fun W => W.cell? ⟨w.heap.size, 1, none⟩ = some (.slice A l.length c) ∧ Blk W w.heap.size 25 [.bool false, .slice A l.length c])
      (first | go_keep | (have hK := hbx.below hb (by simp); exact ⟨by simpa using hK.cell 1, hK⟩) | (have hK := (hbx.below hb (by simp)).grown ho1 (by decide) hgr2; exact ⟨by simpa using hK.cell 1, hK⟩))
      (first | (go_at_call 48; refine (f48 l.length (by omega) (by omega) _).mono ?_; rintro e w1 ⟨v, rfl, ho, hb⟩; have ho1 := World.ownsRow.mono ho.1 (show w.heap.size ≤ _ by simp)) | (refine step_app rfl _ _ rfl w.heap.size _ _ (vb l.length) l D rfl rfl ho1 (HD.out.below hb (by simp; omega)) (by have := HL.out; omega) (by have := hb.size; simp at this; omega) ?_; intro v2 w2 ho2 hnil2 hb2 hat2 hgr2))
    have HR := Lib.hid (show Own w2 w.heap.size v2 (vBytes (nb false l)) ∧ Below w.heap.size w w2 from ⟨⟨ho2, fun e => ho.2 (by first | exact (hnil2 e).1 | exact absurd e hnil2)⟩, ((show Below w.heap.size w (w.alloc (.cells #[.bool false, .slice A l.length c] 25)).drew from hb0.drew).trans (hb.mono (by simp))).trans hb2⟩)
    clear ho hb ho1 ho2 hnil2 hb2 hat2 hgr2
    go_wp2
    go_ret
    exact ⟨_, rfl, HR.out⟩
end Go.Proofs.YtmiflkccfieefaaGreatDoor
