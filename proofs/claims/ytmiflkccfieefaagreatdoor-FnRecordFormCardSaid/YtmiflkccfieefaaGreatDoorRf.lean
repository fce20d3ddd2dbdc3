/-
  The law FnRecordForm: what it answers.
-/
import Derived.Test.YtmiflkccfieefaaGreatDoorSam
import Derived.Test.YtmiflkccfieefaaGreatDoorRby
import Derived.Test.YtmiflkccfieefaaGreatDoorFit
import Derived.Test.YtmiflkccfieefaaGreatDoorAlv
namespace Go.Proofs.YtmiflkccfieefaaGreatDoor
open Go.ChangeShapes Go.WideShapes Go.ChangeAt Go.RowKit
set_option maxRecDepth 100000
set_option linter.unusedVariables false
set_option linter.unusedSimpArgs false

theorem ol_nb2 (b : Bool) (l : List UInt8) : ol (nb b l) ≤ l.length := by cases b <;> simp [nb, ol]
/-- The whole numbers' bounds. -/
def RNum (x : RecV) : Prop := -128 ≤ x.attr ∧ x.attr ≤ 127 ∧ -9223372036854775808 ≤ x.od ∧ x.od ≤ 9223372036854775807
theorem RRight.fits {x : RecV} (h : RRight x) (hn : RNum x) : x.fits := by
  obtain ⟨h1, h2, h3, h4, h5, h6, h7, h8⟩ := h
  obtain ⟨n1, n2, n3, n4⟩ := hn
  refine ⟨n1, n2, h6, h7, n3, n4, ?_, ?_, by simpa [RecV.hb] using h5, ?_⟩
  · have := ol_nb2 x.key.1 x.key.2
    show ol (nb x.key.1 x.key.2) ≤ 300
    omega
  · have := ol_nb2 x.val.1 x.val.2
    show ol (nb x.val.1 x.val.2) ≤ 300
    omega
  · intro y hy
    simp only [RecV.hb, List.mem_map] at hy
    obtain ⟨z, hz, rfl⟩ := hy
    obtain ⟨_, a, b, _⟩ := h8 z hz
    have := ol_nb2 z.1.1 z.1.2
    have := ol_nb2 z.2.1 z.2.2
    constructor
    · show ol (nb z.1.1 z.1.2) ≤ 60
      omega
    · show ol (nb z.2.1 z.2.2) ≤ 60
      omega
theorem RRight.back {x : RecV} (h : RRight x) : recV x.attr x.tm x.od x.key.nb x.val.nb x.hb = x := by
  obtain ⟨h1, h2, h3, h4, h5, h6, h7, h8⟩ := h
  have k1 : bp x.key.nb = x.key := bp_of (b := x.key.1) (l := x.key.2) rfl h3
  have k2 : bp x.val.nb = x.val := bp_of (b := x.val.1) (l := x.val.2) rfl h4
  have k3 : (x.hb.map fun y => (bp y.1, bp y.2)) = x.hs := by
    simp only [RecV.hb, List.map_map]
    conv => rhs; rw [← List.map_id x.hs]
    refine List.map_congr_left fun z hz => ?_
    obtain ⟨e1, _, _, e2⟩ := h8 z hz
    have a := bp_of (b := z.1.1) (l := z.1.2) rfl (fun h => by rw [e1] at h; cases h)
    have b := bp_of (b := z.2.1) (l := z.2.2) rfl e2
    show (bp (nb z.1.1 z.1.2), bp (nb z.2.1 z.2.2)) = z
    rw [a, b]
  show (⟨x.attr, x.tm, x.od, bp x.key.nb, bp x.val.nb, x.hb.map fun y => (bp y.1, bp y.2)⟩ : RecV) = x
  rw [k1, k2, k3]

theorem Blk.all8 {W : World} {p t : Nat} {c0 c1 c2 c3 c4 c5 c6 c7 : Value} (h : Blk W p t [c0, c1, c2, c3, c4, c5, c6, c7]) :
    W.cell? ⟨p, 0, none⟩ = some c0 ∧ W.cell? ⟨p, 1, none⟩ = some c1 ∧ W.cell? ⟨p, 2, none⟩ = some c2 ∧ W.cell? ⟨p, 3, none⟩ = some c3 ∧ W.cell? ⟨p, 4, none⟩ = some c4 ∧ W.cell? ⟨p, 5, none⟩ = some c5 ∧ W.cell? ⟨p, 6, none⟩ = some c6 ∧ W.cell? ⟨p, 7, none⟩ = some c7 :=
  ⟨h.cell 0, h.cell 1, h.cell 2, h.cell 3, h.cell 4, h.cell 5, h.cell 6, h.cell 7⟩
theorem nil_own (w : World) : Own1 (w.alloc (.cells #[] 5)) w.heap.size (.slice (some ⟨w.heap.size, 0, none⟩) 0 0) [] :=
  ⟨rfl, .inr ⟨w.heap.size, 0, #[], rfl, Nat.le_refl _, heap_alloc_new _ _, by simp, by simp [maxLen], rfl, rfl⟩⟩
theorem RecV.bytes_pos (x : RecV) : 1 ≤ x.bytes.length := by
  have := vb_pos ((recBody x.attr x.tm x.od x.key.nb x.val.nb x.hb).length : Int)
  simp only [RecV.bytes, recBytes, List.length_append]
  omega
theorem RIn.mono {w : World} {D D' : Nat} {v : Value} {x : RecV} (h : RIn w D v x) (hD : D ≤ D') : RIn w D' v x := by
  obtain ⟨kd, vd, hv, rfl, h1, h2, h3⟩ := h
  exact ⟨kd, vd, hv, rfl, h1.mono hD, h2.mono hD, h3.mono hD⟩
theorem RIn.below {w w' : World} {D C : Nat} {v : Value} {x : RecV} (h : RIn w D v x) (hb : Below C w w') (hC : D ≤ C) : RIn w' D v x := by
  obtain ⟨kd, vd, hv, rfl, h1, h2, h3⟩ := h
  exact ⟨kd, vd, hv, rfl, h1.below hb hC, h2.below hb hC, h3.below hb hC⟩
theorem f3 (D : Nat) (x : RecV) (v bv : Value) (b : List UInt8) (w : World) (h : RIn w D v x) (hb : DataAt w D bv b) (hD : D ≤ w.heap.size) (hbig : RBig x) (hn : RNum x) (hbl : b.length ≤ 9223372036854775807) :
    Calls Tryz.prog 3 #[v, bv] w fun e w' => e = .returned (.bool true) ∧ Below w.heap.size w w' := by
  obtain ⟨kd, vd, hv', rfl, h1, h2, h3⟩ := h
  have hb0 : Below w.heap.size w (w.alloc (.cells #[.int .i8 x.attr, .int .i64 x.tm, .int .i64 x.od, .bool x.key.1, kd, .bool x.val.1, vd, hv'] 28)) := (Below.refl _ _).alloc (Nat.le_refl _) _
  have hri : RIn w D (.agg #[.int .i8 x.attr, .int .i64 x.tm, .int .i64 x.od, .bool x.key.1, kd, .bool x.val.1, vd, hv']) x :=
    ⟨kd, vd, hv', rfl, h1, h2, h3⟩
  have hp0 := Blk.new w 28 [.int .i8 x.attr, .int .i64 x.tm, .int .i64 x.od, .bool x.key.1, kd, .bool x.val.1, vd, hv']
  obtain ⟨bA, bc, rfl⟩ := hb.sl
  have HH := Lib.hid (And.intro (And.intro hri hb) (And.intro hb0 hp0))
  clear h1 h2 h3 hri hb0 hp0 hb
  go_enter Tryz.func3, Tryz.ntmps3
  go_wp2_with fail
  refine (f13 D x _ _ (HH.out.1.1.below HH.out.2.1 hD) (Nat.le_trans hD HH.out.2.1.size) hbig).mono ?_
  rintro e w1 ⟨b1, rfl, hb1⟩
  have hp1 := HH.out.2.2.below hb1 (by simp)
  have H1 := Lib.hid (And.intro (HH.out.2.1.trans (hb1.mono (by simp))) hp1)
  have ld := hp1.all8
  clear hb1 hp1
  cases b1
  · go_wp2
    go_ret
    exact ⟨rfl, H1.out.1⟩
  by_cases hl1 : 2147483647 < b.length
  · go_wp2
    go_ret
    exact ⟨rfl, H1.out.1⟩
  obtain ⟨y0, y1, y2, y3, y4, y5, y6, y7⟩ := ld
  go_wp2_with fail
  refine (f14 D x _ _ (HH.out.1.1.below H1.out.1 hD) (Nat.le_trans hD H1.out.1.size) hbig).mono ?_
  rintro e w2 ⟨b2, rfl, hr2, hb2⟩
  have hp2 := H1.out.2.below hb2 H1.out.2.lt
  have H2 := Lib.hid (And.intro (H1.out.1.trans (hb2.mono H1.out.1.size)) (And.intro hp2 hr2))
  clear hb2 hp2 hr2 y0 y1 y2 y3 y4 y5 y6 y7
  cases b2
  · go_wp2_with fail
    refine (f15 _).mono ?_
    rintro e w3 ⟨rfl, hb3⟩
    have HF := Lib.hid (H2.out.1.trans (hb3.mono H2.out.1.size))
    clear hb3
    go_wp2
    go_ret
    exact ⟨rfl, HF.out⟩
  by_cases hl2 : 40 < b.length
  · go_wp2_with fail
    refine (f15 _).mono ?_
    rintro e w3 ⟨rfl, hb3⟩
    have HF := Lib.hid (H2.out.1.trans (hb3.mono H2.out.1.size))
    clear hb3
    go_wp2
    go_ret
    exact ⟨rfl, HF.out⟩
  have hrr : RRight x := H2.out.2.2 rfl
  have hfit := hrr.fits hn
  have hback := hrr.back
  have hxl := RecV.bytes_le hfit
  have hsm : x.key.2.length ≤ 1000 ∧ x.val.2.length ≤ 1000 ∧ x.hs.length ≤ 6 ∧ (∀ h ∈ x.hs, h.1.2.length ≤ 1000 ∧ h.2.2.length ≤ 1000) ∧ -1099511627776 ≤ x.tm ∧ x.tm ≤ 1099511627776 := by
    obtain ⟨r1, r2, r3, r4, r5, r6, r7, r8⟩ := hrr
    refine ⟨by omega, by omega, r5, fun h hh => ?_, r6, r7⟩
    obtain ⟨_, a, b, _⟩ := r8 h hh
    exact ⟨by omega, by omega⟩
  have HX := Lib.hid (And.intro hfit (And.intro hback (And.intro hxl hsm)))
  clear hrr hfit hback hsm
  obtain ⟨y0, y1, y2, y3, y4, y5, y6, y7⟩ := H2.out.2.1.all8
  go_wp2_with fail
  refine (f16 D x _ _ (HH.out.1.1.below H2.out.1 hD) (Nat.le_trans hD H2.out.1.size) hn.1 hn.2.1 HX.out.2.2.2.2.2.2.2.1 HX.out.2.2.2.2.2.2.2.2 hn.2.2.1 hn.2.2.2 HX.out.2.2.2.1 HX.out.2.2.2.2.1 HX.out.2.2.2.2.2.1 HX.out.2.2.2.2.2.2.1).mono ?_
  rintro e w3 ⟨u3, rfl, hu3, hb3⟩
  have hform : ∃ g3 c3, u3 = .slice (some ⟨g3, 0, none⟩) x.bytes.length c3 := by
    obtain ⟨g3, c3, cur3, hv3, _⟩ := hu3.form
    exact ⟨g3, c3, hv3⟩
  obtain ⟨g3, c3, rfl⟩ := hform
  have hp3 := H2.out.2.1.below hb3 H2.out.2.1.lt
  have H3 := Lib.hid (And.intro (H2.out.1.trans (hb3.mono H2.out.1.size)) (And.intro hp3 hu3))
  clear hb3 hp3 hu3 y0 y1 y2 y3 y4 y5 y6 y7
  obtain ⟨y0, y1, y2, y3, y4, y5, y6, y7⟩ := H3.out.2.1.all8
  go_wp2_with fail
  refine (d17 D x _ _ (HH.out.1.1.below H3.out.1 hD) (Nat.le_trans hD H3.out.1.size) HX.out.1 HX.out.2.2.2.1 HX.out.2.2.2.2.1 HX.out.2.2.2.2.2.2.1).mono ?_
  rintro e w4 ⟨u4, rfl, hu4, hb4⟩
  have hp4 := H3.out.2.1.below hb4 H3.out.2.1.lt
  have H4 := Lib.hid (And.intro (H3.out.1.trans (hb4.mono H3.out.1.size)) (And.intro hp4 (And.intro hu4 (And.intro hb4 (World.ownsRow.mono (Own1.below H3.out.2.2.1 hb4 (Nat.le_refl _)) H2.out.1.size : Own1 w4 w.heap.size _ _)))))
  clear hb4 hp4 hu4 y0 y1 y2 y3 y4 y5 y6 y7
  have hE := nil_own w4
  have hbE : Below w4.heap.size w4 (w4.alloc (.cells #[] 5)) := (Below.refl _ _).alloc (Nat.le_refl _) _
  have hu3 : DataAt (w4.alloc (.cells #[] 5)) w4.heap.size (.slice (some ⟨g3, 0, none⟩) x.bytes.length c3) x.bytes := .inl ((Own.bytes ⟨Own1.below H4.out.2.2.2.2 (Below.refl w4.heap.size w4) (Nat.le_refl _), H3.out.2.2.2⟩ rfl).below hbE (Nat.le_refl _))
  have HE := Lib.hid (And.intro hE (And.intro hbE hu3))
  clear hE hbE hu3
  go_wp2_with (first
    | (at_builtin; refine wpList_app rfl _ _ rfl w4.heap.size (.slice (some ⟨w4.heap.size, 0, none⟩) 0 0) _ [] x.bytes w4.heap.size rfl rfl HE.out.1 HE.out.2.2 (by simp; omega) (by simp) ?_; intro v5 w5 hy5 hn5 hb5 hat5 hgr5; have hB5 := HE.out.2.1.trans hb5; have H5 := Lib.hid (And.intro hB5 hy5); clear hy5 hb5 hat5 hgr5 hn5 hB5)
    | (at_builtin; refine wpList_app rfl _ _ rfl w4.heap.size v5 (.slice bA b.length bc) ([] ++ x.bytes) b D rfl rfl H5.out.2 (HH.out.1.2.below (H4.out.1.trans (H5.out.1.mono H4.out.1.size)) hD) (by simp; omega) H5.out.1.size ?_; intro v6 w6 hy6 hn6 hb6 hat6 hgr6; have hB6 := H5.out.1.trans hb6; obtain ⟨g6, c6, hv6, hd6⟩ := own1_form hy6 (by have := RecV.bytes_pos x; simp; omega); rw [List.nil_append] at hv6 hd6; rw [List.length_append] at hv6; subst hv6; have H6 := Lib.hid (And.intro hB6 hd6); clear hy6 hb6 hat6 hgr6 hn6 hB6 hd6)
    | (go_at_call 18; go_loud (refine (d18 w6.heap.size x.attr x.tm x.od x.key.nb x.val.nb x.hb b _ w6 (.inl H6.out.2) (Nat.le_refl _) HX.out.1 (by omega)).mono ?_); rintro e w7 ⟨rv, he, hr7, hb7⟩; change e = .returned (.tuple #[rv, .int .i64 x.bytes.length, .bool true]) at he; subst he; rw [HX.out.2.1] at hr7; obtain ⟨kd7, vd7, hv7, rfl, hr71, hr72, hr73⟩ := hr7; obtain ⟨kA7, kc7, rfl⟩ := hr71.sl; obtain ⟨vA7, vc7, rfl⟩ := hr72.sl; have hr7' := hr73; obtain ⟨hA7, hc7, rfl, _⟩ := hr73; have H7 := Lib.hid (And.intro hb7 (And.intro hr71 (And.intro hr72 hr7'))); clear hr71 hr72 hr7' hb7)
    | (go_at_call 15; refine (f15 _).mono ?_; rintro e w9 ⟨rfl, hb9⟩; have h9a : Below w6.heap.size w6 w9 := (H7.out.1.alloc H7.out.1.size _).trans (hb9.mono (by have := H7.out.1.size; simp; omega)); have h9b : Below w4.heap.size w4 w9 := H6.out.1.trans (h9a.mono H6.out.1.size); have hq9 := (Blk.new w7 28 [.int .i8 x.attr, .int .i64 x.tm, .int .i64 x.od, .bool x.key.1, .slice kA7 x.key.2.length kc7, .bool x.val.1, .slice vA7 x.val.2.length vc7, .slice hA7 x.hs.length hc7]).below hb9 (by simp); have h97 : Below w7.heap.size w7 w9 := ((Below.refl _ _).alloc (Nat.le_refl _) _).trans (hb9.mono (by simp)); have hp9 := H4.out.2.1.below h9b H4.out.2.1.lt; have ks4 := run_str w9 w4.heap.size u4 x.bytes (.inl ((Own.bytes H4.out.2.2.1 rfl).below h9b (Nat.le_refl _))); have ks3 := run_str w9 w4.heap.size (.slice (some ⟨g3, 0, none⟩) x.bytes.length c3) x.bytes (.inl ((Own.bytes ⟨Own1.below H4.out.2.2.2.2 (Below.refl w4.heap.size w4) (Nat.le_refl _), H3.out.2.2.2⟩ rfl).below h9b (Nat.le_refl _))); have H9 := Lib.hid (And.intro h9b h97); obtain ⟨y0, y1, y2, y3, y4, y5, y6, y7⟩ := hp9.all8; obtain ⟨z0, z1, z2, z3, z4, z5, z6, z7⟩ := hq9.all8; clear hb9 h9a h9b hq9 h97 hp9)
    | (go_at_call 19; refine (f19 w7.heap.size x _ _ w9 ((HH.out.1.1.below (H4.out.1.trans (H9.out.1.mono H4.out.1.size)) hD).mono (by have := H4.out.1.size; have := H6.out.1.size; have := H7.out.1.size; omega)) ⟨_, _, _, rfl, H7.out.2.1.below H9.out.2 (Nat.le_refl _), H7.out.2.2.1.below H9.out.2 (Nat.le_refl _), H7.out.2.2.2.below H9.out.2 (Nat.le_refl _)⟩ H9.out.2.size HX.out.2.2.2.2.2.1).mono ?_; rintro e wz ⟨rfl, hbz⟩; have HZ := Lib.hid ((H4.out.1.trans (H9.out.1.mono H4.out.1.size)).trans (hbz.mono (Nat.le_trans H4.out.1.size H9.out.1.size))); clear hbz))
  go_ret
  exact ⟨rfl, HZ.out⟩
end Go.Proofs.YtmiflkccfieefaaGreatDoor
