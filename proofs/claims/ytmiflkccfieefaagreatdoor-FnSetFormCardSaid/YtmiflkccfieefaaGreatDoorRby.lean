/-
  The law's own bytes of a record: spec.RecordBytes.
-/
import Derived.Test.YtmiflkccfieefaaGreatDoorRin
import Derived.Deep.DeepCutAuto
namespace Go.Proofs.YtmiflkccfieefaaGreatDoor
open Go.ChangeShapes Go.WideShapes Go.ChangeAt Go.RowKit
set_option maxRecDepth 100000
set_option linter.unusedVariables false
set_option linter.unusedSimpArgs false

/-- A variable's block, and all below. -/
structure PX (w0 : World) (p t : Nat) (cs : List Value) (W : World) : Prop where
  blk : Blk W p t cs
  bel : Below w0.heap.size w0 W
theorem PX.call {w0 : World} {p t : Nat} {cs : List Value} {W W' : World} (h : PX w0 p t cs W) (hb : Below W.heap.size W W') : PX w0 p t cs W' := ⟨h.blk.below hb h.blk.lt, h.bel.trans (hb.mono h.bel.size)⟩
theorem PX.alloc {w0 : World} {p t : Nat} {cs : List Value} {W : World} (h : PX w0 p t cs W) (o : Obj) : PX w0 p t cs (W.alloc o) := ⟨h.blk.alloc o, h.bel.alloc h.bel.size o⟩
theorem PX.drew {w0 : World} {p t : Nat} {cs : List Value} {W : World} (h : PX w0 p t cs W) : PX w0 p t cs W.drew := ⟨h.blk.drew, h.bel.drew⟩
theorem PX.app {w0 : World} {p t : Nat} {cs : List Value} {W W' : World} {v : Value} {l : List UInt8} (h : PX w0 p t cs W) (hv : Own1 W w0.heap.size v l) (ht : t ≠ 5) (hg : W.grownBy W' v.ownBlock) : PX w0 p t cs W' :=
  ⟨h.blk.grown hv ht hg, h.bel.trans (grownBy_below hg (fun k e => (hv.blk e).1) h.bel.size)⟩
def P8 (w : World) (p : Nat) (c0 c1 c2 c3 c4 c5 c6 c7 : Value) (W : World) : Prop := PX w p 28 [c0, c1, c2, c3, c4, c5, c6, c7] W
theorem px8 {w : World} {p t : Nat} {c0 c1 c2 c3 c4 c5 c6 c7 : Value} {W : World} (h : PX w p t [c0, c1, c2, c3, c4, c5, c6, c7] W) :
    W.cell? ⟨p, 0, none⟩ = some c0 ∧ W.cell? ⟨p, 1, none⟩ = some c1 ∧ W.cell? ⟨p, 2, none⟩ = some c2 ∧ W.cell? ⟨p, 3, none⟩ = some c3 ∧ W.cell? ⟨p, 4, none⟩ = some c4 ∧ W.cell? ⟨p, 5, none⟩ = some c5 ∧ W.cell? ⟨p, 6, none⟩ = some c6 ∧ PX w p t [c0, c1, c2, c3, c4, c5, c6, c7] W :=
  ⟨h.blk.cell 0, h.blk.cell 1, h.blk.cell 2, h.blk.cell 3, h.blk.cell 4, h.blk.cell 5, h.blk.cell 6, h⟩
theorem px4 {w : World} {p t : Nat} {c0 c1 c2 c3 : Value} {W : World} (h : PX w p t [c0, c1, c2, c3] W) :
    W.cell? ⟨p, 0, none⟩ = some c0 ∧ W.cell? ⟨p, 1, none⟩ = some c1 ∧ W.cell? ⟨p, 2, none⟩ = some c2 ∧ W.cell? ⟨p, 3, none⟩ = some c3 ∧ PX w p t [c0, c1, c2, c3] W :=
  ⟨h.blk.cell 0, h.blk.cell 1, h.blk.cell 2, h.blk.cell 3, h⟩
/-- Data of before, seen from later. -/
theorem DataAt.below2 {w W W' : World} {D : Nat} {v : Value} {l : List UInt8} (h : DataAt W D v l) (h1 : Below w.heap.size w W) (h2 : Below w.heap.size w W') (hD : D ≤ w.heap.size) : DataAt W' D v l := by
  rcases h with ⟨a, c, C', f, rfl, ha, hg, hc⟩ | h | ⟨a, c, rfl, hc⟩
  · have e : W'.heap[a.block]? = W.heap[a.block]? := (h2.block a.block (by omega)).trans (h1.block a.block (by omega)).symm
    refine .inl ⟨a, c, C', f, rfl, ha, e.trans hg, fun j u hj => ?_⟩
    rw [← hc j u hj]
    exact World.cell?_of_block (by rw [add_block]; exact e)
  · exact .inr (.inl h)
  · refine .inr (.inr ⟨a, c, rfl, fun j u hj => ⟨(hc j u hj).1, ?_⟩⟩)
    have ha := (hc j u hj).1
    have e : W'.heap[a.block]? = W.heap[a.block]? := (h2.block a.block (by omega)).trans (h1.block a.block (by omega)).symm
    rw [← (hc j u hj).2]
    exact World.cell?_of_block (by rw [add_block]; exact e)
theorem own1_form {w : World} {B : Nat} {v : Value} {l : List UInt8} (h : Own1 w B v l) (hl : 1 ≤ l.length) : ∃ g c, v = .slice (some ⟨g, 0, none⟩) l.length c ∧ BytesAt w w.heap.size v l := by
  have hO : Own w B v l := ⟨h, fun e => by
    rcases h.2 with ⟨_, h0⟩ | ⟨g, cap, cur, h0, _⟩
    · omega
    · rw [e] at h0
      cases h0⟩
  obtain ⟨g, cap, cur, hv, _⟩ := hO.form
  exact ⟨g, cap, hv, hO.bytes rfl⟩
theorem hb_step (x : RecV) (k : Nat) (hlt : k < x.hs.length) (xk : BP × BP) (h : x.hs[k] = xk) : (x.hb.take (k + 1)).flatMap hdrB = (x.hb.take k).flatMap hdrB ++ (vBytes xk.1.nb ++ vBytes xk.2.nb) := by
  have hl : k < x.hb.length := by simpa [RecV.hb] using hlt
  rw [List.take_succ_eq_append_getElem hl, List.flatMap_append]
  congr 1
  simp [RecV.hb, hdrB, h]
theorem one_own (w : World) (B : Nat) (hB : B ≤ w.heap.size) (x : Int) : Own1 (w.alloc (.cells #[.int .u8 (x % 256)] 5)) B (.slice (some ⟨w.heap.size, 0, none⟩) 1 1) [byteOf x] := by
  have e : Lib.byteCells [byteOf x] = [.int .u8 (x % 256)] := by
    have := byteOf_toNat x
    simp [Lib.byteCells]
    omega
  refine ⟨by simp [Lib.byteCells], .inr ⟨w.heap.size, 1, #[.int .u8 (x % 256)], rfl, hB, heap_alloc_new _ _, by simp, by simp [maxLen], rfl, ?_⟩⟩
  rw [e]
  rfl

theorem vb_len (x : BP) (h : x.2.length ≤ 1000) : (vBytes x.nb).length ≤ 1100 := by
  unfold BP.nb nb
  split
  · have := vb_le (x := -1) (by omega) (by omega)
    simp only [vBytes]
    omega
  · have := vb_le (x := (x.2.length : Int)) (by omega) (by omega)
    simp only [vBytes, List.length_append]
    omega
set_option maxHeartbeats 8000000 in
theorem f16 (D : Nat) (x : RecV) (v : Value) (w : World) (h : RIn w D v x) (hD : D ≤ w.heap.size) (ha0 : -128 ≤ x.attr) (ha1 : x.attr ≤ 127) (ht0 : -1099511627776 ≤ x.tm) (ht1 : x.tm ≤ 1099511627776) (ho0 : -9223372036854775808 ≤ x.od) (ho1 : x.od ≤ 9223372036854775807)
    (hk : x.key.2.length ≤ 1000) (hvl : x.val.2.length ≤ 1000) (hhl : x.hs.length ≤ 6) (hhb : ∀ h ∈ x.hs, h.1.2.length ≤ 1000 ∧ h.2.2.length ≤ 1000) :
    Calls Tryz.prog 16 #[v] w fun e w' => ∃ rv, e = .returned rv ∧ Own w' w.heap.size rv (recBytes x.attr x.tm x.od x.key.nb x.val.nb x.hb) ∧ Below w.heap.size w w' := by
  obtain ⟨kd, vd, hv, rfl, h1, h2, h3⟩ := h
  obtain ⟨kA, kc, rfl⟩ := h1.sl
  obtain ⟨vA, vc, rfl⟩ := h2.sl
  have HD := Lib.hid (And.intro h1 (And.intro h2 h3))
  obtain ⟨hA, hc, rfl, _⟩ := h3
  have hpx : PX w w.heap.size 28 [.int .i8 x.attr, .int .i64 x.tm, .int .i64 x.od, .bool x.key.1, .slice kA x.key.2.length kc, .bool x.val.1, .slice vA x.val.2.length vc, .slice hA x.hs.length hc] (w.alloc (.cells #[.int .i8 x.attr, .int .i64 x.tm, .int .i64 x.od, .bool x.key.1, .slice kA x.key.2.length kc, .bool x.val.1, .slice vA x.val.2.length vc, .slice hA x.hs.length hc] 28)).drew :=
    ⟨(Blk.new w 28 _).drew, ((Below.refl _ _).alloc (Nat.le_refl _) _).drew⟩
  have hpxA : PX w w.heap.size 28 [.int .i8 x.attr, .int .i64 x.tm, .int .i64 x.od, .bool x.key.1, .slice kA x.key.2.length kc, .bool x.val.1, .slice vA x.val.2.length vc, .slice hA x.hs.length hc] ((w.alloc (.cells #[.int .i8 x.attr, .int .i64 x.tm, .int .i64 x.od, .bool x.key.1, .slice kA x.key.2.length kc, .bool x.val.1, .slice vA x.val.2.length vc, .slice hA x.hs.length hc] 28)).alloc (.cells #[.int .u8 (x.attr % 256)] 5)).drew :=
    ⟨((Blk.new w 28 _).alloc _).drew, (((Below.refl _ _).alloc (Nat.le_refl _) _).alloc (by simp) _).drew⟩
  have hoA : Own1 ((w.alloc (.cells #[.int .i8 x.attr, .int .i64 x.tm, .int .i64 x.od, .bool x.key.1, .slice kA x.key.2.length kc, .bool x.val.1, .slice vA x.val.2.length vc, .slice hA x.hs.length hc] 28)).alloc (.cells #[.int .u8 (x.attr % 256)] 5)).drew w.heap.size (.slice (some ⟨w.heap.size + 1, 0, none⟩) 1 1) [byteOf x.attr] := by
    have h := one_own (w.alloc (.cells #[.int .i8 x.attr, .int .i64 x.tm, .int .i64 x.od, .bool x.key.1, .slice kA x.key.2.length kc, .bool x.val.1, .slice vA x.val.2.length vc, .slice hA x.hs.length hc] 28)) w.heap.size (by simp) x.attr
    rw [show (w.alloc (.cells #[.int .i8 x.attr, .int .i64 x.tm, .int .i64 x.od, .bool x.key.1, .slice kA x.key.2.length kc, .bool x.val.1, .slice vA x.val.2.length vc, .slice hA x.hs.length hc] 28)).heap.size = w.heap.size + 1 by simp] at h
    exact h
  have hvt := vb_le (x := x.tm) (by omega) (by omega)
  clear h1 h2
  go_enter Tryz.func16, Tryz.ntmps16
  go_upto_region 1 with fail
  go_cut [3] (fun s3 wx => Hid (Own1 wx w.heap.size s3 (byteOf x.attr :: vb x.tm) ∧ PX w w.heap.size 28 [.int .i8 x.attr, .int .i64 x.tm, .int .i64 x.od, .bool x.key.1, .slice kA x.key.2.length kc, .bool x.val.1, .slice vA x.val.2.length vc, .slice hA x.hs.length hc] wx))
  case first =>
    have hu8 : IntKind.u8.wrap x.attr = x.attr % 256 := by rw [IntKind.wrap_u8]
    go_region_held3 (fun W => W.cell? ⟨w.heap.size, 0, none⟩ = some (.int .i8 x.attr) ∧ W.cell? ⟨w.heap.size, 1, none⟩ = some (.int .i64 x.tm) ∧ W.cell? ⟨w.heap.size, 2, none⟩ = some (.int .i64 x.od) ∧ W.cell? ⟨w.heap.size, 3, none⟩ = some (.bool x.key.1) ∧ W.cell? ⟨w.heap.size, 4, none⟩ = some (.slice kA x.key.2.length kc) ∧ W.cell? ⟨w.heap.size, 5, none⟩ = some (.bool x.val.1) ∧ W.cell? ⟨w.heap.size, 6, none⟩ = some (.slice vA x.val.2.length vc) ∧ PX w w.heap.size 28 [.int .i8 x.attr, .int .i64 x.tm, .int .i64 x.od, .bool x.key.1, .slice kA x.key.2.length kc, .bool x.val.1, .slice vA x.val.2.length vc, .slice hA x.hs.length hc] W)
      (first | with_reducible exact px8 hpx | with_reducible exact px8 hpxA | with_reducible exact px8 hpx1 | with_reducible exact px8 (PX.alloc hpx1 _) | with_reducible exact px8 hpx3)
      (first | (go_at_call 48; refine (f48 x.tm (by omega) (by omega) _).mono ?_; rintro e w1 ⟨u1, rfl, hu1, hb1⟩; (first | (have hpx1 := PX.call hpxA hb1; have hoA1 := Own1.below hoA hb1 (Nat.le_refl _)) | have hpx1 := PX.call hpx hb1); have hus := hpx1.bel.size) | (refine step_app rfl _ _ rfl w.heap.size _ _ [byteOf x.attr] (vb x.tm) _ rfl rfl hoA1 (.inl (Own.bytes hu1 rfl)) (by simp; omega) hus ?_; intro v2 w2 ho2 hnil2 hb2 hat2 hgr2; have hpx3 := hpx1.app hoA1 (by decide) hgr2) | (refine step_app rfl _ _ rfl w.heap.size _ _ [byteOf x.attr] (vb x.tm) _ rfl rfl (one_own w1 w.heap.size hus x.attr) (.inl ((Own.bytes hu1 rfl).below ((Below.refl _ _).alloc (Nat.le_refl _) _) (Nat.le_refl _))) (by simp; omega) (by simp; omega) ?_; intro v2 w2 ho2 hnil2 hb2 hat2 hgr2; have hpx3 := (hpx1.alloc _).app (one_own w1 w.heap.size hus x.attr) (by decide) hgr2))
    all_goals
      have HF : Hid (Own1 w2 w.heap.size v2 (byteOf x.attr :: vb x.tm) ∧ PX w w.heap.size 28 [.int .i8 x.attr, .int .i64 x.tm, .int .i64 x.od, .bool x.key.1, .slice kA x.key.2.length kc, .bool x.val.1, .slice vA x.val.2.length vc, .slice hA x.hs.length hc] w2) := ⟨ho2, hpx3⟩
      clear ho2 hpx3 hnil2 hb2 hat2 hgr2
      go_wp2_with fail
      go_meet
      exact HF
  case rest =>
    clear hpx hpxA hoA
    have hvo := vb_le (x := x.od) (by omega) (by omega)
    have hkb : (vBytes x.key.nb).length ≤ 1100 := vb_len x.key hk
    have hvb : (vBytes x.val.nb).length ≤ 1100 := vb_len x.val hvl
    obtain ⟨o3, hpx⟩ := hcut.out
    have hpx0 := hpx.drew
    have hus := hpx.bel.size
    have H0 := Lib.hid o3
    clear hcut o3 hpx
    have hcs := px8 hpx0
    go_wp2_with fail
    go_region_held3 (fun W => W.cell? ⟨w.heap.size, 0, none⟩ = some (.int .i8 x.attr) ∧ W.cell? ⟨w.heap.size, 1, none⟩ = some (.int .i64 x.tm) ∧ W.cell? ⟨w.heap.size, 2, none⟩ = some (.int .i64 x.od) ∧ W.cell? ⟨w.heap.size, 3, none⟩ = some (.bool x.key.1) ∧ W.cell? ⟨w.heap.size, 4, none⟩ = some (.slice kA x.key.2.length kc) ∧ W.cell? ⟨w.heap.size, 5, none⟩ = some (.bool x.val.1) ∧ W.cell? ⟨w.heap.size, 6, none⟩ = some (.slice vA x.val.2.length vc) ∧ PX w w.heap.size 28 [.int .i8 x.attr, .int .i64 x.tm, .int .i64 x.od, .bool x.key.1, .slice kA x.key.2.length kc, .bool x.val.1, .slice vA x.val.2.length vc, .slice hA x.hs.length hc] W)
      (first | with_reducible exact px8 hpx0 | with_reducible exact px8 hq1 | with_reducible exact px8 hq2 | with_reducible exact px8 hq3 | with_reducible exact px8 hq4 | with_reducible exact px8 hq5 | with_reducible exact px8 hq6)
      (first | (go_at_call 48; refine (f48 x.od ho0 ho1 _).mono ?_; rintro e w1 ⟨u1, rfl, hu1, hb1⟩; have hq1 := PX.call hpx0 hb1; have hy0 := Own1.below (show Own1 wc.drew w.heap.size u3 (byteOf x.attr :: vb x.tm) from H0.out) hb1 (Nat.le_refl _)) | (refine step_app rfl _ _ rfl w.heap.size u3 _ (byteOf x.attr :: vb x.tm) (vb x.od) _ rfl rfl hy0 (.inl (Own.bytes hu1 rfl)) (by simp; omega) hq1.bel.size ?_; intro v2 w2 hy1 hn2 hbb2 hat2 hgr2; have hq2 := hq1.app hy0 (by decide) hgr2) | (go_at_call_of 49 (Value.agg #[.bool x.key.1, .slice kA x.key.2.length kc]); refine (f49 _ _ x.key.2 D _ (HD.out.1.below hq2.bel hD) (by omega) (Nat.le_trans hD hq2.bel.size)).mono ?_; rintro e w3 ⟨u3', rfl, hu3, hb3⟩; have hq3 := PX.call hq2 hb3; have hy2 := Own1.below hy1 hb3 (Nat.le_refl _)) | (refine step_app rfl _ _ rfl w.heap.size v2 _ ((byteOf x.attr :: vb x.tm) ++ vb x.od) (vBytes x.key.nb) _ rfl rfl hy2 (.inl (Own.bytes hu3 rfl)) (by simp; omega) hq3.bel.size ?_; intro v4 w4 hy3 hn4 hbb4 hat4 hgr4; have hq4 := hq3.app hy2 (by decide) hgr4) | (go_at_call_of 49 (Value.agg #[.bool x.val.1, .slice vA x.val.2.length vc]); refine (f49 _ _ x.val.2 D _ (HD.out.2.1.below hq4.bel hD) (by omega) (Nat.le_trans hD hq4.bel.size)).mono ?_; rintro e w5 ⟨u5, rfl, hu5, hb5⟩; have hq5 := PX.call hq4 hb5; have hy4 := Own1.below hy3 hb5 (Nat.le_refl _)) | (refine step_app rfl _ _ rfl w.heap.size v4 _ ((byteOf x.attr :: vb x.tm) ++ vb x.od ++ vBytes x.key.nb) (vBytes x.val.nb) _ rfl rfl hy4 (.inl (Own.bytes hu5 rfl)) (by simp; omega) hq5.bel.size ?_; intro v6 w6 hy5 hn6 hbb6 hat6 hgr6; have hq6 := hq5.app hy4 (by decide) hgr6))
    have hl6 : (byteOf x.attr :: vb x.tm ++ vb x.od ++ vBytes x.key.nb ++ vBytes x.val.nb).length ≤ 3000 := by simp; omega
    generalize hl6v : byteOf x.attr :: vb x.tm ++ vb x.od ++ vBytes x.key.nb ++ vBytes x.val.nb = l6 at hy5 hl6
    have HL6 := Lib.hid hl6v
    have H6 := Lib.hid (And.intro hy5 hq6)
    have c7 := hq6.blk.cell 7
    simp only [List.getElem?_cons_zero, List.getElem?_cons_succ] at c7
    have hvh := vb_le (x := (x.hs.length : Int)) (by omega) (by omega)
    have hs6 := hq6.bel.size
    rename_i hHeld
    clear hHeld hcs hl6v hy5 hq6 hq5 hq4 hq3 hq2 hq1 hpx0 hy0 hy1 hy2 hy3 hy4 hu1 hu3 hu5 hb1 hb3 hb5 hbb2 hbb4 hbb6 hat2 hat4 hat6 hgr2 hgr4 hgr6 hn2 hn4 hn6 H0
    go_wp2_with (first
      | (go_at_call 48; refine (f48 x.hs.length (by omega) (by omega) _).mono ?_; rintro e w7 ⟨u7, rfl, hu7, hb7⟩; have hy6 := Own1.below H6.out.1 hb7 (Nat.le_refl _); have hs7 := hb7.size)
      | (at_builtin; refine wpList_app rfl _ _ rfl w.heap.size v6 _ l6 (vb x.hs.length) _ rfl rfl hy6 (.inl (Own.bytes hu7 rfl)) (by omega) (by omega) ?_))
    intro v8 w8 hy7 hn8 hb8 hat8 hgr8
    have hq8 := (PX.call H6.out.2 hb7).app hy6 (by decide) hgr8
    have c78 := hq8.blk.cell 7
    simp only [List.getElem?_cons_zero, List.getElem?_cons_succ] at c78
    have hl8 : (l6 ++ vb (x.hs.length : Int)).length ≤ 4000 := by simp; omega
    have H8 := Lib.hid (And.intro hy7 (And.intro hq8.bel hl8))
    clear hy7 hn8 hb8 hat8 hgr8 hq8 hy6 hu7 hb7 c7 hs7 hl8
    go_wp2_with fail
    go_loopw [3, 36] (fun vb' i wr => ∃ k : Nat, k ≤ x.hs.length ∧ i = .int .i64 k ∧ Hid (Own1 wr w.heap.size vb' (l6 ++ vb (x.hs.length : Int) ++ (x.hb.take k).flatMap hdrB) ∧ Below w.heap.size w wr ∧ (l6 ++ vb (x.hs.length : Int) ++ (x.hb.take k).flatMap hdrB).length ≤ 4000 + 3000 * k)) (fun _ i _ => x.hs.length - (intOf i).toNat)
    case atStart => exact ⟨0, by omega, rfl, ⟨by simpa using H8.out.1, H8.out.2.1, by simpa using H8.out.2.2⟩⟩
    case round =>
      obtain ⟨k, hkk, rfl, HR⟩ := hrel
      clear c78
      by_cases hlt : k < x.hs.length
      · obtain ⟨A', c', hAe, hh⟩ := HD.out.2.2.below HR.out.2.1 hD
        injection hAe with hA1 hA2 hA3
        subst hA1
        obtain ⟨a, rfl, haD, hall⟩ := hh (by intro e; rw [e] at hlt; simp at hlt)
        have hel := hall k hlt
        have hx12 := hhb x.hs[k] (by simp)
        generalize hxk : x.hs[k] = xk at hel hx12
        have HXK := Lib.hid hxk
        clear hxk
        obtain ⟨kd, vd, g0, g1, g2, g3, hkd, hvd⟩ := hel
        obtain ⟨kA2, kc2, rfl⟩ := hkd.sl
        obtain ⟨vA2, vc2, rfl⟩ := hvd.sl
        obtain ⟨hx1, hx2⟩ := hx12
        have hkb2 : (vBytes xk.1.nb).length ≤ 1100 := vb_len xk.1 hx1
        have hvb2 : (vBytes xk.2.nb).length ≤ 1100 := vb_len xk.2 hx2
        have HX := Lib.hid (And.intro hkd hvd)
        clear hall hh hkd hvd hA2 hA3
        have hsz := HR.out.2.1.size
        have hpx : PX w wr.heap.size 90 [.bool xk.1.1, .slice kA2 xk.1.2.length kc2, .bool xk.2.1, .slice vA2 xk.2.2.length vc2] (wr.alloc (.cells #[.bool xk.1.1, .slice kA2 xk.1.2.length kc2, .bool xk.2.1, .slice vA2 xk.2.2.length vc2] 90)).drew := ⟨(Blk.new wr 90 _).drew, (HR.out.2.1.alloc hsz _).drew⟩
        have hbr : Below wr.heap.size wr (wr.alloc (.cells #[.bool xk.1.1, .slice kA2 xk.1.2.length kc2, .bool xk.2.1, .slice vA2 xk.2.2.length vc2] 90)).drew := ((Below.refl _ _).alloc (Nat.le_refl _) _).drew
        have hlen := HR.out.2.2
        have hy0 := Own1.below HR.out.1 hbr (Nat.le_refl _)
        generalize hlk : l6 ++ vb (x.hs.length : Int) ++ (x.hb.take k).flatMap hdrB = lk at hlen hy0
        have HLK := Lib.hid hlk
        clear hlk
        have hcs : (fun W => W.cell? ⟨wr.heap.size, 0, none⟩ = some (.bool xk.1.1) ∧ W.cell? ⟨wr.heap.size, 1, none⟩ = some (.slice kA2 xk.1.2.length kc2) ∧ W.cell? ⟨wr.heap.size, 2, none⟩ = some (.bool xk.2.1) ∧ W.cell? ⟨wr.heap.size, 3, none⟩ = some (.slice vA2 xk.2.2.length vc2) ∧ PX w wr.heap.size 90 [.bool xk.1.1, .slice kA2 xk.1.2.length kc2, .bool xk.2.1, .slice vA2 xk.2.2.length vc2] W) (wr.alloc (.cells #[.bool xk.1.1, .slice kA2 xk.1.2.length kc2, .bool xk.2.1, .slice vA2 xk.2.2.length vc2] 90)).drew := px4 hpx
        go_wp2_with fail
        go_region_held3 (fun W => W.cell? ⟨wr.heap.size, 0, none⟩ = some (.bool xk.1.1) ∧ W.cell? ⟨wr.heap.size, 1, none⟩ = some (.slice kA2 xk.1.2.length kc2) ∧ W.cell? ⟨wr.heap.size, 2, none⟩ = some (.bool xk.2.1) ∧ W.cell? ⟨wr.heap.size, 3, none⟩ = some (.slice vA2 xk.2.2.length vc2) ∧ PX w wr.heap.size 90 [.bool xk.1.1, .slice kA2 xk.1.2.length kc2, .bool xk.2.1, .slice vA2 xk.2.2.length vc2] W)
          (first | with_reducible exact px4 hpx | with_reducible exact px4 hq1 | with_reducible exact px4 hq2 | with_reducible exact px4 hq3 | with_reducible exact px4 hq4)
          (first | (go_at_call_of 49 (Value.agg #[.bool xk.1.1, .slice kA2 xk.1.2.length kc2]); refine (f49 _ _ xk.1.2 D _ (HX.out.1.below hbr (by omega)) (by omega) (by have h := hbr.size; omega)).mono ?_; rintro e w1 ⟨u1', rfl, hu1, hb1⟩; have hq1 := PX.call hpx hb1; have hy1 := Own1.below hy0 hb1 (Nat.le_refl _)) | (refine step_app rfl _ _ rfl w.heap.size _ _ lk (vBytes xk.1.nb) _ rfl rfl hy1 (.inl (Own.bytes hu1 rfl)) (by omega) hq1.bel.size ?_; intro v2 w2 hy2 hn2 hbb2 hat2 hgr2; have hq2 := hq1.app hy1 (by decide) hgr2) | (go_at_call_of 49 (Value.agg #[.bool xk.2.1, .slice vA2 xk.2.2.length vc2]); refine (f49 _ _ xk.2.2 D _ (HX.out.2.below2 HR.out.2.1 hq2.bel hD) (by omega) (Nat.le_trans hD hq2.bel.size)).mono ?_; rintro e w3 ⟨u3', rfl, hu3, hb3⟩; have hq3 := PX.call hq2 hb3; have hy3 := Own1.below hy2 hb3 (Nat.le_refl _)) | (refine step_app rfl _ _ rfl w.heap.size v2 _ (lk ++ vBytes xk.1.nb) (vBytes xk.2.nb) _ rfl rfl hy3 (.inl (Own.bytes hu3 rfl)) (by simp; omega) hq3.bel.size ?_; intro v4 w4 hy4 hn4 hbb4 hat4 hgr4; have hq4 := hq3.app hy3 (by decide) hgr4))
        have HN : Hid (Own1 w4 w.heap.size v4 (l6 ++ vb (x.hs.length : Int) ++ (x.hb.take (k + 1)).flatMap hdrB) ∧ Below w.heap.size w w4 ∧ (l6 ++ vb (x.hs.length : Int) ++ (x.hb.take (k + 1)).flatMap hdrB).length ≤ 4000 + 3000 * (k + 1)) := by
          have e : l6 ++ vb (x.hs.length : Int) ++ (x.hb.take (k + 1)).flatMap hdrB = lk ++ vBytes xk.1.nb ++ vBytes xk.2.nb := by
            rw [hb_step x k hlt xk HXK.out, ← HLK.out]
            simp
          rw [e]
          exact ⟨hy4, hq4.bel, by simp only [List.length_append]; omega⟩
        rename_i hHeld
        clear hHeld hcs hpx hbr hy0 hy1 hy2 hy3 hy4 hq1 hq2 hq3 hq4 hu1 hu3 hb1 hb3 hn2 hn4 hbb2 hbb4 hat2 hat4 hgr2 hgr4
        go_wp2
        go_roundw
        case rel =>
          first
            | exact ⟨k + 1, by omega, by go_num, HN⟩
            | ((repeat apply Exists.intro); exact ⟨⟨k + 1, by omega, by go_num, HN⟩, rfl⟩)
        case measure => simp [intOf]; omega
      · obtain rfl : k = x.hs.length := by omega
        have htk : x.hb.take x.hs.length = x.hb := by
          rw [List.take_of_length_le]
          simp [RecV.hb]
        obtain ⟨hy, hbel, hlen⟩ := HR.out
        rw [htk] at hy hlen
        have hbody : recBody x.attr x.tm x.od x.key.nb x.val.nb x.hb = l6 ++ vb (x.hs.length : Int) ++ x.hb.flatMap hdrB := by
          rw [← HL6.out]
          simp [recBody, RecV.hb]
        have HBD := Lib.hid hbody
        have hne : 1 ≤ (l6 ++ vb (x.hs.length : Int) ++ x.hb.flatMap hdrB).length := by
          rw [← HL6.out]
          simp
        generalize l6 ++ vb (x.hs.length : Int) ++ x.hb.flatMap hdrB = lb at hy hlen HBD hne
        obtain ⟨g9, c9, hv9, hb9⟩ := own1_form hy hne
        subst hv9
        have HY := Lib.hid (And.intro hb9 hbel)
        have hvl9 := vb_le (x := (lb.length : Int)) (by omega) (by omega)
        have hsz := hbel.size
        clear hy hb9 hbel hbody
        go_wp2_with (first
          | (go_at_call 48; refine (f48 lb.length (by omega) (by omega) _).mono ?_; rintro e w1 ⟨u1, rfl, hu1, hb1⟩; have hy1 := World.ownsRow.mono hu1.1 hsz; have hs1 := hb1.size)
          | (at_builtin; refine wpList_app rfl _ _ rfl w.heap.size u1 _ (vb lb.length) lb _ rfl rfl hy1 (.inl (HY.out.1.below hb1 (Nat.le_refl _))) (by omega) (by omega) ?_))
        intro v9 w9 hy9 hn9 hb9 hat9 hgr9
        have hF : Own w9 w.heap.size v9 (recBytes x.attr x.tm x.od x.key.nb x.val.nb x.hb) ∧ Below w.heap.size w w9 := by
          refine ⟨⟨?_, fun e => ?_⟩, (HY.out.2.trans (hb1.mono hsz)).trans hb9⟩
          · have e : recBytes x.attr x.tm x.od x.key.nb x.val.nb x.hb = vb lb.length ++ lb := by rw [recBytes, HBD.out]
            rw [e]
            exact hy9
          · have := hne
            have := (hn9 e).2
            subst this
            simp at hne
        have HF := Lib.hid hF
        clear hF hy9 hn9 hb9 hat9 hgr9 hu1 hb1 hy1
        go_wp2
        go_ret
        exact ⟨_, rfl, HF.out⟩
end Go.Proofs.YtmiflkccfieefaaGreatDoor
