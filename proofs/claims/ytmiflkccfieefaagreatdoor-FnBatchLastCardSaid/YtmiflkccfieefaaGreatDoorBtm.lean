/-
  A batch is made: impl.Batch.batch.
-/
import Derived.Test.YtmiflkccfieefaaGreatDoorBtr
import Derived.Test.YtmiflkccfieefaaGreatDoorMin
namespace Go.Proofs.YtmiflkccfieefaaGreatDoor
open Go.ChangeShapes Go.WideShapes Go.ChangeAt Go.RowKit
set_option maxRecDepth 100000
set_option linter.unusedVariables false
set_option linter.unusedSimpArgs false

structure BoxB (w0 : World) (p t : Nat) (cs : List Value) (W : World) : Prop where
  blk : Blk W p t cs
  bel : Below w0.heap.size w0 W
theorem BoxB.call {w0 W W' : World} {p t : Nat} {cs : List Value} (h : BoxB w0 p t cs W) (hb : Below W.heap.size W W') : BoxB w0 p t cs W' := ⟨h.blk.below hb h.blk.lt, h.bel.trans (hb.mono h.bel.size)⟩
theorem BoxB.alloc {w0 W : World} {p t : Nat} {cs : List Value} (h : BoxB w0 p t cs W) (o : Obj) : BoxB w0 p t cs (W.alloc o) := ⟨h.blk.alloc o, h.bel.alloc h.bel.size o⟩
theorem info94 : (Tryz.prog.info? 94).map (fun i => (i.zero, i.size, i.bytes)) = some (some (.pointer none), 1, 8) := by kernel_rfl
theorem BoxB.all {w0 W : World} {p t : Nat} {c0 c1 c2 c3 c4 c5 c6 c7 c8 c9 c10 c11 c12 : Value} (h : BoxB w0 p t [c0, c1, c2, c3, c4, c5, c6, c7, c8, c9, c10, c11, c12] W) :
    W.cell? ⟨p, 0, none⟩ = some c0 ∧ W.cell? ⟨p, 1, none⟩ = some c1 ∧ W.cell? ⟨p, 2, none⟩ = some c2 ∧ W.cell? ⟨p, 3, none⟩ = some c3 ∧ W.cell? ⟨p, 4, none⟩ = some c4 ∧ W.cell? ⟨p, 5, none⟩ = some c5 ∧ W.cell? ⟨p, 6, none⟩ = some c6 ∧ W.cell? ⟨p, 7, none⟩ = some c7 ∧ W.cell? ⟨p, 8, none⟩ = some c8 ∧ W.cell? ⟨p, 9, none⟩ = some c9 ∧ W.cell? ⟨p, 10, none⟩ = some c10 ∧ W.cell? ⟨p, 11, none⟩ = some c11 ∧ W.cell? ⟨p, 12, none⟩ = some c12 ∧ BoxB w0 p t [c0, c1, c2, c3, c4, c5, c6, c7, c8, c9, c10, c11, c12] W :=
  ⟨h.blk.cell 0, h.blk.cell 1, h.blk.cell 2, h.blk.cell 3, h.blk.cell 4, h.blk.cell 5, h.blk.cell 6, h.blk.cell 7, h.blk.cell 8, h.blk.cell 9, h.blk.cell 10, h.blk.cell 11, h.blk.cell 12, h⟩
set_option maxHeartbeats 4000000 in
theorem f57 (D : Nat) (v : Value) (y : BatV) (w : World) (h : BIn w D v y) (hD : D ≤ w.heap.size) (hr : BRight y) :
    Calls Tryz.prog 57 #[v] w fun e w' => ∃ b cs, e = .returned (.pointer (some ⟨b, 0, none⟩)) ∧ Blk w' b 125 cs ∧ cs[0]? = some (.int .i64 y.fo) ∧ cs[7]? = some (.int .i32 y.lo) ∧ Below w.heap.size w w' := by
  obtain ⟨rv, rfl, hrs⟩ := h
  have H := Lib.hid hrs
  obtain ⟨A, c, rfl, _⟩ := hrs
  have hbx : BoxB w w.heap.size 41 [.int .i64 y.fo, .int .i32 y.le, .int .i32 y.lo, .bool y.la, .bool y.tx, .bool y.ct, .int .i64 y.ft, .int .i64 y.mt, .int .i64 y.pid, .int .i16 y.pe, .int .i32 y.fs, .slice A y.rs.length c, .bool y.part] (w.alloc (.cells #[.int .i64 y.fo, .int .i32 y.le, .int .i32 y.lo, .bool y.la, .bool y.tx, .bool y.ct, .int .i64 y.ft, .int .i64 y.mt, .int .i64 y.pid, .int .i16 y.pe, .int .i32 y.fs, .slice A y.rs.length c, .bool y.part] 41)).drew :=
    ⟨(Blk.new w 41 [.int .i64 y.fo, .int .i32 y.le, .int .i32 y.lo, .bool y.la, .bool y.tx, .bool y.ct, .int .i64 y.ft, .int .i64 y.mt, .int .i64 y.pid, .int .i16 y.pe, .int .i32 y.fs, .slice A y.rs.length c, .bool y.part]).drew, ((Below.refl _ _).alloc (Nat.le_refl _) _).drew⟩
  obtain ⟨q1, q2, q3, q4, q5⟩ := hr
  have HQ := Lib.hid q5
  clear q5 q4
  have hHeld := hbx.all
  go_enter Tryz.func57, Tryz.ntmps57
  go_wp2_with fail
  go_region_held3 (fun W => W.cell? ⟨w.heap.size, 0, none⟩ = some (.int .i64 y.fo) ∧ W.cell? ⟨w.heap.size, 1, none⟩ = some (.int .i32 y.le) ∧ W.cell? ⟨w.heap.size, 2, none⟩ = some (.int .i32 y.lo) ∧ W.cell? ⟨w.heap.size, 3, none⟩ = some (.bool y.la) ∧ W.cell? ⟨w.heap.size, 4, none⟩ = some (.bool y.tx) ∧ W.cell? ⟨w.heap.size, 5, none⟩ = some (.bool y.ct) ∧ W.cell? ⟨w.heap.size, 6, none⟩ = some (.int .i64 y.ft) ∧ W.cell? ⟨w.heap.size, 7, none⟩ = some (.int .i64 y.mt) ∧ W.cell? ⟨w.heap.size, 8, none⟩ = some (.int .i64 y.pid) ∧ W.cell? ⟨w.heap.size, 9, none⟩ = some (.int .i16 y.pe) ∧ W.cell? ⟨w.heap.size, 10, none⟩ = some (.int .i32 y.fs) ∧ W.cell? ⟨w.heap.size, 11, none⟩ = some (.slice A y.rs.length c) ∧ W.cell? ⟨w.heap.size, 12, none⟩ = some (.bool y.part) ∧ BoxB w w.heap.size 41 [.int .i64 y.fo, .int .i32 y.le, .int .i32 y.lo, .bool y.la, .bool y.tx, .bool y.ct, .int .i64 y.ft, .int .i64 y.mt, .int .i64 y.pid, .int .i16 y.pe, .int .i32 y.fs, .slice A y.rs.length c, .bool y.part] W)
    (first | with_reducible exact hbx.all | with_reducible exact hbx1.all | with_reducible exact hbx2.all | with_reducible exact (BoxB.alloc hbx2 _).all)
    (first | (go_at_call_of 87 (Value.int .i64 y.ft); refine (t87 y.ft _ q2.1 q2.2).mono ?_; rintro e w1 ⟨rfl, hb1⟩; have hbx1 := BoxB.call hbx hb1) | (go_at_call_of 87 (Value.int .i64 y.mt); refine (t87 y.mt _ q3.1 q3.2).mono ?_; rintro e w2 ⟨rfl, hb2⟩; have hbx2 := BoxB.call hbx1 hb2))
  have hr3 := Blk.new w2 125 [.int .i64 y.fo, .int .i32 y.le, .int .i8 2, .int .i8 0, .int .i64 0, .bool y.ct, .bool y.la, .int .i32 y.lo, .int .i64 (secOf y.ft), .int .i64 (nsecOf y.ft), .int .i64 (secOf y.mt), .int .i64 (nsecOf y.mt), .int .i64 y.pid, .int .i16 y.pe, .int .i32 y.fs, .slice none 0 0, .bool false, .bool y.tx, .slice none 0 0, .int .i64 0, .int .i32 0]
  have hbx3 := hbx2.alloc (.cells #[.int .i64 y.fo, .int .i32 y.le, .int .i8 2, .int .i8 0, .int .i64 0, .bool y.ct, .bool y.la, .int .i32 y.lo, .int .i64 (secOf y.ft), .int .i64 (nsecOf y.ft), .int .i64 (secOf y.mt), .int .i64 (nsecOf y.mt), .int .i64 y.pid, .int .i16 y.pe, .int .i32 y.fs, .slice none 0 0, .bool false, .bool y.tx, .slice none 0 0, .int .i64 0, .int .i32 0] 125)
  have hws := hbx2.bel.size
  have H3 := Lib.hid (And.intro hr3 hbx3.bel)
  clear hr3 hbx3 hbx1 hbx2 hbx hb1 hb2
  rename_i hHeld
  go_wp2
  clear hHeld
  have hrw : w.heap.size ≤ w2.heap.size := hws
  generalize (w2.alloc (.cells #[.int .i64 y.fo, .int .i32 y.le, .int .i8 2, .int .i8 0, .int .i64 0, .bool y.ct, .bool y.la, .int .i32 y.lo, .int .i64 (secOf y.ft), .int .i64 (nsecOf y.ft), .int .i64 (secOf y.mt), .int .i64 (nsecOf y.mt), .int .i64 y.pid, .int .i16 y.pe, .int .i32 y.fs, .slice none 0 0, .bool false, .bool y.tx, .slice none 0 0, .int .i64 0, .int .i32 0] 125)) = w3 at *
  generalize w2.heap.size = r at *
  go_loopw [35] (fun i wr => ∃ k : Nat, k ≤ y.rs.length ∧ i = .int .i64 k ∧ Hid (∃ hv ptrs, Blk wr r 125 [.int .i64 y.fo, .int .i32 y.le, .int .i8 2, .int .i8 0, .int .i64 0, .bool y.ct, .bool y.la, .int .i32 y.lo, .int .i64 (secOf y.ft), .int .i64 (nsecOf y.ft), .int .i64 (secOf y.mt), .int .i64 (nsecOf y.mt), .int .i64 y.pid, .int .i16 y.pe, .int .i32 y.fs, hv, .bool false, .bool y.tx, .slice none 0 0, .int .i64 0, .int .i32 0] ∧
      wr.ownsRow w.heap.size 94 1 hv k ptrs ∧ Below w.heap.size w wr)) (fun i _ => y.rs.length - (intOf i).toNat)
  case atStart => exact ⟨0, by omega, rfl, ⟨_, [], H3.out.1, World.ownsRow_nil _ _ _ _, H3.out.2⟩⟩
  case round =>
    obtain ⟨k, hk, rfl, HS⟩ := hrel
    by_cases hlt : k < y.rs.length
    · obtain ⟨hv, ptrs, hrr, hown, hbel⟩ := HS.out
      obtain ⟨A', c', hAe, hh⟩ := H.out.below hbel hD
      injection hAe with hA1 hA2 hA3
      subst hA1
      obtain ⟨a, rfl, haD, hall⟩ := hh (by intro e; rw [e] at hlt; simp at hlt)
      have hel := hall k hlt
      have hrk := HQ.out y.rs[k] (by simp)
      generalize hxk : y.rs[k] = x at hel hrk
      clear hxk
      obtain ⟨kd, vd, hvx, g0, g1, g2, g3, g4, g5, g6, g7, hkd, hvd, hhv⟩ := hel
      obtain ⟨kA, kc, rfl⟩ := hkd.sl
      obtain ⟨vA, vc, rfl⟩ := hvd.sl
      obtain ⟨hA, hc, rfl, _⟩ := id hhv
      have hri : RIn wr D (.agg #[.int .i8 x.attr, .int .i64 x.tm, .int .i64 x.od, .bool x.key.1, .slice kA x.key.2.length kc, .bool x.val.1, .slice vA x.val.2.length vc, .slice hA x.hs.length hc]) x := ⟨_, _, _, rfl, hkd, hvd, hhv⟩
      have HR := Lib.hid (And.intro hri (And.intro hrr (And.intro hown hbel)))
      have HK := Lib.hid hrk
      clear hall hh hkd hvd hhv hri hA2 hA3 hrr hown hbel hrk
      go_wp2_with fail
      have hbv : Below wr.heap.size wr (wr.alloc (.cells #[.int .i8 x.attr, .int .i64 x.tm, .int .i64 x.od, .bool x.key.1, .slice kA x.key.2.length kc, .bool x.val.1, .slice vA x.val.2.length vc, .slice hA x.hs.length hc] 28)).drew := ((Below.refl _ _).alloc (Nat.le_refl _) _).drew
      have hB3 : Blk (wr.alloc (.cells #[.int .i8 x.attr, .int .i64 x.tm, .int .i64 x.od, .bool x.key.1, .slice kA x.key.2.length kc, .bool x.val.1, .slice vA x.val.2.length vc, .slice hA x.hs.length hc] 28)).drew wr.heap.size 28 [.int .i8 x.attr, .int .i64 x.tm, .int .i64 x.od, .bool x.key.1, .slice kA x.key.2.length kc, .bool x.val.1, .slice vA x.val.2.length vc, .slice hA x.hs.length hc] := (Blk.new wr 28 [.int .i8 x.attr, .int .i64 x.tm, .int .i64 x.od, .bool x.key.1, .slice kA x.key.2.length kc, .bool x.val.1, .slice vA x.val.2.length vc, .slice hA x.hs.length hc]).drew
      have hrlt := HR.out.2.1.lt
      have hwr := HR.out.2.2.2.size
      have cr3 := (HR.out.2.1.below hbv hrlt).cell 15
      simp only [List.getElem?_cons_zero, List.getElem?_cons_succ] at cr3
      generalize (wr.alloc (.cells #[.int .i8 x.attr, .int .i64 x.tm, .int .i64 x.od, .bool x.key.1, .slice kA x.key.2.length kc, .bool x.val.1, .slice vA x.val.2.length vc, .slice hA x.hs.length hc] 28)) = wv at *
      obtain ⟨i1, hi1, hz1, hs1, hb1⟩ := info_parts info94
      have hS3 : (fun W => W.cell? ⟨wr.heap.size, 0, none⟩ = some (.int .i8 x.attr) ∧ W.cell? ⟨wr.heap.size, 1, none⟩ = some (.int .i64 x.tm) ∧ W.cell? ⟨wr.heap.size, 2, none⟩ = some (.int .i64 x.od) ∧ W.cell? ⟨wr.heap.size, 3, none⟩ = some (.bool x.key.1) ∧ W.cell? ⟨wr.heap.size, 4, none⟩ = some (.slice kA x.key.2.length kc) ∧ W.cell? ⟨wr.heap.size, 5, none⟩ = some (.bool x.val.1) ∧ W.cell? ⟨wr.heap.size, 6, none⟩ = some (.slice vA x.val.2.length vc) ∧ W.cell? ⟨wr.heap.size, 7, none⟩ = some (.slice hA x.hs.length hc) ∧ W.cell? ⟨r, 15, none⟩ = some hv) wv.drew := ⟨(hB3).cell 0, (hB3).cell 1, (hB3).cell 2, (hB3).cell 3, (hB3).cell 4, (hB3).cell 5, (hB3).cell 6, (hB3).cell 7, cr3⟩
      refine wp_region_E 11 (fun W => W.cell? ⟨wr.heap.size, 0, none⟩ = some (.int .i8 x.attr) ∧ W.cell? ⟨wr.heap.size, 1, none⟩ = some (.int .i64 x.tm) ∧ W.cell? ⟨wr.heap.size, 2, none⟩ = some (.int .i64 x.od) ∧ W.cell? ⟨wr.heap.size, 3, none⟩ = some (.bool x.key.1) ∧ W.cell? ⟨wr.heap.size, 4, none⟩ = some (.slice kA x.key.2.length kc) ∧ W.cell? ⟨wr.heap.size, 5, none⟩ = some (.bool x.val.1) ∧ W.cell? ⟨wr.heap.size, 6, none⟩ = some (.slice vA x.val.2.length vc) ∧ W.cell? ⟨wr.heap.size, 7, none⟩ = some (.slice hA x.hs.length hc) ∧ W.cell? ⟨r, 15, none⟩ = some hv) (by kernel_rfl) ?_
      refine wpE_takeL (i := 0) (v := ?_) rfl (by kernel_rfl) (by kernel_rfl) (by kernel_rfl) (by kernel_rfl) (fun _ _ _ h => h) (by assumption) (Or.inl ⟨by rfl, ?_⟩) ?_
      rotate_left
      · intro W hSw
        try dsimp only at hSw
        go_split_ands
        go_simp
        try with_reducible rfl
      try simp only [Act.put, List.setIfInBounds_toArray, List.set_cons_zero, List.set_cons_succ]
      refine wpE_takeL (i := 1) (v := ?_) rfl (by kernel_rfl) (by kernel_rfl) (by kernel_rfl) (by kernel_rfl) (fun _ _ _ h => h) (by assumption) (Or.inl ⟨by rfl, ?_⟩) ?_
      rotate_left
      · intro W hSw
        try dsimp only at hSw
        go_split_ands
        go_simp
        try with_reducible rfl
      try simp only [Act.put, List.setIfInBounds_toArray, List.set_cons_zero, List.set_cons_succ]
      refine wpE_takeL (i := 2) (v := ?_) rfl (by kernel_rfl) (by kernel_rfl) (by kernel_rfl) (by kernel_rfl) (fun _ _ _ h => h) (by assumption) (Or.inl ⟨by rfl, ?_⟩) ?_
      rotate_left
      · intro W hSw
        try dsimp only at hSw
        go_split_ands
        go_simp
        try with_reducible rfl
      try simp only [Act.put, List.setIfInBounds_toArray, List.set_cons_zero, List.set_cons_succ]
      refine wpE_takeL (i := 3) (v := ?_) rfl (by kernel_rfl) (by kernel_rfl) (by kernel_rfl) (by kernel_rfl) (fun _ _ _ h => h) (by assumption) (Or.inl ⟨by rfl, ?_⟩) ?_
      rotate_left
      · intro W hSw
        try dsimp only at hSw
        go_split_ands
        go_simp
        try with_reducible rfl
      try simp only [Act.put, List.setIfInBounds_toArray, List.set_cons_zero, List.set_cons_succ]
      refine wpE_takeL (i := 4) (v := ?_) rfl (by kernel_rfl) (by kernel_rfl) (by kernel_rfl) (by kernel_rfl) (fun _ _ _ h => h) (by assumption) (Or.inl ⟨by rfl, ?_⟩) ?_
      rotate_left
      · intro W hSw
        try dsimp only at hSw
        go_split_ands
        go_simp
        try with_reducible rfl
      try simp only [Act.put, List.setIfInBounds_toArray, List.set_cons_zero, List.set_cons_succ]
      refine wpE_takeL (i := 5) (v := ?_) rfl (by kernel_rfl) (by kernel_rfl) (by kernel_rfl) (by kernel_rfl) (fun _ _ _ h => h) (by assumption) (Or.inl ⟨by rfl, ?_⟩) ?_
      rotate_left
      · intro W hSw
        try dsimp only at hSw
        go_split_ands
        go_simp
        try with_reducible rfl
      try simp only [Act.put, List.setIfInBounds_toArray, List.set_cons_zero, List.set_cons_succ]
      refine wpE_oneL (i := 6) rfl (by kernel_rfl) (fun K hK => ?_)
      go_simp
      go_at_call 51
      have hsm : x.key.2.length ≤ 1000 ∧ x.val.2.length ≤ 1000 ∧ x.hs.length ≤ 6 ∧ (∀ h ∈ x.hs, h.1.2.length ≤ 1000 ∧ h.2.2.length ≤ 1000) ∧ -1099511627776 ≤ x.tm ∧ x.tm ≤ 1099511627776 := by
        obtain ⟨r1, r2, r3, r4, r5, r6, r7, r8⟩ := HK.out
        refine ⟨by omega, by omega, r5, fun h hh => ?_, r6, r7⟩
        obtain ⟨_, a, b, _⟩ := r8 h hh
        exact ⟨by omega, by omega⟩
      refine (f51 D x _ _ (HR.out.1.below0 hbv (by omega)) (by have := hbv.size; omega) hsm.1 hsm.2.1 hsm.2.2.2.2.1 hsm.2.2.2.2.2 hsm.2.2.1 hsm.2.2.2.1).mono ?_
      rintro e w4 ⟨q, rfl, _, _, _, hb4⟩
      clear hsm
      have hE4 := hbv.trans (hb4.mono hbv.size)
      have hB4 := hB3.below hb4 (Blk.lt hB3)
      have cr4 := (HR.out.2.1.below hE4 hrlt).cell 15
      simp only [List.getElem?_cons_zero, List.getElem?_cons_succ] at cr4
      try simp only []
      have hS4 : (fun W => W.cell? ⟨wr.heap.size, 0, none⟩ = some (.int .i8 x.attr) ∧ W.cell? ⟨wr.heap.size, 1, none⟩ = some (.int .i64 x.tm) ∧ W.cell? ⟨wr.heap.size, 2, none⟩ = some (.int .i64 x.od) ∧ W.cell? ⟨wr.heap.size, 3, none⟩ = some (.bool x.key.1) ∧ W.cell? ⟨wr.heap.size, 4, none⟩ = some (.slice kA x.key.2.length kc) ∧ W.cell? ⟨wr.heap.size, 5, none⟩ = some (.bool x.val.1) ∧ W.cell? ⟨wr.heap.size, 6, none⟩ = some (.slice vA x.val.2.length vc) ∧ W.cell? ⟨wr.heap.size, 7, none⟩ = some (.slice hA x.hs.length hc) ∧ W.cell? ⟨r, 15, none⟩ = some hv) w4 := ⟨(hB4).cell 0, (hB4).cell 1, (hB4).cell 2, (hB4).cell 3, (hB4).cell 4, (hB4).cell 5, (hB4).cell 6, (hB4).cell 7, cr4⟩
      refine hK.out _ _ (fun _ => hS4) ?_
      clear hK K
      try simp only [Act.put, List.setIfInBounds_toArray, List.set_cons_zero, List.set_cons_succ]
      refine wpE_oneL (i := 7) rfl (by kernel_rfl) (fun K hK => ?_)
      go_simp
      have hE5 := hE4.alloc hE4.size (.cells #[.pointer (some ⟨q, 0, none⟩)] 94)
      have hB5 := hB4.alloc (.cells #[.pointer (some ⟨q, 0, none⟩)] 94)
      have cr5 := (HR.out.2.1.below hE5 hrlt).cell 15
      simp only [List.getElem?_cons_zero, List.getElem?_cons_succ] at cr5
      have hS5 : (fun W => W.cell? ⟨wr.heap.size, 0, none⟩ = some (.int .i8 x.attr) ∧ W.cell? ⟨wr.heap.size, 1, none⟩ = some (.int .i64 x.tm) ∧ W.cell? ⟨wr.heap.size, 2, none⟩ = some (.int .i64 x.od) ∧ W.cell? ⟨wr.heap.size, 3, none⟩ = some (.bool x.key.1) ∧ W.cell? ⟨wr.heap.size, 4, none⟩ = some (.slice kA x.key.2.length kc) ∧ W.cell? ⟨wr.heap.size, 5, none⟩ = some (.bool x.val.1) ∧ W.cell? ⟨wr.heap.size, 6, none⟩ = some (.slice vA x.val.2.length vc) ∧ W.cell? ⟨wr.heap.size, 7, none⟩ = some (.slice hA x.hs.length hc) ∧ W.cell? ⟨r, 15, none⟩ = some hv) (w4.alloc (.cells #[.pointer (some ⟨q, 0, none⟩)] 94)) := ⟨(hB5).cell 0, (hB5).cell 1, (hB5).cell 2, (hB5).cell 3, (hB5).cell 4, (hB5).cell 5, (hB5).cell 6, (hB5).cell 7, cr5⟩
      refine hK.out _ _ (fun _ => hS5) ?_
      clear hK K
      try simp only [Act.put, List.setIfInBounds_toArray, List.set_cons_zero, List.set_cons_succ]
      refine wpE_oneL (i := 8) rfl (by kernel_rfl) (fun K hK => ?_)
      refine step_append_lies _ rfl _ _ 123 rfl w.heap.size 94 i1 (.pointer none) 1 8 Tryz.underlying123 hi1 hz1 hs1 hb1 rfl (by omega) hv k ptrs rfl (own_below HR.out.2.2.1 hE5 (Nat.le_refl _)) ⟨w4.heap.size, 0, none⟩ 1 1 [.pointer (some ⟨q, 0, none⟩)] rfl rfl (World.news_of_block (cs := #[.pointer (some ⟨q, 0, none⟩)]) (t := 94) (fr := (0, 0)) (heap_alloc_new w4 (.cells #[.pointer (some ⟨q, 0, none⟩)] 94))) (by simp [Value.oneCell']) (by omega) (by simp only [maxLen]; omega) (by omega) (by have := hE4.size; simp; omega) (w4.heap.size + 1) (by simp) ?_
      intro g6 cap6 w6 hown6 hgr6 hat6 hlt6
      have ho5 := own_below HR.out.2.2.1 hE5 (Nat.le_refl _)
      have hr5 := HR.out.2.1.below hE5 hrlt
      have hr6 : Blk w6 r 125 _ := (hgr6.block r hr5.lt (fun e => own_ne ho5 hr5 (by decide) e.symm)).trans hr5
      have hB6 : Blk w6 wr.heap.size 28 _ := (hgr6.block wr.heap.size hB5.lt (fun e => own_ne ho5 hB5 (by decide) e.symm)).trans hB5
      have hE6 := grownBy_below hgr6 (fun g e => (own_row ho5 e).1) (by have := hE5.size; omega)
      have c6 := hr6.cell 15
      have z6 := hr6.frozen 15
      simp only [List.getElem?_cons_zero, List.getElem?_cons_succ] at c6
      have HN := Lib.hid (show ∃ hv ptrs, Blk (w6.setCell ⟨r, 15, none⟩ (.slice (some ⟨g6, 0, none⟩) (k + 1) cap6)) r 125 [.int .i64 y.fo, .int .i32 y.le, .int .i8 2, .int .i8 0, .int .i64 0, .bool y.ct, .bool y.la, .int .i32 y.lo, .int .i64 (secOf y.ft), .int .i64 (nsecOf y.ft), .int .i64 (secOf y.mt), .int .i64 (nsecOf y.mt), .int .i64 y.pid, .int .i16 y.pe, .int .i32 y.fs, hv, .bool false, .bool y.tx, .slice none 0 0, .int .i64 0, .int .i32 0] ∧ (w6.setCell ⟨r, 15, none⟩ (.slice (some ⟨g6, 0, none⟩) (k + 1) cap6)).ownsRow w.heap.size 94 1 hv (k + 1) ptrs ∧ Below w.heap.size w (w6.setCell ⟨r, 15, none⟩ (.slice (some ⟨g6, 0, none⟩) (k + 1) cap6)) from
        ⟨_, _, hr6.set_ 15 _, own_setCell hown6 hr6 (by decide) 15 _, ((HR.out.2.2.2.trans (hE5.mono hwr)).trans hE6).setCell (p := ⟨r, 15, none⟩) hrw _⟩)
      have hS6 : (fun W => W.cell? ⟨wr.heap.size, 0, none⟩ = some (.int .i8 x.attr) ∧ W.cell? ⟨wr.heap.size, 1, none⟩ = some (.int .i64 x.tm) ∧ W.cell? ⟨wr.heap.size, 2, none⟩ = some (.int .i64 x.od) ∧ W.cell? ⟨wr.heap.size, 3, none⟩ = some (.bool x.key.1) ∧ W.cell? ⟨wr.heap.size, 4, none⟩ = some (.slice kA x.key.2.length kc) ∧ W.cell? ⟨wr.heap.size, 5, none⟩ = some (.bool x.val.1) ∧ W.cell? ⟨wr.heap.size, 6, none⟩ = some (.slice vA x.val.2.length vc) ∧ W.cell? ⟨wr.heap.size, 7, none⟩ = some (.slice hA x.hs.length hc) ∧ W.cell? ⟨r, 15, none⟩ = some hv) w6 := ⟨(hB6).cell 0, (hB6).cell 1, (hB6).cell 2, (hB6).cell 3, (hB6).cell 4, (hB6).cell 5, (hB6).cell 6, (hB6).cell 7, c6⟩
      refine hK.out _ _ (fun _ => hS6) ?_
      clear hK K
      try simp only [Act.put, List.setIfInBounds_toArray, List.set_cons_zero, List.set_cons_succ]
      clear hS5 hS4 hS3
      refine wpE_oneL (i := 9) rfl (by kernel_rfl) (fun K hK => ?_)
      go_simp
      refine hK.out _ _ (fun _ => hS6) ?_
      clear hK K
      try simp only [Act.put, List.setIfInBounds_toArray, List.set_cons_zero, List.set_cons_succ]
      refine wpE_oneL (i := 10) rfl (by kernel_rfl) (fun K hK => ?_)
      go_simp
      refine hK.out _ _ (fun _ => hS6) ?_
      clear hK K
      try simp only [Act.put, List.setIfInBounds_toArray, List.set_cons_zero, List.set_cons_succ]
      refine wpE_oneL (i := 11) rfl (by kernel_rfl) (fun K hK => ?_)
      go_simp
      refine hK.out _ _ (fun h => Bool.noConfusion (show true = false from h)) ?_
      clear hK K
      try simp only [Act.put, List.setIfInBounds_toArray, List.set_cons_zero, List.set_cons_succ]
      refine wpE_done (by kernel_rfl) ?_ _
      refine NoPanic.normal ?_
      clear HR
      go_wp2
      go_roundw
      case rel =>
        exact ⟨k + 1, by omega, by go_num, HN⟩
      case measure => simp [intOf]; omega
    · obtain rfl : k = y.rs.length := by omega
      obtain ⟨hv, ptrs, hrr, hown, hbel⟩ := HS.out
      have HF := Lib.hid (And.intro hrr hbel)
      clear hrr hown hbel
      go_wp2
      go_ret
      exact ⟨r, _, rfl, HF.out.1, rfl, rfl, HF.out.2⟩
end Go.Proofs.YtmiflkccfieefaaGreatDoor
