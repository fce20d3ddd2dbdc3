/-
  Moments: told, compared; a timestamp is encoded.
-/
import Derived.Test.YtmiflkccfieefaaGreatDoorMsrA
import Derived.Test.YtmiflkccfieefaaGreatDoorTim
import Derived.Test.YtmiflkccfieefaaGreatDoorZaa
import Derived.Test.YtmiflkccfieefaaGreatDoorMw
namespace Go.Proofs.YtmiflkccfieefaaGreatDoor
open Go.ChangeShapes Go.WideShapes Go.ChangeAt Go.RowKit
set_option maxRecDepth 100000
set_option linter.unusedVariables false
set_option linter.unusedSimpArgs false

theorem t99 (s n : Int) (w : World) : Calls Tryz.prog 99 #[.agg #[.int .i64 s, .int .i64 n]] w fun e w' => e = .returned (.bool (s == 0 && n == 0)) ∧ Below w.heap.size w w' := by
  have hb0 : Below w.heap.size w (w.alloc (.cells #[.int .i64 s, .int .i64 n] 118)) := (Below.refl _ _).alloc (Nat.le_refl _) _
  have HB := Lib.hid hb0
  clear hb0
  by_cases h1 : s = 0
  · subst h1
    go_enter Tryz.func99, Tryz.ntmps99
    go_wp2
    go_ret
    exact ⟨by simp, HB.out⟩
  · have hz : ((s : Int) == 0) = false := by simpa using h1
    go_enter Tryz.func99, Tryz.ntmps99
    go_wp2
    go_ret
    exact ⟨by simp [h1], HB.out⟩
theorem t100 (m : Int) (w : World) (h0 : 0 ≤ m) (h1 : m < 8796093022208) : Calls Tryz.prog 100 #[.agg #[.int .i64 (m / 1000 + 62135596800), .int .i64 (m % 1000 * 1000000)]] w fun e w' => e = .returned (.int .i64 m) ∧ Below w.heap.size w w' := by
  have hb0 : Below w.heap.size w (w.alloc (.cells #[.int .i64 (m / 1000 + 62135596800), .int .i64 (m % 1000 * 1000000)] 118)) := (Below.refl _ _).alloc (Nat.le_refl _) _
  have HB := Lib.hid hb0
  clear hb0
  go_enter Tryz.func100, Tryz.ntmps100
  go_wp2
  go_ret
  refine ⟨?_, HB.out⟩
  show Ending.returned (Value.int .i64 (m / 1000 * 1000 + m % 1000)) = _
  rw [show m / 1000 * 1000 + m % 1000 = m by omega]
/-- impl.millis. -/
theorem t89 (m : Int) (w : World) (h0 : -1 ≤ m) (h1 : m < 8796093022208) : Calls Tryz.prog 89 #[.agg #[.int .i64 (secOf m), .int .i64 (nsecOf m)]] w fun e w' => e = .returned (.int .i64 m) ∧ Below w.heap.size w w' := by
  have hb0 : Below w.heap.size w (w.alloc (.cells #[.int .i64 (secOf m), .int .i64 (nsecOf m)] 118)) := (Below.refl _ _).alloc (Nat.le_refl _) _
  have hp0 := Blk.new w 118 [.int .i64 (secOf m), .int .i64 (nsecOf m)]
  have HB := Lib.hid (And.intro hb0 hp0)
  clear hb0 hp0
  by_cases hm : m < 0
  · obtain rfl : m = -1 := by omega
    have hz : (secOf (-1) == 0 && nsecOf (-1) == 0) = true := by simp [secOf, nsecOf]
    go_enter Tryz.func89, Tryz.ntmps89
    go_wp2_with (go_at_call 99; refine (t99 _ _ _).mono ?_; rintro e w1 ⟨rfl, hb1⟩; rw [hz]; have H1 := Lib.hid (HB.out.1.trans (hb1.mono (by simp))); clear hb1)
    go_ret
    exact ⟨rfl, H1.out⟩
  · have e1 : secOf m = m / 1000 + 62135596800 := by simp [secOf, hm]
    have e2 : nsecOf m = m % 1000 * 1000000 := by simp [nsecOf, hm]
    rw [e1, e2] at HB ⊢
    have hz : (m / 1000 + 62135596800 == 0 && m % 1000 * 1000000 == 0) = false := by
      rw [Bool.and_eq_false_iff]
      left
      simp
      omega
    clear e1 e2
    go_enter Tryz.func89, Tryz.ntmps89
    go_wp2_with (first
      | (go_at_call 99; refine (t99 _ _ _).mono ?_; rintro e w1 ⟨rfl, hb1⟩; rw [hz]; have H1 := Lib.hid (HB.out.1.trans (hb1.mono (by simp))); have hp1 := HB.out.2.below hb1 (by simp); have c0 := hp1.cell 0; have c1 := hp1.cell 1; simp only [List.getElem?_cons_zero, List.getElem?_cons_succ] at c0 c1; clear hb1 hp1)
      | (go_at_call 100; refine (t100 m _ (by omega) h1).mono ?_; rintro e w2 ⟨rfl, hb2⟩; have H2 := Lib.hid (H1.out.trans (hb2.mono H1.out.size)); clear hb2))
    go_ret
    exact ⟨rfl, H2.out⟩
theorem t150f (s n : Int) (w : World) (h0 : 62135596800 ≤ s) (h1 : 0 ≤ n) : Calls Tryz.prog 150 #[.agg #[.int .i64 s, .int .i64 n], .agg #[.int .i64 62135596800, .int .i64 0]] w fun e w' => e = .returned (.bool false) ∧ Below w.heap.size w w' := by
  have hb0 : Below w.heap.size w ((w.alloc (.cells #[.int .i64 s, .int .i64 n] 118)).alloc (.cells #[.int .i64 62135596800, .int .i64 0] 118)) := ((Below.refl _ _).alloc (Nat.le_refl _) _).alloc (by simp) _
  have HB := Lib.hid hb0
  clear hb0
  have hz : decide ((s : Int) < 62135596800) = false := by simp; omega
  have hy : decide ((n : Int) < 0) = false := by simp; omega
  by_cases he : s = 62135596800
  · have hx : ((s : Int) == 62135596800) = true := by simpa using he
    clear he
    go_enter Tryz.func150, Tryz.ntmps150
    go_wp2
    go_ret
    exact ⟨rfl, HB.out⟩
  · have hx : ((s : Int) == 62135596800) = false := by simpa using he
    clear he
    go_enter Tryz.func150, Tryz.ntmps150
    go_wp2
    go_ret
    exact ⟨rfl, HB.out⟩
theorem t150t (w : World) : Calls Tryz.prog 150 #[.agg #[.int .i64 0, .int .i64 0], .agg #[.int .i64 62135596800, .int .i64 0]] w fun e w' => e = .returned (.bool true) ∧ Below w.heap.size w w' := by
  have hb0 : Below w.heap.size w ((w.alloc (.cells #[.int .i64 0, .int .i64 0] 118)).alloc (.cells #[.int .i64 62135596800, .int .i64 0] 118)) := ((Below.refl _ _).alloc (Nat.le_refl _) _).alloc (by simp) _
  have HB := Lib.hid hb0
  clear hb0
  go_enter Tryz.func150, Tryz.ntmps150
  go_wp2
  go_ret
  exact ⟨rfl, HB.out⟩
theorem t151 (m : Int) (w : World) (h0 : 0 ≤ m) (h1 : m < 8796093022208) : Calls Tryz.prog 151 #[.agg #[.int .i64 (m / 1000 + 62135596800), .int .i64 (m % 1000 * 1000000)]] w fun e w' => e = .returned (.int .i64 (m * 1000000)) ∧ Below w.heap.size w w' := by
  have hb0 : Below w.heap.size w (w.alloc (.cells #[.int .i64 (m / 1000 + 62135596800), .int .i64 (m % 1000 * 1000000)] 118)) := (Below.refl _ _).alloc (Nat.le_refl _) _
  have HB := Lib.hid hb0
  clear hb0
  go_enter Tryz.func151, Tryz.ntmps151
  go_wp2
  go_ret
  refine ⟨?_, HB.out⟩
  show Ending.returned (Value.int .i64 (m / 1000 * 1000000000 + m % 1000 * 1000000)) = _
  rw [show m / 1000 * 1000000000 + m % 1000 * 1000000 = m * 1000000 by omega]
theorem t104z (w : World) : Calls Tryz.prog 104 #[.int .i64 0, .int .i64 0] w fun e w' => e = .returned (.agg #[.int .i64 62135596800, .int .i64 0]) ∧ Below w.heap.size w w' := t104 0 0 w (by omega) (by omega) (by omega) (by omega)
structure BoxT (w0 : World) (q r : Nat) (cs : List Value) (W : World) : Prop where
  blk : Blk W q 270 [.pointer (some ⟨r, 7, none⟩)]
  msg : Blk W r 120 cs
  bel : Below w0.heap.size w0 W
theorem BoxT.call {w0 W W' : World} {q r : Nat} {cs : List Value} (h : BoxT w0 q r cs W) (hb : Below W.heap.size W W') : BoxT w0 q r cs W' := ⟨h.blk.below hb h.blk.lt, h.msg.below hb h.msg.lt, h.bel.trans (hb.mono h.bel.size)⟩
set_option maxHeartbeats 2000000 in
theorem t146pn {B : Nat} (p n r : Nat) (stk : List Value) (cs : List Value) (m : Int) (w : World) (h : PE B w p n stk) (hn : n ≤ 300000) (hr : Blk w r 120 cs) (h7 : cs[7]? = some (.int .i64 (secOf m))) (h8 : cs[8]? = some (.int .i64 (nsecOf m))) (hm : m = -1) :
    Calls Tryz.prog 146 #[.agg #[.pointer (some ⟨r, 7, none⟩)], .iface 175 (.pointer (some ⟨p, 0, none⟩))] w fun e w' => e = .returned .nilIface ∧ PE B w' p (n + 8) stk ∧ Kept B [p] w w' := by
  subst hm
  rw [show secOf (-1) = 0 by simp [secOf]] at h7
  rw [show nsecOf (-1) = 0 by simp [nsecOf]] at h8
  have hbx : BoxT w w.heap.size r cs (w.alloc (.cells #[.pointer (some ⟨r, 7, none⟩)] 270)).drew := ⟨(Blk.new w 270 [.pointer (some ⟨r, 7, none⟩)]).drew, (hr.alloc _).drew, ((Below.refl _ _).alloc (Nat.le_refl _) _).drew⟩
  have H0 := Lib.hid (And.intro h (And.intro h7 h8))
  have hall : ∀ W, BoxT w w.heap.size r cs W → W.cell? ⟨w.heap.size, 0, none⟩ = some (.pointer (some ⟨r, 7, none⟩)) ∧ W.cell? ⟨r, 7, none⟩ = some (.int .i64 0) ∧ W.cell? ⟨r, 8, none⟩ = some (.int .i64 0) ∧ BoxT w w.heap.size r cs W := fun W hb => ⟨hb.blk.cell 0, (hb.msg.cell 7).trans H0.out.2.1, (hb.msg.cell 8).trans H0.out.2.2, hb⟩
  have HA := Lib.hid hall
  have hlr := hr.lt
  have hHeld := hall _ hbx
  have hB0 := h.lt
  clear h h7 h8 hr hall
  go_enter Tryz.func146, Tryz.ntmps146
  go_wp2_with fail
  go_region_held3 (fun W => W.cell? ⟨w.heap.size, 0, none⟩ = some (.pointer (some ⟨r, 7, none⟩)) ∧ W.cell? ⟨r, 7, none⟩ = some (.int .i64 0) ∧ W.cell? ⟨r, 8, none⟩ = some (.int .i64 0) ∧ BoxT w w.heap.size r cs W)
    (first | with_reducible exact HA.out _ hbx | with_reducible exact HA.out _ hbx1 | with_reducible exact HA.out _ hbx2)
    (first | (go_at_call 104; refine (t104z _).mono ?_; rintro e w1 ⟨rfl, hb1⟩; have hbx1 := BoxT.call hbx hb1) | (go_at_call 150; refine (t150t _).mono ?_; rintro e w2 ⟨rfl, hb2⟩; have hbx2 := BoxT.call hbx1 hb2))
  rename_i hHeldR
  obtain ⟨q0, q7, q8, _⟩ := HA.out _ hbx2
  have HX2 := Lib.hid hbx2
  clear hbx hbx1 hbx2 hb1 hb2 hHeldR
  go_wp2_with fail
  refine (t99 0 0 _).mono ?_
  rintro e w3 ⟨rfl, hb3⟩
  have HX := Lib.hid (BoxT.call HX2.out hb3)
  clear hb3 q0 q7 q8
  have hpe := (fun h => pe_far h (Kept.of_below HX.out.bel []) (fun s hs => by cases hs) : PE B w p n stk → PE B w3 p n stk) H0.out.1
  have HPE := Lib.hid hpe
  clear hpe
  go_wp2_with fail
  refine (p191 p n (-1) stk _ (by exact HPE.out) (by omega)).mono ?_
  rintro e w4 ⟨rfl, hp4, hk4⟩
  have HF := Lib.hid (And.intro hp4 ((Kept.of_below (B := B) HX.out.bel [p]).trans hk4 (fun x hx => .inl hx) (fun x hx => .inl hx)))
  clear hp4 hk4
  go_wp2
  go_ret
  exact ⟨rfl, HF.out⟩
set_option maxHeartbeats 2000000 in
theorem t146pp {B : Nat} (p n r : Nat) (stk : List Value) (cs : List Value) (m : Int) (w : World) (h : PE B w p n stk) (hn : n ≤ 300000) (hr : Blk w r 120 cs) (h7 : cs[7]? = some (.int .i64 (secOf m))) (h8 : cs[8]? = some (.int .i64 (nsecOf m))) (hm : 0 ≤ m) (hm1 : m < 8796093022208) :
    Calls Tryz.prog 146 #[.agg #[.pointer (some ⟨r, 7, none⟩)], .iface 175 (.pointer (some ⟨p, 0, none⟩))] w fun e w' => e = .returned .nilIface ∧ PE B w' p (n + 8) stk ∧ Kept B [p] w w' := by
  rw [show secOf m = m / 1000 + 62135596800 by simp only [secOf]; rw [if_neg (by omega)]] at h7
  rw [show nsecOf m = m % 1000 * 1000000 by simp only [nsecOf]; rw [if_neg (by omega)]] at h8
  have hbx : BoxT w w.heap.size r cs (w.alloc (.cells #[.pointer (some ⟨r, 7, none⟩)] 270)).drew := ⟨(Blk.new w 270 [.pointer (some ⟨r, 7, none⟩)]).drew, (hr.alloc _).drew, ((Below.refl _ _).alloc (Nat.le_refl _) _).drew⟩
  have H0 := Lib.hid (And.intro h (And.intro h7 h8))
  have hall : ∀ W, BoxT w w.heap.size r cs W → W.cell? ⟨w.heap.size, 0, none⟩ = some (.pointer (some ⟨r, 7, none⟩)) ∧ W.cell? ⟨r, 7, none⟩ = some (.int .i64 (m / 1000 + 62135596800)) ∧ W.cell? ⟨r, 8, none⟩ = some (.int .i64 (m % 1000 * 1000000)) ∧ BoxT w w.heap.size r cs W := fun W hb => ⟨hb.blk.cell 0, (hb.msg.cell 7).trans H0.out.2.1, (hb.msg.cell 8).trans H0.out.2.2, hb⟩
  have HA := Lib.hid hall
  have hlr := hr.lt
  have hHeld := hall _ hbx
  have hB0 := h.lt
  clear h h7 h8 hr hall
  go_enter Tryz.func146, Tryz.ntmps146
  go_wp2_with fail
  go_region_held3 (fun W => W.cell? ⟨w.heap.size, 0, none⟩ = some (.pointer (some ⟨r, 7, none⟩)) ∧ W.cell? ⟨r, 7, none⟩ = some (.int .i64 (m / 1000 + 62135596800)) ∧ W.cell? ⟨r, 8, none⟩ = some (.int .i64 (m % 1000 * 1000000)) ∧ BoxT w w.heap.size r cs W)
    (first | with_reducible exact HA.out _ hbx | with_reducible exact HA.out _ hbx1 | with_reducible exact HA.out _ hbx2)
    (first | (go_at_call 104; refine (t104z _).mono ?_; rintro e w1 ⟨rfl, hb1⟩; have hbx1 := BoxT.call hbx hb1) | (go_at_call 150; refine (t150f _ _ _ (by omega) (by omega)).mono ?_; rintro e w2 ⟨rfl, hb2⟩; have hbx2 := BoxT.call hbx1 hb2))
  rename_i hHeldR
  obtain ⟨q0, q7, q8, _⟩ := HA.out _ hbx2
  have HX2 := Lib.hid hbx2
  clear hbx hbx1 hbx2 hb1 hb2 hHeldR
  go_wp2_with fail
  refine (t151 m _ hm hm1).mono ?_
  rintro e w3 ⟨rfl, hb3⟩
  have HX := Lib.hid (BoxT.call HX2.out hb3)
  clear hb3 q0 q7 q8
  have hpe := (fun h => pe_far h (Kept.of_below HX.out.bel []) (fun s hs => by cases hs) : PE B w p n stk → PE B w3 p n stk) H0.out.1
  have HPE := Lib.hid hpe
  clear hpe
  have hq : (m * 1000000) / 1000000 = m := by omega
  go_wp2_with fail
  refine (p191 p n m stk _ (by exact HPE.out) (by omega)).mono ?_
  rintro e w4 ⟨rfl, hp4, hk4⟩
  have HF := Lib.hid (And.intro hp4 ((Kept.of_below (B := B) HX.out.bel [p]).trans hk4 (fun x hx => .inl hx) (fun x hx => .inl hx)))
  clear hp4 hk4
  go_wp2
  go_ret
  exact ⟨rfl, HF.out⟩
theorem t146p {B : Nat} (p n r : Nat) (stk : List Value) (cs : List Value) (m : Int) (w : World) (h : PE B w p n stk) (hn : n ≤ 300000) (hr : Blk w r 120 cs) (h7 : cs[7]? = some (.int .i64 (secOf m))) (h8 : cs[8]? = some (.int .i64 (nsecOf m))) (hm : -1 ≤ m) (hm1 : m < 8796093022208) :
    Calls Tryz.prog 146 #[.agg #[.pointer (some ⟨r, 7, none⟩)], .iface 175 (.pointer (some ⟨p, 0, none⟩))] w fun e w' => e = .returned .nilIface ∧ PE B w' p (n + 8) stk ∧ Kept B [p] w w' := by
  by_cases hn0 : m = -1
  · exact t146pn p n r stk cs m w h hn hr h7 h8 hn0
  · exact t146pp p n r stk cs m w h hn hr h7 h8 (by omega) hm1
set_option maxHeartbeats 2000000 in
theorem t146rn {B : Nat} (p g N r : Nat) (pre : List UInt8) (stk : List Value) (cs : List Value) (m : Int) (w : World) (h : RX B w p g N pre stk) (hN : N ≤ 1000000) (hroom : pre.length + 8 ≤ N) (hr : Blk w r 120 cs) (h7 : cs[7]? = some (.int .i64 (secOf m))) (h8 : cs[8]? = some (.int .i64 (nsecOf m))) (hm : m = -1) :
    Calls Tryz.prog 146 #[.agg #[.pointer (some ⟨r, 7, none⟩)], .iface 180 (.pointer (some ⟨p, 0, none⟩))] w fun e w' => e = .returned .nilIface ∧ RX B w' p g N (pre ++ Lib.beBytes 8 (m % 18446744073709551616).toNat) stk ∧ Kept B [p, g] w w' := by
  subst hm
  rw [show secOf (-1) = 0 by simp [secOf]] at h7
  rw [show nsecOf (-1) = 0 by simp [nsecOf]] at h8
  have hbx : BoxT w w.heap.size r cs (w.alloc (.cells #[.pointer (some ⟨r, 7, none⟩)] 270)).drew := ⟨(Blk.new w 270 [.pointer (some ⟨r, 7, none⟩)]).drew, (hr.alloc _).drew, ((Below.refl _ _).alloc (Nat.le_refl _) _).drew⟩
  have H0 := Lib.hid (And.intro h (And.intro h7 h8))
  have hall : ∀ W, BoxT w w.heap.size r cs W → W.cell? ⟨w.heap.size, 0, none⟩ = some (.pointer (some ⟨r, 7, none⟩)) ∧ W.cell? ⟨r, 7, none⟩ = some (.int .i64 0) ∧ W.cell? ⟨r, 8, none⟩ = some (.int .i64 0) ∧ BoxT w w.heap.size r cs W := fun W hb => ⟨hb.blk.cell 0, (hb.msg.cell 7).trans H0.out.2.1, (hb.msg.cell 8).trans H0.out.2.2, hb⟩
  have HA := Lib.hid hall
  have hlr := hr.lt
  have hHeld := hall _ hbx
  have hB0 := h.base
  clear h h7 h8 hr hall
  go_enter Tryz.func146, Tryz.ntmps146
  go_wp2_with fail
  go_region_held3 (fun W => W.cell? ⟨w.heap.size, 0, none⟩ = some (.pointer (some ⟨r, 7, none⟩)) ∧ W.cell? ⟨r, 7, none⟩ = some (.int .i64 0) ∧ W.cell? ⟨r, 8, none⟩ = some (.int .i64 0) ∧ BoxT w w.heap.size r cs W)
    (first | with_reducible exact HA.out _ hbx | with_reducible exact HA.out _ hbx1 | with_reducible exact HA.out _ hbx2)
    (first | (go_at_call 104; refine (t104z _).mono ?_; rintro e w1 ⟨rfl, hb1⟩; have hbx1 := BoxT.call hbx hb1) | (go_at_call 150; refine (t150t _).mono ?_; rintro e w2 ⟨rfl, hb2⟩; have hbx2 := BoxT.call hbx1 hb2))
  rename_i hHeldR
  obtain ⟨q0, q7, q8, _⟩ := HA.out _ hbx2
  have HX2 := Lib.hid hbx2
  clear hbx hbx1 hbx2 hb1 hb2 hHeldR
  go_wp2_with fail
  refine (t99 0 0 _).mono ?_
  rintro e w3 ⟨rfl, hb3⟩
  have HX := Lib.hid (BoxT.call HX2.out hb3)
  clear hb3 q0 q7 q8
  have hpe := (fun h => rx_far h (Kept.of_below HX.out.bel []) (fun s hs => by cases hs) : RX B w p g N pre stk → RX B w3 p g N pre stk) H0.out.1
  have HPE := Lib.hid hpe
  clear hpe
  go_wp2_with fail
  refine (x205 p g N (-1) pre stk _ (by exact HPE.out) (by omega) (by rw [Lib.beBytes_length]; omega)).mono ?_
  rintro e w4 ⟨rfl, hp4, hk4⟩
  have HF := Lib.hid (And.intro hp4 ((Kept.of_below (B := B) HX.out.bel [p, g]).trans hk4 (fun x hx => .inl hx) (fun x hx => .inl hx)))
  clear hp4 hk4
  go_wp2
  go_ret
  exact ⟨rfl, HF.out⟩
set_option maxHeartbeats 2000000 in
theorem t146rp {B : Nat} (p g N r : Nat) (pre : List UInt8) (stk : List Value) (cs : List Value) (m : Int) (w : World) (h : RX B w p g N pre stk) (hN : N ≤ 1000000) (hroom : pre.length + 8 ≤ N) (hr : Blk w r 120 cs) (h7 : cs[7]? = some (.int .i64 (secOf m))) (h8 : cs[8]? = some (.int .i64 (nsecOf m))) (hm : 0 ≤ m) (hm1 : m < 8796093022208) :
    Calls Tryz.prog 146 #[.agg #[.pointer (some ⟨r, 7, none⟩)], .iface 180 (.pointer (some ⟨p, 0, none⟩))] w fun e w' => e = .returned .nilIface ∧ RX B w' p g N (pre ++ Lib.beBytes 8 (m % 18446744073709551616).toNat) stk ∧ Kept B [p, g] w w' := by
  rw [show secOf m = m / 1000 + 62135596800 by simp only [secOf]; rw [if_neg (by omega)]] at h7
  rw [show nsecOf m = m % 1000 * 1000000 by simp only [nsecOf]; rw [if_neg (by omega)]] at h8
  have hbx : BoxT w w.heap.size r cs (w.alloc (.cells #[.pointer (some ⟨r, 7, none⟩)] 270)).drew := ⟨(Blk.new w 270 [.pointer (some ⟨r, 7, none⟩)]).drew, (hr.alloc _).drew, ((Below.refl _ _).alloc (Nat.le_refl _) _).drew⟩
  have H0 := Lib.hid (And.intro h (And.intro h7 h8))
  have hall : ∀ W, BoxT w w.heap.size r cs W → W.cell? ⟨w.heap.size, 0, none⟩ = some (.pointer (some ⟨r, 7, none⟩)) ∧ W.cell? ⟨r, 7, none⟩ = some (.int .i64 (m / 1000 + 62135596800)) ∧ W.cell? ⟨r, 8, none⟩ = some (.int .i64 (m % 1000 * 1000000)) ∧ BoxT w w.heap.size r cs W := fun W hb => ⟨hb.blk.cell 0, (hb.msg.cell 7).trans H0.out.2.1, (hb.msg.cell 8).trans H0.out.2.2, hb⟩
  have HA := Lib.hid hall
  have hlr := hr.lt
  have hHeld := hall _ hbx
  have hB0 := h.base
  clear h h7 h8 hr hall
  go_enter Tryz.func146, Tryz.ntmps146
  go_wp2_with fail
  go_region_held3 (fun W => W.cell? ⟨w.heap.size, 0, none⟩ = some (.pointer (some ⟨r, 7, none⟩)) ∧ W.cell? ⟨r, 7, none⟩ = some (.int .i64 (m / 1000 + 62135596800)) ∧ W.cell? ⟨r, 8, none⟩ = some (.int .i64 (m % 1000 * 1000000)) ∧ BoxT w w.heap.size r cs W)
    (first | with_reducible exact HA.out _ hbx | with_reducible exact HA.out _ hbx1 | with_reducible exact HA.out _ hbx2)
    (first | (go_at_call 104; refine (t104z _).mono ?_; rintro e w1 ⟨rfl, hb1⟩; have hbx1 := BoxT.call hbx hb1) | (go_at_call 150; refine (t150f _ _ _ (by omega) (by omega)).mono ?_; rintro e w2 ⟨rfl, hb2⟩; have hbx2 := BoxT.call hbx1 hb2))
  rename_i hHeldR
  obtain ⟨q0, q7, q8, _⟩ := HA.out _ hbx2
  have HX2 := Lib.hid hbx2
  clear hbx hbx1 hbx2 hb1 hb2 hHeldR
  go_wp2_with fail
  refine (t151 m _ hm hm1).mono ?_
  rintro e w3 ⟨rfl, hb3⟩
  have HX := Lib.hid (BoxT.call HX2.out hb3)
  clear hb3 q0 q7 q8
  have hpe := (fun h => rx_far h (Kept.of_below HX.out.bel []) (fun s hs => by cases hs) : RX B w p g N pre stk → RX B w3 p g N pre stk) H0.out.1
  have HPE := Lib.hid hpe
  clear hpe
  have hq : (m * 1000000) / 1000000 = m := by omega
  go_wp2_with fail
  refine (x205 p g N m pre stk _ (by exact HPE.out) (by omega) (by rw [Lib.beBytes_length]; omega)).mono ?_
  rintro e w4 ⟨rfl, hp4, hk4⟩
  have HF := Lib.hid (And.intro hp4 ((Kept.of_below (B := B) HX.out.bel [p, g]).trans hk4 (fun x hx => .inl hx) (fun x hx => .inl hx)))
  clear hp4 hk4
  go_wp2
  go_ret
  exact ⟨rfl, HF.out⟩
theorem t146r {B : Nat} (p g N r : Nat) (pre : List UInt8) (stk : List Value) (cs : List Value) (m : Int) (w : World) (h : RX B w p g N pre stk) (hN : N ≤ 1000000) (hroom : pre.length + 8 ≤ N) (hr : Blk w r 120 cs) (h7 : cs[7]? = some (.int .i64 (secOf m))) (h8 : cs[8]? = some (.int .i64 (nsecOf m))) (hm : -1 ≤ m) (hm1 : m < 8796093022208) :
    Calls Tryz.prog 146 #[.agg #[.pointer (some ⟨r, 7, none⟩)], .iface 180 (.pointer (some ⟨p, 0, none⟩))] w fun e w' => e = .returned .nilIface ∧ RX B w' p g N (pre ++ Lib.beBytes 8 (m % 18446744073709551616).toNat) stk ∧ Kept B [p, g] w w' := by
  by_cases hn0 : m = -1
  · exact t146rn p g N r pre stk cs m w h hN hroom hr h7 h8 hn0
  · exact t146rp p g N r pre stk cs m w h hN hroom hr h7 h8 (by omega) hm1
end Go.Proofs.YtmiflkccfieefaaGreatDoor

/-
  A message of format 1, by both encoders.
-/
namespace Go.Proofs.YtmiflkccfieefaaGreatDoor
open Go.ChangeShapes Go.WideShapes Go.ChangeAt Go.RowKit
set_option maxRecDepth 100000
set_option linter.unusedVariables false
set_option linter.unusedSimpArgs false

set_option maxHeartbeats 4000000 in
theorem e155p1 {B : Nat} (p n D r : Nat) (la : Bool) (m : Int) (ko vo : NB) (stk : List Value) (w : World) (h : PE B w p n stk) (hn : n ≤ 200000) (hstk : stk.length ≤ 100)
    (hM : MsgAt w D r 1 la (secOf m) (nsecOf m) ko vo true) (hko : ol ko ≤ 300) (hvo : ol vo ≤ 300) (hDp : D ≤ p) (hrD : r < D) (hBD : B = D) (hm : -1 ≤ m) (hm1 : m < 8796093022208) :
    Calls Tryz.prog 155 #[.pointer (some ⟨r, 0, none⟩), .iface 175 (.pointer (some ⟨p, 0, none⟩))] w fun e w' => e = .returned .nilIface ∧
      PE B w' p (n + 4 + 1 + 1 + 8 + (4 + ol ko) + (4 + ol vo)) stk ∧ MsgAt w' D r 1 la (secOf m) (nsecOf m) ko vo false ∧ Kept B [p, r] w w' := by
  have hpr : p ≠ r := by omega
  obtain ⟨kv, vv, cv, sz, hb, hk, hv, hcv⟩ := hM
  obtain ⟨kA, kn, kc, rfl⟩ := nb_form hk
  obtain ⟨vA, vn, vc, rfl⟩ := nb_form hv
  simp only [if_true] at hcv
  subst hcv
  have hrl := hb.lt
  have heq := fun (W : World) (a : Option Addr) (l c : Nat) => run_neq_slice_nil_any (P := Tryz.prog) W 23 5 a l c 0 0 Tryz.underlying23
  have hk0 : Kept B [p, r] w (w.alloc (.cells #[.int .i64 0, .int .i8 0] 288)) := (Kept.refl _ _ _).alloc _
  have hB := h.lt
  have hM0 := hb.alloc (.cells #[.int .i64 0, .int .i8 0] 288)
  have hc0 := Blk.new w 288 [.int .i64 0, .int .i8 0]
  have hpe0 : PE B (w.alloc (.cells #[.int .i64 0, .int .i8 0] 288)) p n stk := h.keep ((Kept.refl _ _ _).alloc _) (fun sv hb => hb.alloc _)
  have H0 := Lib.hid (And.intro hpe0 (And.intro hM0 (And.intro hc0 hk0)))
  have HB := Lib.hid (And.intro hb (And.intro hk hv))
  clear h hb hk hv hk0 hM0 hc0 hpe0
  obtain ⟨hpe0, hM0, hc0, hk0⟩ := H0.out
  obtain ⟨hBp, sv, hp, hown⟩ := hpe0
  have hlc := hc0.lt
  have hcne : p ≠ w.heap.size := hp.ne_ hc0 (by decide)
  have HP := Lib.hid (And.intro hp hown)
  clear hM0 hc0 hk0 hp hown
  go_enter Tryz.func155, Tryz.ntmps155
  go_upto_region 1 with fail
  go_cut [9] (fun s9 w2 => Hid (PE B w2 p (n + 4) (stk ++ [Value.iface 264 (.pointer (some ⟨w.heap.size, 0, none⟩))]) ∧ Blk w2 r 120 [.int .i8 0, .int .i64 0, .bool la, .slice kA kn kc, .slice vA vn vc, .pointer none, .int .i8 1, .int .i64 (secOf m), .int .i64 (nsecOf m), .slice none 0 0, .int .i64 sz] ∧ Kept B [p, r] w w2))
  case first =>
    go_region_with (first | (go_at_call 144; refine (c144 _).mono ?_; rintro e w1 ⟨rfl, rfl⟩) | (go_at_call 185; refine (push185_264 p n w.heap.size 0 288 [.int .i64 0, .int .i8 0] (.int .i64 0) stk sv _ hBp (by exact HP.out.1) (by exact HP.out.2) (by omega) (by exact H0.out.2.2.1) (by decide) (by decide) rfl (by omega)).mono ?_; rintro e w2 ⟨rfl, sv2, hp2, hown2, hr2, hk2⟩))
    all_goals
      obtain ⟨hpe0, hM0, hc0, hk0⟩ := H0.out
      have HF : Hid (PE B w2 p (n + 4) (stk ++ [Value.iface 264 (.pointer (some ⟨w.heap.size, 0, none⟩))]) ∧ Blk w2 r 120 [.int .i8 0, .int .i64 0, .bool la, .slice kA kn kc, .slice vA vn vc, .pointer none, .int .i8 1, .int .i64 (secOf m), .int .i64 (nsecOf m), .slice none 0 0, .int .i64 sz] ∧ Kept B [p, r] w w2) := by
        refine ⟨⟨hBp, sv2, by exact_mod_cast hp2, hown2⟩, ?_, ?_⟩
        · exact hM0.drew.kept hk2 (by simp; omega) (.inr (by rintro (h5 | h5) <;> exact absurd h5 (by decide)))
        · exact hk0.drew.trans (S2 := [p, w.heap.size]) hk2 (fun x hx => .inl hx) (fun x hx => by
            simp at hx
            rcases hx with rfl | rfl
            · exact .inl (by simp)
            · exact .inr (Nat.le_refl _))
      clear hp2 hown2 hr2 hk2 hpe0 hM0 hc0 hk0
      go_wp2_with fail
      go_meet
      exact HF
  case rest =>
    have H1 := hcut
    clear hcut H0 HP hcne hlc
    have e1 : bits .and .i8 0 7 = 0 := by decide
    have e2 : bits .or .i8 0 8 = 8 := by decide
    have c6 := H1.out.2.1.cell 6
    simp only [List.getElem?_cons_zero, List.getElem?_cons_succ] at c6
    generalize hstv : stk ++ [Value.iface 264 (.pointer (some ⟨w.heap.size, 0, none⟩))] = st at H1
    have HST := Lib.hid hstv
    clear hstv
    go_wp2_with fail
    refine wp_region_still_tail 8 (by kernel_rfl) (by kernel_rfl) ?_
    show wpStill _ _ (World.drew _) (fun a' => wpList _ _ _ _ _ (World.drew _)) _ _
    simp only [List.take_succ_cons, List.take_zero, List.drop_succ_cons, List.drop_zero]
    repeat still_step
    refine wpStill_nil ?_
    go_wp2_with fail
    refine (p192 p _ 1 _ _ (by exact H1.out.1) (by omega)).mono ?_
    rintro e w3 ⟨rfl, hp3, hk3⟩
    replace hk3 := Kept.undrew hk3
    have hb3 := H1.out.2.1.kept hk3 (by simpa using Ne.symm hpr) (.inr (by rintro (h5 | h5) <;> exact absurd h5 (by decide)))
    have H3 := Lib.hid (And.intro hp3 (And.intro hb3 (H1.out.2.2.trans hk3 (fun x hx => .inl hx) (fun x hx => .inl (by simp at hx ⊢; exact .inl hx)))))
    have c0 := hb3.cell 0
    have c2 := hb3.cell 2
    simp only [List.getElem?_cons_zero, List.getElem?_cons_succ] at c0 c2
    clear hp3 hk3 hb3 c6
    have hst : ¬ stackT 120 := by rintro (h5 | h5) <;> exact absurd h5 (by decide)
    go_wp2_with fail
    all_goals
      refine (p192 p _ _ _ _ (by exact H3.out.1) (by omega)).mono ?_
      rintro e w4 ⟨rfl, hp4, hk4⟩
      have hb4 := H3.out.2.1.kept hk4 (by simpa using Ne.symm hpr) (.inr hst)
      have H4 := Lib.hid (And.intro hp4 (And.intro hb4 (H3.out.2.2.trans hk4 (fun x hx => .inl hx) (fun x hx => .inl (by simp at hx ⊢; exact .inl hx)))))
      have c6 := hb4.cell 6
      simp only [List.getElem?_cons_zero, List.getElem?_cons_succ] at c6
      clear hp4 hk4 hb4 c0 c2
      go_wp2_with fail
      refine (t146p p _ r _ _ m _ (by exact H4.out.1) (by omega) (by exact H4.out.2.1) rfl rfl hm hm1).mono ?_
      rintro e wt ⟨rfl, hpt, hkt⟩
      have hbt := H4.out.2.1.kept hkt (by simpa using Ne.symm hpr) (.inr hst)
      have HT := Lib.hid (And.intro hpt (And.intro hbt (H4.out.2.2.trans hkt (fun x hx => .inl hx) (fun x hx => .inl (by simp at hx ⊢; exact .inl hx)))))
      have c3 := hbt.cell 3
      simp only [List.getElem?_cons_zero, List.getElem?_cons_succ] at c3
      clear hpt hkt hbt c6
      go_wp2_with fail
      refine wp_region_still_tail 8 (by kernel_rfl) (by kernel_rfl) ?_
      show wpStill _ _ (World.drew _) (fun a' => wpList _ _ _ _ _ (World.drew _)) _ _
      simp only [List.take_succ_cons, List.take_zero, List.drop_succ_cons, List.drop_zero]
      repeat still_step
      refine wpStill_nil ?_
      go_wp2_with fail
      refine (p187 p _ _ ko _ _ (by exact HT.out.1) (by omega) HB.out.2.1.sl (by omega)).mono ?_
      rintro e w5 ⟨rfl, hp5, hk5⟩
      replace hk5 := Kept.undrew hk5
      have hb5 := HT.out.2.1.kept hk5 (by simpa using Ne.symm hpr) (.inr hst)
      have H5 := Lib.hid (And.intro hp5 (And.intro hb5 (HT.out.2.2.trans hk5 (fun x hx => .inl hx) (fun x hx => .inl (by simp at hx ⊢; exact .inl hx)))))
      have c0 := hb5.cell 0
      have c1 := hb5.cell 1
      have c4 := hb5.cell 4
      have c9 := hb5.cell 9
      have z9 := hb5.frozen 9
      have z10 := hb5.frozen 10
      have c10 := hb5.cell 10
      simp only [List.getElem?_cons_zero, List.getElem?_cons_succ] at c0 c1 c4 c9 c10
      clear hp5 hk5 hb5 c3
      cases vo with
      | none =>
        obtain ⟨rfl, rfl, rfl⟩ : vA = none ∧ vn = 0 ∧ vc = 0 := by
          have h : (Value.slice vA vn vc) = .slice none 0 0 := HB.out.2.2
          injection h with h1 h2 h3
          exact ⟨h1, h2, h3⟩
        go_wp2_with fail
        refine (p187 p _ _ none _ _ (by exact H5.out.1) (by omega) rfl (by simp [ol])).mono ?_
        rintro e w6 ⟨rfl, hp6, hk6⟩
        have hb6 := H5.out.2.1.kept hk6 (by simpa using Ne.symm hpr) (.inr hst)
        have H6 := Lib.hid (And.intro hp6 (And.intro hb6 (H5.out.2.2.trans hk6 (fun x hx => .inl hx) (fun x hx => .inl (by simp at hx ⊢; exact .inl hx)))))
        clear hp6 hk6 hb6 c0 c1 c4 c9 z9 z10 c10
        go_wp2_with fail
        refine (pop184_264 p _ ⟨w.heap.size, 0, none⟩ stk _ (by have h := H6.out.1; rw [← HST.out] at h; exact h) (by omega)).mono ?_
        rintro e w7 ⟨rfl, hp7, hk7⟩
        have hb7 := H6.out.2.1.kept hk7 (by simpa using Ne.symm hpr) (.inr hst)
        have hkw := H6.out.2.2.trans hk7 (fun x hx => .inl hx) (fun x hx => .inl (by simp at hx ⊢; exact .inl hx))
        have hSS : ∀ s ∈ [p, r], D ≤ s ∨ ∃ t cs, t ≠ 5 ∧ Blk w s t cs := fun s hs => by
          simp at hs
          rcases hs with rfl | rfl
          · exact .inl hDp
          · exact .inr ⟨120, _, by decide, HB.out.1⟩
        have hM7 : MsgAt w7 D r 1 la (secOf m) (nsecOf m) ko none false := ⟨_, _, _, _, hb7, HB.out.2.1.kept hkw hSS, HB.out.2.2.kept hkw hSS, rfl⟩
        have HF := Lib.hid (And.intro hp7 (And.intro hM7 hkw))
        clear hp7 hM7 hkw hb7 hk7
        go_wp2
        go_ret
        exact ⟨rfl, HF.out⟩
      | some l =>
        obtain ⟨a, rfl, rfl⟩ : ∃ a, vA = some a ∧ vn = l.length := by
          obtain ⟨a, c, h⟩ := HB.out.2.2.sl
          injection h with h1 h2 h3
          exact ⟨a, h1, h2⟩
        go_wp2_with fail
        go_quiet ((go_at_call 152; exact Calls.quiet_of_same (c152 _ _ _ _ _)))
        go_wp2_with fail
        have hks : Kept B [p, r] w (((w5.drewN nq).setCell ⟨r, 9, none⟩ (.slice (some a) l.length vc)).setCell ⟨r, 10, none⟩ (.int .i64 l.length)) := ((H5.out.2.2.drewN nq).setCell (p := ⟨r, 9, none⟩) (.inl (by simp)) _).setCell (p := ⟨r, 10, none⟩) (.inl (by simp)) _
        have hkr : Kept w5.heap.size [r] w5 (((w5.drewN nq).setCell ⟨r, 9, none⟩ (.slice (some a) l.length vc)).setCell ⟨r, 10, none⟩ (.int .i64 l.length)) := (((Kept.refl _ _ _).drewN nq).setCell (p := ⟨r, 9, none⟩) (.inl (by simp)) _).setCell (p := ⟨r, 10, none⟩) (.inl (by simp)) _
        have hbs := ((H5.out.2.1.drewN nq).set_ 9 (.slice (some a) l.length vc)).set_ 10 (.int .i64 l.length)
        have hps := pe_far H5.out.1 hkr (fun x hx => by simp at hx; subst hx; exact ⟨_, _, H5.out.2.1, by decide, by decide⟩)
        have HS := Lib.hid (And.intro hps (And.intro hbs hks))
        clear hks hkr hbs hps c0 c1 c4 c9 z9 z10 c10
        generalize (((w5.drewN nq).setCell ⟨r, 9, none⟩ (.slice (some a) l.length vc)).setCell ⟨r, 10, none⟩ (.int .i64 l.length)) = ws at HS ⊢
        refine (p187 p _ _ (some l) _ _ (by exact HS.out.1) (by omega) HB.out.2.2.sl (by omega)).mono ?_
        rintro e w6 ⟨rfl, hp6, hk6⟩
        have hb6 := HS.out.2.1.kept hk6 (by simpa using Ne.symm hpr) (.inr hst)
        have H6 := Lib.hid (And.intro hp6 (And.intro hb6 (HS.out.2.2.trans hk6 (fun x hx => .inl hx) (fun x hx => .inl (by simp at hx ⊢; exact .inl hx)))))
        clear hp6 hk6 hb6
        go_wp2_with fail
        refine (pop184_264 p _ ⟨w.heap.size, 0, none⟩ stk _ (by have h := H6.out.1; rw [← HST.out] at h; exact h) (by omega)).mono ?_
        rintro e w7 ⟨rfl, hp7, hk7⟩
        have hb7 := H6.out.2.1.kept hk7 (by simpa using Ne.symm hpr) (.inr hst)
        have hkw := H6.out.2.2.trans hk7 (fun x hx => .inl hx) (fun x hx => .inl (by simp at hx ⊢; exact .inl hx))
        have hSS : ∀ s ∈ [p, r], D ≤ s ∨ ∃ t cs, t ≠ 5 ∧ Blk w s t cs := fun s hs => by
          simp at hs
          rcases hs with rfl | rfl
          · exact .inl hDp
          · exact .inr ⟨120, _, by decide, HB.out.1⟩
        have hM7 : MsgAt w7 D r 1 la (secOf m) (nsecOf m) ko (some l) false := ⟨_, _, _, _, hb7, HB.out.2.1.kept hkw hSS, HB.out.2.2.kept hkw hSS, rfl⟩
        have HF := Lib.hid (And.intro hp7 (And.intro hM7 hkw))
        clear hp7 hM7 hkw hb7 hk7
        go_wp2
        go_ret
        exact ⟨rfl, HF.out⟩
end Go.Proofs.YtmiflkccfieefaaGreatDoor

/-
  A message of format 1, by both encoders.
-/
namespace Go.Proofs.YtmiflkccfieefaaGreatDoor
open Go.ChangeShapes Go.WideShapes Go.ChangeAt Go.RowKit
set_option maxRecDepth 100000
set_option linter.unusedVariables false
set_option linter.unusedSimpArgs false

set_option maxHeartbeats 4000000 in
theorem e155r1f {B : Nat} (p g N D r : Nat) (m : Int) (ko vo : NB) (pre : List UInt8) (stk : List Value) (w : World) (h : RX B w p g N pre stk) (hN : N ≤ 1000000) (hstk : stk.length ≤ 100)
    (hM : MsgAt w D r 1 false (secOf m) (nsecOf m) ko vo false) (hko : ol ko ≤ 300) (hvo : ol vo ≤ 300) (hDp : D ≤ p) (hDg : D ≤ g) (hrD : r < D) (hBD : B = D) (hm : -1 ≤ m) (hm1 : m < 8796093022208) (hroom : pre.length + (msgBytes 1 false (Lib.beBytes 8 (m % 18446744073709551616).toNat) ko vo).length ≤ N) :
    Calls Tryz.prog 155 #[.pointer (some ⟨r, 0, none⟩), .iface 180 (.pointer (some ⟨p, 0, none⟩))] w fun e w' => e = .returned .nilIface ∧
      RX B w' p g N (pre ++ msgBytes 1 false (Lib.beBytes 8 (m % 18446744073709551616).toNat) ko vo) stk ∧ Kept B [p, g, r] w w' := by
  have hpr : p ≠ r := by omega
  have hgr : g ≠ r := by omega
  obtain ⟨kv, vv, cv, sz, hb, hk, hv, hcv⟩ := hM
  obtain ⟨kA, kn, kc, rfl⟩ := nb_form hk
  obtain ⟨vA, vn, vc, rfl⟩ := nb_form hv
  simp at hcv
  subst hcv
  have hrl := hb.lt
  have heq := fun (W : World) (a : Option Addr) (l c : Nat) => run_neq_slice_nil_any (P := Tryz.prog) W 23 5 a l c 0 0 Tryz.underlying23
  have hroom2 : pre.length + 4 + 1 + 1 + 8 + (sBytes ko).length + (sBytes vo).length ≤ N := by
    have h : (msgBytes 1 false (Lib.beBytes 8 (m % 18446744073709551616).toNat) ko vo).length = 4 + (2 + 8 + ((sBytes ko).length + (sBytes vo).length)) := by simp [msgBytes, msgBody, Lib.beBytes_length]; omega
    omega
  clear hroom
  obtain ⟨hBp, hBg, hpl⟩ := h.base
  have hk0 : Kept B [p, g, r] w (w.alloc (.cells #[.int .i64 0, .int .i8 0] 288)) := (Kept.refl _ _ _).alloc _
  have hM0 := hb.alloc (.cells #[.int .i64 0, .int .i8 0] 288)
  have hc0 := Blk.new w 288 [.int .i64 0, .int .i8 0]
  have hpe0 : RX B (w.alloc (.cells #[.int .i64 0, .int .i8 0] 288)) p g N pre stk := rx_far (S := []) h ((Kept.refl _ _ _).alloc _) (fun s hs => by cases hs)
  have H0 := Lib.hid (And.intro hpe0 (And.intro hM0 (And.intro hc0 hk0)))
  have HB := Lib.hid (And.intro hb (And.intro hk hv))
  have hgl := h.glt
  clear h hb hk hv hk0 hM0 hc0 hpe0
  go_enter Tryz.func155, Tryz.ntmps155
  go_upto_region 1 with fail
  go_cut [9] (fun s9 w2 => ∃ mid : List UInt8, Hid (mid.length = 4 ∧ RX B w2 p g N (pre ++ mid) (stk ++ [Value.iface 264 (.pointer (some ⟨w.heap.size, 0, none⟩))]) ∧ Blk w2 r 120 [.int .i8 0, .int .i64 0, .bool false, .slice kA kn kc, .slice vA vn vc, .pointer none, .int .i8 1, .int .i64 (secOf m), .int .i64 (nsecOf m), .slice vA vn vc, .int .i64 sz] ∧ Blk w2 w.heap.size 288 [.int .i64 pre.length, .int .i8 0] ∧ Kept B [p, g, r] w w2))
  case first =>
    go_region_with (first | (go_at_call 144; refine (c144 _).mono ?_; rintro e w1 ⟨rfl, rfl⟩) | (go_at_call 199; refine (xpush264 p g N w.heap.size 0 288 [.int .i64 0, .int .i8 0] (.int .i64 0) pre stk _ (by exact H0.out.1) (by omega) (by exact H0.out.2.2.1) (by decide) (by decide) (by decide) rfl (by omega) (by omega)).mono ?_; rintro e w2 ⟨rfl, mid, hml, hp2, hr2, hk2⟩))
    all_goals
      obtain ⟨hpe0, hM0, hc0, hk0⟩ := H0.out
      have HF : Hid (mid.length = 4 ∧ RX B w2 p g N (pre ++ mid) (stk ++ [Value.iface 264 (.pointer (some ⟨w.heap.size, 0, none⟩))]) ∧ Blk w2 r 120 [.int .i8 0, .int .i64 0, .bool false, .slice kA kn kc, .slice vA vn vc, .pointer none, .int .i8 1, .int .i64 (secOf m), .int .i64 (nsecOf m), .slice vA vn vc, .int .i64 sz] ∧ Blk w2 w.heap.size 288 [.int .i64 pre.length, .int .i8 0] ∧ Kept B [p, g, r] w w2) := by
        refine ⟨hml, hp2, ?_, hr2, ?_⟩
        · exact hM0.drew.kept hk2 (by simp; omega) (.inr (by rintro (h5 | h5) <;> exact absurd h5 (by decide)))
        · exact hk0.drew.trans (S2 := [p, w.heap.size]) hk2 (fun x hx => .inl hx) (fun x hx => by
            simp at hx
            rcases hx with rfl | rfl
            · exact .inl (by simp)
            · exact .inr (Nat.le_refl _))
      clear hp2 hr2 hk2 hpe0 hM0 hc0 hk0 hml
      go_wp2_with fail
      go_meet
      exact ⟨mid, HF⟩
  case rest =>
    obtain ⟨mid, H1⟩ := hcut
    have hSS : ∀ s ∈ [p, g, r], D ≤ s ∨ ∃ t cs, t ≠ 5 ∧ Blk w s t cs := fun s hs => by
      simp at hs
      rcases hs with rfl | rfl | rfl
      · exact .inl hDp
      · exact .inl hDg
      · exact .inr ⟨120, _, by decide, HB.out.1⟩
    clear H0
    have hml4 : mid.length = 4 := H1.out.1
    have HML := Lib.hid hml4
    have hpl1 : (pre ++ mid).length ≤ pre.length + 4 := by simp; omega
    clear hml4
    have e1 : bits .and .i8 0 7 = 0 := by decide
    have e2 : bits .or .i8 0 8 = 8 := by decide
    have c6 := H1.out.2.2.1.cell 6
    simp only [List.getElem?_cons_zero, List.getElem?_cons_succ] at c6
    generalize hstv : stk ++ [Value.iface 264 (.pointer (some ⟨w.heap.size, 0, none⟩))] = st at H1
    have HST := Lib.hid hstv
    clear hstv
    have hst : ¬ stackT 120 := by rintro (h5 | h5) <;> exact absurd h5 (by decide)
    have hst2 : ¬ stackT 288 := by rintro (h5 | h5) <;> exact absurd h5 (by decide)
    have hne : p ≠ w.heap.size := by omega
    generalize hpv : pre ++ mid = pr at H1 hpl1
    have HPV := Lib.hid hpv
    clear hpv
    replace H1 := Lib.hid (And.intro H1.out.2.1 (And.intro H1.out.2.2.1 (And.intro H1.out.2.2.2.1 H1.out.2.2.2.2)))
    go_wp2_with fail
    refine wp_region_still_tail 8 (by kernel_rfl) (by kernel_rfl) ?_
    show wpStill _ _ (World.drew _) (fun a' => wpList _ _ _ _ _ (World.drew _)) _ _
    simp only [List.take_succ_cons, List.take_zero, List.drop_succ_cons, List.drop_zero]
    repeat still_step
    refine wpStill_nil ?_
    go_wp2_with fail
    refine (x206 p g N 1 _ _ _ (by exact H1.out.1) (by omega) (by omega) (by omega) (by rw [byteOf_len]; omega)).mono ?_
    rintro e w3 ⟨rfl, hp3, hk3⟩
    replace hk3 := Kept.undrew hk3
    have hb3 := H1.out.2.1.kept hk3 (by simp; exact ⟨Ne.symm hpr, Ne.symm hgr⟩) (.inr hst)
    have hc3 := H1.out.2.2.1.kept hk3 (by simp; omega) (.inr hst2)
    have H3 := Lib.hid (And.intro hp3 (And.intro hb3 (And.intro hc3 (H1.out.2.2.2.trans hk3 (fun x hx => .inl hx) (fun x hx => .inl (by simp at hx ⊢; rcases hx with hx | hx; exact .inl hx; exact .inr (.inl hx)))))))
    have hpl3 : (pr ++ [byteOf 1]).length = pr.length + 1 := by simp
    have c0 := hb3.cell 0
    have c2 := hb3.cell 2
    simp only [List.getElem?_cons_zero, List.getElem?_cons_succ] at c0 c2
    clear hp3 hk3 hb3 hc3 c6
    · go_wp2_with fail
      refine (x206 p g N _ _ _ _ (by exact H3.out.1) (by omega) (by decide) (by decide) (by rw [byteOf_len, hpl3]; omega)).mono ?_
      rintro e w4 ⟨rfl, hp4, hk4⟩
      have hb4 := H3.out.2.1.kept hk4 (by simp; exact ⟨Ne.symm hpr, Ne.symm hgr⟩) (.inr hst)
      have hc4 := H3.out.2.2.1.kept hk4 (by simp; omega) (.inr hst2)
      have H4 := Lib.hid (And.intro hp4 (And.intro hb4 (And.intro hc4 (H3.out.2.2.2.trans hk4 (fun x hx => .inl hx) (fun x hx => .inl (by simp at hx ⊢; rcases hx with hx | hx; exact .inl hx; exact .inr (.inl hx)))))))
      have c6 := hb4.cell 6
      simp only [List.getElem?_cons_zero, List.getElem?_cons_succ] at c6
      clear hp4 hk4 hb4 hc4 c0 c2
      go_wp2_with fail
      refine (t146r p g N r _ _ _ m _ (by exact H4.out.1) (by omega) (by simp only [List.length_append, List.length_cons, List.length_nil]; omega) (by exact H4.out.2.1) rfl rfl hm hm1).mono ?_
      rintro e wt ⟨rfl, hpt, hkt⟩
      have hbt := H4.out.2.1.kept hkt (by simp; exact ⟨Ne.symm hpr, Ne.symm hgr⟩) (.inr hst)
      have hct := H4.out.2.2.1.kept hkt (by simp; omega) (.inr hst2)
      have HT := Lib.hid (And.intro hpt (And.intro hbt (And.intro hct (H4.out.2.2.2.trans hkt (fun x hx => .inl hx) (fun x hx => .inl (by simp at hx ⊢; rcases hx with hx | hx; exact .inl hx; exact .inr (.inl hx)))))))
      have c3 := hbt.cell 3
      simp only [List.getElem?_cons_zero, List.getElem?_cons_succ] at c3
      clear hpt hkt hbt hct c6
      go_wp2_with fail
      refine wp_region_still_tail 8 (by kernel_rfl) (by kernel_rfl) ?_
      show wpStill _ _ (World.drew _) (fun a' => wpList _ _ _ _ _ (World.drew _)) _ _
      simp only [List.take_succ_cons, List.take_zero, List.drop_succ_cons, List.drop_zero]
      repeat still_step
      refine wpStill_nil ?_
      go_wp2_with fail
      refine (x201 p g N _ ko D _ _ _ (by exact HT.out.1) (by omega) (by exact HB.out.2.1.kept HT.out.2.2.2.drew hSS) hDg hDp (by simp only [List.length_append, List.length_cons, List.length_nil, Lib.beBytes_length]; omega)).mono ?_
      rintro e w5 ⟨rfl, hp5, hk5⟩
      replace hk5 := Kept.undrew hk5
      have hb5 := HT.out.2.1.kept hk5 (by simp; exact ⟨Ne.symm hpr, Ne.symm hgr⟩) (.inr hst)
      have hc5 := HT.out.2.2.1.kept hk5 (by simp; omega) (.inr hst2)
      have H5 := Lib.hid (And.intro hp5 (And.intro hb5 (And.intro hc5 (HT.out.2.2.2.trans hk5 (fun x hx => .inl hx) (fun x hx => .inl (by simp at hx ⊢; rcases hx with hx | hx; exact .inl hx; exact .inr (.inl hx)))))))
      have c0 := hb5.cell 0
      have c1 := hb5.cell 1
      have c4 := hb5.cell 4
      have c9 := hb5.cell 9
      have z9 := hb5.frozen 9
      have z10 := hb5.frozen 10
      have c10 := hb5.cell 10
      simp only [List.getElem?_cons_zero, List.getElem?_cons_succ] at c0 c1 c4 c9 c10
      clear hp5 hk5 hb5 hc5 c3
      cases vo with
      | none =>
        obtain ⟨rfl, rfl, rfl⟩ : vA = none ∧ vn = 0 ∧ vc = 0 := by
          have h : (Value.slice vA vn vc) = .slice none 0 0 := HB.out.2.2
          injection h with h1 h2 h3
          exact ⟨h1, h2, h3⟩
        go_wp2_with fail
        refine (x201 p g N _ none D _ _ _ (by exact H5.out.1) (by omega) rfl hDg hDp (by simp only [List.length_append, List.length_cons, List.length_nil, Lib.beBytes_length]; omega)).mono ?_
        rintro e w6 ⟨rfl, hp6, hk6⟩
        have hb6 := H5.out.2.1.kept hk6 (by simp; exact ⟨Ne.symm hpr, Ne.symm hgr⟩) (.inr hst)
        have hc6 := H5.out.2.2.1.kept hk6 (by simp; omega) (.inr hst2)
        have H6 := Lib.hid (And.intro hp6 (And.intro hb6 (And.intro hc6 (H5.out.2.2.2.trans hk6 (fun x hx => .inl hx) (fun x hx => .inl (by simp at hx ⊢; rcases hx with hx | hx; exact .inl hx; exact .inr (.inl hx)))))))
        clear hp6 hk6 hb6 hc6 c0 c1 c4 c9 z9 z10 c10
        go_wp2_with fail
        refine (xpop264 p g N w.heap.size pre.length pre mid (msgBody 1 false (Lib.beBytes 8 (m % 18446744073709551616).toNat) ko none) stk _ (by have h := H6.out.1; rw [← HST.out, ← HPV.out] at h; simpa [msgBody, attrOf] using h) (by omega) (by omega) (by exact H6.out.2.2.1) rfl (by simp [msgBody]) HML.out).mono ?_
        rintro e w7 ⟨rfl, hp7, hk7⟩
        have HF := Lib.hid (show RX B w7 p g N (pre ++ msgBytes 1 false (Lib.beBytes 8 (m % 18446744073709551616).toNat) ko none) stk ∧ Kept B [p, g, r] w w7 from ⟨by simpa [msgBytes] using hp7, H6.out.2.2.2.trans hk7 (fun x hx => .inl hx) (fun x hx => .inl (by simp at hx ⊢; rcases hx with hx | hx; exact .inl hx; exact .inr (.inl hx)))⟩)
        clear hp7 hk7
        go_wp2
        go_ret
        exact ⟨rfl, HF.out⟩
      | some l =>
        obtain ⟨a, rfl, rfl⟩ : ∃ a, vA = some a ∧ vn = l.length := by
          obtain ⟨a, c, h⟩ := HB.out.2.2.sl
          injection h with h1 h2 h3
          exact ⟨a, h1, h2⟩
        go_wp2_with fail
        have hks : Kept B [p, g, r] w (w5.setCell ⟨r, 9, none⟩ (.slice none 0 0)) := H5.out.2.2.2.setCell (p := ⟨r, 9, none⟩) (.inl (by simp)) _
        have hps := rx_far H5.out.1 (S := [r]) ((Kept.refl _ _ w5).setCell (p := ⟨r, 9, none⟩) (.inl (by simp)) (.slice none 0 0)) (fun x hx => by simp at hx; subst hx; exact ⟨_, _, H5.out.2.1, by decide, by decide, by decide⟩)
        have hcs := H5.out.2.2.1.far (p := ⟨r, 9, none⟩) (show w.heap.size ≠ r by omega) (.slice none 0 0)
        have HS := Lib.hid (And.intro hps (And.intro (H5.out.2.1.set_ 9 (.slice none 0 0)) (And.intro hcs hks)))
        clear hks hps hcs c0 c1 c4 c9 z9 z10 c10
        generalize (w5.setCell ⟨r, 9, none⟩ (.slice none 0 0)) = ws at HS ⊢
        refine (x201 p g N _ (some l) D _ _ _ (by exact HS.out.1) (by omega) (by exact HB.out.2.2.kept HS.out.2.2.2 hSS) hDg hDp (by simp only [List.length_append, List.length_cons, List.length_nil, Lib.beBytes_length]; omega)).mono ?_
        rintro e w6 ⟨rfl, hp6, hk6⟩
        have hb6 := HS.out.2.1.kept hk6 (by simp; exact ⟨Ne.symm hpr, Ne.symm hgr⟩) (.inr hst)
        have hc6 := HS.out.2.2.1.kept hk6 (by simp; omega) (.inr hst2)
        have H6 := Lib.hid (And.intro hp6 (And.intro hb6 (And.intro hc6 (HS.out.2.2.2.trans hk6 (fun x hx => .inl hx) (fun x hx => .inl (by simp at hx ⊢; rcases hx with hx | hx; exact .inl hx; exact .inr (.inl hx)))))))
        clear hp6 hk6 hb6 hc6
        go_wp2_with fail
        refine (xpop264 p g N w.heap.size pre.length pre mid (msgBody 1 false (Lib.beBytes 8 (m % 18446744073709551616).toNat) ko (some l)) stk _ (by have h := H6.out.1; rw [← HST.out, ← HPV.out] at h; simpa [msgBody, attrOf] using h) (by omega) (by omega) (by exact H6.out.2.2.1) rfl (by simp [msgBody]) HML.out).mono ?_
        rintro e w7 ⟨rfl, hp7, hk7⟩
        have HF := Lib.hid (show RX B w7 p g N (pre ++ msgBytes 1 false (Lib.beBytes 8 (m % 18446744073709551616).toNat) ko (some l)) stk ∧ Kept B [p, g, r] w w7 from ⟨by simpa [msgBytes] using hp7, H6.out.2.2.2.trans hk7 (fun x hx => .inl hx) (fun x hx => .inl (by simp at hx ⊢; rcases hx with hx | hx; exact .inl hx; exact .inr (.inl hx)))⟩)
        clear hp7 hk7
        go_wp2
        go_ret
        exact ⟨rfl, HF.out⟩
end Go.Proofs.YtmiflkccfieefaaGreatDoor

/-
  A message of format 1, by both encoders.
-/
namespace Go.Proofs.YtmiflkccfieefaaGreatDoor
open Go.ChangeShapes Go.WideShapes Go.ChangeAt Go.RowKit
set_option maxRecDepth 100000
set_option linter.unusedVariables false
set_option linter.unusedSimpArgs false

set_option maxHeartbeats 4000000 in
theorem e155r1t {B : Nat} (p g N D r : Nat) (m : Int) (ko vo : NB) (pre : List UInt8) (stk : List Value) (w : World) (h : RX B w p g N pre stk) (hN : N ≤ 1000000) (hstk : stk.length ≤ 100)
    (hM : MsgAt w D r 1 true (secOf m) (nsecOf m) ko vo false) (hko : ol ko ≤ 300) (hvo : ol vo ≤ 300) (hDp : D ≤ p) (hDg : D ≤ g) (hrD : r < D) (hBD : B = D) (hm : -1 ≤ m) (hm1 : m < 8796093022208) (hroom : pre.length + (msgBytes 1 true (Lib.beBytes 8 (m % 18446744073709551616).toNat) ko vo).length ≤ N) :
    Calls Tryz.prog 155 #[.pointer (some ⟨r, 0, none⟩), .iface 180 (.pointer (some ⟨p, 0, none⟩))] w fun e w' => e = .returned .nilIface ∧
      RX B w' p g N (pre ++ msgBytes 1 true (Lib.beBytes 8 (m % 18446744073709551616).toNat) ko vo) stk ∧ Kept B [p, g, r] w w' := by
  have hpr : p ≠ r := by omega
  have hgr : g ≠ r := by omega
  obtain ⟨kv, vv, cv, sz, hb, hk, hv, hcv⟩ := hM
  obtain ⟨kA, kn, kc, rfl⟩ := nb_form hk
  obtain ⟨vA, vn, vc, rfl⟩ := nb_form hv
  simp at hcv
  subst hcv
  have hrl := hb.lt
  have heq := fun (W : World) (a : Option Addr) (l c : Nat) => run_neq_slice_nil_any (P := Tryz.prog) W 23 5 a l c 0 0 Tryz.underlying23
  have hroom2 : pre.length + 4 + 1 + 1 + 8 + (sBytes ko).length + (sBytes vo).length ≤ N := by
    have h : (msgBytes 1 true (Lib.beBytes 8 (m % 18446744073709551616).toNat) ko vo).length = 4 + (2 + 8 + ((sBytes ko).length + (sBytes vo).length)) := by simp [msgBytes, msgBody, Lib.beBytes_length]; omega
    omega
  clear hroom
  obtain ⟨hBp, hBg, hpl⟩ := h.base
  have hk0 : Kept B [p, g, r] w (w.alloc (.cells #[.int .i64 0, .int .i8 0] 288)) := (Kept.refl _ _ _).alloc _
  have hM0 := hb.alloc (.cells #[.int .i64 0, .int .i8 0] 288)
  have hc0 := Blk.new w 288 [.int .i64 0, .int .i8 0]
  have hpe0 : RX B (w.alloc (.cells #[.int .i64 0, .int .i8 0] 288)) p g N pre stk := rx_far (S := []) h ((Kept.refl _ _ _).alloc _) (fun s hs => by cases hs)
  have H0 := Lib.hid (And.intro hpe0 (And.intro hM0 (And.intro hc0 hk0)))
  have HB := Lib.hid (And.intro hb (And.intro hk hv))
  have hgl := h.glt
  clear h hb hk hv hk0 hM0 hc0 hpe0
  go_enter Tryz.func155, Tryz.ntmps155
  go_upto_region 1 with fail
  go_cut [9] (fun s9 w2 => ∃ mid : List UInt8, Hid (mid.length = 4 ∧ RX B w2 p g N (pre ++ mid) (stk ++ [Value.iface 264 (.pointer (some ⟨w.heap.size, 0, none⟩))]) ∧ Blk w2 r 120 [.int .i8 0, .int .i64 0, .bool true, .slice kA kn kc, .slice vA vn vc, .pointer none, .int .i8 1, .int .i64 (secOf m), .int .i64 (nsecOf m), .slice vA vn vc, .int .i64 sz] ∧ Blk w2 w.heap.size 288 [.int .i64 pre.length, .int .i8 0] ∧ Kept B [p, g, r] w w2))
  case first =>
    go_region_with (first | (go_at_call 144; refine (c144 _).mono ?_; rintro e w1 ⟨rfl, rfl⟩) | (go_at_call 199; refine (xpush264 p g N w.heap.size 0 288 [.int .i64 0, .int .i8 0] (.int .i64 0) pre stk _ (by exact H0.out.1) (by omega) (by exact H0.out.2.2.1) (by decide) (by decide) (by decide) rfl (by omega) (by omega)).mono ?_; rintro e w2 ⟨rfl, mid, hml, hp2, hr2, hk2⟩))
    all_goals
      obtain ⟨hpe0, hM0, hc0, hk0⟩ := H0.out
      have HF : Hid (mid.length = 4 ∧ RX B w2 p g N (pre ++ mid) (stk ++ [Value.iface 264 (.pointer (some ⟨w.heap.size, 0, none⟩))]) ∧ Blk w2 r 120 [.int .i8 0, .int .i64 0, .bool true, .slice kA kn kc, .slice vA vn vc, .pointer none, .int .i8 1, .int .i64 (secOf m), .int .i64 (nsecOf m), .slice vA vn vc, .int .i64 sz] ∧ Blk w2 w.heap.size 288 [.int .i64 pre.length, .int .i8 0] ∧ Kept B [p, g, r] w w2) := by
        refine ⟨hml, hp2, ?_, hr2, ?_⟩
        · exact hM0.drew.kept hk2 (by simp; omega) (.inr (by rintro (h5 | h5) <;> exact absurd h5 (by decide)))
        · exact hk0.drew.trans (S2 := [p, w.heap.size]) hk2 (fun x hx => .inl hx) (fun x hx => by
            simp at hx
            rcases hx with rfl | rfl
            · exact .inl (by simp)
            · exact .inr (Nat.le_refl _))
      clear hp2 hr2 hk2 hpe0 hM0 hc0 hk0 hml
      go_wp2_with fail
      go_meet
      exact ⟨mid, HF⟩
  case rest =>
    obtain ⟨mid, H1⟩ := hcut
    have hSS : ∀ s ∈ [p, g, r], D ≤ s ∨ ∃ t cs, t ≠ 5 ∧ Blk w s t cs := fun s hs => by
      simp at hs
      rcases hs with rfl | rfl | rfl
      · exact .inl hDp
      · exact .inl hDg
      · exact .inr ⟨120, _, by decide, HB.out.1⟩
    clear H0
    have hml4 : mid.length = 4 := H1.out.1
    have HML := Lib.hid hml4
    have hpl1 : (pre ++ mid).length ≤ pre.length + 4 := by simp; omega
    clear hml4
    have e1 : bits .and .i8 0 7 = 0 := by decide
    have e2 : bits .or .i8 0 8 = 8 := by decide
    have c6 := H1.out.2.2.1.cell 6
    simp only [List.getElem?_cons_zero, List.getElem?_cons_succ] at c6
    generalize hstv : stk ++ [Value.iface 264 (.pointer (some ⟨w.heap.size, 0, none⟩))] = st at H1
    have HST := Lib.hid hstv
    clear hstv
    have hst : ¬ stackT 120 := by rintro (h5 | h5) <;> exact absurd h5 (by decide)
    have hst2 : ¬ stackT 288 := by rintro (h5 | h5) <;> exact absurd h5 (by decide)
    have hne : p ≠ w.heap.size := by omega
    generalize hpv : pre ++ mid = pr at H1 hpl1
    have HPV := Lib.hid hpv
    clear hpv
    replace H1 := Lib.hid (And.intro H1.out.2.1 (And.intro H1.out.2.2.1 (And.intro H1.out.2.2.2.1 H1.out.2.2.2.2)))
    go_wp2_with fail
    refine wp_region_still_tail 8 (by kernel_rfl) (by kernel_rfl) ?_
    show wpStill _ _ (World.drew _) (fun a' => wpList _ _ _ _ _ (World.drew _)) _ _
    simp only [List.take_succ_cons, List.take_zero, List.drop_succ_cons, List.drop_zero]
    repeat still_step
    refine wpStill_nil ?_
    go_wp2_with fail
    refine (x206 p g N 1 _ _ _ (by exact H1.out.1) (by omega) (by omega) (by omega) (by rw [byteOf_len]; omega)).mono ?_
    rintro e w3 ⟨rfl, hp3, hk3⟩
    replace hk3 := Kept.undrew hk3
    have hb3 := H1.out.2.1.kept hk3 (by simp; exact ⟨Ne.symm hpr, Ne.symm hgr⟩) (.inr hst)
    have hc3 := H1.out.2.2.1.kept hk3 (by simp; omega) (.inr hst2)
    have H3 := Lib.hid (And.intro hp3 (And.intro hb3 (And.intro hc3 (H1.out.2.2.2.trans hk3 (fun x hx => .inl hx) (fun x hx => .inl (by simp at hx ⊢; rcases hx with hx | hx; exact .inl hx; exact .inr (.inl hx)))))))
    have hpl3 : (pr ++ [byteOf 1]).length = pr.length + 1 := by simp
    have c0 := hb3.cell 0
    have c2 := hb3.cell 2
    simp only [List.getElem?_cons_zero, List.getElem?_cons_succ] at c0 c2
    clear hp3 hk3 hb3 hc3 c6
    · go_wp2_with fail
      refine (x206 p g N _ _ _ _ (by exact H3.out.1) (by omega) (by decide) (by decide) (by rw [byteOf_len, hpl3]; omega)).mono ?_
      rintro e w4 ⟨rfl, hp4, hk4⟩
      have hb4 := H3.out.2.1.kept hk4 (by simp; exact ⟨Ne.symm hpr, Ne.symm hgr⟩) (.inr hst)
      have hc4 := H3.out.2.2.1.kept hk4 (by simp; omega) (.inr hst2)
      have H4 := Lib.hid (And.intro hp4 (And.intro hb4 (And.intro hc4 (H3.out.2.2.2.trans hk4 (fun x hx => .inl hx) (fun x hx => .inl (by simp at hx ⊢; rcases hx with hx | hx; exact .inl hx; exact .inr (.inl hx)))))))
      have c6 := hb4.cell 6
      simp only [List.getElem?_cons_zero, List.getElem?_cons_succ] at c6
      clear hp4 hk4 hb4 hc4 c0 c2
      go_wp2_with fail
      refine (t146r p g N r _ _ _ m _ (by exact H4.out.1) (by omega) (by simp only [List.length_append, List.length_cons, List.length_nil]; omega) (by exact H4.out.2.1) rfl rfl hm hm1).mono ?_
      rintro e wt ⟨rfl, hpt, hkt⟩
      have hbt := H4.out.2.1.kept hkt (by simp; exact ⟨Ne.symm hpr, Ne.symm hgr⟩) (.inr hst)
      have hct := H4.out.2.2.1.kept hkt (by simp; omega) (.inr hst2)
      have HT := Lib.hid (And.intro hpt (And.intro hbt (And.intro hct (H4.out.2.2.2.trans hkt (fun x hx => .inl hx) (fun x hx => .inl (by simp at hx ⊢; rcases hx with hx | hx; exact .inl hx; exact .inr (.inl hx)))))))
      have c3 := hbt.cell 3
      simp only [List.getElem?_cons_zero, List.getElem?_cons_succ] at c3
      clear hpt hkt hbt hct c6
      go_wp2_with fail
      refine wp_region_still_tail 8 (by kernel_rfl) (by kernel_rfl) ?_
      show wpStill _ _ (World.drew _) (fun a' => wpList _ _ _ _ _ (World.drew _)) _ _
      simp only [List.take_succ_cons, List.take_zero, List.drop_succ_cons, List.drop_zero]
      repeat still_step
      refine wpStill_nil ?_
      go_wp2_with fail
      refine (x201 p g N _ ko D _ _ _ (by exact HT.out.1) (by omega) (by exact HB.out.2.1.kept HT.out.2.2.2.drew hSS) hDg hDp (by simp only [List.length_append, List.length_cons, List.length_nil, Lib.beBytes_length]; omega)).mono ?_
      rintro e w5 ⟨rfl, hp5, hk5⟩
      replace hk5 := Kept.undrew hk5
      have hb5 := HT.out.2.1.kept hk5 (by simp; exact ⟨Ne.symm hpr, Ne.symm hgr⟩) (.inr hst)
      have hc5 := HT.out.2.2.1.kept hk5 (by simp; omega) (.inr hst2)
      have H5 := Lib.hid (And.intro hp5 (And.intro hb5 (And.intro hc5 (HT.out.2.2.2.trans hk5 (fun x hx => .inl hx) (fun x hx => .inl (by simp at hx ⊢; rcases hx with hx | hx; exact .inl hx; exact .inr (.inl hx)))))))
      have c0 := hb5.cell 0
      have c1 := hb5.cell 1
      have c4 := hb5.cell 4
      have c9 := hb5.cell 9
      have z9 := hb5.frozen 9
      have z10 := hb5.frozen 10
      have c10 := hb5.cell 10
      simp only [List.getElem?_cons_zero, List.getElem?_cons_succ] at c0 c1 c4 c9 c10
      clear hp5 hk5 hb5 hc5 c3
      cases vo with
      | none =>
        obtain ⟨rfl, rfl, rfl⟩ : vA = none ∧ vn = 0 ∧ vc = 0 := by
          have h : (Value.slice vA vn vc) = .slice none 0 0 := HB.out.2.2
          injection h with h1 h2 h3
          exact ⟨h1, h2, h3⟩
        go_wp2_with fail
        refine (x201 p g N _ none D _ _ _ (by exact H5.out.1) (by omega) rfl hDg hDp (by simp only [List.length_append, List.length_cons, List.length_nil, Lib.beBytes_length]; omega)).mono ?_
        rintro e w6 ⟨rfl, hp6, hk6⟩
        have hb6 := H5.out.2.1.kept hk6 (by simp; exact ⟨Ne.symm hpr, Ne.symm hgr⟩) (.inr hst)
        have hc6 := H5.out.2.2.1.kept hk6 (by simp; omega) (.inr hst2)
        have H6 := Lib.hid (And.intro hp6 (And.intro hb6 (And.intro hc6 (H5.out.2.2.2.trans hk6 (fun x hx => .inl hx) (fun x hx => .inl (by simp at hx ⊢; rcases hx with hx | hx; exact .inl hx; exact .inr (.inl hx)))))))
        clear hp6 hk6 hb6 hc6 c0 c1 c4 c9 z9 z10 c10
        go_wp2_with fail
        refine (xpop264 p g N w.heap.size pre.length pre mid (msgBody 1 true (Lib.beBytes 8 (m % 18446744073709551616).toNat) ko none) stk _ (by have h := H6.out.1; rw [← HST.out, ← HPV.out] at h; simpa [msgBody, attrOf] using h) (by omega) (by omega) (by exact H6.out.2.2.1) rfl (by simp [msgBody]) HML.out).mono ?_
        rintro e w7 ⟨rfl, hp7, hk7⟩
        have HF := Lib.hid (show RX B w7 p g N (pre ++ msgBytes 1 true (Lib.beBytes 8 (m % 18446744073709551616).toNat) ko none) stk ∧ Kept B [p, g, r] w w7 from ⟨by simpa [msgBytes] using hp7, H6.out.2.2.2.trans hk7 (fun x hx => .inl hx) (fun x hx => .inl (by simp at hx ⊢; rcases hx with hx | hx; exact .inl hx; exact .inr (.inl hx)))⟩)
        clear hp7 hk7
        go_wp2
        go_ret
        exact ⟨rfl, HF.out⟩
      | some l =>
        obtain ⟨a, rfl, rfl⟩ : ∃ a, vA = some a ∧ vn = l.length := by
          obtain ⟨a, c, h⟩ := HB.out.2.2.sl
          injection h with h1 h2 h3
          exact ⟨a, h1, h2⟩
        go_wp2_with fail
        have hks : Kept B [p, g, r] w (w5.setCell ⟨r, 9, none⟩ (.slice none 0 0)) := H5.out.2.2.2.setCell (p := ⟨r, 9, none⟩) (.inl (by simp)) _
        have hps := rx_far H5.out.1 (S := [r]) ((Kept.refl _ _ w5).setCell (p := ⟨r, 9, none⟩) (.inl (by simp)) (.slice none 0 0)) (fun x hx => by simp at hx; subst hx; exact ⟨_, _, H5.out.2.1, by decide, by decide, by decide⟩)
        have hcs := H5.out.2.2.1.far (p := ⟨r, 9, none⟩) (show w.heap.size ≠ r by omega) (.slice none 0 0)
        have HS := Lib.hid (And.intro hps (And.intro (H5.out.2.1.set_ 9 (.slice none 0 0)) (And.intro hcs hks)))
        clear hks hps hcs c0 c1 c4 c9 z9 z10 c10
        generalize (w5.setCell ⟨r, 9, none⟩ (.slice none 0 0)) = ws at HS ⊢
        refine (x201 p g N _ (some l) D _ _ _ (by exact HS.out.1) (by omega) (by exact HB.out.2.2.kept HS.out.2.2.2 hSS) hDg hDp (by simp only [List.length_append, List.length_cons, List.length_nil, Lib.beBytes_length]; omega)).mono ?_
        rintro e w6 ⟨rfl, hp6, hk6⟩
        have hb6 := HS.out.2.1.kept hk6 (by simp; exact ⟨Ne.symm hpr, Ne.symm hgr⟩) (.inr hst)
        have hc6 := HS.out.2.2.1.kept hk6 (by simp; omega) (.inr hst2)
        have H6 := Lib.hid (And.intro hp6 (And.intro hb6 (And.intro hc6 (HS.out.2.2.2.trans hk6 (fun x hx => .inl hx) (fun x hx => .inl (by simp at hx ⊢; rcases hx with hx | hx; exact .inl hx; exact .inr (.inl hx)))))))
        clear hp6 hk6 hb6 hc6
        go_wp2_with fail
        refine (xpop264 p g N w.heap.size pre.length pre mid (msgBody 1 true (Lib.beBytes 8 (m % 18446744073709551616).toNat) ko (some l)) stk _ (by have h := H6.out.1; rw [← HST.out, ← HPV.out] at h; simpa [msgBody, attrOf] using h) (by omega) (by omega) (by exact H6.out.2.2.1) rfl (by simp [msgBody]) HML.out).mono ?_
        rintro e w7 ⟨rfl, hp7, hk7⟩
        have HF := Lib.hid (show RX B w7 p g N (pre ++ msgBytes 1 true (Lib.beBytes 8 (m % 18446744073709551616).toNat) ko (some l)) stk ∧ Kept B [p, g, r] w w7 from ⟨by simpa [msgBytes] using hp7, H6.out.2.2.2.trans hk7 (fun x hx => .inl hx) (fun x hx => .inl (by simp at hx ⊢; rcases hx with hx | hx; exact .inl hx; exact .inr (.inl hx)))⟩)
        clear hp7 hk7
        go_wp2
        go_ret
        exact ⟨rfl, HF.out⟩
end Go.Proofs.YtmiflkccfieefaaGreatDoor

/-
  A message's block, by both encoders.
-/
namespace Go.Proofs.YtmiflkccfieefaaGreatDoor
open Go.ChangeShapes Go.WideShapes Go.ChangeAt Go.RowKit
set_option maxRecDepth 100000
set_option linter.unusedVariables false
set_option linter.unusedSimpArgs false

theorem MsgAt.keptB {B D : Nat} {S : List Nat} {w w' : World} {r : Nat} {ver : Int} {la : Bool} {sec nsec : Int} {ko vo : NB} {fresh : Bool} (h : MsgAt w D r ver la sec nsec ko vo fresh) (hk : Kept B S w w') (hS : ∀ s ∈ S, D ≤ s) (hr : r < D) : MsgAt w' D r ver la sec nsec ko vo fresh :=
  h.kept hk (fun s hs => .inl (hS s hs)) (fun hm => by have := hS r hm; omega)
theorem msgLen (ver : Int) (la : Bool) (tb : List UInt8) (ko vo : NB) : (msgBytes ver la tb ko vo).length = 4 + (2 + (tb.length + ((4 + ol ko) + (4 + ol vo)))) := by
  simp [msgBytes, msgBody, Lib.beBytes_length, sBytes_le]
  omega
/-- A message that is right for the encoders. -/
structure MOk (ver : Int) (la : Bool) (m : Int) (ko vo : NB) : Prop where
  ver_ : (ver = 0 ∧ m = -1 ∧ la = false) ∨ ver = 1
  m0 : -1 ≤ m
  m1 : m < 8796093022208
  ko_ : ol ko ≤ 300
  vo_ : ol vo ≤ 300
theorem MOk.len {ver : Int} {la : Bool} {m : Int} {ko vo : NB} (h : MOk ver la m ko vo) : (msgBytes ver la (tBytes ver m) ko vo).length ≤ 700 := by
  have := h.ko_
  have := h.vo_
  have t : (tBytes ver m).length ≤ 8 := by unfold tBytes; split <;> simp [Lib.beBytes_length]
  rw [msgLen]
  omega
theorem e155p {B : Nat} (p n D r : Nat) (ver : Int) (la : Bool) (m : Int) (ko vo : NB) (stk : List Value) (w : World) (h : PE B w p n stk) (hn : n ≤ 200000) (hstk : stk.length ≤ 100)
    (hM : MsgAt w D r ver la (secOf m) (nsecOf m) ko vo true) (hok : MOk ver la m ko vo) (hDp : D ≤ p) (hrD : r < D) (hBD : B = D) :
    Calls Tryz.prog 155 #[.pointer (some ⟨r, 0, none⟩), .iface 175 (.pointer (some ⟨p, 0, none⟩))] w fun e w' => e = .returned .nilIface ∧
      PE B w' p (n + (msgBytes ver la (tBytes ver m) ko vo).length) stk ∧ MsgAt w' D r ver la (secOf m) (nsecOf m) ko vo false ∧ Kept B [p, r] w w' := by
  obtain ⟨hv, m0, m1, hko, hvo⟩ := hok
  rcases hv with ⟨rfl, rfl, rfl⟩ | rfl
  · refine (e155p0 p n D r false _ _ ko vo stk w h hn hstk hM hko hvo hDp hrD hBD).mono ?_
    rintro e w' ⟨he, h1, h2, h3⟩
    refine ⟨he, ?_, h2, h3⟩
    rw [msgLen, show (tBytes 0 (-1)).length = 0 by simp [tBytes], show n + (4 + (2 + (0 + ((4 + ol ko) + (4 + ol vo))))) = n + 4 + 1 + 1 + (4 + ol ko) + (4 + ol vo) by omega]
    exact h1
  · refine (e155p1 p n D r la m ko vo stk w h hn hstk hM hko hvo hDp hrD hBD m0 m1).mono ?_
    rintro e w' ⟨he, h1, h2, h3⟩
    refine ⟨he, ?_, h2, h3⟩
    rw [msgLen, show (tBytes 1 m).length = 8 by simp [tBytes, Lib.beBytes_length], show n + (4 + (2 + (8 + ((4 + ol ko) + (4 + ol vo))))) = n + 4 + 1 + 1 + 8 + (4 + ol ko) + (4 + ol vo) by omega]
    exact h1
theorem e155r {B : Nat} (p g N D r : Nat) (ver : Int) (la : Bool) (m : Int) (ko vo : NB) (pre : List UInt8) (stk : List Value) (w : World) (h : RX B w p g N pre stk) (hN : N ≤ 1000000) (hstk : stk.length ≤ 100)
    (hM : MsgAt w D r ver la (secOf m) (nsecOf m) ko vo false) (hok : MOk ver la m ko vo) (hDp : D ≤ p) (hDg : D ≤ g) (hrD : r < D) (hBD : B = D) (hroom : pre.length + (msgBytes ver la (tBytes ver m) ko vo).length ≤ N) :
    Calls Tryz.prog 155 #[.pointer (some ⟨r, 0, none⟩), .iface 180 (.pointer (some ⟨p, 0, none⟩))] w fun e w' => e = .returned .nilIface ∧
      RX B w' p g N (pre ++ msgBytes ver la (tBytes ver m) ko vo) stk ∧ Kept B [p, g, r] w w' := by
  obtain ⟨hv, m0, m1, hko, hvo⟩ := hok
  rcases hv with ⟨rfl, rfl, rfl⟩ | rfl
  · have e0 : tBytes 0 (-1) = [] := by simp [tBytes]
    rw [e0] at hroom ⊢
    exact e155r0f p g N D r _ _ ko vo pre stk w h hN hstk hM hko hvo hDp hDg hrD hBD hroom
  · have e1 : tBytes 1 m = Lib.beBytes 8 (m % 18446744073709551616).toNat := by simp [tBytes]
    rw [e1] at hroom ⊢
    cases la
    · exact e155r1f p g N D r m ko vo pre stk w h hN hstk hM hko hvo hDp hDg hrD hBD m0 m1 hroom
    · exact e155r1t p g N D r m ko vo pre stk w h hN hstk hM hko hvo hDp hDg hrD hBD m0 m1 hroom
/-- A block in memory: at q, its message at r. -/
def BlkAt (w : World) (D q r : Nat) (off ver : Int) (la : Bool) (m : Int) (ko vo : NB) (fresh : Bool) : Prop :=
  Blk w q 146 [.int .i64 off, .pointer (some ⟨r, 0, none⟩)] ∧ MsgAt w D r ver la (secOf m) (nsecOf m) ko vo fresh
def blkBytes (off ver : Int) (la : Bool) (m : Int) (ko vo : NB) : List UInt8 := Lib.beBytes 8 (off % 18446744073709551616).toNat ++ (Lib.beBytes 4 (msgBytes ver la (tBytes ver m) ko vo).length ++ msgBytes ver la (tBytes ver m) ko vo)
theorem not146 : ¬ stackT 146 := by rintro (h5 | h5) <;> exact absurd h5 (by decide)
theorem not279 : ¬ stackT 279 := by rintro (h5 | h5) <;> exact absurd h5 (by decide)
set_option maxHeartbeats 4000000 in
theorem e164p {B : Nat} (p n D q r : Nat) (off ver : Int) (la : Bool) (m : Int) (ko vo : NB) (stk : List Value) (w : World) (h : PE B w p n stk) (hn : n ≤ 100000) (hstk : stk.length ≤ 50)
    (hA : BlkAt w D q r off ver la m ko vo true) (hok : MOk ver la m ko vo) (hDp : D ≤ p) (hqD : q < D) (hrD : r < D) (hBD : B = D) :
    Calls Tryz.prog 164 #[.pointer (some ⟨q, 0, none⟩), .iface 175 (.pointer (some ⟨p, 0, none⟩))] w fun e w' => e = .returned .nilIface ∧
      PE B w' p (n + (blkBytes off ver la m ko vo).length) stk ∧ BlkAt w' D q r off ver la m ko vo false ∧ Kept B [p, r] w w' := by
  obtain ⟨hb, hM⟩ := hA
  have hqr : q ≠ r := by
    obtain ⟨kv, vv, cv, sz, hm, _⟩ := hM
    exact hb.ne_ hm (by decide)
  have c0 := hb.cell 0
  simp only [List.getElem?_cons_zero] at c0
  have hqw := hb.lt
  have hBw := h.lt
  have H0 := Lib.hid (And.intro h (And.intro hb hM))
  clear h hb hM
  go_enter Tryz.func164, Tryz.ntmps164
  go_wp2_with fail
  refine wp_region_still_tail 8 (by kernel_rfl) (by kernel_rfl) ?_
  show wpStill _ _ (World.drew _) (fun a' => wpList _ _ _ _ _ (World.drew _)) _ _
  simp only [List.take_succ_cons, List.take_zero, List.drop_succ_cons, List.drop_zero]
  repeat still_step
  refine wpStill_nil ?_
  go_wp2_with fail
  refine (p191 p n off stk _ (by exact H0.out.1) (by omega)).mono ?_
  rintro e w1 ⟨rfl, hp1, hk1⟩
  replace hk1 := Kept.undrew hk1
  have hb1 := H0.out.2.1.kept hk1 (by simp; omega) (.inr not146)
  have hM1 := H0.out.2.2.keptB hk1 (by simp; omega) hrD
  have hlc : Blk (w1.alloc (.cells #[.int .i64 0, .int .i32 0] 279)) w1.heap.size 279 [.int .i64 0, .int .i32 0] := Blk.new _ _ _
  have hp1' : PE B (w1.alloc (.cells #[.int .i64 0, .int .i32 0] 279)) p (n + 8) stk := hp1.keep ((Kept.refl _ _ _).alloc _) (fun sv hb => hb.alloc _)
  obtain ⟨hBp, sv, hpp, hown⟩ := hp1'
  have H1 := Lib.hid (And.intro hpp (And.intro hown (And.intro hlc (And.intro (hb1.alloc (.cells #[.int .i64 0, .int .i32 0] 279)) (And.intro (hM1.keptB (B := B) (S := []) ((Kept.refl _ _ _).alloc (.cells #[.int .i64 0, .int .i32 0] 279)) (fun s hs => by cases hs) hrD) (hk1.alloc (.cells #[.int .i64 0, .int .i32 0] 279)))))))
  have hs1 := hk1.size
  clear hp1 hk1 hb1 hM1 hlc hpp hown c0
  go_wp2_with fail
  refine (push185_277 p (n + 8) w1.heap.size 0 279 [.int .i64 0, .int .i32 0] (.int .i64 0) stk sv _ hBp (by exact_mod_cast H1.out.1) (by exact H1.out.2.1) (by omega) (by exact H1.out.2.2.1) (by decide) (by decide) rfl (by omega)).mono ?_
  rintro e w2 ⟨rfl, sv2, hp2, hown2, hr2, hk2⟩
  have hpe2 : PE B w2 p (n + 8 + 4) (stk ++ [Value.iface 277 (.pointer (some ⟨w1.heap.size, 0, none⟩))]) := ⟨hBp, sv2, by exact_mod_cast hp2, hown2⟩
  have hpl : ∀ s ∈ [p, w1.heap.size], D ≤ s := fun s hs => by simp at hs; omega
  have hb2 := H1.out.2.2.2.1.kept hk2 (by simp; omega) (.inr not146)
  have hM2 := H1.out.2.2.2.2.1.keptB hk2 hpl hrD
  have hk02 : Kept B [p, r] w w2 := (H1.out.2.2.2.2.2.mono (S' := [p, r]) (Nat.le_refl _) (fun x hx => .inl (by simp at hx; simp [hx]))).trans hk2 (fun x hx => .inl hx) (fun x hx => by
    simp at hx
    rcases hx with rfl | rfl
    · exact .inl (by simp)
    · exact .inr hs1)
  have c1 := hb2.cell 1
  simp only [List.getElem?_cons_zero, List.getElem?_cons_succ] at c1
  have H2 := Lib.hid (And.intro hpe2 (And.intro hb2 (And.intro hM2 hk02)))
  clear hp2 hown2 hr2 hk2 hpe2 hb2 hM2 hk02 hpl
  go_wp2_with fail
  refine (e155p p _ D r ver la m ko vo _ _ (by exact H2.out.1) (by omega) (by simp; omega) (by exact H2.out.2.2.1) hok hDp hrD hBD).mono ?_
  rintro e w3 ⟨rfl, hp3, hM3, hk3⟩
  have hb3 := H2.out.2.1.kept hk3 (by simp; omega) (.inr not146)
  have H3 := Lib.hid (And.intro hp3 (And.intro hb3 (And.intro hM3 (H2.out.2.2.2.trans hk3 (fun x hx => .inl hx) (fun x hx => .inl hx)))))
  clear hp3 hM3 hk3 hb3 c1
  go_wp2_with fail
  refine (pop184_277 p _ ⟨w1.heap.size, 0, none⟩ stk _ (by exact H3.out.1) (by omega)).mono ?_
  rintro e w4 ⟨rfl, hp4, hk4⟩
  have hlen : n + (blkBytes off ver la m ko vo).length = n + 8 + 4 + (msgBytes ver la (tBytes ver m) ko vo).length := by simp [blkBytes, Lib.beBytes_length]; omega
  have HF := Lib.hid (show PE B w4 p (n + (blkBytes off ver la m ko vo).length) stk ∧ BlkAt w4 D q r off ver la m ko vo false ∧ Kept B [p, r] w w4 from
    ⟨by rw [hlen]; exact hp4, ⟨H3.out.2.1.kept hk4 (by simp; omega) (.inr not146), H3.out.2.2.1.keptB hk4 (by simp; omega) hrD⟩, H3.out.2.2.2.trans hk4 (fun x hx => .inl hx) (fun x hx => .inl (by simp at hx; simp [hx]))⟩)
  clear hp4 hk4 hlen
  go_wp2
  go_ret
  exact ⟨rfl, HF.out⟩
set_option maxHeartbeats 4000000 in
theorem e164r {B : Nat} (p g N D q r : Nat) (off ver : Int) (la : Bool) (m : Int) (ko vo : NB) (pre : List UInt8) (stk : List Value) (w : World) (h : RX B w p g N pre stk) (hN : N ≤ 1000000) (hstk : stk.length ≤ 50)
    (hA : BlkAt w D q r off ver la m ko vo false) (hok : MOk ver la m ko vo) (hDp : D ≤ p) (hDg : D ≤ g) (hqD : q < D) (hrD : r < D) (hBD : B = D) (hroom : pre.length + (blkBytes off ver la m ko vo).length ≤ N) :
    Calls Tryz.prog 164 #[.pointer (some ⟨q, 0, none⟩), .iface 180 (.pointer (some ⟨p, 0, none⟩))] w fun e w' => e = .returned .nilIface ∧
      RX B w' p g N (pre ++ blkBytes off ver la m ko vo) stk ∧ Kept B [p, g, r] w w' := by
  obtain ⟨hb, hM⟩ := hA
  have hqr : q ≠ r := by
    obtain ⟨kv, vv, cv, sz, hm, _⟩ := hM
    exact hb.ne_ hm (by decide)
  have hroom2 : pre.length + 12 + (msgBytes ver la (tBytes ver m) ko vo).length ≤ N := by
    have : (blkBytes off ver la m ko vo).length = 8 + (4 + (msgBytes ver la (tBytes ver m) ko vo).length) := by simp [blkBytes, Lib.beBytes_length]
    omega
  have c0 := hb.cell 0
  simp only [List.getElem?_cons_zero] at c0
  have hqw := hb.lt
  obtain ⟨hBp, hBg, hplt⟩ := h.base
  have hgl := h.glt
  have H0 := Lib.hid (And.intro h (And.intro hb hM))
  clear h hb hM hroom
  go_enter Tryz.func164, Tryz.ntmps164
  go_wp2_with fail
  refine wp_region_still_tail 8 (by kernel_rfl) (by kernel_rfl) ?_
  show wpStill _ _ (World.drew _) (fun a' => wpList _ _ _ _ _ (World.drew _)) _ _
  simp only [List.take_succ_cons, List.take_zero, List.drop_succ_cons, List.drop_zero]
  repeat still_step
  refine wpStill_nil ?_
  go_wp2_with fail
  refine (x205 p g N off pre stk _ (by exact H0.out.1) (by omega) (by rw [Lib.beBytes_length]; omega)).mono ?_
  rintro e w1 ⟨rfl, hp1, hk1⟩
  replace hk1 := Kept.undrew hk1
  have hb1 := H0.out.2.1.kept hk1 (by simp; omega) (.inr not146)
  have hM1 := H0.out.2.2.keptB hk1 (by simp; omega) hrD
  have hlc : Blk (w1.alloc (.cells #[.int .i64 0, .int .i32 0] 279)) w1.heap.size 279 [.int .i64 0, .int .i32 0] := Blk.new _ _ _
  have hp1' : RX B (w1.alloc (.cells #[.int .i64 0, .int .i32 0] 279)) p g N (pre ++ Lib.beBytes 8 (off % 18446744073709551616).toNat) stk := rx_far (S := []) hp1 ((Kept.refl _ _ _).alloc _) (fun s hs => by cases hs)
  have H1 := Lib.hid (And.intro hp1' (And.intro hlc (And.intro (hb1.alloc (.cells #[.int .i64 0, .int .i32 0] 279)) (And.intro (hM1.keptB (B := B) (S := []) ((Kept.refl _ _ _).alloc (.cells #[.int .i64 0, .int .i32 0] 279)) (fun s hs => by cases hs) hrD) (hk1.alloc (.cells #[.int .i64 0, .int .i32 0] 279))))))
  have hs1 := hk1.size
  have hl8 : (pre ++ Lib.beBytes 8 (off % 18446744073709551616).toNat).length = pre.length + 8 := by simp [Lib.beBytes_length]
  generalize hpr : pre ++ Lib.beBytes 8 (off % 18446744073709551616).toNat = pr at H1 hl8
  have HPR := Lib.hid hpr
  clear hp1 hk1 hb1 hM1 hlc hp1' c0 hpr
  have HL8 := Lib.hid hl8
  have hl8' : pr.length ≤ pre.length + 8 := by omega
  clear hl8
  go_wp2_with fail
  refine (xpush277 p g N w1.heap.size 0 279 [.int .i64 0, .int .i32 0] (.int .i64 0) pr stk _ (by exact H1.out.1) (by omega) (by exact H1.out.2.1) (by decide) (by decide) (by decide) rfl (by omega) (by omega)).mono ?_
  rintro e w2 ⟨rfl, mid, hml, hp2, hr2, hk2⟩
  have hpl : ∀ s ∈ [p, w1.heap.size], D ≤ s := fun s hs => by simp at hs; omega
  have hb2 := H1.out.2.2.1.kept hk2 (by simp; omega) (.inr not146)
  have hM2 := H1.out.2.2.2.1.keptB hk2 hpl hrD
  have hk02 : Kept B [p, g, r] w w2 := (H1.out.2.2.2.2.mono (S' := [p, g, r]) (Nat.le_refl _) (fun x hx => .inl (by simp at hx ⊢; rcases hx with hx | hx; exact .inl hx; exact .inr (.inl hx)))).trans hk2 (fun x hx => .inl hx) (fun x hx => by
    simp at hx
    rcases hx with rfl | rfl
    · exact .inl (by simp)
    · exact .inr hs1)
  have c1 := hb2.cell 1
  simp only [List.getElem?_cons_zero, List.getElem?_cons_succ] at c1
  have hml4 : (pr ++ mid).length ≤ pre.length + 12 := by simp; omega
  have H2 := Lib.hid (And.intro hp2 (And.intro hb2 (And.intro hM2 (And.intro hr2 (And.intro hml hk02)))))
  clear hp2 hr2 hk2 hb2 hM2 hk02 hpl hml
  go_wp2_with fail
  refine (e155r p g N D r ver la m ko vo _ _ _ (by exact H2.out.1) hN (by simp; omega) (by exact H2.out.2.2.1) hok hDp hDg hrD hBD (by omega)).mono ?_
  rintro e w3 ⟨rfl, hp3, hk3⟩
  have hlw : w1.heap.size ≠ r := by omega
  have hr3 := H2.out.2.2.2.1.kept hk3 (by simp; omega) (.inr not279)
  have H3 := Lib.hid (And.intro hp3 (And.intro hr3 (H2.out.2.2.2.2.2.trans hk3 (fun x hx => .inl hx) (fun x hx => .inl hx))))
  clear hp3 hk3 hr3 c1
  go_wp2_with fail
  refine (xpop277 p g N w1.heap.size pr.length 0 pr mid (msgBytes ver la (tBytes ver m) ko vo) stk _ (by have h := H3.out.1; simpa using h) (by omega) (by omega) (by exact H3.out.2.1) rfl H2.out.2.2.2.2.1).mono ?_
  rintro e w4 ⟨rfl, hp4, hk4⟩
  have HF := Lib.hid (show RX B w4 p g N (pre ++ blkBytes off ver la m ko vo) stk ∧ Kept B [p, g, r] w w4 from
    ⟨by
      have h := hp4
      rw [← HPR.out] at h
      simpa [blkBytes] using h, H3.out.2.2.trans hk4 (fun x hx => .inl hx) (fun x hx => .inl (by simp at hx ⊢; rcases hx with hx | hx; exact .inl hx; exact .inr (.inl hx)))⟩)
  clear hp4 hk4
  go_wp2
  go_ret
  exact ⟨rfl, HF.out⟩
end Go.Proofs.YtmiflkccfieefaaGreatDoor

/-
  A message set, by both encoders.
-/
namespace Go.Proofs.YtmiflkccfieefaaGreatDoor
open Go.ChangeShapes Go.WideShapes Go.ChangeAt Go.RowKit
set_option maxRecDepth 100000
set_option linter.unusedVariables false
set_option linter.unusedSimpArgs false

abbrev BlkV.ok (y : BlkV) : Prop := MOk y.msg.ver y.msg.la y.msg.tm y.msg.key.nb y.msg.val.nb
abbrev BlkV.at_ (w : World) (D q r : Nat) (y : BlkV) (fresh : Bool) : Prop := BlkAt w D q r y.off y.msg.ver y.msg.la y.msg.tm y.msg.key.nb y.msg.val.nb fresh
theorem BlkV.bytes_eq (y : BlkV) : blkBytes y.off y.msg.ver y.msg.la y.msg.tm y.msg.key.nb y.msg.val.nb = y.bytes := by
  simp [blkBytes, BlkV.bytes, MsgV.bytes]
/-- A set in memory at block s; P tells which of its blocks are as they were, fresh or not. -/
structure SetAt (w : World) (D s : Nat) (ys : List BlkV) (qs rs : List Nat) (P : Nat → Option Bool) : Prop where
  sblk : ∃ A c, Blk w s 130 [.bool false, .bool false, .slice A ys.length c] ∧ (ys ≠ [] → ∃ g cs, A = some ⟨g, 0, none⟩ ∧ g < D ∧ Blk w g 144 cs ∧ ∀ i (h : i < qs.length), i < ys.length → cs[i]? = some (.pointer (some ⟨qs[i], 0, none⟩)))
  slt : s < D
  ql : qs.length = ys.length
  rl : rs.length = ys.length
  qlt : ∀ q ∈ qs, q < D
  rlt : ∀ r ∈ rs, r < D
  nd : rs.Nodup
  each : ∀ i (h : i < ys.length) (hq : i < qs.length) (hr : i < rs.length) (f : Bool), P i = some f → ys[i].at_ w D qs[i] rs[i] f
theorem not130 : ¬ stackT 130 := by rintro (h5 | h5) <;> exact absurd h5 (by decide)
theorem not144 : ¬ stackT 144 := by rintro (h5 | h5) <;> exact absurd h5 (by decide)
theorem not120 : ¬ stackT 120 := by rintro (h5 | h5) <;> exact absurd h5 (by decide)
/-- Other blocks are written: those from D on, and message k's. -/
theorem SetAt.step {w w' : World} {B D s : Nat} {ys : List BlkV} {qs rs : List Nat} {P Q : Nat → Option Bool} (h : SetAt w D s ys qs rs P) {S : List Nat} (hk : Kept B S w w')
    (k : Nat) (hS : ∀ x ∈ S, D ≤ x ∨ (∃ (h : k < rs.length), x = rs[k] ∧ ∃ cs, Blk w x 120 cs))
    (hQ : ∀ i f, Q i = some f → (i ≠ k ∧ P i = some f) ∨ (i = k ∧ ∀ (h1 : k < ys.length) (h2 : k < qs.length) (h3 : k < rs.length), ys[k].at_ w' D qs[k] rs[k] f)) : SetAt w' D s ys qs rs Q := by
  have hne : ∀ g t cs, g < D → Blk w g t cs → t ≠ 120 → g ∉ S := fun g t cs hg hb ht hm => by
    rcases hS g hm with h | ⟨_, rfl, cs', hb'⟩
    · omega
    · exact hb.ne_ hb' ht rfl
  refine ⟨?_, h.slt, h.ql, h.rl, h.qlt, h.rlt, h.nd, ?_⟩
  · obtain ⟨A, c, h1, h2⟩ := h.sblk
    refine ⟨A, c, h1.kept hk (hne _ _ _ h.slt h1 (by decide)) (.inr not130), fun hys => ?_⟩
    obtain ⟨g, cs, hA, hg, hb, hc⟩ := h2 hys
    exact ⟨g, cs, hA, hg, hb.kept hk (hne _ _ _ hg hb (by decide)) (.inr not144), hc⟩
  · intro i hi hq hr f hf
    rcases hQ i f hf with ⟨hik, hP⟩ | ⟨rfl, hx⟩
    · obtain ⟨hb, hm⟩ := h.each i hi hq hr f hP
      refine ⟨hb.kept hk (hne _ _ _ (h.qlt _ (List.getElem_mem hq)) hb (by decide)) (.inr not146), hm.kept hk (fun x hx => ?_) (fun hx => ?_)⟩
      · rcases hS x hx with h | ⟨_, _, cs, hb'⟩
        · exact .inl h
        · exact .inr ⟨120, cs, by decide, hb'⟩
      · rcases hS _ hx with h' | ⟨hkr, e, _⟩
        · have := h.rlt _ (List.getElem_mem hr)
          omega
        · exact hik ((List.getElem_inj h.nd).1 e)
    · exact hx hi hq hr
theorem SetAt.far {w w' : World} {B D s : Nat} {ys : List BlkV} {qs rs : List Nat} {P : Nat → Option Bool} (h : SetAt w D s ys qs rs P) {S : List Nat} (hk : Kept B S w w') (hS : ∀ x ∈ S, D ≤ x) : SetAt w' D s ys qs rs P :=
  h.step hk rs.length (fun x hx => .inl (hS x hx)) (fun i f hf => by
    by_cases hi : i = rs.length
    · exact .inr ⟨hi, fun h1 _ h3 => absurd h3 (Nat.lt_irrefl _)⟩
    · exact .inl ⟨hi, hf⟩)
theorem setBytes_take (ys : List BlkV) (k : Nat) (h : k < ys.length) : setBytes (ys.take (k + 1)) = setBytes (ys.take k) ++ ys[k].bytes := by
  rw [List.take_succ_eq_append_getElem h, setBytes_app]
  simp [setBytes]
theorem msg_blk {w : World} {D r : Nat} {ver : Int} {la : Bool} {sec nsec : Int} {ko vo : NB} {fresh : Bool} (h : MsgAt w D r ver la sec nsec ko vo fresh) : ∃ cs, Blk w r 120 cs := by
  obtain ⟨kv, vv, cv, sz, h1, _⟩ := h
  exact ⟨_, h1⟩
def freshP (k : Nat) (i : Nat) : Option Bool := some (decide (k ≤ i))
def freshR (k : Nat) (i : Nat) : Option Bool := if k ≤ i then some false else none
set_option maxHeartbeats 4000000 in
theorem e163p {B : Nat} (p D s : Nat) (ys : List BlkV) (qs rs : List Nat) (w : World) (h : PE B w p 0 []) (hS : SetAt w D s ys qs rs (freshP 0)) (hok : ∀ y ∈ ys, y.ok) (hl8 : ys.length ≤ 8) (hDp : D ≤ p) (hBD : B = D) (hlen : (setBytes ys).length ≤ 10000) :
    Calls Tryz.prog 163 #[.pointer (some ⟨s, 0, none⟩), .iface 175 (.pointer (some ⟨p, 0, none⟩))] w fun e w' => e = .returned .nilIface ∧ PE B w' p (setBytes ys).length [] ∧ SetAt w' D s ys qs rs (freshP ys.length) ∧ Kept B (p :: rs) w w' := by
  have hmono : ∀ k, k ≤ ys.length → (setBytes (ys.take k)).length ≤ (setBytes ys).length := fun k hk => by
    conv => rhs; rw [← List.take_append_drop k ys, setBytes_app, List.length_append]
    omega
  obtain ⟨A, c, h1, _⟩ := hS.sblk
  have c2 := h1.cell 2
  simp only [List.getElem?_cons_zero, List.getElem?_cons_succ] at c2
  have H0 := Lib.hid (And.intro h hS)
  have HM := Lib.hid hmono
  have HOK := Lib.hid hok
  clear h hS h1 hmono hok
  go_enter Tryz.func163, Tryz.ntmps163
  go_wp2
  clear c2
  go_loopw [12] (fun i wr => ∃ k : Nat, k ≤ ys.length ∧ i = .int .i64 k ∧ Hid (PE B wr p (setBytes (ys.take k)).length [] ∧ SetAt wr D s ys qs rs (freshP k) ∧ Kept B (p :: rs) w wr)) (fun i _ => ys.length - (intOf i).toNat)
  case atStart => exact ⟨0, by omega, rfl, H0.out.1, H0.out.2, Kept.refl _ _ _⟩
  case round =>
    obtain ⟨k, hk, rfl, HR⟩ := hrel
    by_cases hlt : k < ys.length
    · have hS := HR.out.2.1
      have hqk : k < qs.length := by rw [hS.ql]; exact hlt
      have hrk : k < rs.length := by rw [hS.rl]; exact hlt
      obtain ⟨A', c', hb, hg⟩ := hS.sblk
      obtain ⟨g0, cs, rfl, hgD, hgb, hgc⟩ := hg (by intro e; rw [e] at hlt; simp at hlt)
      have d2 := hb.cell 2
      simp only [List.getElem?_cons_zero, List.getElem?_cons_succ] at d2
      have d0 := (hgb.cell k).trans (hgc k hqk hlt)
      have hat := hS.each k hlt hqk hrk true (by simp [freshP])
      have hyo := HOK.out ys[k] (List.getElem_mem hlt)
      have hq1 := hS.qlt qs[k] (List.getElem_mem hqk)
      have hr1 := hS.rlt rs[k] (List.getElem_mem hrk)
      have hmk := HM.out k hk
      have hmk1 := HM.out (k + 1) (by omega)
      have htk := setBytes_take ys k hlt
      have hbe := ys[k].bytes_eq
      have HT := Lib.hid (And.intro htk hbe)
      have hrl := congrArg List.length htk
      rw [List.length_append, ← hbe] at hrl
      have HAT := Lib.hid (And.intro hat hyo)
      generalize hqv : qs[k] = q at *
      generalize hrv : rs[k] = r at *
      have HQV := Lib.hid (And.intro hqv hrv)
      clear hS hb hg hgb hgc hat hyo htk hbe hqv hrv
      go_wp2_with fail
      refine (e164p p _ D q r _ _ _ _ _ _ [] _ (by exact HR.out.1) (by omega) (by simp) (by exact HAT.out.1) HAT.out.2 hDp hq1 hr1 hBD).mono ?_
      rintro e w1 ⟨rfl, hp1, ha1, hk1⟩
      obtain ⟨mcs, hmb⟩ := msg_blk HAT.out.1.2
      have hS1 : SetAt w1 D s ys qs rs (freshP (k + 1)) := HR.out.2.1.step hk1 k (fun x hx => by
        simp at hx
        rcases hx with rfl | rfl
        · exact .inl hDp
        · exact .inr ⟨hrk, HQV.out.2.symm, mcs, hmb⟩) (fun i f hf => by
        by_cases hik : i = k
        · refine .inr ⟨hik, fun _ _ _ => ?_⟩
          have hff : f = false := by
            simp [freshP] at hf
            rw [← hf]
            simp
            omega
          subst hff
          rw [HQV.out.1, HQV.out.2]
          exact ha1
        · refine .inl ⟨hik, ?_⟩
          simp [freshP] at hf ⊢
          rw [← hf]
          congr 1
          simp
          omega)
      have hpe1 : PE B w1 p (setBytes (ys.take (k + 1))).length [] := by
        rw [hrl]
        exact hp1
      have HN := Lib.hid (And.intro hpe1 (And.intro hS1 (HR.out.2.2.trans hk1 (fun x hx => .inl hx) (fun x hx => .inl (by
        simp at hx
        rcases hx with rfl | rfl
        · simp
        · rw [← HQV.out.2]; simp)))))
      clear hp1 ha1 hk1 hS1 hpe1 hmb
      go_wp2
      go_roundw
      case rel => exact ⟨k + 1, by omega, by go_num, HN⟩
      case measure => simp [intOf]; omega
    · obtain rfl : k = ys.length := by omega
      have HF := HR
      rw [List.take_length] at HF
      go_wp2
      go_ret
      exact ⟨rfl, HF.out⟩
set_option maxHeartbeats 4000000 in
theorem e163r {B : Nat} (p g D s : Nat) (ys : List BlkV) (qs rs : List Nat) (w : World) (h : RX B w p g (setBytes ys).length [] []) (hS : SetAt w D s ys qs rs (freshR 0)) (hok : ∀ y ∈ ys, y.ok) (hl8 : ys.length ≤ 8) (hDp : D ≤ p) (hDg : D ≤ g) (hBD : B = D) (hlen : (setBytes ys).length ≤ 10000) :
    Calls Tryz.prog 163 #[.pointer (some ⟨s, 0, none⟩), .iface 180 (.pointer (some ⟨p, 0, none⟩))] w fun e w' => e = .returned .nilIface ∧ RX B w' p g (setBytes ys).length (setBytes ys) [] ∧ Kept B (p :: g :: rs) w w' := by
  have hmono : ∀ k, k ≤ ys.length → (setBytes (ys.take k)).length ≤ (setBytes ys).length := fun k hk => by
    conv => rhs; rw [← List.take_append_drop k ys, setBytes_app, List.length_append]
    omega
  obtain ⟨A, c, h1, _⟩ := hS.sblk
  have c2 := h1.cell 2
  simp only [List.getElem?_cons_zero, List.getElem?_cons_succ] at c2
  have H0 := Lib.hid (And.intro h hS)
  have HM := Lib.hid hmono
  have HOK := Lib.hid hok
  clear h hS h1 hmono hok
  go_enter Tryz.func163, Tryz.ntmps163
  go_wp2
  clear c2
  go_loopw [12] (fun i wr => ∃ k : Nat, k ≤ ys.length ∧ i = .int .i64 k ∧ Hid (RX B wr p g (setBytes ys).length (setBytes (ys.take k)) [] ∧ SetAt wr D s ys qs rs (freshR k) ∧ Kept B (p :: g :: rs) w wr)) (fun i _ => ys.length - (intOf i).toNat)
  case atStart => exact ⟨0, by omega, rfl, H0.out.1, H0.out.2, Kept.refl _ _ _⟩
  case round =>
    obtain ⟨k, hk, rfl, HR⟩ := hrel
    by_cases hlt : k < ys.length
    · have hS := HR.out.2.1
      have hqk : k < qs.length := by rw [hS.ql]; exact hlt
      have hrk : k < rs.length := by rw [hS.rl]; exact hlt
      obtain ⟨A', c', hb, hg⟩ := hS.sblk
      obtain ⟨g0, cs, rfl, hgD, hgb, hgc⟩ := hg (by intro e; rw [e] at hlt; simp at hlt)
      have d2 := hb.cell 2
      simp only [List.getElem?_cons_zero, List.getElem?_cons_succ] at d2
      have d0 := (hgb.cell k).trans (hgc k hqk hlt)
      have hat := hS.each k hlt hqk hrk false (by simp [freshR])
      have hyo := HOK.out ys[k] (List.getElem_mem hlt)
      have hq1 := hS.qlt qs[k] (List.getElem_mem hqk)
      have hr1 := hS.rlt rs[k] (List.getElem_mem hrk)
      have hmk := HM.out k hk
      have hmk1 := HM.out (k + 1) (by omega)
      have htk := setBytes_take ys k hlt
      have hbe := ys[k].bytes_eq
      have HT := Lib.hid (And.intro htk hbe)
      have hrl := congrArg List.length htk
      rw [List.length_append, ← hbe] at hrl
      have HAT := Lib.hid (And.intro hat hyo)
      generalize hqv : qs[k] = q at *
      generalize hrv : rs[k] = r at *
      have HQV := Lib.hid (And.intro hqv hrv)
      clear hS hb hg hgb hgc hat hyo htk hbe hqv hrv
      go_wp2_with fail
      refine (e164r p g _ D q r _ _ _ _ _ _ _ [] _ (by exact HR.out.1) (by omega) (by simp) (by exact HAT.out.1) HAT.out.2 hDp hDg hq1 hr1 hBD (by omega)).mono ?_
      rintro e w1 ⟨rfl, hp1, hk1⟩
      obtain ⟨mcs, hmb⟩ := msg_blk HAT.out.1.2
      have hS1 : SetAt w1 D s ys qs rs (freshR (k + 1)) := HR.out.2.1.step hk1 k (fun x hx => by
        simp at hx
        rcases hx with rfl | rfl | rfl
        · exact .inl hDp
        · exact .inl hDg
        · exact .inr ⟨hrk, HQV.out.2.symm, mcs, hmb⟩) (fun i f hf => by
        by_cases hik : i = k
        · exfalso
          unfold freshR at hf
          rw [if_neg (by omega)] at hf
          cases hf
        · refine .inl ⟨hik, ?_⟩
          simp [freshR] at hf ⊢
          obtain ⟨h1, h2⟩ := hf
          exact ⟨by omega, h2⟩)
      have hpe1 : RX B w1 p g (setBytes ys).length (setBytes (ys.take (k + 1))) [] := by
        rw [HT.out.1, ← HT.out.2]
        exact hp1
      have HN := Lib.hid (And.intro hpe1 (And.intro hS1 (HR.out.2.2.trans hk1 (fun x hx => .inl hx) (fun x hx => .inl (by
        simp at hx
        rcases hx with rfl | rfl | rfl
        · simp
        · simp
        · rw [← HQV.out.2]; simp)))))
      clear hp1 hk1 hS1 hpe1 hmb
      go_wp2
      go_roundw
      case rel => exact ⟨k + 1, by omega, by go_num, HN⟩
      case measure => simp [intOf]; omega
    · obtain rfl : k = ys.length := by omega
      have HF := HR
      rw [List.take_length] at HF
      go_wp2
      go_ret
      exact ⟨rfl, ⟨HF.out.1, HF.out.2.2⟩⟩
end Go.Proofs.YtmiflkccfieefaaGreatDoor
