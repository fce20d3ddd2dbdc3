/-
  The law FnVersions: what it answers.
-/
import Derived.Test.YtmiflkccfieefaaGreatDoorVvp
import Derived.Test.YtmiflkccfieefaaGreatDoorAlv
namespace Go.Proofs.YtmiflkccfieefaaGreatDoor
open Go.ChangeShapes Go.WideShapes Go.ChangeAt Go.RowKit
set_option maxRecDepth 100000
set_option linter.unusedVariables false
set_option linter.unusedSimpArgs false

structure BoxW (w0 : World) (p q : Nat) (cs ds : List Value) (W : World) : Prop where
  blk : Blk W p 79 cs
  blq : Blk W q 79 ds
  bel : Below w0.heap.size w0 W
theorem BoxW.call {w0 W W' : World} {p q : Nat} {cs ds : List Value} (h : BoxW w0 p q cs ds W) (hb : Below W.heap.size W W') : BoxW w0 p q cs ds W' := ⟨h.blk.below hb h.blk.lt, h.blq.below hb h.blq.lt, h.bel.trans (hb.mono h.bel.size)⟩
theorem BoxW.all {w0 W : World} {p q : Nat} {c0 c1 c2 c3 d0 d1 d2 d3 : Value} (h : BoxW w0 p q [c0, c1, c2, c3] [d0, d1, d2, d3] W) :
    W.cell? ⟨p, 0, none⟩ = some c0 ∧ W.cell? ⟨p, 1, none⟩ = some c1 ∧ W.cell? ⟨p, 2, none⟩ = some c2 ∧ W.cell? ⟨p, 3, none⟩ = some c3 ∧ W.cell? ⟨q, 0, none⟩ = some d0 ∧ W.cell? ⟨q, 1, none⟩ = some d1 ∧ W.cell? ⟨q, 2, none⟩ = some d2 ∧ W.cell? ⟨q, 3, none⟩ = some d3 ∧ BoxW w0 p q [c0, c1, c2, c3] [d0, d1, d2, d3] W :=
  ⟨h.blk.cell 0, h.blk.cell 1, h.blk.cell 2, h.blk.cell 3, h.blq.cell 0, h.blq.cell 1, h.blq.cell 2, h.blq.cell 3, h⟩
set_option maxHeartbeats 4000000 in
theorem f12 (a b c d a' b' c' d' : Nat) (w : World) (ht : Pow w) :
    Calls Tryz.prog 12 #[.agg #[.int .u16 a, .int .u16 b, .int .u16 c, .int .u16 d], .agg #[.int .u16 a', .int .u16 b', .int .u16 c', .int .u16 d']] w fun e w' => e = .returned (.bool true) ∧ Below w.heap.size w w' := by
  have hl1 := ht.lt
  have HT := Lib.hid ht
  clear ht
  have H0 : Hid (Blk ((w.alloc (.cells #[.int .u16 a, .int .u16 b, .int .u16 c, .int .u16 d] 79)).alloc (.cells #[.int .u16 a', .int .u16 b', .int .u16 c', .int .u16 d'] 79)) w.heap.size 79 [.int .u16 a, .int .u16 b, .int .u16 c, .int .u16 d] ∧ Blk ((w.alloc (.cells #[.int .u16 a, .int .u16 b, .int .u16 c, .int .u16 d] 79)).alloc (.cells #[.int .u16 a', .int .u16 b', .int .u16 c', .int .u16 d'] 79)) (w.heap.size + 1) 79 [.int .u16 a', .int .u16 b', .int .u16 c', .int .u16 d'] ∧ Below w.heap.size w ((w.alloc (.cells #[.int .u16 a, .int .u16 b, .int .u16 c, .int .u16 d] 79)).alloc (.cells #[.int .u16 a', .int .u16 b', .int .u16 c', .int .u16 d'] 79))) :=
    ⟨(Blk.new w 79 [.int .u16 a, .int .u16 b, .int .u16 c, .int .u16 d]).alloc _, by
      have h := Blk.new (w.alloc (.cells #[.int .u16 a, .int .u16 b, .int .u16 c, .int .u16 d] 79)) 79 [.int .u16 a', .int .u16 b', .int .u16 c', .int .u16 d']
      simpa using h, ((Below.refl _ _).alloc (Nat.le_refl _) _).alloc (by simp) _⟩
  go_enter Tryz.func12, Tryz.ntmps12
  go_wp2
  go_loopw [16] (fun i wr => Hid (Blk wr w.heap.size 79 [.int .u16 a, .int .u16 b, .int .u16 c, .int .u16 d] ∧ Blk wr (w.heap.size + 1) 79 [.int .u16 a', .int .u16 b', .int .u16 c', .int .u16 d'] ∧ Below w.heap.size w wr) ∧ ((i = .int .i64 0 ∧ Hid (True)) ∨ (i = .int .i64 1 ∧ Hid (a ≤ 999 ∧ a' ≤ 999)) ∨ (i = .int .i64 2 ∧ Hid (a ≤ 999 ∧ a' ≤ 999 ∧ b ≤ 999 ∧ b' ≤ 999)) ∨ (i = .int .i64 3 ∧ Hid (a ≤ 999 ∧ a' ≤ 999 ∧ b ≤ 999 ∧ b' ≤ 999 ∧ c ≤ 999 ∧ c' ≤ 999)) ∨ (i = .int .i64 4 ∧ Hid (a ≤ 999 ∧ a' ≤ 999 ∧ b ≤ 999 ∧ b' ≤ 999 ∧ c ≤ 999 ∧ c' ≤ 999 ∧ d ≤ 999 ∧ d' ≤ 999)))) (fun i _ => 4 - (intOf i).toNat)
  case atStart => exact ⟨H0, .inl ⟨rfl, trivial⟩⟩
  case round =>
    obtain ⟨hB, hrel⟩ := hrel
    rcases hrel with ⟨rfl, HE⟩ | ⟨rfl, HE⟩ | ⟨rfl, HE⟩ | ⟨rfl, HE⟩ | ⟨rfl, HE⟩
    · have c0 := hB.out.1.cell 0
      have c1 := hB.out.2.1.cell 0
      simp only [List.getElem?_cons_zero, List.getElem?_cons_succ] at c0 c1
      by_cases hx : a ≤ 999
      · have hz : decide ((999 : Int) < (a : Int)) = false := by simp; omega
        have hz' : decide (999 < a) = false := by simp; omega
        by_cases hy : a' ≤ 999
        · have hq : decide ((999 : Int) < (a' : Int)) = false := by simp; omega
          have hq' : decide (999 < a') = false := by simp; omega
          have HX := Lib.hid hx
          have HY := Lib.hid hy
          clear hx hy
          go_wp2
          go_roundw
          case rel => exact ⟨hB, .inr (.inl ⟨rfl, ⟨HX.out, HY.out⟩⟩)⟩
          case measure => simp [intOf]
        · have hq : decide ((999 : Int) < (a' : Int)) = true := by simp; omega
          have hq' : decide (999 < a') = true := by simp; omega
          clear hx hy
          go_wp2_with (go_at_call 15; refine (f15 _).mono ?_; rintro e w3 ⟨rfl, hb3⟩)
          have HF := Lib.hid (hB.out.2.2.trans (hb3.mono hB.out.2.2.size))
          clear hb3
          go_wp2
          go_ret
          exact ⟨rfl, HF.out⟩
      · have hz : decide ((999 : Int) < (a : Int)) = true := by simp; omega
        have hz' : decide (999 < a) = true := by simp; omega
        clear hx
        go_wp2_with (go_at_call 15; refine (f15 _).mono ?_; rintro e w3 ⟨rfl, hb3⟩)
        have HF := Lib.hid (hB.out.2.2.trans (hb3.mono hB.out.2.2.size))
        clear hb3
        go_wp2
        go_ret
        exact ⟨rfl, HF.out⟩
    · have c0 := hB.out.1.cell 1
      have c1 := hB.out.2.1.cell 1
      simp only [List.getElem?_cons_zero, List.getElem?_cons_succ] at c0 c1
      by_cases hx : b ≤ 999
      · have hz : decide ((999 : Int) < (b : Int)) = false := by simp; omega
        have hz' : decide (999 < b) = false := by simp; omega
        by_cases hy : b' ≤ 999
        · have hq : decide ((999 : Int) < (b' : Int)) = false := by simp; omega
          have hq' : decide (999 < b') = false := by simp; omega
          have HX := Lib.hid hx
          have HY := Lib.hid hy
          clear hx hy
          go_wp2
          go_roundw
          case rel => exact ⟨hB, .inr (.inr (.inl ⟨rfl, ⟨HE.out.1, HE.out.2, HX.out, HY.out⟩⟩))⟩
          case measure => simp [intOf]
        · have hq : decide ((999 : Int) < (b' : Int)) = true := by simp; omega
          have hq' : decide (999 < b') = true := by simp; omega
          clear hx hy
          go_wp2_with (go_at_call 15; refine (f15 _).mono ?_; rintro e w3 ⟨rfl, hb3⟩)
          have HF := Lib.hid (hB.out.2.2.trans (hb3.mono hB.out.2.2.size))
          clear hb3
          go_wp2
          go_ret
          exact ⟨rfl, HF.out⟩
      · have hz : decide ((999 : Int) < (b : Int)) = true := by simp; omega
        have hz' : decide (999 < b) = true := by simp; omega
        clear hx
        go_wp2_with (go_at_call 15; refine (f15 _).mono ?_; rintro e w3 ⟨rfl, hb3⟩)
        have HF := Lib.hid (hB.out.2.2.trans (hb3.mono hB.out.2.2.size))
        clear hb3
        go_wp2
        go_ret
        exact ⟨rfl, HF.out⟩
    · have c0 := hB.out.1.cell 2
      have c1 := hB.out.2.1.cell 2
      simp only [List.getElem?_cons_zero, List.getElem?_cons_succ] at c0 c1
      by_cases hx : c ≤ 999
      · have hz : decide ((999 : Int) < (c : Int)) = false := by simp; omega
        have hz' : decide (999 < c) = false := by simp; omega
        by_cases hy : c' ≤ 999
        · have hq : decide ((999 : Int) < (c' : Int)) = false := by simp; omega
          have hq' : decide (999 < c') = false := by simp; omega
          have HX := Lib.hid hx
          have HY := Lib.hid hy
          clear hx hy
          go_wp2
          go_roundw
          case rel => exact ⟨hB, .inr (.inr (.inr (.inl ⟨rfl, ⟨HE.out.1, HE.out.2.1, HE.out.2.2.1, HE.out.2.2.2, HX.out, HY.out⟩⟩)))⟩
          case measure => simp [intOf]
        · have hq : decide ((999 : Int) < (c' : Int)) = true := by simp; omega
          have hq' : decide (999 < c') = true := by simp; omega
          clear hx hy
          go_wp2_with (go_at_call 15; refine (f15 _).mono ?_; rintro e w3 ⟨rfl, hb3⟩)
          have HF := Lib.hid (hB.out.2.2.trans (hb3.mono hB.out.2.2.size))
          clear hb3
          go_wp2
          go_ret
          exact ⟨rfl, HF.out⟩
      · have hz : decide ((999 : Int) < (c : Int)) = true := by simp; omega
        have hz' : decide (999 < c) = true := by simp; omega
        clear hx
        go_wp2_with (go_at_call 15; refine (f15 _).mono ?_; rintro e w3 ⟨rfl, hb3⟩)
        have HF := Lib.hid (hB.out.2.2.trans (hb3.mono hB.out.2.2.size))
        clear hb3
        go_wp2
        go_ret
        exact ⟨rfl, HF.out⟩
    · have c0 := hB.out.1.cell 3
      have c1 := hB.out.2.1.cell 3
      simp only [List.getElem?_cons_zero, List.getElem?_cons_succ] at c0 c1
      by_cases hx : d ≤ 999
      · have hz : decide ((999 : Int) < (d : Int)) = false := by simp; omega
        have hz' : decide (999 < d) = false := by simp; omega
        by_cases hy : d' ≤ 999
        · have hq : decide ((999 : Int) < (d' : Int)) = false := by simp; omega
          have hq' : decide (999 < d') = false := by simp; omega
          have HX := Lib.hid hx
          have HY := Lib.hid hy
          clear hx hy
          go_wp2
          go_roundw
          case rel => exact ⟨hB, .inr (.inr (.inr (.inr (⟨rfl, ⟨HE.out.1, HE.out.2.1, HE.out.2.2.1, HE.out.2.2.2.1, HE.out.2.2.2.2.1, HE.out.2.2.2.2.2, HX.out, HY.out⟩⟩))))⟩
          case measure => simp [intOf]
        · have hq : decide ((999 : Int) < (d' : Int)) = true := by simp; omega
          have hq' : decide (999 < d') = true := by simp; omega
          clear hx hy
          go_wp2_with (go_at_call 15; refine (f15 _).mono ?_; rintro e w3 ⟨rfl, hb3⟩)
          have HF := Lib.hid (hB.out.2.2.trans (hb3.mono hB.out.2.2.size))
          clear hb3
          go_wp2
          go_ret
          exact ⟨rfl, HF.out⟩
      · have hz : decide ((999 : Int) < (d : Int)) = true := by simp; omega
        have hz' : decide (999 < d) = true := by simp; omega
        clear hx
        go_wp2_with (go_at_call 15; refine (f15 _).mono ?_; rintro e w3 ⟨rfl, hb3⟩)
        have HF := Lib.hid (hB.out.2.2.trans (hb3.mono hB.out.2.2.size))
        clear hb3
        go_wp2
        go_ret
        exact ⟨rfl, HF.out⟩
    · obtain ⟨ha, ha', hb, hb', hc, hc', hd, hd'⟩ := HE.out
      have HL := Lib.hid HE.out
      have hbx : BoxW w w.heap.size (w.heap.size + 1) [.int .u16 a, .int .u16 b, .int .u16 c, .int .u16 d] [.int .u16 a', .int .u16 b', .int .u16 c', .int .u16 d'] wr.drew := ⟨hB.out.1.drew, hB.out.2.1.drew, hB.out.2.2.drew⟩
      have hHeld := hbx.all
      clear HE
      go_wp2_with fail
      go_region_held3 (fun W => W.cell? ⟨w.heap.size, 0, none⟩ = some (.int .u16 a) ∧ W.cell? ⟨w.heap.size, 1, none⟩ = some (.int .u16 b) ∧ W.cell? ⟨w.heap.size, 2, none⟩ = some (.int .u16 c) ∧ W.cell? ⟨w.heap.size, 3, none⟩ = some (.int .u16 d) ∧ W.cell? ⟨w.heap.size + 1, 0, none⟩ = some (.int .u16 a') ∧ W.cell? ⟨w.heap.size + 1, 1, none⟩ = some (.int .u16 b') ∧ W.cell? ⟨w.heap.size + 1, 2, none⟩ = some (.int .u16 c') ∧ W.cell? ⟨w.heap.size + 1, 3, none⟩ = some (.int .u16 d') ∧ BoxW w w.heap.size (w.heap.size + 1) [.int .u16 a, .int .u16 b, .int .u16 c, .int .u16 d] [.int .u16 a', .int .u16 b', .int .u16 c', .int .u16 d'] W)
        (first | with_reducible exact hbx.all | with_reducible exact hbx1.all | with_reducible exact hbx2.all)
        (first | (go_at_call_of 42 (Value.agg #[.int .u16 a, .int .u16 b, .int .u16 c, .int .u16 d]); refine (f42 a b c d _ ha hb hc hd).mono ?_; rintro e w1 ⟨rfl, hb1⟩; have hbx1 := BoxW.call hbx hb1) | (go_at_call_of 42 (Value.agg #[.int .u16 a', .int .u16 b', .int .u16 c', .int .u16 d']); refine (f42 a' b' c' d' _ ha' hb' hc' hd').mono ?_; rintro e w2 ⟨rfl, hb2⟩; have hbx2 := BoxW.call hbx1 hb2))
      have hv1 : VT (bs (dotted (vnums a b c d))) a b c d := ⟨ha, hb, hc, hd, rfl⟩
      have hv2 : VT (bs (dotted (vnums a' b' c' d'))) a' b' c' d' := ⟨ha', hb', hc', hd', rfl⟩
      generalize bs (dotted (vnums a b c d)) = s at hv1 ⊢
      generalize bs (dotted (vnums a' b' c' d')) = s' at hv2 ⊢
      have hpw := HT.out.below hbx2.bel hl1
      have HA := Lib.hid (And.intro hv1 (And.intro hv2 (And.intro hpw hbx2)))
      clear hb1 hb2 hbx hbx1 hbx2 hv1 hv2 hpw hB
      go_wp2_with fail
      refine (f43 s a b c d _ HA.out.1 HA.out.2.2.1).mono ?_
      rintro e w3 ⟨rfl, hb3⟩
      have hbx3 := HA.out.2.2.2.call hb3
      have HA3 := Lib.hid (And.intro HA.out.1 (And.intro HA.out.2.1 hbx3))
      clear hb3 HA hbx3
      go_wp2_with fail
      refine (f44 s s' a b c d a' b' c' d' _ HA3.out.1 HA3.out.2.1).mono ?_
      rintro e w4 ⟨rfl, hb4⟩
      generalize hG : lge a b c d a' b' c' d' = G
      have HG := Lib.hid hG
      have hbx4 := HA3.out.2.2.call hb4
      have HX := Lib.hid hbx4
      clear hb4 HA3 hbx4 hG ha ha' hb hb' hc hc' hd hd'
      go_wp2
      go_loopw [12, 46] (fun want i wr => Hid (BoxW w w.heap.size (w.heap.size + 1) [.int .u16 a, .int .u16 b, .int .u16 c, .int .u16 d] [.int .u16 a', .int .u16 b', .int .u16 c', .int .u16 d'] wr) ∧ want = .bool true ∧ ((i = .int .i64 0 ∧ Hid (True)) ∨ (i = .int .i64 1 ∧ Hid (a = a')) ∨ (i = .int .i64 2 ∧ Hid (a = a' ∧ b = b')) ∨ (i = .int .i64 3 ∧ Hid (a = a' ∧ b = b' ∧ c = c')) ∨ (i = .int .i64 4 ∧ Hid (a = a' ∧ b = b' ∧ c = c' ∧ vd a d = vd a' d')))) (fun _ i _ => 4 - (intOf i).toNat)
      case atStart => exact ⟨HX, rfl, .inl ⟨rfl, trivial⟩⟩
      case round =>
        obtain ⟨hB, rfl, hrel⟩ := hrel
        rcases hrel with ⟨rfl, HE⟩ | ⟨rfl, HE⟩ | ⟨rfl, HE⟩ | ⟨rfl, HE⟩ | ⟨rfl, HE⟩
        · have c0 := hB.out.blk.cell 0
          have c1 := hB.out.blq.cell 0
          simp only [List.getElem?_cons_zero, List.getElem?_cons_succ] at c0 c1
          by_cases hy : a = a'
          · have hz : ((a : Int) == (a' : Int)) = true := by simp; omega
            have hz' : (a == a') = true := by simpa using hy
            have HY := Lib.hid hy
            clear hy
            go_wp2
            go_quiet (fail)
            go_wp2
            go_roundw
            case rel => exact ⟨⟨hB.out.blk, hB.out.blq, ⟨hB.out.bel.os, hB.out.bel.tape, hB.out.bel.output, hB.out.bel.size, hB.out.bel.block⟩⟩, rfl, .inr (.inl ⟨rfl, HY⟩)⟩
            case measure => simp [intOf]
          have hz : ((a : Int) == (a' : Int)) = false := by simp; omega
          have hz' : (a == a') = false := by simpa using hy
          by_cases hgt : a' < a
          · have hq : decide ((a' : Int) < (a : Int)) = true := by simpa using hgt
            have hq' : decide (a' < a) = true := by simpa using hgt
            have hGv : G = true := by
              rw [← HG.out]
              unfold lge
              exact lex_gt hgt
            subst hGv
            clear hgt hy
            go_wp2
            go_quiet (fail)
            go_wp2_with (go_at_call 15; refine (f15 _).mono ?_; rintro e w5 ⟨rfl, hb5⟩)
            have HF := Lib.hid (hB.out.bel.trans ((show Below wr.heap.size wr w5 from ⟨hb5.os, hb5.tape, hb5.output, hb5.size, hb5.block⟩).mono hB.out.bel.size))
            clear hb5
            go_wp2
            go_ret
            exact ⟨rfl, HF.out⟩
          · have hq : decide ((a' : Int) < (a : Int)) = false := by simpa using hgt
            have hq' : decide (a' < a) = false := by simpa using hgt
            have hGv : G = false := by
              rw [← HG.out]
              unfold lge
              exact lex_lt (by omega)
            subst hGv
            clear hgt hy
            go_wp2
            go_quiet (fail)
            go_wp2_with (go_at_call 15; refine (f15 _).mono ?_; rintro e w5 ⟨rfl, hb5⟩)
            have HF := Lib.hid (hB.out.bel.trans ((show Below wr.heap.size wr w5 from ⟨hb5.os, hb5.tape, hb5.output, hb5.size, hb5.block⟩).mono hB.out.bel.size))
            clear hb5
            go_wp2
            go_ret
            exact ⟨rfl, HF.out⟩
        · have c0 := hB.out.blk.cell 1
          have c1 := hB.out.blq.cell 1
          simp only [List.getElem?_cons_zero, List.getElem?_cons_succ] at c0 c1
          by_cases hy : b = b'
          · have hz : ((b : Int) == (b' : Int)) = true := by simp; omega
            have hz' : (b == b') = true := by simpa using hy
            have HY := Lib.hid hy
            clear hy
            go_wp2
            go_quiet (fail)
            go_wp2
            go_roundw
            case rel => exact ⟨⟨hB.out.blk, hB.out.blq, ⟨hB.out.bel.os, hB.out.bel.tape, hB.out.bel.output, hB.out.bel.size, hB.out.bel.block⟩⟩, rfl, .inr (.inr (.inl ⟨rfl, ⟨HE.out, HY.out⟩⟩))⟩
            case measure => simp [intOf]
          have hz : ((b : Int) == (b' : Int)) = false := by simp; omega
          have hz' : (b == b') = false := by simpa using hy
          by_cases hgt : b' < b
          · have hq : decide ((b' : Int) < (b : Int)) = true := by simpa using hgt
            have hq' : decide (b' < b) = true := by simpa using hgt
            have hGv : G = true := by
              rw [← HG.out]
              unfold lge
              obtain rfl := HE.out
              rw [lex_eq]; exact lex_gt hgt
            subst hGv
            clear hgt hy
            go_wp2
            go_quiet (fail)
            go_wp2_with (go_at_call 15; refine (f15 _).mono ?_; rintro e w5 ⟨rfl, hb5⟩)
            have HF := Lib.hid (hB.out.bel.trans ((show Below wr.heap.size wr w5 from ⟨hb5.os, hb5.tape, hb5.output, hb5.size, hb5.block⟩).mono hB.out.bel.size))
            clear hb5
            go_wp2
            go_ret
            exact ⟨rfl, HF.out⟩
          · have hq : decide ((b' : Int) < (b : Int)) = false := by simpa using hgt
            have hq' : decide (b' < b) = false := by simpa using hgt
            have hGv : G = false := by
              rw [← HG.out]
              unfold lge
              obtain rfl := HE.out
              rw [lex_eq]; exact lex_lt (by omega)
            subst hGv
            clear hgt hy
            go_wp2
            go_quiet (fail)
            go_wp2_with (go_at_call 15; refine (f15 _).mono ?_; rintro e w5 ⟨rfl, hb5⟩)
            have HF := Lib.hid (hB.out.bel.trans ((show Below wr.heap.size wr w5 from ⟨hb5.os, hb5.tape, hb5.output, hb5.size, hb5.block⟩).mono hB.out.bel.size))
            clear hb5
            go_wp2
            go_ret
            exact ⟨rfl, HF.out⟩
        · have c0 := hB.out.blk.cell 2
          have c1 := hB.out.blq.cell 2
          simp only [List.getElem?_cons_zero, List.getElem?_cons_succ] at c0 c1
          by_cases hy : c = c'
          · have hz : ((c : Int) == (c' : Int)) = true := by simp; omega
            have hz' : (c == c') = true := by simpa using hy
            have HY := Lib.hid hy
            clear hy
            go_wp2
            go_quiet (fail)
            go_wp2
            go_roundw
            case rel => exact ⟨⟨hB.out.blk, hB.out.blq, ⟨hB.out.bel.os, hB.out.bel.tape, hB.out.bel.output, hB.out.bel.size, hB.out.bel.block⟩⟩, rfl, .inr (.inr (.inr (.inl ⟨rfl, ⟨HE.out.1, HE.out.2, HY.out⟩⟩)))⟩
            case measure => simp [intOf]
          have hz : ((c : Int) == (c' : Int)) = false := by simp; omega
          have hz' : (c == c') = false := by simpa using hy
          by_cases hgt : c' < c
          · have hq : decide ((c' : Int) < (c : Int)) = true := by simpa using hgt
            have hq' : decide (c' < c) = true := by simpa using hgt
            have hGv : G = true := by
              rw [← HG.out]
              unfold lge
              obtain ⟨rfl, rfl⟩ := HE.out
              rw [lex_eq, lex_eq]; exact lex_gt hgt
            subst hGv
            clear hgt hy
            go_wp2
            go_quiet (fail)
            go_wp2_with (go_at_call 15; refine (f15 _).mono ?_; rintro e w5 ⟨rfl, hb5⟩)
            have HF := Lib.hid (hB.out.bel.trans ((show Below wr.heap.size wr w5 from ⟨hb5.os, hb5.tape, hb5.output, hb5.size, hb5.block⟩).mono hB.out.bel.size))
            clear hb5
            go_wp2
            go_ret
            exact ⟨rfl, HF.out⟩
          · have hq : decide ((c' : Int) < (c : Int)) = false := by simpa using hgt
            have hq' : decide (c' < c) = false := by simpa using hgt
            have hGv : G = false := by
              rw [← HG.out]
              unfold lge
              obtain ⟨rfl, rfl⟩ := HE.out
              rw [lex_eq, lex_eq]; exact lex_lt (by omega)
            subst hGv
            clear hgt hy
            go_wp2
            go_quiet (fail)
            go_wp2_with (go_at_call 15; refine (f15 _).mono ?_; rintro e w5 ⟨rfl, hb5⟩)
            have HF := Lib.hid (hB.out.bel.trans ((show Below wr.heap.size wr w5 from ⟨hb5.os, hb5.tape, hb5.output, hb5.size, hb5.block⟩).mono hB.out.bel.size))
            clear hb5
            go_wp2
            go_ret
            exact ⟨rfl, HF.out⟩
        · have c0 := hB.out.blk.cell 3
          have c1 := hB.out.blq.cell 3
          have ca := hB.out.blk.cell 0
          have cb := hB.out.blq.cell 0
          simp only [List.getElem?_cons_zero, List.getElem?_cons_succ] at c0 c1 ca cb
          have haa : a = a' := HE.out.1
          by_cases h0 : 0 < a
          · have hz_a : decide ((0 : Int) < (a : Int)) = true := by simp; omega
            have hy_a : decide (0 < a) = true := by simp; omega
            have hz_aq : decide ((0 : Int) < (a' : Int)) = true := by simp; omega
            have hy_aq : decide (0 < a') = true := by simp; omega
            have HV : Hid (vd a d = vd a' d') := (by unfold vd; rw [if_pos h0, if_pos (by omega)] : vd a d = vd a' d')
            clear haa h0
            go_wp2
            go_quiet (fail)
            go_wp2
            go_roundw
            case rel => exact ⟨⟨hB.out.blk, hB.out.blq, ⟨hB.out.bel.os, hB.out.bel.tape, hB.out.bel.output, hB.out.bel.size, hB.out.bel.block⟩⟩, rfl, .inr (.inr (.inr (.inr ⟨rfl, HE.out.1, HE.out.2.1, HE.out.2.2, HV.out⟩)))⟩
            case measure => simp [intOf]
          have HVd : Hid (vd a d = d ∧ vd a' d' = d') := (⟨by unfold vd; rw [if_neg h0], by unfold vd; rw [if_neg (by omega)]⟩ : vd a d = d ∧ vd a' d' = d')
          have hz_a : decide ((0 : Int) < (a : Int)) = false := by simp; omega
          have hy_a : decide (0 < a) = false := by simp; omega
          have hz_aq : decide ((0 : Int) < (a' : Int)) = false := by simp; omega
          have hy_aq : decide (0 < a') = false := by simp; omega
          clear haa h0
          by_cases hy : d = d'
          · have hz : ((d : Int) == (d' : Int)) = true := by simp; omega
            have hz' : (d == d') = true := by simpa using hy
            have HY := Lib.hid hy
            clear hy
            go_wp2
            go_quiet (fail)
            go_wp2
            go_roundw
            case rel => exact ⟨⟨hB.out.blk, hB.out.blq, ⟨hB.out.bel.os, hB.out.bel.tape, hB.out.bel.output, hB.out.bel.size, hB.out.bel.block⟩⟩, rfl, .inr (.inr (.inr (.inr ⟨rfl, HE.out.1, HE.out.2.1, HE.out.2.2, by rw [HVd.out.1, HVd.out.2]; exact HY.out⟩)))⟩
            case measure => simp [intOf]
          have hz : ((d : Int) == (d' : Int)) = false := by simp; omega
          have hz' : (d == d') = false := by simpa using hy
          by_cases hgt : d' < d
          · have hq : decide ((d' : Int) < (d : Int)) = true := by simpa using hgt
            have hq' : decide (d' < d) = true := by simpa using hgt
            have hGv : G = true := by
              rw [← HG.out]
              unfold lge
              rw [HVd.out.1, HVd.out.2, HE.out.1, HE.out.2.1, HE.out.2.2, lex_eq, lex_eq, lex_eq]
              exact lex_gt hgt
            subst hGv
            clear hgt hy
            go_wp2
            go_quiet (fail)
            go_wp2_with (go_at_call 15; refine (f15 _).mono ?_; rintro e w5 ⟨rfl, hb5⟩)
            have HF := Lib.hid (hB.out.bel.trans ((show Below wr.heap.size wr w5 from ⟨hb5.os, hb5.tape, hb5.output, hb5.size, hb5.block⟩).mono hB.out.bel.size))
            clear hb5
            go_wp2
            go_ret
            exact ⟨rfl, HF.out⟩
          · have hq : decide ((d' : Int) < (d : Int)) = false := by simpa using hgt
            have hq' : decide (d' < d) = false := by simpa using hgt
            have hGv : G = false := by
              rw [← HG.out]
              unfold lge
              rw [HVd.out.1, HVd.out.2, HE.out.1, HE.out.2.1, HE.out.2.2, lex_eq, lex_eq, lex_eq]
              exact lex_lt (by omega)
            subst hGv
            clear hgt hy
            go_wp2
            go_quiet (fail)
            go_wp2_with (go_at_call 15; refine (f15 _).mono ?_; rintro e w5 ⟨rfl, hb5⟩)
            have HF := Lib.hid (hB.out.bel.trans ((show Below wr.heap.size wr w5 from ⟨hb5.os, hb5.tape, hb5.output, hb5.size, hb5.block⟩).mono hB.out.bel.size))
            clear hb5
            go_wp2
            go_ret
            exact ⟨rfl, HF.out⟩
        · have hGv : G = true := by
            rw [← HG.out]
            unfold lge
            obtain ⟨e1, e2, e3, e4⟩ := HE.out
            rw [e4]
            subst e1 e2 e3
            rw [lex_eq, lex_eq, lex_eq, lex_eq]
            rfl
          subst hGv
          go_wp2_with (go_at_call 15; refine (f15 _).mono ?_; rintro e w5 ⟨rfl, hb5⟩)
          have HF := Lib.hid (hB.out.bel.trans (hb5.mono hB.out.bel.size))
          clear hb5
          go_wp2
          go_ret
          exact ⟨rfl, HF.out⟩
end Go.Proofs.YtmiflkccfieefaaGreatDoor
