/-
  A batch: laws.zzFits12, spec.timeRight, spec.BatchRight.
-/
import Derived.Test.YtmiflkccfieefaaGreatDoorBat
namespace Go.Proofs.YtmiflkccfieefaaGreatDoor
open Go.ChangeShapes Go.WideShapes Go.ChangeAt Go.RowKit
set_option maxRecDepth 100000
set_option linter.unusedVariables false
set_option linter.unusedSimpArgs false

structure BatV where
  fo : Int
  le : Int
  lo : Int
  la : Bool
  tx : Bool
  ct : Bool
  ft : Int
  mt : Int
  pid : Int
  pe : Int
  fs : Int
  rs : List RecV
  part : Bool
/-- The batch's cells. -/
def BatV.cells (y : BatV) (rv : Value) : List Value := [.int .i64 y.fo, .int .i32 y.le, .int .i32 y.lo, .bool y.la, .bool y.tx, .bool y.ct, .int .i64 y.ft, .int .i64 y.mt, .int .i64 y.pid, .int .i16 y.pe, .int .i32 y.fs, rv, .bool y.part]
def BIn (w : World) (D : Nat) (v : Value) (y : BatV) : Prop := ∃ rv, v = .agg #[.int .i64 y.fo, .int .i32 y.le, .int .i32 y.lo, .bool y.la, .bool y.tx, .bool y.ct, .int .i64 y.ft, .int .i64 y.mt, .int .i64 y.pid, .int .i16 y.pe, .int .i32 y.fs, rv, .bool y.part] ∧ RsIn w D rv y.rs
theorem f20 (D : Nat) (v : Value) (y : BatV) (w : World) (h : BIn w D v y) (hD : D ≤ w.heap.size) (hbig : RsBig y.rs) : Calls Tryz.prog 20 #[v] w (SomeB w) := by
  obtain ⟨rv, rfl, hr⟩ := h
  have H := Lib.hid hr
  obtain ⟨A, c, rfl, _⟩ := hr
  have hb0 : Below w.heap.size w (w.alloc (.cells #[.int .i64 y.fo, .int .i32 y.le, .int .i32 y.lo, .bool y.la, .bool y.tx, .bool y.ct, .int .i64 y.ft, .int .i64 y.mt, .int .i64 y.pid, .int .i16 y.pe, .int .i32 y.fs, .slice A y.rs.length c, .bool y.part] 41)) := (Below.refl _ _).alloc (Nat.le_refl _) _
  have HB := Lib.hid hb0
  have HG := Lib.hid hbig
  clear hb0 hbig
  go_enter Tryz.func20, Tryz.ntmps20
  go_wp2_with fail
  refine (f55 D _ y.rs _ (H.out.below HB.out hD) (by simp; omega) HG.out).mono ?_
  rintro e w1 ⟨b, rfl, hb1⟩
  have HF := Lib.hid (HB.out.trans (hb1.mono (by simp)))
  clear hb1
  cases b
  all_goals
    go_wp2
    go_ret
    exact ⟨_, rfl, HF.out⟩
theorem f56 (t : Int) (w : World) : Calls Tryz.prog 56 #[.int .i64 t] w fun e w' => e = .returned (.bool (decide (-1 ≤ t) && decide (t < 8796093022208))) ∧ w' = w := by
  by_cases h1 : -1 ≤ t
  · go_enter Tryz.func56, Tryz.ntmps56
    go_wp2
    go_ret
    exact ⟨by simp [h1], rfl⟩
  · go_enter Tryz.func56, Tryz.ntmps56
    go_wp2
    go_ret
    exact ⟨by simp; omega, rfl⟩
def TRight (t : Int) : Prop := -1 ≤ t ∧ t < 8796093022208
def BRight (y : BatV) : Prop := y.rs.length ≤ 12 ∧ TRight y.ft ∧ TRight y.mt ∧ y.part = false ∧ ∀ r ∈ y.rs, RRight r
set_option maxHeartbeats 2000000 in
theorem f21 (D : Nat) (v : Value) (y : BatV) (w : World) (h : BIn w D v y) (hD : D ≤ w.heap.size) (hbig : RsBig y.rs) : Calls Tryz.prog 21 #[v] w (TellB (BRight y) w) := by
  obtain ⟨rv, rfl, hr⟩ := h
  have H := Lib.hid hr
  obtain ⟨A, c, rfl, _⟩ := hr
  have hb0 : Below w.heap.size w (w.alloc (.cells #[.int .i64 y.fo, .int .i32 y.le, .int .i32 y.lo, .bool y.la, .bool y.tx, .bool y.ct, .int .i64 y.ft, .int .i64 y.mt, .int .i64 y.pid, .int .i16 y.pe, .int .i32 y.fs, .slice A y.rs.length c, .bool y.part] 41)) := (Below.refl _ _).alloc (Nat.le_refl _) _
  have HB := Lib.hid hb0
  obtain ⟨hl, hx⟩ := hbig
  have HX := Lib.hid hx
  clear hb0 hx
  by_cases hn : 12 < y.rs.length
  · go_enter Tryz.func21, Tryz.ntmps21
    go_wp2
    go_ret
    exact ⟨_, rfl, nofun, HB.out⟩
  by_cases hft : TRight y.ft
  case neg =>
    have hd : (decide (-1 ≤ y.ft) && decide (y.ft < 8796093022208)) = false := by
      unfold TRight at hft
      simp
      omega
    go_enter Tryz.func21, Tryz.ntmps21
    go_wp2_with (go_at_call 56; refine (f56 _ _).mono ?_; rintro e w1 ⟨rfl, rfl⟩; rw [hd])
    go_ret
    exact ⟨_, rfl, nofun, HB.out⟩
  have hd : (decide (-1 ≤ y.ft) && decide (y.ft < 8796093022208)) = true := by
    unfold TRight at hft
    simp
    omega
  by_cases hmt : TRight y.mt
  case neg =>
    have hd2 : (decide (-1 ≤ y.mt) && decide (y.mt < 8796093022208)) = false := by
      unfold TRight at hmt
      simp
      omega
    go_enter Tryz.func21, Tryz.ntmps21
    go_wp2_with (first | (go_at_call_of 56 (Value.int .i64 y.ft); refine (f56 _ _).mono ?_; rintro e w1 ⟨rfl, rfl⟩; rw [hd]) | (go_at_call_of 56 (Value.int .i64 y.mt); refine (f56 _ _).mono ?_; rintro e w1 ⟨rfl, rfl⟩; rw [hd2]))
    go_ret
    exact ⟨_, rfl, nofun, HB.out⟩
  have hd2 : (decide (-1 ≤ y.mt) && decide (y.mt < 8796093022208)) = true := by
    unfold TRight at hmt
    simp
    omega
  cases hpt : y.part
  case true =>
    go_enter Tryz.func21, Tryz.ntmps21
    go_wp2_with (first | (go_at_call_of 56 (Value.int .i64 y.ft); refine (f56 _ _).mono ?_; rintro e w1 ⟨rfl, rfl⟩; rw [hd]) | (go_at_call_of 56 (Value.int .i64 y.mt); refine (f56 _ _).mono ?_; rintro e w1 ⟨rfl, rfl⟩; rw [hd2]))
    go_ret
    rw [hpt] at HB
    exact ⟨_, rfl, nofun, HB.out⟩
  rw [hpt] at HB
  go_enter Tryz.func21, Tryz.ntmps21
  go_wp2_with (first | (go_at_call_of 56 (Value.int .i64 y.ft); refine (f56 _ _).mono ?_; rintro e w1 ⟨rfl, rfl⟩; rw [hd]) | (go_at_call_of 56 (Value.int .i64 y.mt); refine (f56 _ _).mono ?_; rintro e w1 ⟨rfl, rfl⟩; rw [hd2]))
  go_loopw [28] (fun i wr => ∃ k : Nat, k ≤ y.rs.length ∧ i = .int .i64 k ∧ Below w.heap.size w wr ∧ ∀ j (h : j < k) (h' : j < y.rs.length), RRight y.rs[j]) (fun i _ => y.rs.length - (intOf i).toNat)
  case atStart => exact ⟨0, by omega, rfl, HB.out, fun j h => by omega⟩
  case round =>
    obtain ⟨k, hk, rfl, hb, hdone⟩ := hrel
    have HDN := Lib.hid hdone
    clear hdone
    by_cases hlt : k < y.rs.length
    · obtain ⟨A', c', hAe, hh⟩ := H.out.below hb hD
      injection hAe with hA1 hA2 hA3
      subst hA1
      obtain ⟨a, rfl, haD, hall⟩ := hh (by intro e; rw [e] at hlt; simp at hlt)
      have hel := hall k hlt
      have hbk := HX.out y.rs[k] (by simp)
      generalize hxk : y.rs[k] = x at hel hbk
      have HXK := Lib.hid hxk
      clear hxk
      obtain ⟨kd, vd, hv, g0, g1, g2, g3, g4, g5, g6, g7, hkd, hvd, hhv⟩ := hel
      obtain ⟨kA, kc, rfl⟩ := hkd.sl
      obtain ⟨vA, vc, rfl⟩ := hvd.sl
      obtain ⟨hA, hc, rfl, _⟩ := id hhv
      have hri : RIn wr D (.agg #[.int .i8 x.attr, .int .i64 x.tm, .int .i64 x.od, .bool x.key.1, .slice kA x.key.2.length kc, .bool x.val.1, .slice vA x.val.2.length vc, .slice hA x.hs.length hc]) x := ⟨_, _, _, rfl, hkd, hvd, hhv⟩
      have HR := Lib.hid (And.intro hri hb)
      clear hall hh hkd hvd hhv hri hA2 hA3
      have hbw : Below wr.heap.size wr (wr.alloc (.cells #[.int .i8 x.attr, .int .i64 x.tm, .int .i64 x.od, .bool x.key.1, .slice kA x.key.2.length kc, .bool x.val.1, .slice vA x.val.2.length vc, .slice hA x.hs.length hc] 28)) := (Below.refl _ _).alloc (Nat.le_refl _) _
      have HW := Lib.hid hbw
      clear hbw
      have hsz := hb.size
      clear hb
      go_wp2_with fail
      refine (f14 D x _ _ (by exact HR.out.1.below0 HW.out (by omega)) (by simp; omega) hbk).mono ?_
      rintro e w1 ⟨b, rfl, hbr, hb1⟩
      have HN := Lib.hid (And.intro ((HR.out.2.trans (HW.out.mono hsz)).trans (hb1.mono (by simp; omega))) hbr)
      clear hb1 hbr
      cases b
      · go_wp2
        go_ret
        exact ⟨_, rfl, nofun, HN.out.1⟩
      · have HD2 : ∀ j (h : j < k + 1) (h' : j < y.rs.length), RRight y.rs[j] := fun j h h' => by
          by_cases hj : j < k
          · exact HDN.out j hj h'
          · obtain rfl : j = k := by omega
            rw [HXK.out]
            exact HN.out.2 rfl
        have HD3 := Lib.hid HD2
        clear HD2
        go_wp2
        go_roundw
        case rel =>
          first
            | exact ⟨k + 1, by omega, by go_num, HN.out.1, HD3.out⟩
            | ((repeat apply Exists.intro); exact ⟨⟨k + 1, by omega, by go_num, HN.out.1, HD3.out⟩, rfl⟩)
        case measure => simp [intOf]; omega
    · obtain rfl : k = y.rs.length := by omega
      have hrr : BRight y := ⟨by omega, hft, hmt, hpt, fun r hr => by
        obtain ⟨j, hj, rfl⟩ := List.mem_iff_getElem.1 hr
        exact HDN.out j hj hj⟩
      have HRR := Lib.hid hrr
      clear hrr
      go_wp2
      go_ret
      exact ⟨_, rfl, fun _ => HRR.out, hb⟩
end Go.Proofs.YtmiflkccfieefaaGreatDoor
