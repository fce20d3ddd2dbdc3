/-
  A row of records: laws.zzFits13, spec.timeRight, spec.BatchRight.
-/
import Derived.Test.YtmiflkccfieefaaGreatDoorFit
namespace Go.Proofs.YtmiflkccfieefaaGreatDoor
open Go.ChangeShapes Go.WideShapes Go.ChangeAt Go.RowKit
set_option maxRecDepth 100000
set_option linter.unusedVariables false
set_option linter.unusedSimpArgs false

/-- Record i of the row at a. -/
def RElem (w : World) (D : Nat) (a : Addr) (i : Nat) (x : RecV) : Prop :=
  ∃ kd vd hv, w.cell? (a.add (i * 8)) = some (.int .i8 x.attr) ∧ w.cell? ⟨(a.add (i * 8)).block, (a.add (i * 8)).off + 1, none⟩ = some (.int .i64 x.tm) ∧ w.cell? ⟨(a.add (i * 8)).block, (a.add (i * 8)).off + 2, none⟩ = some (.int .i64 x.od) ∧ w.cell? ⟨(a.add (i * 8)).block, (a.add (i * 8)).off + 3, none⟩ = some (.bool x.key.1) ∧ w.cell? ⟨(a.add (i * 8)).block, (a.add (i * 8)).off + 4, none⟩ = some kd ∧ w.cell? ⟨(a.add (i * 8)).block, (a.add (i * 8)).off + 5, none⟩ = some (.bool x.val.1) ∧ w.cell? ⟨(a.add (i * 8)).block, (a.add (i * 8)).off + 6, none⟩ = some vd ∧ w.cell? ⟨(a.add (i * 8)).block, (a.add (i * 8)).off + 7, none⟩ = some hv ∧ DataAt w D kd x.key.2 ∧ DataAt w D vd x.val.2 ∧ HIn w D hv x.hs
def RsIn (w : World) (D : Nat) (v : Value) (rs : List RecV) : Prop :=
  ∃ A c, v = .slice A rs.length c ∧ (rs ≠ [] → ∃ a : Addr, A = some a ∧ a.block < D ∧ ∀ i (h : i < rs.length), RElem w D a i rs[i])
theorem RElem.below {w w' : World} {D C : Nat} {a : Addr} {i : Nat} {x : RecV} (h : RElem w D a i x) (ha : a.block < D) (hb : Below C w w') (hC : D ≤ C) : RElem w' D a i x := by
  obtain ⟨kd, vd, hv, h0, h1, h2, h3, h4, h5, h6, h7, h8, h9, h10⟩ := h
  have e : ∀ j, w'.cell? ⟨(a.add (i * 8)).block, j, none⟩ = w.cell? ⟨(a.add (i * 8)).block, j, none⟩ := fun j => cell_below hb _ (by show (a.add (i * 8)).block < C; rw [add_block]; omega)
  exact ⟨kd, vd, hv, (cell_below hb _ (by rw [add_block]; omega)).trans h0, (e _).trans h1, (e _).trans h2, (e _).trans h3, (e _).trans h4, (e _).trans h5, (e _).trans h6, (e _).trans h7, h8.below hb hC, h9.below hb hC, h10.below hb hC⟩
theorem RIn.below0 {w w' : World} {D C : Nat} {v : Value} {x : RecV} (h : RIn w D v x) (hb : Below C w w') (hC : D ≤ C) : RIn w' D v x := by
  obtain ⟨kd, vd, hv, rfl, h1, h2, h3⟩ := h
  exact ⟨kd, vd, hv, rfl, h1.below hb hC, h2.below hb hC, h3.below hb hC⟩
theorem RsIn.below {w w' : World} {D C : Nat} {v : Value} {rs : List RecV} (h : RsIn w D v rs) (hb : Below C w w') (hC : D ≤ C) : RsIn w' D v rs := by
  obtain ⟨A, c, rfl, h1⟩ := h
  refine ⟨A, c, rfl, fun hne => ?_⟩
  obtain ⟨a, hA, haD, hi⟩ := h1 hne
  exact ⟨a, hA, haD, fun i h => (hi i h).below haD hb hC⟩
def RsBig (rs : List RecV) : Prop := rs.length ≤ 9223372036854775807 ∧ ∀ x ∈ rs, RBig x
set_option maxHeartbeats 2000000 in
theorem f55 (D : Nat) (v : Value) (rs : List RecV) (w : World) (h : RsIn w D v rs) (hD : D ≤ w.heap.size) (hbig : RsBig rs) : Calls Tryz.prog 55 #[v] w (SomeB w) := by
  have H := Lib.hid h
  obtain ⟨A, c, rfl, _⟩ := h
  obtain ⟨hl, hx⟩ := hbig
  have HX := Lib.hid hx
  clear hx
  by_cases hn : rs.length ≤ 2147483647
  · go_enter Tryz.func55, Tryz.ntmps55
    go_wp2
    go_loopw [10] (fun i wr => ∃ k : Nat, k ≤ rs.length ∧ i = .int .i64 k ∧ Below w.heap.size w wr) (fun i _ => rs.length - (intOf i).toNat)
    case atStart => exact ⟨0, by omega, rfl, Below.refl _ _⟩
    case round =>
      obtain ⟨k, hk, rfl, hb⟩ := hrel
      by_cases hlt : k < rs.length
      · obtain ⟨A', c', hAe, hh⟩ := H.out.below hb hD
        injection hAe with hA1 hA2 hA3
        subst hA1
        obtain ⟨a, rfl, haD, hall⟩ := hh (by intro e; rw [e] at hlt; simp at hlt)
        have hel := hall k hlt
        have hbk := HX.out rs[k] (by simp)
        generalize hxk : rs[k] = x at hel hbk
        clear hxk
        obtain ⟨kd, vd, hv, g0, g1, g2, g3, g4, g5, g6, g7, hkd, hvd, hhv⟩ := hel
        obtain ⟨kA, kc, rfl⟩ := hkd.sl
        obtain ⟨vA, vc, rfl⟩ := hvd.sl
        obtain ⟨hA, hc, rfl, _⟩ := id hhv
        have hri : RIn wr D (.agg #[.int .i8 x.attr, .int .i64 x.tm, .int .i64 x.od, .bool x.key.1, .slice kA x.key.2.length kc, .bool x.val.1, .slice vA x.val.2.length vc, .slice hA x.hs.length hc]) x := ⟨_, _, _, rfl, hkd, hvd, hhv⟩
        have HR := Lib.hid (And.intro hri hb)
        clear hall hh hkd hvd hhv hri hA2 hA3
        have hbw : Below wr.heap.size wr (wr.alloc (.cells #[.int .i8 x.attr, .int .i64 x.tm, .int .i64 x.od, .bool x.key.1, .slice kA x.key.2.length kc, .bool x.val.1, .slice vA x.val.2.length vc, .slice hA x.hs.length hc] 28)) := (Below.refl _ _).alloc (Nat.le_refl _) _
        have HW := Lib.hid hbw
        clear hbw
        have hsz := hb.size
        clear hb
        go_wp2_with fail
        refine (f13 D x _ _ (by exact HR.out.1.below0 HW.out (by omega)) (by simp; omega) hbk).mono ?_
        rintro e w1 ⟨b, rfl, hb1⟩
        have HN := Lib.hid ((HR.out.2.trans (HW.out.mono hsz)).trans (hb1.mono (by simp; omega)))
        clear hb1
        cases b
        · go_wp2
          go_ret
          exact ⟨_, rfl, HN.out⟩
        · go_wp2
          go_roundw
          case rel =>
            first
              | exact ⟨k + 1, by omega, by go_num, HN.out⟩
              | ((repeat apply Exists.intro); exact ⟨⟨k + 1, by omega, by go_num, HN.out⟩, rfl⟩)
          case measure => simp [intOf]; omega
      · obtain rfl : k = rs.length := by omega
        go_wp2
        go_ret
        exact ⟨_, rfl, hb⟩
  · go_enter Tryz.func55, Tryz.ntmps55
    go_wp2
    go_ret
    exact ⟨_, rfl, Below.refl _ _⟩
end Go.Proofs.YtmiflkccfieefaaGreatDoor
