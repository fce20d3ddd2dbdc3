/-
  Which records the law speaks of: laws.zzFits8, spec.RecordRight.
-/
import Derived.Test.YtmiflkccfieefaaGreatDoorRin
namespace Go.Proofs.YtmiflkccfieefaaGreatDoor
open Go.ChangeShapes Go.WideShapes Go.ChangeAt Go.RowKit
set_option maxRecDepth 100000
set_option linter.unusedVariables false
set_option linter.unusedSimpArgs false

/-- Some answer, and nothing that was there has turned. -/
def SomeB (w : World) (e : Ending) (w' : World) : Prop := ∃ b, e = .returned (.bool b) ∧ Below w.heap.size w w'
theorem f45 (b : Bool) (A : Option Addr) (n c : Nat) (w : World) (hn : n ≤ 9223372036854775807) : Calls Tryz.prog 45 #[.agg #[.bool b, .slice A n c]] w (SomeB w) := by
  have hb0 : Below w.heap.size w (w.alloc (.cells #[.bool b, .slice A n c] 25)) := (Below.refl _ _).alloc (Nat.le_refl _) _
  by_cases h : n ≤ 2147483647
  · go_enter Tryz.func45, Tryz.ntmps45
    go_wp2
    go_ret
    exact ⟨_, rfl, hb0⟩
  · go_enter Tryz.func45, Tryz.ntmps45
    go_wp2
    go_ret
    exact ⟨_, rfl, hb0⟩
theorem f79 (b1 b2 : Bool) (A1 A2 : Option Addr) (n1 c1 n2 c2 : Nat) (w : World) (h1 : n1 ≤ 9223372036854775807) (h2 : n2 ≤ 9223372036854775807) : Calls Tryz.prog 79 #[.agg #[.bool b1, .slice A1 n1 c1, .bool b2, .slice A2 n2 c2]] w (SomeB w) := by
  have hb0 : Below w.heap.size w (w.alloc (.cells #[.bool b1, .slice A1 n1 c1, .bool b2, .slice A2 n2 c2] 90)) := (Below.refl _ _).alloc (Nat.le_refl _) _
  have hp0 := Blk.new w 90 [.bool b1, .slice A1 n1 c1, .bool b2, .slice A2 n2 c2]
  have HH := Lib.hid (And.intro hb0 hp0)
  clear hb0 hp0
  go_enter Tryz.func79, Tryz.ntmps79
  go_wp2_with fail
  refine (f45 b1 A1 n1 c1 _ h1).mono ?_
  rintro e w1 ⟨b, rfl, hb1⟩
  have hp1 := HH.out.2.below hb1 (by simp)
  have c2' := hp1.cell 2
  have c3' := hp1.cell 3
  simp only [List.getElem?_cons_zero, List.getElem?_cons_succ] at c2' c3'
  have hB1 := HH.out.1.trans (hb1.mono (by simp))
  have H1 := Lib.hid hB1
  clear hp1 hb1 hB1
  cases b
  · go_wp2_with fail
    try go_wp2
    go_ret
    exact ⟨_, rfl, H1.out⟩
  · go_wp2_with fail
    refine (f45 b2 A2 n2 c2 _ h2).mono ?_
    rintro e w2 ⟨b, rfl, hb2⟩
    have HF := Lib.hid (H1.out.trans (hb2.mono H1.out.size))
    clear hb2
    cases b
    all_goals
      go_wp2
      go_ret
      exact ⟨_, rfl, HF.out⟩
/-- No slice is longer than the language lets. -/
def HBig (hs : List (BP × BP)) : Prop := hs.length ≤ 9223372036854775807 ∧ ∀ x ∈ hs, x.1.2.length ≤ 9223372036854775807 ∧ x.2.2.length ≤ 9223372036854775807
theorem f46 (D : Nat) (v : Value) (hs : List (BP × BP)) (w : World) (h : HIn w D v hs) (hD : D ≤ w.heap.size) (hbig : HBig hs) : Calls Tryz.prog 46 #[v] w (SomeB w) := by
  have H := Lib.hid h
  obtain ⟨A, c, rfl, _⟩ := h
  obtain ⟨hl, hx⟩ := hbig
  have HX := Lib.hid hx
  clear hx
  by_cases hn : hs.length ≤ 2147483647
  · go_enter Tryz.func46, Tryz.ntmps46
    go_wp2
    go_loopw [10] (fun i wr => ∃ k : Nat, k ≤ hs.length ∧ i = .int .i64 k ∧ Below w.heap.size w wr) (fun i _ => hs.length - (intOf i).toNat)
    case atStart => exact ⟨0, by omega, rfl, Below.refl _ _⟩
    case round =>
      obtain ⟨k, hk, rfl, hb⟩ := hrel
      by_cases hlt : k < hs.length
      · obtain ⟨A', c', hAe, hh⟩ := H.out.below hb hD
        injection hAe with hA1 hA2 hA3
        subst hA1
        obtain ⟨a, rfl, haD, hall⟩ := hh (by intro e; rw [e] at hlt; simp at hlt)
        obtain ⟨kd, vd, g0, g1, g2, g3, hkd, hvd⟩ := hall k hlt
        obtain ⟨kA, kc, rfl⟩ := hkd.sl
        obtain ⟨vA, vc, rfl⟩ := hvd.sl
        obtain ⟨hx1, hx2⟩ := HX.out hs[k] (by simp)
        clear hall hh hkd hvd hA2 hA3
        have hb1 := hb.alloc hb.size (.cells #[.bool hs[k].1.1, .slice kA hs[k].1.2.length kc, .bool hs[k].2.1, .slice vA hs[k].2.2.length vc] 90)
        have HB := Lib.hid hb1
        clear hb1 hb
        go_wp2_with (go_at_call 79; refine (f79 _ _ _ _ _ _ _ _ _ hx1 hx2).mono ?_; rintro e w1 ⟨b, rfl, hb2⟩; have H2 := Lib.hid (HB.out.trans (hb2.mono HB.out.size)); clear hb2)
        · go_ret
          exact ⟨_, rfl, H2.out⟩
        · exact ⟨⟨k + 1, by omega, by go_num, H2.out⟩, by simp [intOf]; omega⟩
      · obtain rfl : k = hs.length := by omega
        go_wp2
        go_ret
        exact ⟨_, rfl, hb⟩
  · go_enter Tryz.func46, Tryz.ntmps46
    go_wp2
    go_ret
    exact ⟨_, rfl, Below.refl _ _⟩
/-- A record, whatever its size. -/
def RBig (x : RecV) : Prop := x.key.2.length ≤ 9223372036854775807 ∧ x.val.2.length ≤ 9223372036854775807 ∧ HBig x.hs
theorem f13 (D : Nat) (x : RecV) (v : Value) (w : World) (h : RIn w D v x) (hD : D ≤ w.heap.size) (hbig : RBig x) : Calls Tryz.prog 13 #[v] w (SomeB w) := by
  obtain ⟨kd, vd, hv, rfl, h1, h2, h3⟩ := h
  obtain ⟨kA, kc, rfl⟩ := h1.sl
  obtain ⟨vA, vc, rfl⟩ := h2.sl
  have H3 := Lib.hid h3
  obtain ⟨hA, hc, rfl, _⟩ := h3
  have hb0 : Below w.heap.size w (w.alloc (.cells #[.int .i8 x.attr, .int .i64 x.tm, .int .i64 x.od, .bool x.key.1, .slice kA x.key.2.length kc, .bool x.val.1, .slice vA x.val.2.length vc, .slice hA x.hs.length hc] 28)) := (Below.refl _ _).alloc (Nat.le_refl _) _
  have hp0 := Blk.new w 28 [.int .i8 x.attr, .int .i64 x.tm, .int .i64 x.od, .bool x.key.1, .slice kA x.key.2.length kc, .bool x.val.1, .slice vA x.val.2.length vc, .slice hA x.hs.length hc]
  have HH := Lib.hid (And.intro hb0 hp0)
  clear hb0 hp0 h1 h2
  obtain ⟨b1, b2, b3⟩ := hbig
  have HB := Lib.hid b3
  clear b3
  go_enter Tryz.func13, Tryz.ntmps13
  go_wp2_with fail
  refine (f45 _ _ _ _ _ b1).mono ?_
  rintro e w1 ⟨b, rfl, hb1⟩
  have hp1 := HH.out.2.below hb1 (by simp)
  have c5 := hp1.cell 5
  have c6 := hp1.cell 6
  simp only [List.getElem?_cons_zero, List.getElem?_cons_succ] at c5 c6
  have H1 := Lib.hid (And.intro (HH.out.1.trans (hb1.mono (by simp))) hp1)
  clear hp1 hb1
  cases b
  · go_wp2
    go_ret
    exact ⟨_, rfl, H1.out.1⟩
  · go_wp2_with fail
    refine (f45 _ _ _ _ _ b2).mono ?_
    rintro e w2 ⟨b, rfl, hb2⟩
    have hp2 := H1.out.2.below hb2 H1.out.2.lt
    have c7 := hp2.cell 7
    simp only [List.getElem?_cons_zero, List.getElem?_cons_succ] at c7
    have H2 := Lib.hid (H1.out.1.trans (hb2.mono H1.out.1.size))
    clear hp2 hb2 c5 c6
    cases b
    · go_wp2
      go_ret
      exact ⟨_, rfl, H2.out⟩
    · go_wp2_with fail
      refine (f46 D _ x.hs _ (H3.out.below H2.out hD) (Nat.le_trans hD H2.out.size) HB.out).mono ?_
      rintro e w3 ⟨b, rfl, hb3⟩
      have H4 := Lib.hid (H2.out.trans (hb3.mono H2.out.size))
      clear hb3
      cases b
      all_goals
        go_wp2
        go_ret
        exact ⟨_, rfl, H4.out⟩

/-- What the law speaks of. -/
def RRight (x : RecV) : Prop := x.key.2.length ≤ 200 ∧ x.val.2.length ≤ 300 ∧ (x.key.1 = true → x.key.2 = []) ∧ (x.val.1 = true → x.val.2 = []) ∧ x.hs.length ≤ 6 ∧ -1099511627776 ≤ x.tm ∧ x.tm ≤ 1099511627776 ∧
  ∀ h ∈ x.hs, h.1.1 = false ∧ h.1.2.length ≤ 60 ∧ h.2.2.length ≤ 60 ∧ (h.2.1 = true → h.2.2 = [])
def SmallP (b : Bool) (l : List UInt8) (k : Nat) : Prop := l.length ≤ k ∧ (b = true → l = [])
theorem small2 (b : Bool) (dv : Value) (l : List UInt8) (D : Nat) (k : Nat) (w : World) (h : DataAt w D dv l) (hk : k ≤ 1000) :
    Calls Tryz.prog 47 #[.agg #[.bool b, dv], .int .i64 k] w fun e w' => ∃ r, e = .returned (.bool r) ∧ (r = true → SmallP b l k) ∧ Below w.heap.size w w' := by
  refine (small b dv l D k w h hk).mono ?_
  rintro e w' ⟨rfl, hb⟩
  refine ⟨_, rfl, fun hr => ?_, hb⟩
  simp at hr
  refine ⟨hr.1, fun hb => ?_⟩
  rcases hr.2 with h | h
  · rw [hb] at h
    cases h
  · exact h
/-- An answer that tells something. -/
def TellB (Q : Prop) (w : World) (e : Ending) (w' : World) : Prop := ∃ b, e = .returned (.bool b) ∧ (b = true → Q) ∧ Below w.heap.size w w'
set_option maxHeartbeats 2000000 in
theorem f14 (D : Nat) (x : RecV) (v : Value) (w : World) (h : RIn w D v x) (hD : D ≤ w.heap.size) (hbig : RBig x) : Calls Tryz.prog 14 #[v] w (TellB (RRight x) w) := by
  obtain ⟨kd, vd, hv, rfl, h1, h2, h3⟩ := h
  have HD := Lib.hid (And.intro h1 (And.intro h2 h3))
  obtain ⟨kA, kc, rfl⟩ := h1.sl
  obtain ⟨vA, vc, rfl⟩ := h2.sl
  obtain ⟨hA, hc, rfl, _⟩ := h3
  have hb0 : Below w.heap.size w (w.alloc (.cells #[.int .i8 x.attr, .int .i64 x.tm, .int .i64 x.od, .bool x.key.1, .slice kA x.key.2.length kc, .bool x.val.1, .slice vA x.val.2.length vc, .slice hA x.hs.length hc] 28)) := (Below.refl _ _).alloc (Nat.le_refl _) _
  have hp0 := Blk.new w 28 [.int .i8 x.attr, .int .i64 x.tm, .int .i64 x.od, .bool x.key.1, .slice kA x.key.2.length kc, .bool x.val.1, .slice vA x.val.2.length vc, .slice hA x.hs.length hc]
  have HH := Lib.hid (And.intro hb0 hp0)
  clear hb0 hp0 h1 h2
  obtain ⟨b1, b2, b3, b4⟩ := hbig
  clear b4
  go_enter Tryz.func14, Tryz.ntmps14
  go_wp2_with fail
  refine (small2 _ _ _ D 200 _ (HD.out.1.below HH.out.1 hD) (by omega)).mono ?_
  rintro e w1 ⟨r1, rfl, hr1, hb1⟩
  have hp1 := HH.out.2.below hb1 (by simp)
  have c5 := hp1.cell 5
  have c6 := hp1.cell 6
  simp only [List.getElem?_cons_zero, List.getElem?_cons_succ] at c5 c6
  have H1 := Lib.hid (And.intro (HH.out.1.trans (hb1.mono (by simp))) (And.intro hp1 hr1))
  clear hp1 hb1 hr1
  cases r1
  · go_wp2
    go_ret
    exact ⟨_, rfl, nofun, H1.out.1⟩
  · go_wp2_with fail
    refine (small2 _ _ _ D 300 _ (HD.out.2.1.below H1.out.1 hD) (by omega)).mono ?_
    rintro e w2 ⟨r2, rfl, hr2, hb2⟩
    have hp2 := H1.out.2.1.below hb2 H1.out.2.1.lt
    have c7 := hp2.cell 7
    have c1 := hp2.cell 1
    simp only [List.getElem?_cons_zero, List.getElem?_cons_succ] at c7 c1
    have H2 := Lib.hid (And.intro (H1.out.1.trans (hb2.mono H1.out.1.size)) (And.intro hp2 hr2))
    clear hp2 hb2 hr2 c5 c6
    cases r2
    · go_wp2
      go_ret
      exact ⟨_, rfl, nofun, H2.out.1⟩
    · by_cases hq : x.hs.length ≤ 6 ∧ -1099511627776 ≤ x.tm ∧ x.tm ≤ 1099511627776
      · obtain ⟨q1, q2, q3⟩ := hq
        have H3 := Lib.hid (show ∀ h ∈ x.hs.take 0, h.1.1 = false ∧ h.1.2.length ≤ 60 ∧ h.2.2.length ≤ 60 ∧ (h.2.1 = true → h.2.2 = []) from fun h hh => by simp at hh)
        go_wp2
        go_loopw [34] (fun i wr => ∃ k : Nat, k ≤ x.hs.length ∧ i = .int .i64 k ∧ Hid (Below w.heap.size w wr ∧ ∀ h ∈ x.hs.take k, h.1.1 = false ∧ h.1.2.length ≤ 60 ∧ h.2.2.length ≤ 60 ∧ (h.2.1 = true → h.2.2 = []))) (fun i _ => x.hs.length - (intOf i).toNat)
        case atStart => exact ⟨0, by omega, rfl, ⟨H2.out.1, H3.out⟩⟩
        case round =>
          obtain ⟨k, hk, rfl, HR⟩ := hrel
          clear c7 c1
          by_cases hlt : k < x.hs.length
          · obtain ⟨A', c', hAe, hh⟩ := HD.out.2.2.below HR.out.1 hD
            injection hAe with hA1 hA2 hA3
            subst hA1
            obtain ⟨a, rfl, haD, hall⟩ := hh (by intro e; rw [e] at hlt; simp at hlt)
            obtain ⟨kd, vd, g0, g1, g2, g3, hkd, hvd⟩ := hall k hlt
            obtain ⟨kA, kc, rfl⟩ := hkd.sl
            obtain ⟨vA, vc, rfl⟩ := hvd.sl
            have HX := Lib.hid (And.intro hkd hvd)
            generalize hnb : x.hs[k].1.1 = nb1 at g0
            have HNB := Lib.hid hnb
            clear hnb
            clear hall hh hkd hvd hA2 hA3
            have hsz := HR.out.1.size
            have hb1 : Below w.heap.size w (wr.alloc (.cells #[.bool nb1, .slice kA x.hs[k].1.2.length kc, .bool x.hs[k].2.1, .slice vA x.hs[k].2.2.length vc] 90)) := HR.out.1.alloc hsz _
            have hbr : Below wr.heap.size wr (wr.alloc (.cells #[.bool nb1, .slice kA x.hs[k].1.2.length kc, .bool x.hs[k].2.1, .slice vA x.hs[k].2.2.length vc] 90)) := (Below.refl _ _).alloc (Nat.le_refl _) _
            have HB := Lib.hid (And.intro hb1 (And.intro hbr (Blk.new wr 90 [.bool nb1, .slice kA x.hs[k].1.2.length kc, .bool x.hs[k].2.1, .slice vA x.hs[k].2.2.length vc])))
            clear hb1 hbr
            cases nb1 with
            | true =>
              go_wp2
              go_ret
              exact ⟨_, rfl, nofun, HB.out.1⟩
            | false =>
              go_wp2_with fail
              refine (small2 _ _ _ D 60 _ (HX.out.1.below HB.out.2.1 (by omega)) (by omega)).mono ?_
              rintro e w4 ⟨r1, rfl, hr1, hb4⟩
              have hp4 := HB.out.2.2.below hb4 (by simp)
              have x2 := hp4.cell 2
              have x3 := hp4.cell 3
              simp only [List.getElem?_cons_zero, List.getElem?_cons_succ] at x2 x3
              have H4 := Lib.hid (And.intro (HB.out.1.trans (hb4.mono (by simp; omega))) (And.intro (HB.out.2.1.trans (hb4.mono (by simp))) hr1))
              clear hp4 hb4 hr1
              cases r1
              · go_wp2
                go_ret
                exact ⟨_, rfl, nofun, H4.out.1⟩
              · go_wp2_with fail
                refine (small2 _ _ _ D 60 _ (HX.out.2.below H4.out.2.1 (by omega)) (by omega)).mono ?_
                rintro e w5 ⟨r2, rfl, hr2, hb5⟩
                have H5 := Lib.hid (And.intro (H4.out.1.trans (hb5.mono H4.out.1.size)) hr2)
                clear hb5 hr2 x2 x3
                cases r2
                · go_wp2
                  go_ret
                  exact ⟨_, rfl, nofun, H5.out.1⟩
                · have HN : Hid (Below w.heap.size w w5 ∧ ∀ h ∈ x.hs.take (k + 1), h.1.1 = false ∧ h.1.2.length ≤ 60 ∧ h.2.2.length ≤ 60 ∧ (h.2.1 = true → h.2.2 = [])) := by
                    refine ⟨H5.out.1, fun h hh => ?_⟩
                    rw [List.take_succ_eq_append_getElem hlt, List.mem_append] at hh
                    rcases hh with hh | hh
                    · exact HR.out.2 h hh
                    · have : h = x.hs[k] := by simpa using hh
                      subst this
                      exact ⟨HNB.out, (H4.out.2.2 trivial).1, (H5.out.2 rfl).1, (H5.out.2 rfl).2⟩
                  go_wp2
                  go_roundw
                  case rel =>
                    first
                      | exact ⟨k + 1, by omega, by go_num, HN⟩
                      | ((repeat apply Exists.intro); exact ⟨⟨k + 1, by omega, by go_num, HN⟩, rfl⟩)
                  case measure => simp [intOf]; omega
          · obtain rfl : k = x.hs.length := by omega
            have hF : RRight x := ⟨(H1.out.2.2 trivial).1, (H2.out.2.2 trivial).1, (H1.out.2.2 trivial).2, (H2.out.2.2 trivial).2, q1, q2, q3, by have h := HR.out.2; rwa [List.take_length] at h⟩
            have HF := Lib.hid hF
            go_wp2
            go_ret
            exact ⟨_, rfl, fun _ => HF.out, HR.out.1⟩
      · go_wp2
        all_goals
          first
            | (exfalso; omega)
            | (go_ret; exact ⟨_, rfl, nofun, H2.out.1⟩)
end Go.Proofs.YtmiflkccfieefaaGreatDoor
