/-
  Versions are parsed and told: impl.VersionParse; impl.VersionLeast.
-/
import Derived.Test.YtmiflkccfieefaaGreatDoorVcl
namespace Go.Proofs.YtmiflkccfieefaaGreatDoor
open Go.ChangeShapes Go.WideShapes Go.ChangeAt Go.RowKit
set_option maxRecDepth 100000
set_option linter.unusedVariables false
set_option linter.unusedSimpArgs false

theorem p67 (s : ByteArray) (a b c d : Nat) (w w3 : World) (hv : VT s a b c d) (ht : Pow w) (hp0 : Blk w3 w.heap.size 9 [.string s]) (hp1 : Blk w3 (w.heap.size + 1) 9 [.string ⟨#[]⟩]) (hp2 : Blk w3 (w.heap.size + 2) 4 [.bool false]) (hbw : Below w.heap.size w w3) (hs3 : w3.heap.size = w.heap.size + 3) :
    Calls Tryz.prog 67 #[.func (.func 74) #[] #[.pointer (some ⟨w.heap.size, 0, none⟩), .pointer (some ⟨w.heap.size + 1, 0, none⟩), .pointer (some ⟨w.heap.size + 2, 0, none⟩)]] w3 fun e w' => e = .returned (.bool true) ∧
      Blk w' (w.heap.size + 1) 9 [.string s] ∧ Blk w' (w.heap.size + 2) 4 [.bool true] ∧ Below w.heap.size w w' := by
  have hb3 : Blk (w3.alloc (.cells #[.bool false] 4)) w3.heap.size 4 [.bool false] := Blk.new _ _ _
  have hl := ht.lt
  have h74 := f74 w.heap.size (w.heap.size + 1) (w.heap.size + 2) s a b c d _ _ (w3.alloc (.cells #[.bool false] 4)) hv (ht.below (hbw.alloc (by omega) _) hl) ((hp0.alloc _).cell 0) (hp1.alloc _) (hp2.alloc _)
  refine (s67 74 _ w3 (fun w' => Blk w' (w.heap.size + 1) 9 [.string s] ∧ Blk w' (w.heap.size + 2) 4 [.bool true] ∧ Kept (w3.alloc (.cells #[.bool false] 4)).heap.size [w.heap.size + 1, w.heap.size + 2] (w3.alloc (.cells #[.bool false] 4)) w') h74 ?_ (fun W => enters_of Tryz.func74 (by kernel_rfl) rfl _ W)).mono ?_
  · rintro w' ⟨q1, q2, q4⟩
    have h := hb3.kept q4 (by simp; omega) (.inr (notStack (by simp)))
    exact ⟨false, h.cell 0, h.frozen 0⟩
  · rintro e w' ⟨rfl, w1, ⟨q1, q2, q4⟩, rfl⟩
    refine ⟨rfl, (q1.far (p := ⟨w3.heap.size, 0, none⟩) (show w.heap.size + 1 ≠ w3.heap.size by omega) _).far (p := ⟨w3.heap.size, 0, none⟩) (show w.heap.size + 1 ≠ w3.heap.size by omega) _, (q2.far (p := ⟨w3.heap.size, 0, none⟩) (show w.heap.size + 2 ≠ w3.heap.size by omega) _).far (p := ⟨w3.heap.size, 0, none⟩) (show w.heap.size + 2 ≠ w3.heap.size by omega) _, ?_⟩
    have hq : Below w.heap.size w w1 := (hbw.alloc (by omega) _).trans ((q4.mono (by simp; omega) (fun x hx => .inl hx)).to_below (by simp; omega) (fun x hx => by simp at hx; omega))
    exact (hq.setCell (p := ⟨w3.heap.size, 0, none⟩) (by show w.heap.size ≤ w3.heap.size; omega) _).setCell (p := ⟨w3.heap.size, 0, none⟩) (by show w.heap.size ≤ w3.heap.size; omega) _
set_option maxHeartbeats 1000000 in
theorem f43 (s : ByteArray) (a b c d : Nat) (w : World) (hv : VT s a b c d) (ht : Pow w) :
    Calls Tryz.prog 43 #[.string s] w fun e w' => e = .returned (.tuple #[.string s, .bool true]) ∧ Below w.heap.size w w' := by
  have hmf : ∀ (fn : Fn) (first cap : Array Value) (w : World), (Instr.makeFunc fn first cap).run Tryz.prog w = .ok (.func fn first cap) w := fun _ _ _ _ => rfl
  have h67 := p67 s a b c d w (((w.alloc (.cells #[.string s] 9)).alloc (.cells #[.string ⟨#[]⟩] 9)).alloc (.cells #[.bool false] 4)) hv ht (((Blk.new w 9 [.string s]).alloc _).alloc _)
    (by
      have h := (Blk.new (w.alloc (.cells #[.string s] 9)) 9 [.string ⟨#[]⟩]).alloc (.cells #[.bool false] 4)
      simpa using h)
    (by
      have h := Blk.new ((w.alloc (.cells #[.string s] 9)).alloc (.cells #[.string ⟨#[]⟩] 9)) 4 [.bool false]
      simpa using h)
    ((((Below.refl _ _).alloc (Nat.le_refl _) _).alloc (by simp) _).alloc (by simp; omega) _) (by simp)
  clear hv ht
  go_enter Tryz.func43, Tryz.ntmps43
  go_wp2_with (go_at_call 67; refine h67.mono ?_; rintro e w5 ⟨rfl, q1, q2, q3⟩; have c1 := q1.cell 0; have c2 := q2.cell 0; have z1 := q1.frozen 0; have z2 := q2.frozen 0; simp only [List.getElem?_cons_zero] at c1 c2; have HQ := Lib.hid (And.intro q1 (And.intro q2 q3)); clear q1 q2 q3)
  go_wp2
  have e1 := (((HQ.out.1.set_ 0 (.string s)).far (p := ⟨w.heap.size + 2, 0, none⟩) (show w.heap.size + 1 ≠ w.heap.size + 2 by omega) (.bool true))).cell 0
  have e2 := (((HQ.out.2.1.far (p := ⟨w.heap.size + 1, 0, none⟩) (show w.heap.size + 2 ≠ w.heap.size + 1 by omega) (.string s)).set_ 0 (.bool true))).cell 0
  simp only [List.set_cons_zero, List.getElem?_cons_zero] at e1 e2
  have hF := (HQ.out.2.2.setCell (p := ⟨w.heap.size + 1, 0, none⟩) (show w.heap.size ≤ w.heap.size + 1 by omega) (.string s)).setCell (p := ⟨w.heap.size + 2, 0, none⟩) (show w.heap.size ≤ w.heap.size + 2 by omega) (.bool true)
  try simp only [Exit.inBlock, Exit.then]
  refine ⟨rfl, .tuple #[.string s, .bool true], ?_, rfl, hF⟩
  simp [results, Tryz.results43, go_sem, e1, e2]
def lge (a b c d a' b' c' d' : Nat) : Bool := lexge [a, b, c, vd a d] [a', b', c', vd a' d']
set_option maxHeartbeats 2000000 in
theorem f77 (p0 p1 p2 p3 : Nat) (s s' : ByteArray) (a b c d a' b' c' d' : Nat) (u1 u2 : Value) (W : World) (hv : VT s a b c d) (hv' : VT s' a' b' c' d') (h0 : Blk W p0 9 [.string s]) (h0' : Blk W p1 9 [.string s']) (h1 : Blk W p2 4 [u1]) (h2 : Blk W p3 4 [u2]) (h23 : p2 ≠ p3) :
    Calls Tryz.prog 77 #[.pointer (some ⟨p0, 0, none⟩), .pointer (some ⟨p1, 0, none⟩), .pointer (some ⟨p2, 0, none⟩), .pointer (some ⟨p3, 0, none⟩)] W fun e w' => e = .returned (.tuple #[]) ∧
      Blk w' p2 4 [.bool (lge a b c d a' b' c' d')] ∧ Blk w' p3 4 [.bool true] ∧ Kept W.heap.size [p2, p3] W w' := by
  have HV := Lib.hid (And.intro hv hv')
  have H := Lib.hid (And.intro (And.intro h0 h0') (And.intro h1 h2))
  have c0 := h0.cell 0
  simp only [List.getElem?_cons_zero] at c0
  clear h0 h0' h1 h2 hv hv'
  go_enter Tryz.func77, Tryz.ntmps77
  go_wp2_with fail
  refine (HV.out.1.parse _).mono ?_
  rintro e w1 ⟨rfl, hb1⟩
  have H1 := Lib.hid (And.intro (hb1.alloc hb1.size (.cells #[.int .u64 a, .int .u64 b, .int .u64 c, .int .u64 (vd a d : Nat)] 151)) (Blk.new w1 151 [.int .u64 a, .int .u64 b, .int .u64 c, .int .u64 (vd a d : Nat)]))
  clear hb1
  have c1 := (H.out.1.2.below H1.out.1 H.out.1.2.lt).cell 0
  simp only [List.getElem?_cons_zero] at c1
  go_wp2_with fail
  refine (HV.out.2.parse _).mono ?_
  rintro e w2 ⟨rfl, hb2⟩
  have hbB := (H1.out.1.trans (hb2.mono H1.out.1.size))
  have H2 := Lib.hid (And.intro (hbB.alloc hbB.size (.cells #[.int .u64 a', .int .u64 b', .int .u64 c', .int .u64 (vd a' d' : Nat)] 151)) (And.intro ((H1.out.2.below hb2 H1.out.2.lt).alloc (.cells #[.int .u64 a', .int .u64 b', .int .u64 c', .int .u64 (vd a' d' : Nat)] 151)) (Blk.new w2 151 [.int .u64 a', .int .u64 b', .int .u64 c', .int .u64 (vd a' d' : Nat)])))
  clear hb2 hbB c1 c0
  have x0 := H2.out.2.1.cell 0
  have x1 := H2.out.2.1.cell 1
  have x2 := H2.out.2.1.cell 2
  have x3 := H2.out.2.1.cell 3
  simp only [List.getElem?_cons_zero, List.getElem?_cons_succ] at x0 x1 x2 x3
  go_wp2_with fail
  refine (f78 a b c (vd a d) a' b' c' (vd a' d') _).mono ?_
  rintro e w3 ⟨he, hb3⟩
  change e = .returned (.bool (lge a b c d a' b' c' d')) at he
  subst he
  have hbF := H2.out.1.trans (hb3.mono H2.out.1.size)
  have hp1 := H.out.2.1.below hbF H.out.2.1.lt
  have hp2 := H.out.2.2.below hbF H.out.2.2.lt
  have c1 := hp1.cell 0
  have z1 := hp1.frozen 0
  have c2 := hp2.cell 0
  have z2 := hp2.frozen 0
  simp only [List.getElem?_cons_zero] at c1 c2
  have HR := Lib.hid (And.intro hbF (And.intro hp1 hp2))
  clear hb3 hbF hp1 hp2
  go_wp2
  go_end0
  have hk := Kept.of_below (B := W.heap.size) HR.out.1 [p2, p3]
  exact ⟨rfl, (HR.out.2.1.set_ 0 _).far (p := ⟨p3, 0, none⟩) h23 _, (HR.out.2.2.far (p := ⟨p2, 0, none⟩) (Ne.symm h23) _).set_ 0 _, (hk.setCell (p := ⟨p2, 0, none⟩) (.inl (by simp)) _).setCell (p := ⟨p3, 0, none⟩) (.inl (by simp)) _⟩
theorem l67 (s s' : ByteArray) (a b c d a' b' c' d' : Nat) (w w3 : World) (hv : VT s a b c d) (hv' : VT s' a' b' c' d') (hp0 : Blk w3 w.heap.size 9 [.string s]) (hp0' : Blk w3 (w.heap.size + 1) 9 [.string s']) (hp1 : Blk w3 (w.heap.size + 2) 4 [.bool false]) (hp2 : Blk w3 (w.heap.size + 3) 4 [.bool false]) (hbw : Below w.heap.size w w3) (hs3 : w3.heap.size = w.heap.size + 4) :
    Calls Tryz.prog 67 #[.func (.func 77) #[] #[.pointer (some ⟨w.heap.size, 0, none⟩), .pointer (some ⟨w.heap.size + 1, 0, none⟩), .pointer (some ⟨w.heap.size + 2, 0, none⟩), .pointer (some ⟨w.heap.size + 3, 0, none⟩)]] w3 fun e w' => e = .returned (.bool true) ∧
      Blk w' (w.heap.size + 2) 4 [.bool (lge a b c d a' b' c' d')] ∧ Blk w' (w.heap.size + 3) 4 [.bool true] ∧ Below w.heap.size w w' := by
  have hb3 : Blk (w3.alloc (.cells #[.bool false] 4)) w3.heap.size 4 [.bool false] := Blk.new _ _ _
  have h77 := f77 w.heap.size (w.heap.size + 1) (w.heap.size + 2) (w.heap.size + 3) s s' a b c d a' b' c' d' _ _ (w3.alloc (.cells #[.bool false] 4)) hv hv' (hp0.alloc _) (hp0'.alloc _) (hp1.alloc _) (hp2.alloc _) (by omega)
  refine (s67 77 _ w3 (fun w' => Blk w' (w.heap.size + 2) 4 [.bool (lge a b c d a' b' c' d')] ∧ Blk w' (w.heap.size + 3) 4 [.bool true] ∧ Kept (w3.alloc (.cells #[.bool false] 4)).heap.size [w.heap.size + 2, w.heap.size + 3] (w3.alloc (.cells #[.bool false] 4)) w') h77 ?_ (fun W => enters_of Tryz.func77 (by kernel_rfl) rfl _ W)).mono ?_
  · rintro w' ⟨q1, q2, q4⟩
    have h := hb3.kept q4 (by simp; omega) (.inr (notStack (by simp)))
    exact ⟨false, h.cell 0, h.frozen 0⟩
  · rintro e w' ⟨rfl, w1, ⟨q1, q2, q4⟩, rfl⟩
    refine ⟨rfl, (q1.far (p := ⟨w3.heap.size, 0, none⟩) (show w.heap.size + 2 ≠ w3.heap.size by omega) _).far (p := ⟨w3.heap.size, 0, none⟩) (show w.heap.size + 2 ≠ w3.heap.size by omega) _, (q2.far (p := ⟨w3.heap.size, 0, none⟩) (show w.heap.size + 3 ≠ w3.heap.size by omega) _).far (p := ⟨w3.heap.size, 0, none⟩) (show w.heap.size + 3 ≠ w3.heap.size by omega) _, ?_⟩
    have hq : Below w.heap.size w w1 := (hbw.alloc (by omega) _).trans ((q4.mono (by simp; omega) (fun x hx => .inl hx)).to_below (by simp; omega) (fun x hx => by simp at hx; omega))
    exact (hq.setCell (p := ⟨w3.heap.size, 0, none⟩) (by show w.heap.size ≤ w3.heap.size; omega) _).setCell (p := ⟨w3.heap.size, 0, none⟩) (by show w.heap.size ≤ w3.heap.size; omega) _
set_option maxHeartbeats 1000000 in
theorem f44 (s s' : ByteArray) (a b c d a' b' c' d' : Nat) (w : World) (hv : VT s a b c d) (hv' : VT s' a' b' c' d') :
    Calls Tryz.prog 44 #[.string s, .string s'] w fun e w' => e = .returned (.tuple #[.bool (lge a b c d a' b' c' d'), .bool true]) ∧ Below w.heap.size w w' := by
  have hmf : ∀ (fn : Fn) (first cap : Array Value) (w : World), (Instr.makeFunc fn first cap).run Tryz.prog w = .ok (.func fn first cap) w := fun _ _ _ _ => rfl
  have h67 := l67 s s' a b c d a' b' c' d' w ((((w.alloc (.cells #[.string s] 9)).alloc (.cells #[.string s'] 9)).alloc (.cells #[.bool false] 4)).alloc (.cells #[.bool false] 4)) hv hv' ((((Blk.new w 9 [.string s]).alloc _).alloc _).alloc _)
    (by
      have h := ((Blk.new (w.alloc (.cells #[.string s] 9)) 9 [.string s']).alloc (.cells #[.bool false] 4)).alloc (.cells #[.bool false] 4)
      simpa using h)
    (by
      have h := (Blk.new ((w.alloc (.cells #[.string s] 9)).alloc (.cells #[.string s'] 9)) 4 [.bool false]).alloc (.cells #[.bool false] 4)
      simpa using h)
    (by
      have h := Blk.new (((w.alloc (.cells #[.string s] 9)).alloc (.cells #[.string s'] 9)).alloc (.cells #[.bool false] 4)) 4 [.bool false]
      simpa using h)
    (((((Below.refl _ _).alloc (Nat.le_refl _) _).alloc (by simp) _).alloc (by simp; omega) _).alloc (by simp; omega) _) (by simp)
  clear hv hv'
  generalize lge a b c d a' b' c' d' = g at h67 ⊢
  go_enter Tryz.func44, Tryz.ntmps44
  go_wp2_with (go_at_call 67; refine h67.mono ?_; rintro e w5 ⟨rfl, q1, q2, q3⟩; have c1 := q1.cell 0; have c2 := q2.cell 0; have z1 := q1.frozen 0; have z2 := q2.frozen 0; simp only [List.getElem?_cons_zero] at c1 c2; have HQ := Lib.hid (And.intro q1 (And.intro q2 q3)); clear q1 q2 q3)
  go_region
  all_goals
    go_wp2
    have e1 := (((HQ.out.1.set_ 0 (.bool g)).far (p := ⟨w.heap.size + 1 + 1 + 1, 0, none⟩) (show w.heap.size + 2 ≠ w.heap.size + 1 + 1 + 1 by omega) (.bool true))).drew.cell 0
    have e2 := (((HQ.out.2.1.far (p := ⟨w.heap.size + 1 + 1, 0, none⟩) (show w.heap.size + 3 ≠ w.heap.size + 1 + 1 by omega) (.bool g)).set_ 0 (.bool true))).drew.cell 0
    simp only [List.set_cons_zero, List.getElem?_cons_zero] at e1 e2
    have hF := ((HQ.out.2.2.setCell (p := ⟨w.heap.size + 1 + 1, 0, none⟩) (show w.heap.size ≤ w.heap.size + 1 + 1 by omega) (.bool g)).setCell (p := ⟨w.heap.size + 1 + 1 + 1, 0, none⟩) (show w.heap.size ≤ w.heap.size + 1 + 1 + 1 by omega) (.bool true)).drew
    try simp only [Exit.inBlock, Exit.then]
    refine bodyPost_ret (v := .tuple #[.bool g, .bool true]) ?_ rfl ⟨rfl, hF⟩
    simp [results, Tryz.results44, go_sem]
    simp [go_sem] at e1 e2
    simp [e1, e2]
end Go.Proofs.YtmiflkccfieefaaGreatDoor
