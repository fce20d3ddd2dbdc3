/-
  What carries the decoding out: the interface's test, the closure, the call that recovers.
-/
import Derived.Test.YtmiflkccfieefaaGreatDoorDrc
import Derived.Test.YtmiflkccfieefaaGreatDoorWr
namespace Go.Proofs.YtmiflkccfieefaaGreatDoor
open Go.ChangeShapes Go.WideShapes Go.ChangeAt Go.RowKit
set_option maxRecDepth 100000
set_option linter.unusedVariables false
set_option linter.unusedSimpArgs false

/-- What decoding leaves. -/
def DecPost (r used : Nat) (Q : World → Prop) (W : World) (e : Ending) (w' : World) : Prop := e = .returned (.tuple #[.int .i64 used, .nilIface]) ∧ Q w' ∧ Kept W.heap.size [r] W w'
/-- What the type's own decode owes. -/
def DecOwes (F r g c used : Nat) (l : List UInt8) (Q : World → Prop) (W : World) : Prop :=
  ∀ W1 p, RD W.heap.size W1 p g c [] l [] → Kept W.heap.size [] W W1 → r < W.heap.size → Calls Tryz.prog F #[.pointer (some ⟨r, 0, none⟩), .iface 171 (.pointer (some ⟨p, 0, none⟩))] W1 fun e w' =>
    e = .returned .nilIface ∧ (∃ pre rest, RD W.heap.size w' p g c pre rest [] ∧ pre.length = used) ∧ Kept W.heap.size [p, r] W1 w' ∧ Q w'

theorem rd_start (g c : Nat) (l : List UInt8) (W : World) (hraw : RawAt W g c l) : RD W.heap.size (W.alloc (.cells #[.slice (some ⟨g, 0, none⟩) l.length c, .int .i64 0, .slice none 0 0] 174)) W.heap.size g c [] l [] := by
  refine ⟨Nat.le_refl _, .slice none 0 0, ?_, ?_, World.ownsRow_nil _ _ _ _⟩
  · have h := Blk.new W 174 [.slice (some ⟨g, 0, none⟩) l.length c, .int .i64 0, .slice none 0 0]
    simpa using h
  · exact hraw.kept (B := 0) (S := []) ((Kept.refl _ _ _).alloc _) (by simp)
theorem d84_94 (r g c used : Nat) (l : List UInt8) (Q : World → Prop) (W : World) (hraw : RawAt W g c l) (hr : r < W.heap.size) (hdec : DecOwes 132 r g c used l Q W) :
    Calls Tryz.prog 84 #[.slice (some ⟨g, 0, none⟩) l.length c, .iface 94 (.pointer (some ⟨r, 0, none⟩))] W (DecPost r used Q W) := by
  have hd := hdec _ _ (rd_start g c l W hraw) ((Kept.refl _ _ _).alloc _) hr
  have HD := Lib.hid hd
  clear hd hdec
  go_enter Tryz.func84, Tryz.ntmps84
  go_wp2_with (go_at_call 132; refine HD.out.mono ?_; rintro e w1 ⟨rfl, ⟨pre, rest, hrd, rfl⟩, hk, hq⟩; have HQ := Lib.hid (show Q w1 ∧ Kept W.heap.size [r] W w1 from ⟨hq, ((Kept.refl W.heap.size [] W).alloc _).trans hk (fun x hx => by cases hx) (fun x hx => by
    simp at hx
    rcases hx with rfl | rfl
    · exact .inr (Nat.le_refl _)
    · exact .inl (by simp))⟩); obtain ⟨_, sv, hp, _⟩ := hrd; have c1 := hp.cell 1; simp at c1; clear hp hk hq)
  go_wp2
  go_ret2
  exact ⟨rfl, HQ.out⟩
theorem d84_113 (r g c used : Nat) (l : List UInt8) (Q : World → Prop) (W : World) (hraw : RawAt W g c l) (hr : r < W.heap.size) (hdec : DecOwes 153 r g c used l Q W) :
    Calls Tryz.prog 84 #[.slice (some ⟨g, 0, none⟩) l.length c, .iface 113 (.pointer (some ⟨r, 0, none⟩))] W (DecPost r used Q W) := by
  have hd := hdec _ _ (rd_start g c l W hraw) ((Kept.refl _ _ _).alloc _) hr
  have HD := Lib.hid hd
  clear hd hdec
  go_enter Tryz.func84, Tryz.ntmps84
  go_wp2_with (go_at_call 153; refine HD.out.mono ?_; rintro e w1 ⟨rfl, ⟨pre, rest, hrd, rfl⟩, hk, hq⟩; have HQ := Lib.hid (show Q w1 ∧ Kept W.heap.size [r] W w1 from ⟨hq, ((Kept.refl W.heap.size [] W).alloc _).trans hk (fun x hx => by cases hx) (fun x hx => by
    simp at hx
    rcases hx with rfl | rfl
    · exact .inr (Nat.le_refl _)
    · exact .inl (by simp))⟩); obtain ⟨_, sv, hp, _⟩ := hrd; have c1 := hp.cell 1; simp at c1; clear hp hk hq)
  go_wp2
  go_ret2
  exact ⟨rfl, HQ.out⟩
theorem d84_116 (r g c used : Nat) (l : List UInt8) (Q : World → Prop) (W : World) (hraw : RawAt W g c l) (hr : r < W.heap.size) (hdec : DecOwes 156 r g c used l Q W) :
    Calls Tryz.prog 84 #[.slice (some ⟨g, 0, none⟩) l.length c, .iface 116 (.pointer (some ⟨r, 0, none⟩))] W (DecPost r used Q W) := by
  have hd := hdec _ _ (rd_start g c l W hraw) ((Kept.refl _ _ _).alloc _) hr
  have HD := Lib.hid hd
  clear hd hdec
  go_enter Tryz.func84, Tryz.ntmps84
  go_wp2_with (go_at_call 156; refine HD.out.mono ?_; rintro e w1 ⟨rfl, ⟨pre, rest, hrd, rfl⟩, hk, hq⟩; have HQ := Lib.hid (show Q w1 ∧ Kept W.heap.size [r] W w1 from ⟨hq, ((Kept.refl W.heap.size [] W).alloc _).trans hk (fun x hx => by cases hx) (fun x hx => by
    simp at hx
    rcases hx with rfl | rfl
    · exact .inr (Nat.le_refl _)
    · exact .inl (by simp))⟩); obtain ⟨_, sv, hp, _⟩ := hrd; have c1 := hp.cell 1; simp at c1; clear hp hk hq)
  go_wp2
  go_ret2
  exact ⟨rfl, HQ.out⟩

/-- Q is left by stores to variables. -/
def Firm (Q : World → Prop) : Prop := ∀ (S : List Nat) (a b : World), Q a → Kept a.heap.size S a b → (∀ s ∈ S, ∃ t cs, Blk a s t cs ∧ (t = 3 ∨ t = 4)) → Q b
theorem Own.raw {w : World} {B : Nat} {v : Value} {l : List UInt8} (h : Own w B v l) : ∃ g c, v = .slice (some ⟨g, 0, none⟩) l.length c ∧ RawAt w g c l ∧ B ≤ g := by
  obtain ⟨g, cap, cur, rfl, hb, hlt, hg, h4, h5, h6, h7⟩ := h.form
  refine ⟨g, cap, rfl, ⟨cur, (0, 0), hg, h4, fun j u hj => ?_⟩, hb⟩
  have h8 := h.1.cells (g := g) rfl j u hj
  rw [← h8]
  congr 1
  unfold Addr.add
  split <;> simp_all
theorem below_undrew {C : Nat} {w w' : World} (h : Below C w.drew w') : Below C w w' := ⟨h.os, h.tape, h.output, h.size, h.block⟩
set_option maxHeartbeats 4000000 in
theorem d83 (K r used p0 p1 p2 p3 D : Nat) (l : List UInt8) (v u2 u3 : Value) (Q : World → Prop) (W : World) (h0 : Blk W p0 23 [v]) (h1 : Blk W p1 20 [.iface K (.pointer (some ⟨r, 0, none⟩))]) (h2 : Blk W p2 3 [u2]) (h3 : Blk W p3 4 [u3]) (hr2 : p2 ≠ r) (hr3 : p3 ≠ r) (hr : r < W.heap.size)
    (hv : DataAt W D v l) (hl : l.length ≤ 600000) (hD : D ≤ W.heap.size) (hQ : Firm Q)
    (HE : ∀ W1 g c, Below W.heap.size W W1 → RawAt W1 g c l → Calls Tryz.prog 84 #[.slice (some ⟨g, 0, none⟩) l.length c, .iface K (.pointer (some ⟨r, 0, none⟩))] W1 (DecPost r used Q W1)) :
    Calls Tryz.prog 83 #[.pointer (some ⟨p0, 0, none⟩), .pointer (some ⟨p1, 0, none⟩), .pointer (some ⟨p2, 0, none⟩), .pointer (some ⟨p3, 0, none⟩)] W fun e w' => e = .returned (.tuple #[]) ∧
      Q w' ∧ Blk w' p2 3 [.int .i64 used] ∧ Blk w' p3 4 [.bool true] ∧ Kept W.heap.size [r, p2, p3] W w' := by
  have h23 : p2 ≠ p3 := h2.ne_ h3 (by decide)
  have H := Lib.hid (And.intro h0 (And.intro h1 (And.intro h2 (And.intro h3 (And.intro hv HE)))))
  have c0 := h0.cell 0
  have c1 := h1.cell 0
  simp only [List.getElem?_cons_zero] at c0 c1
  have c1' : ∀ w1, Below W.heap.size W w1 → w1.cell? ⟨p1, 0, none⟩ = some (.iface K (.pointer (some ⟨r, 0, none⟩))) := fun w1 hb => by
    have h := (H.out.2.1.below hb H.out.2.1.lt).cell 0
    simpa using h
  have hl0 := h0.lt
  have hl1 := h1.lt
  clear h0 h1 h2 h3 hv HE
  go_enter Tryz.func83, Tryz.ntmps83
  go_wp2_with fail
  go_region_with (first | (go_at_call 70; refine (copied v l D _ (by exact H.out.2.2.2.2.1.below (show Below W.heap.size W W.drew from (Below.refl _ _).drew) hD) (by omega) (by exact hD)).mono ?_; rintro e w1 ⟨v1, rfl, ho, hb1⟩; replace hb1 := below_undrew hb1; have hc1 := c1' _ hb1; obtain ⟨g1, cc1, hv1, hraw1, _⟩ := ho.raw; subst hv1; have HO := Lib.hid (And.intro hraw1 hb1); clear ho hraw1 hb1) | (go_at_call 84; refine (H.out.2.2.2.2.2 _ _ _ (by exact HO.out.2) (by exact HO.out.1)).mono ?_; rintro e w2 ⟨rfl, hq, hk⟩; have HQ := Lib.hid (And.intro hq hk); clear hq hk))
  all_goals
    have hst : ∀ t : TypeId, t = 3 ∨ t = 4 → ¬ stackT t := by
      rintro t ht (h5 | h5) <;> rw [h5] at ht <;> rcases ht with h | h <;> exact absurd h (by decide)
    have hp2 := (H.out.2.2.1.below HO.out.2 H.out.2.2.1.lt).kept HQ.out.2 (by simpa using hr2) (.inr (hst 3 (.inl rfl)))
    have hp3 := (H.out.2.2.2.1.below HO.out.2 H.out.2.2.2.1.lt).kept HQ.out.2 (by simpa using hr3) (.inr (hst 4 (.inr rfl)))
    have c2 := hp2.cell 0
    have z2 := hp2.frozen 0
    have c3 := hp3.cell 0
    have z3 := hp3.frozen 0
    simp only [List.getElem?_cons_zero] at c2 c3
    have hkw : Kept W.heap.size [r, p2, p3] W w2 := (Kept.of_below HO.out.2 []).trans (HQ.out.2.mono HO.out.2.size (fun x hx => .inl hx)) (fun x hx => by cases hx) (fun x hx => .inl (by simp at hx; simp [hx]))
    have HR := Lib.hid (And.intro hp2 (And.intro hp3 (And.intro HQ.out.1 hkw)))
    clear hp2 hp3 hkw hst
    go_wp2_with fail
    go_region
    all_goals
      go_wp2
      go_end0
      obtain ⟨hp2, hp3, hq, hkw⟩ := HR.out
      have hkS : ∀ b, Kept w2.heap.size [p2, p3] w2 b → Q b := fun b hb => hQ [p2, p3] _ _ hq hb (fun s hs => by
        simp at hs
        rcases hs with rfl | rfl
        · exact ⟨_, _, hp2, .inl rfl⟩
        · exact ⟨_, _, hp3, .inr rfl⟩)
      refine ⟨rfl, hkS _ ?_, ?_, ?_, ?_⟩
      · exact (((Kept.refl _ _ _).setCell (p := ⟨_, 0, none⟩) (.inl (by simp)) _).setCell (p := ⟨_, 0, none⟩) (.inl (by simp)) _).drew
      · first
          | exact ((hp2.set_ 0 _).far (p := ⟨p3, 0, none⟩) h23 _).drew
          | exact ((hp2.far (p := ⟨p3, 0, none⟩) h23 _).set_ 0 _).drew
      · first
          | exact ((hp3.far (p := ⟨p2, 0, none⟩) (Ne.symm h23) _).set_ 0 _).drew
          | exact ((hp3.set_ 0 _).far (p := ⟨p2, 0, none⟩) (Ne.symm h23) _).drew
      · exact ((hkw.setCell (p := ⟨_, 0, none⟩) (.inl (by simp)) _).setCell (p := ⟨_, 0, none⟩) (.inl (by simp)) _).drew

/-- impl.read. -/
theorem d52 (K r used D : Nat) (l : List UInt8) (v : Value) (Q : World → Prop) (w : World) (hv : DataAt w D v l) (hl : l.length ≤ 600000) (hD : D ≤ w.heap.size) (hr : r < w.heap.size) (hQ : Firm Q)
    (HE : ∀ W1 g c, Below w.heap.size w W1 → RawAt W1 g c l → Calls Tryz.prog 84 #[.slice (some ⟨g, 0, none⟩) l.length c, .iface K (.pointer (some ⟨r, 0, none⟩))] W1 (DecPost r used Q W1)) :
    Calls Tryz.prog 52 #[v, .iface K (.pointer (some ⟨r, 0, none⟩))] w fun e w' => e = .returned (.tuple #[.int .i64 used, .bool true]) ∧ Q w' ∧ Kept w.heap.size [r] w w' := by
  have hmf : ∀ (fn : Fn) (first cap : Array Value) (w : World), (Instr.makeFunc fn first cap).run Tryz.prog w = .ok (.func fn first cap) w := fun _ _ _ _ => rfl
  have hp0 : Blk ((((w.alloc (.cells #[v] 23)).alloc (.cells #[.iface K (.pointer (some ⟨r, 0, none⟩))] 20)).alloc (.cells #[.int .i64 0] 3)).alloc (.cells #[.bool false] 4)) w.heap.size 23 [v] := (((Blk.new w 23 [v]).alloc _).alloc _).alloc _
  have hp1 : Blk ((((w.alloc (.cells #[v] 23)).alloc (.cells #[.iface K (.pointer (some ⟨r, 0, none⟩))] 20)).alloc (.cells #[.int .i64 0] 3)).alloc (.cells #[.bool false] 4)) (w.heap.size + 1) 20 [.iface K (.pointer (some ⟨r, 0, none⟩))] := by
    have h := ((Blk.new (w.alloc (.cells #[v] 23)) 20 [.iface K (.pointer (some ⟨r, 0, none⟩))]).alloc (.cells #[.int .i64 0] 3)).alloc (.cells #[.bool false] 4)
    simpa using h
  have hp2 : Blk ((((w.alloc (.cells #[v] 23)).alloc (.cells #[.iface K (.pointer (some ⟨r, 0, none⟩))] 20)).alloc (.cells #[.int .i64 0] 3)).alloc (.cells #[.bool false] 4)) (w.heap.size + 2) 3 [.int .i64 0] := by
    have h := (Blk.new ((w.alloc (.cells #[v] 23)).alloc (.cells #[.iface K (.pointer (some ⟨r, 0, none⟩))] 20)) 3 [.int .i64 0]).alloc (.cells #[.bool false] 4)
    simpa using h
  have hp3 : Blk ((((w.alloc (.cells #[v] 23)).alloc (.cells #[.iface K (.pointer (some ⟨r, 0, none⟩))] 20)).alloc (.cells #[.int .i64 0] 3)).alloc (.cells #[.bool false] 4)) (w.heap.size + 3) 4 [.bool false] := by
    have h := Blk.new (((w.alloc (.cells #[v] 23)).alloc (.cells #[.iface K (.pointer (some ⟨r, 0, none⟩))] 20)).alloc (.cells #[.int .i64 0] 3)) 4 [.bool false]
    simpa using h
  have hk3 : Kept w.heap.size [r] w ((((w.alloc (.cells #[v] 23)).alloc (.cells #[.iface K (.pointer (some ⟨r, 0, none⟩))] 20)).alloc (.cells #[.int .i64 0] 3)).alloc (.cells #[.bool false] 4)) := ((((Kept.refl _ _ _).alloc _).alloc _).alloc _).alloc _
  have hbw : Below w.heap.size w ((((w.alloc (.cells #[v] 23)).alloc (.cells #[.iface K (.pointer (some ⟨r, 0, none⟩))] 20)).alloc (.cells #[.int .i64 0] 3)).alloc (.cells #[.bool false] 4)) := (((((Below.refl _ _).alloc (Nat.le_refl _) _).alloc (by simp) _).alloc (by simp; omega) _).alloc (by simp; omega) _)
  have hs3 : ((((w.alloc (.cells #[v] 23)).alloc (.cells #[.iface K (.pointer (some ⟨r, 0, none⟩))] 20)).alloc (.cells #[.int .i64 0] 3)).alloc (.cells #[.bool false] 4)).heap.size = w.heap.size + 4 := by simp
  have hfin : ∀ w3 : World, Blk w3 w.heap.size 23 [v] → Blk w3 (w.heap.size + 1) 20 [.iface K (.pointer (some ⟨r, 0, none⟩))] → Blk w3 (w.heap.size + 2) 3 [.int .i64 0] → Blk w3 (w.heap.size + 3) 4 [.bool false] → Kept w.heap.size [r] w w3 → Below w.heap.size w w3 → w3.heap.size = w.heap.size + 4 →
      Calls Tryz.prog 67 #[.func (.func 83) #[] #[.pointer (some ⟨w.heap.size, 0, none⟩), .pointer (some ⟨w.heap.size + 1, 0, none⟩), .pointer (some ⟨w.heap.size + 2, 0, none⟩), .pointer (some ⟨w.heap.size + 3, 0, none⟩)]] w3 fun e w' => e = .returned (.bool true) ∧
        Q w' ∧ Blk w' (w.heap.size + 2) 3 [.int .i64 used] ∧ Blk w' (w.heap.size + 3) 4 [.bool true] ∧ Kept w.heap.size [r] w w' := by
    intro w3 hp0 hp1 hp2 hp3 hk3 hbw hs3
    have hst : ∀ t : TypeId, t = 4 → ¬ stackT t := by
      rintro t ht (h5 | h5) <;> rw [h5] at ht <;> exact absurd ht (by decide)
    have hb3 : Blk (w3.alloc (.cells #[.bool false] 4)) w3.heap.size 4 [.bool false] := Blk.new _ _ _
    have hba : Below w3.heap.size w3 (w3.alloc (.cells #[.bool false] 4)) := (Below.refl _ _).alloc (Nat.le_refl _) _
    have h83 := d83 K r used w.heap.size (w.heap.size + 1) (w.heap.size + 2) (w.heap.size + 3) D l v _ _ Q (w3.alloc (.cells #[.bool false] 4)) (hp0.alloc _) (hp1.alloc _) (hp2.alloc _) (hp3.alloc _) (by omega) (by omega) (by simp; omega) ((hv.below hbw (by omega)).below hba (by omega)) hl (by simp; omega) hQ
      (fun W1 g c hb hraw => HE W1 g c ((hbw.alloc (by omega) _).trans (hb.mono (by simp; omega))) hraw)
    refine (s67 83 _ w3 (fun w' => Q w' ∧ Blk w' (w.heap.size + 2) 3 [.int .i64 used] ∧ Blk w' (w.heap.size + 3) 4 [.bool true] ∧ Kept (w3.alloc (.cells #[.bool false] 4)).heap.size [r, w.heap.size + 2, w.heap.size + 3] (w3.alloc (.cells #[.bool false] 4)) w') h83 ?_ (fun W => enters_of Tryz.func83 (by kernel_rfl) rfl _ W)).mono ?_
    · rintro w' ⟨q1, q2, q3, q4⟩
      have h := hb3.kept q4 (by simp; omega) (.inr (hst 4 rfl))
      exact ⟨false, h.cell 0, h.frozen 0⟩
    · rintro e w' ⟨rfl, w1, ⟨q1, q2, q3, q4⟩, rfl⟩
      have hbn := hb3.kept q4 (by simp; omega) (.inr (hst 4 rfl))
      have hkk : Kept w.heap.size [r] w w1 := (hk3.alloc _).trans (q4.mono (by simp; omega) (fun x hx => .inl hx)) (fun x hx => .inl hx) (fun x hx => by
        simp at hx
        rcases hx with rfl | rfl | rfl
        · exact .inl (by simp)
        · exact .inr (by omega)
        · exact .inr (by omega))
      refine ⟨rfl, hQ [w3.heap.size] w1 _ q1 (((Kept.refl _ _ _).setCell (p := ⟨w3.heap.size, 0, none⟩) (.inl (by simp)) _).setCell (p := ⟨w3.heap.size, 0, none⟩) (.inl (by simp)) _) (fun s hs => ?_), ?_, ?_, ?_⟩
      · simp at hs
        subst hs
        exact ⟨_, _, hbn, .inr rfl⟩
      · exact (q2.far (p := ⟨w3.heap.size, 0, none⟩) (show w.heap.size + 2 ≠ w3.heap.size by omega) _).far (p := ⟨w3.heap.size, 0, none⟩) (show w.heap.size + 2 ≠ w3.heap.size by omega) _
      · exact (q3.far (p := ⟨w3.heap.size, 0, none⟩) (show w.heap.size + 3 ≠ w3.heap.size by omega) _).far (p := ⟨w3.heap.size, 0, none⟩) (show w.heap.size + 3 ≠ w3.heap.size by omega) _
      · exact (hkk.setCell (p := ⟨w3.heap.size, 0, none⟩) (.inr (by show w.heap.size ≤ w3.heap.size; omega)) _).setCell (p := ⟨w3.heap.size, 0, none⟩) (.inr (by show w.heap.size ≤ w3.heap.size; omega)) _
  have h67 := hfin _ hp0 hp1 hp2 hp3 hk3 hbw hs3
  obtain ⟨vA, vc, hvf⟩ := hv.sl
  subst hvf
  clear hfin hp0 hp1 hp2 hp3 hk3 hbw HE hv
  go_enter Tryz.func52, Tryz.ntmps52
  go_wp2_with (go_at_call 67; refine h67.mono ?_; rintro e w5 ⟨rfl, hq, q2, q3, q4⟩; have c2 := q2.cell 0; have z2 := q2.frozen 0; have c3 := q3.cell 0; have z3 := q3.frozen 0; simp only [List.getElem?_cons_zero] at c2 c3; have HR := Lib.hid (And.intro hq (And.intro q2 (And.intro q3 q4))); clear hq q2 q3 q4)
  go_wp2
  obtain ⟨hq, q2, q3, q4⟩ := HR.out
  have hp2 := (q2.set_ 0 (.int .i64 used)).far (p := ⟨w.heap.size + 3, 0, none⟩) (show w.heap.size + 2 ≠ w.heap.size + 3 by omega) (.bool true)
  have hp3 := (q3.far (p := ⟨w.heap.size + 2, 0, none⟩) (show w.heap.size + 3 ≠ w.heap.size + 2 by omega) (.int .i64 used)).set_ 0 (.bool true)
  have s1 := hp2.cell 0
  have s2 := hp3.cell 0
  simp only [List.set_cons_zero, List.getElem?_cons_zero] at s1 s2
  try simp only [Exit.inBlock, Exit.then]
  refine ⟨rfl, .tuple #[.int .i64 used, .bool true], ?_, rfl, hQ [w.heap.size + 2, w.heap.size + 3] w5 _ hq (((Kept.refl _ _ _).setCell (p := ⟨w.heap.size + 2, 0, none⟩) (.inl (by simp)) _).setCell (p := ⟨w.heap.size + 3, 0, none⟩) (.inl (by simp)) _) (fun s hs => ?_), (q4.setCell (p := ⟨w.heap.size + 2, 0, none⟩) (.inr (by show w.heap.size ≤ w.heap.size + 2; omega)) _).setCell (p := ⟨w.heap.size + 3, 0, none⟩) (.inr (by show w.heap.size ≤ w.heap.size + 3; omega)) _⟩
  · simp [results, Tryz.results52, go_sem, s1, s2]
  · simp at hs
    rcases hs with rfl | rfl
    · exact ⟨_, _, q2, .inl rfl⟩
    · exact ⟨_, _, q3, .inr rfl⟩
end Go.Proofs.YtmiflkccfieefaaGreatDoor
