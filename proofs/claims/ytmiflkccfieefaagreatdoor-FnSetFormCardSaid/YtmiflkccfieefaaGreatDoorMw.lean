/-
  A message of format 0 without a time is written.
-/
import Derived.Test.YtmiflkccfieefaaGreatDoorMin
import Derived.Test.YtmiflkccfieefaaGreatDoorMsrA
import Derived.Test.YtmiflkccfieefaaGreatDoorWr
import Derived.Test.YtmiflkccfieefaaGreatDoorEncM
namespace Go.Proofs.YtmiflkccfieefaaGreatDoor
open Go.ChangeShapes Go.WideShapes Go.ChangeAt Go.RowKit
set_option maxRecDepth 100000
set_option linter.unusedVariables false
set_option linter.unusedSimpArgs false

theorem MsgAt.mono {w : World} {D D' r : Nat} {ver : Int} {la : Bool} {sec nsec : Int} {ko vo : NB} {fresh : Bool} (h : MsgAt w D r ver la sec nsec ko vo fresh) (hD : D ≤ D') : MsgAt w D' r ver la sec nsec ko vo fresh := by
  obtain ⟨kv, vv, cv, sz, h1, h2, h3, h4⟩ := h
  exact ⟨kv, vv, cv, sz, h1, h2.mono hD, h3.mono hD, h4⟩
theorem MsgAt.lt {w : World} {D r : Nat} {ver : Int} {la : Bool} {sec nsec : Int} {ko vo : NB} {fresh : Bool} (h : MsgAt w D r ver la sec nsec ko vo fresh) : r < w.heap.size := by
  obtain ⟨kv, vv, cv, sz, h1, _⟩ := h
  exact h1.lt
theorem sBytes_len (o : NB) : (sBytes o).length = 4 + ol o := by
  cases o <;> simp [sBytes, ol, Lib.beBytes_length]
theorem f97m0 (r : Nat) (sec nsec : Int) (ko vo : NB) (W : World) (hko : ol ko ≤ 300) (hvo : ol vo ≤ 300) (h : MsgAt W W.heap.size r 0 false sec nsec ko vo true) :
    Calls Tryz.prog 97 #[.iface 113 (.pointer (some ⟨r, 0, none⟩))] W (EncPost r (msgBytes 0 false [] ko vo) W) := by
  have hrb : (msgBytes 0 false [] ko vo).length = 4 + (2 + (4 + ol ko + (4 + ol vo))) := by simp [msgBytes, msgBody, Lib.beBytes_length, sBytes_len]; omega
  have hrl := h.lt
  refine (enc97_113 W.heap.size r (fun w => MsgAt w W.heap.size r 0 false sec nsec ko vo true) (fun w => MsgAt w W.heap.size r 0 false sec nsec ko vo false) (fun _ => True) [r] (msgBytes 0 false [] ko vo) W (by omega) h rfl (fun x hx => by simp at hx; omega) ?_ ?_ ?_ ?_).mono ?_
  · intro w1 w2 h1 hk
    exact h1.kept hk (fun s hs => by cases hs) (by simp)
  · intro w1 p h1 hp hpe
    refine (e155p0 p 0 W.heap.size r false sec nsec ko vo [] w1 hpe (by omega) (by simp) h1 hko hvo hp hrl rfl).mono ?_
    rintro e w' ⟨rfl, h2, h3, h4⟩
    refine ⟨rfl, ?_, h3, h4⟩
    rw [hrb]
    rw [show 4 + (2 + (4 + ol ko + (4 + ol vo))) = 0 + 4 + 1 + 1 + (4 + ol ko) + (4 + ol vo) by omega]
    exact h2
  · rintro w1 w2 S h1 hk hS
    exact h1.kept hk (fun s hs => .inl (hS s hs)) (fun hm => by have := hS r hm; omega)
  · rintro w1 p g h1 hp hg hrx
    refine (e155r0f p g _ W.heap.size r sec nsec ko vo [] [] w1 hrx (by omega) (by simp) h1 hko hvo hp hg hrl rfl (by simp)).mono ?_
    rintro e w' ⟨rfl, h2, h4⟩
    exact ⟨rfl, by simpa using h2, trivial, h4⟩
  · rintro e w' ⟨g, rfl, h1, h2, _, h3⟩
    exact ⟨g, rfl, h1, h2, h3⟩
theorem ol_nb (x : BP) : ol x.nb ≤ x.2.length := by
  unfold BP.nb nb
  split <;> simp [ol]
theorem d26 (D : Nat) (x : MsgV) (v : Value) (w : World) (h : MIn w D v x) (hD : D ≤ w.heap.size) (hk : x.key.2.length ≤ 300) (hv : x.val.2.length ≤ 300) (h0 : x.ver = 0) (hl : x.la = false) (ht0 : -1 ≤ x.tm) (ht1 : x.tm < 8796093022208) :
    Calls Tryz.prog 26 #[v] w fun e w' => ∃ r, e = .returned (.tuple #[r, .bool true]) ∧ Own w' w.heap.size r (msgBytes 0 false [] x.key.nb x.val.nb) ∧ Below w.heap.size w w' := by
  have hko := ol_nb x.key
  have hvo := ol_nb x.val
  have hbl : (msgBytes 0 false [] x.key.nb x.val.nb).length ≤ 1000000 := by
    have : (msgBytes 0 false [] x.key.nb x.val.nb).length = 4 + (2 + (4 + ol x.key.nb + (4 + ol x.val.nb))) := by simp [msgBytes, msgBody, Lib.beBytes_length, sBytes_len]; omega
    omega
  obtain ⟨kd, vd, rfl, h1, h2⟩ := h
  have hb0 : Below w.heap.size w (w.alloc (.cells #[.int .i8 x.ver, .bool x.la, .int .i64 x.tm, .bool x.key.1, kd, .bool x.val.1, vd] 45)) := (Below.refl _ _).alloc (Nat.le_refl _) _
  have hri : MIn (w.alloc (.cells #[.int .i8 x.ver, .bool x.la, .int .i64 x.tm, .bool x.key.1, kd, .bool x.val.1, vd] 45)) D (.agg #[.int .i8 x.ver, .bool x.la, .int .i64 x.tm, .bool x.key.1, kd, .bool x.val.1, vd]) x :=
    ⟨kd, vd, rfl, h1.below hb0 hD, h2.below hb0 hD⟩
  have HH := Lib.hid (And.intro hri hb0)
  have HE := Lib.hid (And.intro h0 hl)
  clear h1 h2 hri hb0 h0 hl
  go_enter Tryz.func26, Tryz.ntmps26
  go_wp2_with (first
    | (go_at_call 61; refine (f61 D x _ _ (by exact HH.out.1) (by simp; omega) (by omega) (by omega) ht0 ht1).mono ?_; rintro e w1 ⟨r, rfl, hr0, hr1, hra, hb1⟩; rw [HE.out.1, HE.out.2] at hra; have H1 := Lib.hid (And.intro hra hb1); clear hra hb1)
    | (go_at_call 50; refine (f50 113 r (msgBytes 0 false [] x.key.nb x.val.nb) _ hbl hr1 (fun W hW => f81_113 r _ W (f97m0 r _ _ x.key.nb x.val.nb W (by omega) (by omega) ((H1.out.1.kept (Kept.of_below (B := 0) hW []) (fun s hs => by cases hs) (by simp)).mono hW.size)))).mono ?_; rintro e w2 ⟨rv, rfl, ho, hk2⟩))
  have hfin : Own w2 w.heap.size rv (msgBytes 0 false [] x.key.nb x.val.nb) ∧ Below w.heap.size w w2 := by
    have hb := HH.out.2.trans (H1.out.2.mono (by simp))
    exact ⟨⟨World.ownsRow.mono ho.1 hb.size, ho.2⟩, hb.trans ((hk2.mono hb.size (fun x hx => .inl hx)).to_below hb.size (fun x hx => by simp at hx; subst hx; simp at hr0; omega))⟩
  have HF := Lib.hid hfin
  clear ho hk2 hfin
  go_wp2
  go_ret2
  exact ⟨rv, rfl, HF.out⟩
end Go.Proofs.YtmiflkccfieefaaGreatDoor
