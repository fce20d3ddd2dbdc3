/-
  A message of the law's type, and what the encoders take of it.
-/
import Derived.Test.YtmiflkccfieefaaGreatDoorTim
import Derived.Test.YtmiflkccfieefaaGreatDoorRin
import Derived.Test.YtmiflkccfieefaaGreatDoorMsg
namespace Go.Proofs.YtmiflkccfieefaaGreatDoor
open Go.ChangeShapes Go.WideShapes Go.ChangeAt Go.RowKit
set_option maxRecDepth 100000
set_option linter.unusedVariables false
set_option linter.unusedSimpArgs false

/-- A message, as the law's type has it. -/
structure MsgV where
  ver : Int
  la : Bool
  tm : Int
  key : BP
  val : BP
def MIn (w : World) (D : Nat) (v : Value) (x : MsgV) : Prop := ∃ kd vd, v = .agg #[.int .i8 x.ver, .bool x.la, .int .i64 x.tm, .bool x.key.1, kd, .bool x.val.1, vd] ∧ DataAt w D kd x.key.2 ∧ DataAt w D vd x.val.2
theorem box7 {w0 : World} {p t : Nat} {c0 c1 c2 c3 c4 c5 c6 : Value} {W : World} (h : Box w0 p t [c0, c1, c2, c3, c4, c5, c6] W) :
    W.cell? ⟨p, 0, none⟩ = some c0 ∧ W.cell? ⟨p, 1, none⟩ = some c1 ∧ W.cell? ⟨p, 2, none⟩ = some c2 ∧ W.cell? ⟨p, 3, none⟩ = some c3 ∧ W.cell? ⟨p, 4, none⟩ = some c4 ∧ W.cell? ⟨p, 5, none⟩ = some c5 ∧ W.cell? ⟨p, 6, none⟩ = some c6 ∧ Box w0 p t [c0, c1, c2, c3, c4, c5, c6] W :=
  ⟨h.blk.cell 0, h.blk.cell 1, h.blk.cell 2, h.blk.cell 3, h.blk.cell 4, h.blk.cell 5, h.blk.cell 6, h⟩
set_option maxHeartbeats 4000000 in
theorem f61 (D : Nat) (x : MsgV) (v : Value) (w : World) (h : MIn w D v x) (hD : D ≤ w.heap.size) (hk : x.key.2.length ≤ 1000) (hv : x.val.2.length ≤ 1000) (ht0 : -1 ≤ x.tm) (ht1 : x.tm < 8796093022208) :
    Calls Tryz.prog 61 #[v] w fun e w' => ∃ r, e = .returned (.pointer (some ⟨r, 0, none⟩)) ∧ w.heap.size ≤ r ∧ r < w'.heap.size ∧ MsgAt w' w'.heap.size r x.ver x.la (secOf x.tm) (nsecOf x.tm) x.key.nb x.val.nb true ∧ Below w.heap.size w w' := by
  obtain ⟨kd, vd, rfl, h1, h2⟩ := h
  have H := Lib.hid (And.intro h1 h2)
  clear h1 h2
  have hbx : Box w w.heap.size 45 [.int .i8 x.ver, .bool x.la, .int .i64 x.tm, .bool x.key.1, kd, .bool x.val.1, vd] (w.alloc (.cells #[.int .i8 x.ver, .bool x.la, .int .i64 x.tm, .bool x.key.1, kd, .bool x.val.1, vd] 45)).drew :=
    ⟨(Blk.new w 45 [.int .i8 x.ver, .bool x.la, .int .i64 x.tm, .bool x.key.1, kd, .bool x.val.1, vd]).drew, ((Below.refl _ _).alloc (Nat.le_refl _) _).drew, ((Same.refl _).alloc _).drew⟩
  go_enter Tryz.func61, Tryz.ntmps61
  go_wp2_with fail
  go_region_held3 (fun W => W.cell? ⟨w.heap.size, 0, none⟩ = some (.int .i8 x.ver) ∧ W.cell? ⟨w.heap.size, 1, none⟩ = some (.bool x.la) ∧ W.cell? ⟨w.heap.size, 2, none⟩ = some (.int .i64 x.tm) ∧ W.cell? ⟨w.heap.size, 3, none⟩ = some (.bool x.key.1) ∧ W.cell? ⟨w.heap.size, 4, none⟩ = some kd ∧ W.cell? ⟨w.heap.size, 5, none⟩ = some (.bool x.val.1) ∧ W.cell? ⟨w.heap.size, 6, none⟩ = some vd ∧ Box w w.heap.size 45 [.int .i8 x.ver, .bool x.la, .int .i64 x.tm, .bool x.key.1, kd, .bool x.val.1, vd] W)
    (first | with_reducible exact box7 hbx | with_reducible exact box7 hbx1 | with_reducible exact box7 hbx2 | with_reducible exact box7 hbx3 | with_reducible exact box7 (Box.alloc hbx3 _))
    (first | (go_at_call 87; refine (t87 x.tm _ ht0 ht1).mono ?_; rintro e w1 ⟨rfl, hb1⟩; have hbx1 := Box.call hbx hb1) | (go_at_call_of 82 (Value.agg #[.bool x.key.1, kd]); refine (raw x.key.1 kd x.key.2 D _ (H.out.1.below hbx1.bel hD) (by omega) (by have := hbx1.bel.size; omega)).mono ?_; rintro e w2 ⟨kv, rfl, hkv, hb2⟩; obtain ⟨kA, kn, kc, hkf⟩ := hkv.form; subst hkf; have hbx2 := Box.call hbx1 hb2) | (go_at_call_of 82 (Value.agg #[.bool x.val.1, vd]); refine (raw x.val.1 vd x.val.2 D _ (H.out.2.below hbx2.bel hD) (by omega) (by have := hbx2.bel.size; omega)).mono ?_; rintro e w3 ⟨vv, rfl, hvv, hb3⟩; obtain ⟨vA, vn, vc, hvf⟩ := hvv.form; subst hvf; have hbx3 := Box.call hbx2 hb3))
  have hws := hbx3.bel.size
  have hF : MsgAt (w3.alloc (.cells #[.int .i8 0, .int .i64 0, .bool x.la, .slice kA kn kc, .slice vA vn vc, .pointer none, .int .i8 x.ver, .int .i64 (secOf x.tm), .int .i64 (nsecOf x.tm), .slice none 0 0, .int .i64 0] 120)) (w3.alloc (.cells #[.int .i8 0, .int .i64 0, .bool x.la, .slice kA kn kc, .slice vA vn vc, .pointer none, .int .i8 x.ver, .int .i64 (secOf x.tm), .int .i64 (nsecOf x.tm), .slice none 0 0, .int .i64 0] 120)).heap.size w3.heap.size x.ver x.la (secOf x.tm) (nsecOf x.tm) x.key.nb x.val.nb true := by
    have hbA : Below w3.heap.size w3 (w3.alloc (.cells #[.int .i8 0, .int .i64 0, .bool x.la, .slice kA kn kc, .slice vA vn vc, .pointer none, .int .i8 x.ver, .int .i64 (secOf x.tm), .int .i64 (nsecOf x.tm), .slice none 0 0, .int .i64 0] 120)) := (Below.refl _ _).alloc (Nat.le_refl _) _
    exact ⟨_, _, _, _, Blk.new w3 120 [.int .i8 0, .int .i64 0, .bool x.la, .slice kA kn kc, .slice vA vn vc, .pointer none, .int .i8 x.ver, .int .i64 (secOf x.tm), .int .i64 (nsecOf x.tm), .slice none 0 0, .int .i64 0], ((hkv.below hb3 (Nat.le_refl _)).mono hb3.size).below hbA (Nat.le_refl _) |>.mono hbA.size, (hvv.below hbA (Nat.le_refl _)).mono hbA.size, rfl⟩
  have HF := Lib.hid (And.intro hF (hbx3.bel.alloc hws (.cells #[.int .i8 0, .int .i64 0, .bool x.la, .slice kA kn kc, .slice vA vn vc, .pointer none, .int .i8 x.ver, .int .i64 (secOf x.tm), .int .i64 (nsecOf x.tm), .slice none 0 0, .int .i64 0] 120)))
  clear hF hkv hvv hb1 hb2 hb3 hbx hbx1 hbx2 hbx3
  rename_i hHeld
  clear hHeld
  go_wp2
  go_ret
  exact ⟨w3.heap.size, rfl, hws, by simp, HF.out⟩
end Go.Proofs.YtmiflkccfieefaaGreatDoor
