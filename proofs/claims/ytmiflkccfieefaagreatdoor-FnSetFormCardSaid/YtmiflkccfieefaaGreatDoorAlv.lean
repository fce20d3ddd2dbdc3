/-
  A record and a message are written and read: laws.recordsAlive.
-/
import Derived.Test.YtmiflkccfieefaaGreatDoorMw
import Derived.Test.YtmiflkccfieefaaGreatDoorRw
import Derived.Lib.SlBytesConst
namespace Go.Proofs.YtmiflkccfieefaaGreatDoor
open Go.ChangeShapes Go.WideShapes Go.ChangeAt Go.RowKit
set_option maxRecDepth 100000
set_option linter.unusedVariables false
set_option linter.unusedSimpArgs false

def aRec : RecV := ⟨0, 0, 0, (true, []), (false, [97]), []⟩
def aMsg : MsgV := ⟨0, false, -1, (true, []), (false, [97])⟩
theorem aRec_fits : aRec.fits := by
  refine ⟨?_, ?_, ?_, ?_, ?_, ?_, ?_, ?_, ?_, ?_⟩ <;> simp [aRec, BP.nb, nb, ol, RecV.hb]
theorem aRec_bytes : aRec.bytes = recBytes 0 0 0 none (some [97]) [] := rfl
theorem aMsg_len : (msgBytes 0 false [] aMsg.key.nb aMsg.val.nb).length = 15 := by
  simp [msgBytes, msgBody, Lib.beBytes_length, sBytes_len, aMsg, BP.nb, nb, ol]
/-- Bytes that a slice literal lays. -/
theorem lit_data (w : World) : DataAt (w.alloc (.cells #[.int .u8 97] 5 (1, 2))) (w.heap.size + 1) (.slice (some ⟨w.heap.size, 0, none⟩) 1 1) [97] := by
  refine .inl ⟨⟨w.heap.size, 0, none⟩, 1, #[.int .u8 97], (1, 2), rfl, by simp, heap_alloc_new _ _, fun j u hj => ?_⟩
  have hc : ∀ k, (w.alloc (.cells #[.int .u8 97] 5 (1, 2))).cell? ⟨w.heap.size, k, none⟩ = (#[Value.int .u8 97] : Array Value)[k]? := fun k => cell_of_row _ _ _ _ _ _ (heap_alloc_new _ _)
  match j, hj with
  | 0, hj =>
    have e : (⟨w.heap.size, 0, none⟩ : Addr).add 0 = ⟨w.heap.size, 0, none⟩ := rfl
    rw [e, hc]
    simpa [Lib.byteCells] using hj
  | j + 1, hj => simp [Lib.byteCells] at hj
theorem lit_msg (w : World) (cs : List Value) : MIn ((w.alloc (.cells cs.toArray 28)).alloc (.cells #[.int .u8 97] 5 (1, 2))) (w.heap.size + 2) (.agg #[.int .i8 0, .bool false, .int .i64 (-1), .bool true, .slice none 0 0, .bool false, .slice (some ⟨w.heap.size + 1, 0, none⟩) 1 1]) aMsg := by
  have h := lit_data (w.alloc (.cells cs.toArray 28))
  rw [show (w.alloc (.cells cs.toArray 28)).heap.size = w.heap.size + 1 by simp] at h
  exact ⟨_, _, rfl, .inr (.inl ⟨rfl, rfl⟩), h⟩
theorem rin_form {w : World} {D : Nat} {rv : Value} (h : RIn w D rv (recV 0 0 0 none (some [97]) [])) : ∃ kA kn kc vA vn vc hA hn hc, rv = .agg #[.int .i8 0, .int .i64 0, .int .i64 0, .bool true, .slice kA kn kc, .bool false, .slice vA vn vc, .slice hA hn hc] ∧ DataAt w D (.slice vA vn vc) [97] := by
  obtain ⟨kd, vd, hv, rfl, h1, h2, h3⟩ := h
  obtain ⟨kA, kc, rfl⟩ := h1.sl
  obtain ⟨vA, vc, rfl⟩ := h2.sl
  obtain ⟨hA, hc, rfl, _⟩ := h3
  exact ⟨_, _, _, _, _, _, _, _, _, rfl, h2⟩
theorem f15 (w : World) : Calls Tryz.prog 15 #[] w fun e w' => e = .returned (.bool true) ∧ Below w.heap.size w w' := by
  have h0 := lit_data w
  have hb0 : Below w.heap.size w (w.alloc (.cells #[.int .u8 97] 5 (1, 2))) := (Below.refl _ _).alloc (Nat.le_refl _) _
  have hri : RIn (w.alloc (.cells #[.int .u8 97] 5 (1, 2))) (w.heap.size + 1) (.agg #[.int .i8 0, .int .i64 0, .int .i64 0, .bool true, .slice none 0 0, .bool false, .slice (some ⟨w.heap.size, 0, none⟩) 1 1, .slice none 0 0]) aRec :=
    ⟨_, _, _, rfl, .inr (.inl ⟨rfl, rfl⟩), h0, none, 0, rfl, fun h => absurd rfl h⟩
  have kc := fun (w : World) (C : Array Value) (n c : Nat) => Lib.run_convert_bytes_const (P := Tryz.prog) w 23 5 C n c Tryz.underlying23 Tryz.underlying5
  have H0 := Lib.hid (And.intro hri hb0)
  clear h0 hri hb0
  go_enter Tryz.func15, Tryz.ntmps15
  go_wp2_with (first
    | (go_at_call 17; refine (d17 (w.heap.size + 1) aRec _ _ (by exact H0.out.1) (by simp) aRec_fits (by simp [aRec]) (by simp [aRec]) (fun h hh => by simp [aRec] at hh)).mono ?_; rintro e w1 ⟨r1, rfl, ho1, hb1⟩; rw [aRec_bytes] at ho1; obtain ⟨g1, c1, rfl, hraw1, hg1⟩ := ho1.raw; have H1 := Lib.hid (And.intro ho1 hb1); clear ho1 hb1 hraw1)
    | (go_at_call 18; refine (d18 w1.heap.size 0 0 0 none (some [97]) [] [] _ w1 (by rw [List.append_nil]; exact .inl (Own.bytes H1.out.1 rfl)) (Nat.le_refl _) aRec_fits (by simp)).mono ?_; rintro e w2 ⟨rv, rfl, hr2, hb2⟩; obtain ⟨kA2, kn2, kc2, vA2, vn2, vc2, hA2, hn2, hc2, rfl, hd2⟩ := rin_form hr2; have H2 := Lib.hid (And.intro hd2 hb2); clear hr2 hd2 hb2; have hm3 := lit_msg w2 [.int .i8 0, .int .i64 0, .int .i64 0, .bool true, .slice kA2 kn2 kc2, .bool false, .slice vA2 vn2 vc2, .slice hA2 hn2 hc2]; have H3 := Lib.hid hm3; clear hm3; have kcv := kc (w2.alloc (.cells #[.int .i8 0, .int .i64 0, .int .i64 0, .bool true, .slice kA2 kn2 kc2, .bool false, .slice vA2 vn2 vc2, .slice hA2 hn2 hc2] 28)) #[.int .u8 97] 1 1; rw [show (w2.alloc (.cells #[.int .i8 0, .int .i64 0, .int .i64 0, .bool true, .slice kA2 kn2 kc2, .bool false, .slice vA2 vn2 vc2, .slice hA2 hn2 hc2] 28)).heap.size = w2.heap.size + 1 by simp] at kcv)
    | (go_at_call 26; refine (d26 (w2.heap.size + 2) aMsg _ _ (by exact H3.out) (by simp) (by simp [aMsg]) (by simp [aMsg]) rfl rfl (by simp [aMsg]) (by simp [aMsg])).mono ?_; rintro e w4 ⟨r4, rfl, ho4, hb4⟩; obtain ⟨g4, c4, hv4, hraw4, hg4⟩ := ho4.raw; rw [aMsg_len] at hv4; subst hv4; have hB4 : Blk w4 w2.heap.size 28 [.int .i8 0, .int .i64 0, .int .i64 0, .bool true, .slice kA2 kn2 kc2, .bool false, .slice vA2 vn2 vc2, .slice hA2 hn2 hc2] := ((Blk.new w2 28 [.int .i8 0, .int .i64 0, .int .i64 0, .bool true, .slice kA2 kn2 kc2, .bool false, .slice vA2 vn2 vc2, .slice hA2 hn2 hc2]).alloc _).below hb4 (by simp; omega); have x3 := hB4.cell 3; have x6 := hB4.cell 6; simp only [List.getElem?_cons_zero, List.getElem?_cons_succ] at x3 x6; have ks := run_str w4 w4.heap.size (.slice vA2 vn2 vc2) [97] ((H2.out.1.below (C := w2.heap.size) ((((Below.refl _ _).alloc (Nat.le_refl _) _).alloc (by simp) _).trans (hb4.mono (by simp; omega))) (Nat.le_refl _)).mono (by have := hb4.size; simp at this; omega)); have H4 := Lib.hid hb4; clear ho4 hb4 hraw4 hB4))
  have q1 := H0.out.2.trans (H1.out.2.mono (by simp))
  have q2 := q1.trans (H2.out.2.mono q1.size)
  have hF : Below w.heap.size w w4 := ((q2.alloc q2.size _).alloc (by have := q2.size; simp; omega) _).trans (H4.out.mono (by have := q2.size; simp; omega))
  have HF := Lib.hid hF
  clear q1 q2 hF
  go_wp2
  go_ret
  exact ⟨rfl, HF.out⟩
end Go.Proofs.YtmiflkccfieefaaGreatDoor
