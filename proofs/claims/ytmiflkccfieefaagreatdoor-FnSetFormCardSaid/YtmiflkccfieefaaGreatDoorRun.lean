/-
  What the three kinds of fields write when the writing encoder gives them up.
-/
import Derived.Test.YtmiflkccfieefaaGreatDoorCrc
import Derived.Test.YtmiflkccfieefaaGreatDoorReal2
namespace Go.Proofs.YtmiflkccfieefaaGreatDoor
open Go.ChangeShapes Go.WideShapes Go.ChangeAt Go.RowKit
set_option maxRecDepth 100000
set_option linter.unusedVariables false

theorem put32r (g N : Nat) (x : Int) (pre rest : List UInt8) (w : World) (h0 : 0 ≤ x) (h1 : x < 4294967296) (hg : Blk w g 5 (Lib.byteCells (pre ++ rest))) (hN : pre.length + rest.length = N) (hr : 4 ≤ rest.length) :
    Calls Tryz.prog 211 #[.agg #[], .slice (some ⟨g, pre.length, none⟩) (N - pre.length) (N - pre.length), .int .u32 x] w
      fun e w' => e = .returned (.tuple #[]) ∧ Kept w.heap.size [g] w w' ∧ Blk w' g 5 (Lib.byteCells (pre ++ (Lib.beBytes 4 x.toNat ++ rest.drop 4))) := by
  have h := put32 g N x pre rest w hg hN hr
  rw [IntKind.wrap_u32, show x % 4294967296 = x by omega] at h
  exact h
theorem run264 (r o tr g N so : Nat) (n m : Int) (cs : List Value) (a mid rest : List UInt8) (w : World) (hr : Blk w r tr cs) (hso : cs[o]? = some (.int .i64 so)) (hm : cs[o + 1]? = some (.int .i64 m))
    (hm0 : -9223372036854775808 ≤ m) (hm1 : m ≤ 9223372036854775807) (hg : Blk w g 5 (Lib.byteCells (a ++ (mid ++ rest)))) (ha : a.length = so) (hml : mid.length = (vb m).length) (hN : so + mid.length + rest.length = N) (hN1 : N ≤ 1000000000) :
    Calls Tryz.prog 264 #[.pointer (some ⟨r, o, none⟩), .int .i64 n, .slice (some ⟨g, 0, none⟩) N N] w fun e w' => e = .returned .nilIface ∧ Kept w.heap.size [g] w w' ∧ Blk w' g 5 (Lib.byteCells (a ++ (vb m ++ rest))) := by
  have hvp := vb_pos m
  have hcs := (hr.cell o).trans hso
  have hcm := (hr.cell (o + 1)).trans hm
  have hle : so ≤ N := by omega
  have hne : ¬ N = so := by omega
  have HG := Lib.hid (And.intro hg (And.intro ha (And.intro hml hN)))
  have hso1 : so ≤ 1000000000 := by omega
  clear hr hso hm hg hml hN
  subst ha
  go_enter Tryz.func264, Tryz.ntmps264
  go_wp2_with fail
  refine wp_region_still_tail 10 (by kernel_rfl) (by kernel_rfl) ?_
  show wpStill _ _ (World.drew _) (fun a' => wpList _ _ _ _ _ (World.drew _)) _ _
  simp only [List.take_succ_cons, List.take_zero, List.drop_succ_cons, List.drop_zero]
  repeat still_step
  refine wpStill_nil ?_
  go_wp2_with (go_at_call 196; refine (putvar g N m a (mid ++ rest) _ (by exact HG.out.1) (by have := HG.out.2.2.2; simp; omega) hm0 hm1 (by have := HG.out.2.2.1; simp; omega)).mono ?_)
  rintro e w1 ⟨rfl, hk, hs⟩
  replace hk := Kept.undrew hk
  have e1 : (mid ++ rest).drop (vb m).length = rest := by rw [← HG.out.2.2.1]; simp
  rw [e1] at hs
  have HF := Lib.hid (And.intro hk hs)
  clear hk hs e1
  go_wp2
  go_ret
  exact ⟨rfl, HF.out⟩
theorem run279 (r g N so off : Nat) (L : Int) (a mid rest : List UInt8) (w : World) (hr : Blk w r 279 [.int .i64 so, .int .i32 L]) (hg : Blk w g 5 (Lib.byteCells (a ++ (mid ++ rest)))) (ha : a.length = so) (hml : mid.length = 4) (hN : so + mid.length + rest.length = N) (hN1 : N ≤ 1000000000)
    (ho : so + 4 ≤ off) (ho1 : off ≤ N) :
    Calls Tryz.prog 279 #[.pointer (some ⟨r, 0, none⟩), .int .i64 off, .slice (some ⟨g, 0, none⟩) N N] w fun e w' => e = .returned .nilIface ∧ Kept w.heap.size [g] w w' ∧ Blk w' g 5 (Lib.byteCells (a ++ (Lib.beBytes 4 (off - so - 4) ++ rest))) := by
  have hcs := hr.cell 0
  simp at hcs
  have hle : so ≤ N := by omega
  have hne : ¬ N = so := by omega
  have HG := Lib.hid (And.intro hg (And.intro ha (And.intro hml hN)))
  have hso1 : so ≤ 1000000000 := by omega
  have hof1 : off ≤ 1000000000 := by omega
  have e0 : ((off : Int) - so - 4).toNat = off - so - 4 := by omega
  have HE := Lib.hid e0
  have HW1 : IntKind.i64.wrap ((off : Int) - so) = (off : Int) - so := IntWalk.i64_in _ (by omega)
  have HW2 : IntKind.i64.wrap ((off : Int) - so - 4) = (off : Int) - so - 4 := IntWalk.i64_in _ (by omega)
  clear hr hg hml hN e0
  subst ha
  go_enter Tryz.func279, Tryz.ntmps279
  go_wp2_with fail
  refine wp_region_still_tail 15 (by kernel_rfl) (by kernel_rfl) ?_
  show wpStill _ _ (World.drew _) (fun a' => wpList _ _ _ _ _ (World.drew _)) _ _
  simp only [List.take_succ_cons, List.take_zero, List.drop_succ_cons, List.drop_zero]
  repeat still_step
  refine wpStill_nil ?_
  go_wp2_with fail
  refine (put32r g N ((off : Int) - a.length - 4) a (mid ++ rest) _ (by omega) (by omega) (by exact HG.out.1) (by have := HG.out.2.2.2; simp; omega) (by have := HG.out.2.2.1; simp; omega)).mono ?_
  rintro e w1 ⟨rfl, hk, hs⟩
  replace hk := Kept.undrew hk
  have e1 : (mid ++ rest).drop 4 = rest := by rw [← HG.out.2.2.1]; simp
  rw [e1, HE.out] at hs
  have HF := Lib.hid (And.intro hk hs)
  clear hk hs e1
  go_wp2
  go_ret
  exact ⟨rfl, HF.out⟩
theorem run268 (r g so : Nat) (N off : Nat) (a mid body rest : List UInt8) (w : World) (hr : Blk w r 288 [.int .i64 so, .int .i8 0]) (hg : Blk w g 5 (Lib.byteCells (a ++ (mid ++ (body ++ rest)))))
    (ha : a.length = so) (hb1 : 1 ≤ body.length) (hm : mid.length = 4) (hoff : off = so + 4 + body.length) (hN : so + 4 + body.length + rest.length = N) (hN1 : N ≤ 1000000000) :
    Calls Tryz.prog 268 #[.pointer (some ⟨r, 0, none⟩), .int .i64 off, .slice (some ⟨g, 0, none⟩) N N] w fun e w' => e = .returned .nilIface ∧ Kept w.heap.size [g] w w' ∧ Blk w' g 5 (Lib.byteCells (a ++ (Lib.beBytes 4 (crc ieee body).toNat ++ (body ++ rest)))) := by
  have h0 := hr.cell 0
  have h1 := hr.cell 1
  simp at h0 h1
  have hrl := hr.lt
  have hle : so ≤ N := by omega
  have hne : ¬ N = so := by omega
  have hso1 : so ≤ 1000000000 := by omega
  have hcr := crc_range ieee body
  have HG := Lib.hid (And.intro hg (And.intro ha (And.intro hm (And.intro hoff hN))))
  have HC := Lib.hid (c270 r g so N off a mid body rest w h0 h1 hg ha hb1 hm hoff hN hN1)
  have tail : ∀ w1, Kept w.heap.size [] w w1 → w1.cell? ⟨r, 0, none⟩ = some (.int .i64 so) := fun w1 hk => (World.cell?_of_block (hk.block r hrl (by simp) (.inl hrl))).trans h0
  clear hr hg hm hoff hN h1
  subst ha
  go_enter Tryz.func268, Tryz.ntmps268
  go_wp2_with fail
  refine HC.out.mono ?_
  rintro e w1 ⟨rfl, hk1⟩
  have h01 := tail w1 hk1
  have HK1 := Lib.hid hk1
  clear hk1
  generalize hcv : crc ieee body = cv at hcr
  have HCV := Lib.hid hcv
  clear hcv
  go_wp2_with fail
  refine wp_region_still_tail 8 (by kernel_rfl) (by kernel_rfl) ?_
  show wpStill _ _ (World.drew _) (fun a' => wpList _ _ _ _ _ (World.drew _)) _ _
  simp only [List.take_succ_cons, List.take_zero, List.drop_succ_cons, List.drop_zero]
  repeat still_step
  refine wpStill_nil ?_
  go_wp2_with fail
  have hg1 := HG.out.1.kept HK1.out (by simp) (.inl HG.out.1.lt)
  refine (put32r g N cv a (mid ++ (body ++ rest)) _ hcr.1 hcr.2 (by exact hg1) (by have := HG.out.2; simp; omega) (by have := HG.out.2; simp; omega)).mono ?_
  rintro e w2 ⟨rfl, hk, hs⟩
  replace hk := Kept.undrew hk
  have e1 : (mid ++ (body ++ rest)).drop 4 = body ++ rest := by rw [← HG.out.2.2.1]; simp
  rw [e1, ← HCV.out] at hs
  have hk2 : Kept w.heap.size [g] w w2 := HK1.out.trans (hk.mono HK1.out.size (fun x hx => .inl hx)) (fun x hx => by cases hx) (fun x hx => .inl hx)
  have HF := Lib.hid (And.intro hk2 hs)
  clear hk hs e1 hg1 hk2
  go_wp2
  go_ret
  exact ⟨rfl, HF.out⟩
end Go.Proofs.YtmiflkccfieefaaGreatDoor
