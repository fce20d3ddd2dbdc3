/-
  The reference's whole numbers, the greatest byte first: spec.Big.
-/
import Derived.Test.YtmiflkccfieefaaGreatDoorByt
import Derived.Test.YtmiflkccfieefaaGreatDoorCrc
import Derived.Test.YtmiflkccfieefaaGreatDoorMin
import Derived.Test.YtmiflkccfieefaaGreatDoorBtr
namespace Go.Proofs.YtmiflkccfieefaaGreatDoor
open Go.ChangeShapes Go.WideShapes Go.ChangeAt Go.RowKit
set_option maxRecDepth 100000
set_option linter.unusedVariables false
set_option linter.unusedSimpArgs false

theorem own1_own {w : World} {B : Nat} {v : Value} {l : List UInt8} (h : Own1 w B v l) (hl : 1 ≤ l.length) : Own w B v l :=
  ⟨h, fun e => by
    rcases h.2 with ⟨_, h0⟩ | ⟨g, cap, cur, h0, _⟩
    · simp [Lib.byteCells] at h0
      subst h0
      simp at hl
    · rw [h0] at e
      cases e⟩
theorem big4_list (x : Int) : [byteOf (x / 16777216 % 256), byteOf (x / 65536 % 256), byteOf (x / 256 % 256), byteOf (x % 256)] = Lib.beBytes 4 (x % 4294967296).toNat := by
  unfold Lib.beBytes
  simp only [Lib.leBytes, List.reverse_cons, List.reverse_nil, List.nil_append, List.cons_append, Nat.div_div_eq_div_mul, Nat.reduceMul]
  unfold byteOf
  rw [show ((x % 4294967296).toNat / 16777216 % 256) = (x / 16777216 % 256 % 256).toNat by omega]
  rw [show ((x % 4294967296).toNat / 65536 % 256) = (x / 65536 % 256 % 256).toNat by omega]
  rw [show ((x % 4294967296).toNat / 256 % 256) = (x / 256 % 256 % 256).toNat by omega]
  rw [show ((x % 4294967296).toNat % 256) = (x % 256 % 256).toNat by omega]
set_option maxHeartbeats 2000000 in
theorem f37_4 (x : Int) (h0 : -9223372036854775808 ≤ x) (h1 : x ≤ 9223372036854775807) (w : World) :
    Calls Tryz.prog 37 #[.int .i64 x, .int .i64 4] w fun e w' => ∃ v, e = .returned v ∧ Own w' w.heap.size v (Lib.beBytes 4 (x % 4294967296).toNat) ∧ Below w.heap.size w w' := by
  have HL := Lib.hid (big4_list x)
  go_enter Tryz.func37, Tryz.ntmps37
  go_wp2
  go_loopw [5, 6] (fun vb i wr => Below w.heap.size w wr ∧ ((i = .int .i64 3 ∧ Own1 wr w.heap.size vb []) ∨ (i = .int .i64 2 ∧ Own1 wr w.heap.size vb [byteOf (x / 16777216 % 256)]) ∨ (i = .int .i64 1 ∧ Own1 wr w.heap.size vb [byteOf (x / 16777216 % 256), byteOf (x / 65536 % 256)]) ∨ (i = .int .i64 0 ∧ Own1 wr w.heap.size vb [byteOf (x / 16777216 % 256), byteOf (x / 65536 % 256), byteOf (x / 256 % 256)]) ∨ (i = .int .i64 (-1) ∧ Own1 wr w.heap.size vb [byteOf (x / 16777216 % 256), byteOf (x / 65536 % 256), byteOf (x / 256 % 256), byteOf (x % 256)]))) (fun _ i _ => ((intOf i) + 1).toNat)
  case atStart => exact ⟨Below.refl _ _, .inl ⟨rfl, Own1.nil _ _⟩⟩
  case round =>
    obtain ⟨hnx, hrel⟩ := hrel
    have hsz := hnx.size
    rcases hrel with ⟨rfl, hown1⟩ | ⟨rfl, hown1⟩ | ⟨rfl, hown1⟩ | ⟨rfl, hown1⟩ | ⟨rfl, hown1⟩
    · have hone := one_bytes wr (x / 16777216 % 256) (by omega) (by omega)
      have hb1 : Below wr.heap.size wr (wr.alloc (.cells #[.int .u8 (x / 16777216 % 256)] 5)) := (Below.refl _ _).alloc (Nat.le_refl _) _
      have ho1 := hown1.below hb1 (Nat.le_refl _)
      go_wp2_with (at_builtin; refine wpList_app rfl _ _ rfl w.heap.size _ _ [] [byteOf (x / 16777216 % 256)] _ rfl rfl ho1 (.inl hone) (by simp) (by simp; omega) ?_)
      intro v' w1 hown' hnil hbel hat hgr
      have HR := Lib.hid (And.intro ((hnx.trans (hb1.mono hsz)).trans hbel) hown')
      clear hown' hnil hbel hat hgr
      go_wp2
      go_roundw
      case rel => exact ⟨HR.out.1, .inr (.inl ⟨rfl, HR.out.2⟩)⟩
      case measure => simp [intOf]
    · have hone := one_bytes wr (x / 65536 % 256) (by omega) (by omega)
      have hb1 : Below wr.heap.size wr (wr.alloc (.cells #[.int .u8 (x / 65536 % 256)] 5)) := (Below.refl _ _).alloc (Nat.le_refl _) _
      have ho1 := hown1.below hb1 (Nat.le_refl _)
      go_wp2_with (at_builtin; refine wpList_app rfl _ _ rfl w.heap.size _ _ [byteOf (x / 16777216 % 256)] [byteOf (x / 65536 % 256)] _ rfl rfl ho1 (.inl hone) (by simp) (by simp; omega) ?_)
      intro v' w1 hown' hnil hbel hat hgr
      have HR := Lib.hid (And.intro ((hnx.trans (hb1.mono hsz)).trans hbel) hown')
      clear hown' hnil hbel hat hgr
      go_wp2
      go_roundw
      case rel => exact ⟨HR.out.1, .inr (.inr (.inl ⟨rfl, HR.out.2⟩))⟩
      case measure => simp [intOf]
    · have hone := one_bytes wr (x / 256 % 256) (by omega) (by omega)
      have hb1 : Below wr.heap.size wr (wr.alloc (.cells #[.int .u8 (x / 256 % 256)] 5)) := (Below.refl _ _).alloc (Nat.le_refl _) _
      have ho1 := hown1.below hb1 (Nat.le_refl _)
      go_wp2_with (at_builtin; refine wpList_app rfl _ _ rfl w.heap.size _ _ [byteOf (x / 16777216 % 256), byteOf (x / 65536 % 256)] [byteOf (x / 256 % 256)] _ rfl rfl ho1 (.inl hone) (by simp) (by simp; omega) ?_)
      intro v' w1 hown' hnil hbel hat hgr
      have HR := Lib.hid (And.intro ((hnx.trans (hb1.mono hsz)).trans hbel) hown')
      clear hown' hnil hbel hat hgr
      go_wp2
      go_roundw
      case rel => exact ⟨HR.out.1, .inr (.inr (.inr (.inl ⟨rfl, HR.out.2⟩)))⟩
      case measure => simp [intOf]
    · have hone := one_bytes wr (x % 256) (by omega) (by omega)
      have hb1 : Below wr.heap.size wr (wr.alloc (.cells #[.int .u8 (x % 256)] 5)) := (Below.refl _ _).alloc (Nat.le_refl _) _
      have ho1 := hown1.below hb1 (Nat.le_refl _)
      go_wp2_with (at_builtin; refine wpList_app rfl _ _ rfl w.heap.size _ _ [byteOf (x / 16777216 % 256), byteOf (x / 65536 % 256), byteOf (x / 256 % 256)] [byteOf (x % 256)] _ rfl rfl ho1 (.inl hone) (by simp) (by simp; omega) ?_)
      intro v' w1 hown' hnil hbel hat hgr
      have HR := Lib.hid (And.intro ((hnx.trans (hb1.mono hsz)).trans hbel) hown')
      clear hown' hnil hbel hat hgr
      go_wp2
      go_roundw
      case rel => exact ⟨HR.out.1, .inr (.inr (.inr (.inr (⟨rfl, HR.out.2⟩))))⟩
      case measure => simp [intOf]
    · have HR := Lib.hid (And.intro hnx (own1_own hown1 (by simp)))
      go_wp2
      go_ret
      exact ⟨_, rfl, by rw [← HL.out]; exact HR.out.2, HR.out.1⟩
theorem big8_list (x : Int) : [byteOf (x / 72057594037927936 % 256), byteOf (x / 281474976710656 % 256), byteOf (x / 1099511627776 % 256), byteOf (x / 4294967296 % 256), byteOf (x / 16777216 % 256), byteOf (x / 65536 % 256), byteOf (x / 256 % 256), byteOf (x % 256)] = Lib.beBytes 8 (x % 18446744073709551616).toNat := by
  unfold Lib.beBytes
  simp only [Lib.leBytes, List.reverse_cons, List.reverse_nil, List.nil_append, List.cons_append, Nat.div_div_eq_div_mul, Nat.reduceMul]
  unfold byteOf
  rw [show ((x % 18446744073709551616).toNat / 72057594037927936 % 256) = (x / 72057594037927936 % 256 % 256).toNat by omega]
  rw [show ((x % 18446744073709551616).toNat / 281474976710656 % 256) = (x / 281474976710656 % 256 % 256).toNat by omega]
  rw [show ((x % 18446744073709551616).toNat / 1099511627776 % 256) = (x / 1099511627776 % 256 % 256).toNat by omega]
  rw [show ((x % 18446744073709551616).toNat / 4294967296 % 256) = (x / 4294967296 % 256 % 256).toNat by omega]
  rw [show ((x % 18446744073709551616).toNat / 16777216 % 256) = (x / 16777216 % 256 % 256).toNat by omega]
  rw [show ((x % 18446744073709551616).toNat / 65536 % 256) = (x / 65536 % 256 % 256).toNat by omega]
  rw [show ((x % 18446744073709551616).toNat / 256 % 256) = (x / 256 % 256 % 256).toNat by omega]
  rw [show ((x % 18446744073709551616).toNat % 256) = (x % 256 % 256).toNat by omega]
set_option maxHeartbeats 2000000 in
theorem f37_8 (x : Int) (h0 : -9223372036854775808 ≤ x) (h1 : x ≤ 9223372036854775807) (w : World) :
    Calls Tryz.prog 37 #[.int .i64 x, .int .i64 8] w fun e w' => ∃ v, e = .returned v ∧ Own w' w.heap.size v (Lib.beBytes 8 (x % 18446744073709551616).toNat) ∧ Below w.heap.size w w' := by
  have HL := Lib.hid (big8_list x)
  go_enter Tryz.func37, Tryz.ntmps37
  go_wp2
  go_loopw [5, 6] (fun vb i wr => Below w.heap.size w wr ∧ ((i = .int .i64 7 ∧ Own1 wr w.heap.size vb []) ∨ (i = .int .i64 6 ∧ Own1 wr w.heap.size vb [byteOf (x / 72057594037927936 % 256)]) ∨ (i = .int .i64 5 ∧ Own1 wr w.heap.size vb [byteOf (x / 72057594037927936 % 256), byteOf (x / 281474976710656 % 256)]) ∨ (i = .int .i64 4 ∧ Own1 wr w.heap.size vb [byteOf (x / 72057594037927936 % 256), byteOf (x / 281474976710656 % 256), byteOf (x / 1099511627776 % 256)]) ∨ (i = .int .i64 3 ∧ Own1 wr w.heap.size vb [byteOf (x / 72057594037927936 % 256), byteOf (x / 281474976710656 % 256), byteOf (x / 1099511627776 % 256), byteOf (x / 4294967296 % 256)]) ∨ (i = .int .i64 2 ∧ Own1 wr w.heap.size vb [byteOf (x / 72057594037927936 % 256), byteOf (x / 281474976710656 % 256), byteOf (x / 1099511627776 % 256), byteOf (x / 4294967296 % 256), byteOf (x / 16777216 % 256)]) ∨ (i = .int .i64 1 ∧ Own1 wr w.heap.size vb [byteOf (x / 72057594037927936 % 256), byteOf (x / 281474976710656 % 256), byteOf (x / 1099511627776 % 256), byteOf (x / 4294967296 % 256), byteOf (x / 16777216 % 256), byteOf (x / 65536 % 256)]) ∨ (i = .int .i64 0 ∧ Own1 wr w.heap.size vb [byteOf (x / 72057594037927936 % 256), byteOf (x / 281474976710656 % 256), byteOf (x / 1099511627776 % 256), byteOf (x / 4294967296 % 256), byteOf (x / 16777216 % 256), byteOf (x / 65536 % 256), byteOf (x / 256 % 256)]) ∨ (i = .int .i64 (-1) ∧ Own1 wr w.heap.size vb [byteOf (x / 72057594037927936 % 256), byteOf (x / 281474976710656 % 256), byteOf (x / 1099511627776 % 256), byteOf (x / 4294967296 % 256), byteOf (x / 16777216 % 256), byteOf (x / 65536 % 256), byteOf (x / 256 % 256), byteOf (x % 256)]))) (fun _ i _ => ((intOf i) + 1).toNat)
  case atStart => exact ⟨Below.refl _ _, .inl ⟨rfl, Own1.nil _ _⟩⟩
  case round =>
    obtain ⟨hnx, hrel⟩ := hrel
    have hsz := hnx.size
    rcases hrel with ⟨rfl, hown1⟩ | ⟨rfl, hown1⟩ | ⟨rfl, hown1⟩ | ⟨rfl, hown1⟩ | ⟨rfl, hown1⟩ | ⟨rfl, hown1⟩ | ⟨rfl, hown1⟩ | ⟨rfl, hown1⟩ | ⟨rfl, hown1⟩
    · have hone := one_bytes wr (x / 72057594037927936 % 256) (by omega) (by omega)
      have hb1 : Below wr.heap.size wr (wr.alloc (.cells #[.int .u8 (x / 72057594037927936 % 256)] 5)) := (Below.refl _ _).alloc (Nat.le_refl _) _
      have ho1 := hown1.below hb1 (Nat.le_refl _)
      go_wp2_with (at_builtin; refine wpList_app rfl _ _ rfl w.heap.size _ _ [] [byteOf (x / 72057594037927936 % 256)] _ rfl rfl ho1 (.inl hone) (by simp) (by simp; omega) ?_)
      intro v' w1 hown' hnil hbel hat hgr
      have HR := Lib.hid (And.intro ((hnx.trans (hb1.mono hsz)).trans hbel) hown')
      clear hown' hnil hbel hat hgr
      go_wp2
      go_roundw
      case rel => exact ⟨HR.out.1, .inr (.inl ⟨rfl, HR.out.2⟩)⟩
      case measure => simp [intOf]
    · have hone := one_bytes wr (x / 281474976710656 % 256) (by omega) (by omega)
      have hb1 : Below wr.heap.size wr (wr.alloc (.cells #[.int .u8 (x / 281474976710656 % 256)] 5)) := (Below.refl _ _).alloc (Nat.le_refl _) _
      have ho1 := hown1.below hb1 (Nat.le_refl _)
      go_wp2_with (at_builtin; refine wpList_app rfl _ _ rfl w.heap.size _ _ [byteOf (x / 72057594037927936 % 256)] [byteOf (x / 281474976710656 % 256)] _ rfl rfl ho1 (.inl hone) (by simp) (by simp; omega) ?_)
      intro v' w1 hown' hnil hbel hat hgr
      have HR := Lib.hid (And.intro ((hnx.trans (hb1.mono hsz)).trans hbel) hown')
      clear hown' hnil hbel hat hgr
      go_wp2
      go_roundw
      case rel => exact ⟨HR.out.1, .inr (.inr (.inl ⟨rfl, HR.out.2⟩))⟩
      case measure => simp [intOf]
    · have hone := one_bytes wr (x / 1099511627776 % 256) (by omega) (by omega)
      have hb1 : Below wr.heap.size wr (wr.alloc (.cells #[.int .u8 (x / 1099511627776 % 256)] 5)) := (Below.refl _ _).alloc (Nat.le_refl _) _
      have ho1 := hown1.below hb1 (Nat.le_refl _)
      go_wp2_with (at_builtin; refine wpList_app rfl _ _ rfl w.heap.size _ _ [byteOf (x / 72057594037927936 % 256), byteOf (x / 281474976710656 % 256)] [byteOf (x / 1099511627776 % 256)] _ rfl rfl ho1 (.inl hone) (by simp) (by simp; omega) ?_)
      intro v' w1 hown' hnil hbel hat hgr
      have HR := Lib.hid (And.intro ((hnx.trans (hb1.mono hsz)).trans hbel) hown')
      clear hown' hnil hbel hat hgr
      go_wp2
      go_roundw
      case rel => exact ⟨HR.out.1, .inr (.inr (.inr (.inl ⟨rfl, HR.out.2⟩)))⟩
      case measure => simp [intOf]
    · have hone := one_bytes wr (x / 4294967296 % 256) (by omega) (by omega)
      have hb1 : Below wr.heap.size wr (wr.alloc (.cells #[.int .u8 (x / 4294967296 % 256)] 5)) := (Below.refl _ _).alloc (Nat.le_refl _) _
      have ho1 := hown1.below hb1 (Nat.le_refl _)
      go_wp2_with (at_builtin; refine wpList_app rfl _ _ rfl w.heap.size _ _ [byteOf (x / 72057594037927936 % 256), byteOf (x / 281474976710656 % 256), byteOf (x / 1099511627776 % 256)] [byteOf (x / 4294967296 % 256)] _ rfl rfl ho1 (.inl hone) (by simp) (by simp; omega) ?_)
      intro v' w1 hown' hnil hbel hat hgr
      have HR := Lib.hid (And.intro ((hnx.trans (hb1.mono hsz)).trans hbel) hown')
      clear hown' hnil hbel hat hgr
      go_wp2
      go_roundw
      case rel => exact ⟨HR.out.1, .inr (.inr (.inr (.inr (.inl ⟨rfl, HR.out.2⟩))))⟩
      case measure => simp [intOf]
    · have hone := one_bytes wr (x / 16777216 % 256) (by omega) (by omega)
      have hb1 : Below wr.heap.size wr (wr.alloc (.cells #[.int .u8 (x / 16777216 % 256)] 5)) := (Below.refl _ _).alloc (Nat.le_refl _) _
      have ho1 := hown1.below hb1 (Nat.le_refl _)
      go_wp2_with (at_builtin; refine wpList_app rfl _ _ rfl w.heap.size _ _ [byteOf (x / 72057594037927936 % 256), byteOf (x / 281474976710656 % 256), byteOf (x / 1099511627776 % 256), byteOf (x / 4294967296 % 256)] [byteOf (x / 16777216 % 256)] _ rfl rfl ho1 (.inl hone) (by simp) (by simp; omega) ?_)
      intro v' w1 hown' hnil hbel hat hgr
      have HR := Lib.hid (And.intro ((hnx.trans (hb1.mono hsz)).trans hbel) hown')
      clear hown' hnil hbel hat hgr
      go_wp2
      go_roundw
      case rel => exact ⟨HR.out.1, .inr (.inr (.inr (.inr (.inr (.inl ⟨rfl, HR.out.2⟩)))))⟩
      case measure => simp [intOf]
    · have hone := one_bytes wr (x / 65536 % 256) (by omega) (by omega)
      have hb1 : Below wr.heap.size wr (wr.alloc (.cells #[.int .u8 (x / 65536 % 256)] 5)) := (Below.refl _ _).alloc (Nat.le_refl _) _
      have ho1 := hown1.below hb1 (Nat.le_refl _)
      go_wp2_with (at_builtin; refine wpList_app rfl _ _ rfl w.heap.size _ _ [byteOf (x / 72057594037927936 % 256), byteOf (x / 281474976710656 % 256), byteOf (x / 1099511627776 % 256), byteOf (x / 4294967296 % 256), byteOf (x / 16777216 % 256)] [byteOf (x / 65536 % 256)] _ rfl rfl ho1 (.inl hone) (by simp) (by simp; omega) ?_)
      intro v' w1 hown' hnil hbel hat hgr
      have HR := Lib.hid (And.intro ((hnx.trans (hb1.mono hsz)).trans hbel) hown')
      clear hown' hnil hbel hat hgr
      go_wp2
      go_roundw
      case rel => exact ⟨HR.out.1, .inr (.inr (.inr (.inr (.inr (.inr (.inl ⟨rfl, HR.out.2⟩))))))⟩
      case measure => simp [intOf]
    · have hone := one_bytes wr (x / 256 % 256) (by omega) (by omega)
      have hb1 : Below wr.heap.size wr (wr.alloc (.cells #[.int .u8 (x / 256 % 256)] 5)) := (Below.refl _ _).alloc (Nat.le_refl _) _
      have ho1 := hown1.below hb1 (Nat.le_refl _)
      go_wp2_with (at_builtin; refine wpList_app rfl _ _ rfl w.heap.size _ _ [byteOf (x / 72057594037927936 % 256), byteOf (x / 281474976710656 % 256), byteOf (x / 1099511627776 % 256), byteOf (x / 4294967296 % 256), byteOf (x / 16777216 % 256), byteOf (x / 65536 % 256)] [byteOf (x / 256 % 256)] _ rfl rfl ho1 (.inl hone) (by simp) (by simp; omega) ?_)
      intro v' w1 hown' hnil hbel hat hgr
      have HR := Lib.hid (And.intro ((hnx.trans (hb1.mono hsz)).trans hbel) hown')
      clear hown' hnil hbel hat hgr
      go_wp2
      go_roundw
      case rel => exact ⟨HR.out.1, .inr (.inr (.inr (.inr (.inr (.inr (.inr (.inl ⟨rfl, HR.out.2⟩)))))))⟩
      case measure => simp [intOf]
    · have hone := one_bytes wr (x % 256) (by omega) (by omega)
      have hb1 : Below wr.heap.size wr (wr.alloc (.cells #[.int .u8 (x % 256)] 5)) := (Below.refl _ _).alloc (Nat.le_refl _) _
      have ho1 := hown1.below hb1 (Nat.le_refl _)
      go_wp2_with (at_builtin; refine wpList_app rfl _ _ rfl w.heap.size _ _ [byteOf (x / 72057594037927936 % 256), byteOf (x / 281474976710656 % 256), byteOf (x / 1099511627776 % 256), byteOf (x / 4294967296 % 256), byteOf (x / 16777216 % 256), byteOf (x / 65536 % 256), byteOf (x / 256 % 256)] [byteOf (x % 256)] _ rfl rfl ho1 (.inl hone) (by simp) (by simp; omega) ?_)
      intro v' w1 hown' hnil hbel hat hgr
      have HR := Lib.hid (And.intro ((hnx.trans (hb1.mono hsz)).trans hbel) hown')
      clear hown' hnil hbel hat hgr
      go_wp2
      go_roundw
      case rel => exact ⟨HR.out.1, .inr (.inr (.inr (.inr (.inr (.inr (.inr (.inr (⟨rfl, HR.out.2⟩))))))))⟩
      case measure => simp [intOf]
    · have HR := Lib.hid (And.intro hnx (own1_own hown1 (by simp)))
      go_wp2
      go_ret
      exact ⟨_, rfl, by rw [← HL.out]; exact HR.out.2, HR.out.1⟩
end Go.Proofs.YtmiflkccfieefaaGreatDoor

/-
  The reference's sum: spec.sum at the IEEE polynomial.
-/
namespace Go.Proofs.YtmiflkccfieefaaGreatDoor
open Go.ChangeShapes Go.WideShapes Go.ChangeAt Go.RowKit
set_option maxRecDepth 100000
set_option linter.unusedVariables false
set_option linter.unusedSimpArgs false

theorem and_p0 (p : Int) (h0 : 0 ≤ p) (h1 : p < 4294967296) : bits .and .u32 p 0 = 0 := by
  rw [u32_and p 0 h0 h1 (by omega) (by omega)]; simp
theorem and_pm (p : Int) (h0 : 0 ≤ p) (h1 : p < 4294967296) : bits .and .u32 p 4294967295 = p := by
  rw [u32_and p 4294967295 h0 h1 (by omega) (by omega)]
  have e : p.toNat &&& (4294967295 : Int).toNat = p.toNat % 2 ^ 32 := by
    rw [← Nat.and_two_pow_sub_one_eq_mod]; rfl
  rw [e]
  omega
theorem and_z1 (z : Int) (h0 : 0 ≤ z) (h1 : z < 4294967296) : bits .and .u32 z 1 = z % 2 := by
  rw [u32_and z 1 h0 h1 (by omega) (by omega)]
  have e : z.toNat &&& (1 : Int).toNat = z.toNat % 2 := by
    rw [show (1 : Int).toNat = 1 from rfl, Nat.and_one_is_mod]
  rw [e]
  omega
theorem xor_z0 (z : Int) (h0 : 0 ≤ z) (h1 : z < 4294967296) : bits .xor .u32 z 0 = z := by
  rw [u32_xor z 0 h0 h1 (by omega) (by omega)]
  simp
  omega
set_option maxHeartbeats 1000000 in
theorem f88 (p : Int) (p0 : 0 ≤ p) (p1 : p < 4294967296) (D : Nat) (v : Value) (l : List UInt8) (w : World) (h : DataAt w D v l) (hl : l.length ≤ 1000000000) :
    Calls Tryz.prog 88 #[v, .int .u32 p] w fun e w' => e = .returned (.int .u32 (crc p l)) ∧ w = w' := by
  have a0 := and_p0 p p0 p1
  have am := and_pm p p0 p1
  obtain ⟨A, c, rfl⟩ := h.sl
  have H := Lib.hid h
  clear h
  have hs0 := xor_range IntKind.u32.max 0
  have HS : Hid (bits .xor .u32 IntKind.u32.max 0 = 4294967295) := xor_z0 4294967295 (by omega) (by omega)
  go_enter Tryz.func88, Tryz.ntmps88
  go_wp2
  go_loop [5, 10] (fun s i => ∃ k : Nat, k ≤ l.length ∧ i = .int .i64 k ∧ s = .int .u32 (crcL p 4294967295 (l.take k))) (fun _ i => l.length - (intOf i).toNat)
  case atStart => exact ⟨0, by omega, rfl, rfl⟩
  case round =>
    obtain ⟨k, hk, rfl, rfl⟩ := hrel
    by_cases hlt : k < l.length
    · rcases H.out.norm with ⟨a, c', he, hc⟩ | ⟨he, hl0⟩
      · injection he with e1 e2 e3
        subst e1
        have hcell := (hc k (.int .u8 ((l[k].toNat : Nat) : Int)) (by simp [Lib.byteCells, hlt])).2
        have HE : Hid (crcL p 4294967295 (l.take (k + 1)) = crcIt p 8 (bits .xor .u32 (crcL p 4294967295 (l.take k)) ((l[k].toNat : Int) % 4294967296))) := by
          rw [List.take_succ_eq_append_getElem hlt, crcL_snoc]
          rfl
        have hb := l[k].toNat_lt
        have hbb : ((l[k].toNat : Int) % 4294967296) = (l[k].toNat : Int) := by omega
        rw [hbb] at HE
        obtain ⟨z0, z1⟩ := xor_range (crcL p 4294967295 (l.take k)) (l[k].toNat : Int)
        generalize hy : bits .xor .u32 (crcL p 4294967295 (l.take k)) (l[k].toNat : Int) = y0 at z0 z1 HE
        have HY := Lib.hid hy
        clear hy hbb e2 e3
        go_wp2
        rw [HY.out]
        go_loop [5, 18] (fun s i => ∃ j : Nat, j ≤ 8 ∧ i = .int .i64 j ∧ s = .int .u32 (crcIt p j y0)) (fun _ i => 8 - (intOf i).toNat)
        case atStart => exact ⟨0, by omega, rfl, rfl⟩
        case round =>
          obtain ⟨j, hj, rfl, rfl⟩ := hrel
          by_cases hj8 : j < 8
          · obtain ⟨y2, y3⟩ := crcIt_range (p := p) z0 z1 j
            have hbit : crcIt p (j + 1) y0 = crcBit p (crcIt p j y0) := rfl
            generalize crcIt p j y0 = z at y2 y3 hbit ⊢
            have HBT := Lib.hid hbit
            have hz1 := and_z1 z y2 y3
            have x0 := xor_z0 (z / 2) (by omega) (by omega)
            clear hbit
            rcases (by omega : z % 2 = 0 ∨ z % 2 = 1) with hp | hp
            · rw [hp] at hz1
              have HC : Hid (crcBit p z = z / 2) := by unfold crcBit; rw [hz1]; rfl
              clear hp
              go_wp2
              go_round
              case rel => exact ⟨j + 1, by omega, by go_num, by rw [HBT.out, HC.out]⟩
              case measure => simp [intOf]; omega
            · rw [hp] at hz1
              have HC : Hid (crcBit p z = bits .xor .u32 (z / 2) p) := by unfold crcBit; rw [hz1]; rfl
              clear hp
              go_wp2
              go_round
              case rel => exact ⟨j + 1, by omega, by go_num, by rw [HBT.out, HC.out]⟩
              case measure => simp [intOf]; omega
          · obtain rfl : j = 8 := by omega
            go_wp2
            go_round
            case rel => exact ⟨k + 1, by omega, by go_num, by rw [HE.out]⟩
            case measure => simp [intOf]; omega
      · simp [hl0] at hlt
    · obtain rfl : k = l.length := by omega
      have hF : crc p l = bits .xor .u32 IntKind.u32.max (crcL p 4294967295 l) := by
        unfold crc
        rw [HS.out]
      have HF := Lib.hid hF
      clear hF
      go_wp2
      go_ret
      exact ⟨by show Ending.returned (Value.int .u32 (bits .xor .u32 IntKind.u32.max (crcL p 4294967295 l))) = _; rw [HF.out], rfl⟩
theorem f60 (D : Nat) (v : Value) (l : List UInt8) (w : World) (h : DataAt w D v l) (hl : l.length ≤ 1000000000) :
    Calls Tryz.prog 60 #[v] w fun e w' => e = .returned (.int .u32 (crc ieee l)) ∧ w = w' := by
  have h88 := f88 ieee (by unfold ieee; omega) (by unfold ieee; omega) D v l w h hl
  rw [show (ieee : Int) = 3988292384 from rfl] at h88
  have H := Lib.hid h
  obtain ⟨A, c, rfl⟩ := h.sl
  clear h
  generalize hv : crc 3988292384 l = cv at h88
  have HV := Lib.hid hv
  clear hv
  go_enter Tryz.func60, Tryz.ntmps60
  go_wp2_with (go_at_call 88; refine h88.mono ?_; rintro e w1 ⟨rfl, rfl⟩)
  go_ret
  exact ⟨by rw [← HV.out]; rfl, rfl⟩
end Go.Proofs.YtmiflkccfieefaaGreatDoor

/-
  The reference's bytes behind their length: spec.sized.
-/
namespace Go.Proofs.YtmiflkccfieefaaGreatDoor
open Go.ChangeShapes Go.WideShapes Go.ChangeAt Go.RowKit
set_option maxRecDepth 100000
set_option linter.unusedVariables false
set_option linter.unusedSimpArgs false

set_option maxHeartbeats 2000000 in
theorem f59 (b : Bool) (dv : Value) (l : List UInt8) (D : Nat) (w : World) (h : DataAt w D dv l) (hl : l.length ≤ 1000000) (hD : D ≤ w.heap.size) :
    Calls Tryz.prog 59 #[.agg #[.bool b, dv]] w fun e w' => ∃ v, e = .returned v ∧ Own w' w.heap.size v (sBytes (nb b l)) ∧ Below w.heap.size w w' := by
  have hb0 : Below w.heap.size w (w.alloc (.cells #[.bool b, dv] 25)) := (Below.refl _ _).alloc (Nat.le_refl _) _
  obtain ⟨A, c, rfl⟩ := h.sl
  have H := Lib.hid (h.below hb0 hD)
  clear h
  cases b with
  | true =>
    have hk := f37_4 (-1) (by omega) (by omega) (w.alloc (.cells #[.bool true, .slice A l.length c] 25))
    go_enter Tryz.func59, Tryz.ntmps59
    go_wp2_with (go_at_call 37; refine hk.mono ?_; rintro e w1 ⟨v, rfl, ho, hb⟩)
    have HR := Lib.hid (show Own w1 w.heap.size v (sBytes (nb true l)) ∧ Below w.heap.size w w1 from ⟨⟨World.ownsRow.mono ho.1 (by simp), ho.2⟩, hb0.trans (hb.mono (by simp))⟩)
    clear ho hb
    go_wp2
    go_ret
    exact ⟨_, rfl, HR.out⟩
  | false =>
    have hll : ((l.length : Int) % 4294967296).toNat = l.length := by omega
    have HL := Lib.hid hll
    clear hll
    go_enter Tryz.func59, Tryz.ntmps59
    go_wp2_with fail
    have hbx : Blk (w.alloc (.cells #[.bool false, .slice A l.length c] 25)).drew w.heap.size 25 [.bool false, .slice A l.length c] := (Blk.new w 25 [.bool false, .slice A l.length c]).drew
    have HD := Lib.hid (show DataAt (w.alloc (.cells #[.bool false, .slice A l.length c] 25)).drew D (.slice A l.length c) l from H.out)
    go_region_held3 (fun W => W.cell? ⟨w.heap.size, 1, none⟩ = some (.slice A l.length c) ∧ Blk W w.heap.size 25 [.bool false, .slice A l.length c])
      (first | go_keep | (have hK := hbx.below hb (by simp); exact ⟨by simpa using hK.cell 1, hK⟩) | (have hK := (hbx.below hb (by simp)).grown ho1 (by decide) hgr2; exact ⟨by simpa using hK.cell 1, hK⟩))
      (first | (go_at_call 37; refine (f37_4 l.length (by omega) (by omega) _).mono ?_; rintro e w1 ⟨v, rfl, ho, hb⟩; have ho1 := World.ownsRow.mono ho.1 (show w.heap.size ≤ _ by simp); rw [HL.out] at ho1 ho) | (refine step_app rfl _ _ rfl w.heap.size _ _ (Lib.beBytes 4 l.length) l D rfl rfl ho1 (HD.out.below hb (by simp; omega)) (by rw [Lib.beBytes_length]; omega) (by have := hb.size; simp at this; omega) ?_; intro v2 w2 ho2 hnil2 hb2 hat2 hgr2))
    have HR := Lib.hid (show Own w2 w.heap.size v2 (sBytes (nb false l)) ∧ Below w.heap.size w w2 from ⟨⟨ho2, fun e => ho.2 (by first | exact (hnil2 e).1 | exact absurd e hnil2)⟩, ((show Below w.heap.size w (w.alloc (.cells #[.bool false, .slice A l.length c] 25)).drew from hb0.drew).trans (hb.mono (by simp))).trans hb2⟩)
    clear ho hb ho1 ho2 hnil2 hb2 hat2 hgr2
    go_wp2
    go_ret
    exact ⟨_, rfl, HR.out⟩
end Go.Proofs.YtmiflkccfieefaaGreatDoor

/-
  The reference's form of a message: spec.MessageBytes.
-/
namespace Go.Proofs.YtmiflkccfieefaaGreatDoor
open Go.ChangeShapes Go.WideShapes Go.ChangeAt Go.RowKit
set_option maxRecDepth 100000
set_option linter.unusedVariables false
set_option linter.unusedSimpArgs false

/-- The time's bytes, of format 1 alone. -/
def tBytes (ver tm : Int) : List UInt8 := if ver = 1 then Lib.beBytes 8 (tm % 18446744073709551616).toNat else []
/-- The message's bytes. -/
def MsgV.bytes (x : MsgV) : List UInt8 := msgBytes x.ver x.la (tBytes x.ver x.tm) x.key.nb x.val.nb
theorem lit2_own (w : World) (B : Nat) (a b : Int) (hB : B ≤ w.heap.size) (a0 : 0 ≤ a) (a1 : a < 256) (b0 : 0 ≤ b) (b1 : b < 256) : Own1 (w.alloc (.cells #[.int .u8 a, .int .u8 b] 5)) B (.slice (some ⟨w.heap.size, 0, none⟩) 2 2) [byteOf a, byteOf b] := by
  have h := World.ownsRow_lit (e := 5) (size := 1) (base := B) w #[.int .u8 a, .int .u8 b] 2 hB (by simp [maxLen]) rfl
  have e : Lib.byteCells [byteOf a, byteOf b] = (#[.int .u8 a, .int .u8 b] : Array Value).toList := by
    have h1 := byteOf_toNat a
    have h2 := byteOf_toNat b
    simp [Lib.byteCells, h1, h2]
    omega
  show World.ownsRow _ _ _ _ _ _ _
  rw [e]
  exact h
theorem sBytes_nb (x : BP) (h : x.2.length ≤ 1000) : (sBytes (nb x.1 x.2)).length ≤ 1004 := by
  unfold nb
  split <;> simp [sBytes, Lib.beBytes_length] <;> omega
theorem own1_forms {w : World} {B : Nat} {v : Value} {l : List UInt8} (h : Own1 w B v l) (hl : 1 ≤ l.length) : ∃ g c, v = .slice (some ⟨g, 0, none⟩) l.length c ∧ BytesAt w w.heap.size v l := by
  have hO := own1_own h hl
  obtain ⟨g, c, cur, hv, _⟩ := hO.form
  exact ⟨g, c, hv, hO.bytes rfl⟩
structure BoxM (w0 : World) (p : Nat) (cs : List Value) (W : World) : Prop where
  blk : Blk W p 45 cs
  bel : Below w0.heap.size w0 W
theorem BoxM.call {w0 W W' : World} {p : Nat} {cs : List Value} (h : BoxM w0 p cs W) (hb : Below W.heap.size W W') : BoxM w0 p cs W' := ⟨h.blk.below hb h.blk.lt, h.bel.trans (hb.mono h.bel.size)⟩
theorem BoxM.all {w0 W : World} {p : Nat} {c0 c1 c2 c3 c4 c5 c6 : Value} (h : BoxM w0 p [c0, c1, c2, c3, c4, c5, c6] W) :
    W.cell? ⟨p, 3, none⟩ = some c3 ∧ W.cell? ⟨p, 4, none⟩ = some c4 ∧ W.cell? ⟨p, 5, none⟩ = some c5 ∧ W.cell? ⟨p, 6, none⟩ = some c6 ∧ BoxM w0 p [c0, c1, c2, c3, c4, c5, c6] W :=
  ⟨h.blk.cell 3, h.blk.cell 4, h.blk.cell 5, h.blk.cell 6, h⟩
set_option maxHeartbeats 4000000 in
theorem f25 (D : Nat) (x : MsgV) (v : Value) (w : World) (h : MIn w D v x) (hD : D ≤ w.heap.size) (hk : x.key.2.length ≤ 1000) (hv : x.val.2.length ≤ 1000) (ht0 : -1 ≤ x.tm) (ht1 : x.tm < 8796093022208) (hver : x.ver = 0 ∨ x.ver = 1) :
    Calls Tryz.prog 25 #[v] w fun e w' => ∃ v, e = .returned v ∧ Own w' w.heap.size v x.bytes ∧ Below w.heap.size w w' := by
  obtain ⟨kd, vd, rfl, h1, h2⟩ := h
  obtain ⟨ver, la, tm, key, val⟩ := x
  simp only at h1 h2 hk hv ht0 ht1 hver ⊢
  obtain ⟨kA, kc, rfl⟩ := h1.sl
  obtain ⟨vA, vc, rfl⟩ := h2.sl
  have H := Lib.hid (And.intro h1 h2)
  have hbx : BoxM w w.heap.size [.int .i8 ver, .bool la, .int .i64 tm, .bool key.1, .slice kA key.2.length kc, .bool val.1, .slice vA val.2.length vc] (w.alloc (.cells #[.int .i8 ver, .bool la, .int .i64 tm, .bool key.1, .slice kA key.2.length kc, .bool val.1, .slice vA val.2.length vc] 45)) :=
    ⟨Blk.new w 45 [.int .i8 ver, .bool la, .int .i64 tm, .bool key.1, .slice kA key.2.length kc, .bool val.1, .slice vA val.2.length vc], (Below.refl _ _).alloc (Nat.le_refl _) _⟩
  have HB := Lib.hid hbx
  clear h1 h2 hbx
  cases la
  all_goals rcases hver with rfl | rfl
  · go_enter Tryz.func25, Tryz.ntmps25
    go_wp2_with fail
    have hl2 := lit2_own (w.alloc (.cells #[.int .i8 0, .bool false, .int .i64 tm, .bool key.1, .slice kA key.2.length kc, .bool val.1, .slice vA val.2.length vc] 45)) w.heap.size 0 0 HB.out.bel.size (by omega) (by omega) (by omega) (by omega)
    have hl3 : Own1 (((w.alloc (.cells #[.int .i8 0, .bool false, .int .i64 tm, .bool key.1, .slice kA key.2.length kc, .bool val.1, .slice vA val.2.length vc] 45))).alloc (.cells #[.int .u8 0, .int .u8 0] 5)) w.heap.size (.slice (some ⟨w.heap.size + 1, 0, none⟩) 2 2) [byteOf 0, byteOf 0] := by simpa using hl2
    have ho : Own1 (((w.alloc (.cells #[.int .i8 0, .bool false, .int .i64 tm, .bool key.1, .slice kA key.2.length kc, .bool val.1, .slice vA val.2.length vc] 45))).alloc (.cells #[.int .u8 0, .int .u8 0] 5)).drew w.heap.size (.slice (some ⟨w.heap.size + 1, 0, none⟩) 2 2) [byteOf 0, byteOf 0] := hl3
    have hbx : BoxM w w.heap.size [.int .i8 0, .bool false, .int .i64 tm, .bool key.1, .slice kA key.2.length kc, .bool val.1, .slice vA val.2.length vc] (((w.alloc (.cells #[.int .i8 0, .bool false, .int .i64 tm, .bool key.1, .slice kA key.2.length kc, .bool val.1, .slice vA val.2.length vc] 45))).alloc (.cells #[.int .u8 0, .int .u8 0] 5)).drew := ⟨(HB.out.blk.alloc _).drew, (HB.out.bel.alloc HB.out.bel.size _).drew⟩
    clear hl2 hl3
    have hHeld := hbx.all
    have hpl : ([byteOf 0, byteOf 0]).length ≤ 10 := by simp [Lib.beBytes_length]
    have hkl := sBytes_nb key hk
    have hvl := sBytes_nb val hv
    go_region_held3 (fun W => W.cell? ⟨w.heap.size, 3, none⟩ = some (.bool key.1) ∧ W.cell? ⟨w.heap.size, 4, none⟩ = some (.slice kA key.2.length kc) ∧ W.cell? ⟨w.heap.size, 5, none⟩ = some (.bool val.1) ∧ W.cell? ⟨w.heap.size, 6, none⟩ = some (.slice vA val.2.length vc) ∧ BoxM w w.heap.size [.int .i8 0, .bool false, .int .i64 tm, .bool key.1, .slice kA key.2.length kc, .bool val.1, .slice vA val.2.length vc] W)
      (first | with_reducible exact hbx.all | with_reducible exact hbx1.all | with_reducible exact hbx2.all | with_reducible exact hbx3.all | with_reducible exact hbx4.all)
      (first | (go_at_call_of 59 (Value.agg #[.bool key.1, .slice kA key.2.length kc]); refine (f59 key.1 _ key.2 D _ (H.out.1.below hbx.bel hD) (by omega) (by have := hbx.bel.size; omega)).mono ?_; rintro e w1 ⟨u1, rfl, hu1, hb1⟩; have hbx1 := BoxM.call hbx hb1; have ho1 := Own1.below ho hb1 (Nat.le_refl _)) | (refine step_app rfl (Operand.tmp 20) (Operand.tmp 23) rfl w.heap.size _ u1 _ (sBytes (nb key.1 key.2)) w1.heap.size rfl rfl ho1 (.inl (hu1.bytes rfl)) (by omega) hbx1.bel.size ?_; intro v2 w2 ho2 hnil2 hb2 hat2 hgr2; have hbx2 : BoxM w w.heap.size _ w2 := ⟨hbx1.blk.grown ho1 (by decide) hgr2, hbx1.bel.trans hb2⟩) | (go_at_call_of 59 (Value.agg #[.bool val.1, .slice vA val.2.length vc]); refine (f59 val.1 _ val.2 D _ (H.out.2.below hbx2.bel hD) (by omega) (by have := hbx2.bel.size; omega)).mono ?_; rintro e w3 ⟨u3, rfl, hu3, hb3⟩; have hbx3 := BoxM.call hbx2 hb3; have ho3 := Own1.below ho2 hb3 (Nat.le_refl _)) | (refine step_app rfl (Operand.tmp 24) (Operand.tmp 27) rfl w.heap.size _ u3 _ (sBytes (nb val.1 val.2)) w3.heap.size rfl rfl ho3 (.inl (hu3.bytes rfl)) (by rw [List.length_append]; omega) hbx3.bel.size ?_; intro v4 w4 ho4 hnil4 hb4 hat4 hgr4; have hbx4 : BoxM w w.heap.size _ w4 := ⟨hbx3.blk.grown ho3 (by decide) hgr4, hbx3.bel.trans hb4⟩))
    have hbody : ([byteOf 0, byteOf 0] ++ sBytes (nb key.1 key.2)) ++ sBytes (nb val.1 val.2) = msgBody 0 false (tBytes 0 tm) key.nb val.nb := by
      simp [msgBody, attrOf, tBytes, BP.nb]
    rw [hbody] at ho4
    have hbl : (msgBody 0 false (tBytes 0 tm) key.nb val.nb).length ≤ 5000 := by rw [← hbody, List.length_append, List.length_append]; omega
    generalize hgb : msgBody 0 false (tBytes 0 tm) key.nb val.nb = body at ho4 hbl
    have hb1l : 1 ≤ body.length := by rw [← hgb]; simp [msgBody]
    obtain ⟨g4, c4, hv4, hby4⟩ := own1_forms ho4 hb1l
    subst hv4
    obtain ⟨r0, r1⟩ := crc_range ieee body
    have HO := Lib.hid (And.intro ho4 (And.intro hby4 (And.intro hbx4.bel hgb)))
    have hs4 := hbx4.bel.size
    clear hbody ho ho1 ho2 ho3 ho4 hnil2 hnil4 hb1 hb2 hb3 hb4 hat2 hat4 hgr2 hgr4 hbx hbx1 hbx2 hbx3 hbx4 hu1 hu3 hby4 hgb
    rename_i hHeldR
    clear hHeldR
    go_wp2_with fail
    refine (f60 w4.heap.size _ body _ (.inl HO.out.2.1) (by omega)).mono ?_
    rintro e w5 ⟨rfl, rfl⟩
    generalize hcr : crc ieee body = cr at r0 r1
    have HCR := Lib.hid hcr
    clear hcr
    have hcm : (cr % 4294967296).toNat = cr.toNat := by omega
    have HCM := Lib.hid hcm
    clear hcm
    go_wp2_with fail
    refine (f37_4 cr (by omega) (by omega) _).mono ?_
    rintro e w6 ⟨u6, rfl, hu6, hb6⟩
    rw [HCM.out] at hu6
    have H6 := Lib.hid (And.intro hu6 hb6)
    have hs6 := hb6.size
    clear hu6 hb6
    go_wp2_with (at_builtin; refine wpList_app rfl _ _ rfl w.heap.size u6 _ (Lib.beBytes 4 cr.toNat) body w4.heap.size rfl rfl (World.ownsRow.mono H6.out.1.1 hs4) ((DataAt.below (.inl HO.out.2.1) H6.out.2 (Nat.le_refl _))) (by rw [Lib.beBytes_length]; omega) (by omega) ?_)
    intro v7 w7 ho7 hnil7 hb7 hat7 hgr7
    have HF := Lib.hid (show Own w7 w.heap.size v7 (MsgV.bytes ⟨0, false, tm, key, val⟩) ∧ Below w.heap.size w w7 from ⟨by
      have hq := own1_own ho7 (by rw [List.length_append]; omega)
      rw [← HCR.out, ← HO.out.2.2.2] at hq
      exact hq, (HO.out.2.2.1.trans (H6.out.2.mono hs4)).trans hb7⟩)
    clear ho7 hnil7 hb7 hat7 hgr7
    go_wp2
    go_ret
    exact ⟨v7, rfl, HF.out⟩
  · go_enter Tryz.func25, Tryz.ntmps25
    go_wp2_with fail
    have hl2 := lit2_own (w.alloc (.cells #[.int .i8 1, .bool false, .int .i64 tm, .bool key.1, .slice kA key.2.length kc, .bool val.1, .slice vA val.2.length vc] 45)) w.heap.size 1 0 HB.out.bel.size (by omega) (by omega) (by omega) (by omega)
    have hl3 : Own1 (((w.alloc (.cells #[.int .i8 1, .bool false, .int .i64 tm, .bool key.1, .slice kA key.2.length kc, .bool val.1, .slice vA val.2.length vc] 45))).alloc (.cells #[.int .u8 1, .int .u8 0] 5)) w.heap.size (.slice (some ⟨w.heap.size + 1, 0, none⟩) 2 2) [byteOf 1, byteOf 0] := by simpa using hl2
    have hbx0 : BoxM w w.heap.size [.int .i8 1, .bool false, .int .i64 tm, .bool key.1, .slice kA key.2.length kc, .bool val.1, .slice vA val.2.length vc] (((w.alloc (.cells #[.int .i8 1, .bool false, .int .i64 tm, .bool key.1, .slice kA key.2.length kc, .bool val.1, .slice vA val.2.length vc] 45))).alloc (.cells #[.int .u8 1, .int .u8 0] 5)) := ⟨HB.out.blk.alloc _, HB.out.bel.alloc HB.out.bel.size _⟩
    refine (f37_8 tm (by omega) (by omega) _).mono ?_
    rintro e wa ⟨ua, rfl, hua, hba⟩
    have hla := hl3.below hba (Nat.le_refl _)
    have hbxa := BoxM.call hbx0 hba
    have HA := Lib.hid (And.intro hua (And.intro hbxa hla))
    have hsa := hbxa.bel.size
    clear hl2 hl3 hbx0 hua hba hbxa hla
    go_wp2_with (at_builtin; refine wpList_app rfl _ _ rfl w.heap.size _ ua [byteOf 1, byteOf 0] (Lib.beBytes 8 (tm % 18446744073709551616).toNat) wa.heap.size rfl rfl HA.out.2.2 (.inl (HA.out.1.bytes rfl)) (by rw [Lib.beBytes_length]; simp) hsa ?_)
    intro vb wb hob hnilb hbb hatb hgrb
    have HBB := Lib.hid (And.intro hob (⟨HA.out.2.1.blk.grown HA.out.2.2 (by decide) hgrb, HA.out.2.1.bel.trans hbb⟩ : BoxM w w.heap.size [.int .i8 1, .bool false, .int .i64 tm, .bool key.1, .slice kA key.2.length kc, .bool val.1, .slice vA val.2.length vc] wb))
    clear hob hnilb hbb hatb hgrb
    go_wp2_with fail
    have ho : Own1 wb.drew w.heap.size vb ([byteOf 1, byteOf 0] ++ Lib.beBytes 8 (tm % 18446744073709551616).toNat) := HBB.out.1
    have hbx : BoxM w w.heap.size [.int .i8 1, .bool false, .int .i64 tm, .bool key.1, .slice kA key.2.length kc, .bool val.1, .slice vA val.2.length vc] wb.drew := ⟨HBB.out.2.blk.drew, HBB.out.2.bel.drew⟩
    have hHeld := hbx.all
    have hpl : ([byteOf 1, byteOf 0] ++ Lib.beBytes 8 (tm % 18446744073709551616).toNat).length ≤ 10 := by simp [Lib.beBytes_length]
    have hkl := sBytes_nb key hk
    have hvl := sBytes_nb val hv
    go_region_held3 (fun W => W.cell? ⟨w.heap.size, 3, none⟩ = some (.bool key.1) ∧ W.cell? ⟨w.heap.size, 4, none⟩ = some (.slice kA key.2.length kc) ∧ W.cell? ⟨w.heap.size, 5, none⟩ = some (.bool val.1) ∧ W.cell? ⟨w.heap.size, 6, none⟩ = some (.slice vA val.2.length vc) ∧ BoxM w w.heap.size [.int .i8 1, .bool false, .int .i64 tm, .bool key.1, .slice kA key.2.length kc, .bool val.1, .slice vA val.2.length vc] W)
      (first | with_reducible exact hbx.all | with_reducible exact hbx1.all | with_reducible exact hbx2.all | with_reducible exact hbx3.all | with_reducible exact hbx4.all)
      (first | (go_at_call_of 59 (Value.agg #[.bool key.1, .slice kA key.2.length kc]); refine (f59 key.1 _ key.2 D _ (H.out.1.below hbx.bel hD) (by omega) (by have := hbx.bel.size; omega)).mono ?_; rintro e w1 ⟨u1, rfl, hu1, hb1⟩; have hbx1 := BoxM.call hbx hb1; have ho1 := Own1.below ho hb1 (Nat.le_refl _)) | (refine step_app rfl (Operand.tmp 20) (Operand.tmp 23) rfl w.heap.size _ u1 _ (sBytes (nb key.1 key.2)) w1.heap.size rfl rfl ho1 (.inl (hu1.bytes rfl)) (by omega) hbx1.bel.size ?_; intro v2 w2 ho2 hnil2 hb2 hat2 hgr2; have hbx2 : BoxM w w.heap.size _ w2 := ⟨hbx1.blk.grown ho1 (by decide) hgr2, hbx1.bel.trans hb2⟩) | (go_at_call_of 59 (Value.agg #[.bool val.1, .slice vA val.2.length vc]); refine (f59 val.1 _ val.2 D _ (H.out.2.below hbx2.bel hD) (by omega) (by have := hbx2.bel.size; omega)).mono ?_; rintro e w3 ⟨u3, rfl, hu3, hb3⟩; have hbx3 := BoxM.call hbx2 hb3; have ho3 := Own1.below ho2 hb3 (Nat.le_refl _)) | (refine step_app rfl (Operand.tmp 24) (Operand.tmp 27) rfl w.heap.size _ u3 _ (sBytes (nb val.1 val.2)) w3.heap.size rfl rfl ho3 (.inl (hu3.bytes rfl)) (by rw [List.length_append]; omega) hbx3.bel.size ?_; intro v4 w4 ho4 hnil4 hb4 hat4 hgr4; have hbx4 : BoxM w w.heap.size _ w4 := ⟨hbx3.blk.grown ho3 (by decide) hgr4, hbx3.bel.trans hb4⟩))
    have hbody : ([byteOf 1, byteOf 0] ++ Lib.beBytes 8 (tm % 18446744073709551616).toNat ++ sBytes (nb key.1 key.2)) ++ sBytes (nb val.1 val.2) = msgBody 1 false (tBytes 1 tm) key.nb val.nb := by
      simp [msgBody, attrOf, tBytes, BP.nb]
    rw [hbody] at ho4
    have hbl : (msgBody 1 false (tBytes 1 tm) key.nb val.nb).length ≤ 5000 := by rw [← hbody, List.length_append, List.length_append]; omega
    generalize hgb : msgBody 1 false (tBytes 1 tm) key.nb val.nb = body at ho4 hbl
    have hb1l : 1 ≤ body.length := by rw [← hgb]; simp [msgBody]
    obtain ⟨g4, c4, hv4, hby4⟩ := own1_forms ho4 hb1l
    subst hv4
    obtain ⟨r0, r1⟩ := crc_range ieee body
    have HO := Lib.hid (And.intro ho4 (And.intro hby4 (And.intro hbx4.bel hgb)))
    have hs4 := hbx4.bel.size
    clear hbody ho ho1 ho2 ho3 ho4 hnil2 hnil4 hb1 hb2 hb3 hb4 hat2 hat4 hgr2 hgr4 hbx hbx1 hbx2 hbx3 hbx4 hu1 hu3 hby4 hgb
    rename_i hHeldR
    clear hHeldR
    go_wp2_with fail
    refine (f60 w4.heap.size _ body _ (.inl HO.out.2.1) (by omega)).mono ?_
    rintro e w5 ⟨rfl, rfl⟩
    generalize hcr : crc ieee body = cr at r0 r1
    have HCR := Lib.hid hcr
    clear hcr
    have hcm : (cr % 4294967296).toNat = cr.toNat := by omega
    have HCM := Lib.hid hcm
    clear hcm
    go_wp2_with fail
    refine (f37_4 cr (by omega) (by omega) _).mono ?_
    rintro e w6 ⟨u6, rfl, hu6, hb6⟩
    rw [HCM.out] at hu6
    have H6 := Lib.hid (And.intro hu6 hb6)
    have hs6 := hb6.size
    clear hu6 hb6
    go_wp2_with (at_builtin; refine wpList_app rfl _ _ rfl w.heap.size u6 _ (Lib.beBytes 4 cr.toNat) body w4.heap.size rfl rfl (World.ownsRow.mono H6.out.1.1 hs4) ((DataAt.below (.inl HO.out.2.1) H6.out.2 (Nat.le_refl _))) (by rw [Lib.beBytes_length]; omega) (by omega) ?_)
    intro v7 w7 ho7 hnil7 hb7 hat7 hgr7
    have HF := Lib.hid (show Own w7 w.heap.size v7 (MsgV.bytes ⟨1, false, tm, key, val⟩) ∧ Below w.heap.size w w7 from ⟨by
      have hq := own1_own ho7 (by rw [List.length_append]; omega)
      rw [← HCR.out, ← HO.out.2.2.2] at hq
      exact hq, (HO.out.2.2.1.trans (H6.out.2.mono hs4)).trans hb7⟩)
    clear ho7 hnil7 hb7 hat7 hgr7
    go_wp2
    go_ret
    exact ⟨v7, rfl, HF.out⟩
  · go_enter Tryz.func25, Tryz.ntmps25
    go_wp2_with fail
    have hl2 := lit2_own (w.alloc (.cells #[.int .i8 0, .bool true, .int .i64 tm, .bool key.1, .slice kA key.2.length kc, .bool val.1, .slice vA val.2.length vc] 45)) w.heap.size 0 8 HB.out.bel.size (by omega) (by omega) (by omega) (by omega)
    have hl3 : Own1 (((w.alloc (.cells #[.int .i8 0, .bool true, .int .i64 tm, .bool key.1, .slice kA key.2.length kc, .bool val.1, .slice vA val.2.length vc] 45))).alloc (.cells #[.int .u8 0, .int .u8 8] 5)) w.heap.size (.slice (some ⟨w.heap.size + 1, 0, none⟩) 2 2) [byteOf 0, byteOf 8] := by simpa using hl2
    have ho : Own1 (((w.alloc (.cells #[.int .i8 0, .bool true, .int .i64 tm, .bool key.1, .slice kA key.2.length kc, .bool val.1, .slice vA val.2.length vc] 45))).alloc (.cells #[.int .u8 0, .int .u8 8] 5)).drew w.heap.size (.slice (some ⟨w.heap.size + 1, 0, none⟩) 2 2) [byteOf 0, byteOf 8] := hl3
    have hbx : BoxM w w.heap.size [.int .i8 0, .bool true, .int .i64 tm, .bool key.1, .slice kA key.2.length kc, .bool val.1, .slice vA val.2.length vc] (((w.alloc (.cells #[.int .i8 0, .bool true, .int .i64 tm, .bool key.1, .slice kA key.2.length kc, .bool val.1, .slice vA val.2.length vc] 45))).alloc (.cells #[.int .u8 0, .int .u8 8] 5)).drew := ⟨(HB.out.blk.alloc _).drew, (HB.out.bel.alloc HB.out.bel.size _).drew⟩
    clear hl2 hl3
    have hHeld := hbx.all
    have hpl : ([byteOf 0, byteOf 8]).length ≤ 10 := by simp [Lib.beBytes_length]
    have hkl := sBytes_nb key hk
    have hvl := sBytes_nb val hv
    go_region_held3 (fun W => W.cell? ⟨w.heap.size, 3, none⟩ = some (.bool key.1) ∧ W.cell? ⟨w.heap.size, 4, none⟩ = some (.slice kA key.2.length kc) ∧ W.cell? ⟨w.heap.size, 5, none⟩ = some (.bool val.1) ∧ W.cell? ⟨w.heap.size, 6, none⟩ = some (.slice vA val.2.length vc) ∧ BoxM w w.heap.size [.int .i8 0, .bool true, .int .i64 tm, .bool key.1, .slice kA key.2.length kc, .bool val.1, .slice vA val.2.length vc] W)
      (first | with_reducible exact hbx.all | with_reducible exact hbx1.all | with_reducible exact hbx2.all | with_reducible exact hbx3.all | with_reducible exact hbx4.all)
      (first | (go_at_call_of 59 (Value.agg #[.bool key.1, .slice kA key.2.length kc]); refine (f59 key.1 _ key.2 D _ (H.out.1.below hbx.bel hD) (by omega) (by have := hbx.bel.size; omega)).mono ?_; rintro e w1 ⟨u1, rfl, hu1, hb1⟩; have hbx1 := BoxM.call hbx hb1; have ho1 := Own1.below ho hb1 (Nat.le_refl _)) | (refine step_app rfl (Operand.tmp 20) (Operand.tmp 23) rfl w.heap.size _ u1 _ (sBytes (nb key.1 key.2)) w1.heap.size rfl rfl ho1 (.inl (hu1.bytes rfl)) (by omega) hbx1.bel.size ?_; intro v2 w2 ho2 hnil2 hb2 hat2 hgr2; have hbx2 : BoxM w w.heap.size _ w2 := ⟨hbx1.blk.grown ho1 (by decide) hgr2, hbx1.bel.trans hb2⟩) | (go_at_call_of 59 (Value.agg #[.bool val.1, .slice vA val.2.length vc]); refine (f59 val.1 _ val.2 D _ (H.out.2.below hbx2.bel hD) (by omega) (by have := hbx2.bel.size; omega)).mono ?_; rintro e w3 ⟨u3, rfl, hu3, hb3⟩; have hbx3 := BoxM.call hbx2 hb3; have ho3 := Own1.below ho2 hb3 (Nat.le_refl _)) | (refine step_app rfl (Operand.tmp 24) (Operand.tmp 27) rfl w.heap.size _ u3 _ (sBytes (nb val.1 val.2)) w3.heap.size rfl rfl ho3 (.inl (hu3.bytes rfl)) (by rw [List.length_append]; omega) hbx3.bel.size ?_; intro v4 w4 ho4 hnil4 hb4 hat4 hgr4; have hbx4 : BoxM w w.heap.size _ w4 := ⟨hbx3.blk.grown ho3 (by decide) hgr4, hbx3.bel.trans hb4⟩))
    have hbody : ([byteOf 0, byteOf 8] ++ sBytes (nb key.1 key.2)) ++ sBytes (nb val.1 val.2) = msgBody 0 true (tBytes 0 tm) key.nb val.nb := by
      simp [msgBody, attrOf, tBytes, BP.nb]
    rw [hbody] at ho4
    have hbl : (msgBody 0 true (tBytes 0 tm) key.nb val.nb).length ≤ 5000 := by rw [← hbody, List.length_append, List.length_append]; omega
    generalize hgb : msgBody 0 true (tBytes 0 tm) key.nb val.nb = body at ho4 hbl
    have hb1l : 1 ≤ body.length := by rw [← hgb]; simp [msgBody]
    obtain ⟨g4, c4, hv4, hby4⟩ := own1_forms ho4 hb1l
    subst hv4
    obtain ⟨r0, r1⟩ := crc_range ieee body
    have HO := Lib.hid (And.intro ho4 (And.intro hby4 (And.intro hbx4.bel hgb)))
    have hs4 := hbx4.bel.size
    clear hbody ho ho1 ho2 ho3 ho4 hnil2 hnil4 hb1 hb2 hb3 hb4 hat2 hat4 hgr2 hgr4 hbx hbx1 hbx2 hbx3 hbx4 hu1 hu3 hby4 hgb
    rename_i hHeldR
    clear hHeldR
    go_wp2_with fail
    refine (f60 w4.heap.size _ body _ (.inl HO.out.2.1) (by omega)).mono ?_
    rintro e w5 ⟨rfl, rfl⟩
    generalize hcr : crc ieee body = cr at r0 r1
    have HCR := Lib.hid hcr
    clear hcr
    have hcm : (cr % 4294967296).toNat = cr.toNat := by omega
    have HCM := Lib.hid hcm
    clear hcm
    go_wp2_with fail
    refine (f37_4 cr (by omega) (by omega) _).mono ?_
    rintro e w6 ⟨u6, rfl, hu6, hb6⟩
    rw [HCM.out] at hu6
    have H6 := Lib.hid (And.intro hu6 hb6)
    have hs6 := hb6.size
    clear hu6 hb6
    go_wp2_with (at_builtin; refine wpList_app rfl _ _ rfl w.heap.size u6 _ (Lib.beBytes 4 cr.toNat) body w4.heap.size rfl rfl (World.ownsRow.mono H6.out.1.1 hs4) ((DataAt.below (.inl HO.out.2.1) H6.out.2 (Nat.le_refl _))) (by rw [Lib.beBytes_length]; omega) (by omega) ?_)
    intro v7 w7 ho7 hnil7 hb7 hat7 hgr7
    have HF := Lib.hid (show Own w7 w.heap.size v7 (MsgV.bytes ⟨0, true, tm, key, val⟩) ∧ Below w.heap.size w w7 from ⟨by
      have hq := own1_own ho7 (by rw [List.length_append]; omega)
      rw [← HCR.out, ← HO.out.2.2.2] at hq
      exact hq, (HO.out.2.2.1.trans (H6.out.2.mono hs4)).trans hb7⟩)
    clear ho7 hnil7 hb7 hat7 hgr7
    go_wp2
    go_ret
    exact ⟨v7, rfl, HF.out⟩
  · go_enter Tryz.func25, Tryz.ntmps25
    go_wp2_with fail
    have hl2 := lit2_own (w.alloc (.cells #[.int .i8 1, .bool true, .int .i64 tm, .bool key.1, .slice kA key.2.length kc, .bool val.1, .slice vA val.2.length vc] 45)) w.heap.size 1 8 HB.out.bel.size (by omega) (by omega) (by omega) (by omega)
    have hl3 : Own1 (((w.alloc (.cells #[.int .i8 1, .bool true, .int .i64 tm, .bool key.1, .slice kA key.2.length kc, .bool val.1, .slice vA val.2.length vc] 45))).alloc (.cells #[.int .u8 1, .int .u8 8] 5)) w.heap.size (.slice (some ⟨w.heap.size + 1, 0, none⟩) 2 2) [byteOf 1, byteOf 8] := by simpa using hl2
    have hbx0 : BoxM w w.heap.size [.int .i8 1, .bool true, .int .i64 tm, .bool key.1, .slice kA key.2.length kc, .bool val.1, .slice vA val.2.length vc] (((w.alloc (.cells #[.int .i8 1, .bool true, .int .i64 tm, .bool key.1, .slice kA key.2.length kc, .bool val.1, .slice vA val.2.length vc] 45))).alloc (.cells #[.int .u8 1, .int .u8 8] 5)) := ⟨HB.out.blk.alloc _, HB.out.bel.alloc HB.out.bel.size _⟩
    refine (f37_8 tm (by omega) (by omega) _).mono ?_
    rintro e wa ⟨ua, rfl, hua, hba⟩
    have hla := hl3.below hba (Nat.le_refl _)
    have hbxa := BoxM.call hbx0 hba
    have HA := Lib.hid (And.intro hua (And.intro hbxa hla))
    have hsa := hbxa.bel.size
    clear hl2 hl3 hbx0 hua hba hbxa hla
    go_wp2_with (at_builtin; refine wpList_app rfl _ _ rfl w.heap.size _ ua [byteOf 1, byteOf 8] (Lib.beBytes 8 (tm % 18446744073709551616).toNat) wa.heap.size rfl rfl HA.out.2.2 (.inl (HA.out.1.bytes rfl)) (by rw [Lib.beBytes_length]; simp) hsa ?_)
    intro vb wb hob hnilb hbb hatb hgrb
    have HBB := Lib.hid (And.intro hob (⟨HA.out.2.1.blk.grown HA.out.2.2 (by decide) hgrb, HA.out.2.1.bel.trans hbb⟩ : BoxM w w.heap.size [.int .i8 1, .bool true, .int .i64 tm, .bool key.1, .slice kA key.2.length kc, .bool val.1, .slice vA val.2.length vc] wb))
    clear hob hnilb hbb hatb hgrb
    go_wp2_with fail
    have ho : Own1 wb.drew w.heap.size vb ([byteOf 1, byteOf 8] ++ Lib.beBytes 8 (tm % 18446744073709551616).toNat) := HBB.out.1
    have hbx : BoxM w w.heap.size [.int .i8 1, .bool true, .int .i64 tm, .bool key.1, .slice kA key.2.length kc, .bool val.1, .slice vA val.2.length vc] wb.drew := ⟨HBB.out.2.blk.drew, HBB.out.2.bel.drew⟩
    have hHeld := hbx.all
    have hpl : ([byteOf 1, byteOf 8] ++ Lib.beBytes 8 (tm % 18446744073709551616).toNat).length ≤ 10 := by simp [Lib.beBytes_length]
    have hkl := sBytes_nb key hk
    have hvl := sBytes_nb val hv
    go_region_held3 (fun W => W.cell? ⟨w.heap.size, 3, none⟩ = some (.bool key.1) ∧ W.cell? ⟨w.heap.size, 4, none⟩ = some (.slice kA key.2.length kc) ∧ W.cell? ⟨w.heap.size, 5, none⟩ = some (.bool val.1) ∧ W.cell? ⟨w.heap.size, 6, none⟩ = some (.slice vA val.2.length vc) ∧ BoxM w w.heap.size [.int .i8 1, .bool true, .int .i64 tm, .bool key.1, .slice kA key.2.length kc, .bool val.1, .slice vA val.2.length vc] W)
      (first | with_reducible exact hbx.all | with_reducible exact hbx1.all | with_reducible exact hbx2.all | with_reducible exact hbx3.all | with_reducible exact hbx4.all)
      (first | (go_at_call_of 59 (Value.agg #[.bool key.1, .slice kA key.2.length kc]); refine (f59 key.1 _ key.2 D _ (H.out.1.below hbx.bel hD) (by omega) (by have := hbx.bel.size; omega)).mono ?_; rintro e w1 ⟨u1, rfl, hu1, hb1⟩; have hbx1 := BoxM.call hbx hb1; have ho1 := Own1.below ho hb1 (Nat.le_refl _)) | (refine step_app rfl (Operand.tmp 20) (Operand.tmp 23) rfl w.heap.size _ u1 _ (sBytes (nb key.1 key.2)) w1.heap.size rfl rfl ho1 (.inl (hu1.bytes rfl)) (by omega) hbx1.bel.size ?_; intro v2 w2 ho2 hnil2 hb2 hat2 hgr2; have hbx2 : BoxM w w.heap.size _ w2 := ⟨hbx1.blk.grown ho1 (by decide) hgr2, hbx1.bel.trans hb2⟩) | (go_at_call_of 59 (Value.agg #[.bool val.1, .slice vA val.2.length vc]); refine (f59 val.1 _ val.2 D _ (H.out.2.below hbx2.bel hD) (by omega) (by have := hbx2.bel.size; omega)).mono ?_; rintro e w3 ⟨u3, rfl, hu3, hb3⟩; have hbx3 := BoxM.call hbx2 hb3; have ho3 := Own1.below ho2 hb3 (Nat.le_refl _)) | (refine step_app rfl (Operand.tmp 24) (Operand.tmp 27) rfl w.heap.size _ u3 _ (sBytes (nb val.1 val.2)) w3.heap.size rfl rfl ho3 (.inl (hu3.bytes rfl)) (by rw [List.length_append]; omega) hbx3.bel.size ?_; intro v4 w4 ho4 hnil4 hb4 hat4 hgr4; have hbx4 : BoxM w w.heap.size _ w4 := ⟨hbx3.blk.grown ho3 (by decide) hgr4, hbx3.bel.trans hb4⟩))
    have hbody : ([byteOf 1, byteOf 8] ++ Lib.beBytes 8 (tm % 18446744073709551616).toNat ++ sBytes (nb key.1 key.2)) ++ sBytes (nb val.1 val.2) = msgBody 1 true (tBytes 1 tm) key.nb val.nb := by
      simp [msgBody, attrOf, tBytes, BP.nb]
    rw [hbody] at ho4
    have hbl : (msgBody 1 true (tBytes 1 tm) key.nb val.nb).length ≤ 5000 := by rw [← hbody, List.length_append, List.length_append]; omega
    generalize hgb : msgBody 1 true (tBytes 1 tm) key.nb val.nb = body at ho4 hbl
    have hb1l : 1 ≤ body.length := by rw [← hgb]; simp [msgBody]
    obtain ⟨g4, c4, hv4, hby4⟩ := own1_forms ho4 hb1l
    subst hv4
    obtain ⟨r0, r1⟩ := crc_range ieee body
    have HO := Lib.hid (And.intro ho4 (And.intro hby4 (And.intro hbx4.bel hgb)))
    have hs4 := hbx4.bel.size
    clear hbody ho ho1 ho2 ho3 ho4 hnil2 hnil4 hb1 hb2 hb3 hb4 hat2 hat4 hgr2 hgr4 hbx hbx1 hbx2 hbx3 hbx4 hu1 hu3 hby4 hgb
    rename_i hHeldR
    clear hHeldR
    go_wp2_with fail
    refine (f60 w4.heap.size _ body _ (.inl HO.out.2.1) (by omega)).mono ?_
    rintro e w5 ⟨rfl, rfl⟩
    generalize hcr : crc ieee body = cr at r0 r1
    have HCR := Lib.hid hcr
    clear hcr
    have hcm : (cr % 4294967296).toNat = cr.toNat := by omega
    have HCM := Lib.hid hcm
    clear hcm
    go_wp2_with fail
    refine (f37_4 cr (by omega) (by omega) _).mono ?_
    rintro e w6 ⟨u6, rfl, hu6, hb6⟩
    rw [HCM.out] at hu6
    have H6 := Lib.hid (And.intro hu6 hb6)
    have hs6 := hb6.size
    clear hu6 hb6
    go_wp2_with (at_builtin; refine wpList_app rfl _ _ rfl w.heap.size u6 _ (Lib.beBytes 4 cr.toNat) body w4.heap.size rfl rfl (World.ownsRow.mono H6.out.1.1 hs4) ((DataAt.below (.inl HO.out.2.1) H6.out.2 (Nat.le_refl _))) (by rw [Lib.beBytes_length]; omega) (by omega) ?_)
    intro v7 w7 ho7 hnil7 hb7 hat7 hgr7
    have HF := Lib.hid (show Own w7 w.heap.size v7 (MsgV.bytes ⟨1, true, tm, key, val⟩) ∧ Below w.heap.size w w7 from ⟨by
      have hq := own1_own ho7 (by rw [List.length_append]; omega)
      rw [← HCR.out, ← HO.out.2.2.2] at hq
      exact hq, (HO.out.2.2.1.trans (H6.out.2.mono hs4)).trans hb7⟩)
    clear ho7 hnil7 hb7 hat7 hgr7
    go_wp2
    go_ret
    exact ⟨v7, rfl, HF.out⟩
end Go.Proofs.YtmiflkccfieefaaGreatDoor

/-
  Rows of blocks: laws.zzFits14 to 16, spec.MessageRight, spec.BlocksRight.
-/
namespace Go.Proofs.YtmiflkccfieefaaGreatDoor
open Go.ChangeShapes Go.WideShapes Go.ChangeAt Go.RowKit
set_option maxRecDepth 100000
set_option linter.unusedVariables false
set_option linter.unusedSimpArgs false

/-- A block, as the law's type has it. -/
structure BlkV where
  off : Int
  msg : MsgV
/-- Block i of the row at a. -/
def BkElem (w : World) (D : Nat) (a : Addr) (i : Nat) (y : BlkV) : Prop :=
  ∃ kd vd, w.cell? (a.add (i * 8)) = some (.int .i64 y.off) ∧ w.cell? ⟨(a.add (i * 8)).block, (a.add (i * 8)).off + 1, none⟩ = some (.int .i8 y.msg.ver) ∧ w.cell? ⟨(a.add (i * 8)).block, (a.add (i * 8)).off + 2, none⟩ = some (.bool y.msg.la) ∧ w.cell? ⟨(a.add (i * 8)).block, (a.add (i * 8)).off + 3, none⟩ = some (.int .i64 y.msg.tm) ∧ w.cell? ⟨(a.add (i * 8)).block, (a.add (i * 8)).off + 4, none⟩ = some (.bool y.msg.key.1) ∧ w.cell? ⟨(a.add (i * 8)).block, (a.add (i * 8)).off + 5, none⟩ = some kd ∧ w.cell? ⟨(a.add (i * 8)).block, (a.add (i * 8)).off + 6, none⟩ = some (.bool y.msg.val.1) ∧ w.cell? ⟨(a.add (i * 8)).block, (a.add (i * 8)).off + 7, none⟩ = some vd ∧ DataAt w D kd y.msg.key.2 ∧ DataAt w D vd y.msg.val.2
def BksIn (w : World) (D : Nat) (v : Value) (ys : List BlkV) : Prop :=
  ∃ A c, v = .slice A ys.length c ∧ (ys ≠ [] → ∃ a : Addr, A = some a ∧ a.block < D ∧ ∀ i (h : i < ys.length), BkElem w D a i ys[i])
theorem BkElem.below {w w' : World} {D C : Nat} {a : Addr} {i : Nat} {y : BlkV} (h : BkElem w D a i y) (ha : a.block < D) (hb : Below C w w') (hC : D ≤ C) : BkElem w' D a i y := by
  obtain ⟨kd, vd, h0, h1, h2, h3, h4, h5, h6, h7, h8, h9⟩ := h
  have e : ∀ j, w'.cell? ⟨(a.add (i * 8)).block, j, none⟩ = w.cell? ⟨(a.add (i * 8)).block, j, none⟩ := fun j => cell_below hb _ (by show (a.add (i * 8)).block < C; rw [add_block]; omega)
  exact ⟨kd, vd, (cell_below hb _ (by rw [add_block]; omega)).trans h0, (e _).trans h1, (e _).trans h2, (e _).trans h3, (e _).trans h4, (e _).trans h5, (e _).trans h6, (e _).trans h7, h8.below hb hC, h9.below hb hC⟩
theorem BksIn.below {w w' : World} {D C : Nat} {v : Value} {ys : List BlkV} (h : BksIn w D v ys) (hb : Below C w w') (hC : D ≤ C) : BksIn w' D v ys := by
  obtain ⟨A, c, rfl, h1⟩ := h
  refine ⟨A, c, rfl, fun hne => ?_⟩
  obtain ⟨a, hA, haD, hi⟩ := h1 hne
  exact ⟨a, hA, haD, fun i h => (hi i h).below haD hb hC⟩
theorem BksIn.mono {w : World} {D D' : Nat} {v : Value} {ys : List BlkV} (h : BksIn w D v ys) (hD : D ≤ D') : BksIn w D' v ys := by
  obtain ⟨A, c, rfl, h1⟩ := h
  refine ⟨A, c, rfl, fun hne => ?_⟩
  obtain ⟨a, hA, haD, hi⟩ := h1 hne
  refine ⟨a, hA, by omega, fun i h => ?_⟩
  obtain ⟨kd, vd, h0, h1, h2, h3, h4, h5, h6, h7, h8, h9⟩ := hi i h
  exact ⟨kd, vd, h0, h1, h2, h3, h4, h5, h6, h7, h8.mono hD, h9.mono hD⟩
def MBig (x : MsgV) : Prop := x.key.2.length ≤ 9223372036854775807 ∧ x.val.2.length ≤ 9223372036854775807
def BksBig (ys : List BlkV) : Prop := ys.length ≤ 9223372036854775807 ∧ ∀ y ∈ ys, MBig y.msg
theorem MIn.below {w w' : World} {D C : Nat} {v : Value} {x : MsgV} (h : MIn w D v x) (hb : Below C w w') (hC : D ≤ C) : MIn w' D v x := by
  obtain ⟨kd, vd, rfl, h1, h2⟩ := h
  exact ⟨kd, vd, rfl, h1.below hb hC, h2.below hb hC⟩
theorem f23 (D : Nat) (x : MsgV) (v : Value) (w : World) (h : MIn w D v x) (hD : D ≤ w.heap.size) (hbig : MBig x) : Calls Tryz.prog 23 #[v] w (SomeB w) := by
  obtain ⟨kd, vd, rfl, h1, h2⟩ := h
  obtain ⟨kA, kc, rfl⟩ := h1.sl
  obtain ⟨vA, vc, rfl⟩ := h2.sl
  clear h1 h2
  have hb0 : Below w.heap.size w (w.alloc (.cells #[.int .i8 x.ver, .bool x.la, .int .i64 x.tm, .bool x.key.1, .slice kA x.key.2.length kc, .bool x.val.1, .slice vA x.val.2.length vc] 45)) := (Below.refl _ _).alloc (Nat.le_refl _) _
  have hp0 := Blk.new w 45 [.int .i8 x.ver, .bool x.la, .int .i64 x.tm, .bool x.key.1, .slice kA x.key.2.length kc, .bool x.val.1, .slice vA x.val.2.length vc]
  have HH := Lib.hid (And.intro hb0 hp0)
  clear hb0 hp0
  obtain ⟨b1, b2⟩ := hbig
  go_enter Tryz.func23, Tryz.ntmps23
  go_wp2_with fail
  refine (f45 _ _ _ _ _ b1).mono ?_
  rintro e w1 ⟨r1, rfl, hb1⟩
  have hp1 := HH.out.2.below hb1 (by simp)
  have c5 := hp1.cell 5
  have c6 := hp1.cell 6
  simp only [List.getElem?_cons_zero, List.getElem?_cons_succ] at c5 c6
  have H1 := Lib.hid (HH.out.1.trans (hb1.mono (by simp)))
  clear hp1 hb1
  cases r1
  · go_wp2
    go_ret
    exact ⟨_, rfl, H1.out⟩
  · go_wp2_with fail
    refine (f45 _ _ _ _ _ b2).mono ?_
    rintro e w2 ⟨r2, rfl, hb2⟩
    have H2 := Lib.hid (H1.out.trans (hb2.mono H1.out.size))
    clear hb2
    cases r2
    all_goals
      go_wp2
      go_ret
      exact ⟨_, rfl, H2.out⟩
theorem f65 (D : Nat) (o : Int) (x : MsgV) (kA vA : Option Addr) (kc vc : Nat) (w : World) (h : MIn w D (.agg #[.int .i8 x.ver, .bool x.la, .int .i64 x.tm, .bool x.key.1, .slice kA x.key.2.length kc, .bool x.val.1, .slice vA x.val.2.length vc]) x) (hD : D ≤ w.heap.size) (hbig : MBig x) : Calls Tryz.prog 65 #[.agg #[.int .i64 o, .int .i8 x.ver, .bool x.la, .int .i64 x.tm, .bool x.key.1, .slice kA x.key.2.length kc, .bool x.val.1, .slice vA x.val.2.length vc]] w (SomeB w) := by
  have hb0 : Below w.heap.size w (w.alloc (.cells #[.int .i64 o, .int .i8 x.ver, .bool x.la, .int .i64 x.tm, .bool x.key.1, .slice kA x.key.2.length kc, .bool x.val.1, .slice vA x.val.2.length vc] 62)) := (Below.refl _ _).alloc (Nat.le_refl _) _
  have HH := Lib.hid (And.intro hb0 (h.below hb0 hD))
  clear hb0 h
  go_enter Tryz.func65, Tryz.ntmps65
  go_wp2_with fail
  refine (f23 D x _ _ (by exact HH.out.2) (by simp; omega) hbig).mono ?_
  rintro e w1 ⟨r1, rfl, hb1⟩
  have H1 := Lib.hid (HH.out.1.trans (hb1.mono (by simp)))
  clear hb1
  cases r1
  all_goals
    go_wp2
    go_ret
    exact ⟨_, rfl, H1.out⟩
set_option maxHeartbeats 2000000 in
theorem f32 (D : Nat) (v : Value) (ys : List BlkV) (w : World) (h : BksIn w D v ys) (hD : D ≤ w.heap.size) (hbig : BksBig ys) : Calls Tryz.prog 32 #[v] w (SomeB w) := by
  have H := Lib.hid h
  obtain ⟨A, c, rfl, _⟩ := h
  obtain ⟨hl, hx⟩ := hbig
  have HX := Lib.hid hx
  clear hx
  by_cases hn : ys.length ≤ 2147483647
  · go_enter Tryz.func32, Tryz.ntmps32
    go_wp2
    go_loopw [10] (fun i wr => ∃ k : Nat, k ≤ ys.length ∧ i = .int .i64 k ∧ Below w.heap.size w wr) (fun i _ => ys.length - (intOf i).toNat)
    case atStart => exact ⟨0, by omega, rfl, Below.refl _ _⟩
    case round =>
      obtain ⟨k, hk, rfl, hb⟩ := hrel
      by_cases hlt : k < ys.length
      · obtain ⟨A', c', hAe, hh⟩ := H.out.below hb hD
        injection hAe with hA1 hA2 hA3
        subst hA1
        obtain ⟨a, rfl, haD, hall⟩ := hh (by intro e; rw [e] at hlt; simp at hlt)
        have hel := hall k hlt
        have hbk := HX.out ys[k] (by simp)
        generalize hyk : ys[k] = y at hel hbk
        have HYK := Lib.hid hyk
        clear hyk
        obtain ⟨kd, vd, g0, g1, g2, g3, g4, g5, g6, g7, hkd, hvd⟩ := hel
        obtain ⟨kA, kc, rfl⟩ := hkd.sl
        obtain ⟨vA, vc, rfl⟩ := hvd.sl
        obtain ⟨o, x⟩ := y
        simp only at g0 g1 g2 g3 g4 g5 g6 g7 hkd hvd hbk
        have hmi : MIn wr D (.agg #[.int .i8 x.ver, .bool x.la, .int .i64 x.tm, .bool x.key.1, .slice kA x.key.2.length kc, .bool x.val.1, .slice vA x.val.2.length vc]) x := ⟨_, _, rfl, hkd, hvd⟩
        have HR := Lib.hid (And.intro hmi hb)
        clear hall hh hkd hvd hmi hA2 hA3
        have hbw : Below wr.heap.size wr (wr.alloc (.cells #[.int .i64 o, .int .i8 x.ver, .bool x.la, .int .i64 x.tm, .bool x.key.1, .slice kA x.key.2.length kc, .bool x.val.1, .slice vA x.val.2.length vc] 62)) := (Below.refl _ _).alloc (Nat.le_refl _) _
        have HW := Lib.hid (And.intro hbw (Blk.new wr 62 [.int .i64 o, .int .i8 x.ver, .bool x.la, .int .i64 x.tm, .bool x.key.1, .slice kA x.key.2.length kc, .bool x.val.1, .slice vA x.val.2.length vc]))
        clear hbw
        have hsz := hb.size
        clear hb
        go_wp2_with fail
        refine (f65 D o x _ _ _ _ _ (by exact HR.out.1.below HW.out.1 (by omega)) (by simp; omega) hbk).mono ?_
        rintro e w1 ⟨b, rfl, hb1⟩
        have HN := Lib.hid ((HR.out.2.trans (HW.out.1.mono hsz)).trans (hb1.mono (by simp; omega)))
        clear hb1
        cases b
        · go_wp2
          go_ret
          exact ⟨_, rfl, HN.out⟩
        · go_wp2
          go_roundw
          case rel =>
            first
              | exact ⟨k + 1, by omega, by go_num, HN.out⟩
              | ((repeat apply Exists.intro); exact ⟨⟨k + 1, by omega, by go_num, HN.out⟩, rfl⟩)
          case measure => simp [intOf]; omega
      · obtain rfl : k = ys.length := by omega
        go_wp2
        go_ret
        exact ⟨_, rfl, hb⟩
  · go_enter Tryz.func32, Tryz.ntmps32
    go_wp2
    go_ret
    exact ⟨_, rfl, Below.refl _ _⟩
def MRight (x : MsgV) : Prop := ((x.ver = 0 ∧ x.tm = -1 ∧ x.la = false) ∨ x.ver = 1) ∧ TRight x.tm ∧ SmallP x.key.1 x.key.2 200 ∧ SmallP x.val.1 x.val.2 300
set_option maxHeartbeats 2000000 in
theorem f24 (D : Nat) (x : MsgV) (v : Value) (w : World) (h : MIn w D v x) (hD : D ≤ w.heap.size) : Calls Tryz.prog 24 #[v] w (TellB (MRight x) w) := by
  obtain ⟨kd, vd, rfl, h1, h2⟩ := h
  obtain ⟨ver, la, tm, key, val⟩ := x
  simp only at h1 h2 ⊢
  obtain ⟨kA, kc, rfl⟩ := h1.sl
  obtain ⟨vA, vc, rfl⟩ := h2.sl
  have hb0 : Below w.heap.size w (w.alloc (.cells #[.int .i8 ver, .bool la, .int .i64 tm, .bool key.1, .slice kA key.2.length kc, .bool val.1, .slice vA val.2.length vc] 45)) := (Below.refl _ _).alloc (Nat.le_refl _) _
  have hp0 := Blk.new w 45 [.int .i8 ver, .bool la, .int .i64 tm, .bool key.1, .slice kA key.2.length kc, .bool val.1, .slice vA val.2.length vc]
  have HH := Lib.hid (And.intro hb0 hp0)
  have HD := Lib.hid (And.intro h1 h2)
  clear hb0 hp0 h1 h2
  by_cases hA : (ver = 0 ∧ tm = -1 ∧ la = false) ∨ ver = 1
  case neg =>
    have hn1 : ((ver : Int) == 1) = false := by simp; omega
    by_cases hv0 : ver = 0
    · subst hv0
      by_cases htm : tm = -1
      · subst htm
        cases la
        · exact absurd (.inl ⟨rfl, rfl, rfl⟩) hA
        · clear hA
          go_enter Tryz.func24, Tryz.ntmps24
          go_wp2
          go_ret
          exact ⟨_, rfl, nofun, HH.out.1⟩
      · have hm : ((tm : Int) == -1) = false := by simpa using htm
        clear hA htm
        go_enter Tryz.func24, Tryz.ntmps24
        go_wp2
        go_ret
        exact ⟨_, rfl, nofun, HH.out.1⟩
    · have hm : ((ver : Int) == 0) = false := by simpa using hv0
      clear hA hv0
      go_enter Tryz.func24, Tryz.ntmps24
      go_wp2
      go_ret
      exact ⟨_, rfl, nofun, HH.out.1⟩
  case pos =>
    by_cases hft : TRight tm
    case neg =>
      have hd : (decide (-1 ≤ tm) && decide (tm < 8796093022208)) = false := by
        unfold TRight at hft
        simp
        omega
      rcases hA with ⟨rfl, rfl, rfl⟩ | rfl
      · exact absurd (by unfold TRight; omega) hft
      · go_enter Tryz.func24, Tryz.ntmps24
        go_wp2_with (go_at_call 56; refine (f56 _ _).mono ?_; rintro e w1 ⟨rfl, rfl⟩; rw [hd])
        go_ret
        exact ⟨_, rfl, nofun, HH.out.1⟩
    case pos =>
      have HFT := Lib.hid hft
      have HAA := Lib.hid hA
      have hd : (decide (-1 ≤ tm) && decide (tm < 8796093022208)) = true := by
        unfold TRight at hft
        simp
        omega
      have key56 : ∀ W, Calls Tryz.prog 56 #[.int .i64 tm] W fun e w' => e = .returned (.bool true) ∧ W = w' := fun W => (f56 tm W).mono fun e w' ⟨h1, h2⟩ => ⟨by rw [h1, hd], h2.symm⟩
      clear hd hft
      rcases hA with ⟨rfl, rfl, rfl⟩ | rfl
      all_goals
        go_enter Tryz.func24, Tryz.ntmps24
        go_wp2_with (go_at_call 56; refine (key56 _).mono ?_; rintro e w1 ⟨rfl, rfl⟩)
        refine (small2 _ _ _ D 200 _ (HD.out.1.below HH.out.1 hD) (by omega)).mono ?_
        rintro e w1 ⟨r1, rfl, hr1, hb1⟩
        have hp1 := HH.out.2.below hb1 (by simp)
        have c5 := hp1.cell 5
        have c6 := hp1.cell 6
        simp only [List.getElem?_cons_zero, List.getElem?_cons_succ] at c5 c6
        have H1 := Lib.hid (And.intro (HH.out.1.trans (hb1.mono (by simp))) hr1)
        clear hp1 hb1 hr1
        cases r1
        · go_wp2
          go_ret
          exact ⟨_, rfl, nofun, H1.out.1⟩
        · go_wp2_with fail
          refine (small2 _ _ _ D 300 _ (HD.out.2.below H1.out.1 hD) (by omega)).mono ?_
          rintro e w2 ⟨r2, rfl, hr2, hb2⟩
          have H2 := Lib.hid (And.intro (H1.out.1.trans (hb2.mono H1.out.1.size)) hr2)
          clear hb2 hr2
          cases r2
          · go_wp2
            go_ret
            exact ⟨_, rfl, nofun, H2.out.1⟩
          · go_wp2
            go_ret
            exact ⟨_, rfl, fun _ => ⟨by simp, HFT.out, by first | exact H1.out.2 rfl | exact H1.out.2 trivial, by first | exact H2.out.2 rfl | exact H2.out.2 trivial⟩, H2.out.1⟩
def BksRight (ys : List BlkV) : Prop := ys.length ≤ 8 ∧ ∀ y ∈ ys, MRight y.msg
set_option maxHeartbeats 2000000 in
theorem f33 (D : Nat) (v : Value) (ys : List BlkV) (w : World) (h : BksIn w D v ys) (hD : D ≤ w.heap.size) (hbig : BksBig ys) : Calls Tryz.prog 33 #[v] w (TellB (BksRight ys) w) := by
  have H := Lib.hid h
  obtain ⟨A, c, rfl, _⟩ := h
  obtain ⟨hl, hx⟩ := hbig
  have HX := Lib.hid hx
  clear hx
  go_enter Tryz.func33, Tryz.ntmps33
  go_wp2
  go_loopw [7] (fun i wr => ∃ k : Nat, k ≤ ys.length ∧ i = .int .i64 k ∧ Below w.heap.size w wr ∧ Hid (∀ j (h : j < k) (h' : j < ys.length), MRight ys[j].msg)) (fun i _ => ys.length - (intOf i).toNat)
  case atStart => exact ⟨0, by omega, rfl, Below.refl _ _, fun j h => by omega⟩
  case round =>
    obtain ⟨k, hk, rfl, hb, HDN⟩ := hrel
    by_cases hlt : k < ys.length
    · obtain ⟨A', c', hAe, hh⟩ := H.out.below hb hD
      injection hAe with hA1 hA2 hA3
      subst hA1
      obtain ⟨a, rfl, haD, hall⟩ := hh (by intro e; rw [e] at hlt; simp at hlt)
      have hel := hall k hlt
      have hbk := HX.out ys[k] (by simp)
      generalize hyk : ys[k] = y at hel hbk
      have HYK := Lib.hid hyk
      clear hyk
      obtain ⟨kd, vd, g0, g1, g2, g3, g4, g5, g6, g7, hkd, hvd⟩ := hel
      obtain ⟨kA, kc, rfl⟩ := hkd.sl
      obtain ⟨vA, vc, rfl⟩ := hvd.sl
      obtain ⟨o, x⟩ := y
      simp only at g0 g1 g2 g3 g4 g5 g6 g7 hkd hvd hbk
      have hmi : MIn wr D (.agg #[.int .i8 x.ver, .bool x.la, .int .i64 x.tm, .bool x.key.1, .slice kA x.key.2.length kc, .bool x.val.1, .slice vA x.val.2.length vc]) x := ⟨_, _, rfl, hkd, hvd⟩
      have HR := Lib.hid (And.intro hmi hb)
      clear hall hh hkd hvd hmi hA2 hA3
      have hbw : Below wr.heap.size wr (wr.alloc (.cells #[.int .i64 o, .int .i8 x.ver, .bool x.la, .int .i64 x.tm, .bool x.key.1, .slice kA x.key.2.length kc, .bool x.val.1, .slice vA x.val.2.length vc] 62)) := (Below.refl _ _).alloc (Nat.le_refl _) _
      have HW := Lib.hid (And.intro hbw (Blk.new wr 62 [.int .i64 o, .int .i8 x.ver, .bool x.la, .int .i64 x.tm, .bool x.key.1, .slice kA x.key.2.length kc, .bool x.val.1, .slice vA x.val.2.length vc]))
      clear hbw
      have hsz := hb.size
      clear hb
      go_wp2_with fail
      refine (f24 D x _ _ (by exact HR.out.1.below HW.out.1 (by omega)) (by simp; omega)).mono ?_
      rintro e w1 ⟨b, rfl, hbr, hb1⟩
      have HN := Lib.hid (And.intro ((HR.out.2.trans (HW.out.1.mono hsz)).trans (hb1.mono (by simp; omega))) hbr)
      clear hb1 hbr
      cases b
      · go_wp2
        go_ret
        exact ⟨_, rfl, nofun, HN.out.1⟩
      · have HD3 : Hid (∀ j (h : j < k + 1) (h' : j < ys.length), MRight ys[j].msg) := (fun j h h' => by
          by_cases hj : j < k
          · exact HDN.out j hj h'
          · obtain rfl : j = k := by omega
            rw [HYK.out]
            exact HN.out.2 rfl : ∀ j (h : j < k + 1) (h' : j < ys.length), MRight ys[j].msg)
        go_wp2
        go_roundw
        case rel =>
          first
            | exact ⟨k + 1, by omega, by go_num, HN.out.1, HD3⟩
            | ((repeat apply Exists.intro); exact ⟨⟨k + 1, by omega, by go_num, HN.out.1, HD3⟩, rfl⟩)
        case measure => simp [intOf]; omega
    · obtain rfl : k = ys.length := by omega
      have HB := Lib.hid hb
      clear hb
      by_cases h8 : ys.length ≤ 8
      · go_wp2
        go_ret
        exact ⟨_, rfl, fun _ => ⟨h8, fun y hy => by
          obtain ⟨j, hj, rfl⟩ := List.mem_iff_getElem.1 hy
          exact HDN.out j hj hj⟩, HB.out⟩
      · go_wp2
        go_ret
        exact ⟨_, rfl, fun h => by simp at h; omega, HB.out⟩
end Go.Proofs.YtmiflkccfieefaaGreatDoor

/-
  The reference's form of a message set: spec.SetBytes.
-/
namespace Go.Proofs.YtmiflkccfieefaaGreatDoor
open Go.ChangeShapes Go.WideShapes Go.ChangeAt Go.RowKit
set_option maxRecDepth 100000
set_option linter.unusedVariables false
set_option linter.unusedSimpArgs false

def BlkV.bytes (y : BlkV) : List UInt8 := (Lib.beBytes 8 (y.off % 18446744073709551616).toNat ++ Lib.beBytes 4 y.msg.bytes.length) ++ y.msg.bytes
def setBytes : List BlkV → List UInt8
  | [] => []
  | y :: r => y.bytes ++ setBytes r
theorem setBytes_app : ∀ a b : List BlkV, setBytes (a ++ b) = setBytes a ++ setBytes b
  | [], _ => rfl
  | y :: a, b => by simp [setBytes, setBytes_app a b]
theorem ol_le {b : Bool} {l : List UInt8} : ol (nb b l) ≤ l.length := by cases b <;> simp [nb, ol]
theorem sBytes_le (o : NB) : (sBytes o).length = 4 + ol o := by
  cases o <;> simp [sBytes, ol, Lib.beBytes_length]
theorem MRight.len {x : MsgV} (h : MRight x) : x.bytes.length ≤ 600 ∧ 15 ≤ x.bytes.length + 1 := by
  obtain ⟨_, _, ⟨hk, _⟩, ⟨hv, _⟩⟩ := h
  have a := ol_le (b := x.key.1) (l := x.key.2)
  have b := ol_le (b := x.val.1) (l := x.val.2)
  have t : (tBytes x.ver x.tm).length ≤ 8 := by unfold tBytes; split <;> simp [Lib.beBytes_length]
  have e : x.bytes.length = 4 + (2 + ((tBytes x.ver x.tm).length + ((4 + ol (nb x.key.1 x.key.2)) + (4 + ol (nb x.val.1 x.val.2))))) := by
    simp [MsgV.bytes, msgBytes, msgBody, Lib.beBytes_length, sBytes_le, BP.nb]
    omega
  omega
theorem BlkV.len {y : BlkV} (h : MRight y.msg) : y.bytes.length ≤ 612 ∧ 12 ≤ y.bytes.length := by
  have := h.len
  simp only [BlkV.bytes, List.length_append, Lib.beBytes_length]
  omega
theorem setBytes_len : ∀ (ys : List BlkV), (∀ y ∈ ys, MRight y.msg) → (setBytes ys).length ≤ 612 * ys.length
  | [], _ => by simp [setBytes]
  | y :: r, h => by
    have h1 := setBytes_len r (fun z hz => h z (by simp [hz]))
    have h2 := (BlkV.len (h y (by simp))).1
    simp only [setBytes, List.length_append, List.length_cons]
    omega
def BkNum (ys : List BlkV) : Prop := ∀ y ∈ ys, -9223372036854775808 ≤ y.off ∧ y.off ≤ 9223372036854775807
theorem nat_mod32 (n : Nat) (h : n < 4294967296) : ((n : Int) % 4294967296).toNat = n := by omega
theorem Own.at_ {w w' : World} {B g c n : Nat} {l : List UInt8} (h : Own w B (.slice (some ⟨g, 0, none⟩) n c) l) (e : w'.heap[g]? = w.heap[g]?) : Own w' B (.slice (some ⟨g, 0, none⟩) n c) l := by
  refine ⟨⟨h.1.1, ?_⟩, h.2⟩
  rcases h.1.2 with hn | ⟨g', cap, cur, hv, hB, hg, hr⟩
  · exact .inl hn
  · injection hv with h1 h2 h3
    injection h1 with h1
    injection h1 with h1 _
    subst h1
    exact .inr ⟨g, cap, cur, by rw [h2, h3], hB, e.trans hg, hr⟩
theorem grown_at {w w' : World} {u : Value} {g : Nat} (hgr : w.grownBy w' u.ownBlock) (hg : g < w.heap.size) (hne : u.ownBlock ≠ some g) : w'.heap[g]? = w.heap[g]? := hgr.block g hg (fun e => hne e.symm)
set_option maxHeartbeats 4000000 in
theorem f34 (D : Nat) (v : Value) (ys : List BlkV) (w : World) (h : BksIn w D v ys) (hD : D ≤ w.heap.size) (hr : BksRight ys) (hn : BkNum ys) :
    Calls Tryz.prog 34 #[v] w fun e w' => ∃ v', e = .returned v' ∧ Own1 w' w.heap.size v' (setBytes ys) ∧ Below w.heap.size w w' := by
  have H := Lib.hid h
  obtain ⟨A, c, rfl, _⟩ := h
  obtain ⟨hl8, hx⟩ := hr
  have HX := Lib.hid hx
  have HNM := Lib.hid hn
  have hlen := fun k => setBytes_len (ys.take k) (fun y hy => hx y (List.mem_of_mem_take hy))
  have HLEN := Lib.hid hlen
  clear hx hn hlen
  go_enter Tryz.func34, Tryz.ntmps34
  go_wp2
  go_loopw [3, 9] (fun vb i wr => ∃ k : Nat, k ≤ ys.length ∧ i = .int .i64 k ∧ Below w.heap.size w wr ∧ Hid (Own1 wr w.heap.size vb (setBytes (ys.take k)))) (fun _ i _ => ys.length - (intOf i).toNat)
  case atStart => exact ⟨0, by omega, rfl, Below.refl _ _, Own1.nil _ _⟩
  case round =>
    obtain ⟨k, hk, rfl, hb, HO⟩ := hrel
    by_cases hlt : k < ys.length
    · obtain ⟨A', c', hAe, hh⟩ := H.out.below hb hD
      injection hAe with hA1 hA2 hA3
      subst hA1
      obtain ⟨a, rfl, haD, hall⟩ := hh (by intro e; rw [e] at hlt; simp at hlt)
      have hel := hall k hlt
      have hbk := HX.out ys[k] (by simp)
      generalize hyk : ys[k] = y at hel hbk
      have HYK := Lib.hid hyk
      clear hyk
      obtain ⟨kd, vd, g0, g1, g2, g3, g4, g5, g6, g7, hkd, hvd⟩ := hel
      obtain ⟨kA, kc, rfl⟩ := hkd.sl
      obtain ⟨vA, vc, rfl⟩ := hvd.sl
      obtain ⟨o, x⟩ := y
      simp only at g0 g1 g2 g3 g4 g5 g6 g7 hkd hvd hbk
      have hmi : MIn wr D (.agg #[.int .i8 x.ver, .bool x.la, .int .i64 x.tm, .bool x.key.1, .slice kA x.key.2.length kc, .bool x.val.1, .slice vA x.val.2.length vc]) x := ⟨_, _, rfl, hkd, hvd⟩
      have HR := Lib.hid (And.intro hmi hb)
      clear hall hh hkd hvd hmi hA2 hA3
      have hbw : Below wr.heap.size wr (wr.alloc (.cells #[.int .i64 o, .int .i8 x.ver, .bool x.la, .int .i64 x.tm, .bool x.key.1, .slice kA x.key.2.length kc, .bool x.val.1, .slice vA x.val.2.length vc] 62)) := (Below.refl _ _).alloc (Nat.le_refl _) _
      have HW := Lib.hid (And.intro hbw (Blk.new wr 62 [.int .i64 o, .int .i8 x.ver, .bool x.la, .int .i64 x.tm, .bool x.key.1, .slice kA x.key.2.length kc, .bool x.val.1, .slice vA x.val.2.length vc]))
      clear hbw
      have hsz := hb.size
      clear hb
      have hnum := HNM.out ys[k] (by simp)
      rw [HYK.out] at hnum
      obtain ⟨n0, n1⟩ := hnum
      replace n0 : -9223372036854775808 ≤ o := n0
      replace n1 : o ≤ 9223372036854775807 := n1
      have hml := hbk.len
      obtain ⟨m1, ⟨m2, m3⟩, ⟨m4, _⟩, ⟨m5, _⟩⟩ := id hbk
      have hver : x.ver = 0 ∨ x.ver = 1 := by rcases m1 with ⟨h, _⟩ | h; exact .inl h; exact .inr h
      have HBK := Lib.hid (And.intro hbk hver)
      have hsl := HLEN.out k
      rw [List.length_take] at hsl
      have hmin : min k ys.length ≤ 8 := by omega
      have hsl2 : (setBytes (ys.take k)).length ≤ 5000 := by omega
      clear hbk m1 hver hsl
      go_wp2_with fail
      refine (f25 D x _ _ (by exact HR.out.1.below HW.out.1 (by omega)) (by simp; omega) (by omega) (by omega) m2 m3 HBK.out.2).mono ?_
      rintro e w1 ⟨u1, rfl, hu1, hb1⟩
      have hform : ∃ g1 c1, u1 = .slice (some ⟨g1, 0, none⟩) x.bytes.length c1 ∧ wr.heap.size + 1 ≤ g1 ∧ g1 < w1.heap.size := by
        obtain ⟨g1, c1, cur, hv, hg, hg', _⟩ := hu1.form
        exact ⟨g1, c1, hv, by simpa using hg, hg'⟩
      obtain ⟨g1, c1, rfl, hga, hgb⟩ := hform
      have hfar : u3.ownBlock ≠ some g1 := fun e => by have := (HO.out.blk e).2; omega
      have HFAR := Lib.hid (And.intro hfar (And.intro hga hgb))
      clear hfar hga hgb
      have hp1 := HW.out.2.below hb1 (by simp)
      have c0 := hp1.cell 0
      simp only [List.getElem?_cons_zero] at c0
      have H1 := Lib.hid (And.intro hu1 (And.intro hp1 ((HR.out.2.trans (HW.out.1.mono hsz)).trans (hb1.mono (by simp; omega)))))
      have ho1 := HO.out.below ((HW.out.1).trans (hb1.mono (by simp))) (Nat.le_refl _)
      have HO1 := Lib.hid ho1
      clear hu1 hb1 hp1 ho1
      go_wp2_with fail
      refine (f37_8 o n0 n1 _).mono ?_
      rintro e w2 ⟨u2, rfl, hu2, hb2⟩
      have hs1 := H1.out.2.2.size
      have H2 := Lib.hid (And.intro (hu2.bytes rfl) (And.intro (HO1.out.below hb2 (Nat.le_refl _)) (And.intro (H1.out.2.2.trans (hb2.mono hs1)) (And.intro (H1.out.1.at_ (hb2.block g1 HFAR.out.2.2)) hb2.size))))
      clear hu2 hb2 c0
      have hbe8 : (Lib.beBytes 8 (o % 18446744073709551616).toNat).length = 8 := Lib.beBytes_length _ _
      go_wp2_with (at_builtin; refine wpList_app rfl _ _ rfl w.heap.size _ u2 (setBytes (ys.take k)) (Lib.beBytes 8 (o % 18446744073709551616).toNat) w2.heap.size rfl rfl H2.out.2.1 (.inl H2.out.1) (by omega) H2.out.2.2.1.size ?_)
      intro v3 w3 ho3 hnil3 hb3 hat3 hgr3
      have hs2 := H2.out.2.2.1.size
      have hg12 : g1 < w2.heap.size := Nat.lt_of_lt_of_le HFAR.out.2.2 H2.out.2.2.2.2
      have hx3 := H2.out.2.2.2.1.at_ (grown_at hgr3 hg12 HFAR.out.1)
      have hfar3 : v3.ownBlock ≠ some g1 := fun e => by
        rcases hat3 with h | h
        · exact HFAR.out.1 (h ▸ e)
        · rw [h] at e
          injection e with e
          omega
      have H3 := Lib.hid (And.intro ho3 (And.intro (H2.out.2.2.1.trans hb3) (And.intro hx3 (And.intro hfar3 (Nat.lt_of_lt_of_le hg12 hgr3.size)))))
      clear ho3 hnil3 hb3 hat3 hgr3 hx3 hfar3 hg12
      go_wp2_with fail
      refine (f37_4 x.bytes.length (by omega) (by omega) _).mono ?_
      rintro e w4 ⟨u4, rfl, hu4, hb4⟩
      rw [nat_mod32 _ (by omega)] at hu4
      have hs3 := H3.out.2.1.size
      have hx4 := H3.out.2.2.1.at_ (hb4.block g1 H3.out.2.2.2.2)
      have H4 := Lib.hid (And.intro (hu4.bytes rfl) (And.intro (H3.out.1.below hb4 (Nat.le_refl _)) (And.intro (H3.out.2.1.trans (hb4.mono hs3)) (And.intro hx4 (Nat.lt_of_lt_of_le H3.out.2.2.2.2 hb4.size)))))
      clear hu4 hb4 hx4
      have hbe4 : (Lib.beBytes 4 x.bytes.length).length = 4 := Lib.beBytes_length _ _
      have hl1 : (setBytes (ys.take k) ++ Lib.beBytes 8 (o % 18446744073709551616).toNat).length ≤ 5008 := by rw [List.length_append]; omega
      go_wp2_with (at_builtin; refine wpList_app rfl _ _ rfl w.heap.size _ u4 (setBytes (ys.take k) ++ Lib.beBytes 8 (o % 18446744073709551616).toNat) (Lib.beBytes 4 x.bytes.length) w4.heap.size rfl rfl H4.out.2.1 (.inl H4.out.1) (by omega) H4.out.2.2.1.size ?_)
      intro v5 w5 ho5 hnil5 hb5 hat5 hgr5
      have hx5 := H4.out.2.2.2.1.at_ (grown_at hgr5 H4.out.2.2.2.2 H3.out.2.2.2.1)
      have H5 := Lib.hid (And.intro ho5 (And.intro (H4.out.2.2.1.trans hb5) (hx5.bytes rfl)))
      clear ho5 hnil5 hb5 hat5 hgr5 hx5
      have hl2 : (setBytes (ys.take k) ++ (Lib.beBytes 8 (o % 18446744073709551616).toNat ++ Lib.beBytes 4 x.bytes.length)).length ≤ 5012 := by rw [List.length_append, List.length_append]; omega
      go_wp2_with (at_builtin; refine wpList_app rfl _ _ rfl w.heap.size _ _ (setBytes (ys.take k) ++ (Lib.beBytes 8 (o % 18446744073709551616).toNat ++ Lib.beBytes 4 x.bytes.length)) x.bytes w5.heap.size rfl rfl H5.out.1 (.inl H5.out.2.2) (by omega) H5.out.2.1.size ?_)
      intro v6 w6 ho6 hnil6 hb6 hat6 hgr6
      have hset : setBytes (ys.take (k + 1)) = setBytes (ys.take k) ++ (Lib.beBytes 8 (o % 18446744073709551616).toNat ++ (Lib.beBytes 4 x.bytes.length ++ x.bytes)) := by
        rw [List.take_succ_eq_append_getElem hlt, setBytes_app, HYK.out]
        simp [setBytes, BlkV.bytes]
      try simp only [List.append_assoc] at ho6
      rw [← hset] at ho6
      have HN := Lib.hid (And.intro (H5.out.2.1.trans hb6) ho6)
      clear ho6 hnil6 hb6 hat6 hgr6 hset hl1 hl2
      go_wp2
      go_roundw
      case rel => exact ⟨k + 1, by omega, by go_num, HN.out.1, HN.out.2⟩
      case measure => simp [intOf]; omega
    · obtain rfl : k = ys.length := by omega
      have HF := Lib.hid (And.intro HO.out hb)
      go_wp2
      go_ret
      exact ⟨_, rfl, by have h := HF.out.1; rw [List.take_length] at h; exact h, HF.out.2⟩
end Go.Proofs.YtmiflkccfieefaaGreatDoor
