/-
  A message set is decoded: magicValue, MessageSet.decode.
-/
import Derived.Test.YtmiflkccfieefaaGreatDoorZad
import Derived.Test.YtmiflkccfieefaaGreatDoorZac
import Derived.Test.YtmiflkccfieefaaGreatDoorDrc
import Derived.Deep.LoopGhost
import Derived.Test.YtmiflkccfieefaaGreatDoorUnr
import Derived.Test.YtmiflkccfieefaaGreatDoorZab
import Derived.Test.YtmiflkccfieefaaGreatDoorRw
import Derived.Test.YtmiflkccfieefaaGreatDoorSam
import Derived.Test.YtmiflkccfieefaaGreatDoorZaa
import Derived.Test.YtmiflkccfieefaaGreatDoorAlv
namespace Go.Proofs.YtmiflkccfieefaaGreatDoor
open Go.ChangeShapes Go.WideShapes Go.ChangeAt Go.RowKit
set_option maxRecDepth 100000
set_option linter.unusedVariables false
set_option linter.unusedSimpArgs false

theorem d157 {B : Nat} (p g c : Nat) (x : Int) (m pre rest : List UInt8) (stk : List Value) (w : World) (h : RD B w p g c pre (m ++ ([byteOf x] ++ rest)) stk) (hm : m.length = 16) (hl : pre.length + m.length + rest.length ≤ 900000) (hx0 : -128 ≤ x) (hx1 : x ≤ 127) :
    Calls Tryz.prog 157 #[.iface 171 (.pointer (some ⟨p, 0, none⟩))] w fun e w' => e = .returned (.tuple #[.int .i8 x, .nilIface]) ∧ ∃ n, w' = w.drewN n := by
  have hc := d175 p g c x m pre rest stk w h hl hx0 hx1
  rw [hm] at hc
  have HC := Lib.hid hc
  clear h hc
  go_enter Tryz.func157, Tryz.ntmps157
  go_wp2_with fail
  refine (HC.out).mono ?_
  rintro e w1 ⟨rfl, n, rfl⟩
  go_wp2
  go_ret2
  exact ⟨rfl, n, rfl⟩
theorem own_kept2 {w w' : World} {B C n : Nat} {e : TypeId} {sv : Value} {xs : List Value} {S : List Nat} (h : w.ownsRow C e 1 sv n xs) (he : ¬ stackT e) (hk : Kept B S w w') (hS : ∀ x ∈ S, w.heap.size ≤ x ∨ ∃ t cs, Blk w x t cs ∧ t ≠ e) : w'.ownsRow C e 1 sv n xs := by
  have hne : ∀ x ∈ S, ∀ g, sv.ownBlock = some g → g ≠ x := fun x hx g hg => by
    rintro rfl
    obtain ⟨_, C', hC⟩ := own_row h hg
    rcases hS g hx with h1 | ⟨t, cs, h1, h2⟩
    · have := (Array.getElem?_eq_some_iff.1 hC).1
      omega
    · exact own_ne h h1 (Ne.symm h2) hg
  refine ⟨h.1, ?_⟩
  rcases h.2 with hn | ⟨g, cap, cur, rfl, hb, hgg, rest⟩
  · exact .inl hn
  · have hlt : g < w.heap.size := (Array.getElem?_eq_some_iff.1 hgg).1
    refine .inr ⟨g, cap, cur, rfl, hb, ?_, rest⟩
    rw [hk.block g hlt (fun hm => hne g hm g (by simp [Value.ownBlock]) rfl) (.inr (fun c' t' f' h' => by
      rw [hgg] at h'
      injection h' with h'
      injection h' with _ h'
      subst h'
      exact he))]
    exact hgg
theorem Sam2.kept {w w' : World} {B : Nat} {S : List Nat} (hk : Kept B S w w') (hS : ∀ x ∈ S, w.heap.size ≤ x ∨ ∃ t cs, Blk w x t cs ∧ ¬ (t = 5 ∨ t = 120 ∨ t = 146)) : Sam2 w w' :=
  ⟨hk.size, fun k C t f hk' ht => hk.block k (lt_of_heap hk') (fun hm => by
    rcases hS k hm with h1 | ⟨t', cs, h1, h2⟩
    · have := lt_of_heap hk'
      omega
    · unfold Blk at h1
      rw [hk'] at h1
      injection h1 with h1
      injection h1 with _ h1
      subst h1
      exact h2 ht) (.inr (fun c' t' f' h' => by
      rw [hk'] at h'
      injection h' with h'
      injection h' with _ h'
      subst h'
      rcases ht with rfl | rfl | rfl <;> (rintro (h5 | h5) <;> exact absurd h5 (by decide))))⟩
theorem kept_grown1 {B : Nat} {a b : World} {row : Option Nat} (hg : a.grownBy b row) : Kept B row.toList a b := by
  refine ⟨hg.os, hg.tape, hg.output, hg.size, fun k hk hS _ => hg.block k hk (fun e => hS (by rw [← e]; simp))⟩
theorem BlkV.magic (y : BlkV) : ∃ m t, y.bytes = m ++ ([byteOf y.msg.ver] ++ t) ∧ m.length = 16 := by
  rw [← BlkV.bytes_eq]
  have hmb : msgBytes y.msg.ver y.msg.la (tBytes y.msg.ver y.msg.tm) y.msg.key.nb y.msg.val.nb = sum4 (msgBody y.msg.ver y.msg.la (tBytes y.msg.ver y.msg.tm) y.msg.key.nb y.msg.val.nb) ++ msgBody y.msg.ver y.msg.la (tBytes y.msg.ver y.msg.tm) y.msg.key.nb y.msg.val.nb := rfl
  have hbd : ∃ t, msgBody y.msg.ver y.msg.la (tBytes y.msg.ver y.msg.tm) y.msg.key.nb y.msg.val.nb = [byteOf y.msg.ver] ++ t := ⟨_, rfl⟩
  obtain ⟨t, ht⟩ := hbd
  have h4 := sum4_len (msgBody y.msg.ver y.msg.la (tBytes y.msg.ver y.msg.tm) y.msg.key.nb y.msg.val.nb)
  refine ⟨Lib.beBytes 8 (y.off % 18446744073709551616).toNat ++ (Lib.beBytes 4 (msgBytes y.msg.ver y.msg.la (tBytes y.msg.ver y.msg.tm) y.msg.key.nb y.msg.val.nb).length ++ sum4 (msgBody y.msg.ver y.msg.la (tBytes y.msg.ver y.msg.tm) y.msg.key.nb y.msg.val.nb)), t, ?_, ?_⟩
  · rw [← ht]
    unfold blkBytes
    rw [hmb]
    simp only [List.append_assoc]
  · simp only [List.length_append, Lib.beBytes_length, h4]
set_option maxHeartbeats 4000000 in
theorem d156 {B : Nat} (p g c s : Nat) (ys : List BlkV) (hv0 : Value) (stk : List Value) (w : World) (h : RD B w p g c [] (setBytes ys) stk) (hlen : (setBytes ys).length ≤ 10000) (hok : ∀ y ∈ ys, y.ok ∧ -9223372036854775808 ≤ y.off ∧ y.off ≤ 9223372036854775807) (hl8 : ys.length ≤ 8)
    (hs : Blk w s 130 [.bool false, .bool false, hv0]) (hstk : stk.length ≤ 50) :
    Calls Tryz.prog 156 #[.pointer (some ⟨s, 0, none⟩), .iface 171 (.pointer (some ⟨p, 0, none⟩))] w fun e w' => e = .returned .nilIface ∧ ∃ hv ptrs qs rs, RD B w' p g c (setBytes ys) [] stk ∧ Blk w' s 130 [.bool false, .bool false, hv] ∧ w'.ownsRow w.heap.size 144 1 hv ys.length ptrs ∧ QAt w' ptrs ys qs rs ∧ Kept B [p, s] w w' := by
  have hsp := rd_ne h hs (by decide)
  have hb := h.base
  have hpw := h.lt
  have hgw := h.glt
  have hsw := hs.lt
  have c2 := hs.cell 2
  have f2 := hs.frozen 2
  simp only [List.getElem?_cons_zero, List.getElem?_cons_succ] at c2
  have hd1 := h.kept (S := [s]) ((Kept.refl _ _ _).setCell (p := ⟨s, 2, none⟩) (.inl (by simp)) (.slice none 0 0)) (fun x hx => by
    have : x = s := by simpa using hx
    subst this
    exact ⟨_, _, hs, by decide, by decide, by decide⟩)
  have hs1 := hs.set_ 2 (.slice none 0 0)
  simp only [List.set_cons_zero, List.set_cons_succ] at hs1
  have hk1 : Kept B [p, s] w (w.setCell ⟨s, 2, none⟩ (.slice none 0 0)) := (Kept.refl _ _ _).setCell (p := ⟨s, 2, none⟩) (.inl (by simp)) _
  have H1 := Lib.hid (And.intro hd1 (And.intro hs1 hk1))
  have HX := Lib.hid (And.intro hok hlen)
  clear h hs hd1 hs1 hk1 hok hlen
  go_enter Tryz.func156, Tryz.ntmps156
  go_wp2
  go_loopg [] ys.length (fun gk wr => Hid (∃ (don todo : List BlkV) (hv : Value) (ptrs : List Value) (qs rs : List Nat), ys = don ++ todo ∧ todo.length = gk ∧ RD B wr p g c (setBytes don) (setBytes todo) stk ∧ Blk wr s 130 [.bool false, .bool false, hv] ∧ wr.ownsRow w.heap.size 144 1 hv don.length ptrs ∧ QAt wr ptrs don qs rs ∧ Kept B [p, s] w wr))
  case atStart => exact ⟨[], ys, _, [], [], [], rfl, rfl, H1.out.1, H1.out.2.1, World.ownsRow_nil _ _ _ _, QAt.nil _, H1.out.2.2⟩
  case round =>
    obtain ⟨don, todo, hv, ptrs, qs, rs, hys, htl, hrd, hblk, hown, hqa, hkp⟩ := hrel.out
    have HA := Lib.hid (And.intro hrd (And.intro hblk (And.intro hown (And.intro hqa hkp))))
    have HY := Lib.hid hys
    clear hrel hrd hblk hown hqa hkp
    have hdr : ∀ n, RD B (wr.drewN n) p g c (setBytes don) (setBytes todo) stk ∧ Blk (wr.drewN n) s 130 [.bool false, .bool false, hv] ∧ (wr.drewN n).ownsRow w.heap.size 144 1 hv don.length ptrs ∧ QAt (wr.drewN n) ptrs don qs rs ∧ Kept B [p, s] w (wr.drewN n) := fun n =>
      ⟨HA.out.1.drewN n, HA.out.2.1.drewN n, own_kept2 (B := B) (S := []) HA.out.2.2.1 not144 ((Kept.refl _ _ _).drewN n) (fun x hx => by cases hx), HA.out.2.2.2.1.sam2 (Sam2.kept (B := B) (S := []) ((Kept.refl _ _ _).drewN n) (fun x hx => by cases hx)), HA.out.2.2.2.2.drewN n⟩
    have HD := Lib.hid hdr
    clear hdr hys
    have hlA : (setBytes don).length + (setBytes todo).length ≤ 10000 := by
      have := HX.out.2
      rw [HY.out, setBytes_app, List.length_append] at this
      exact this
    cases todo with
    | nil =>
      go_wp2_with fail
      refine (d178 p g c (setBytes don) (setBytes []) stk _ (by exact HA.out.1) (by omega)).mono ?_
      rintro e w1 ⟨rfl, n, rfl⟩
      have hF := HD.out n
      have hyd : ys = don := by have := HY.out; simpa using this
      have hfin : ∃ hv ptrs qs rs, RD B (wr.drewN n) p g c (setBytes ys) [] stk ∧ Blk (wr.drewN n) s 130 [.bool false, .bool false, hv] ∧ (wr.drewN n).ownsRow w.heap.size 144 1 hv ys.length ptrs ∧ QAt (wr.drewN n) ptrs ys qs rs ∧ Kept B [p, s] w (wr.drewN n) := by
        rw [hyd]
        exact ⟨hv, ptrs, qs, rs, hF⟩
      have HF := Lib.hid hfin
      clear hF hyd hfin
      have hz : ((setBytes ([] : List BlkV)).length : Int) = 0 := rfl
      rw [hz]
      go_wp2
      go_ret
      exact ⟨rfl, HF.out⟩
    | cons y todo =>
      have hpos : (0 : Int) < ((setBytes (y :: todo)).length : Int) := by
        simp only [setBytes, List.length_append, BlkV.bytes, Lib.beBytes_length]
        omega
      have hoky := HX.out.1 y (by rw [HY.out]; simp)
      obtain ⟨hyo, hy0, hy1⟩ := hoky
      have hv01 : y.msg.ver = 0 ∨ y.msg.ver = 1 := by
        rcases hyo.ver_ with ⟨h1, _⟩ | h1
        · exact .inl h1
        · exact .inr h1
      have HO := Lib.hid (And.intro hyo (And.intro hy0 hy1))
      clear hyo hy0 hy1
      have hbl : y.bytes.length + (setBytes todo).length = (setBytes (y :: todo)).length := by simp [setBytes]
      generalize hln : ((setBytes (y :: todo)).length : Int) = ln at hpos
      have HLN := Lib.hid hln
      clear hln
      go_wp2_with fail
      refine (d178 p g c (setBytes don) (setBytes (y :: todo)) stk _ (by exact HA.out.1) (by omega)).mono ?_
      rintro e w1 ⟨rfl, n, rfl⟩
      rw [HLN.out]
      have hF := HD.out n
      generalize (wr.drewN n) = w1 at hF
      have H1' := Lib.hid hF
      clear hF
      go_wp2_with fail
      obtain ⟨mg, tl, hmt, hml⟩ := y.magic
      have hmgl : mg.length + (1 + tl.length) = y.bytes.length := by
        rw [hmt]
        simp only [List.length_append, List.length_cons, List.length_nil]
      have hr1 : RD B w1 p g c (setBytes don) (mg ++ ([byteOf y.msg.ver] ++ (tl ++ setBytes todo))) stk := by
        have h := H1'.out.1
        simp only [setBytes, hmt] at h
        simpa using h
      have HR1 := Lib.hid (And.intro hr1 hml)
      have hr1l : (setBytes don).length + mg.length + (tl ++ setBytes todo).length ≤ 900000 := by
        rw [List.length_append]
        omega
      have HL1 := Lib.hid hr1l
      clear hmt hml hmgl hr1 hr1l
      refine (d157 p g c y.msg.ver mg (setBytes don) (tl ++ setBytes todo) stk _ (by exact HR1.out.1) HR1.out.2 HL1.out (by rcases hv01 with h | h <;> rw [h] <;> decide) (by rcases hv01 with h | h <;> rw [h] <;> decide)).mono ?_
      rintro e w2 ⟨rfl, n2, rfl⟩
      have hF2 : RD B (w1.drewN n2) p g c (setBytes don) (setBytes (y :: todo)) stk ∧ Blk (w1.drewN n2) s 130 [.bool false, .bool false, hv] ∧ (w1.drewN n2).ownsRow w.heap.size 144 1 hv don.length ptrs ∧ QAt (w1.drewN n2) ptrs don qs rs ∧ Kept B [p, s] w (w1.drewN n2) :=
        ⟨H1'.out.1.drewN n2, H1'.out.2.1.drewN n2, own_kept2 (B := B) (S := []) H1'.out.2.2.1 not144 ((Kept.refl _ _ _).drewN n2) (fun x hx => by cases hx), H1'.out.2.2.2.1.sam2 (Sam2.kept (B := B) (S := []) ((Kept.refl _ _ _).drewN n2) (fun x hx => by cases hx)), H1'.out.2.2.2.2.drewN n2⟩
      generalize (w1.drewN n2) = w2 at hF2
      have H2 := Lib.hid hF2
      clear hF2 HR1 HL1
      have hgt : ¬ (1 < y.msg.ver) := by omega
      have hq2 := Blk.new w2 146 [.int .i64 0, .pointer none]
      have hd2 := rd_new H2.out.1 (.cells #[.int .i64 0, .pointer none] 146)
      have hs2 := H2.out.2.1.alloc (.cells #[.int .i64 0, .pointer none] 146)
      have hk2 := H2.out.2.2.2.2.alloc (.cells #[.int .i64 0, .pointer none] 146)
      have ho2 := own_kept2 (B := B) (S := []) H2.out.2.2.1 not144 ((Kept.refl _ _ _).alloc (.cells #[.int .i64 0, .pointer none] 146)) (fun x hx => by cases hx)
      have hw2s : w.heap.size ≤ w2.heap.size := H2.out.2.2.2.2.size
      have hs2l := H2.out.2.1.lt
      have hp2l := H2.out.1.lt
      have hg2l := H2.out.1.glt
      have H3 := Lib.hid (And.intro hq2 (And.intro hd2 (And.intro hs2 (And.intro hk2 ho2))))
      clear hq2 hd2 hs2 hk2 ho2
      generalize hvv : y.msg.ver = vv at hgt
      have HVV := Lib.hid hvv
      clear hvv hv01
      go_wp2_with fail
      have hrd3 := H3.out.2.1
      simp only [setBytes] at hrd3
      rw [← BlkV.bytes_eq] at hrd3
      have HR3 := Lib.hid hrd3
      clear hrd3
      refine (d158 p g c (g + 1) w2.heap.size y.off y.msg.ver y.msg.la y.msg.tm y.msg.key.nb y.msg.val.nb (setBytes don) (setBytes todo) stk _ (by exact HR3.out) (by omega) HO.out.1 hstk (by omega) HO.out.2.1 HO.out.2.2 (by exact H3.out.1)).mono ?_
      rintro e w4 ⟨rfl, r, hd4, hba4, hr4, hk4⟩
      have hS4 : ∀ x ∈ [p, w2.heap.size], (w2.alloc (.cells #[.int .i64 0, .pointer none] 146)).heap.size ≤ x ∨ ∃ t cs, Blk (w2.alloc (.cells #[.int .i64 0, .pointer none] 146)) x t cs ∧ t ≠ 144 := fun x hx => by
        simp at hx
        rcases hx with rfl | rfl
        · obtain ⟨cp, hp⟩ := rd_blk H3.out.2.1
          exact .inr ⟨174, _, hp, by decide⟩
        · exact .inr ⟨146, _, H3.out.1, by decide⟩
      have ho4 := own_kept2 H3.out.2.2.2.2 not144 hk4 hS4
      have hs4 := H3.out.2.2.1.kept hk4 (by simp; exact ⟨hsp, by omega⟩) (.inr not130)
      have hsam : Sam2 w2 w4 := by
        have hkk : Kept B [p, w2.heap.size] w2 w4 := ((Kept.refl B [p, w2.heap.size] w2).alloc (.cells #[.int .i64 0, .pointer none] 146)).trans hk4 (fun x hx => .inl hx) (fun x hx => .inl hx)
        refine Sam2.kept hkk (fun x hx => ?_)
        simp at hx
        rcases hx with rfl | rfl
        · obtain ⟨cp, hp⟩ := rd_blk H2.out.1
          exact .inr ⟨174, _, hp, by decide⟩
        · exact .inl (Nat.le_refl _)
      have hk04 : Kept B [p, s] w w4 := H3.out.2.2.2.1.trans hk4 (fun x hx => .inl hx) (fun x hx => by
        simp at hx
        rcases hx with rfl | rfl
        · exact .inl (by simp)
        · exact .inr hw2s)
      have hsz4 := hk4.size
      have c4 := hs4.cell 2
      have z4 := hs4.frozen 2
      simp only [List.getElem?_cons_zero, List.getElem?_cons_succ] at c4
      have H4 := Lib.hid (And.intro hd4 (And.intro hba4 (And.intro hs4 (And.intro ho4 (And.intro hsam hk04)))))
      clear hd4 hba4 hk4 hs4 hS4 ho4 hsam hk04 H3 HR3
      obtain ⟨i0, hi, hz0, hz1, hz2⟩ := info_parts info144
      have hd8 : don.length ≤ 8 := by
        have : don.length ≤ ys.length := by rw [HY.out, List.length_append]; omega
        omega
      go_wp2_with (at_builtin; refine wpList_append_own _ rfl _ _ 128 rfl w.heap.size 144 i0 (.pointer none) 1 8 Tryz.underlying128 hi hz0 hz1 hz2 rfl (by decide) _ _ _ rfl (own_kept2 (B := B) (S := []) H4.out.2.2.2.1 not144 ((Kept.refl _ _ _).alloc (.cells #[.pointer (some ⟨w2.heap.size, 0, none⟩)] 144)) (fun x hx => by cases hx)) ⟨w4.heap.size, 0, none⟩ 1 1 [.pointer (some ⟨w2.heap.size, 0, none⟩)] rfl rfl ?c1 ?c2 ?c3 ?c4 ?c5 ?_)
      case c1 => exact cell_one_new _ _ _
      case c2 => intro u hu; simp at hu; subst hu; rfl
      case c3 => unfold maxLen; omega
      case c4 => omega
      case c5 => simp at hsz4 ⊢; omega
      intro v' w5 hown5 hg5 hnn
      have hex : ∃ g cap, v' = .slice (some ⟨g, 0, none⟩) (don.length + 1) cap := by
        rcases hown5.2 with ⟨_, hz⟩ | ⟨g, cap, cur, hv, _⟩
        · exact absurd hz (by omega)
        · exact ⟨g, cap, hv⟩
      obtain ⟨g5, cap, rfl⟩ := hex
      have hA := H4.out
      have hownA := own_kept2 (B := B) (S := []) hA.2.2.2.1 not144 ((Kept.refl _ _ _).alloc (.cells #[.pointer (some ⟨w2.heap.size, 0, none⟩)] 144)) (fun x hx => by cases hx)
      have hkg : Kept B hv.ownBlock.toList (w4.alloc (.cells #[.pointer (some ⟨w2.heap.size, 0, none⟩)] 144)) w5 := kept_grown1 hg5
      have hrow : ∀ x ∈ hv.ownBlock.toList, w.heap.size ≤ x ∧ ∃ cs, Blk (w4.alloc (.cells #[.pointer (some ⟨w2.heap.size, 0, none⟩)] 144)) x 144 cs := fun x hx => by
        have : hv.ownBlock = some x := by simpa using hx
        obtain ⟨h1, C, hC⟩ := own_row hownA this
        exact ⟨h1, C.toList, by unfold Blk; rw [hC]⟩
      have hs5 : Blk w5 s 130 [.bool false, .bool false, hv] := (hA.2.2.1.alloc _).kept hkg (fun hm => by
        obtain ⟨_, cs, hcs⟩ := hrow s hm
        exact (hA.2.2.1.alloc _).ne_ hcs (by decide) rfl) (.inr not130)
      have hd5 : RD B w5 p g c (setBytes don ++ blkBytes y.off y.msg.ver y.msg.la y.msg.tm y.msg.key.nb y.msg.val.nb) (setBytes todo) stk := (rd_new hA.1 _).kept (kept_grown1 hg5) (fun x hx => by
        obtain ⟨_, cs, hcs⟩ := hrow x hx
        exact ⟨144, cs, hcs, by decide, by decide, by decide⟩)
      have hsm5 : Sam2 w4 w5 := ((Sam2.refl w4).alloc _).trans (Sam2.kept hkg (fun x hx => by
        obtain ⟨_, cs, hcs⟩ := hrow x hx
        exact .inr ⟨144, cs, hcs, by decide⟩))
      have hk5 : Kept B [p, s] w w5 := (hA.2.2.2.2.2.alloc _).trans hkg (fun x hx => .inl hx) (fun x hx => .inr (hrow x hx).1)
      have hss := (Sam2.refl w5).setCell hs5 (by decide) 2 (.slice (some ⟨g5, 0, none⟩) (don.length + 1) cap)
      have hsF := hs5.set_ 2 (.slice (some ⟨g5, 0, none⟩) (don.length + 1) cap)
      simp only [List.set_cons_zero, List.set_cons_succ] at hsF
      have hdF := hd5.kept (S := [s]) ((Kept.refl _ _ _).setCell (p := ⟨s, 2, none⟩) (.inl (by simp)) (.slice (some ⟨g5, 0, none⟩) (don.length + 1) cap)) (fun x hx => by
        have : x = s := by simpa using hx
        subst this
        exact ⟨_, _, hs5, by decide, by decide, by decide⟩)
      have hoF := own_setCell hown5 hs5 (by decide) 2 (.slice (some ⟨g5, 0, none⟩) (don.length + 1) cap)
      have hkF := hk5.setCell (p := ⟨s, 2, none⟩) (.inl (by simp)) (.slice (some ⟨g5, 0, none⟩) (don.length + 1) cap)
      have c5 := hs5.cell 2
      have z5 := hs5.frozen 2
      simp only [List.getElem?_cons_zero, List.getElem?_cons_succ] at c5
      generalize hWF : w5.setCell ⟨s, 2, none⟩ (.slice (some ⟨g5, 0, none⟩) (don.length + 1) cap) = wF at hss hsF hdF hoF hkF
      have hsm4 := hsm5.trans hss
      have hbF := hA.2.1.sam2 hsm4 (D' := wF.heap.size) (by
        have h1 := hsm4.1
        simp at hsz4
        omega)
      have hqF : QAt wF (ptrs ++ [.pointer (some ⟨w2.heap.size, 0, none⟩)]) (don ++ [y]) (qs ++ [w2.heap.size]) (rs ++ [r]) :=
        H2.out.2.2.2.1.snoc (hA.2.2.2.2.1.trans hsm4) hbF (by have h1 := hsm4.1; simp at hsz4; omega) (by simp at hr4; omega) (MsgAt.lt hbF.2)
      have HN := Lib.hid (show ∃ (don' todo' : List BlkV) (hv : Value) (ptrs : List Value) (qs rs : List Nat), ys = don' ++ todo' ∧ todo'.length = todo.length ∧ RD B wF p g c (setBytes don') (setBytes todo') stk ∧ Blk wF s 130 [.bool false, .bool false, hv] ∧ wF.ownsRow w.heap.size 144 1 hv don'.length ptrs ∧ QAt wF ptrs don' qs rs ∧ Kept B [p, s] w wF from
        ⟨don ++ [y], todo, _, _, _, _, by rw [HY.out]; simp, rfl, by
          rw [setBytes_app]
          have e : setBytes [y] = blkBytes y.off y.msg.ver y.msg.la y.msg.tm y.msg.key.nb y.msg.val.nb := by rw [BlkV.bytes_eq]; simp [setBytes]
          rw [e]
          exact hdF, hsF, by simpa using hoF, hqF, hkF⟩)
      have HWF := Lib.hid hWF
      clear hA hownA hkg hrow hs5 hd5 hsm5 hk5 hss hsF hdF hoF hkF hsm4 hbF hqF hWF hown5 hg5 hnn H4 H2
      go_wp2
      rw [HWF.out]
      go_roundg todo.length
      case measure => rw [← htl]; simp
      case rel => exact HN
end Go.Proofs.YtmiflkccfieefaaGreatDoor

/-
  A message that was read, as the law's type has it: impl.unmessage.
-/
namespace Go.Proofs.YtmiflkccfieefaaGreatDoor
open Go.ChangeShapes Go.WideShapes Go.ChangeAt Go.RowKit
set_option maxRecDepth 100000
set_option linter.unusedVariables false
set_option linter.unusedSimpArgs false

theorem Blk.all7 {w : World} {b t : Nat} {c0 c1 c2 c3 c4 c5 c6 : Value} (h : Blk w b t [c0, c1, c2, c3, c4, c5, c6]) :
    w.cell? ⟨b, 0, none⟩ = some c0 ∧ w.cell? ⟨b, 1, none⟩ = some c1 ∧ w.cell? ⟨b, 2, none⟩ = some c2 ∧ w.cell? ⟨b, 3, none⟩ = some c3 ∧ w.cell? ⟨b, 4, none⟩ = some c4 ∧ w.cell? ⟨b, 5, none⟩ = some c5 ∧ w.cell? ⟨b, 6, none⟩ = some c6 ∧
    w.frozen? ⟨b, 0, none⟩ = false ∧ w.frozen? ⟨b, 1, none⟩ = false ∧ w.frozen? ⟨b, 2, none⟩ = false ∧ w.frozen? ⟨b, 3, none⟩ = false ∧ w.frozen? ⟨b, 4, none⟩ = false ∧ w.frozen? ⟨b, 5, none⟩ = false ∧ w.frozen? ⟨b, 6, none⟩ = false :=
  ⟨h.cell 0, h.cell 1, h.cell 2, h.cell 3, h.cell 4, h.cell 5, h.cell 6, h.frozen 0, h.frozen 1, h.frozen 2, h.frozen 3, h.frozen 4, h.frozen 5, h.frozen 6⟩
set_option maxHeartbeats 4000000 in
theorem f62 (D r : Nat) (ver : Int) (la : Bool) (m : Int) (ko vo : NB) (fresh : Bool) (w : World) (h : MsgAt w D r ver la (secOf m) (nsecOf m) ko vo fresh) (hD : D ≤ w.heap.size) (hok : MOk ver la m ko vo) :
    Calls Tryz.prog 62 #[.pointer (some ⟨r, 0, none⟩)] w fun e w' => ∃ A n c A' n' c', e = .returned (.agg #[.int .i8 ver, .bool la, .int .i64 m, .bool (bp ko).1, .slice A n c, .bool (bp vo).1, .slice A' n' c']) ∧ DataSt w' w'.heap.size (.slice A n c) (bp ko).2 ∧ DataSt w' w'.heap.size (.slice A' n' c') (bp vo).2 ∧ Below w.heap.size w w' := by
  obtain ⟨kv, vv, cv, sz, hm, hkv, hvv, hcv⟩ := h
  clear hcv
  obtain ⟨A1, n1, c1, rfl⟩ := hkv.form
  obtain ⟨A2, n2, c2, rfl⟩ := hvv.form
  obtain ⟨_, hm0, hm1, hko, hvo⟩ := hok
  have hrw := hm.lt
  have hb0 : Below w.heap.size w (w.alloc (.cells #[.int .i8 0, .bool false, .int .i64 0, .bool false, .slice none 0 0, .bool false, .slice none 0 0] 45)).drew := ((Below.refl _ _).alloc (Nat.le_refl _) _).drew
  have hz0 : Blk (w.alloc (.cells #[.int .i8 0, .bool false, .int .i64 0, .bool false, .slice none 0 0, .bool false, .slice none 0 0] 45)).drew w.heap.size 45 [.int .i8 0, .bool false, .int .i64 0, .bool false, .slice none 0 0, .bool false, .slice none 0 0] := (Blk.new w 45 [.int .i8 0, .bool false, .int .i64 0, .bool false, .slice none 0 0, .bool false, .slice none 0 0]).drew
  have hM0 := hm.below hb0 hrw
  have H := Lib.hid (And.intro hm (And.intro hkv hvv))
  have HZ := Lib.hid (And.intro hb0 hz0)
  have hS0 : (fun W => W.cell? ⟨r, 6, none⟩ = some (.int .i8 ver) ∧ W.cell? ⟨r, 2, none⟩ = some (.bool la) ∧ W.cell? ⟨r, 7, none⟩ = some (.int .i64 (secOf m)) ∧ W.cell? ⟨r, 8, none⟩ = some (.int .i64 (nsecOf m)) ∧ W.cell? ⟨r, 3, none⟩ = some (.slice A1 n1 c1) ∧ W.cell? ⟨r, 4, none⟩ = some (.slice A2 n2 c2)) (w.alloc (.cells #[.int .i8 0, .bool false, .int .i64 0, .bool false, .slice none 0 0, .bool false, .slice none 0 0] 45)).drew := ⟨hM0.cell 6, hM0.cell 2, hM0.cell 7, hM0.cell 8, hM0.cell 3, hM0.cell 4⟩
  clear hm hkv hvv hb0 hz0 hM0
  go_enter Tryz.func62, Tryz.ntmps62
  go_wp2_with fail
  refine wp_region_E 24 (fun W => W.cell? ⟨r, 6, none⟩ = some (.int .i8 ver) ∧ W.cell? ⟨r, 2, none⟩ = some (.bool la) ∧ W.cell? ⟨r, 7, none⟩ = some (.int .i64 (secOf m)) ∧ W.cell? ⟨r, 8, none⟩ = some (.int .i64 (nsecOf m)) ∧ W.cell? ⟨r, 3, none⟩ = some (.slice A1 n1 c1) ∧ W.cell? ⟨r, 4, none⟩ = some (.slice A2 n2 c2)) (by kernel_rfl) ?_
  refine wpE_takeL (i := 0) (v := ?_) rfl (by kernel_rfl) (by kernel_rfl) (by kernel_rfl) (by kernel_rfl) (fun _ _ _ h => h) (by assumption) (Or.inl ⟨by rfl, ?_⟩) ?_
  rotate_left
  · intro W hSw
    try dsimp only at hSw
    go_split_ands
    go_simp
    try with_reducible rfl
  try simp only [Act.put, List.setIfInBounds_toArray, List.set_cons_zero, List.set_cons_succ]
  refine wpE_takeL (i := 1) (v := ?_) rfl (by kernel_rfl) (by kernel_rfl) (by kernel_rfl) (by kernel_rfl) (fun _ _ _ h => h) (by assumption) (Or.inl ⟨by rfl, ?_⟩) ?_
  rotate_left
  · intro W hSw
    try dsimp only at hSw
    go_split_ands
    go_simp
    try with_reducible rfl
  try simp only [Act.put, List.setIfInBounds_toArray, List.set_cons_zero, List.set_cons_succ]
  refine wpE_takeL (i := 2) (v := ?_) rfl (by kernel_rfl) (by kernel_rfl) (by kernel_rfl) (by kernel_rfl) (fun _ _ _ h => h) (by assumption) (Or.inl ⟨by rfl, ?_⟩) ?_
  rotate_left
  · intro W hSw
    try dsimp only at hSw
    go_split_ands
    go_simp
    try with_reducible rfl
  try simp only [Act.put, List.setIfInBounds_toArray, List.set_cons_zero, List.set_cons_succ]
  refine wpE_takeL (i := 3) (v := ?_) rfl (by kernel_rfl) (by kernel_rfl) (by kernel_rfl) (by kernel_rfl) (fun _ _ _ h => h) (by assumption) (Or.inl ⟨by rfl, ?_⟩) ?_
  rotate_left
  · intro W hSw
    try dsimp only at hSw
    go_split_ands
    go_simp
    try with_reducible rfl
  try simp only [Act.put, List.setIfInBounds_toArray, List.set_cons_zero, List.set_cons_succ]
  refine wpE_takeL (i := 4) (v := ?_) rfl (by kernel_rfl) (by kernel_rfl) (by kernel_rfl) (by kernel_rfl) (fun _ _ _ h => h) (by assumption) (Or.inl ⟨by rfl, ?_⟩) ?_
  rotate_left
  · intro W hSw
    try dsimp only at hSw
    go_split_ands
    go_simp
    try with_reducible rfl
  try simp only [Act.put, List.setIfInBounds_toArray, List.set_cons_zero, List.set_cons_succ]
  refine wpE_takeL (i := 5) (v := ?_) rfl (by kernel_rfl) (by kernel_rfl) (by kernel_rfl) (by kernel_rfl) (fun _ _ _ h => h) (by assumption) (Or.inl ⟨by rfl, ?_⟩) ?_
  rotate_left
  · intro W hSw
    try dsimp only at hSw
    go_split_ands
    go_simp
    try with_reducible rfl
  try simp only [Act.put, List.setIfInBounds_toArray, List.set_cons_zero, List.set_cons_succ]
  refine wpE_takeL (i := 6) (v := ?_) rfl (by kernel_rfl) (by kernel_rfl) (by kernel_rfl) (by kernel_rfl) (fun _ _ _ h => h) (by assumption) (Or.inl ⟨by rfl, ?_⟩) ?_
  rotate_left
  · intro W hSw
    try dsimp only at hSw
    go_split_ands
    go_simp
    try with_reducible rfl
  try simp only [Act.put, List.setIfInBounds_toArray, List.set_cons_zero, List.set_cons_succ]
  refine wpE_takeL (i := 7) (v := ?_) rfl (by kernel_rfl) (by kernel_rfl) (by kernel_rfl) (by kernel_rfl) (fun _ _ _ h => h) (by assumption) (Or.inl ⟨by rfl, ?_⟩) ?_
  rotate_left
  · intro W hSw
    try dsimp only at hSw
    go_split_ands
    go_simp
    try with_reducible rfl
  try simp only [Act.put, List.setIfInBounds_toArray, List.set_cons_zero, List.set_cons_succ]
  refine wpE_takeL (i := 8) (v := ?_) rfl (by kernel_rfl) (by kernel_rfl) (by kernel_rfl) (by kernel_rfl) (fun _ _ _ h => h) (by assumption) (Or.inl ⟨by rfl, ?_⟩) ?_
  rotate_left
  · intro W hSw
    try dsimp only at hSw
    go_split_ands
    go_simp
    try with_reducible rfl
  try simp only [Act.put, List.setIfInBounds_toArray, List.set_cons_zero, List.set_cons_succ]
  refine wpE_takeL (i := 9) (v := ?_) rfl (by kernel_rfl) (by kernel_rfl) (by kernel_rfl) (by kernel_rfl) (fun _ _ _ h => h) (by assumption) (Or.inl ⟨by rfl, ?_⟩) ?_
  rotate_left
  · intro W hSw
    try dsimp only at hSw
    go_split_ands
    go_simp
    try with_reducible rfl
  try simp only [Act.put, List.setIfInBounds_toArray, List.set_cons_zero, List.set_cons_succ]
  refine wpE_takeL (i := 10) (v := ?_) rfl (by kernel_rfl) (by kernel_rfl) (by kernel_rfl) (by kernel_rfl) (fun _ _ _ h => h) (by assumption) (Or.inl ⟨by rfl, ?_⟩) ?_
  rotate_left
  · intro W hSw
    try dsimp only at hSw
    go_split_ands
    go_simp
    try with_reducible rfl
  try simp only [Act.put, List.setIfInBounds_toArray, List.set_cons_zero, List.set_cons_succ]
  refine wpE_takeL (i := 11) (v := ?_) rfl (by kernel_rfl) (by kernel_rfl) (by kernel_rfl) (by kernel_rfl) (fun _ _ _ h => h) (by assumption) (Or.inl ⟨by rfl, ?_⟩) ?_
  rotate_left
  · intro W hSw
    try dsimp only at hSw
    go_split_ands
    go_simp
    try with_reducible rfl
  try simp only [Act.put, List.setIfInBounds_toArray, List.set_cons_zero, List.set_cons_succ]
  refine wpE_takeL (i := 13) (v := ?_) rfl (by kernel_rfl) (by kernel_rfl) (by kernel_rfl) (by kernel_rfl) (fun _ _ _ h => h) (by assumption) (Or.inl ⟨by rfl, ?_⟩) ?_
  rotate_left
  · intro W hSw
    try dsimp only at hSw
    go_split_ands
    go_simp
    try with_reducible rfl
  try simp only [Act.put, List.setIfInBounds_toArray, List.set_cons_zero, List.set_cons_succ]
  refine wpE_takeL (i := 14) (v := ?_) rfl (by kernel_rfl) (by kernel_rfl) (by kernel_rfl) (by kernel_rfl) (fun _ _ _ h => h) (by assumption) (Or.inl ⟨by rfl, ?_⟩) ?_
  rotate_left
  · intro W hSw
    try dsimp only at hSw
    go_split_ands
    go_simp
    try with_reducible rfl
  try simp only [Act.put, List.setIfInBounds_toArray, List.set_cons_zero, List.set_cons_succ]
  refine wpE_takeL (i := 15) (v := ?_) rfl (by kernel_rfl) (by kernel_rfl) (by kernel_rfl) (by kernel_rfl) (fun _ _ _ h => h) (by assumption) (Or.inl ⟨by rfl, ?_⟩) ?_
  rotate_left
  · intro W hSw
    try dsimp only at hSw
    go_split_ands
    go_simp
    try with_reducible rfl
  try simp only [Act.put, List.setIfInBounds_toArray, List.set_cons_zero, List.set_cons_succ]
  refine wpE_takeL (i := 16) (v := ?_) rfl (by kernel_rfl) (by kernel_rfl) (by kernel_rfl) (by kernel_rfl) (fun _ _ _ h => h) (by assumption) (Or.inl ⟨by rfl, ?_⟩) ?_
  rotate_left
  · intro W hSw
    try dsimp only at hSw
    go_split_ands
    go_simp
    try with_reducible rfl
  try simp only [Act.put, List.setIfInBounds_toArray, List.set_cons_zero, List.set_cons_succ]
  refine wpE_takeL (i := 18) (v := ?_) rfl (by kernel_rfl) (by kernel_rfl) (by kernel_rfl) (by kernel_rfl) (fun _ _ _ h => h) (by assumption) (Or.inl ⟨by rfl, ?_⟩) ?_
  rotate_left
  · intro W hSw
    try dsimp only at hSw
    go_split_ands
    go_simp
    try with_reducible rfl
  try simp only [Act.put, List.setIfInBounds_toArray, List.set_cons_zero, List.set_cons_succ]
  refine wpE_takeL (i := 19) (v := ?_) rfl (by kernel_rfl) (by kernel_rfl) (by kernel_rfl) (by kernel_rfl) (fun _ _ _ h => h) (by assumption) (Or.inl ⟨by rfl, ?_⟩) ?_
  rotate_left
  · intro W hSw
    try dsimp only at hSw
    go_split_ands
    go_simp
    try with_reducible rfl
  try simp only [Act.put, List.setIfInBounds_toArray, List.set_cons_zero, List.set_cons_succ]
  refine wpE_takeL (i := 20) (v := ?_) rfl (by kernel_rfl) (by kernel_rfl) (by kernel_rfl) (by kernel_rfl) (fun _ _ _ h => h) (by assumption) (Or.inl ⟨by rfl, ?_⟩) ?_
  rotate_left
  · intro W hSw
    try dsimp only at hSw
    go_split_ands
    go_simp
    try with_reducible rfl
  try simp only [Act.put, List.setIfInBounds_toArray, List.set_cons_zero, List.set_cons_succ]
  refine wpE_takeL (i := 21) (v := ?_) rfl (by kernel_rfl) (by kernel_rfl) (by kernel_rfl) (by kernel_rfl) (fun _ _ _ h => h) (by assumption) (Or.inl ⟨by rfl, ?_⟩) ?_
  rotate_left
  · intro W hSw
    try dsimp only at hSw
    go_split_ands
    go_simp
    try with_reducible rfl
  try simp only [Act.put, List.setIfInBounds_toArray, List.set_cons_zero, List.set_cons_succ]
  refine wpE_oneL (i := 12) rfl (by kernel_rfl) (fun K hK => ?_)
  go_simp
  go_at_call 89
  refine (t89 m _ hm0 hm1).mono ?_
  rintro e w1 ⟨rfl, hb1⟩
  have hE1 := HZ.out.1.trans (hb1.mono HZ.out.1.size)
  have hZ1 := HZ.out.2.below hb1 HZ.out.2.lt
  have hM1 := H.out.1.below hE1 hrw
  try simp only []
  have hS1 : (fun W => W.cell? ⟨r, 6, none⟩ = some (.int .i8 ver) ∧ W.cell? ⟨r, 2, none⟩ = some (.bool la) ∧ W.cell? ⟨r, 7, none⟩ = some (.int .i64 (secOf m)) ∧ W.cell? ⟨r, 8, none⟩ = some (.int .i64 (nsecOf m)) ∧ W.cell? ⟨r, 3, none⟩ = some (.slice A1 n1 c1) ∧ W.cell? ⟨r, 4, none⟩ = some (.slice A2 n2 c2)) w1 := ⟨(hM1).cell 6, (hM1).cell 2, (hM1).cell 7, (hM1).cell 8, (hM1).cell 3, (hM1).cell 4⟩
  refine hK.out _ _ (fun _ => hS1) ?_
  clear hK K
  try simp only [Act.put, List.setIfInBounds_toArray, List.set_cons_zero, List.set_cons_succ]
  refine wpE_oneL (i := 17) rfl (by kernel_rfl) (fun K hK => ?_)
  go_simp
  go_at_call 86
  refine (plain2 _ ko D _ (H.out.2.1.below hE1 hD) (by omega) (Nat.le_trans hD hE1.size)).mono ?_
  rintro e w2 ⟨kA, kn, kc, rfl, hk2, hb2⟩
  have hE2 := hE1.trans (hb2.mono hE1.size)
  have hZ2 := hZ1.below hb2 hZ1.lt
  have hM2 := H.out.1.below hE2 hrw
  try simp only []
  have hS2 : (fun W => W.cell? ⟨r, 6, none⟩ = some (.int .i8 ver) ∧ W.cell? ⟨r, 2, none⟩ = some (.bool la) ∧ W.cell? ⟨r, 7, none⟩ = some (.int .i64 (secOf m)) ∧ W.cell? ⟨r, 8, none⟩ = some (.int .i64 (nsecOf m)) ∧ W.cell? ⟨r, 3, none⟩ = some (.slice A1 n1 c1) ∧ W.cell? ⟨r, 4, none⟩ = some (.slice A2 n2 c2)) w2 := ⟨(hM2).cell 6, (hM2).cell 2, (hM2).cell 7, (hM2).cell 8, (hM2).cell 3, (hM2).cell 4⟩
  refine hK.out _ _ (fun _ => hS2) ?_
  clear hK K
  try simp only [Act.put, List.setIfInBounds_toArray, List.set_cons_zero, List.set_cons_succ]
  refine wpE_oneL (i := 22) rfl (by kernel_rfl) (fun K hK => ?_)
  go_simp
  go_at_call 86
  refine (plain2 _ vo D _ (H.out.2.2.below hE2 hD) (by omega) (Nat.le_trans hD hE2.size)).mono ?_
  rintro e w3 ⟨vA, vn, vc, rfl, hv3, hb3⟩
  have hE3 := hE2.trans (hb3.mono hE2.size)
  have hZ3 := hZ2.below hb3 hZ2.lt
  have hM3 := H.out.1.below hE3 hrw
  have hk3 := data_up hk2 hb3
  try simp only []
  have hS3 : (fun W => W.cell? ⟨r, 6, none⟩ = some (.int .i8 ver) ∧ W.cell? ⟨r, 2, none⟩ = some (.bool la) ∧ W.cell? ⟨r, 7, none⟩ = some (.int .i64 (secOf m)) ∧ W.cell? ⟨r, 8, none⟩ = some (.int .i64 (nsecOf m)) ∧ W.cell? ⟨r, 3, none⟩ = some (.slice A1 n1 c1) ∧ W.cell? ⟨r, 4, none⟩ = some (.slice A2 n2 c2)) w3 := ⟨(hM3).cell 6, (hM3).cell 2, (hM3).cell 7, (hM3).cell 8, (hM3).cell 3, (hM3).cell 4⟩
  refine hK.out _ _ (fun _ => hS3) ?_
  clear hK K
  try simp only [Act.put, List.setIfInBounds_toArray, List.set_cons_zero, List.set_cons_succ]
  refine wpE_takeL (i := 23) (v := ?_) rfl (by kernel_rfl) (by kernel_rfl) (by kernel_rfl) (by kernel_rfl) (fun _ _ _ h => h) (by assumption) (Or.inl ⟨by rfl, ?_⟩) ?_
  rotate_left
  · intro W hSw
    try dsimp only at hSw
    go_split_ands
    go_simp
    try with_reducible rfl
  try simp only [Act.put, List.setIfInBounds_toArray, List.set_cons_zero, List.set_cons_succ]
  obtain ⟨q0, q1, q2, q3, q4, q5, q6, z0, z1, z2, z3, z4, z5, z6⟩ := hZ3.all7
  have HR := Lib.hid (And.intro hZ3 (And.intro hk3 (And.intro hv3 hE3)))
  refine wpE_oneL (i := 24) rfl (by kernel_rfl) (fun K hK => ?_)
  go_simp
  refine hK.out _ _ (fun h => Bool.noConfusion (show true = false from h)) ?_
  clear hK K
  try simp only [Act.put, List.setIfInBounds_toArray, List.set_cons_zero, List.set_cons_succ]
  refine wpE_done (by kernel_rfl) ?_ _
  refine NoPanic.normal ?_
  clear hS0 hS1 hS2 hS3 hZ1 hZ2 hM1 hM2 hM3 hk2 hE1 hE2
  go_wp2
  obtain ⟨hz, hk, hv, hb⟩ := HR.out
  have hsr : w.heap.size ≠ r := by omega
  have d5 : ∀ {l : List UInt8} {v : Value}, DataSt w3 w3.heap.size v l → DataSt (((((((w3.setCell ⟨w.heap.size, 0, none⟩ (.int .i8 ver)).setCell ⟨w.heap.size, 1, none⟩ (.bool la)).setCell ⟨w.heap.size, 2, none⟩ (.int .i64 m)).setCell ⟨w.heap.size, 3, none⟩ (.bool (bp ko).1)).setCell ⟨w.heap.size, 4, none⟩ (.slice kA kn kc)).setCell ⟨w.heap.size, 5, none⟩ (.bool (bp vo).1)).setCell ⟨w.heap.size, 6, none⟩ (.slice vA vn vc)) w3.heap.size v l := fun hd =>
    data_store (data_store (data_store (data_store (data_store (data_store (data_store hd hz (by decide) 0 _) (hz.set_ 0 _) (by decide) 1 _) ((hz.set_ 0 _).set_ 1 _) (by decide) 2 _) (((hz.set_ 0 _).set_ 1 _).set_ 2 _) (by decide) 3 _) ((((hz.set_ 0 _).set_ 1 _).set_ 2 _).set_ 3 _) (by decide) 4 _) (((((hz.set_ 0 _).set_ 1 _).set_ 2 _).set_ 3 _).set_ 4 _) (by decide) 5 _) ((((((hz.set_ 0 _).set_ 1 _).set_ 2 _).set_ 3 _).set_ 4 _).set_ 5 _) (by decide) 6 _
  have hzF := ((((((hz.set_ 0 (.int .i8 ver)).set_ 1 (.bool la)).set_ 2 (.int .i64 m)).set_ 3 (.bool (bp ko).1)).set_ 4 (.slice kA kn kc)).set_ 5 (.bool (bp vo).1)).set_ 6 (.slice vA vn vc)
  have hbF := ((((((hb.setCell (p := ⟨w.heap.size, 0, none⟩) (Nat.le_refl _) (.int .i8 ver)).setCell (p := ⟨w.heap.size, 1, none⟩) (Nat.le_refl _) (.bool la)).setCell (p := ⟨w.heap.size, 2, none⟩) (Nat.le_refl _) (.int .i64 m)).setCell (p := ⟨w.heap.size, 3, none⟩) (Nat.le_refl _) (.bool (bp ko).1)).setCell (p := ⟨w.heap.size, 4, none⟩) (Nat.le_refl _) (.slice kA kn kc)).setCell (p := ⟨w.heap.size, 5, none⟩) (Nat.le_refl _) (.bool (bp vo).1)).setCell (p := ⟨w.heap.size, 6, none⟩) (Nat.le_refl _) (.slice vA vn vc)
  have hkF := d5 hk
  have hvF := d5 hv
  try simp only [Exit.inBlock, Exit.then]
  refine bodyPost_ret (results_cell_row rfl _ _ w.heap.size 45 #[.int .i8 ver, .bool la, .int .i64 m, .bool (bp ko).1, .slice kA kn kc, .bool (bp vo).1, .slice vA vn vc] (0, 0) _ rfl hzF Tryz.underlying45 rfl (by kernel_rfl)) rfl ?_
  exact ⟨_, _, _, _, _, _, rfl, hkF.mono (by simp), hvF.mono (by simp), hbF⟩
end Go.Proofs.YtmiflkccfieefaaGreatDoor

/-
  A set that was read, as the law's type has it: impl.unset.
-/
namespace Go.Proofs.YtmiflkccfieefaaGreatDoor
open Go.ChangeShapes Go.WideShapes Go.ChangeAt Go.RowKit
set_option maxRecDepth 100000
set_option linter.unusedVariables false
set_option linter.unusedSimpArgs false

theorem info62 : (Tryz.prog.info? 62).map (fun i => (i.zero, i.size, i.bytes)) = some (some (.agg #[.int .i64 0, .int .i8 0, .bool false, .int .i64 0, .bool false, .slice none 0 0, .bool false, .slice none 0 0]), 8, 88) := by kernel_rfl
/-- The cells of blocks, of the law's type. -/
def BCells (w : World) (xs : List Value) (ys : List BlkV) : Prop :=
  xs.length = ys.length * 8 ∧ ∀ i (h : i < ys.length), ∃ kd vd, xs[i * 8]? = some (.int .i64 ys[i].off) ∧ xs[i * 8 + 1]? = some (.int .i8 ys[i].msg.ver) ∧ xs[i * 8 + 2]? = some (.bool ys[i].msg.la) ∧ xs[i * 8 + 3]? = some (.int .i64 ys[i].msg.tm) ∧ xs[i * 8 + 4]? = some (.bool (bp ys[i].msg.key.nb).1) ∧ xs[i * 8 + 5]? = some kd ∧ xs[i * 8 + 6]? = some (.bool (bp ys[i].msg.val.nb).1) ∧ xs[i * 8 + 7]? = some vd ∧ DataSt w w.heap.size kd (bp ys[i].msg.key.nb).2 ∧ DataSt w w.heap.size vd (bp ys[i].msg.val.nb).2
theorem BCells.nil (w : World) : BCells w [] [] := ⟨rfl, fun i h => by simp at h⟩
theorem BCells.same {w w' : World} {xs : List Value} {ys : List BlkV} (h : BCells w xs ys) (hs' : Same w w') : BCells w' xs ys :=
  ⟨h.1, fun i hi => by
    obtain ⟨kd, vd, h0, h1, h2, h3, h4, h5, h6, h7, h8, h9⟩ := h.2 i hi
    exact ⟨kd, vd, h0, h1, h2, h3, h4, h5, h6, h7, (h8.same hs').mono hs'.1, (h9.same hs').mono hs'.1⟩⟩
theorem BCells.snoc {w : World} {xs : List Value} {ys : List BlkV} (h : BCells w xs ys) {kd vd : Value} {y : BlkV} (h1 : DataSt w w.heap.size kd (bp y.msg.key.nb).2) (h2 : DataSt w w.heap.size vd (bp y.msg.val.nb).2) :
    BCells w (xs ++ [.int .i64 y.off, .int .i8 y.msg.ver, .bool y.msg.la, .int .i64 y.msg.tm, .bool (bp y.msg.key.nb).1, kd, .bool (bp y.msg.val.nb).1, vd]) (ys ++ [y]) := by
  refine ⟨by simp [h.1]; omega, fun i hi => ?_⟩
  by_cases hlt : i < ys.length
  · obtain ⟨kd', vd', g0, g1, g2, g3, g4, g5, g6, g7, g8, g9⟩ := h.2 i hlt
    rw [List.getElem_append_left hlt]
    refine ⟨kd', vd', ?_, ?_, ?_, ?_, ?_, ?_, ?_, ?_, g8, g9⟩
    all_goals
      rw [List.getElem?_append_left (by rw [h.1]; omega)]
      assumption
  · have hi' : i = ys.length := by simp at hi; omega
    subst hi'
    refine ⟨kd, vd, ?_, ?_, ?_, ?_, ?_, ?_, ?_, ?_, by simpa using h1, by simpa using h2⟩
    all_goals
      rw [List.getElem?_append_right (by rw [h.1]; omega), h.1]
      simp
/-- Block i of the row at a, in rows of bytes. -/
def BkElemS (w : World) (D : Nat) (a : Addr) (i : Nat) (y : BlkV) : Prop :=
  ∃ kd vd, w.cell? (a.add (i * 8)) = some (.int .i64 y.off) ∧ w.cell? ⟨(a.add (i * 8)).block, (a.add (i * 8)).off + 1, none⟩ = some (.int .i8 y.msg.ver) ∧ w.cell? ⟨(a.add (i * 8)).block, (a.add (i * 8)).off + 2, none⟩ = some (.bool y.msg.la) ∧ w.cell? ⟨(a.add (i * 8)).block, (a.add (i * 8)).off + 3, none⟩ = some (.int .i64 y.msg.tm) ∧ w.cell? ⟨(a.add (i * 8)).block, (a.add (i * 8)).off + 4, none⟩ = some (.bool y.msg.key.1) ∧ w.cell? ⟨(a.add (i * 8)).block, (a.add (i * 8)).off + 5, none⟩ = some kd ∧ w.cell? ⟨(a.add (i * 8)).block, (a.add (i * 8)).off + 6, none⟩ = some (.bool y.msg.val.1) ∧ w.cell? ⟨(a.add (i * 8)).block, (a.add (i * 8)).off + 7, none⟩ = some vd ∧ DataSt w D kd y.msg.key.2 ∧ DataSt w D vd y.msg.val.2
def BksInS (w : World) (D : Nat) (v : Value) (ys : List BlkV) : Prop :=
  ∃ A c, v = .slice A ys.length c ∧ (ys ≠ [] → ∃ a : Addr, A = some a ∧ a.block < D ∧ ∀ i (h : i < ys.length), BkElemS w D a i ys[i])
theorem BksInS.weak {w : World} {D : Nat} {v : Value} {ys : List BlkV} (h : BksInS w D v ys) : BksIn w D v ys := by
  obtain ⟨A, c, rfl, hh⟩ := h
  refine ⟨A, c, rfl, fun hne => ?_⟩
  obtain ⟨a, hA, ha, hi⟩ := hh hne
  refine ⟨a, hA, ha, fun i hl => ?_⟩
  obtain ⟨kd, vd, h0, h1, h2, h3, h4, h5, h6, h7, h8, h9⟩ := hi i hl
  exact ⟨kd, vd, h0, h1, h2, h3, h4, h5, h6, h7, h8.weak, h9.weak⟩
theorem BksInS.far {w : World} {D : Nat} {A : Option Addr} {n c : Nat} {ys : List BlkV} (h : BksInS w D (.slice A n c) ys) {b t : Nat} {cs : List Value} (hb : Blk w b t cs) (ht : t ≠ 5) (hA : ∀ a : Addr, A = some a → a.block ≠ b) (j : Nat) (u : Value) : BksInS (w.setCell ⟨b, j, none⟩ u) D (.slice A n c) ys := by
  obtain ⟨A', c', he, hh⟩ := h
  injection he with e1 e2 e3
  subst e1 e2 e3
  refine ⟨A, c, rfl, fun hne => ?_⟩
  obtain ⟨a, hAa, ha, hi⟩ := hh hne
  have hab := hA a hAa
  refine ⟨a, hAa, ha, fun i hl => ?_⟩
  obtain ⟨kd, vd, h0, h1, h2, h3, h4, h5, h6, h7, h8, h9⟩ := hi i hl
  have hc : ∀ x : Addr, x.block = a.block → (w.setCell ⟨b, j, none⟩ u).cell? x = w.cell? x := fun x hx => World.cell?_of_block (Below.heap_setCell w ⟨b, j, none⟩ u x.block (by rw [hx]; exact hab))
  have hk : (a.add (i * 8)).block = a.block := add_block _ _
  have e : ∀ k, (w.setCell ⟨b, j, none⟩ u).cell? ⟨(a.add (i * 8)).block, k, none⟩ = w.cell? ⟨(a.add (i * 8)).block, k, none⟩ := fun k => hc _ hk
  exact ⟨kd, vd, (hc _ hk).trans h0, (e _).trans h1, (e _).trans h2, (e _).trans h3, (e _).trans h4, (e _).trans h5, (e _).trans h6, (e _).trans h7, data_store h8 hb ht j u, data_store h9 hb ht j u⟩
theorem bks_of {w : World} {B : Nat} {hv : Value} {n : Nat} {xs : List Value} {ys : List BlkV} (hn : n = ys.length) (h : w.ownsRow B 62 8 hv n xs) (hp : BCells w xs ys) (hr : ∀ y ∈ ys, bp y.msg.key.nb = y.msg.key ∧ bp y.msg.val.nb = y.msg.val) : BksInS w w.heap.size hv ys := by
  subst hn
  rcases h.2 with ⟨rfl, h0⟩ | ⟨g, cap, cur, rfl, hB, hg, h1, h2, h3, h4⟩
  · refine ⟨none, 0, by simp [h0], fun hne => ?_⟩
    exact absurd (by simpa using h0) hne
  · refine ⟨some ⟨g, 0, none⟩, cap, by simp, fun hne => ⟨⟨g, 0, none⟩, rfl, lt_of_heap hg, fun i hi => ?_⟩⟩
    obtain ⟨kd, vd, g0, g1, g2, g3, g4, g5, g6, g7, g8, g9⟩ := hp.2 i hi
    obtain ⟨e1, e2⟩ := hr ys[i] (List.getElem_mem hi)
    rw [e1] at g4 g8
    rw [e2] at g6 g9
    have hc : ∀ j u, xs[j]? = some u → w.cell? ⟨g, j, none⟩ = some u := fun j u hj => by
      rw [cell_of_row w g j cur 62 (0, 0) hg]
      rw [← h4] at hj
      have hlt : j < ys.length * 8 := by
        have := (List.getElem?_eq_some_iff.1 hj).1
        simp at this
        omega
      rw [List.getElem?_take_of_lt hlt] at hj
      simpa using hj
    have ha : (⟨g, 0, none⟩ : Addr).add (i * 8) = ⟨g, i * 8, none⟩ := by
      unfold Addr.add
      split
      · rename_i h0
        rw [h0]
      · simp
    unfold BkElemS
    rw [ha]
    exact ⟨kd, vd, hc _ _ g0, hc _ _ g1, hc _ _ g2, hc _ _ g3, hc _ _ g4, hc _ _ g5, hc _ _ g6, hc _ _ g7, g8, g9⟩
set_option maxHeartbeats 8000000 in
theorem f66 (s : Nat) (ys : List BlkV) (qs rs : List Nat) (w : World) (h : SetAt w w.heap.size s ys qs rs (freshP 0)) (hl8 : ys.length ≤ 8) (hok : ∀ y ∈ ys, y.ok ∧ bp y.msg.key.nb = y.msg.key ∧ bp y.msg.val.nb = y.msg.val) :
    Calls Tryz.prog 66 #[.pointer (some ⟨s, 0, none⟩)] w fun e w' => ∃ A n c, e = .returned (.agg #[.slice A n c, .bool false, .bool false]) ∧ BksInS w' w'.heap.size (.slice A n c) ys ∧ (∀ a, A = some a → w.heap.size ≤ a.block) ∧ Below w.heap.size w w' := by
  obtain ⟨A, c, hsb, hrow⟩ := h.sblk
  have hsl := h.slt
  have hb0 : Below w.heap.size w (w.alloc (.cells #[.slice none 0 0, .bool false, .bool false] 65)).drew := ((Below.refl _ _).alloc (Nat.le_refl _) _).drew
  have hz0 : Blk (w.alloc (.cells #[.slice none 0 0, .bool false, .bool false] 65)).drew w.heap.size 65 [.slice none 0 0, .bool false, .bool false] := (Blk.new w 65 [.slice none 0 0, .bool false, .bool false]).drew
  have hs0 := hsb.below hb0 hsl
  have hS0 : (fun W => W.cell? ⟨s, 0, none⟩ = some (.bool false) ∧ W.cell? ⟨s, 1, none⟩ = some (.bool false)) (w.alloc (.cells #[.slice none 0 0, .bool false, .bool false] 65)).drew := ⟨hs0.cell 0, hs0.cell 1⟩
  have H := Lib.hid h
  have HB := Lib.hid (And.intro hsb (And.intro hrow (And.intro hb0 hz0)))
  have HX := Lib.hid hok
  clear h hsb hrow hb0 hz0 hs0 hok
  go_enter Tryz.func66, Tryz.ntmps66
  go_wp2_with fail
  refine wp_region_E 10 (fun W => W.cell? ⟨s, 0, none⟩ = some (.bool false) ∧ W.cell? ⟨s, 1, none⟩ = some (.bool false)) (by kernel_rfl) ?_
  refine wpE_takeL (i := 0) (v := ?_) rfl (by kernel_rfl) (by kernel_rfl) (by kernel_rfl) (by kernel_rfl) (fun _ _ _ h => h) (by assumption) (Or.inl ⟨by rfl, ?_⟩) ?_
  rotate_left
  · intro W hSw
    try dsimp only at hSw
    go_split_ands
    go_simp
    try with_reducible rfl
  try simp only [Act.put, List.setIfInBounds_toArray, List.set_cons_zero, List.set_cons_succ]
  refine wpE_takeL (i := 1) (v := ?_) rfl (by kernel_rfl) (by kernel_rfl) (by kernel_rfl) (by kernel_rfl) (fun _ _ _ h => h) (by assumption) (Or.inl ⟨by rfl, ?_⟩) ?_
  rotate_left
  · intro W hSw
    try dsimp only at hSw
    go_split_ands
    go_simp
    try with_reducible rfl
  try simp only [Act.put, List.setIfInBounds_toArray, List.set_cons_zero, List.set_cons_succ]
  refine wpE_takeL (i := 2) (v := ?_) rfl (by kernel_rfl) (by kernel_rfl) (by kernel_rfl) (by kernel_rfl) (fun _ _ _ h => h) (by assumption) (Or.inl ⟨by rfl, ?_⟩) ?_
  rotate_left
  · intro W hSw
    try dsimp only at hSw
    go_split_ands
    go_simp
    try with_reducible rfl
  try simp only [Act.put, List.setIfInBounds_toArray, List.set_cons_zero, List.set_cons_succ]
  refine wpE_takeL (i := 3) (v := ?_) rfl (by kernel_rfl) (by kernel_rfl) (by kernel_rfl) (by kernel_rfl) (fun _ _ _ h => h) (by assumption) (Or.inl ⟨by rfl, ?_⟩) ?_
  rotate_left
  · intro W hSw
    try dsimp only at hSw
    go_split_ands
    go_simp
    try with_reducible rfl
  try simp only [Act.put, List.setIfInBounds_toArray, List.set_cons_zero, List.set_cons_succ]
  refine wpE_takeL (i := 4) (v := ?_) rfl (by kernel_rfl) (by kernel_rfl) (by kernel_rfl) (by kernel_rfl) (fun _ _ _ h => h) (by assumption) (Or.inl ⟨by rfl, ?_⟩) ?_
  rotate_left
  · intro W hSw
    try dsimp only at hSw
    go_split_ands
    go_simp
    try with_reducible rfl
  try simp only [Act.put, List.setIfInBounds_toArray, List.set_cons_zero, List.set_cons_succ]
  refine wpE_takeL (i := 5) (v := ?_) rfl (by kernel_rfl) (by kernel_rfl) (by kernel_rfl) (by kernel_rfl) (fun _ _ _ h => h) (by assumption) (Or.inl ⟨by rfl, ?_⟩) ?_
  rotate_left
  · intro W hSw
    try dsimp only at hSw
    go_split_ands
    go_simp
    try with_reducible rfl
  try simp only [Act.put, List.setIfInBounds_toArray, List.set_cons_zero, List.set_cons_succ]
  refine wpE_takeL (i := 6) (v := ?_) rfl (by kernel_rfl) (by kernel_rfl) (by kernel_rfl) (by kernel_rfl) (fun _ _ _ h => h) (by assumption) (Or.inl ⟨by rfl, ?_⟩) ?_
  rotate_left
  · intro W hSw
    try dsimp only at hSw
    go_split_ands
    go_simp
    try with_reducible rfl
  try simp only [Act.put, List.setIfInBounds_toArray, List.set_cons_zero, List.set_cons_succ]
  refine wpE_takeL (i := 7) (v := ?_) rfl (by kernel_rfl) (by kernel_rfl) (by kernel_rfl) (by kernel_rfl) (fun _ _ _ h => h) (by assumption) (Or.inl ⟨by rfl, ?_⟩) ?_
  rotate_left
  · intro W hSw
    try dsimp only at hSw
    go_split_ands
    go_simp
    try with_reducible rfl
  try simp only [Act.put, List.setIfInBounds_toArray, List.set_cons_zero, List.set_cons_succ]
  refine wpE_takeL (i := 8) (v := ?_) rfl (by kernel_rfl) (by kernel_rfl) (by kernel_rfl) (by kernel_rfl) (fun _ _ _ h => h) (by assumption) (Or.inl ⟨by rfl, ?_⟩) ?_
  rotate_left
  · intro W hSw
    try dsimp only at hSw
    go_split_ands
    go_simp
    try with_reducible rfl
  try simp only [Act.put, List.setIfInBounds_toArray, List.set_cons_zero, List.set_cons_succ]
  generalize hW0 : (w.alloc (.cells #[.slice none 0 0, .bool false, .bool false] 65)).drew = W0 at *
  have hws : W0.heap.size = w.heap.size + 1 := by rw [← hW0]; simp
  have HW := Lib.hid hW0
  clear hW0
  refine wpE_oneL (i := 9) rfl (by kernel_rfl) (fun K hK => ?_)
  go_simp
  have hb1 := HB.out.2.2.1.alloc HB.out.2.2.1.size (.cells #[.slice none 0 0, .bool false, .bool false] 65)
  have hs1 := HB.out.1.below hb1 hsl
  have hS1 : (fun W => W.cell? ⟨s, 0, none⟩ = some (.bool false) ∧ W.cell? ⟨s, 1, none⟩ = some (.bool false)) (W0.alloc (.cells #[.slice none 0 0, .bool false, .bool false] 65)) := ⟨hs1.cell 0, hs1.cell 1⟩
  have hz1 := HB.out.2.2.2.alloc (.cells #[.slice none 0 0, .bool false, .bool false] 65)
  have hn1 := Blk.new W0 65 [.slice none 0 0, .bool false, .bool false]
  rw [hws] at hn1
  refine hK.out _ _ (fun _ => hS1) ?_
  clear hK K
  try simp only [Act.put, List.setIfInBounds_toArray, List.set_cons_zero, List.set_cons_succ]
  obtain ⟨q0, q1, q2, p0, p1, p2⟩ : (W0.alloc (.cells #[.slice none 0 0, .bool false, .bool false] 65)).cell? ⟨w.heap.size + 1, 0, none⟩ = some (.slice none 0 0) ∧ (W0.alloc (.cells #[.slice none 0 0, .bool false, .bool false] 65)).cell? ⟨w.heap.size + 1, 1, none⟩ = some (.bool false) ∧ (W0.alloc (.cells #[.slice none 0 0, .bool false, .bool false] 65)).cell? ⟨w.heap.size + 1, 2, none⟩ = some (.bool false) ∧ (W0.alloc (.cells #[.slice none 0 0, .bool false, .bool false] 65)).frozen? ⟨w.heap.size + 1, 0, none⟩ = false ∧ (W0.alloc (.cells #[.slice none 0 0, .bool false, .bool false] 65)).frozen? ⟨w.heap.size + 1, 1, none⟩ = false ∧ (W0.alloc (.cells #[.slice none 0 0, .bool false, .bool false] 65)).frozen? ⟨w.heap.size + 1, 2, none⟩ = false :=
    ⟨hn1.cell 0, hn1.cell 1, hn1.cell 2, hn1.frozen 0, hn1.frozen 1, hn1.frozen 2⟩
  have HL := Lib.hid (And.intro hb1 (And.intro hn1 hz1))
  have hs2 := hs1
  clear hb1 hn1 hz1
  refine wpE_oneL (i := 10) rfl (by kernel_rfl) (fun K hK => ?_)
  go_simp
  refine hK.out _ _ (fun h => Bool.noConfusion (show true = false from h)) ?_
  clear hK K
  try simp only [Act.put, List.setIfInBounds_toArray, List.set_cons_zero, List.set_cons_succ]
  refine wpE_done (by kernel_rfl) ?_ _
  refine NoPanic.normal ?_
  clear hS0 hS1 q0 q1 q2 p0 p1 p2
  generalize hW2 : W0.alloc (.cells #[.slice none 0 0, .bool false, .bool false] 65) = W2 at *
  have HW2 := Lib.hid hW2
  clear hW2 hs1
  have hc2 := hs2.cell 2
  simp only [List.getElem?_cons_zero, List.getElem?_cons_succ] at hc2
  have HS2 := Lib.hid hs2
  clear hs2
  go_wp2_with fail
  go_loopw [20] (fun i wr => ∃ k : Nat, k ≤ ys.length ∧ i = .int .i64 k ∧ Hid (∃ hv cells, Blk wr (w.heap.size + 1) 65 [hv, .bool false, .bool false] ∧ wr.ownsRow w.heap.size 62 8 hv k cells ∧ BCells wr cells (ys.take k) ∧ Below w.heap.size w wr ∧ Blk wr w.heap.size 65 [.slice none 0 0, .bool false, .bool false])) (fun i _ => ys.length - (intOf i).toNat)
  case atStart => exact ⟨0, by omega, rfl, ⟨_, [], HL.out.2.1, World.ownsRow_nil _ _ _ _, BCells.nil _, HL.out.1, HL.out.2.2⟩⟩
  case round =>
    obtain ⟨k, hk, rfl, HS⟩ := hrel
    by_cases hlt : k < ys.length
    · obtain ⟨hv, cells, hbb, hown, hcl, hbel, hzz⟩ := HS.out
      have hwr := hbel.size
      obtain ⟨g, cs, hAe, hgD, hgb, hall⟩ := HB.out.2.1 (by intro e; rw [e] at hlt; simp at hlt)
      subst hAe
      have hSr := H.out.far (Kept.of_below (B := 0) hbel []) (fun x hx => by cases hx)
      have hqk : k < qs.length := by rw [H.out.ql]; exact hlt
      have hrk : k < rs.length := by rw [H.out.rl]; exact hlt
      have hea := hSr.each k hlt hqk hrk true (by simp [freshP])
      have hpt := hall k hqk hlt
      have cpt : wr.cell? ⟨g, k, none⟩ = some (.pointer (some ⟨qs[k], 0, none⟩)) := by
        have := (hgb.below hbel hgD).cell k
        rw [this]
        exact hpt
      have hoy := HX.out ys[k] (List.getElem_mem hlt)
      generalize qs[k] = q at hea cpt
      generalize rs[k] = r at hea
      generalize hyk : ys[k] = y at hea hoy
      have HYK := Lib.hid hyk
      have HO := Lib.hid hoy.1
      have hq1 := hea.1
      have HR := Lib.hid (And.intro hbb (And.intro hown (And.intro hcl (And.intro (And.intro hbel hzz) hea))))
      have cq1 := hq1.cell 1
      have cq0 := hq1.cell 0
      have cb0 := hbb.cell 0
      simp only [List.getElem?_cons_zero, List.getElem?_cons_succ] at cq0 cq1 cb0
      clear hyk hoy hq1 hea hpt hSr hall hgb hbb hown hcl hbel hzz HS
      go_wp2_with fail
      obtain ⟨i1, hi1, hz1, hs1, hby1⟩ := info_parts info62
      have hS3 : (fun W => W.cell? ⟨q, 0, none⟩ = some (.int .i64 y.off) ∧ W.cell? ⟨q, 1, none⟩ = some (.pointer (some ⟨r, 0, none⟩)) ∧ W.cell? ⟨w.heap.size + 1, 0, none⟩ = some hv) wr.drew := ⟨HR.out.2.2.2.2.1.cell 0, HR.out.2.2.2.2.1.cell 1, HR.out.1.cell 0⟩
      refine wp_region_E 15 (fun W => W.cell? ⟨q, 0, none⟩ = some (.int .i64 y.off) ∧ W.cell? ⟨q, 1, none⟩ = some (.pointer (some ⟨r, 0, none⟩)) ∧ W.cell? ⟨w.heap.size + 1, 0, none⟩ = some hv) (by kernel_rfl) ?_
      refine wpE_takeL (i := 0) (v := ?_) rfl (by kernel_rfl) (by kernel_rfl) (by kernel_rfl) (by kernel_rfl) (fun _ _ _ h => h) (by assumption) (Or.inl ⟨by rfl, ?_⟩) ?_
      rotate_left
      · intro W hSw
        try dsimp only at hSw
        go_split_ands
        go_simp
        try with_reducible rfl
      try simp only [Act.put, List.setIfInBounds_toArray, List.set_cons_zero, List.set_cons_succ]
      refine wpE_takeL (i := 1) (v := ?_) rfl (by kernel_rfl) (by kernel_rfl) (by kernel_rfl) (by kernel_rfl) (fun _ _ _ h => h) (by assumption) (Or.inl ⟨by rfl, ?_⟩) ?_
      rotate_left
      · intro W hSw
        try dsimp only at hSw
        go_split_ands
        go_simp
        try with_reducible rfl
      try simp only [Act.put, List.setIfInBounds_toArray, List.set_cons_zero, List.set_cons_succ]
      refine wpE_takeL (i := 2) (v := ?_) rfl (by kernel_rfl) (by kernel_rfl) (by kernel_rfl) (by kernel_rfl) (fun _ _ _ h => h) (by assumption) (Or.inl ⟨by rfl, ?_⟩) ?_
      rotate_left
      · intro W hSw
        try dsimp only at hSw
        go_split_ands
        go_simp
        try with_reducible rfl
      try simp only [Act.put, List.setIfInBounds_toArray, List.set_cons_zero, List.set_cons_succ]
      refine wpE_takeL (i := 3) (v := ?_) rfl (by kernel_rfl) (by kernel_rfl) (by kernel_rfl) (by kernel_rfl) (fun _ _ _ h => h) (by assumption) (Or.inl ⟨by rfl, ?_⟩) ?_
      rotate_left
      · intro W hSw
        try dsimp only at hSw
        go_split_ands
        go_simp
        try with_reducible rfl
      try simp only [Act.put, List.setIfInBounds_toArray, List.set_cons_zero, List.set_cons_succ]
      refine wpE_takeL (i := 4) (v := ?_) rfl (by kernel_rfl) (by kernel_rfl) (by kernel_rfl) (by kernel_rfl) (fun _ _ _ h => h) (by assumption) (Or.inl ⟨by rfl, ?_⟩) ?_
      rotate_left
      · intro W hSw
        try dsimp only at hSw
        go_split_ands
        go_simp
        try with_reducible rfl
      try simp only [Act.put, List.setIfInBounds_toArray, List.set_cons_zero, List.set_cons_succ]
      refine wpE_takeL (i := 5) (v := ?_) rfl (by kernel_rfl) (by kernel_rfl) (by kernel_rfl) (by kernel_rfl) (fun _ _ _ h => h) (by assumption) (Or.inl ⟨by rfl, ?_⟩) ?_
      rotate_left
      · intro W hSw
        try dsimp only at hSw
        go_split_ands
        go_simp
        try with_reducible rfl
      try simp only [Act.put, List.setIfInBounds_toArray, List.set_cons_zero, List.set_cons_succ]
      refine wpE_takeL (i := 6) (v := ?_) rfl (by kernel_rfl) (by kernel_rfl) (by kernel_rfl) (by kernel_rfl) (fun _ _ _ h => h) (by assumption) (Or.inl ⟨by rfl, ?_⟩) ?_
      rotate_left
      · intro W hSw
        try dsimp only at hSw
        go_split_ands
        go_simp
        try with_reducible rfl
      try simp only [Act.put, List.setIfInBounds_toArray, List.set_cons_zero, List.set_cons_succ]
      refine wpE_takeL (i := 7) (v := ?_) rfl (by kernel_rfl) (by kernel_rfl) (by kernel_rfl) (by kernel_rfl) (fun _ _ _ h => h) (by assumption) (Or.inl ⟨by rfl, ?_⟩) ?_
      rotate_left
      · intro W hSw
        try dsimp only at hSw
        go_split_ands
        go_simp
        try with_reducible rfl
      try simp only [Act.put, List.setIfInBounds_toArray, List.set_cons_zero, List.set_cons_succ]
      refine wpE_takeL (i := 8) (v := ?_) rfl (by kernel_rfl) (by kernel_rfl) (by kernel_rfl) (by kernel_rfl) (fun _ _ _ h => h) (by assumption) (Or.inl ⟨by rfl, ?_⟩) ?_
      rotate_left
      · intro W hSw
        try dsimp only at hSw
        go_split_ands
        go_simp
        try with_reducible rfl
      try simp only [Act.put, List.setIfInBounds_toArray, List.set_cons_zero, List.set_cons_succ]
      refine wpE_takeL (i := 9) (v := ?_) rfl (by kernel_rfl) (by kernel_rfl) (by kernel_rfl) (by kernel_rfl) (fun _ _ _ h => h) (by assumption) (Or.inl ⟨by rfl, ?_⟩) ?_
      rotate_left
      · intro W hSw
        try dsimp only at hSw
        go_split_ands
        go_simp
        try with_reducible rfl
      try simp only [Act.put, List.setIfInBounds_toArray, List.set_cons_zero, List.set_cons_succ]
      refine wpE_oneL (i := 10) rfl (by kernel_rfl) (fun K hK => ?_)
      go_simp
      go_at_call 62
      have hE3 : Below wr.heap.size wr wr.drew := (Below.refl _ _).drew
      refine (f62 w.heap.size r y.msg.ver y.msg.la y.msg.tm y.msg.key.nb y.msg.val.nb true _ (HR.out.2.2.2.2.2.kept (Kept.of_below (B := 0) hE3 []) (fun x hx => by cases hx) (by simp)) (by exact hwr) HO.out).mono ?_
      rintro e w5 ⟨kA, kn, kc, vA, vn, vc, rfl, hk5, hv5, hb5⟩
      have hE5 : Below wr.heap.size wr w5 := hE3.trans hb5
      have x5 := HR.out.2.2.2.2.1.below hE5 HR.out.2.2.2.2.1.lt
      have y5 := HR.out.1.below hE5 HR.out.1.lt
      have hS5 : (fun W => W.cell? ⟨q, 0, none⟩ = some (.int .i64 y.off) ∧ W.cell? ⟨q, 1, none⟩ = some (.pointer (some ⟨r, 0, none⟩)) ∧ W.cell? ⟨w.heap.size + 1, 0, none⟩ = some hv) w5 := ⟨x5.cell 0, x5.cell 1, y5.cell 0⟩
      try simp only []
      refine hK.out _ _ (fun _ => hS5) ?_
      clear hK K
      try simp only [Act.put, List.setIfInBounds_toArray, List.set_cons_zero, List.set_cons_succ]
      refine wpE_takeL (i := 11) (v := ?_) rfl (by kernel_rfl) (by kernel_rfl) (by kernel_rfl) (by kernel_rfl) (fun _ _ _ h => h) (by assumption) (Or.inl ⟨by rfl, ?_⟩) ?_
      rotate_left
      · intro W hSw
        try dsimp only at hSw
        go_split_ands
        go_simp
        try with_reducible rfl
      try simp only [Act.put, List.setIfInBounds_toArray, List.set_cons_zero, List.set_cons_succ]
      refine wpE_oneL (i := 12) rfl (by kernel_rfl) (fun K hK => ?_)
      go_simp
      have hE6 := hE5.alloc hE5.size (.cells #[.int .i64 y.off, .int .i8 y.msg.ver, .bool y.msg.la, .int .i64 y.msg.tm, .bool (bp y.msg.key.nb).1, .slice kA kn kc, .bool (bp y.msg.val.nb).1, .slice vA vn vc] 62)
      have x6 := HR.out.2.2.2.2.1.below hE6 HR.out.2.2.2.2.1.lt
      have y6 := HR.out.1.below hE6 HR.out.1.lt
      have hS6 : (fun W => W.cell? ⟨q, 0, none⟩ = some (.int .i64 y.off) ∧ W.cell? ⟨q, 1, none⟩ = some (.pointer (some ⟨r, 0, none⟩)) ∧ W.cell? ⟨w.heap.size + 1, 0, none⟩ = some hv) (w5.alloc (.cells #[.int .i64 y.off, .int .i8 y.msg.ver, .bool y.msg.la, .int .i64 y.msg.tm, .bool (bp y.msg.key.nb).1, .slice kA kn kc, .bool (bp y.msg.val.nb).1, .slice vA vn vc] 62)) := ⟨x6.cell 0, x6.cell 1, y6.cell 0⟩
      refine hK.out _ _ (fun _ => hS6) ?_
      clear hK K
      try simp only [Act.put, List.setIfInBounds_toArray, List.set_cons_zero, List.set_cons_succ]
      refine wpE_oneL (i := 13) rfl (by kernel_rfl) (fun K hK => ?_)
      refine step_append_lies _ rfl _ _ 59 rfl w.heap.size 62 i1 (.agg #[.int .i64 0, .int .i8 0, .bool false, .int .i64 0, .bool false, .slice none 0 0, .bool false, .slice none 0 0]) 8 88 Tryz.underlying59 hi1 hz1 hs1 hby1 rfl (by omega) hv k cells rfl (own_below_z HR.out.2.1 hE6 (Nat.le_refl _)) ⟨w5.heap.size, 0, none⟩ 1 1 [.int .i64 y.off, .int .i8 y.msg.ver, .bool y.msg.la, .int .i64 y.msg.tm, .bool (bp y.msg.key.nb).1, .slice kA kn kc, .bool (bp y.msg.val.nb).1, .slice vA vn vc] rfl rfl (World.news_of_block (cs := #[.int .i64 y.off, .int .i8 y.msg.ver, .bool y.msg.la, .int .i64 y.msg.tm, .bool (bp y.msg.key.nb).1, .slice kA kn kc, .bool (bp y.msg.val.nb).1, .slice vA vn vc]) (t := 62) (fr := (0, 0)) (heap_alloc_new w5 (.cells #[.int .i64 y.off, .int .i8 y.msg.ver, .bool y.msg.la, .int .i64 y.msg.tm, .bool (bp y.msg.key.nb).1, .slice kA kn kc, .bool (bp y.msg.val.nb).1, .slice vA vn vc] 62))) (by simp [Value.oneCell']) (by omega) (by simp only [maxLen]; omega) (by omega) (by have := hE5.size; simp; omega) (w5.heap.size + 1) (by simp) ?_
      intro g7 cap7 w7 hown7 hgr7 hat7 hlt7
      have ho6 := own_below_z HR.out.2.1 hE6 (Nat.le_refl _)
      have hsm : Same (w5.alloc (.cells #[.int .i64 y.off, .int .i8 y.msg.ver, .bool y.msg.la, .int .i64 y.msg.tm, .bool (bp y.msg.key.nb).1, .slice kA kn kc, .bool (bp y.msg.val.nb).1, .slice vA vn vc] 62)) w7 := (Same.refl _).grown hgr7 (fun g e => by
        obtain ⟨C, hC⟩ := (own_row_z ho6 e).2
        exact ⟨C, 62, (0, 0), hC, by decide, by decide⟩)
      have hbb7 : Blk w7 (w.heap.size + 1) 65 _ := (hgr7.block _ y6.lt (fun e => own_ne_z ho6 y6 (by decide) e.symm)).trans y6
      have hq7 : Blk w7 q 146 _ := (hgr7.block _ x6.lt (fun e => own_ne_z ho6 x6 (by decide) e.symm)).trans x6
      have c7 := hbb7.cell 0
      have z7 := hbb7.frozen 0
      simp only [List.getElem?_cons_zero, List.getElem?_cons_succ] at c7
      have hss := (Same.refl w7).setCell hbb7 ⟨by decide, by decide⟩ 0 (.slice (some ⟨g7, 0, none⟩) (k + 1) cap7)
      have hsw : Same wr (w7.setCell ⟨w.heap.size + 1, 0, none⟩ (.slice (some ⟨g7, 0, none⟩) (k + 1) cap7)) := ((Same.of_below hE6).trans hsm).trans hss
      have hs57 : Same w5 (w7.setCell ⟨w.heap.size + 1, 0, none⟩ (.slice (some ⟨g7, 0, none⟩) (k + 1) cap7)) := (((Same.refl w5).alloc _).trans hsm).trans hss
      have hbw6 : Below w.heap.size w (w5.alloc (.cells #[.int .i64 y.off, .int .i8 y.msg.ver, .bool y.msg.la, .int .i64 y.msg.tm, .bool (bp y.msg.key.nb).1, .slice kA kn kc, .bool (bp y.msg.val.nb).1, .slice vA vn vc] 62)) := HR.out.2.2.2.1.1.trans (hE6.mono hwr)
      have hbw7 : Below w.heap.size w w7 := hbw6.trans (grownBy_below hgr7 (fun g e => (own_row_z ho6 e).1) hbw6.size)
      have hr6 := HR.out.2.2.2.1.2.below hE6 HR.out.2.2.2.1.2.lt
      have hr7 : Blk w7 w.heap.size 65 _ := (hgr7.block _ hr6.lt (fun e => own_ne_z ho6 hr6 (by decide) e.symm)).trans hr6
      have HN : Hid (∃ hv cells, Blk (w7.setCell ⟨w.heap.size + 1, 0, none⟩ (.slice (some ⟨g7, 0, none⟩) (k + 1) cap7)) (w.heap.size + 1) 65 [hv, .bool false, .bool false] ∧ (w7.setCell ⟨w.heap.size + 1, 0, none⟩ (.slice (some ⟨g7, 0, none⟩) (k + 1) cap7)).ownsRow w.heap.size 62 8 hv (k + 1) cells ∧ BCells (w7.setCell ⟨w.heap.size + 1, 0, none⟩ (.slice (some ⟨g7, 0, none⟩) (k + 1) cap7)) cells (ys.take (k + 1)) ∧ Below w.heap.size w (w7.setCell ⟨w.heap.size + 1, 0, none⟩ (.slice (some ⟨g7, 0, none⟩) (k + 1) cap7)) ∧ Blk (w7.setCell ⟨w.heap.size + 1, 0, none⟩ (.slice (some ⟨g7, 0, none⟩) (k + 1) cap7)) w.heap.size 65 [.slice none 0 0, .bool false, .bool false]) :=
        ⟨_, _, hbb7.set_ 0 _, own_setCell_z hown7 hbb7 (by decide) 0 _, by
          rw [List.take_succ_eq_append_getElem hlt, HYK.out]
          exact (HR.out.2.2.1.same hsw).snoc ((hk5.same hs57).mono hs57.1) ((hv5.same hs57).mono hs57.1),
          hbw7.setCell (p := ⟨w.heap.size + 1, 0, none⟩) (show w.heap.size ≤ w.heap.size + 1 by omega) _, hr7.far (p := ⟨w.heap.size + 1, 0, none⟩) (show w.heap.size ≠ w.heap.size + 1 by omega) _⟩
      have hS7 : (fun W => W.cell? ⟨q, 0, none⟩ = some (.int .i64 y.off) ∧ W.cell? ⟨q, 1, none⟩ = some (.pointer (some ⟨r, 0, none⟩)) ∧ W.cell? ⟨w.heap.size + 1, 0, none⟩ = some hv) w7 := ⟨hq7.cell 0, hq7.cell 1, hbb7.cell 0⟩
      refine hK.out _ _ (fun _ => hS7) ?_
      clear hK K
      try simp only [Act.put, List.setIfInBounds_toArray, List.set_cons_zero, List.set_cons_succ]
      clear hS3 hS5 hS6
      refine wpE_oneL (i := 14) rfl (by kernel_rfl) (fun K hK => ?_)
      go_simp
      refine hK.out _ _ (fun _ => hS7) ?_
      clear hK K
      try simp only [Act.put, List.setIfInBounds_toArray, List.set_cons_zero, List.set_cons_succ]
      refine wpE_oneL (i := 15) rfl (by kernel_rfl) (fun K hK => ?_)
      go_simp
      refine hK.out _ _ (fun h => Bool.noConfusion (show true = false from h)) ?_
      clear hK K
      try simp only [Act.put, List.setIfInBounds_toArray, List.set_cons_zero, List.set_cons_succ]
      refine wpE_done (by kernel_rfl) ?_ _
      refine NoPanic.normal ?_
      clear HR
      go_wp2
      go_roundw
      case rel =>
        first
          | exact ⟨k + 1, by omega, by go_num, HN⟩
          | ((repeat apply Exists.intro); exact ⟨⟨k + 1, by omega, by go_num, HN⟩, rfl⟩)
      case measure => simp [intOf]; omega
    · obtain rfl : k = ys.length := by omega
      obtain ⟨hv, cells, hbb, hown, hcl, hbel, hzz⟩ := HS.out
      rw [List.take_length] at hcl
      obtain ⟨A9, c9, rfl, hA9⟩ : ∃ A c, hv = .slice A ys.length c ∧ ∀ a, A = some a → w.heap.size ≤ a.block := by
        rcases hown.2 with ⟨h, h0⟩ | ⟨g, cap, cur, h, hB, _⟩
        · exact ⟨none, 0, by rw [h0]; exact h, fun a ha => by cases ha⟩
        · exact ⟨some ⟨g, 0, none⟩, cap, h, fun a ha => by injection ha with ha; rw [← ha]; exact hB⟩
      have b0 := hbb.cell 0
      have b1 := hbb.cell 1
      have b2 := hbb.cell 2
      have z0 := hzz.cell 0
      have z1 := hzz.cell 1
      have z2 := hzz.cell 2
      have y0 := hzz.frozen 0
      have y1 := hzz.frozen 1
      have y2 := hzz.frozen 2
      simp only [List.getElem?_cons_zero, List.getElem?_cons_succ] at b0 b1 b2 z0 z1 z2
      have HR := Lib.hid (And.intro hbb (And.intro hown (And.intro hcl (And.intro hbel hzz))))
      clear hbb hown hcl hbel hzz HS
      go_wp2
      obtain ⟨hbb, hown, hcl, hbel, hzz⟩ := HR.out
      have hsx := (((Same.refl wr).setCell hzz ⟨by decide, by decide⟩ 0 (.slice A9 ys.length c9)).setCell (hzz.set_ 0 _) ⟨by decide, by decide⟩ 1 (.bool false)).setCell ((hzz.set_ 0 _).set_ 1 _) ⟨by decide, by decide⟩ 2 (.bool false)
      have howx := own_setCell_z (own_setCell_z (own_setCell_z hown hzz (by decide) 0 (.slice A9 ys.length c9)) (hzz.set_ 0 _) (by decide) 1 (.bool false)) ((hzz.set_ 0 _).set_ 1 _) (by decide) 2 (.bool false)
      have hzx := ((hzz.set_ 0 (.slice A9 ys.length c9)).set_ 1 (.bool false)).set_ 2 (.bool false)
      have hI := bks_of rfl howx (hcl.same hsx) (fun y hy => (HX.out y hy).2)
      have hbx := ((hbel.setCell (p := ⟨w.heap.size, 0, none⟩) (Nat.le_refl _) (.slice A9 ys.length c9)).setCell (p := ⟨w.heap.size, 1, none⟩) (Nat.le_refl _) (.bool false)).setCell (p := ⟨w.heap.size, 2, none⟩) (Nat.le_refl _) (.bool false)
      try simp only [Exit.inBlock, Exit.then]
      refine bodyPost_ret (results_cell_row rfl _ _ w.heap.size 65 #[.slice A9 ys.length c9, .bool false, .bool false] (0, 0) _ rfl hzx Tryz.underlying65 rfl (by kernel_rfl)) rfl ?_
      exact ⟨_, _, _, rfl, hI, hA9, hbx⟩
end Go.Proofs.YtmiflkccfieefaaGreatDoor

/-
  A set is read: impl.SetRead.
-/
namespace Go.Proofs.YtmiflkccfieefaaGreatDoor
open Go.ChangeShapes Go.WideShapes Go.ChangeAt Go.RowKit
set_option maxRecDepth 100000
set_option linter.unusedVariables false
set_option linter.unusedSimpArgs false

/-- The set that was read, at block s. -/
def SetQ (s : Nat) (ys : List BlkV) (w : World) : Prop := ∃ B hv ptrs qs rs, Blk w s 130 [.bool false, .bool false, hv] ∧ w.ownsRow B 144 1 hv ys.length ptrs ∧ QAt w ptrs ys qs rs
theorem firm_set (s : Nat) (ys : List BlkV) : Firm (SetQ s ys) := by
  rintro S a b ⟨B, hv, ptrs, qs, rs, h1, h2, h3⟩ hk hS
  refine ⟨B, hv, ptrs, qs, rs, h1.kept hk (fun hm => ?_) (.inr not130), own_kept2 h2 not144 hk (fun x hx => ?_), h3.sam2 (Sam2.kept hk (fun x hx => ?_))⟩
  · obtain ⟨t, cs, hb, ht⟩ := hS s hm
    exact h1.ne_ hb (by rcases ht with rfl | rfl <;> decide) rfl
  · obtain ⟨t, cs, hb, ht⟩ := hS x hx
    exact .inr ⟨t, cs, hb, by rcases ht with rfl | rfl <;> decide⟩
  · obtain ⟨t, cs, hb, ht⟩ := hS x hx
    exact .inr ⟨t, cs, hb, by rcases ht with rfl | rfl <;> decide⟩
theorem owes_set (s g c : Nat) (ys : List BlkV) (hv0 : Value) (W : World) (hlen : (setBytes ys).length ≤ 10000) (hok : ∀ y ∈ ys, y.ok ∧ -9223372036854775808 ≤ y.off ∧ y.off ≤ 9223372036854775807) (hl8 : ys.length ≤ 8) (hs : Blk W s 130 [.bool false, .bool false, hv0]) :
    DecOwes 156 s g c (setBytes ys).length (setBytes ys) (SetQ s ys) W := by
  intro W1 p hrd hk hrl
  refine (d156 p g c s ys hv0 [] W1 hrd hlen hok hl8 (hs.kept hk (by simp) (.inr not130)) (by simp)).mono ?_
  rintro e w' ⟨rfl, hv, ptrs, qs, rs, h1, h2, h3, h4, h5⟩
  exact ⟨rfl, ⟨_, _, h1, rfl⟩, h5, ⟨_, hv, ptrs, qs, rs, h2, h3, h4⟩⟩
set_option maxHeartbeats 2000000 in
theorem f35 (D : Nat) (ys : List BlkV) (v : Value) (w : World) (h : DataAt w D v (setBytes ys)) (hD : D ≤ w.heap.size) (hlen : (setBytes ys).length ≤ 10000) (hl8 : ys.length ≤ 8)
    (hok : ∀ y ∈ ys, y.ok ∧ -9223372036854775808 ≤ y.off ∧ y.off ≤ 9223372036854775807) (hbp : ∀ y ∈ ys, bp y.msg.key.nb = y.msg.key ∧ bp y.msg.val.nb = y.msg.val) :
    Calls Tryz.prog 35 #[v] w fun e w' => ∃ A n c, e = .returned (.tuple #[.agg #[.slice A n c, .bool false, .bool false], .bool true]) ∧ BksIn w' w'.heap.size (.slice A n c) ys ∧ Below w.heap.size w w' := by
  have hb0 : Below w.heap.size w ((w.alloc (.cells #[.slice none 0 0, .bool false, .bool false] 65)).alloc (.cells #[.bool false, .bool false, .slice none 0 0] 130)) := ((Below.refl _ _).alloc (Nat.le_refl _) _).alloc (by simp) _
  have hres : Blk ((w.alloc (.cells #[.slice none 0 0, .bool false, .bool false] 65)).alloc (.cells #[.bool false, .bool false, .slice none 0 0] 130)) w.heap.size 65 [.slice none 0 0, .bool false, .bool false] := (Blk.new w 65 [.slice none 0 0, .bool false, .bool false]).alloc _
  have hset : Blk ((w.alloc (.cells #[.slice none 0 0, .bool false, .bool false] 65)).alloc (.cells #[.bool false, .bool false, .slice none 0 0] 130)) (w.heap.size + 1) 130 [.bool false, .bool false, .slice none 0 0] := by
    have h := Blk.new (w.alloc (.cells #[.slice none 0 0, .bool false, .bool false] 65)) 130 [.bool false, .bool false, .slice none 0 0]
    simpa using h
  have H := Lib.hid (And.intro (h.below hb0 hD) (And.intro hb0 (And.intro hres hset)))
  obtain ⟨vA, vc, rfl⟩ := h.sl
  clear h hb0 hres hset
  generalize hbs : setBytes ys = bs at H hlen
  have HB := Lib.hid hbs
  have HO := Lib.hid (And.intro hok hbp)
  clear hbs hok hbp
  go_enter Tryz.func35, Tryz.ntmps35
  go_wp2_with (first
    | (go_at_call 52; refine (d52 116 (w.heap.size + 1) bs.length D bs _ (SetQ (w.heap.size + 1) ys) _ (by exact H.out.1) (by omega) (by simp; omega) (by simp) (firm_set _ _) (fun W1 g c hb hraw => d84_116 _ g c _ _ _ W1 hraw (by have := hb.size; simp at this; omega) (by have h := owes_set (w.heap.size + 1) g c ys _ W1 (by rw [HB.out]; exact hlen) HO.out.1 hl8 (H.out.2.2.2.below hb (by simp)); rw [HB.out] at h; exact h))).mono ?_; rintro e w1 ⟨rfl, hra, hk1⟩; have H1 := Lib.hid (And.intro hra hk1); clear hra hk1)
    | (go_at_call 66; obtain ⟨B1, hv1, ptrs1, qs1, rs1, g1, g2, g3⟩ := H1.out.1; refine (f66 (w.heap.size + 1) ys qs1 rs1 _ (by exact set_of g1 rfl g2 g3) hl8 (fun y hy => ⟨(HO.out.1 y hy).1, HO.out.2 y hy⟩)).mono ?_; rintro e w2 ⟨A, n, cc, rfl, hks, hA9, hb2⟩; have hres2 := (H.out.2.2.1.kept H1.out.2 (by simp) (.inr (by rintro (h5 | h5) <;> exact absurd h5 (by decide)))).below hb2 (by have := H1.out.2.size; simp at this; omega); have HR := Lib.hid (And.intro hks (And.intro hb2 hres2)); have HA9 := Lib.hid hA9; clear hA9; have z0 := hres2.cell 0; have z1 := hres2.cell 1; have z2 := hres2.cell 2; have y0 := hres2.frozen 0; have y1 := hres2.frozen 1; have y2 := hres2.frozen 2; simp only [List.getElem?_cons_zero, List.getElem?_cons_succ] at z0 z1 z2; clear hks hb2 hres2 g1 g2 g3))
  go_wp2
  obtain ⟨hks, hb2, hres2⟩ := HR.out
  have hs1 := H1.out.2.size
  simp only [World.size_alloc] at hs1
  have hkb : Below w.heap.size w w1 := H.out.2.1.trans ((H1.out.2.mono (show w.heap.size ≤ _ by simp; omega) (fun x hx => .inl hx)).to_below (show w.heap.size ≤ _ by simp; omega) (fun x hx => by simp at hx; omega))
  have hB : Below w.heap.size w w2 := hkb.trans (hb2.mono hkb.size)
  have hne : ∀ a : Addr, A = some a → a.block ≠ w.heap.size := fun a ha => by have := HA9.out a ha; omega
  have hk3 := ((hks.far hres2 (by decide) hne 0 (.slice A n cc)).far (hres2.set_ 0 _) (by decide) hne 1 (.bool false)).far ((hres2.set_ 0 _).set_ 1 _) (by decide) hne 2 (.bool false)
  have hzx := ((hres2.set_ 0 (.slice A n cc)).set_ 1 (.bool false)).set_ 2 (.bool false)
  have hbx := ((hB.setCell (p := ⟨w.heap.size, 0, none⟩) (Nat.le_refl _) (.slice A n cc)).setCell (p := ⟨w.heap.size, 1, none⟩) (Nat.le_refl _) (.bool false)).setCell (p := ⟨w.heap.size, 2, none⟩) (Nat.le_refl _) (.bool false)
  simp only [List.set_cons_zero, List.set_cons_succ] at hzx
  unfold Blk at hzx
  have hlv := run_loadVar_row (P := Tryz.prog) _ w.heap.size 65 65 #[.slice A n cc, .bool false, .bool false] (0, 0) _ hzx Tryz.underlying65 rfl (by kernel_rfl)
  try simp only [Exit.inBlock, Exit.then]
  refine bodyPost_ret (v := .tuple #[.agg #[.slice A n cc, .bool false, .bool false], .bool true]) (by simp [results, Tryz.results35, asAddr, hlv]) rfl ?_
  refine ⟨_, _, _, rfl, ?_, hbx⟩
  have hk4 := hk3.weak
  simpa [World.setCell] using hk4
end Go.Proofs.YtmiflkccfieefaaGreatDoor

/-
  A message, and a set, are like themselves: spec.SameMessage, spec.SameBlocks.
-/
namespace Go.Proofs.YtmiflkccfieefaaGreatDoor
open Go.ChangeShapes Go.WideShapes Go.ChangeAt Go.RowKit
set_option maxRecDepth 100000
set_option linter.unusedVariables false
set_option linter.unusedSimpArgs false

structure P45 (w0 : World) (cs1 cs2 : List Value) (W : World) : Prop where
  one : Blk W w0.heap.size 45 cs1
  two : Blk W (w0.heap.size + 1) 45 cs2
  bel : Below w0.heap.size w0 W
theorem P45.call {w0 : World} {cs1 cs2 : List Value} {W W' : World} (h : P45 w0 cs1 cs2 W) (hb : Below W.heap.size W W') : P45 w0 cs1 cs2 W' := ⟨h.one.below hb h.one.lt, h.two.below hb h.two.lt, h.bel.trans (hb.mono h.bel.size)⟩
set_option maxHeartbeats 4000000 in
theorem f28 (D : Nat) (x : MsgV) (v1 v2 : Value) (w : World) (h1 : MIn w D v1 x) (h2 : MIn w D v2 x) (hD : D ≤ w.heap.size) :
    Calls Tryz.prog 28 #[v1, v2] w fun e w' => e = .returned (.bool true) ∧ Below w.heap.size w w' := by
  obtain ⟨kd1, vd1, rfl, k1, p1⟩ := h1
  obtain ⟨kd2, vd2, rfl, k2, p2⟩ := h2
  obtain ⟨kA1, kc1, rfl⟩ := k1.sl
  obtain ⟨kA2, kc2, rfl⟩ := k2.sl
  obtain ⟨vA1, vc1, rfl⟩ := p1.sl
  obtain ⟨vA2, vc2, rfl⟩ := p2.sl
  have HD := Lib.hid (And.intro (And.intro k1 p1) (And.intro k2 p2))
  have hp0 : P45 w [.int .i8 x.ver, .bool x.la, .int .i64 x.tm, .bool x.key.1, .slice kA1 x.key.2.length kc1, .bool x.val.1, .slice vA1 x.val.2.length vc1] [.int .i8 x.ver, .bool x.la, .int .i64 x.tm, .bool x.key.1, .slice kA2 x.key.2.length kc2, .bool x.val.1, .slice vA2 x.val.2.length vc2] ((w.alloc (.cells #[.int .i8 x.ver, .bool x.la, .int .i64 x.tm, .bool x.key.1, .slice kA1 x.key.2.length kc1, .bool x.val.1, .slice vA1 x.val.2.length vc1] 45)).alloc (.cells #[.int .i8 x.ver, .bool x.la, .int .i64 x.tm, .bool x.key.1, .slice kA2 x.key.2.length kc2, .bool x.val.1, .slice vA2 x.val.2.length vc2] 45)) :=
    ⟨(Blk.new w 45 _).alloc _, by have h := Blk.new (w.alloc (.cells #[.int .i8 x.ver, .bool x.la, .int .i64 x.tm, .bool x.key.1, .slice kA1 x.key.2.length kc1, .bool x.val.1, .slice vA1 x.val.2.length vc1] 45)) 45 [.int .i8 x.ver, .bool x.la, .int .i64 x.tm, .bool x.key.1, .slice kA2 x.key.2.length kc2, .bool x.val.1, .slice vA2 x.val.2.length vc2]; rw [show (w.alloc (.cells #[.int .i8 x.ver, .bool x.la, .int .i64 x.tm, .bool x.key.1, .slice kA1 x.key.2.length kc1, .bool x.val.1, .slice vA1 x.val.2.length vc1] 45)).heap.size = w.heap.size + 1 by simp] at h; exact h, ((Below.refl _ _).alloc (Nat.le_refl _) _).alloc (by simp) _⟩
  have H0 := Lib.hid hp0
  clear k1 p1 k2 p2 hp0
  go_enter Tryz.func28, Tryz.ntmps28
  go_wp2_with fail
  refine (same2 _ _ _ _ D D _ (HD.out.1.1.below H0.out.bel hD) (HD.out.2.1.below H0.out.bel hD) (Nat.le_trans hD H0.out.bel.size) (Nat.le_trans hD H0.out.bel.size)).mono ?_
  rintro e w1 ⟨rfl, hb1⟩
  have hp1 := H0.out.call hb1
  have a5 := hp1.one.cell 5
  have a6 := hp1.one.cell 6
  have b5 := hp1.two.cell 5
  have b6 := hp1.two.cell 6
  simp only [List.getElem?_cons_zero, List.getElem?_cons_succ] at a5 a6 b5 b6
  have H1 := Lib.hid hp1
  clear hp1 hb1
  go_wp2_with fail
  refine (same2 _ _ _ _ D D _ (HD.out.1.2.below H1.out.bel hD) (HD.out.2.2.below H1.out.bel hD) (Nat.le_trans hD H1.out.bel.size) (Nat.le_trans hD H1.out.bel.size)).mono ?_
  rintro e w2 ⟨rfl, hb2⟩
  have H2 := Lib.hid (H1.out.call hb2)
  clear hb2 a5 a6 b5 b6
  go_wp2
  go_ret
  exact ⟨rfl, H2.out.bel⟩
set_option maxHeartbeats 4000000 in
theorem f36 (D : Nat) (ys : List BlkV) (v1 v2 : Value) (w : World) (h1 : BksIn w D v1 ys) (h2 : BksIn w D v2 ys) (hD : D ≤ w.heap.size) (hl8 : ys.length ≤ 8) :
    Calls Tryz.prog 36 #[v1, v2] w fun e w' => e = .returned (.bool true) ∧ Below w.heap.size w w' := by
  have HD := Lib.hid (And.intro h1 h2)
  obtain ⟨A1, c1, rfl, _⟩ := h1
  obtain ⟨A2, c2, rfl, _⟩ := h2
  go_enter Tryz.func36, Tryz.ntmps36
  go_wp2_with fail
  go_loopw [13] (fun i wr => ∃ k : Nat, k ≤ ys.length ∧ i = .int .i64 k ∧ Hid (Below w.heap.size w wr)) (fun i _ => ys.length - (intOf i).toNat)
  case atStart => exact ⟨0, by omega, rfl, Below.refl _ _⟩
  case round =>
    obtain ⟨k, hkk, rfl, HR⟩ := hrel
    by_cases hlt : k < ys.length
    · obtain ⟨A', c', hAe, hh⟩ := HD.out.1
      injection hAe with hA1e hA2e hA3e
      subst hA1e
      obtain ⟨a, rfl, haD, hall⟩ := hh (by intro e; rw [e] at hlt; simp at hlt)
      obtain ⟨B', d', hBe, hg⟩ := HD.out.2
      injection hBe with hB1e hB2e hB3e
      subst hB1e
      obtain ⟨b, rfl, hbD, hbll⟩ := hg (by intro e; rw [e] at hlt; simp at hlt)
      have hel := hall k hlt
      have hml := hbll k hlt
      generalize hyk : ys[k] = y at hel hml
      clear hyk hall hbll hh hg hA2e hA3e hB2e hB3e
      obtain ⟨kd1, vd1, g0, g1, g2, g3, g4, g5, g6, g7, hkd1, hvd1⟩ := hel
      obtain ⟨kd2, vd2, e0, e1, e2, e3, e4, e5, e6, e7, hkd2, hvd2⟩ := hml
      obtain ⟨jA1, jc1, rfl⟩ := hkd1.sl
      obtain ⟨uA1, uc1, rfl⟩ := hvd1.sl
      obtain ⟨jA2, jc2, rfl⟩ := hkd2.sl
      obtain ⟨uA2, uc2, rfl⟩ := hvd2.sl
      have HX := Lib.hid (And.intro (show ∀ W, Below w.heap.size w W → MIn W D (.agg #[.int .i8 y.msg.ver, .bool y.msg.la, .int .i64 y.msg.tm, .bool y.msg.key.1, .slice jA1 y.msg.key.2.length jc1, .bool y.msg.val.1, .slice uA1 y.msg.val.2.length uc1]) y.msg from fun W hb => ⟨_, _, rfl, hkd1.below hb hD, hvd1.below hb hD⟩) (show ∀ W, Below w.heap.size w W → MIn W D (.agg #[.int .i8 y.msg.ver, .bool y.msg.la, .int .i64 y.msg.tm, .bool y.msg.key.1, .slice jA2 y.msg.key.2.length jc2, .bool y.msg.val.1, .slice uA2 y.msg.val.2.length uc2]) y.msg from fun W hb => ⟨_, _, rfl, hkd2.below hb hD, hvd2.below hb hD⟩))
      clear hkd1 hvd1 hkd2 hvd2
      have hS : ∀ W, Below w.heap.size w W → (fun W => W.cell? (a.add (k * 8)) = some (.int .i64 y.off) ∧ W.cell? ⟨(a.add (k * 8)).block, (a.add (k * 8)).off + 1, none⟩ = some (.int .i8 y.msg.ver) ∧ W.cell? ⟨(a.add (k * 8)).block, (a.add (k * 8)).off + 2, none⟩ = some (.bool y.msg.la) ∧ W.cell? ⟨(a.add (k * 8)).block, (a.add (k * 8)).off + 3, none⟩ = some (.int .i64 y.msg.tm) ∧ W.cell? ⟨(a.add (k * 8)).block, (a.add (k * 8)).off + 4, none⟩ = some (.bool y.msg.key.1) ∧ W.cell? ⟨(a.add (k * 8)).block, (a.add (k * 8)).off + 5, none⟩ = some (.slice jA1 y.msg.key.2.length jc1) ∧ W.cell? ⟨(a.add (k * 8)).block, (a.add (k * 8)).off + 6, none⟩ = some (.bool y.msg.val.1) ∧ W.cell? ⟨(a.add (k * 8)).block, (a.add (k * 8)).off + 7, none⟩ = some (.slice uA1 y.msg.val.2.length uc1) ∧ W.cell? (b.add (k * 8)) = some (.int .i64 y.off) ∧ W.cell? ⟨(b.add (k * 8)).block, (b.add (k * 8)).off + 1, none⟩ = some (.int .i8 y.msg.ver) ∧ W.cell? ⟨(b.add (k * 8)).block, (b.add (k * 8)).off + 2, none⟩ = some (.bool y.msg.la) ∧ W.cell? ⟨(b.add (k * 8)).block, (b.add (k * 8)).off + 3, none⟩ = some (.int .i64 y.msg.tm) ∧ W.cell? ⟨(b.add (k * 8)).block, (b.add (k * 8)).off + 4, none⟩ = some (.bool y.msg.key.1) ∧ W.cell? ⟨(b.add (k * 8)).block, (b.add (k * 8)).off + 5, none⟩ = some (.slice jA2 y.msg.key.2.length jc2) ∧ W.cell? ⟨(b.add (k * 8)).block, (b.add (k * 8)).off + 6, none⟩ = some (.bool y.msg.val.1) ∧ W.cell? ⟨(b.add (k * 8)).block, (b.add (k * 8)).off + 7, none⟩ = some (.slice uA2 y.msg.val.2.length uc2) ∧ Below w.heap.size w W) W := fun W h =>
        have e : ∀ j, W.cell? ⟨(a.add (k * 8)).block, j, none⟩ = w.cell? ⟨(a.add (k * 8)).block, j, none⟩ := fun j => cell_below h _ (by show (a.add (k * 8)).block < w.heap.size; rw [add_block]; omega)
        have e' : ∀ j, W.cell? ⟨(b.add (k * 8)).block, j, none⟩ = w.cell? ⟨(b.add (k * 8)).block, j, none⟩ := fun j => cell_below h _ (by show (b.add (k * 8)).block < w.heap.size; rw [add_block]; omega)
        ⟨(cell_below h _ (by rw [add_block]; omega)).trans g0, (e _).trans g1, (e _).trans g2, (e _).trans g3, (e _).trans g4, (e _).trans g5, (e _).trans g6, (e _).trans g7, (cell_below h _ (by rw [add_block]; omega)).trans e0, (e' _).trans e1, (e' _).trans e2, (e' _).trans e3, (e' _).trans e4, (e' _).trans e5, (e' _).trans e6, (e' _).trans e7, h⟩
      have HS := Lib.hid hS
      clear hS g0 g1 g2 g3 g4 g5 g6 g7 e0 e1 e2 e3 e4 e5 e6 e7
      have hp0 := HR.out.drew
      have hHeld := HS.out _ hp0
      go_wp2_with fail
      go_region_held3 (fun W => W.cell? (a.add (k * 8)) = some (.int .i64 y.off) ∧ W.cell? ⟨(a.add (k * 8)).block, (a.add (k * 8)).off + 1, none⟩ = some (.int .i8 y.msg.ver) ∧ W.cell? ⟨(a.add (k * 8)).block, (a.add (k * 8)).off + 2, none⟩ = some (.bool y.msg.la) ∧ W.cell? ⟨(a.add (k * 8)).block, (a.add (k * 8)).off + 3, none⟩ = some (.int .i64 y.msg.tm) ∧ W.cell? ⟨(a.add (k * 8)).block, (a.add (k * 8)).off + 4, none⟩ = some (.bool y.msg.key.1) ∧ W.cell? ⟨(a.add (k * 8)).block, (a.add (k * 8)).off + 5, none⟩ = some (.slice jA1 y.msg.key.2.length jc1) ∧ W.cell? ⟨(a.add (k * 8)).block, (a.add (k * 8)).off + 6, none⟩ = some (.bool y.msg.val.1) ∧ W.cell? ⟨(a.add (k * 8)).block, (a.add (k * 8)).off + 7, none⟩ = some (.slice uA1 y.msg.val.2.length uc1) ∧ W.cell? (b.add (k * 8)) = some (.int .i64 y.off) ∧ W.cell? ⟨(b.add (k * 8)).block, (b.add (k * 8)).off + 1, none⟩ = some (.int .i8 y.msg.ver) ∧ W.cell? ⟨(b.add (k * 8)).block, (b.add (k * 8)).off + 2, none⟩ = some (.bool y.msg.la) ∧ W.cell? ⟨(b.add (k * 8)).block, (b.add (k * 8)).off + 3, none⟩ = some (.int .i64 y.msg.tm) ∧ W.cell? ⟨(b.add (k * 8)).block, (b.add (k * 8)).off + 4, none⟩ = some (.bool y.msg.key.1) ∧ W.cell? ⟨(b.add (k * 8)).block, (b.add (k * 8)).off + 5, none⟩ = some (.slice jA2 y.msg.key.2.length jc2) ∧ W.cell? ⟨(b.add (k * 8)).block, (b.add (k * 8)).off + 6, none⟩ = some (.bool y.msg.val.1) ∧ W.cell? ⟨(b.add (k * 8)).block, (b.add (k * 8)).off + 7, none⟩ = some (.slice uA2 y.msg.val.2.length uc2) ∧ Below w.heap.size w W)
        (first | with_reducible exact HS.out _ hp0 | with_reducible exact HS.out _ hp1)
        (first | (go_at_call 28; refine (f28 D y.msg _ _ _ (HX.out.1 _ hp0) (HX.out.2 _ hp0) (Nat.le_trans hD hp0.size)).mono ?_; rintro e w1 ⟨rfl, hb1⟩; have hp1 := hp0.trans (hb1.mono hp0.size)))
      have HN := Lib.hid hp1
      rename_i hHeld2
      clear hHeld2 hp0 hp1 hb1
      go_wp2
      go_roundw
      case rel =>
        first
          | exact ⟨k + 1, by omega, by go_num, HN⟩
          | ((repeat apply Exists.intro); exact ⟨⟨k + 1, by omega, by go_num, HN⟩, rfl⟩)
      case measure => simp [intOf]; omega
    · obtain rfl : k = ys.length := by omega
      go_wp2
      go_ret
      exact ⟨rfl, HR.out⟩
end Go.Proofs.YtmiflkccfieefaaGreatDoor

/-
  The law FnSetForm: a set, encoded twice and read back.
-/
namespace Go.Proofs.YtmiflkccfieefaaGreatDoor
open Go.ChangeShapes Go.WideShapes Go.ChangeAt Go.RowKit
set_option maxRecDepth 100000
set_option linter.unusedVariables false
set_option linter.unusedSimpArgs false

theorem own1_data {w : World} {B : Nat} {v : Value} {l : List UInt8} (h : Own1 w B v l) : DataSt w w.heap.size v l := by
  by_cases hv : v = .slice none 0 0
  · subst hv
    rcases h.2 with ⟨_, h0⟩ | ⟨g, cap, cur, h0, _⟩
    · exact .inr ⟨rfl, List.eq_nil_of_length_eq_zero h0⟩
    · cases h0
  · exact .inl (Own.bytes ⟨h, hv⟩ rfl)
theorem smallP_bp {x : BP} {k : Nat} (h : SmallP x.1 x.2 k) : bp x.nb = x := by
  obtain ⟨b, l⟩ := x
  exact bp_of rfl h.2
set_option maxHeartbeats 4000000 in
theorem f11 (D : Nat) (ys : List BlkV) (v : Value) (w : World) (h : BksIn w D v ys) (hD : D ≤ w.heap.size) (hbig : BksBig ys) (hn : BkNum ys) :
    Calls Tryz.prog 11 #[v] w fun e w' => e = .returned (.bool true) ∧ Below w.heap.size w w' := by
  have H := Lib.hid h
  obtain ⟨vA, vc, rfl, _⟩ := h
  have HN := Lib.hid (And.intro hbig hn)
  clear hbig hn
  go_enter Tryz.func11, Tryz.ntmps11
  go_wp2_with fail
  refine (f32 D _ ys _ H.out hD HN.out.1).mono ?_
  rintro e w1 ⟨b1, rfl, hb1⟩
  have H1 := Lib.hid hb1
  clear hb1
  cases b1
  · go_wp2
    go_ret
    exact ⟨rfl, H1.out⟩
  go_wp2_with fail
  refine (f33 D _ ys _ (H.out.below H1.out hD) (Nat.le_trans hD H1.out.size) HN.out.1).mono ?_
  rintro e w2 ⟨b2, rfl, hr2, hb2⟩
  have H2 := Lib.hid (And.intro (H1.out.trans (hb2.mono H1.out.size)) hr2)
  clear hb2 hr2
  cases b2
  · go_wp2_with fail
    refine (f15 _).mono ?_
    rintro e w3 ⟨rfl, hb3⟩
    have HF := Lib.hid (H2.out.1.trans (hb3.mono H2.out.1.size))
    clear hb3
    go_wp2
    go_ret
    exact ⟨rfl, HF.out⟩
  have hrr : BksRight ys := H2.out.2 rfl
  have hln := setBytes_len ys hrr.2
  have hl8 := hrr.1
  have HR := Lib.hid hrr
  clear hrr
  go_wp2_with fail
  refine (f34 D _ ys _ (H.out.below H2.out.1 hD) (Nat.le_trans hD H2.out.1.size) HR.out HN.out.2).mono ?_
  rintro e w3 ⟨v3, rfl, ho3, hb3⟩
  have hd3 := own1_data ho3
  obtain ⟨A3, c3, hv3⟩ := hd3.sl
  subst hv3
  have H3 := Lib.hid (And.intro (H2.out.1.trans (hb3.mono H2.out.1.size)) hd3)
  clear ho3 hb3 hd3
  go_wp2_with fail
  refine (f41 D _ ys _ (H.out.below H3.out.1 hD) (Nat.le_trans hD H3.out.1.size) HR.out).mono ?_
  rintro e w4 ⟨u4, rfl, ho4, hb4⟩
  have hd4 : DataSt w4 w4.heap.size u4 (setBytes ys) := .inl (ho4.bytes rfl)
  obtain ⟨A4, c4, hv4⟩ := hd4.sl
  subst hv4
  have hd34 := (H3.out.2.below hb4 (Nat.le_refl _)).mono hb4.size
  have H4 := Lib.hid (And.intro (H3.out.1.trans (hb4.mono H3.out.1.size)) (And.intro hd4 hd34))
  clear ho4 hb4 hd4 hd34
  go_wp2_with fail
  refine (f35 w4.heap.size ys _ _ H4.out.2.2.weak (Nat.le_refl _) (by omega) hl8 (fun y hy => ⟨(HR.out.2 y hy).mok, HN.out.2 y hy⟩) (fun y hy => ⟨smallP_bp (HR.out.2 y hy).2.2.1, smallP_bp (HR.out.2 y hy).2.2.2⟩)).mono ?_
  rintro e w5 ⟨A5, n5, c5, rfl, hk5, hb5⟩
  have hn5 : n5 = ys.length := by
    obtain ⟨_, _, he, _⟩ := hk5
    injection he
  subst hn5
  have hbA : Below w5.heap.size w5 (w5.alloc (.cells #[.slice A5 ys.length c5, .bool false, .bool false] 65)) := (Below.refl _ _).alloc (Nat.le_refl _) _
  have hbx := Blk.new w5 65 [.slice A5 ys.length c5, .bool false, .bool false]
  have H5 := Lib.hid (And.intro (H4.out.1.trans (hb5.mono H4.out.1.size)) (And.intro hb5 (And.intro hk5 (And.intro hbA hbx))))
  clear hk5 hb5 hbA hbx
  go_wp2_with fail
  refine (f15 _).mono ?_
  rintro e w6 ⟨rfl, hb6⟩
  have h56 : Below w5.heap.size w5 w6 := H5.out.2.2.2.1.trans (hb6.mono (by simp))
  have h46 : Below w4.heap.size w4 w6 := H5.out.2.1.trans (h56.mono H5.out.2.1.size)
  have h06 : Below w.heap.size w w6 := H5.out.1.trans (h56.mono H5.out.1.size)
  have hx6 := H5.out.2.2.2.2.below hb6 (by simp)
  have k0 := hx6.cell 0
  have k1 := hx6.cell 1
  have k2 := hx6.cell 2
  simp only [List.getElem?_cons_zero, List.getElem?_cons_succ] at k0 k1 k2
  have ks4 := run_str w6 w4.heap.size _ _ (H4.out.2.1.below h46 (Nat.le_refl _)).weak
  have ks3 := run_str w6 w4.heap.size _ _ (H4.out.2.2.below h46 (Nat.le_refl _)).weak
  have hi6 := (H.out.below h06 hD)
  have hk6 := (H5.out.2.2.1.below h56 (Nat.le_refl _))
  have h56s := h56.size
  have h05 := H5.out.1.size
  have hself := f36 w5.heap.size ys _ _ w6 (BksIn.mono hi6 (Nat.le_trans hD h05)) hk6 h56s hl8
  have H6 := Lib.hid (And.intro h06 hself)
  clear hb6 h56 h46 h06 hx6 hi6 hk6 hself
  generalize hsb : setBytes ys = sb at *
  go_wp2_with fail
  refine H6.out.2.mono ?_
  rintro e w7 ⟨rfl, hb7⟩
  have HF := Lib.hid (H6.out.1.trans (hb7.mono H6.out.1.size))
  clear hb7
  go_wp2
  go_ret
  exact ⟨rfl, HF.out⟩
end Go.Proofs.YtmiflkccfieefaaGreatDoor
