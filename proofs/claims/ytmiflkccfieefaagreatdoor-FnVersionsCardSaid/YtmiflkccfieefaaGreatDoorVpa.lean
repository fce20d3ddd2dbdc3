/-
  A version's text is parsed: ParseKafkaVersion, at right texts.
-/
import Derived.Test.YtmiflkccfieefaaGreatDoorVle
import Derived.Test.YtmiflkccfieefaaGreatDoorRin
namespace Go.Proofs.YtmiflkccfieefaaGreatDoor
open Go.ChangeShapes Go.WideShapes Go.ChangeAt Go.RowKit
set_option maxRecDepth 100000
set_option linter.unusedVariables false
set_option linter.unusedSimpArgs false

theorem info148 : (Tryz.prog.info? 148).map (fun i => (i.zero, i.size, i.bytes)) = some (some (.int .u64 0), 1, 8) := by kernel_rfl
def us (l : List Nat) : List Value := l.map fun (n : Nat) => Value.int .u64 (n : Int)
/-- The parser's state behind k bytes. -/
abbrev P0 : PS := ⟨[], 0, 0⟩
def PSt (s : ByteArray) (k : Nat) : PS := prun P0 (s.data.toList.take k)
theorem PSt.len (s : ByteArray) : PSt s s.size = prun P0 s.data.toList := by
  unfold PSt
  rw [List.take_of_length_le (by simp)]
structure PRel (s : ByteArray) (w wr : World) (lv : Value) (ls : List Nat) : Prop where
  blk : Blk wr w.heap.size 151 [.int .u64 0, .int .u64 0, .int .u64 0, .int .u64 0]
  own : wr.ownsRow (w.heap.size + 1) 148 1 lv ls.length (us ls)
  bel : Below w.heap.size w wr
/-- One number more. -/
theorem PRel.more {s : ByteArray} {w wr : World} {lv : Value} {ls : List Nat} (h : PRel s w wr lv ls) {n : Nat} {v' : Value} {w1 : World} {row : Option Nat}
    (hown : w1.ownsRow (w.heap.size + 1) 148 1 v' (ls.length + 1) (us ls ++ [.int .u64 n])) (hgr : (wr.alloc (.cells #[.int .u64 n] 148)).grownBy w1 row) (hrow : row = lv.ownBlock) : PRel s w w1 v' (ls ++ [n]) := by
  subst hrow
  have ho := h.own.alloc (.cells #[.int .u64 n] 148)
  have hb := h.blk.alloc (.cells #[.int .u64 n] 148)
  refine ⟨(hgr.block _ hb.lt (fun e => own_ne ho hb (by decide) e.symm)).trans hb, ?_, ?_⟩
  · simpa [us] using hown
  · exact (h.bel.alloc h.bel.size _).trans (grownBy_below hgr (fun g e => by have := (ho.lt g e).1; omega) (by have := h.bel.size; simp; omega))
theorem us_cell {s : ByteArray} {w wr : World} {lv : Value} {ls : List Nat} (h : PRel s w wr lv ls) (hne : ls ≠ []) : ∃ g cap, lv = .slice (some ⟨g, 0, none⟩) ls.length cap ∧ ∀ j (hj : j < ls.length), wr.cell? ⟨g, j, none⟩ = some (.int .u64 (ls[j] : Nat)) := by
  rcases h.own.2 with ⟨rfl, h0⟩ | ⟨g, cap, cur, rfl, _⟩
  · exact absurd (by simpa [us] using h0) hne
  · refine ⟨g, cap, rfl, fun j hj => ?_⟩
    rw [World.ownsRow.cellAt h.own j (by omega)]
    simp [us, hj]
theorem byte_is {c : UInt8} (h : c = 46) : ((c.toNat : Int) == 46) = true := by subst h; rfl
theorem byte_isn {c : UInt8} (h : c ≠ 46) : ((c.toNat : Int) == 46) = false := by
  have : c.toNat ≠ 46 := fun e => h (UInt8.toNat_inj.1 e)
  simp
  omega
/-- The state goes on. -/
theorem PSt.succ (s : ByteArray) (k : Nat) (h : k < s.size) : PSt s (k + 1) = pstep (PSt s k) s[k] := by
  unfold PSt
  rw [prun_snoc _ _ _ (by simpa using h)]
  rfl
theorem Below.undrew {w w' : World} (h : Below w.drew.heap.size w.drew w') : Below w.heap.size w w' := ⟨h.os, h.tape, h.output, h.size, h.block⟩
set_option maxHeartbeats 4000000 in
theorem f75 (s : ByteArray) (x y z : Nat) (nums : List Nat) (w : World) (hok : Pok P0 s.data.toList) (hl5 : 5 ≤ s.size) (hl : s.size ≤ 100) (hd : 0 < (prun P0 s.data.toList).d)
    (hn : (prun P0 s.data.toList).l ++ [(prun P0 s.data.toList).n] = nums) (r0 r1 r2 r3 : Nat)
    (hres : (((s[0]'(by omega)).toNat = 48 ∧ (s[1]'(by omega)).toNat = 46 ∧ nums = [0, r1, r2, r3] ∧ r0 = 0) ∨ ((s[0]'(by omega)).toNat ≠ 48 ∧ nums = [r0, r1, r2] ∧ r3 = 0))) :
    Calls Tryz.prog 75 #[.string s] w fun e w' => e = .returned (.tuple #[.agg #[.int .u64 r0, .int .u64 r1, .int .u64 r2, .int .u64 r3], .nilIface]) ∧ Below w.heap.size w w' := by
  have H0 : PRel s w (w.alloc (.cells #[.int .u64 0, .int .u64 0, .int .u64 0, .int .u64 0] 151)) (.slice none 0 0) [] :=
    ⟨Blk.new w 151 [.int .u64 0, .int .u64 0, .int .u64 0, .int .u64 0], World.ownsRow_nil _ _ _ _, (Below.refl _ _).alloc (Nat.le_refl _) _⟩
  have HR := Lib.hid H0
  have HOK := Lib.hid hok
  have HRES := Lib.hid hres
  have HN := Lib.hid hn
  clear H0 hok hres hn
  obtain ⟨i0, hi, hz0, hz1, hz2⟩ := info_parts info148
  go_enter Tryz.func75, Tryz.ntmps75
  go_wp2
  go_loopw [4, 5, 6, 7] (fun l n d i wr => (∃ k : Nat, k ≤ s.size ∧ i = .int .i64 k ∧ n = .int .u64 ((PSt s k).n : Nat) ∧ d = .int .i64 ((PSt s k).d : Nat) ∧ Hid (PRel s w wr l (PSt s k).l)) ∨ (i = .int .i64 (s.size + 1 : Nat) ∧ Hid (PRel s w wr l nums)))
    (fun _ _ _ i _ => s.size + 2 - (intOf i).toNat)
  case atStart => exact .inl ⟨0, by omega, rfl, rfl, rfl, HR⟩
  case round =>
    rcases hrel with ⟨k, hk, rfl, rfl, rfl, HP⟩ | ⟨rfl, HP⟩
    · by_cases hlt : k < s.size
      · have hp := Pok.at_ _ _ k (by simpa using hlt) HOK.out
        have hs := PSt.succ s k hlt
        have hnb : (PSt s k).n ≤ 999 := prun_n _ _ (Pok.take _ _ _ HOK.out) (by simp)
        have hdb : (PSt s k).d ≤ k := by have := prun_d (s.data.toList.take k) P0; simp at this; unfold PSt; omega
        have hlb : (PSt s k).l.length ≤ k := by have := prun_l (s.data.toList.take k) P0; simp at this; unfold PSt; omega
        change pok (PSt s k) s[k] at hp
        generalize PSt s k = st at hp hs hnb hdb hlb HP ⊢
        have hke : ((k : Int) == (s.size : Int)) = false := by simp; omega
        have hown := HP.out.own
        have hbel := HP.out.bel.size
        rcases hp with ⟨h46, hd0⟩ | ⟨h46, hc0, hc1, hn9⟩
        · have hb46 := byte_is h46
          have hdz : ((st.d : Int) == 0) = false := by simp; omega
          have hst : PSt s (k + 1) = ⟨st.l ++ [st.n], 0, 0⟩ := by rw [hs]; simp [pstep, h46]
          have HS := Lib.hid hst
          clear hs h46 hst hd0
          go_wp2_with (at_builtin; refine wpList_append_own _ rfl _ _ 185 rfl (w.heap.size + 1) 148 i0 (.int .u64 0) 1 8 Tryz.underlying185 hi hz0 hz1 hz2 rfl (by decide) _ _ _ rfl (hown.alloc _) ⟨wr.heap.size, 0, none⟩ 1 1 [.int .u64 (st.n : Nat)] rfl rfl ?c1 ?c2 ?c3 ?c4 ?c5 ?_)
          case c1 => exact cell_one_new _ _ _
          case c2 => intro u hu; simp at hu; subst hu; rfl
          case c3 => unfold maxLen; omega
          case c4 => omega
          case c5 => simp; omega
          intro v' w1 hown' hgrow _
          have HN2 := Lib.hid (HP.out.more hown' hgrow rfl)
          clear hown hown' hgrow
          go_wp2
          go_roundw
          case rel => exact .inl ⟨k + 1, by omega, by go_num, by rw [HS.out]; rfl, by rw [HS.out]; rfl, by rw [HS.out]; exact HN2⟩
          case measure => simp [intOf]; omega
        · have hb46 := byte_isn h46
          have hc0' : decide (((s[k].toNat : Nat) : Int) < 48) = false := by simp; omega
          have hc1' : decide ((57 : Int) < ((s[k].toNat : Nat) : Int)) = false := by simp; omega
          have hst : PSt s (k + 1) = ⟨st.l, st.n * 10 + (s[k].toNat - 48), st.d + 1⟩ := by rw [hs]; simp [pstep, h46]
          have HS := Lib.hid hst
          clear hs h46 hst hown
          generalize hcc : s[k].toNat = c at hb46 hc0 hc1 hc0' hc1' HS ⊢
          go_wp2
          subst hcc
          go_roundw
          case rel => exact .inl ⟨k + 1, by omega, by go_num, by rw [HS.out]; go_num, by rw [HS.out]; go_num, by rw [HS.out]; exact HP⟩
          case measure => simp [intOf]; omega
      · obtain rfl : k = s.size := by omega
        have hd' : 0 < (PSt s s.size).d := by rw [PSt.len]; exact hd
        have hn' : (PSt s s.size).l ++ [(PSt s s.size).n] = nums := by rw [PSt.len]; exact HN.out
        have hlb : (PSt s s.size).l.length ≤ s.size := by have := prun_l (s.data.toList.take s.size) P0; simp at this; unfold PSt; simpa using this
        generalize PSt s s.size = st at hd' hn' hlb HP ⊢
        have hdz : ((st.d : Int) == 0) = false := by simp; omega
        have hown := HP.out.own
        have hbel := HP.out.bel.size
        have HNM := Lib.hid hn'
        clear hn' hd'
        go_wp2_with (at_builtin; refine wpList_append_own _ rfl _ _ 185 rfl (w.heap.size + 1) 148 i0 (.int .u64 0) 1 8 Tryz.underlying185 hi hz0 hz1 hz2 rfl (by decide) _ _ _ rfl (hown.alloc _) ⟨wr.heap.size, 0, none⟩ 1 1 [.int .u64 (st.n : Nat)] rfl rfl ?e1 ?e2 ?e3 ?e4 ?e5 ?_)
        case e1 => exact cell_one_new _ _ _
        case e2 => intro u hu; simp at hu; subst hu; rfl
        case e3 => unfold maxLen; omega
        case e4 => omega
        case e5 => simp; omega
        intro v' w1 hown' hgrow _
        have HN2 := Lib.hid (HP.out.more hown' hgrow rfl)
        clear hown hown' hgrow
        rw [HNM.out] at HN2
        go_wp2
        go_roundw
        case rel => exact .inr ⟨by go_num, HN2⟩
        case measure => simp [intOf]
    · rcases HRES.out with ⟨hz0', hz1', hnm, hr0⟩ | ⟨hz0', hnm, hr3⟩
      · subst hnm hr0
        have t0 : (((s[0]'(by omega)).toNat : Int) == 48) = true := by simp; omega
        have t1 : (((s[1]'(by omega)).toNat : Int) == 46) = true := by simp; omega
        clear hz0' hz1'
        obtain ⟨g, cap, rfl, hcs⟩ := us_cell HP.out (by simp)
        have d1 := hcs 1 (by simp)
        have d2 := hcs 2 (by simp)
        have d3 := hcs 3 (by simp)
        simp only [List.getElem_cons_zero, List.getElem_cons_succ] at d1 d2 d3
        have hpw := HP.out.blk
        have HP2 := Lib.hid (And.intro HP.out.blk HP.out.bel)
        have hlw := hpw.lt
        clear hcs hpw
        go_wp2_with fail
        refine wp_region_still_tail 9 (by kernel_rfl) (by kernel_rfl) ?_
        show wpStill _ _ (World.drew _) (fun a' => wpList _ _ _ _ _ (World.drew _)) _ _
        simp only [List.take_succ_cons, List.take_zero, List.drop_succ_cons, List.drop_zero]
        repeat still_step
        refine wpStill_nil ?_
        go_wp2_with fail
        refine (f95 _ _ _ _ _).mono ?_
        rintro e w1 ⟨rfl, hb1⟩
        have hq := HP2.out.1.below (Below.undrew hb1) HP2.out.1.lt
        have c0 := hq.cell 0
        have c1 := hq.cell 1
        have c2 := hq.cell 2
        have c3 := hq.cell 3
        have f0 := hq.frozen 0
        have f1 := hq.frozen 1
        have f2 := hq.frozen 2
        have f3 := hq.frozen 3
        simp only [List.getElem?_cons_zero, List.getElem?_cons_succ] at c0 c1 c2 c3
        have HF := Lib.hid (And.intro hq (HP2.out.2.trans ((Below.undrew hb1).mono HP2.out.2.size)))
        clear hq hb1
        go_wp2
        have hE := (((HF.out.1.set_ 0 (.int .u64 0)).set_ 1 (.int .u64 (r1 : Nat))).set_ 2 (.int .u64 (r2 : Nat))).set_ 3 (.int .u64 (r3 : Nat))
        have hB := (((HF.out.2.setCell (p := ⟨w.heap.size, 0, none⟩) (Nat.le_refl _) (.int .u64 0)).setCell (p := ⟨w.heap.size, 1, none⟩) (Nat.le_refl _) (.int .u64 (r1 : Nat))).setCell (p := ⟨w.heap.size, 2, none⟩) (Nat.le_refl _) (.int .u64 (r2 : Nat))).setCell (p := ⟨w.heap.size, 3, none⟩) (Nat.le_refl _) (.int .u64 (r3 : Nat))
        have hblk := hE
        unfold Blk at hblk
        have hlv := run_loadVar_row (P := Tryz.prog) _ w.heap.size 151 151 #[.int .u64 0, .int .u64 (r1 : Nat), .int .u64 (r2 : Nat), .int .u64 (r3 : Nat)] (0, 0) _ hblk Tryz.underlying151 rfl (by kernel_rfl)
        try simp only [Exit.inBlock, Exit.then]
        refine bodyPost_ret (v := .tuple #[.agg #[.int .u64 0, .int .u64 (r1 : Nat), .int .u64 (r2 : Nat), .int .u64 (r3 : Nat)], .nilIface]) (by simp [results, Tryz.results75, asAddr, hlv]) rfl ?_
        exact ⟨rfl, hB⟩
      · subst hnm hr3
        have t0 : (((s[0]'(by omega)).toNat : Int) == 48) = false := by simp; omega
        clear hz0'
        obtain ⟨g, cap, rfl, hcs⟩ := us_cell HP.out (by simp)
        have d0 := hcs 0 (by simp)
        have d1 := hcs 1 (by simp)
        have d2 := hcs 2 (by simp)
        simp only [List.getElem_cons_zero, List.getElem_cons_succ] at d0 d1 d2
        have hpw := HP.out.blk
        have HP2 := Lib.hid (And.intro HP.out.blk HP.out.bel)
        have hlw := hpw.lt
        clear hcs hpw
        go_wp2_with fail
        refine wp_region_still_tail 9 (by kernel_rfl) (by kernel_rfl) ?_
        show wpStill _ _ (World.drew _) (fun a' => wpList _ _ _ _ _ (World.drew _)) _ _
        simp only [List.take_succ_cons, List.take_zero, List.drop_succ_cons, List.drop_zero]
        repeat still_step
        refine wpStill_nil ?_
        go_wp2_with fail
        refine (f95 _ _ _ _ _).mono ?_
        rintro e w1 ⟨rfl, hb1⟩
        have hq := HP2.out.1.below (Below.undrew hb1) HP2.out.1.lt
        have c0 := hq.cell 0
        have c1 := hq.cell 1
        have c2 := hq.cell 2
        have c3 := hq.cell 3
        have f0 := hq.frozen 0
        have f1 := hq.frozen 1
        have f2 := hq.frozen 2
        have f3 := hq.frozen 3
        simp only [List.getElem?_cons_zero, List.getElem?_cons_succ] at c0 c1 c2 c3
        have HF := Lib.hid (And.intro hq (HP2.out.2.trans ((Below.undrew hb1).mono HP2.out.2.size)))
        clear hq hb1
        go_wp2
        have hE := (((HF.out.1.set_ 0 (.int .u64 (r0 : Nat))).set_ 1 (.int .u64 (r1 : Nat))).set_ 2 (.int .u64 (r2 : Nat))).set_ 3 (.int .u64 0)
        have hB := (((HF.out.2.setCell (p := ⟨w.heap.size, 0, none⟩) (Nat.le_refl _) (.int .u64 (r0 : Nat))).setCell (p := ⟨w.heap.size, 1, none⟩) (Nat.le_refl _) (.int .u64 (r1 : Nat))).setCell (p := ⟨w.heap.size, 2, none⟩) (Nat.le_refl _) (.int .u64 (r2 : Nat))).setCell (p := ⟨w.heap.size, 3, none⟩) (Nat.le_refl _) (.int .u64 0)
        have hblk := hE
        unfold Blk at hblk
        have hlv := run_loadVar_row (P := Tryz.prog) _ w.heap.size 151 151 #[.int .u64 (r0 : Nat), .int .u64 (r1 : Nat), .int .u64 (r2 : Nat), .int .u64 0] (0, 0) _ hblk Tryz.underlying151 rfl (by kernel_rfl)
        try simp only [Exit.inBlock, Exit.then]
        refine bodyPost_ret (v := .tuple #[.agg #[.int .u64 (r0 : Nat), .int .u64 (r1 : Nat), .int .u64 (r2 : Nat), .int .u64 0], .nilIface]) (by simp [results, Tryz.results75, asAddr, hlv]) rfl ?_
        exact ⟨rfl, hB⟩
end Go.Proofs.YtmiflkccfieefaaGreatDoor
