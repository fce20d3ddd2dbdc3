/-
  A record's encoding by the writing encoder: which bytes it writes.
-/
import Derived.Test.YtmiflkccfieefaaGreatDoorRecP
namespace Go.Proofs.YtmiflkccfieefaaGreatDoor
open Go.ChangeShapes Go.WideShapes Go.ChangeAt Go.RowKit
set_option maxRecDepth 100000
set_option linter.unusedVariables false

theorem far_pg {w : World} {D p g : Nat} (h : D ≤ p) (h2 : D ≤ g) : Far w D [p, g] := fun s hs => .inl (by simp at hs; rcases hs with rfl | rfl <;> assumption)
set_option maxHeartbeats 6000000 in
theorem e133r {B : Nat} (p g N D r : Nat) (attr tm od so0 : Int) (ko vo : NB) (hs : List (NB × NB)) (pre : List UInt8) (stk : List Value) (w : World) (h : RX B w p g N pre stk) (hN : N ≤ 1000000000) (hstk : stk.length ≤ 100)
    (hR : RecAt w D r attr (tm * 1000000) od ko vo hs so0 (recBody attr tm od ko vo hs).length) (hF : RecFits attr tm od ko vo hs) (hDp : D ≤ p) (hDg : D ≤ g) (hrD : r < D) (hroom : pre.length + (recBytes attr tm od ko vo hs).length ≤ N) :
    Calls Tryz.prog 133 #[.pointer (some ⟨r, 0, none⟩), .iface 180 (.pointer (some ⟨p, 0, none⟩))] w fun e w' => e = .returned .nilIface ∧
      RX B w' p g N (pre ++ recBytes attr tm od ko vo hs) stk ∧ RecAt w' D r attr (tm * 1000000) od ko vo hs pre.length (recBody attr tm od ko vo hs).length ∧ Kept B [p, g, r] w w' := by
  have hbl := recBody_le hF
  have hpr : p ≠ r := by omega
  have hgr : g ≠ r := by omega
  have HF := Lib.hid hF
  have HL := Lib.hid (recBody_length attr tm od ko vo hs)
  have hrb3 : (recBytes attr tm od ko vo hs).length = (vb ((recBody attr tm od ko vo hs).length : Int)).length + (recBody attr tm od ko vo hs).length := by simp [recBytes]
  rw [hrb3] at hroom
  clear hrb3
  have hLm : (0 : Int) ≤ ((recBody attr tm od ko vo hs).length : Int) := by omega
  generalize hmv : ((recBody attr tm od ko vo hs).length : Int) = m at hR hLm hroom
  have HM := Lib.hid hmv
  have hm5 : m ≤ 5000 := by omega
  have hroom2 : pre.length + (vb m).length + m.toNat ≤ N := by omega
  clear hroom hmv
  have hvm := vb_le (x := m) (by omega) (by omega)
  obtain ⟨hv, kv, vv, hrb, hH, hK, hV⟩ := hR
  have h0 := hrb.cell 0
  simp at h0
  have HH := Lib.hid (And.intro h (And.intro hrb (And.intro hH (And.intro hK hV))))
  have hrl := hrb.lt
  clear hF h hrb hH hK hV h0
  go_enter Tryz.func133, Tryz.ntmps133
  go_wp2_with fail
  refine wp_region_still_tail 8 (by kernel_rfl) (by kernel_rfl) ?_
  show wpStill _ _ (World.drew _) (fun a' => wpList _ _ _ _ _ (World.drew _)) _ _
  simp only [List.take_succ_cons, List.take_zero, List.drop_succ_cons, List.drop_zero]
  repeat still_step
  refine wpStill_nil ?_
  go_wp2_with fail
  refine (xpush253 p g N r 6 101 _ (.int .i64 so0) m pre stk _ (by exact HH.out.1) hN (by exact HH.out.2.1) (by decide) (by decide) (by decide) rfl rfl (by omega) (by omega) (by omega) (by omega)).mono ?_
  rintro e w1 ⟨rfl, mid, hml, hp1, hr1, hk1⟩
  replace hk1 := Kept.undrew hk1
  have HML := Lib.hid hml
  clear hml
  have hS1 : Far w D [p, r] := far_pr hDp HH.out.2.1
  have hR1 : RecAt w1 D r attr (tm * 1000000) od ko vo hs pre.length m := by
    obtain ⟨_, _, hH, hK, hV⟩ := HH.out
    exact ⟨hv, kv, vv, hr1, hH.kept hk1 hS1, hK.kept hk1 hS1.bytes, hV.kept hk1 hS1.bytes⟩
  have H1 := Lib.hid (And.intro hp1 (And.intro hR1 (hk1.mono (Nat.le_refl _) (show ∀ x ∈ [p, r], x ∈ [p, g, r] ∨ w.heap.size ≤ x from fun x hx => .inl (by simp at hx ⊢; rcases hx with hx | hx; exact .inl hx; exact .inr (.inr hx))))))
  clear hp1 hr1 hk1 hR1 hS1
  obtain ⟨f1, f2, f3, f4, f5, f6, f7, f8, f9, f10⟩ := HF.out
  obtain ⟨hv2, kv2, vv2, hrb2, hH2, hK2, hV2⟩ := H1.out.2.1
  have hc2 := hrb2.cell 1
  simp at hc2
  have HR2 := Lib.hid (And.intro hH2 (And.intro hK2 hV2))
  clear hrb2 hH2 hK2 hV2
  go_wp2_with fail
  refine wp_region_still_tail 8 (by kernel_rfl) (by kernel_rfl) ?_
  show wpStill _ _ (World.drew _) (fun a' => wpList _ _ _ _ _ (World.drew _)) _ _
  simp only [List.take_succ_cons, List.take_zero, List.drop_succ_cons, List.drop_zero]
  repeat still_step
  refine wpStill_nil ?_
  go_wp2_with fail
  refine (x206 p g N attr _ _ _ (by exact H1.out.1) hN f1 f2 (by have h1 := HML.out; have h2 := HL.out; have h3 := HM.out; simp; omega)).mono ?_
  rintro e w2 ⟨rfl, hp2, hk2⟩
  replace hk2 := Kept.undrew hk2
  have H2 := Lib.hid (And.intro hp2 (And.intro (H1.out.2.1.kept hk2 (far_pg hDp hDg) (by simp; exact ⟨Ne.symm hpr, Ne.symm hgr⟩)) (H1.out.2.2.trans hk2 (fun x hx => .inl hx) (fun x hx => .inl (by simp at hx ⊢; rcases hx with hx | hx; exact .inl hx; exact .inr (.inl hx))))))
  clear hp2 hk2 hc2
  obtain ⟨hv3, kv3, vv3, hrb3, hH3, hK3, hV3⟩ := H2.out.2.1
  have hc3 := hrb3.cell 2
  simp at hc3
  have HR3 := Lib.hid (And.intro hH3 (And.intro hK3 hV3))
  clear hrb3 hH3 hK3 hV3
  have ht1 : Int.tdiv (tm * 1000000) 1000000 = tm := Int.mul_tdiv_cancel _ (by decide)
  have ht2 : IntKind.i64.wrap tm = tm := IntWalk.i64_in _ (by omega)
  go_wp2_with fail
  refine wp_region_still_tail 9 (by kernel_rfl) (by kernel_rfl) ?_
  show wpStill _ _ (World.drew _) (fun a' => wpList _ _ _ _ _ (World.drew _)) _ _
  simp only [List.take_succ_cons, List.take_zero, List.drop_succ_cons, List.drop_zero]
  repeat still_step
  refine wpStill_nil ?_
  go_wp2_with fail
  refine (x208 p g N tm _ _ _ (by exact H2.out.1) hN (by omega) (by omega) (by have h1 := HML.out; have h2 := HL.out; have h3 := HM.out; simp; omega)).mono ?_
  rintro e w3 ⟨rfl, hp3, hk3⟩
  replace hk3 := Kept.undrew hk3
  have H3 := Lib.hid (And.intro hp3 (And.intro (H2.out.2.1.kept hk3 (far_pg hDp hDg) (by simp; exact ⟨Ne.symm hpr, Ne.symm hgr⟩)) (H2.out.2.2.trans hk3 (fun x hx => .inl hx) (fun x hx => .inl (by simp at hx ⊢; rcases hx with hx | hx; exact .inl hx; exact .inr (.inl hx))))))
  clear hp3 hk3 hc3 ht1 ht2
  obtain ⟨hv4, kv4, vv4, hrb4, hH4, hK4, hV4⟩ := H3.out.2.1
  have hc4 := hrb4.cell 3
  simp at hc4
  have HR4 := Lib.hid (And.intro hH4 (And.intro hK4 hV4))
  clear hrb4 hH4 hK4 hV4
  go_wp2_with fail
  refine wp_region_still_tail 8 (by kernel_rfl) (by kernel_rfl) ?_
  show wpStill _ _ (World.drew _) (fun a' => wpList _ _ _ _ _ (World.drew _)) _ _
  simp only [List.take_succ_cons, List.take_zero, List.drop_succ_cons, List.drop_zero]
  repeat still_step
  refine wpStill_nil ?_
  go_wp2_with fail
  refine (x208 p g N od _ _ _ (by exact H3.out.1) hN f5 f6 (by have h1 := HML.out; have h2 := HL.out; have h3 := HM.out; simp; omega)).mono ?_
  rintro e w4 ⟨rfl, hp4, hk4⟩
  replace hk4 := Kept.undrew hk4
  have H4 := Lib.hid (And.intro hp4 (And.intro (H3.out.2.1.kept hk4 (far_pg hDp hDg) (by simp; exact ⟨Ne.symm hpr, Ne.symm hgr⟩)) (H3.out.2.2.trans hk4 (fun x hx => .inl hx) (fun x hx => .inl (by simp at hx ⊢; rcases hx with hx | hx; exact .inl hx; exact .inr (.inl hx))))))
  clear hp4 hk4 hc4
  obtain ⟨hv5, kv5, vv5, hrb5, hH5, hK5, hV5⟩ := H4.out.2.1
  have hc5 := hrb5.cell 4
  simp at hc5
  have HR5 := Lib.hid (And.intro hH5 (And.intro hK5 hV5))
  clear hrb5 hH5 hK5 hV5
  go_wp2_with fail
  refine wp_region_still_tail 8 (by kernel_rfl) (by kernel_rfl) ?_
  show wpStill _ _ (World.drew _) (fun a' => wpList _ _ _ _ _ (World.drew _)) _ _
  simp only [List.take_succ_cons, List.take_zero, List.drop_succ_cons, List.drop_zero]
  repeat still_step
  refine wpStill_nil ?_
  go_wp2_with fail
  refine (x209 p g N kv5 ko D _ _ _ (by exact H4.out.1) hN (by exact HR5.out.2.1) hDg hDp (by have h1 := HML.out; have h2 := HL.out; have h3 := HM.out; simp; omega)).mono ?_
  rintro e w5 ⟨rfl, hp5, hk5⟩
  replace hk5 := Kept.undrew hk5
  have H5 := Lib.hid (And.intro hp5 (And.intro (H4.out.2.1.kept hk5 (far_pg hDp hDg) (by simp; exact ⟨Ne.symm hpr, Ne.symm hgr⟩)) (H4.out.2.2.trans hk5 (fun x hx => .inl hx) (fun x hx => .inl (by simp at hx ⊢; rcases hx with hx | hx; exact .inl hx; exact .inr (.inl hx))))))
  clear hp5 hk5 hc5
  obtain ⟨hv6, kv6, vv6, hrb6, hH6, hK6, hV6⟩ := H5.out.2.1
  have hc6 := hrb6.cell 5
  simp at hc6
  have HR6 := Lib.hid (And.intro hH6 (And.intro hK6 hV6))
  clear hrb6 hH6 hK6 hV6
  go_wp2_with fail
  refine wp_region_still_tail 8 (by kernel_rfl) (by kernel_rfl) ?_
  show wpStill _ _ (World.drew _) (fun a' => wpList _ _ _ _ _ (World.drew _)) _ _
  simp only [List.take_succ_cons, List.take_zero, List.drop_succ_cons, List.drop_zero]
  repeat still_step
  refine wpStill_nil ?_
  go_wp2_with fail
  refine (x209 p g N vv6 vo D _ _ _ (by exact H5.out.1) hN (by exact HR6.out.2.2) hDg hDp (by have h1 := HML.out; have h2 := HL.out; have h3 := HM.out; simp; omega)).mono ?_
  rintro e w6 ⟨rfl, hp6, hk6⟩
  replace hk6 := Kept.undrew hk6
  have H6 := Lib.hid (And.intro hp6 (And.intro (H5.out.2.1.kept hk6 (far_pg hDp hDg) (by simp; exact ⟨Ne.symm hpr, Ne.symm hgr⟩)) (H5.out.2.2.trans hk6 (fun x hx => .inl hx) (fun x hx => .inl (by simp at hx ⊢; rcases hx with hx | hx; exact .inl hx; exact .inr (.inl hx))))))
  clear hp6 hk6 hc6
  obtain ⟨hv7, kv7, vv7, hrb7, hH7, hK7, hV7⟩ := H6.out.2.1
  have hc7 := hrb7.cell 0
  simp at hc7
  obtain ⟨A7, cap7, rfl, _⟩ := hH7
  clear hrb7 hK7 hV7
  go_wp2_with fail
  refine wp_region_still_tail 9 (by kernel_rfl) (by kernel_rfl) ?_
  show wpStill _ _ (World.drew _) (fun a' => wpList _ _ _ _ _ (World.drew _)) _ _
  simp only [List.take_succ_cons, List.take_zero, List.drop_succ_cons, List.drop_zero]
  repeat still_step
  refine wpStill_nil ?_
  go_wp2_with fail
  refine (x208 p g N (hs.length : Int) _ _ _ (by exact H6.out.1) hN (by omega) (by omega) (by have h1 := HML.out; have h2 := HL.out; have h3 := HM.out; simp; omega)).mono ?_
  rintro e w7 ⟨rfl, hp7, hk7⟩
  replace hk7 := Kept.undrew hk7
  have H7 := Lib.hid (And.intro hp7 (And.intro (H6.out.2.1.kept hk7 (far_pg hDp hDg) (by simp; exact ⟨Ne.symm hpr, Ne.symm hgr⟩)) (H6.out.2.2.trans hk7 (fun x hx => .inl hx) (fun x hx => .inl (by simp at hx ⊢; rcases hx with hx | hx; exact .inl hx; exact .inr (.inl hx))))))
  clear hp7 hk7 hc7
  obtain ⟨hv8, kv8, vv8, hrb8, hH8, hK8, hV8⟩ := H7.out.2.1
  have hc8 := hrb8.cell 0
  simp at hc8
  obtain ⟨A8, cap8, rfl, hHH8⟩ := hH8
  have hH8' : HdrsAt w7 D (.slice A8 hs.length cap8) hs := ⟨A8, cap8, rfl, hHH8⟩
  have e7 : pre ++ mid ++ [byteOf attr] ++ vb tm ++ vb od ++ vBytes ko ++ vBytes vo ++ vb (hs.length : Int) = pre ++ (mid ++ (byteOf attr :: (vb tm ++ (vb od ++ (vBytes ko ++ (vBytes vo ++ vb (hs.length : Int))))))) := by simp
  have hp7 := H7.out.1
  rw [e7] at hp7
  have H8 := Lib.hid (And.intro hp7 (And.intro H7.out.2.1 (And.intro H7.out.2.2 hH8')))
  have HL7 : Hid ((byteOf attr :: (vb tm ++ (vb od ++ (vBytes ko ++ (vBytes vo ++ vb (hs.length : Int)))))).length + hdrsLen hs = (recBody attr tm od ko vo hs).length) := by
    have h2 := HL.out
    show _ = _
    simp
    omega
  have HB7 : Hid (recBody attr tm od ko vo hs = (byteOf attr :: (vb tm ++ (vb od ++ (vBytes ko ++ (vBytes vo ++ vb (hs.length : Int)))))) ++ hs.flatMap hdrB) := by
    show _ = _
    simp [recBody]
  clear hH8' H1 H2 H3 H4 H5 H6 H7 hHH8 hrb8 hK8 hV8 HR2 HR3 HR4 HR5 HR6 hp7 e7
  generalize (byteOf attr :: (vb tm ++ (vb od ++ (vBytes ko ++ (vBytes vo ++ vb (hs.length : Int)))))) = b7 at H8 HL7 HB7
  go_wp2_with fail
  go_loopw [86] (fun i wr => ∃ k : Nat, k ≤ hs.length ∧ i = .int .i64 k ∧ Hid (RX B wr p g N (pre ++ (mid ++ (b7 ++ (hs.take k).flatMap hdrB))) (stk ++ [Value.iface 253 (.pointer (some ⟨r, 6, none⟩))]) ∧ RecAt wr D r attr (tm * 1000000) od ko vo hs pre.length m ∧ Kept B [p, g, r] w wr ∧ HdrsAt wr D (.slice A8 hs.length cap8) hs)) (fun i _ => hs.length - (intOf i).toNat)
  case atStart => exact ⟨0, by omega, rfl, Lib.hid (by simpa using H8.out)⟩
  case round =>
    obtain ⟨k, hk, rfl, HS⟩ := hrel
    by_cases hlt : k < hs.length
    · obtain ⟨A', c', hAe, hh⟩ := HS.out.2.2.2
      obtain ⟨gh, C, fz, rfl, hgD, hgb, hall⟩ := hh (by intro e; rw [e] at hlt; simp at hlt)
      obtain ⟨b, bk, bv, hbc, hbD, hbb, hbk, hbv⟩ := hall k hlt
      injection hAe with hA1 hA2 hA3
      subst hA1
      clear hA2 hA3
      have HX := Lib.hid (And.intro hbb (And.intro hbk hbv))
      have htk := hdrsLen_le hs (k + 1)
      have hst := hdrsLen_take hs k hlt
      have hroomk : (pre ++ (mid ++ (b7 ++ (hs.take k).flatMap hdrB))).length + (hdrB hs[k]).length ≤ N := by
        have h1 := HML.out
        have h2 := HL7.out
        have h3 := HM.out
        have h4 : ((hs.take k).flatMap hdrB).length = hdrsLen (hs.take k) := rfl
        rw [List.length_append, List.length_append, List.length_append, h4]
        omega
      have HE : Hid (pre ++ (mid ++ (b7 ++ (hs.take k).flatMap hdrB)) ++ hdrB hs[k] = pre ++ (mid ++ (b7 ++ (hs.take (k + 1)).flatMap hdrB))) := by
        show _ = _
        rw [List.take_succ_eq_append_getElem hlt, List.flatMap_append]
        simp
      clear hgb hall hbb hbk hbv hh hst
      go_wp2_with fail
      refine (h135r p g N D b bk bv hs[k] _ _ _ (by exact HS.out.1) hN (by exact HX.out.1) (by omega) (by exact HX.out.2.1) (by exact HX.out.2.2) hDp hDg hbD hroomk).mono ?_
      rintro e wn ⟨rfl, hpn, hkn⟩
      rw [HE.out] at hpn
      have HN := Lib.hid (And.intro hpn (And.intro (HS.out.2.1.kept hkn (far_pg hDp hDg) (by simp; exact ⟨Ne.symm hpr, Ne.symm hgr⟩)) (And.intro (HS.out.2.2.1.trans hkn (fun x hx => .inl hx) (fun x hx => .inl (by simp at hx ⊢; rcases hx with hx | hx; exact .inl hx; exact .inr (.inl hx)))) (HS.out.2.2.2.kept hkn (far_pg hDp hDg)))))
      clear hpn hkn hbc hroomk
      go_wp2
      go_roundw
      case rel =>
        have h9 := HN.out
        first
          | exact ⟨k + 1, by omega, by go_num, h9⟩
          | ((repeat apply Exists.intro); exact ⟨⟨k + 1, by omega, by go_num, h9⟩, rfl⟩)
      case measure => simp [intOf]; omega
    · obtain rfl : k = hs.length := by omega
      obtain ⟨hvr, kvr, vvr, hrbr, hHr, hKr, hVr⟩ := HS.out.2.1
      have hp9 := HS.out.1
      rw [List.take_length, ← HB7.out] at hp9
      have H9 := Lib.hid (And.intro hp9 hrbr)
      clear hp9 hrbr hHr hKr hVr
      go_wp2_with fail
      refine (xpop253 p g N r 6 101 pre.length m _ pre mid (recBody attr tm od ko vo hs) stk _ (by exact H9.out.1) hN (by omega) (by exact H9.out.2) rfl rfl (by omega) (by omega) (by decide) (by decide) rfl HML.out).mono ?_
      rintro e w9 ⟨rfl, hp10, hk10⟩
      have eB : pre ++ (vb m ++ recBody attr tm od ko vo hs) = pre ++ recBytes attr tm od ko vo hs := by rw [← HM.out]; rfl
      rw [eB] at hp10
      have hR10 := HS.out.2.1.kept hk10 (far_pg hDp hDg) (by simp; exact ⟨Ne.symm hpr, Ne.symm hgr⟩)
      rw [← HM.out] at hR10
      have HFin := Lib.hid (And.intro hp10 (And.intro hR10 (HS.out.2.2.1.trans hk10 (fun x hx => .inl hx) (fun x hx => .inl (by simp at hx ⊢; rcases hx with hx | hx; exact .inl hx; exact .inr (.inl hx))))))
      clear hp10 hk10 hR10 eB
      go_wp2
      go_ret
      exact ⟨rfl, by rw [HM.out] at HFin; exact HFin.out⟩
end Go.Proofs.YtmiflkccfieefaaGreatDoor
