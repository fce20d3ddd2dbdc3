/-
  A record's encoding by the preparing encoder: how many bytes it counts, what it leaves in the record's length.
-/
import Derived.Test.YtmiflkccfieefaaGreatDoorHdr
namespace Go.Proofs.YtmiflkccfieefaaGreatDoor
open Go.ChangeShapes Go.WideShapes Go.ChangeAt Go.RowKit
set_option maxRecDepth 100000
set_option linter.unusedVariables false

theorem RecAt.kept {B D : Nat} {S : List Nat} {w w' : World} {r : Nat} {attr td od : Int} {ko vo : NB} {hs : List (NB × NB)} {so L : Int} (h : RecAt w D r attr td od ko vo hs so L) (hk : Kept B S w w') (hS : Far w D S) (hr : r ∉ S) : RecAt w' D r attr td od ko vo hs so L := by
  obtain ⟨hv, kv, vv, hb, h1, h2, h3⟩ := h
  exact ⟨hv, kv, vv, hb.kept hk hr (.inr (by rintro (h5 | h5) <;> exact absurd h5 (by decide))), h1.kept hk hS, h2.kept hk hS.bytes, h3.kept hk hS.bytes⟩
theorem far_p {w : World} {D p : Nat} (h : D ≤ p) : Far w D [p] := fun s hs => .inl (by simp at hs; subst hs; exact h)
theorem far_pr {w : World} {D p r : Nat} {cs : List Value} (h : D ≤ p) (hr : Blk w r 101 cs) : Far w D [p, r] := fun s hs => by
  rcases List.mem_cons.1 hs with rfl | hs
  · exact .inl h
  · have : s = r := by simpa using hs
    subst this
    exact .inr ⟨101, cs, hr, by decide, by decide, by decide⟩
/-- The bytes that headers take, bounded. -/
def hdrsLen (hs : List (NB × NB)) : Nat := (hs.flatMap hdrB).length
theorem hdrsLen_take (hs : List (NB × NB)) (k : Nat) (h : k < hs.length) : hdrsLen (hs.take (k + 1)) = hdrsLen (hs.take k) + (hdrB hs[k]).length := by
  unfold hdrsLen
  rw [List.take_succ_eq_append_getElem h, List.flatMap_append]
  simp
theorem hdrsLen_le (hs : List (NB × NB)) (k : Nat) : hdrsLen (hs.take k) ≤ hdrsLen hs := by
  unfold hdrsLen
  have e : hs.flatMap hdrB = (hs.take k).flatMap hdrB ++ (hs.drop k).flatMap hdrB := by rw [← List.flatMap_append, List.take_append_drop]
  rw [e]
  simp
/-- A record that is spoken of: no part of it is great. -/
def RecFits (attr tm od : Int) (ko vo : NB) (hs : List (NB × NB)) : Prop :=
  -128 ≤ attr ∧ attr ≤ 127 ∧ -1099511627776 ≤ tm ∧ tm ≤ 1099511627776 ∧ -9223372036854775808 ≤ od ∧ od ≤ 9223372036854775807 ∧ ol ko ≤ 300 ∧ ol vo ≤ 300 ∧ hs.length ≤ 6 ∧ ∀ x ∈ hs, ol x.1 ≤ 60 ∧ ol x.2 ≤ 60
theorem vBytes_le (o : NB) (h : ol o ≤ 300) : (vBytes o).length ≤ 310 := by
  cases o with
  | none =>
    have := vb_le (x := -1) (by omega) (by omega)
    simpa [vBytes] using Nat.le_trans this (by omega)
  | some l =>
    have h' : l.length ≤ 300 := h
    have := vb_le (x := l.length) (by omega) (by omega)
    simp [vBytes]
    omega
theorem hdrB_le (x : NB × NB) (h : ol x.1 ≤ 60 ∧ ol x.2 ≤ 60) : (hdrB x).length ≤ 620 := by
  have h1 := vBytes_le x.1 (by omega)
  have h2 := vBytes_le x.2 (by omega)
  simp [hdrB]
  omega
theorem hdrsLen_fits (hs : List (NB × NB)) (h : ∀ x ∈ hs, ol x.1 ≤ 60 ∧ ol x.2 ≤ 60) : hdrsLen hs ≤ 620 * hs.length := by
  induction hs with
  | nil => simp [hdrsLen]
  | cons x l ih =>
    have h1 := hdrB_le x (h x (by simp))
    have h2 := ih (fun y hy => h y (by simp [hy]))
    have e : hdrsLen (x :: l) = (hdrB x).length + hdrsLen l := by simp [hdrsLen]
    rw [e]
    simp only [List.length_cons]
    omega
theorem recBody_length (attr tm od : Int) (ko vo : NB) (hs : List (NB × NB)) : (recBody attr tm od ko vo hs).length = 1 + (vb tm).length + (vb od).length + (vBytes ko).length + (vBytes vo).length + (vb hs.length).length + hdrsLen hs := by
  simp [recBody, hdrsLen]
  omega
theorem recBody_le {attr tm od : Int} {ko vo : NB} {hs : List (NB × NB)} (h : RecFits attr tm od ko vo hs) : (recBody attr tm od ko vo hs).length ≤ 5000 := by
  obtain ⟨h1, h2, h3, h4, h5, h6, h7, h8, h9, h10⟩ := h
  have a1 := vb_le (x := tm) (by omega) (by omega)
  have a2 := vb_le h5 h6
  have a3 := vBytes_le ko h7
  have a4 := vBytes_le vo h8
  have a5 := vb_le (x := (hs.length : Int)) (by omega) (by omega)
  have a6 := hdrsLen_fits hs h10
  rw [recBody_length]
  omega

set_option maxHeartbeats 4000000 in
theorem e133p {B : Nat} (p n D r : Nat) (attr tm od so0 m : Int) (ko vo : NB) (hs : List (NB × NB)) (stk : List Value) (w : World) (h : PE B w p n stk) (hn : n ≤ 200000) (hstk : stk.length ≤ 100)
    (hR : RecAt w D r attr (tm * 1000000) od ko vo hs so0 m) (hF : RecFits attr tm od ko vo hs) (hm0 : -9223372036854775808 ≤ m) (hm1 : m ≤ 9223372036854775807) (hDp : D ≤ p) (hrD : r < D) (hBD : B = D) :
    Calls Tryz.prog 133 #[.pointer (some ⟨r, 0, none⟩), .iface 175 (.pointer (some ⟨p, 0, none⟩))] w fun e w' => e = .returned .nilIface ∧
      PE B w' p (n + (recBytes attr tm od ko vo hs).length) stk ∧ RecAt w' D r attr (tm * 1000000) od ko vo hs n (recBody attr tm od ko vo hs).length ∧ Kept B [p, r] w w' := by
  have hbl := recBody_le hF
  have hvm := vb_le hm0 hm1
  have hpr : p ≠ r := by omega
  have HF := Lib.hid hF
  obtain ⟨hv, kv, vv, hrb, hH, hK, hV⟩ := hR
  obtain ⟨hBp, sv, hp, hown⟩ := h
  have h0 := hrb.cell 0
  simp at h0
  have HH := Lib.hid (And.intro hp (And.intro hown (And.intro hrb (And.intro hH (And.intro hK hV)))))
  have hrl := hrb.lt
  have HB := Lib.hid hBD
  clear hF hp hown hrb hH hK hV h0 hBD
  go_enter Tryz.func133, Tryz.ntmps133
  go_wp2_with fail
  refine wp_region_still_tail 8 (by kernel_rfl) (by kernel_rfl) ?_
  show wpStill _ _ (World.drew _) (fun a' => wpList _ _ _ _ _ (World.drew _)) _ _
  simp only [List.take_succ_cons, List.take_zero, List.drop_succ_cons, List.drop_zero]
  repeat still_step
  refine wpStill_nil ?_
  go_wp2_with fail
  refine (push185_253 p n r 6 101 _ (.int .i64 so0) m stk sv _ hBp (by exact HH.out.1.drew) (by exact HH.out.2.1.drew) (by omega) (by exact HH.out.2.2.1.drew) (by decide) (by decide) rfl rfl hm0 hm1 (by omega)).mono ?_
  rintro e w1 ⟨rfl, sv1, hp1, hown1, hr1, hk1⟩
  replace hk1 := Kept.undrew hk1
  have hp1' : PE B w1 p (n + (vb m).length) (stk ++ [Value.iface 253 (.pointer (some ⟨r, 6, none⟩))]) := ⟨hBp, sv1, by exact_mod_cast hp1, hown1⟩
  have hS1 : Far w D [p, r] := far_pr hDp HH.out.2.2.1
  have hR1 : RecAt w1 D r attr (tm * 1000000) od ko vo hs n m := by
    obtain ⟨_, _, _, hH, hK, hV⟩ := HH.out
    exact ⟨hv, kv, vv, hr1, hH.kept hk1 hS1, hK.kept hk1 hS1.bytes, hV.kept hk1 hS1.bytes⟩
  have H1 := Lib.hid (And.intro hp1' (And.intro hR1 hk1))
  clear hp1 hp1' hown1 hr1 hk1 hR1 hS1
  obtain ⟨f1, f2, f3, f4, f5, f6, f7, f8, f9, f10⟩ := HF.out
  have hbl2 := recBody_length attr tm od ko vo hs
  have a1 := vb_le (x := tm) (by omega) (by omega)
  have a2 := vb_le f5 f6
  have a3 := vBytes_le ko f7
  have a4 := vBytes_le vo f8
  have a5 := vb_le (x := (hs.length : Int)) (by omega) (by omega)
  have a6 := hdrsLen_fits hs f10
  have HL := Lib.hid hbl2
  clear hbl2
  -- region with slot 1
  obtain ⟨hv2, kv2, vv2, hrb2, hH2, hK2, hV2⟩ := H1.out.2.1
  have hc2 := hrb2.cell 1
  simp at hc2
  have HR2 := Lib.hid (And.intro hH2 (And.intro hK2 hV2))
  clear hrb2 hH2 hK2 hV2
  go_wp2_with fail
  refine wp_region_still_tail 8 (by kernel_rfl) (by kernel_rfl) ?_
  show wpStill _ _ (World.drew _) (fun a' => wpList _ _ _ _ _ (World.drew _)) _ _
  simp only [List.take_succ_cons, List.take_zero, List.drop_succ_cons, List.drop_zero]
  repeat still_step
  refine wpStill_nil ?_
  go_wp2_with fail
  refine (p192 p _ attr _ _ (by exact H1.out.1) (by omega)).mono ?_
  rintro e w2 ⟨rfl, hp2, hk2⟩
  replace hk2 := Kept.undrew hk2
  have H2 := Lib.hid (And.intro hp2 (And.intro (H1.out.2.1.kept hk2 (far_p hDp) (by simpa using Ne.symm hpr)) (H1.out.2.2.trans hk2 (fun x hx => .inl hx) (fun x hx => .inl (by simp at hx ⊢; exact .inl hx)))))
  clear hp2 hk2 hc2
  -- region with slot 2
  obtain ⟨hv3, kv3, vv3, hrb3, hH3, hK3, hV3⟩ := H2.out.2.1
  have hc3 := hrb3.cell 2
  simp at hc3
  have HR3 := Lib.hid (And.intro hH3 (And.intro hK3 hV3))
  clear hrb3 hH3 hK3 hV3
  have ht1 : Int.tdiv (tm * 1000000) 1000000 = tm := Int.mul_tdiv_cancel _ (by decide)
  have ht2 : IntKind.i64.wrap tm = tm := IntWalk.i64_in _ (by omega)
  go_wp2_with fail
  refine wp_region_still_tail 9 (by kernel_rfl) (by kernel_rfl) ?_
  show wpStill _ _ (World.drew _) (fun a' => wpList _ _ _ _ _ (World.drew _)) _ _
  simp only [List.take_succ_cons, List.take_zero, List.drop_succ_cons, List.drop_zero]
  repeat still_step
  refine wpStill_nil ?_
  go_wp2_with fail
  refine (p194 p _ tm _ _ (by exact H2.out.1) (by omega) (by omega) (by omega)).mono ?_
  rintro e w3 ⟨rfl, hp3, hk3⟩
  replace hk3 := Kept.undrew hk3
  have H3 := Lib.hid (And.intro hp3 (And.intro (H2.out.2.1.kept hk3 (far_p hDp) (by simpa using Ne.symm hpr)) (H2.out.2.2.trans hk3 (fun x hx => .inl hx) (fun x hx => .inl (by simp at hx ⊢; exact .inl hx)))))
  clear hp3 hk3 hc3 ht1 ht2
  -- region with slot 3
  obtain ⟨hv4, kv4, vv4, hrb4, hH4, hK4, hV4⟩ := H3.out.2.1
  have hc4 := hrb4.cell 3
  simp at hc4
  have HR4 := Lib.hid (And.intro hH4 (And.intro hK4 hV4))
  clear hrb4 hH4 hK4 hV4
  go_wp2_with fail
  refine wp_region_still_tail 8 (by kernel_rfl) (by kernel_rfl) ?_
  show wpStill _ _ (World.drew _) (fun a' => wpList _ _ _ _ _ (World.drew _)) _ _
  simp only [List.take_succ_cons, List.take_zero, List.drop_succ_cons, List.drop_zero]
  repeat still_step
  refine wpStill_nil ?_
  go_wp2_with fail
  refine (p194 p _ od _ _ (by exact H3.out.1) (by omega) f5 f6).mono ?_
  rintro e w4 ⟨rfl, hp4, hk4⟩
  replace hk4 := Kept.undrew hk4
  have H4 := Lib.hid (And.intro hp4 (And.intro (H3.out.2.1.kept hk4 (far_p hDp) (by simpa using Ne.symm hpr)) (H3.out.2.2.trans hk4 (fun x hx => .inl hx) (fun x hx => .inl (by simp at hx ⊢; exact .inl hx)))))
  clear hp4 hk4 hc4
  -- region with slot 4
  obtain ⟨hv5, kv5, vv5, hrb5, hH5, hK5, hV5⟩ := H4.out.2.1
  have hc5 := hrb5.cell 4
  simp at hc5
  have HR5 := Lib.hid (And.intro hH5 (And.intro hK5 hV5))
  clear hrb5 hH5 hK5 hV5
  go_wp2_with fail
  refine wp_region_still_tail 8 (by kernel_rfl) (by kernel_rfl) ?_
  show wpStill _ _ (World.drew _) (fun a' => wpList _ _ _ _ _ (World.drew _)) _ _
  simp only [List.take_succ_cons, List.take_zero, List.drop_succ_cons, List.drop_zero]
  repeat still_step
  refine wpStill_nil ?_
  go_wp2_with fail
  refine (p195 p _ kv5 ko _ _ (by exact H4.out.1) (by omega) HR5.out.2.1.sl (by omega)).mono ?_
  rintro e w5 ⟨rfl, hp5, hk5⟩
  replace hk5 := Kept.undrew hk5
  have H5 := Lib.hid (And.intro hp5 (And.intro (H4.out.2.1.kept hk5 (far_p hDp) (by simpa using Ne.symm hpr)) (H4.out.2.2.trans hk5 (fun x hx => .inl hx) (fun x hx => .inl (by simp at hx ⊢; exact .inl hx)))))
  clear hp5 hk5 hc5
  -- region with slot 5
  obtain ⟨hv6, kv6, vv6, hrb6, hH6, hK6, hV6⟩ := H5.out.2.1
  have hc6 := hrb6.cell 5
  simp at hc6
  have HR6 := Lib.hid (And.intro hH6 (And.intro hK6 hV6))
  clear hrb6 hH6 hK6 hV6
  go_wp2_with fail
  refine wp_region_still_tail 8 (by kernel_rfl) (by kernel_rfl) ?_
  show wpStill _ _ (World.drew _) (fun a' => wpList _ _ _ _ _ (World.drew _)) _ _
  simp only [List.take_succ_cons, List.take_zero, List.drop_succ_cons, List.drop_zero]
  repeat still_step
  refine wpStill_nil ?_
  go_wp2_with fail
  refine (p195 p _ vv6 vo _ _ (by exact H5.out.1) (by omega) HR6.out.2.2.sl (by omega)).mono ?_
  rintro e w6 ⟨rfl, hp6, hk6⟩
  replace hk6 := Kept.undrew hk6
  have H6 := Lib.hid (And.intro hp6 (And.intro (H5.out.2.1.kept hk6 (far_p hDp) (by simpa using Ne.symm hpr)) (H5.out.2.2.trans hk6 (fun x hx => .inl hx) (fun x hx => .inl (by simp at hx ⊢; exact .inl hx)))))
  clear hp6 hk6 hc6
  obtain ⟨hv7, kv7, vv7, hrb7, hH7, hK7, hV7⟩ := H6.out.2.1
  have hc7 := hrb7.cell 0
  simp at hc7
  have HH7 := Lib.hid hH7
  obtain ⟨A7, cap7, rfl, _⟩ := hH7
  clear hrb7 hK7 hV7
  go_wp2_with fail
  refine wp_region_still_tail 9 (by kernel_rfl) (by kernel_rfl) ?_
  show wpStill _ _ (World.drew _) (fun a' => wpList _ _ _ _ _ (World.drew _)) _ _
  simp only [List.take_succ_cons, List.take_zero, List.drop_succ_cons, List.drop_zero]
  repeat still_step
  refine wpStill_nil ?_
  go_wp2_with fail
  refine (p194 p _ (hs.length : Int) _ _ (by exact H6.out.1) (by omega) (by omega) (by omega)).mono ?_
  rintro e w7 ⟨rfl, hp7, hk7⟩
  replace hk7 := Kept.undrew hk7
  have H7 := Lib.hid (And.intro hp7 (And.intro (H6.out.2.1.kept hk7 (far_p hDp) (by simpa using Ne.symm hpr)) (H6.out.2.2.trans hk7 (fun x hx => .inl hx) (fun x hx => .inl (by simp at hx ⊢; exact .inl hx)))))
  clear hp7 hk7 hc7
  obtain ⟨hv8, kv8, vv8, hrb8, hH8, hK8, hV8⟩ := H7.out.2.1
  have hc8 := hrb8.cell 0
  simp at hc8
  obtain ⟨A8, cap8, rfl, hHH8⟩ := hH8
  have HH8 := Lib.hid (And.intro hrb8 (And.intro hHH8 (And.intro hK8 hV8)))
  clear hrb8 hHH8 hK8 hV8
  have hn7 : n + (vb m).length + 1 + (vb tm).length + (vb od).length + (vBytes ko).length + (vBytes vo).length + (vb (hs.length : Int)).length ≤ 300000 := by omega
  have hH8' : HdrsAt w7 D (.slice A8 hs.length cap8) hs := ⟨A8, cap8, rfl, HH8.out.2.1⟩
  have H8 := Lib.hid (And.intro H7.out.1 (And.intro H7.out.2.1 (And.intro H7.out.2.2 hH8')))
  clear hH8' H1 H2 H3 H4 H5 H6 H7 HH8 HH7 HR2 HR3 HR4 HR5 HR6
  generalize hnv : n + (vb m).length + 1 + (vb tm).length + (vb od).length + (vBytes ko).length + (vBytes vo).length + (vb (hs.length : Int)).length = n7 at H8 hn7
  have HN7 := Lib.hid hnv
  clear hnv
  go_wp2_with fail
  go_loopw [86] (fun i wr => ∃ k : Nat, k ≤ hs.length ∧ i = .int .i64 k ∧ Hid (PE B wr p (n7 + hdrsLen (hs.take k)) (stk ++ [Value.iface 253 (.pointer (some ⟨r, 6, none⟩))]) ∧ RecAt wr D r attr (tm * 1000000) od ko vo hs n m ∧ Kept B [p, r] w wr ∧ HdrsAt wr D (.slice A8 hs.length cap8) hs)) (fun i _ => hs.length - (intOf i).toNat)
  case atStart => exact ⟨0, by omega, rfl, H8.out⟩
  case round =>
    obtain ⟨k, hk, rfl, HS⟩ := hrel
    by_cases hlt : k < hs.length
    · obtain ⟨A', c', hAe, hh⟩ := HS.out.2.2.2
      obtain ⟨g, C, fz, rfl, hgD, hgb, hall⟩ := hh (by intro e; rw [e] at hlt; simp at hlt)
      obtain ⟨b, bk, bv, hbc, hbD, hbb, hbk, hbv⟩ := hall k hlt
      injection hAe with hA1 hA2 hA3
      subst hA1
      clear hA2 hA3
      have HX := Lib.hid (And.intro hbb (And.intro hbk hbv))
      have hx60 := f10 hs[k] (by simp)
      have hxl := hdrB_le hs[k] hx60
      have hvk := vBytes_le hs[k].1 (by omega)
      have htk := hdrsLen_le hs k
      have hst := Lib.hid (hdrsLen_take hs k hlt)
      clear hgb hall hbb hbk hbv hh
      go_wp2_with fail
      refine (h135p p _ D b bk bv hs[k] _ _ (by exact HS.out.1) (by omega) (by exact HX.out.1) (by omega) (by exact HX.out.2.1) (by exact HX.out.2.2) hDp (by omega) (by omega) (by omega)).mono ?_
      rintro e wn ⟨rfl, hpn, hkn⟩
      have HN := Lib.hid (And.intro hpn (And.intro (HS.out.2.1.kept hkn (far_p hDp) (by simpa using Ne.symm hpr)) (And.intro (HS.out.2.2.1.trans hkn (fun x hx => .inl hx) (fun x hx => .inl (by simp at hx ⊢; exact .inl hx))) (HS.out.2.2.2.kept hkn (far_p hDp)))))
      clear hpn hkn hbc
      go_wp2
      go_roundw
      case rel =>
        have h9 := HN.out
        rw [Nat.add_assoc, ← hst.out] at h9
        first
          | exact ⟨k + 1, by omega, by go_num, h9⟩
          | ((repeat apply Exists.intro); exact ⟨⟨k + 1, by omega, by go_num, h9⟩, rfl⟩)
      case measure => simp [intOf]; omega
    · obtain rfl : k = hs.length := by omega
      have hRr := HS.out.2.1
      obtain ⟨hvr, kvr, vvr, hrbr, hHr, hKr, hVr⟩ := hRr
      obtain ⟨hBp9, sv9, hp9, hown9⟩ := HS.out.1
      rw [List.take_length] at hp9
      have hn9 : n7 + hdrsLen hs ≤ 400000 := by omega
      have hp9' : Blk wr p 178 [sv9, .int .i64 ((n7 + hdrsLen hs : Nat) : Int)] := hp9
      have H9 := Lib.hid (And.intro hp9' (And.intro hown9 hrbr))
      clear hp9 hp9' hown9 hrbr hHr hKr hVr
      go_wp2_with fail
      refine (pop184_253 p (n7 + hdrsLen hs) r 6 101 _ n m stk sv9 _ hBp9 (by exact H9.out.1) (by exact H9.out.2.1) (by omega) (by omega) (by exact H9.out.2.2) (by decide) (by decide) rfl rfl hm0 hm1 (by omega)).mono ?_
      rintro e w9 ⟨rfl, sv10, hp10, hown10, hr10, hk10⟩
      have eX : ((n7 + hdrsLen hs : Nat) : Int) - n - ((vb m).length : Int) = ((recBody attr tm od ko vo hs).length : Int) := by
        have h1 := HN7.out
        have h2 := HL.out
        omega
      rw [eX] at hp10 hr10
      have eN : ((n7 + hdrsLen hs : Nat) : Int) + (((vb ((recBody attr tm od ko vo hs).length : Int)).length : Int) - ((vb m).length : Int)) = ((n + (recBytes attr tm od ko vo hs).length : Nat) : Int) := by
        have h1 := HN7.out
        have h2 := HL.out
        have h3 : (recBytes attr tm od ko vo hs).length = (vb ((recBody attr tm od ko vo hs).length : Int)).length + (recBody attr tm od ko vo hs).length := by simp [recBytes]
        omega
      rw [eN] at hp10
      have hS9 : Far wr D [p, r] := far_pr hDp H9.out.2.2
      have hR10 : RecAt w9 D r attr (tm * 1000000) od ko vo hs n (recBody attr tm od ko vo hs).length := by
        obtain ⟨hv', kv', vv', hb', hH', hK', hV'⟩ := HS.out.2.1
        have hbe := H9.out.2.2
        unfold Blk at hb' hbe
        rw [hb'] at hbe
        injection hbe with hbe
        injection hbe with hbe
        have hl := congrArg Array.toList hbe
        simp at hl
        obtain ⟨rfl, rfl, rfl⟩ := hl
        exact ⟨_, _, _, hr10, hH'.kept hk10 hS9, hK'.kept hk10 hS9.bytes, hV'.kept hk10 hS9.bytes⟩
      have HFin := Lib.hid (And.intro (show PE B w9 p (n + (recBytes attr tm od ko vo hs).length) stk from ⟨hBp9, sv10, hp10, hown10⟩) (And.intro hR10 (HS.out.2.2.1.trans hk10 (fun x hx => .inl hx) (fun x hx => .inl hx))))
      clear hp10 hown10 hr10 hk10 hR10 eX eN hS9
      go_wp2
      go_ret
      exact ⟨rfl, HFin.out⟩
end Go.Proofs.YtmiflkccfieefaaGreatDoor
