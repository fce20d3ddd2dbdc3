/-
  Versions are parsed and told: impl.VersionParse.
-/
import Derived.Test.YtmiflkccfieefaaGreatDoorVpa
import Derived.Test.YtmiflkccfieefaaGreatDoorSafe
namespace Go.Proofs.YtmiflkccfieefaaGreatDoor
open Go.ChangeShapes Go.WideShapes Go.ChangeAt Go.RowKit
set_option maxRecDepth 100000
set_option linter.unusedVariables false
set_option linter.unusedSimpArgs false

def vd (a d : Nat) : Nat := if 0 < a then 0 else d
theorem vd_le {a d : Nat} (h : d ≤ 999) : vd a d ≤ 999 := by unfold vd; split <;> omega
theorem vnums_vd (a b c d : Nat) : vnums a b c (vd a d) = vnums a b c d := by unfold vnums vd; split <;> rfl
theorem bs_list (l : List UInt8) : (bs l).data.toList = l := by simp [bs]
theorem bs_get (l : List UInt8) (i : Nat) (h : i < (bs l).size) (h' : i < l.length) : (bs l)[i] = l[i] := rfl
theorem dotted_len (a b c d : Nat) (ha : a ≤ 999) (hb : b ≤ 999) (hc : c ≤ 999) (hd : d ≤ 999) : 5 ≤ (dotted (vnums a b c d)).length ∧ (dotted (vnums a b c d)).length ≤ 15 := by
  have := dec_len ha
  have := dec_len hb
  have := dec_len hc
  have := dec_len hd
  unfold vnums
  split
  · simp [dotted]; omega
  · simp [dotted]; omega
/-- The text of a version, made opaque. -/
structure VT (s : ByteArray) (a b c d : Nat) : Prop where
  ha : a ≤ 999
  hb : b ≤ 999
  hc : c ≤ 999
  hd : d ≤ 999
  hs : s = bs (dotted (vnums a b c d))
theorem VT.parse {s : ByteArray} {a b c d : Nat} (h : VT s a b c d) (w : World) :
    Calls Tryz.prog 75 #[.string s] w fun e w' => e = .returned (.tuple #[.agg #[.int .u64 a, .int .u64 b, .int .u64 c, .int .u64 (vd a d : Nat)], .nilIface]) ∧ Below w.heap.size w w' := by
  obtain ⟨ha, hb, hc, hd, rfl⟩ := h
  have hl := dotted_len a b c d ha hb hc hd
  have hsz := bs_size (dotted (vnums a b c d))
  have hdo : ∃ n r, vnums a b c d = n :: r ∧ n ≤ 999 ∧ ∀ x ∈ r, x ≤ 999 := by
    unfold vnums
    split
    · exact ⟨a, [b, c], rfl, ha, fun x hx => by simp at hx; omega⟩
    · exact ⟨a, [b, c, d], rfl, ha, fun x hx => by simp at hx; omega⟩
  obtain ⟨n, r, hv, hn, hr⟩ := hdo
  obtain ⟨k1, dd, hdd, k2, k3⟩ := dotted_ok r n [] hn hr
  rw [← hv] at k1 k2 k3
  simp only [List.nil_append] at k3
  refine f75 (bs (dotted (vnums a b c d))) 0 0 0 (vnums a b c d) w (by rw [bs_list]; exact k1) (by rw [hsz]; omega) (by rw [hsz]; omega) (by rw [bs_list, k2]; exact hdd) (by rw [bs_list]; exact k3) a b c (vd a d) ?_
  by_cases h0 : 0 < a
  · right
    obtain ⟨ch, rr, e, hne⟩ := dec_head ha h0
    have e2 : vnums a b c d = [a, b, c] := by simp [vnums, h0]
    refine ⟨?_, e2, by simp [vd, h0]⟩
    have e3 : (bs (dotted (vnums a b c d)))[0]'(by rw [hsz]; omega) = ch := by
      refine (bs_get _ 0 (by rw [hsz]; omega) (by omega)).trans ?_
      simp [e2, dotted, e]
    rw [e3]
    intro h48
    exact hne (UInt8.toNat_inj.1 h48)
  · left
    obtain rfl : a = 0 := by omega
    have e2 : vnums 0 b c d = [0, b, c, d] := by simp [vnums]
    refine ⟨?_, ?_, by rw [e2]; simp [vd], rfl⟩
    · have e3 : (bs (dotted (vnums 0 b c d)))[0]'(by rw [hsz]; omega) = 48 := by
        refine (bs_get _ 0 (by rw [hsz]; omega) (by omega)).trans ?_
        simp [e2, dotted, dec_zero]
      rw [e3]
      rfl
    · have e3 : (bs (dotted (vnums 0 b c d)))[1]'(by rw [hsz]; omega) = 46 := by
        refine (bs_get _ 1 (by rw [hsz]; omega) (by omega)).trans ?_
        simp [e2, dotted, dec_zero]
      rw [e3]
      rfl
theorem VT.tell {s : ByteArray} {a b c d : Nat} (h : VT s a b c d) (w : World) (ht : Pow w) :
    Calls Tryz.prog 76 #[.agg #[.int .u64 a, .int .u64 b, .int .u64 c, .int .u64 (vd a d : Nat)]] w fun e w' => e = .returned (.string s) ∧ Below w.heap.size w w' := by
  have hx := f76 a b c (vd a d) w h.ha h.hb h.hc (vd_le h.hd) ht
  rw [vnums_vd, ← h.hs] at hx
  exact hx
theorem notStack {t : TypeId} (h : t = 9 ∨ t = 4 ∨ t = 151) : ¬ stackT t := by
  rintro (h5 | h5) <;> rw [h5] at h <;> rcases h with h | h | h <;> exact absurd h (by decide)
set_option maxHeartbeats 2000000 in
theorem f74 (p0 p1 p2 : Nat) (s : ByteArray) (a b c d : Nat) (u1 u2 : Value) (W : World) (hv : VT s a b c d) (ht : Pow W) (h0 : W.cell? ⟨p0, 0, none⟩ = some (.string s)) (h1 : Blk W p1 9 [u1]) (h2 : Blk W p2 4 [u2]) :
    Calls Tryz.prog 74 #[.pointer (some ⟨p0, 0, none⟩), .pointer (some ⟨p1, 0, none⟩), .pointer (some ⟨p2, 0, none⟩)] W fun e w' => e = .returned (.tuple #[]) ∧
      Blk w' p1 9 [.string s] ∧ Blk w' p2 4 [.bool true] ∧ Kept W.heap.size [p1, p2] W w' := by
  have HV := Lib.hid (And.intro hv ht)
  have H := Lib.hid (And.intro h1 h2)
  have h12 : p1 ≠ p2 := h1.ne_ h2 (by decide)
  have hl1 := ht.lt
  clear h1 h2 hv ht
  go_enter Tryz.func74, Tryz.ntmps74
  go_wp2_with (go_at_call 75; refine (HV.out.1.parse _).mono ?_; rintro e w1 ⟨rfl, hb1⟩)
  have hbw : Below W.heap.size W (w1.alloc (.cells #[.int .u64 a, .int .u64 b, .int .u64 c, .int .u64 (vd a d : Nat)] 151)).drew := (hb1.alloc hb1.size _).drew
  have HB := Lib.hid hbw
  clear hb1 hbw
  go_region_with (go_at_call 76; refine (HV.out.1.tell _ (HV.out.2.below HB.out hl1)).mono ?_; rintro e w2 ⟨rfl, hb2⟩; have hbF := HB.out.trans (hb2.mono HB.out.size); have hp1 := H.out.1.below hbF H.out.1.lt; have hp2 := H.out.2.below hbF H.out.2.lt; have c1 := hp1.cell 0; have z1 := hp1.frozen 0; have c2 := hp2.cell 0; have z2 := hp2.frozen 0; simp only [List.getElem?_cons_zero] at c1 c2; have HR := Lib.hid (And.intro hbF (And.intro hp1 hp2)); clear hb2 hbF hp1 hp2)
  all_goals
    go_wp2
    go_end0
    have hk := Kept.of_below (B := W.heap.size) HR.out.1 [p1, p2]
    refine ⟨rfl, ?_, ?_, ?_⟩
    · first
        | exact (HR.out.2.1.set_ 0 _).far (p := ⟨p2, 0, none⟩) h12 _
        | exact (HR.out.2.1.far (p := ⟨p2, 0, none⟩) h12 _).set_ 0 _
    · first
        | exact (HR.out.2.2.far (p := ⟨p1, 0, none⟩) (Ne.symm h12) _).set_ 0 _
        | exact (HR.out.2.2.set_ 0 _).far (p := ⟨p1, 0, none⟩) (Ne.symm h12) _
    · first
        | exact (hk.setCell (p := ⟨p1, 0, none⟩) (.inl (by simp)) _).setCell (p := ⟨p2, 0, none⟩) (.inl (by simp)) _
        | exact (hk.setCell (p := ⟨p2, 0, none⟩) (.inl (by simp)) _).setCell (p := ⟨p1, 0, none⟩) (.inl (by simp)) _
end Go.Proofs.YtmiflkccfieefaaGreatDoor
