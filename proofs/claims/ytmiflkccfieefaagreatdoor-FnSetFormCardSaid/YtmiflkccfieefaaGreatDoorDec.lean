/-
  The decoder's methods: what each reads, and where it stands behind.
-/
import Derived.Test.YtmiflkccfieefaaGreatDoorHdr
import Derived.Test.YtmiflkccfieefaaGreatDoorVdec
import Derived.Lib.EndianMore
namespace Go.Proofs.YtmiflkccfieefaaGreatDoor
open Go.ChangeShapes Go.WideShapes Go.ChangeAt Go.RowKit
set_option maxRecDepth 100000
set_option linter.unusedVariables false
set_option linter.unusedSimpArgs false

/-- The bytes l lie in block g, a row of bytes of capacity c. -/
def RawAt (w : World) (g c : Nat) (l : List UInt8) : Prop := ∃ C f, w.heap[g]? = some (.cells C 5 f) ∧ l.length ≤ c ∧ ∀ j u, (Lib.byteCells l)[j]? = some u → w.cell? ⟨g, j, none⟩ = some u
theorem RawAt.ne {w : World} {g c : Nat} {l : List UInt8} (h : RawAt w g c l) {p t : Nat} {cs : List Value} (hp : Blk w p t cs) (ht : t ≠ 5) : g ≠ p := by
  rintro rfl
  obtain ⟨C, f, h1, _⟩ := h
  unfold Blk at hp
  rw [hp] at h1
  injection h1 with h1
  injection h1 with _ h1
  exact ht h1
theorem RawAt.lt {w : World} {g c : Nat} {l : List UInt8} (h : RawAt w g c l) : g < w.heap.size := by
  obtain ⟨C, f, h1, _⟩ := h
  exact (Array.getElem?_eq_some_iff.1 h1).1
theorem RawAt.block {w w' : World} {g c : Nat} {l : List UInt8} (h : RawAt w g c l) (e : w'.heap[g]? = w.heap[g]?) : RawAt w' g c l := by
  obtain ⟨C, f, h1, h2, h3⟩ := h
  exact ⟨C, f, e.trans h1, h2, fun j u hj => (World.cell?_of_block (a := ⟨g, j, none⟩) e).trans (h3 j u hj)⟩
theorem RawAt.kept {B : Nat} {S : List Nat} {w w' : World} {g c : Nat} {l : List UInt8} (h : RawAt w g c l) (hk : Kept B S w w') (hS : g ∉ S) : RawAt w' g c l := by
  refine h.block (hk.block g h.lt hS (.inr fun c t f he => ?_))
  obtain ⟨C, f', h1, _⟩ := h
  rw [h1] at he
  injection he with he
  injection he with _ he
  subst he
  rintro (h5 | h5) <;> exact absurd h5 (by decide)
theorem RawAt.cell {w : World} {g c : Nat} {l : List UInt8} (h : RawAt w g c l) {j : Nat} (hj : j < l.length) : w.cell? ⟨g, j, none⟩ = some (.int .u8 (l[j]).toNat) := by
  obtain ⟨C, f, h1, h2, h3⟩ := h
  exact h3 j _ (by simp [Lib.byteCells, hj])
theorem RawAt.part {w : World} {g c : Nat} {pre m rest : List UInt8} (h : RawAt w g c (pre ++ (m ++ rest))) {D : Nat} (hD : g < D) (c' : Nat) : BytesAt w D (.slice (some ⟨g, pre.length, none⟩) m.length c') m := by
  obtain ⟨C, f, h1, h2, h3⟩ := h
  refine ⟨⟨g, pre.length, none⟩, c', C, f, rfl, hD, h1, fun j u hj => ?_⟩
  have hl : j < m.length := by
    have := (List.getElem?_eq_some_iff.1 hj).1
    simpa [Lib.byteCells] using this
  have h4 := h3 (pre.length + j) u (by
    rw [Lib.byteCells_append, Lib.byteCells_append, List.getElem?_append_right (by simp [Lib.byteCells]), List.getElem?_append_left (by simp [Lib.byteCells]; omega)]
    simpa [Lib.byteCells] using hj)
  have e : Addr.add ⟨g, pre.length, none⟩ j = ⟨g, pre.length + j, none⟩ := by
    unfold Addr.add
    split
    · rename_i h0
      subst h0
      rfl
    · rfl
  rw [e]
  exact h4

theorem RawAt.part2 {w : World} {g c : Nat} {pre m rest : List UInt8} (h : RawAt w g c (pre ++ (m ++ rest))) {D : Nat} (hD : g < D) (c' n : Nat) (hn : n = m.length) : BytesAt w D (.slice (some ⟨g, pre.length, none⟩) n c') m := by
  subst hn
  exact h.part hD c'

/-- The decoder at block p, over the bytes in block g: pre are read, rest is not; its stack is stk. -/
def RD (B : Nat) (w : World) (p g c : Nat) (pre rest : List UInt8) (stk : List Value) : Prop :=
  B ≤ p ∧ ∃ sv, Blk w p 174 [.slice (some ⟨g, 0, none⟩) (pre.length + rest.length) c, .int .i64 pre.length, sv] ∧ RawAt w g c (pre ++ rest) ∧ w.ownsRow B 314 1 sv stk.length stk
theorem RD.lt {B : Nat} {w : World} {p g c : Nat} {pre rest : List UInt8} {stk : List Value} (h : RD B w p g c pre rest stk) : p < w.heap.size := by
  obtain ⟨_, sv, h1, _⟩ := h
  exact h1.lt
theorem RD.base {B : Nat} {w : World} {p g c : Nat} {pre rest : List UInt8} {stk : List Value} (h : RD B w p g c pre rest stk) : B ≤ w.heap.size := Nat.le_trans h.1 (Nat.le_of_lt h.lt)
theorem RD.glt {B : Nat} {w : World} {p g c : Nat} {pre rest : List UInt8} {stk : List Value} (h : RD B w p g c pre rest stk) : g < w.heap.size := by
  obtain ⟨_, sv, h1, h2, _⟩ := h
  exact h2.lt
theorem RD.drew {B : Nat} {w : World} {p g c : Nat} {pre rest : List UInt8} {stk : List Value} (h : RD B w p g c pre rest stk) : RD B w.drew p g c pre rest stk := h
theorem RD.drewN {B : Nat} {w : World} {p g c : Nat} {pre rest : List UInt8} {stk : List Value} (h : RD B w p g c pre rest stk) (n : Nat) : RD B (w.drewN n) p g c pre rest stk := h
/-- What is written elsewhere leaves the decoder. -/
theorem RD.kept {B : Nat} {w w' : World} {p g c : Nat} {pre rest : List UInt8} {stk : List Value} {S : List Nat} (h : RD B w p g c pre rest stk) (hk : Kept w.heap.size S w w') (hS : ∀ s ∈ S, ∃ t cs, Blk w s t cs ∧ t ≠ 5 ∧ t ≠ 174 ∧ t ≠ 314) : RD B w' p g c pre rest stk := by
  obtain ⟨h1, sv, h2, h3, h4⟩ := h
  refine ⟨h1, sv, h2.kept hk (fun hm => ?_) (.inl h2.lt), h3.kept hk (fun hm => ?_), own_kept h4 hk (fun x hx => ?_)⟩
  · obtain ⟨t, cs, hb, _, ht, _⟩ := hS p hm
    exact hb.ne_ h2 ht rfl
  · obtain ⟨t, cs, hb, ht, _⟩ := hS g hm
    exact h3.ne hb ht rfl
  · obtain ⟨t, cs, hb, _, _, ht⟩ := hS x hx
    exact own_ne h4 hb (Ne.symm ht)
/-- It goes on by d, whatever new memory was made before. -/
theorem RD.adv {B : Nat} {w w1 : World} {p g c : Nat} {pre d rest : List UInt8} {stk : List Value} (h : RD B w p g c pre (d ++ rest) stk) (hk : Kept w.heap.size [] w w1) :
    RD B (w1.setCell ⟨p, 1, none⟩ (.int .i64 (pre.length + d.length))) p g c (pre ++ d) rest stk ∧ Kept B [p] w (w1.setCell ⟨p, 1, none⟩ (.int .i64 (pre.length + d.length))) := by
  obtain ⟨h1, sv, h2, h3, h4⟩ := h
  have hgp := h3.ne h2 (by decide)
  have hk2 : Kept w.heap.size [p] w (w1.setCell ⟨p, 1, none⟩ (.int .i64 (pre.length + d.length))) := (hk.mono (Nat.le_refl _) (fun x hx => by cases hx)).setCell (p := ⟨p, 1, none⟩) (.inl (by simp)) _
  refine ⟨⟨h1, sv, ?_, ?_, own_kept h4 hk2 (fun x hx => ?_)⟩, hk2.mono (Nat.le_trans h1 (Nat.le_of_lt h2.lt)) (fun x hx => .inl hx)⟩
  · have h5 := (h2.kept hk (by simp) (.inl h2.lt)).set_ 1 (.int .i64 (pre.length + d.length))
    simpa [Nat.add_assoc] using h5
  · rw [List.append_assoc]
    exact h3.kept hk2 (by simpa using hgp)
  · have : x = p := by simpa using hx
    subst this
    exact own_ne h4 h2 (by decide)

theorem ret_i {k : IntKind} {a b : Int} (h : a = b) : Ending.returned (.int k a) = .returned (.int k b) := by rw [h]
theorem ret_i2 {k : IntKind} {a b : Int} {v : Value} (h : a = b) : Ending.returned (.tuple #[.int k a, v]) = .returned (.tuple #[.int k b, v]) := by rw [h]
theorem d178 {B : Nat} (p g c : Nat) (pre rest : List UInt8) (stk : List Value) (w : World) (h : RD B w p g c pre rest stk) (hl : pre.length + rest.length ≤ 1000000000) :
    Calls Tryz.prog 178 #[.pointer (some ⟨p, 0, none⟩)] w fun e w' => e = .returned (.int .i64 rest.length) ∧ ∃ n, w' = w.drewN n := by
  obtain ⟨_, sv, hp, _⟩ := h
  have h0 := hp.cell 0
  have h1 := hp.cell 1
  simp at h0 h1
  clear hp
  go_enter Tryz.func178, Tryz.ntmps178
  go_wp2
  go_quiet (fail)
  go_wp2
  go_ret
  exact ⟨ret_i (by omega), _, rfl⟩

theorem i8_byteOf {x : Int} (h0 : -128 ≤ x) (h1 : x ≤ 127) : IntKind.i8.wrap ((byteOf x).toNat : Int) = x := by
  rw [byteOf_toNat]
  simp [IntKind.wrap, IntKind.bits, IntKind.signed]
  omega
theorem d171 {B : Nat} (p g c : Nat) (x : Int) (pre rest : List UInt8) (stk : List Value) (w : World) (h : RD B w p g c pre ([byteOf x] ++ rest) stk) (hl : pre.length + rest.length ≤ 1000000) (hx0 : -128 ≤ x) (hx1 : x ≤ 127) :
    Calls Tryz.prog 171 #[.pointer (some ⟨p, 0, none⟩)] w fun e w' => e = .returned (.tuple #[.int .i8 x, .nilIface]) ∧ RD B w' p g c (pre ++ [byteOf x]) rest stk ∧ Kept B [p] w w' := by
  have H := Lib.hid h
  have hb := i8_byteOf hx0 hx1
  obtain ⟨_, sv, hp, hr, _⟩ := h
  have h0 := hp.cell 0
  have h1 := hp.cell 1
  have f1 := hp.frozen 1
  have hc := hr.cell (j := pre.length) (by simp)
  simp at h0 h1 hc
  have HB := Lib.hid hb
  clear hp hr hb
  go_enter Tryz.func171, Tryz.ntmps171
  go_wp2_with (go_at_call 178; refine (d178 p g c _ _ stk _ (by exact H.out) (by simp; omega)).mono ?_; rintro e w1 ⟨rfl, n, rfl⟩)
  go_quiet (fail)
  go_wp2
  go_ret2
  exact ⟨ret_i2 HB.out, H.out.adv (d := [byteOf x]) ((Kept.refl _ _ _).drewN _)⟩

theorem kept_below {w w' : World} {B : Nat} (h : Below w.heap.size w w') : Kept B [] w w' := Kept.of_below h []
theorem kept_drewn {w w' : World} {B n : Nat} (h : Below (w.drewN n).heap.size (w.drewN n) w') : Kept B [] w w' := ⟨h.os, h.tape, h.output, h.size, fun i hi _ _ => h.block i hi⟩
theorem i32_be {x : Int} (h0 : -2147483648 ≤ x) (h1 : x ≤ 2147483647) : wrap32 (((x % 4294967296).toNat : Nat) : Int) = x := by
  unfold wrap32
  omega
theorem i64_be {x : Int} (h0 : -9223372036854775808 ≤ x) (h1 : x ≤ 9223372036854775807) : wrap64 (((x % 18446744073709551616).toNat : Nat) : Int) = x := by
  unfold wrap64
  omega
theorem four {d : List UInt8} (h : d.length = 4) : ∃ a b c e, d = [a, b, c, e] := by
  match d, h with
  | [a, b, c, e], _ => exact ⟨a, b, c, e, rfl⟩
theorem eight {d : List UInt8} (h : d.length = 8) : ∃ a b c e f g i j, d = [a, b, c, e, f, g, i, j] := by
  match d, h with
  | [a, b, c, e, f, g, i, j], _ => exact ⟨a, b, c, e, f, g, i, j, rfl⟩
theorem get32 (g c : Nat) (pre d rest : List UInt8) (n : Nat) (w : World) (h : RawAt w g c (pre ++ (d ++ rest))) (hd : d.length = 4) (hn : 4 ≤ n) (c' : Nat) :
    Calls Tryz.prog 179 #[.agg #[], .slice (some ⟨g, pre.length, none⟩) n c'] w fun e w' => e = .returned (.int .u32 (Lib.beNat d)) ∧ Below w.heap.size w w' := by
  obtain ⟨b0, b1, b2, b3, rfl⟩ := four hd
  have e : ∀ j (hj : j < 4), w.cell? ⟨g, pre.length + j, none⟩ = some (.int .u8 (([b0, b1, b2, b3][j]'hj).toNat)) := fun j hj => by
    have h2 := h.cell (j := pre.length + j) (by simp; omega)
    rw [h2, List.getElem_append_right (by omega)]
    simp only [Nat.add_sub_cancel_left]
    rw [List.getElem_append_left (by simpa using hj)]
  exact Tryz.binary_BE_Uint32 g pre.length n c' b0 b1 b2 b3 w hn (e 0 (by omega)) (e 1 (by omega)) (e 2 (by omega)) (e 3 (by omega))
theorem get64 (g c : Nat) (pre d rest : List UInt8) (n : Nat) (w : World) (h : RawAt w g c (pre ++ (d ++ rest))) (hd : d.length = 8) (hn : 8 ≤ n) (c' : Nat) :
    Calls Tryz.prog 181 #[.agg #[], .slice (some ⟨g, pre.length, none⟩) n c'] w fun e w' => e = .returned (.int .u64 (Lib.beNat d)) ∧ Below w.heap.size w w' := by
  obtain ⟨b0, b1, b2, b3, b4, b5, b6, b7, rfl⟩ := eight hd
  have e : ∀ j (hj : j < 8), w.cell? ⟨g, pre.length + j, none⟩ = some (.int .u8 (([b0, b1, b2, b3, b4, b5, b6, b7][j]'hj).toNat)) := fun j hj => by
    have h2 := h.cell (j := pre.length + j) (by simp; omega)
    rw [h2, List.getElem_append_right (by omega)]
    simp only [Nat.add_sub_cancel_left]
    rw [List.getElem_append_left (by simpa using hj)]
  exact Tryz.binary_BE_Uint64 g pre.length n c' b0 b1 b2 b3 b4 b5 b6 b7 w hn (e 0 (by omega)) (e 1 (by omega)) (e 2 (by omega)) (e 3 (by omega)) (e 4 (by omega)) (e 5 (by omega)) (e 6 (by omega)) (e 7 (by omega))
theorem getvar (g c : Nat) (x : Int) (pre rest : List UInt8) (n : Nat) (w : World) (h : RawAt w g c (pre ++ (vb x ++ rest))) (hn : n = (vb x ++ rest).length) (c' : Nat) (h0 : -9223372036854775808 ≤ x) (h1 : x ≤ 9223372036854775807) :
    Calls Tryz.prog 182 #[.slice (some ⟨g, pre.length, none⟩) n c'] w fun e w' => e = .returned (.tuple #[.int .i64 x, .int .i64 (vb x).length]) ∧ w' = w := by
  refine (Tryz.binary_Varint g pre.length n c' (vb x ++ rest) w hn.symm fun j hj => ?_).mono ?_
  · have h2 := h.cell (j := pre.length + j) (by simp at hj ⊢; omega)
    rw [h2, List.getElem_append_right (by omega)]
    simp only [Nat.add_sub_cancel_left]
  · rintro e w' ⟨rfl, rfl⟩
    unfold vb
    rw [varint_back h0 h1]
    exact ⟨rfl, rfl⟩

theorem d169 {B : Nat} (p g c : Nat) (x : Int) (pre rest : List UInt8) (stk : List Value) (w : World) (h : RD B w p g c pre (Lib.beBytes 4 (x % 4294967296).toNat ++ rest) stk) (hl : pre.length + rest.length ≤ 1000000) (hx0 : -2147483648 ≤ x) (hx1 : x ≤ 2147483647) :
    Calls Tryz.prog 169 #[.pointer (some ⟨p, 0, none⟩)] w fun e w' => e = .returned (.tuple #[.int .i32 x, .nilIface]) ∧ RD B w' p g c (pre ++ Lib.beBytes 4 (x % 4294967296).toNat) rest stk ∧ Kept B [p] w w' := by
  have H := Lib.hid h
  have hb := i32_be hx0 hx1
  have hlen : (Lib.beBytes 4 (x % 4294967296).toNat).length = 4 := Lib.beBytes_length _ _
  have hval : Lib.beNat (Lib.beBytes 4 (x % 4294967296).toNat) = (x % 4294967296).toNat := Lib.beNat_beBytes _ _ (by omega)
  obtain ⟨_, sv, hp, hr, _⟩ := h
  have hcl := hr.choose_spec.choose_spec.2.1
  generalize hdd : Lib.beBytes 4 (x % 4294967296).toNat = d at *
  have h0 := hp.cell 0
  have h1 := hp.cell 1
  have f1 := hp.frozen 1
  simp at h0 h1 hcl
  have hplt := hp.lt
  have hne : ¬ c = pre.length := by omega
  have hN : pre.length + 4 ≤ pre.length + (d.length + rest.length) := by omega
  generalize pre.length + (d.length + rest.length) = N at h0 hN
  have hle : pre.length ≤ N := by omega
  have hcell : ∀ w1, Kept w.heap.size [] w w1 → w1.cell? ⟨p, 1, none⟩ = some (.int .i64 pre.length) ∧ w1.frozen? ⟨p, 1, none⟩ = false := fun w1 hk =>
    ⟨(World.cell?_of_block (hk.block p hplt (by simp) (.inl hplt))).trans h1, (World.frozen?_of_block (hk.block p hplt (by simp) (.inl hplt))).trans f1⟩
  have hge : ¬ ((d.length : Int) + (rest.length : Int) < 4) := by omega
  have HR := Lib.hid (And.intro hr (And.intro hlen (And.intro hval hb)))
  clear hp hr hb hlen hval hdd hcl
  go_enter Tryz.func169, Tryz.ntmps169
  go_wp2_with (go_at_call 178; refine (d178 p g c _ _ stk _ (by exact H.out) (by have := HR.out.2.1; simp; omega)).mono ?_; rintro e w1 ⟨rfl, n, rfl⟩)
  refine wp_region_still_tail 10 (by kernel_rfl) (by kernel_rfl) ?_
  show wpStill _ _ (World.drew _) (fun a' => wpList _ _ _ _ _ (World.drew _)) _ _
  simp only [List.take_succ_cons, List.take_zero, List.drop_succ_cons, List.drop_zero]
  repeat still_step
  refine wpStill_nil ?_
  go_wp2_with (go_at_call 179; refine (get32 g c pre d rest (N - pre.length) _ (by exact HR.out.1) HR.out.2.1 (by omega) _).mono ?_; rintro e w2 ⟨rfl, hb2⟩; have hk2 := kept_drewn (B := w.heap.size) hb2; obtain ⟨hc2, hf2⟩ := hcell _ hk2)
  go_wp2
  go_ret2
  have hF := H.out.adv hk2
  rw [HR.out.2.1] at hF
  exact ⟨ret_i2 (by rw [HR.out.2.2.1]; exact HR.out.2.2.2), hF⟩
theorem d170 {B : Nat} (p g c : Nat) (x : Int) (pre rest : List UInt8) (stk : List Value) (w : World) (h : RD B w p g c pre (Lib.beBytes 8 (x % 18446744073709551616).toNat ++ rest) stk) (hl : pre.length + rest.length ≤ 1000000) (hx0 : -9223372036854775808 ≤ x) (hx1 : x ≤ 9223372036854775807) :
    Calls Tryz.prog 170 #[.pointer (some ⟨p, 0, none⟩)] w fun e w' => e = .returned (.tuple #[.int .i64 x, .nilIface]) ∧ RD B w' p g c (pre ++ Lib.beBytes 8 (x % 18446744073709551616).toNat) rest stk ∧ Kept B [p] w w' := by
  have H := Lib.hid h
  have hb := i64_be hx0 hx1
  have hlen : (Lib.beBytes 8 (x % 18446744073709551616).toNat).length = 8 := Lib.beBytes_length _ _
  have hval : Lib.beNat (Lib.beBytes 8 (x % 18446744073709551616).toNat) = (x % 18446744073709551616).toNat := Lib.beNat_beBytes _ _ (by omega)
  obtain ⟨_, sv, hp, hr, _⟩ := h
  have hcl := hr.choose_spec.choose_spec.2.1
  generalize hdd : Lib.beBytes 8 (x % 18446744073709551616).toNat = d at *
  have h0 := hp.cell 0
  have h1 := hp.cell 1
  have f1 := hp.frozen 1
  simp at h0 h1 hcl
  have hplt := hp.lt
  have hne : ¬ c = pre.length := by omega
  have hN : pre.length + 8 ≤ pre.length + (d.length + rest.length) := by omega
  generalize pre.length + (d.length + rest.length) = N at h0 hN
  have hle : pre.length ≤ N := by omega
  have hcell : ∀ w1, Kept w.heap.size [] w w1 → w1.cell? ⟨p, 1, none⟩ = some (.int .i64 pre.length) ∧ w1.frozen? ⟨p, 1, none⟩ = false := fun w1 hk =>
    ⟨(World.cell?_of_block (hk.block p hplt (by simp) (.inl hplt))).trans h1, (World.frozen?_of_block (hk.block p hplt (by simp) (.inl hplt))).trans f1⟩
  have hge : ¬ ((d.length : Int) + (rest.length : Int) < 8) := by omega
  have HR := Lib.hid (And.intro hr (And.intro hlen (And.intro hval hb)))
  clear hp hr hb hlen hval hdd hcl
  go_enter Tryz.func170, Tryz.ntmps170
  go_wp2_with (go_at_call 178; refine (d178 p g c _ _ stk _ (by exact H.out) (by have := HR.out.2.1; simp; omega)).mono ?_; rintro e w1 ⟨rfl, n, rfl⟩)
  refine wp_region_still_tail 10 (by kernel_rfl) (by kernel_rfl) ?_
  show wpStill _ _ (World.drew _) (fun a' => wpList _ _ _ _ _ (World.drew _)) _ _
  simp only [List.take_succ_cons, List.take_zero, List.drop_succ_cons, List.drop_zero]
  repeat still_step
  refine wpStill_nil ?_
  go_wp2_with (go_at_call 181; refine (get64 g c pre d rest (N - pre.length) _ (by exact HR.out.1) HR.out.2.1 (by omega) _).mono ?_; rintro e w2 ⟨rfl, hb2⟩; have hk2 := kept_drewn (B := w.heap.size) hb2; obtain ⟨hc2, hf2⟩ := hcell _ hk2)
  go_wp2
  go_ret2
  have hF := H.out.adv hk2
  rw [HR.out.2.1] at hF
  exact ⟨ret_i2 (by rw [HR.out.2.2.1]; exact HR.out.2.2.2), hF⟩

theorem d173 {B : Nat} (p g c : Nat) (x : Int) (pre rest : List UInt8) (stk : List Value) (w : World) (h : RD B w p g c pre (vb x ++ rest) stk) (hl : pre.length + rest.length ≤ 1000000) (hx0 : -9223372036854775808 ≤ x) (hx1 : x ≤ 9223372036854775807) :
    Calls Tryz.prog 173 #[.pointer (some ⟨p, 0, none⟩)] w fun e w' => e = .returned (.tuple #[.int .i64 x, .nilIface]) ∧ RD B w' p g c (pre ++ vb x) rest stk ∧ Kept B [p] w w' := by
  have H := Lib.hid h
  have hlen := vb_le hx0 hx1
  have hlen0 := vb_pos x
  obtain ⟨_, sv, hp, hr, _⟩ := h
  have hcl := hr.choose_spec.choose_spec.2.1
  have h0 := hp.cell 0
  have h1 := hp.cell 1
  have f1 := hp.frozen 1
  simp at h0 h1 hcl
  have hplt := hp.lt
  have hne : ¬ c = pre.length := by omega
  have hNe : pre.length + ((vb x).length + rest.length) - pre.length = (vb x ++ rest).length := by simp
  have hle : pre.length ≤ pre.length + ((vb x).length + rest.length) := by omega
  generalize pre.length + ((vb x).length + rest.length) = N at h0 hle hNe
  have HR := Lib.hid (And.intro hr hNe)
  have HL := Lib.hid hlen
  have e0 : (((vb x).length : Int) == 0) = false := by simp; intro h; simp [h] at hlen0
  have e1 : ¬ (((vb x).length : Int) < 0) := by omega
  have hbnd : (pre.length : Int) + (vb x).length ≤ 2000000 := by omega
  clear hp hr hlen hcl hNe
  go_enter Tryz.func173, Tryz.ntmps173
  go_wp2_with fail
  go_quiet ((go_at_call 182; exact Calls.quiet_of_same (getvar g c x pre rest (N - pre.length) _ (by exact HR.out.1) HR.out.2 _ hx0 hx1)))
  go_wp2
  go_ret2
  exact ⟨rfl, H.out.adv ((Kept.refl _ _ _).drewN _)⟩

theorem d172 {B : Nat} (p g c D : Nat) (m pre rest : List UInt8) (stk : List Value) (w : World) (h : RD B w p g c pre (m ++ rest) stk) (hl : pre.length + m.length + rest.length ≤ 1000000) (hD : g < D) :
    Calls Tryz.prog 172 #[.pointer (some ⟨p, 0, none⟩), .int .i64 m.length] w fun e w' => ∃ v, e = .returned (.tuple #[v, .nilIface]) ∧ BytesAt w' D v m ∧ RD B w' p g c (pre ++ m) rest stk ∧ Kept B [p] w w' := by
  have H := Lib.hid h
  obtain ⟨_, sv, hp, hr, _⟩ := h
  have hcl := hr.choose_spec.choose_spec.2.1
  have h0 := hp.cell 0
  have h1 := hp.cell 1
  have f1 := hp.frozen 1
  simp at h0 h1 hcl
  have hgp := hr.ne hp (by decide)
  have hle : pre.length ≤ pre.length + (m.length + rest.length) := by omega
  have hle2 : pre.length + m.length ≤ pre.length + (m.length + rest.length) := by omega
  generalize hNN : pre.length + (m.length + rest.length) = N at h0 hle hle2 hcl
  have hge : ¬ ((m.length : Int) > (m.length : Int) + (rest.length : Int)) := by omega
  have h00 : 0 ≤ (m.length : Int) := by omega
  have hFin := H.out.adv (w1 := w) (Kept.refl _ _ _)
  have HF := Lib.hid (And.intro hFin hr)
  have hplt := hp.lt
  clear hp hr hFin hNN
  by_cases hc : c = pre.length
  · obtain rfl : m = [] := List.eq_nil_of_length_eq_zero (by omega)
    subst hc
    go_enter Tryz.func172, Tryz.ntmps172
    go_wp2_with (go_at_call 178; refine (d178 p g pre.length _ _ stk _ (by exact H.out) (by simp; omega)).mono ?_; rintro e w1 ⟨rfl, n, rfl⟩)
    go_quiet (fail)
    go_wp2
    go_ret2
    have hA := H.out.adv (w1 := w.drewN n) ((Kept.refl _ _ _).drewN _)
    have hk3 : Kept w.heap.size [p] w (((w.drewN n).setCell ⟨p, 1, none⟩ (.int .i64 pre.length)).drewN 1) := ((((Kept.refl _ _ _).drewN _).setCell (p := ⟨p, 1, none⟩) (.inl (by simp)) _).drewN _)
    exact ⟨_, rfl, ⟨⟨g, 0, none⟩, 0, _, _, rfl, hD, (HF.out.2.kept hk3 (by simpa using hgp)).choose_spec.choose_spec.1, fun j u hj => by simp [Lib.byteCells] at hj⟩, hA.1.drewN _, hA.2.drewN _⟩
  · go_enter Tryz.func172, Tryz.ntmps172
    go_wp2_with (go_at_call 178; refine (d178 p g c _ _ stk _ (by exact H.out) (by simp; omega)).mono ?_; rintro e w1 ⟨rfl, n, rfl⟩)
    go_quiet (fail)
    go_wp2
    go_ret2
    have hA := H.out.adv (w1 := w.drewN n) ((Kept.refl _ _ _).drewN _)
    have hk3 : Kept w.heap.size [p] w ((w.drewN n).setCell ⟨p, 1, none⟩ (.int .i64 (pre.length + m.length))) := (((Kept.refl _ _ _).drewN _).setCell (p := ⟨p, 1, none⟩) (.inl (by simp)) _)
    exact ⟨_, rfl, (HF.out.2.kept (hk3.drewN nq) (by simpa using hgp)).part2 hD _ _ (by omega), hA.1.drewN _, hA.2.drewN _⟩

theorem d174 {B : Nat} (p g c D : Nat) (o : NB) (pre rest : List UInt8) (stk : List Value) (w : World) (h : RD B w p g c pre (vBytes o ++ rest) stk) (hl : pre.length + ol o + rest.length ≤ 900000) (hD : g < D) :
    Calls Tryz.prog 174 #[.pointer (some ⟨p, 0, none⟩)] w fun e w' => ∃ v, e = .returned (.tuple #[v, .nilIface]) ∧ NBytesAt w' D v o ∧ RD B w' p g c (pre ++ vBytes o) rest stk ∧ Kept B [p] w w' := by
  cases o with
  | none =>
    have H := Lib.hid h
    clear h
    go_enter Tryz.func174, Tryz.ntmps174
    go_wp2_with (go_at_call 173; refine (d173 p g c (-1) pre rest stk _ (by exact H.out) (by simp [ol] at hl; omega) (by omega) (by omega)).mono ?_; rintro e w1 ⟨rfl, hd, hk⟩)
    have HF := Lib.hid (And.intro hd hk)
    clear hd hk
    go_wp2
    go_ret2
    exact ⟨_, rfl, rfl, HF.out⟩
  | some l =>
    have hll : l.length ≤ 900000 := by simp [ol] at hl; omega
    have hlr : pre.length + l.length + rest.length ≤ 900000 := by simpa [ol] using hl
    have hvl := vb_le (x := (l.length : Int)) (by omega) (by omega)
    have h2 : RD B w p g c pre (vb l.length ++ (l ++ rest)) stk := by simpa [vBytes] using h
    have H := Lib.hid h2
    have e1 : ¬ ((l.length : Int) = -1) := by omega
    have e2 : ((l.length : Int) == -1) = false := by simp
    have e3 : ¬ ((l.length : Int) > (l.length : Int) + (rest.length : Int)) := by omega
    clear h h2 hl
    go_enter Tryz.func174, Tryz.ntmps174
    go_wp2_with (go_at_call 173; refine (d173 p g c l.length pre (l ++ rest) stk _ (by exact H.out) (by simp; omega) (by omega) (by omega)).mono ?_; rintro e w1 ⟨rfl, hd, hk⟩; have H1 := Lib.hid (And.intro hd hk); clear hd hk)
    go_wp2_with (go_at_call 178; refine (d178 p g c _ _ stk _ (by exact H1.out.1) (by simp; omega)).mono ?_; rintro e w2 ⟨rfl, n, rfl⟩)
    go_wp2_with (go_at_call 172; refine (d172 p g c D l _ rest stk _ (by exact H1.out.1.drewN n) (by simp; omega) hD).mono ?_; rintro e w3 ⟨v, rfl, hv, hd3, hk3⟩)
    have HF := Lib.hid (show NBytesAt w3 D v (some l) ∧ RD B w3 p g c (pre ++ vBytes (some l)) rest stk ∧ Kept B [p] w w3 from ⟨hv, by simpa [vBytes] using hd3, (H1.out.2.drewN n).trans hk3 (fun x hx => .inl hx) (fun x hx => .inl hx)⟩)
    clear hv hd3 hk3
    go_wp2
    go_ret2
    exact ⟨_, rfl, HF.out⟩

theorem d167 {B : Nat} (p g c D : Nat) (o : NB) (pre rest : List UInt8) (stk : List Value) (w : World) (h : RD B w p g c pre (sBytes o ++ rest) stk) (hl : pre.length + ol o + rest.length ≤ 900000) (hD : g < D) :
    Calls Tryz.prog 167 #[.pointer (some ⟨p, 0, none⟩)] w fun e w' => ∃ v, e = .returned (.tuple #[v, .nilIface]) ∧ NBytesAt w' D v o ∧ RD B w' p g c (pre ++ sBytes o) rest stk ∧ Kept B [p] w w' := by
  cases o with
  | none =>
    have hm : ((-1 : Int) % 4294967296).toNat = 4294967295 := by decide
    have H : Hid (RD B w p g c pre (Lib.beBytes 4 ((-1 : Int) % 4294967296).toNat ++ rest) stk) := by rw [hm]; exact h
    clear h
    go_enter Tryz.func167, Tryz.ntmps167
    go_wp2_with (go_at_call 169; refine (d169 p g c (-1) pre rest stk _ (by exact H.out) (by simp [ol] at hl; omega) (by omega) (by omega)).mono ?_; rintro e w1 ⟨rfl, hd, hk⟩)
    rw [hm] at hd
    have HF := Lib.hid (And.intro hd hk)
    clear hd hk
    go_wp2
    go_ret2
    exact ⟨_, rfl, rfl, HF.out⟩
  | some l =>
    have hll : l.length ≤ 900000 := by simp [ol] at hl; omega
    have hlr : pre.length + l.length + rest.length ≤ 900000 := by simpa [ol] using hl
    have hm : ((l.length : Int) % 4294967296).toNat = l.length := by omega
    have h2 : RD B w p g c pre (Lib.beBytes 4 ((l.length : Int) % 4294967296).toNat ++ (l ++ rest)) stk := by rw [hm]; simpa [sBytes] using h
    have H := Lib.hid h2
    have HM := Lib.hid hm
    have hw : IntKind.i64.wrap (l.length : Int) = l.length := IntWalk.i64_in _ (by omega)
    have e2 : ((l.length : Int) == -1) = false := by simp
    have hbl : (Lib.beBytes 4 l.length).length = 4 := Lib.beBytes_length _ _
    have HL := Lib.hid hbl
    clear h h2 hl hm hbl
    go_enter Tryz.func167, Tryz.ntmps167
    go_wp2_with (go_at_call 169; refine (d169 p g c l.length pre (l ++ rest) stk _ (by exact H.out) (by simp; omega) (by omega) (by omega)).mono ?_; rintro e w1 ⟨rfl, hd, hk⟩; rw [HM.out] at hd; have H1 := Lib.hid (And.intro hd hk); clear hd hk)
    go_wp2_with (go_at_call 172; refine (d172 p g c D l _ rest stk _ (by exact H1.out.1) (by have := HL.out; simp; omega) hD).mono ?_; rintro e w3 ⟨v, rfl, hv, hd3, hk3⟩)
    have HF := Lib.hid (show NBytesAt w3 D v (some l) ∧ RD B w3 p g c (pre ++ sBytes (some l)) rest stk ∧ Kept B [p] w w3 from ⟨hv, by simpa [sBytes] using hd3, H1.out.2.trans hk3 (fun x hx => .inl hx) (fun x hx => .inl hx)⟩)
    clear hv hd3 hk3
    go_wp2
    go_ret2
    exact ⟨_, rfl, HF.out⟩

/-- A byte farther on is looked at. -/
theorem d175 {B : Nat} (p g c : Nat) (x : Int) (m pre rest : List UInt8) (stk : List Value) (w : World) (h : RD B w p g c pre (m ++ ([byteOf x] ++ rest)) stk) (hl : pre.length + m.length + rest.length ≤ 900000) (hx0 : -128 ≤ x) (hx1 : x ≤ 127) :
    Calls Tryz.prog 175 #[.pointer (some ⟨p, 0, none⟩), .int .i64 m.length] w fun e w' => e = .returned (.tuple #[.int .i8 x, .nilIface]) ∧ ∃ n, w' = w.drewN n := by
  have H := Lib.hid h
  have hb := i8_byteOf hx0 hx1
  obtain ⟨_, sv, hp, hr, _⟩ := h
  have h0 := hp.cell 0
  have h1 := hp.cell 1
  have f1 := hp.frozen 1
  have hc := hr.cell (j := pre.length + m.length) (by simp)
  rw [List.getElem_append_right (by omega)] at hc
  simp at h0 h1 hc
  have HB := Lib.hid hb
  have e3 : ¬ ((m.length : Int) + ((rest.length : Int) + 1) < (m.length : Int) + 1) := by omega
  clear hp hr hb
  go_enter Tryz.func175, Tryz.ntmps175
  go_wp2_with (go_at_call 178; refine (d178 p g c _ _ stk _ (by exact H.out) (by simp; omega)).mono ?_; rintro e w1 ⟨rfl, n, rfl⟩)
  have s1 : IntKind.i64.wrap ((pre.length : Int) + (m.length : Int)) = (pre.length : Int) + (m.length : Int) := IntWalk.i64_in _ (by omega)
  have s2 : (0 : Int) ≤ (pre.length : Int) + (m.length : Int) := by omega
  have s4 : (pre.length : Int) + (m.length : Int) < (((pre.length + (m.length + (rest.length + 1))) : Nat) : Int) := by omega
  have s3 : ((pre.length : Int) + (m.length : Int)).toNat = pre.length + m.length := by omega
  go_quiet (fail)
  go_wp2
  go_ret2
  exact ⟨ret_i2 HB.out, n + nq, World.drewN_drewN _ _ _⟩
end Go.Proofs.YtmiflkccfieefaaGreatDoor
