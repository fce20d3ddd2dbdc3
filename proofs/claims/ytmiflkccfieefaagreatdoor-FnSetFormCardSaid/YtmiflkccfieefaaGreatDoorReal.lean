/-
  The writing encoder's methods: what each writes, and where.
-/
import Derived.Test.YtmiflkccfieefaaGreatDoorPrep
import Derived.Test.YtmiflkccfieefaaGreatDoorMeth
import Derived.Laws.CopyOwn
namespace Go.Proofs.YtmiflkccfieefaaGreatDoor
open Go.ChangeShapes Go.WideShapes Go.ChangeAt Go.RowKit
set_option maxRecDepth 100000
set_option linter.unusedVariables false

/-- The writing encoder at block p: of the N bytes in block g the first ones, pre, are written; its stack is stk. -/
def RE (B : Nat) (w : World) (p g N : Nat) (pre rest : List UInt8) (stk : List Value) : Prop :=
  B ≤ p ∧ B ≤ g ∧ pre.length + rest.length = N ∧ ∃ sv, Blk w p 182 [.slice (some ⟨g, 0, none⟩) N N, .int .i64 pre.length, sv] ∧ Blk w g 5 (Lib.byteCells (pre ++ rest)) ∧ w.ownsRow B 323 1 sv stk.length stk

theorem byteCells_get {l : List UInt8} {i : Nat} (h : i < l.length) : ∃ u, (Lib.byteCells l)[i]? = some u := by
  refine ⟨_, List.getElem?_eq_getElem (by rw [Lib.byteCells_length]; exact h)⟩

theorem RE.wrote {B : Nat} {w w1 : World} {p g N : Nat} {pre rest d : List UInt8} {stk : List Value} (h : RE B w p g N pre rest stk) (hd : d.length ≤ rest.length)
    (hk : Kept w.heap.size [g] w w1) (hg1 : Blk w1 g 5 (Lib.byteCells (pre ++ (d ++ rest.drop d.length)))) :
    RE B (w1.setCell ⟨p, 1, none⟩ (.int .i64 (pre.length + d.length))) p g N (pre ++ d) (rest.drop d.length) stk ∧ Kept B [p, g] w (w1.setCell ⟨p, 1, none⟩ (.int .i64 (pre.length + d.length))) := by
  obtain ⟨hBp, hBg, hN, sv, hp, hg, hown⟩ := h
  have hpg : p ≠ g := hp.ne_ hg (by decide)
  have hk2 : Kept w.heap.size [p, g] w (w1.setCell ⟨p, 1, none⟩ (.int .i64 (pre.length + d.length))) := (hk.mono (Nat.le_refl _) (fun x hx => .inl (by simp at hx ⊢; exact .inr hx))).setCell (p := ⟨p, 1, none⟩) (.inl (by simp)) _
  refine ⟨⟨hBp, hBg, by simp; omega, sv, ?_, ?_, ?_⟩, hk2.mono (Nat.le_trans hBp (Nat.le_of_lt hp.lt)) (fun x hx => .inl hx)⟩
  · have hp1 := (hp.kept hk (by simpa using hpg) (.inl hp.lt)).set_ 1 (.int .i64 (pre.length + d.length))
    simpa using hp1
  · rw [List.append_assoc]
    exact hg1.far (p := ⟨p, 1, none⟩) (Ne.symm hpg) _
  · exact own_kept hown hk2 (fun x hx => by
      rcases List.mem_cons.1 hx with rfl | hx
      · exact own_ne hown hp (by decide)
      · have : x = g := by simpa using hx
        subst this
        exact own_ne hown hg (by decide))
theorem RE.sets {w : World} {g : Nat} {pre rest d : List UInt8} (hg : Blk w g 5 (Lib.byteCells (pre ++ rest))) (hd : d.length ≤ rest.length) :
    Blk (w.setCells g pre.length (Lib.byteCells d)) g 5 (Lib.byteCells (pre ++ (d ++ rest.drop d.length))) := by
  have h1 := Blk.sets (Lib.byteCells d) pre.length w _ hg
  have e : puts (Lib.byteCells (pre ++ rest)) pre.length (Lib.byteCells d) = Lib.byteCells (pre ++ (d ++ rest.drop d.length)) := by
    have h2 := puts_split (Lib.byteCells d) (Lib.byteCells pre) (Lib.byteCells (rest.take d.length)) (Lib.byteCells (rest.drop d.length)) (by rw [Lib.byteCells_length, Lib.byteCells_length, List.length_take]; omega)
    rw [Lib.byteCells_length] at h2
    rw [Lib.byteCells_append, Lib.byteCells_append, Lib.byteCells_append, ← h2, ← Lib.byteCells_append (rest.take d.length), List.take_append_drop]
  rw [e] at h1
  exact h1

/-- The byte of a number. -/
def byteOf (x : Int) : UInt8 := (x % 256).toNat.toUInt8
theorem byteOf_toNat (x : Int) : ((byteOf x).toNat : Int) = x % 256 := by
  unfold byteOf
  rw [Lib.toUInt8_toNat (by omega)]
  omega

theorem put32 (g N : Nat) (x : Int) (pre rest : List UInt8) (w : World) (hg : Blk w g 5 (Lib.byteCells (pre ++ rest))) (hN : pre.length + rest.length = N) (hr : 4 ≤ rest.length) :
    Calls Tryz.prog 211 #[.agg #[], .slice (some ⟨g, pre.length, none⟩) (N - pre.length) (N - pre.length), .int .u32 (IntKind.u32.wrap x)] w
      fun e w' => e = .returned (.tuple #[]) ∧ Kept w.heap.size [g] w w' ∧ Blk w' g 5 (Lib.byteCells (pre ++ (Lib.beBytes 4 (x % 4294967296).toNat ++ rest.drop 4))) := by
  have hlen : (Lib.beBytes 4 (x % 4294967296).toNat).length = 4 := Lib.beBytes_length _ _
  have hx : IntKind.u32.wrap x = ((x % 4294967296).toNat : Int) := by
    rw [IntKind.wrap_u32]
    omega
  rw [hx]
  have hget : ∀ i, i < 4 → ∃ u, w.cell? ⟨g, pre.length + i, none⟩ = some u := fun i hi => by
    obtain ⟨u, hu⟩ := byteCells_get (l := pre ++ rest) (i := pre.length + i) (by simp; omega)
    exact ⟨u, (hg.cell _).trans hu⟩
  have hfr : ∀ i, w.frozen? ⟨g, pre.length + i, none⟩ = false := fun i => hg.frozen _
  obtain ⟨u0, hu0⟩ := hget 0 (by omega)
  obtain ⟨u1, hu1⟩ := hget 1 (by omega)
  obtain ⟨u2, hu2⟩ := hget 2 (by omega)
  obtain ⟨u3, hu3⟩ := hget 3 (by omega)
  refine (Tryz.binary_BE_PutUint32 g pre.length (N - pre.length) (N - pre.length) _ (by omega) u0 u1 u2 u3 w (by omega) hu0 hu1 hu2 hu3 (hfr 0) (hfr 1) (hfr 2) (hfr 3)).mono ?_
  rintro e w1 ⟨rfl, rfl⟩
  refine ⟨rfl, Kept.setCells (.inl (by simp)) _ _ _ ((Kept.refl _ _ _).alloc _), ?_⟩
  have h2 := RE.sets (d := Lib.beBytes 4 (x % 4294967296).toNat) (hg.alloc (.cells #[] 308)) (by rw [hlen]; exact hr)
  rw [hlen] at h2
  exact h2
theorem put64 (g N : Nat) (x : Int) (pre rest : List UInt8) (w : World) (hg : Blk w g 5 (Lib.byteCells (pre ++ rest))) (hN : pre.length + rest.length = N) (hr : 8 ≤ rest.length) :
    Calls Tryz.prog 212 #[.agg #[], .slice (some ⟨g, pre.length, none⟩) (N - pre.length) (N - pre.length), .int .u64 (IntKind.u64.wrap x)] w
      fun e w' => e = .returned (.tuple #[]) ∧ Kept w.heap.size [g] w w' ∧ Blk w' g 5 (Lib.byteCells (pre ++ (Lib.beBytes 8 (x % 18446744073709551616).toNat ++ rest.drop 8))) := by
  have hlen : (Lib.beBytes 8 (x % 18446744073709551616).toNat).length = 8 := Lib.beBytes_length _ _
  have hx : IntKind.u64.wrap x = ((x % 18446744073709551616).toNat : Int) := by
    rw [IntKind.wrap_u64]
    omega
  rw [hx]
  have hget : ∀ i, i < 8 → ∃ u, w.cell? ⟨g, pre.length + i, none⟩ = some u := fun i hi => by
    obtain ⟨u, hu⟩ := byteCells_get (l := pre ++ rest) (i := pre.length + i) (by simp; omega)
    exact ⟨u, (hg.cell _).trans hu⟩
  have hfr : ∀ i, w.frozen? ⟨g, pre.length + i, none⟩ = false := fun i => hg.frozen _
  obtain ⟨u0, hu0⟩ := hget 0 (by omega)
  obtain ⟨u1, hu1⟩ := hget 1 (by omega)
  obtain ⟨u2, hu2⟩ := hget 2 (by omega)
  obtain ⟨u3, hu3⟩ := hget 3 (by omega)
  obtain ⟨u4, hu4⟩ := hget 4 (by omega)
  obtain ⟨u5, hu5⟩ := hget 5 (by omega)
  obtain ⟨u6, hu6⟩ := hget 6 (by omega)
  obtain ⟨u7, hu7⟩ := hget 7 (by omega)
  refine (Tryz.binary_BE_PutUint64 g pre.length (N - pre.length) (N - pre.length) _ (by omega) u0 u1 u2 u3 u4 u5 u6 u7 w (by omega) hu0 hu1 hu2 hu3 hu4 hu5 hu6 hu7 (hfr 0) (hfr 1) (hfr 2) (hfr 3) (hfr 4) (hfr 5) (hfr 6) (hfr 7)).mono ?_
  rintro e w1 ⟨rfl, rfl⟩
  refine ⟨rfl, Kept.setCells (.inl (by simp)) _ _ _ ((Kept.refl _ _ _).alloc _), ?_⟩
  have h2 := RE.sets (d := Lib.beBytes 8 (x % 18446744073709551616).toNat) (hg.alloc (.cells #[] 308)) (by rw [hlen]; exact hr)
  rw [hlen] at h2
  exact h2
theorem r206 {B : Nat} (p g N : Nat) (x : Int) (pre rest : List UInt8) (stk : List Value) (w : World) (h : RE B w p g N pre rest stk) (hN : N ≤ 1000000000) (hx0 : -128 ≤ x) (hx1 : x ≤ 127) (hr : 1 ≤ rest.length) :
    Calls Tryz.prog 206 #[.pointer (some ⟨p, 0, none⟩), .int .i8 x] w fun e w' => e = .returned (.tuple #[]) ∧ RE B w' p g N (pre ++ [byteOf x]) (rest.drop 1) stk ∧ Kept B [p, g] w w' := by
  have H := Lib.hid h
  obtain ⟨hBp, hBg, hNe, sv, hp, hg, hown⟩ := h
  have hpg : p ≠ g := hp.ne_ hg (by decide)
  have h0 := hp.cell 0
  have h1 := hp.cell 1
  have f1 := hp.frozen 1
  simp at h0 h1
  obtain ⟨u, hu⟩ := byteCells_get (l := pre ++ rest) (i := pre.length) (by simp; omega)
  have hgc := (hg.cell pre.length).trans hu
  have hgf := hg.frozen pre.length
  have hlt : pre.length < N := by omega
  have hle : pre.length ≤ N := by omega
  have hne : ¬ N = pre.length := by omega
  have HH := Lib.hid (And.intro hNe (And.intro hp hg))
  clear hNe hp hg hown hu
  go_enter Tryz.func206, Tryz.ntmps206
  go_wp2_with fail
  refine wp_region_still_tail 11 (by kernel_rfl) (by kernel_rfl) ?_
  show wpStill _ _ (World.drew _) (fun a' => wpList _ _ _ _ _ (World.drew _)) _ _
  simp only [List.take_succ_cons, List.take_zero, List.drop_succ_cons, List.drop_zero]
  repeat still_step
  refine wpStill_nil ?_
  go_wp2
  go_end0
  obtain ⟨hNe, hp, hg⟩ := HH.out
  have hk : Kept w.heap.size [g] w ((w.setCell ⟨g, pre.length, none⟩ (.int .u8 (x % 256))).drew) := ((Kept.refl _ _ _).setCell (p := ⟨g, pre.length, none⟩) (.inl (by simp)) _).drew
  have hs : Blk ((w.setCell ⟨g, pre.length, none⟩ (.int .u8 (x % 256))).drew) g 5 (Lib.byteCells (pre ++ ([byteOf x] ++ rest.drop [byteOf x].length))) := by
    have h2 := (RE.sets (d := [byteOf x]) hg hr).drew
    simp only [Lib.byteCells, List.map_cons, List.map_nil, World.setCells, byteOf_toNat] at h2 ⊢
    exact h2
  exact ⟨rfl, RE.wrote (d := [byteOf x]) H.out hr hk hs⟩
theorem r205 {B : Nat} (p g N : Nat) (x : Int) (pre rest : List UInt8) (stk : List Value) (w : World) (h : RE B w p g N pre rest stk) (hN : N ≤ 1000000000) (hr : 8 ≤ rest.length) :
    Calls Tryz.prog 205 #[.pointer (some ⟨p, 0, none⟩), .int .i64 x] w fun e w' => e = .returned (.tuple #[]) ∧ RE B w' p g N (pre ++ Lib.beBytes 8 (x % 18446744073709551616).toNat) (rest.drop 8) stk ∧ Kept B [p, g] w w' := by
  have H := Lib.hid h
  obtain ⟨hBp, hBg, hNe, sv, hp, hg, hown⟩ := h
  have hpg : p ≠ g := hp.ne_ hg (by decide)
  have h0 := hp.cell 0
  have h1 := hp.cell 1
  have f1 := hp.frozen 1
  simp at h0 h1
  have hlt : pre.length < N := by omega
  have hle : pre.length ≤ N := by omega
  have hne : ¬ N = pre.length := by omega
  have hpl := hp.lt
  have HH := Lib.hid (And.intro hNe (And.intro hp hg))
  clear hNe hp hg hown
  go_enter Tryz.func205, Tryz.ntmps205
  go_wp2_with fail
  refine wp_region_still_tail 12 (by kernel_rfl) (by kernel_rfl) ?_
  show wpStill _ _ (World.drew _) (fun a' => wpList _ _ _ _ _ (World.drew _)) _ _
  simp only [List.take_succ_cons, List.take_zero, List.drop_succ_cons, List.drop_zero]
  repeat still_step
  refine wpStill_nil ?_
  go_wp2_with (go_at_call 212; refine (put64 g N x pre rest _ (by exact HH.out.2.2) HH.out.1 hr).mono ?_)
  rintro e w1 ⟨rfl, hk, hs⟩
  replace hk := Kept.undrew hk
  have h11 : w1.cell? ⟨p, 1, none⟩ = some (.int .i64 pre.length) := (World.cell?_of_block (hk.block p hpl (by simpa using hpg) (.inl hpl))).trans h1
  have f11 : w1.frozen? ⟨p, 1, none⟩ = false := (World.frozen?_of_block (hk.block p hpl (by simpa using hpg) (.inl hpl))).trans f1
  have HS := Lib.hid (And.intro hk hs)
  clear hk hs
  go_wp2
  go_end0
  obtain ⟨hk, hs⟩ := HS.out
  have hlen : (Lib.beBytes 8 (x % 18446744073709551616).toNat).length = 8 := Lib.beBytes_length _ _
  have hw := RE.wrote (d := Lib.beBytes 8 (x % 18446744073709551616).toNat) H.out (by rw [hlen]; exact hr) hk (by rw [hlen]; exact hs)
  rw [hlen] at hw
  exact ⟨rfl, hw⟩
theorem r204 {B : Nat} (p g N : Nat) (x : Int) (pre rest : List UInt8) (stk : List Value) (w : World) (h : RE B w p g N pre rest stk) (hN : N ≤ 1000000000) (hr : 4 ≤ rest.length) :
    Calls Tryz.prog 204 #[.pointer (some ⟨p, 0, none⟩), .int .i32 x] w fun e w' => e = .returned (.tuple #[]) ∧ RE B w' p g N (pre ++ Lib.beBytes 4 (x % 4294967296).toNat) (rest.drop 4) stk ∧ Kept B [p, g] w w' := by
  have H := Lib.hid h
  obtain ⟨hBp, hBg, hNe, sv, hp, hg, hown⟩ := h
  have hpg : p ≠ g := hp.ne_ hg (by decide)
  have h0 := hp.cell 0
  have h1 := hp.cell 1
  have f1 := hp.frozen 1
  simp at h0 h1
  have hlt : pre.length < N := by omega
  have hle : pre.length ≤ N := by omega
  have hne : ¬ N = pre.length := by omega
  have hpl := hp.lt
  have HH := Lib.hid (And.intro hNe (And.intro hp hg))
  clear hNe hp hg hown
  go_enter Tryz.func204, Tryz.ntmps204
  go_wp2_with fail
  refine wp_region_still_tail 12 (by kernel_rfl) (by kernel_rfl) ?_
  show wpStill _ _ (World.drew _) (fun a' => wpList _ _ _ _ _ (World.drew _)) _ _
  simp only [List.take_succ_cons, List.take_zero, List.drop_succ_cons, List.drop_zero]
  repeat still_step
  refine wpStill_nil ?_
  go_wp2_with (go_at_call 211; refine (put32 g N x pre rest _ (by exact HH.out.2.2) HH.out.1 hr).mono ?_)
  rintro e w1 ⟨rfl, hk, hs⟩
  replace hk := Kept.undrew hk
  have h11 : w1.cell? ⟨p, 1, none⟩ = some (.int .i64 pre.length) := (World.cell?_of_block (hk.block p hpl (by simpa using hpg) (.inl hpl))).trans h1
  have f11 : w1.frozen? ⟨p, 1, none⟩ = false := (World.frozen?_of_block (hk.block p hpl (by simpa using hpg) (.inl hpl))).trans f1
  have HS := Lib.hid (And.intro hk hs)
  clear hk hs
  go_wp2
  go_end0
  obtain ⟨hk, hs⟩ := HS.out
  have hlen : (Lib.beBytes 4 (x % 4294967296).toNat).length = 4 := Lib.beBytes_length _ _
  have hw := RE.wrote (d := Lib.beBytes 4 (x % 4294967296).toNat) H.out (by rw [hlen]; exact hr) hk (by rw [hlen]; exact hs)
  rw [hlen] at hw
  exact ⟨rfl, hw⟩
/-- The bytes l lie where the slice v says, in a row of bytes below block D. -/
def BytesAt (w : World) (D : Nat) (v : Value) (l : List UInt8) : Prop := ∃ a c C f, v = .slice (some a) l.length c ∧ a.block < D ∧ w.heap[a.block]? = some (.cells C 5 f) ∧ ∀ j u, (Lib.byteCells l)[j]? = some u → w.cell? (a.add j) = some u
theorem BytesAt.sl {w : World} {D : Nat} {v : Value} {l : List UInt8} (h : BytesAt w D v l) : SlIs v (some l) := by
  obtain ⟨a, c, _, _, rfl, _⟩ := h
  exact ⟨a, c, rfl⟩
theorem BytesAt.kept {B D : Nat} {S : List Nat} {w w' : World} {v : Value} {l : List UInt8} (h : BytesAt w D v l) (hk : Kept B S w w') (hS : ∀ s ∈ S, D ≤ s ∨ ∃ t cs, t ≠ 5 ∧ Blk w s t cs) : BytesAt w' D v l := by
  obtain ⟨a, c, C, f, rfl, hlt, hb, hc⟩ := h
  have e : w'.heap[a.block]? = w.heap[a.block]? := hk.block a.block (Array.getElem?_eq_some_iff.1 hb).1 (fun hm => by
    rcases hS _ hm with h1 | ⟨t, cs, h1, h2⟩
    · omega
    · unfold Blk at h2
      rw [hb] at h2
      injection h2 with h2
      injection h2 with _ h2
      exact h1 h2.symm) (.inr fun c t f' he => by
    rw [hb] at he
    injection he with he
    injection he with _ he
    subst he
    rintro (h5 | h5) <;> exact absurd h5 (by decide))
  exact ⟨a, c, C, f, rfl, hlt, e.trans hb, fun j u hu => by
    have hab : (a.add j).block = a.block := by unfold Addr.add; split <;> rfl
    exact (World.cell?_of_block (by rw [hab]; exact e)).trans (hc j u hu)⟩
theorem BytesAt.drew {D : Nat} {w : World} {v : Value} {l : List UInt8} (h : BytesAt w D v l) : BytesAt w.drew D v l := h
/-- .. and null. -/
def NBytesAt (w : World) (D : Nat) (v : Value) : Option (List UInt8) → Prop
  | none => v = .slice none 0 0
  | some l => BytesAt w D v l
theorem NBytesAt.sl {w : World} {D : Nat} {v : Value} {o : Option (List UInt8)} (h : NBytesAt w D v o) : SlIs v o := by
  cases o with
  | none => exact h
  | some l => exact BytesAt.sl h
theorem NBytesAt.kept {B D : Nat} {S : List Nat} {w w' : World} {v : Value} {o : Option (List UInt8)} (h : NBytesAt w D v o) (hk : Kept B S w w') (hS : ∀ s ∈ S, D ≤ s ∨ ∃ t cs, t ≠ 5 ∧ Blk w s t cs) : NBytesAt w' D v o := by
  cases o with
  | none => exact h
  | some l => exact BytesAt.kept h hk hS

theorem wpList_copy_kept {w : World} {ops : Array Oper} {rest : List Oper} {o : Oper} {a : Act} {Q : Exit → Act → World → Prop} (hgd : o.guard = none) (d s : Operand)
    (ho : o.op = .call { callee := .builtin .copy, args := #[d, s], argTypes := #[23, 23] })
    (dp : Option Addr) (dLen dCap : Nat) (g : Nat) (v : Value) (pre rst l : List UInt8) (hd : a.eval d = .slice dp dLen dCap) (hs : a.eval s = v) (D : Nat) (hv : BytesAt w D v l) (hDg : D ≤ g)
    (hdp : 0 < l.length → dp = some ⟨g, pre.length, none⟩) (hlen : l.length ≤ dLen) (hr : l.length ≤ rst.length) (hg : Blk w g 5 (Lib.byteCells (pre ++ rst)))
    (h : ∀ w', Kept w.heap.size [g] w w' → Blk w' g 5 (Lib.byteCells (pre ++ (l ++ rst.drop l.length))) → wpList Tryz.prog ops Q rest (a.put o.dst (goInt l.length)) w') :
    wpList Tryz.prog ops Q (o :: rest) a w := by
  obtain ⟨ad, c, _, _, rfl, hlt, _, hsrc⟩ := hv
  by_cases h0 : l.length = 0
  · obtain rfl : l = [] := List.eq_nil_of_length_eq_zero h0
    refine wpList_copy_nothing hgd d s 23 23 ho 5 Tryz.underlying23 (by kernel_rfl) dp (some ad) dLen dCap 0 c hd hs (by simp) ?_
    exact h w (Kept.refl _ _ _) (by simpa using hg)
  · obtain rfl := hdp (by omega)
    have hcl : (Lib.byteCells l).length = l.length := Lib.byteCells_length l
    refine wpList_copy_own hgd d s 23 23 ho 5 Tryz.underlying23 (by kernel_rfl) g pre.length dLen dCap ad l.length c hd hs (Lib.byteCells (pre ++ rst)).toArray 5 hg (Lib.byteCells l) (by rw [hcl]; exact (Nat.min_eq_left hlen).symm) hsrc (by simp [Lib.byteCells_length]; omega) (fun v hv => by simp [Lib.byteCells] at hv; obtain ⟨b, _, rfl⟩ := hv; rfl) ?_
    rw [hcl]
    refine h _ ⟨rfl, rfl, rfl, by simp [World.setRow], fun k hk hn _ => setRow_other w g k _ (by simpa using hn)⟩ ?_
    have h2 := setRow_heap w g (Lib.byteCells (pre ++ rst)).toArray ((Lib.byteCells (pre ++ (l ++ rst.drop l.length)))).toArray 5 _ hg
    unfold Blk
    rw [← h2]
    congr 3
    simp only [Lib.byteCells]
    simp [List.drop_append]
end Go.Proofs.YtmiflkccfieefaaGreatDoor
