/-
  Bytes of a call's own: appended to, copied.
-/
import Derived.Test.YtmiflkccfieefaaGreatDoorRecP
import Derived.Test.YtmiflkccfieefaaGreatDoorSafe
namespace Go.Proofs.YtmiflkccfieefaaGreatDoor
open Go.ChangeShapes Go.WideShapes Go.ChangeAt Go.RowKit
set_option maxRecDepth 100000
set_option linter.unusedVariables false

/-- A slice of the call's own, from block B on, not null: the bytes l. -/
def Own (w : World) (B : Nat) (v : Value) (l : List UInt8) : Prop := w.ownsRow B 5 1 v l.length (Lib.byteCells l) ∧ v ≠ .slice none 0 0
/-- A slice that holds the bytes l, null or not, in a row of bytes. -/
def DataSt (w : World) (D : Nat) (v : Value) (l : List UInt8) : Prop := BytesAt w D v l ∨ (v = .slice none 0 0 ∧ l = [])
/-- A slice that reads as the bytes l, in whatever row. -/
def BytesIn (w : World) (D : Nat) (v : Value) (l : List UInt8) : Prop := ∃ (a : Addr) (c : Nat), v = .slice (some a) l.length c ∧ ∀ j u, (Lib.byteCells l)[j]? = some u → a.block < D ∧ w.cell? (a.add j) = some u
/-- A slice that holds the bytes l, null or not. -/
def DataAt (w : World) (D : Nat) (v : Value) (l : List UInt8) : Prop := BytesAt w D v l ∨ (v = .slice none 0 0 ∧ l = []) ∨ BytesIn w D v l
theorem DataSt.weak {w : World} {D : Nat} {v : Value} {l : List UInt8} (h : DataSt w D v l) : DataAt w D v l := h.imp_right .inl
theorem DataAt.norm {w : World} {D : Nat} {v : Value} {l : List UInt8} (h : DataAt w D v l) : BytesIn w D v l ∨ (v = .slice none 0 0 ∧ l = []) := by
  rcases h with ⟨a, c, C, f, h1, h2, _, h3⟩ | h | h
  · exact .inl ⟨a, c, h1, fun j u hj => ⟨h2, h3 j u hj⟩⟩
  · exact .inr h
  · exact .inl h

theorem Own.form {w : World} {B : Nat} {v : Value} {l : List UInt8} (h : Own w B v l) : ∃ g cap cur, v = .slice (some ⟨g, 0, none⟩) l.length cap ∧ B ≤ g ∧ g < w.heap.size ∧ w.heap[g]? = some (.cells cur 5 (0, 0)) ∧ l.length ≤ cap ∧ cap ≤ maxLen ∧ cur.size = cap ∧ cur.toList.take l.length = Lib.byteCells l := by
  obtain ⟨⟨_, h1⟩, h2⟩ := h
  rcases h1 with ⟨h3, _⟩ | ⟨g, cap, cur, hv, hb, hg, h4, h5, h6, h7⟩
  · exact absurd h3 h2
  · exact ⟨g, cap, cur, hv, hb, (Array.getElem?_eq_some_iff.1 hg).1, hg, h4, h5, by simpa using h6, by simpa using h7⟩
theorem Own.bytes {w : World} {B : Nat} {v : Value} {l : List UInt8} (h : Own w B v l) {D : Nat} (hD : D = w.heap.size) : BytesAt w D v l := by
  obtain ⟨g, cap, cur, rfl, hb, hlt, hg, h4, h5, h6, h7⟩ := h.form
  subst hD
  refine ⟨_, cap, cur, (0, 0), rfl, hlt, hg, ?_⟩
  exact h.1.cells (g := g) rfl
theorem Own.below {w w' : World} {B C : Nat} {v : Value} {l : List UInt8} (h : Own w B v l) (hb : Below C w w') (hC : w.heap.size ≤ C) : Own w' B v l := by
  refine ⟨h.1.kept (w' := w') (row := none) ⟨hb.os, hb.tape, hb.output, hb.size, fun k hk _ => hb.block k (by omega)⟩ (.inr ?_), h.2⟩
  obtain ⟨g, cap, cur, rfl, _⟩ := h.form
  simp [Value.ownBlock]
theorem BytesAt.below {w w' : World} {D C : Nat} {v : Value} {l : List UInt8} (h : BytesAt w D v l) (hb : Below C w w') (hC : D ≤ C) : BytesAt w' D v l := by
  obtain ⟨a, c, C', f, rfl, hD, hg, hc⟩ := h
  have e := hb.block a.block (by omega)
  refine ⟨a, c, C', f, rfl, hD, e.trans hg, fun j u hj => ?_⟩
  rw [← hc j u hj]
  exact World.cell?_of_block (by rw [show (a.add j).block = a.block by unfold Addr.add; split <;> rfl]; exact e)
theorem DataSt.below {w w' : World} {D C : Nat} {v : Value} {l : List UInt8} (h : DataSt w D v l) (hb : Below C w w') (hC : D ≤ C) : DataSt w' D v l := by
  rcases h with h | h
  · exact .inl (h.below hb hC)
  · exact .inr h
theorem DataAt.below {w w' : World} {D C : Nat} {v : Value} {l : List UInt8} (h : DataAt w D v l) (hb : Below C w w') (hC : D ≤ C) : DataAt w' D v l := by
  rcases h with h | h | ⟨a, c, rfl, hc⟩
  · exact .inl (h.below hb hC)
  · exact .inr (.inl h)
  · refine .inr (.inr ⟨a, c, rfl, fun j u hj => ⟨(hc j u hj).1, ?_⟩⟩)
    have e := hb.block a.block (by have := (hc j u hj).1; omega)
    rw [← (hc j u hj).2]
    exact World.cell?_of_block (by rw [show (a.add j).block = a.block by unfold Addr.add; split <;> rfl]; exact e)
theorem DataAt.mono {w : World} {D D' : Nat} {v : Value} {l : List UInt8} (h : DataAt w D v l) (hD : D ≤ D') : DataAt w D' v l := by
  rcases h with ⟨a, c, C, f, h1, h2, h3, h4⟩ | h | ⟨a, c, h1, h3⟩
  · exact .inl ⟨a, c, C, f, h1, by omega, h3, h4⟩
  · exact .inr (.inl h)
  · exact .inr (.inr ⟨a, c, h1, fun j u hj => ⟨by have := (h3 j u hj).1; omega, (h3 j u hj).2⟩⟩)
theorem BytesAt.mono {w : World} {D D' : Nat} {v : Value} {l : List UInt8} (h : BytesAt w D v l) (hD : D ≤ D') : BytesAt w D' v l := by
  obtain ⟨a, c, C, f, rfl, h1, h2, h3⟩ := h
  exact ⟨a, c, C, f, rfl, by omega, h2, h3⟩
theorem grownBy_below {w w' : World} {B : Nat} {row : Option Nat} (h : w.grownBy w' row) (hr : ∀ g, row = some g → B ≤ g) (hB : B ≤ w.heap.size) : Below B w w' :=
  ⟨h.os, h.tape, h.output, h.size, fun k hk => h.block k (by omega) (fun e => by have := hr k e.symm; omega)⟩
theorem byteCells_one (l : List UInt8) : ∀ u ∈ Lib.byteCells l, u.oneCell' = true := by
  intro u hu
  simp [Lib.byteCells] at hu
  obtain ⟨b, _, rfl⟩ := hu
  rfl
theorem info5' : ∃ i, Tryz.prog.info? 5 = some i ∧ i.zero = some (.int .u8 0) ∧ i.size = 1 ∧ i.bytes = 1 := info_parts info5x where
  info5x : (Tryz.prog.info? 5).map (fun i => (i.zero, i.size, i.bytes)) = some (some (.int .u8 0), 1, 1) := by kernel_rfl

abbrev Own1 (w : World) (B : Nat) (v : Value) (l : List UInt8) : Prop := w.ownsRow B 5 1 v l.length (Lib.byteCells l)
theorem Own1.nil (w : World) (B : Nat) : Own1 w B (.slice none 0 0) [] := World.ownsRow_nil w B 5 1
theorem Own1.blk {w : World} {B : Nat} {v : Value} {l : List UInt8} (h : Own1 w B v l) {k : Nat} (hk : v.ownBlock = some k) : B ≤ k ∧ k < w.heap.size := by
  rcases h.2 with ⟨rfl, _⟩ | ⟨g, cap, cur, rfl, hb, hg, _⟩
  · simp [Value.ownBlock] at hk
  · have : g = k := by simpa [Value.ownBlock] using hk
    subst this
    exact ⟨hb, (Array.getElem?_eq_some_iff.1 hg).1⟩
theorem Own1.below {w w' : World} {B C : Nat} {v : Value} {l : List UInt8} (h : Own1 w B v l) (hb : Below C w w') (hC : w.heap.size ≤ C) : Own1 w' B v l := by
  rcases h.2 with hn | ⟨g, cap, cur, rfl, hB, hg, hr⟩
  · exact ⟨h.1, .inl hn⟩
  · exact ⟨h.1, .inr ⟨g, cap, cur, rfl, hB, (hb.block g (Nat.lt_of_lt_of_le (Array.getElem?_eq_some_iff.1 hg).1 hC)).trans hg, hr⟩⟩
theorem Own1.blk_far {w : World} {B : Nat} {v : Value} {l : List UInt8} (h : Own1 w B v l) {g t : Nat} {cs : List Value} (hb : Blk w g t cs) (ht : t ≠ 5) : some g ≠ v.ownBlock := by
  intro e
  exact own_ne h hb (fun h5 => ht h5.symm) e.symm
theorem Blk.grown {w w' : World} {g t : Nat} {cs : List Value} (h : Blk w g t cs) {B : Nat} {v : Value} {l : List UInt8} (hv : Own1 w B v l) (ht : t ≠ 5) (hg : w.grownBy w' v.ownBlock) : Blk w' g t cs :=
  (hg.block g h.lt (hv.blk_far h ht)).trans h
theorem BytesAt.grown {w w' : World} {D : Nat} {x : Value} {m : List UInt8} (h : BytesAt w D x m) {B : Nat} {v : Value} {l : List UInt8} (hv : Own1 w B v l) (hD : D ≤ B) (hg : w.grownBy w' v.ownBlock) (hB : B ≤ w.heap.size) : BytesAt w' D x m :=
  h.below (grownBy_below hg (fun k e => (hv.blk e).1) hB) hD

theorem run_app (w : World) (B : Nat) (v x : Value) (l m : List UInt8) (D ty : Nat) (hv : Own1 w B v l) (hx : DataAt w D x m) (hfit : l.length + m.length ≤ 1000000000) (hB : B ≤ w.heap.size) :
    ∃ v' w', (Builtin.append_ #[23, 23] ty #[v, x]).run Tryz.prog w = .ok v' w' ∧ Own1 w' B v' (l ++ m) ∧ (v' = .slice none 0 0 → v = .slice none 0 0 ∧ m = []) ∧ Below B w w' ∧ (v'.ownBlock = v.ownBlock ∨ v'.ownBlock = some w.heap.size) ∧ w.grownBy w' v.ownBlock := by
  obtain ⟨i, hi, hz, hs, hb⟩ := info5'
  rcases hx.norm with ⟨a, c, rfl, hc'⟩ | ⟨rfl, rfl⟩
  · obtain ⟨v', w', hr, ho, hgr, hnil, hat⟩ := run_append_own_at (P := Tryz.prog) w B 23 ty 5 i (.int .u8 0) 1 1 Tryz.underlying23 hi hz hs hb rfl (by omega) _ l.length _ hv a m.length c (Lib.byteCells m) (by simp [Lib.byteCells_length]) (fun j u hj => (hc' j u hj).2) (byteCells_one m) (by simp only [maxLen]; omega) (by omega) hB
    refine ⟨v', w', hr, ?_, fun e => ?_, grownBy_below hgr (fun k e => (hv.blk e).1) hB, hat, hgr⟩
    · show World.ownsRow _ _ _ _ _ _ _
      rw [Lib.byteCells_append, List.length_append]
      exact ho
    · have h2 := hnil.1 e
      exact ⟨h2.1, List.eq_nil_of_length_eq_zero h2.2⟩
  · rcases hv.2 with ⟨rfl, h0⟩ | ⟨g, cap, cur, rfl, hBg, hg, h4, h5, h6, h7⟩
    · refine ⟨.slice none 0 0, w, ?_, by simpa using hv, fun e => ⟨rfl, rfl⟩, Below.refl _ _, .inl rfl, ⟨rfl, rfl, rfl, Nat.le_refl _, fun _ _ _ => rfl⟩⟩
      simp [Builtin.append_, run_underlying Tryz.underlying23, sizeOf, typeInfo, hi, Builtin.lenOf, Builtin.firstCells]
    · refine ⟨.slice (some ⟨g, 0, none⟩) l.length cap, w, ?_, by simpa using hv, fun e => by simp at e, Below.refl _ _, .inl rfl, ⟨rfl, rfl, rfl, Nat.le_refl _, fun _ _ _ => rfl⟩⟩
      simp [Builtin.append_, run_underlying Tryz.underlying23, sizeOf, typeInfo, hi, Builtin.lenOf, Builtin.firstCells, loadCells, storeCells, h4]
theorem wp_app {w : World} {o : Oper} {a : Act} {K : Act → World → Prop} {Q : Exit → Act → World → Prop} (s x : Operand)
    (ho : o.op = .call { callee := .builtin .append, args := #[s, x], argTypes := #[23, 23] })
    (B : Nat) (v xv : Value) (l m : List UInt8) (D : Nat) (hs : a.eval s = v) (hx : a.eval x = xv) (hv : Own1 w B v l) (hm : DataAt w D xv m) (hfit : l.length + m.length ≤ 1000000000) (hB : B ≤ w.heap.size)
    (h : ∀ v' w', Own1 w' B v' (l ++ m) → (v' = .slice none 0 0 → v = .slice none 0 0 ∧ m = []) → Below B w w' → (v'.ownBlock = v.ownBlock ∨ v'.ownBlock = some w.heap.size) → w.grownBy w' v.ownBlock → K (a.put o.dst v') w') : o.wp Tryz.prog a w K Q := by
  obtain ⟨v', w', hr, h2, h3, h4, h5, h6⟩ := run_app w B v xv l m D o.type hv hm hfit hB
  unfold Oper.wp execOp
  simp only [ho, resolve, invoke, builtin, Sem.run_bind, Sem.run_pure, Result.andThen_ok, List.map_toArray, List.map_cons, List.map_nil, hs, hx, hr]
  exact h _ _ h2 h3 h4 h5 h6
theorem wpList_app {w : World} {ops : Array Oper} {rest : List Oper} {o : Oper} {a : Act} {Q : Exit → Act → World → Prop} (hgd : o.guard = none) (s x : Operand)
    (ho : o.op = .call { callee := .builtin .append, args := #[s, x], argTypes := #[23, 23] })
    (B : Nat) (v xv : Value) (l m : List UInt8) (D : Nat) (hs : a.eval s = v) (hx : a.eval x = xv) (hv : Own1 w B v l) (hm : DataAt w D xv m) (hfit : l.length + m.length ≤ 1000000000) (hB : B ≤ w.heap.size)
    (h : ∀ v' w', Own1 w' B v' (l ++ m) → (v' = .slice none 0 0 → v = .slice none 0 0 ∧ m = []) → Below B w w' → (v'.ownBlock = v.ownBlock ∨ v'.ownBlock = some w.heap.size) → w.grownBy w' v.ownBlock → wpList Tryz.prog ops Q rest (a.put o.dst v') w') : wpList Tryz.prog ops Q (o :: rest) a w :=
  wpList_plain hgd fun _ hK => wp_app s x ho B v xv l m D hs hx hv hm hfit hB fun v' w' h2 h3 h4 h5 h6 => hK _ _ (h v' w' h2 h3 h4 h5 h6)
theorem step_app {w : World} {ops : Array Oper} {o : Oper} {a : Act} {K : Act → World → Prop} {Q : Exit → Act → World → Prop} {E : Prop} (hgd : o.guard = none) (s x : Operand)
    (ho : o.op = .call { callee := .builtin .append, args := #[s, x], argTypes := #[23, 23] })
    (B : Nat) (v xv : Value) (l m : List UInt8) (D : Nat) (hs : a.eval s = v) (hx : a.eval x = xv) (hv : Own1 w B v l) (hm : DataAt w D xv m) (hfit : l.length + m.length ≤ 1000000000) (hB : B ≤ w.heap.size)
    (h : ∀ v' w', Own1 w' B v' (l ++ m) → (v' = .slice none 0 0 → v = .slice none 0 0 ∧ m = []) → Below B w w' → (v'.ownBlock = v.ownBlock ∨ v'.ownBlock = some w.heap.size) → w.grownBy w' v.ownBlock → K (a.put o.dst v') w') :
    if Region.wanted o (yielded ops a.tmps) = true then Oper.wp Tryz.prog o a w K Q else E := by
  have hw : Region.wanted o (yielded ops a.tmps) = true := by simp [Region.wanted, hgd]
  rw [if_pos hw]
  exact wp_app s x ho B v xv l m D hs hx hv hm hfit hB h
/-- One byte, in a block of its own. -/
theorem one_bytes (w : World) (b : Int) (h0 : 0 ≤ b) (h1 : b < 256) : BytesAt (w.alloc (.cells #[.int .u8 b] 5)) (w.heap.size + 1) (.slice (some ⟨w.heap.size, 0, none⟩) 1 1) [byteOf b] := by
  refine ⟨⟨w.heap.size, 0, none⟩, 1, #[.int .u8 b], (0, 0), rfl, by simp, heap_alloc_new _ _, ?_⟩
  have e : Lib.byteCells [byteOf b] = [.int .u8 b] := by
    have := byteOf_toNat b
    simp [Lib.byteCells]
    omega
  rw [e]
  exact cell_one_new _ _ _

/-- A copy. -/
theorem copied (x : Value) (l : List UInt8) (D : Nat) (w : World) (h : DataAt w D x l) (hl : l.length ≤ 1000000) (hD : D ≤ w.heap.size) :
    Calls Tryz.prog 70 #[x] w fun e w' => ∃ v, e = .returned v ∧ Own w' w.heap.size v l ∧ Below w.heap.size w w' := by
  have H := Lib.hid (And.intro h hl)
  clear h hl
  have hb0 : Below w.heap.size w (w.alloc (.cells #[] 5)) := (Below.refl _ _).alloc (Nat.le_refl _) _
  have h0 : Own1 (w.alloc (.cells #[] 5)) w.heap.size (.slice (some ⟨w.heap.size, 0, none⟩) 0 0) [] :=
    ⟨rfl, .inr ⟨w.heap.size, 0, #[], rfl, Nat.le_refl _, heap_alloc_new _ _, Nat.le_refl _, by simp [maxLen], rfl, rfl⟩⟩
  go_enter Tryz.func70, Tryz.ntmps70
  go_wp2_with (at_builtin; refine wpList_app rfl _ _ rfl w.heap.size _ _ [] l D rfl rfl h0 (H.out.1.below hb0 hD) (by have := H.out.2; simp; omega) (by simp) ?_)
  intro v' w1 ho hnil hbel hat hgr
  have HR := Lib.hid (show Own w1 w.heap.size v' l ∧ Below w.heap.size w w1 from ⟨⟨by simpa using ho, fun e => by first | exact hnil e | (have := (hnil e).1; simp at this)⟩, hb0.trans hbel⟩)
  clear hnil ho
  go_wp2
  go_ret
  exact ⟨v', rfl, HR.out⟩

/-- The law's varint. -/
theorem zig_xor {x : Int} (h0 : -9223372036854775808 ≤ x) (h1 : x ≤ 9223372036854775807) :
    bits .xor .u64 (IntKind.u64.wrap (wrap64 (x * 2))) (IntKind.u64.wrap (x / 9223372036854775808)) = ((Lib.zigzag x : Nat) : Int) := by
  by_cases hneg : x < 0
  · have e1 : IntKind.u64.wrap (wrap64 (x * 2)) = (((2 * x + 18446744073709551616).toNat : Nat) : Int) := by
      rw [IntKind.wrap_u64]
      unfold wrap64
      omega
    have e2 : IntKind.u64.wrap (x / 9223372036854775808) = ((2 ^ 64 - 1 : Nat) : Int) := by
      rw [IntKind.wrap_u64]
      omega
    rw [e1, e2, bits_xor_u64_nat _ _ (by omega) (by decide), Nat.xor_comm, Lib.xor_ones64 _ (by omega)]
    unfold Lib.zigzag
    rw [if_neg (by omega)]
    omega
  · have e1 : IntKind.u64.wrap (wrap64 (x * 2)) = (((2 * x).toNat : Nat) : Int) := by
      rw [IntKind.wrap_u64]
      unfold wrap64
      omega
    have e2 : IntKind.u64.wrap (x / 9223372036854775808) = ((0 : Nat) : Int) := by
      rw [IntKind.wrap_u64]
      omega
    rw [e1, e2, bits_xor_u64_nat _ _ (by omega) (by decide), Nat.xor_zero]
    unfold Lib.zigzag
    rw [if_pos (by omega)]
theorem byteOf_nat (y : Nat) (h : y < 256) : byteOf (y : Int) = y.toUInt8 := by
  unfold byteOf
  congr 1
  omega
set_option maxHeartbeats 4000000 in
theorem f48 (x : Int) (h0 : -9223372036854775808 ≤ x) (h1 : x ≤ 9223372036854775807) (w : World) :
    Calls Tryz.prog 48 #[.int .i64 x] w fun e w' => ∃ v, e = .returned v ∧ Own w' w.heap.size v (vb x) ∧ Below w.heap.size w w' := by
  have hzl := Lib.zigzag_lt h0 h1
  have HZ := Lib.hid (zig_xor h0 h1)
  go_enter Tryz.func48, Tryz.ntmps48
  go_wp2
  go_loopw [3, 4] (fun vx vb wr => ∃ (y : Nat) (pre : List UInt8), vx = .int .u64 y ∧ y ≤ Lib.zigzag x ∧ (Lib.uvarint (Lib.zigzag x)) = pre ++ Lib.uvarint y ∧ Own1 wr w.heap.size vb pre ∧ Below w.heap.size w wr)
    (fun vx _ _ => (intOf vx).toNat)
  case atStart =>
    exact ⟨Lib.zigzag x, [], by rw [HZ.out], Nat.le_refl _, rfl, Own1.nil _ _, Below.refl _ _⟩
  case round =>
    obtain ⟨y, pre, rfl, hy, hsplit, hown1, hnx⟩ := hrel
    have hpl : pre.length + (Lib.uvarint y).length ≤ 10 := by
      have h2 := congrArg List.length hsplit
      rw [List.length_append] at h2
      have := Lib.uvarint_length64 hzl
      omega
    have hsz := hnx.size
    by_cases h128 : 128 ≤ y
    · have hor : bits .or .u8 ((y : Int) % 256) 128 = ((y % 128 + 128 : Nat) : Int) := by
        rw [Lib.u8_or128_any _ (by omega) (by omega)]
        omega
      have hone := one_bytes wr ((y % 128 + 128 : Nat) : Int) (by omega) (by omega)
      have hb1 : Below wr.heap.size wr (wr.alloc (.cells #[.int .u8 ((y % 128 + 128 : Nat) : Int)] 5)) := (Below.refl _ _).alloc (Nat.le_refl _) _
      have ho1 := hown1.below hb1 (Nat.le_refl _)
      go_wp2_with (at_builtin; refine wpList_app rfl _ _ rfl w.heap.size _ _ pre [byteOf ((y % 128 + 128 : Nat) : Int)] _ rfl rfl ho1 (.inl hone) (by simp; omega) (by simp; omega) ?_)
      intro v' w1 hown' hnil hbel hat hgr
      have HR := Lib.hid (And.intro hown' ((hnx.trans (hb1.mono hsz)).trans hbel))
      clear hown' hnil hbel hat hgr
      go_wp2
      go_roundw
      case rel =>
        exact ⟨y / 128, pre ++ [byteOf ((y % 128 + 128 : Nat) : Int)], by go_num, by omega, by rw [hsplit, Lib.uvarint_big h128, byteOf_nat _ (by omega)]; simp, HR.out.1, HR.out.2⟩
      case measure => simp [intOf]; omega
    · have hsm : Lib.uvarint y = [y.toUInt8] := Lib.uvarint_small (by omega)
      have hone := one_bytes wr (y : Int) (by omega) (by omega)
      have hb1 : Below wr.heap.size wr (wr.alloc (.cells #[.int .u8 (y : Int)] 5)) := (Below.refl _ _).alloc (Nat.le_refl _) _
      have ho1 := hown1.below hb1 (Nat.le_refl _)
      go_wp2_with (at_builtin; refine wpList_app rfl _ _ rfl w.heap.size _ _ pre [byteOf (y : Int)] _ rfl rfl ho1 (.inl hone) (by simp; omega) (by simp; omega) ?_)
      intro v' w1 hown' hnil hbel hat hgr
      have hvb : vb x = pre ++ [byteOf (y : Int)] := by
        unfold vb
        rw [hsplit, hsm, byteOf_nat _ (by omega)]
      have HR := Lib.hid (show Own w1 w.heap.size v' (vb x) ∧ Below w.heap.size w w1 from ⟨⟨by rw [hvb]; exact hown', fun e => by first | exact hnil e | (have := (hnil e).2; simp at this)⟩, (hnx.trans (hb1.mono hsz)).trans hbel⟩)
      clear hown' hnil hbel hat hgr
      go_wp2
      go_ret
      exact ⟨v', rfl, HR.out⟩
end Go.Proofs.YtmiflkccfieefaaGreatDoor
