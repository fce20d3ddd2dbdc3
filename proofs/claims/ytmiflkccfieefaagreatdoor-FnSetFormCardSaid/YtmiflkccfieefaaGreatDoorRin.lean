/-
  A record of the law's type, and what the encoders take of it.
-/
import Derived.Test.YtmiflkccfieefaaGreatDoorOrd
namespace Go.Proofs.YtmiflkccfieefaaGreatDoor
open Go.ChangeShapes Go.WideShapes Go.ChangeAt Go.RowKit
set_option maxRecDepth 100000
set_option linter.unusedVariables false
set_option linter.unusedSimpArgs false

abbrev BP := Bool × List UInt8
abbrev BP.nb (x : BP) : NB := YtmiflkccfieefaaGreatDoor.nb x.1 x.2
/-- Header i of the row at a. -/
def HElem (w : World) (D : Nat) (a : Addr) (i : Nat) (x : BP × BP) : Prop :=
  ∃ kd vd, w.cell? (a.add (i * 4)) = some (.bool x.1.1) ∧ w.cell? ⟨(a.add (i * 4)).block, (a.add (i * 4)).off + 1, none⟩ = some kd ∧ w.cell? ⟨(a.add (i * 4)).block, (a.add (i * 4)).off + 2, none⟩ = some (.bool x.2.1) ∧ w.cell? ⟨(a.add (i * 4)).block, (a.add (i * 4)).off + 3, none⟩ = some vd ∧ DataAt w D kd x.1.2 ∧ DataAt w D vd x.2.2
def HIn (w : World) (D : Nat) (v : Value) (hs : List (BP × BP)) : Prop :=
  ∃ A c, v = .slice A hs.length c ∧ (hs ≠ [] → ∃ a : Addr, A = some a ∧ a.block < D ∧ ∀ i (h : i < hs.length), HElem w D a i hs[i])
theorem add_block (a : Addr) (j : Nat) : (a.add j).block = a.block := by unfold Addr.add; split <;> rfl
theorem cell_below {w w' : World} {C : Nat} (hb : Below C w w') (a : Addr) (h : a.block < C) : w'.cell? a = w.cell? a := World.cell?_of_block (hb.block a.block h)
theorem HElem.below {w w' : World} {D C : Nat} {a : Addr} {i : Nat} {x : BP × BP} (h : HElem w D a i x) (ha : a.block < D) (hb : Below C w w') (hC : D ≤ C) : HElem w' D a i x := by
  obtain ⟨kd, vd, h0, h1, h2, h3, h4, h5⟩ := h
  have e : ∀ j, w'.cell? ⟨(a.add (i * 4)).block, j, none⟩ = w.cell? ⟨(a.add (i * 4)).block, j, none⟩ := fun j => cell_below hb _ (by show (a.add (i * 4)).block < C; rw [add_block]; omega)
  exact ⟨kd, vd, (cell_below hb _ (by rw [add_block]; omega)).trans h0, (e _).trans h1, (e _).trans h2, (e _).trans h3, h4.below hb hC, h5.below hb hC⟩
theorem HIn.below {w w' : World} {D C : Nat} {v : Value} {hs : List (BP × BP)} (h : HIn w D v hs) (hb : Below C w w') (hC : D ≤ C) : HIn w' D v hs := by
  obtain ⟨A, c, rfl, h1⟩ := h
  refine ⟨A, c, rfl, fun hne => ?_⟩
  obtain ⟨a, hA, haD, hi⟩ := h1 hne
  exact ⟨a, hA, haD, fun i h => (hi i h).below haD hb hC⟩

/-- From w to w' no block that holds a record's data has turned. -/
def Same (w w' : World) : Prop := w.heap.size ≤ w'.heap.size ∧ ∀ (k : Nat) (C : Array Value) (t : TypeId) (f : Nat × Nat), w.heap[k]? = some (Obj.cells C t f) → (t = 5 ∨ t = 163) → w'.heap[k]? = w.heap[k]?
theorem Same.refl (w : World) : Same w w := ⟨Nat.le_refl _, fun _ _ _ _ _ _ => rfl⟩
theorem Same.trans {a b c : World} (h : Same a b) (k : Same b c) : Same a c := ⟨Nat.le_trans h.1 k.1, fun i C t f hi ht => by
  have e := h.2 i C t f hi ht
  exact (k.2 i C t f (e.trans hi) ht).trans e⟩
theorem lt_of_heap {w : World} {k : Nat} {o : Obj} (h : w.heap[k]? = some o) : k < w.heap.size := (Array.getElem?_eq_some_iff.1 h).1
theorem Same.of_below {a b : World} (h : Below a.heap.size a b) : Same a b := ⟨h.size, fun k C t f hk _ => h.block k (lt_of_heap hk)⟩
theorem Same.drew {a b : World} (h : Same a b) : Same a b.drew := h
theorem Same.alloc {a b : World} (h : Same a b) (o : Obj) : Same a (b.alloc o) := h.trans ⟨by simp, fun k C t f hk _ => Below.heap_alloc b o k (lt_of_heap hk)⟩
theorem Same.setCell {a b : World} (h : Same a b) {g t : Nat} {cs : List Value} (hg : Blk b g t cs) (ht : t ≠ 5 ∧ t ≠ 163) (i : Nat) (u : Value) : Same a (b.setCell ⟨g, i, none⟩ u) := h.trans ⟨by simp, fun k C t' f hk hk' => Below.heap_setCell b ⟨g, i, none⟩ u k (by
  rintro rfl
  unfold Blk at hg
  rw [hg] at hk
  injection hk with hk
  injection hk with _ hk
  subst hk
  rcases hk' with e | e
  · exact ht.1 e
  · exact ht.2 e)⟩
theorem Same.grown {a b c : World} (h : Same a b) {row : Option Nat} (hg : b.grownBy c row) (hr : ∀ g, row = some g → ∃ C t f, b.heap[g]? = some (Obj.cells C t f) ∧ t ≠ 5 ∧ t ≠ 163) : Same a c := h.trans ⟨hg.size, fun k C t f hk ht => hg.block k (lt_of_heap hk) (fun e => by
  obtain ⟨C', t', f', h1, h2, h3⟩ := hr k e.symm
  rw [hk] at h1
  injection h1 with h1
  injection h1 with _ h1
  subst h1
  rcases ht with e | e
  · exact h2 e
  · exact h3 e)⟩
theorem NBytesAt.form {w : World} {D : Nat} {v : Value} {o : NB} (h : NBytesAt w D v o) : ∃ A n c, v = .slice A n c := by
  cases o with
  | none => exact ⟨_, _, _, h⟩
  | some l =>
    obtain ⟨a, c, _, _, rfl, _⟩ := h
    exact ⟨_, _, _, rfl⟩
theorem NBytesAt.same {w w' : World} {D : Nat} {v : Value} {o : NB} (h : NBytesAt w D v o) (hs : Same w w') : NBytesAt w' D v o := by
  cases o with
  | none => exact h
  | some l =>
    obtain ⟨a, c, C, f, rfl, hD, hg, hc⟩ := h
    have e := hs.2 _ _ _ _ hg (.inl rfl)
    refine ⟨a, c, C, f, rfl, hD, e.trans hg, fun j u hj => ?_⟩
    rw [← hc j u hj]
    exact World.cell?_of_block (by rw [add_block]; exact e)
theorem Blk.same {w w' : World} {g : Nat} {cs : List Value} (h : Blk w g 163 cs) (hs : Same w w') : Blk w' g 163 cs := (hs.2 _ _ _ _ h (.inr rfl)).trans h

/-- A variable's block, and all that a call may not turn. -/
structure Box (w0 : World) (p t : Nat) (cs : List Value) (W : World) : Prop where
  blk : Blk W p t cs
  bel : Below w0.heap.size w0 W
  same : Same w0 W
theorem Box.call {w0 : World} {p t : Nat} {cs : List Value} {W W' : World} (h : Box w0 p t cs W) (hb : Below W.heap.size W W') : Box w0 p t cs W' :=
  ⟨h.blk.below hb h.blk.lt, h.bel.trans (hb.mono h.bel.size), h.same.trans (.of_below hb)⟩
theorem Box.alloc {w0 : World} {p t : Nat} {cs : List Value} {W : World} (h : Box w0 p t cs W) (o : Obj) : Box w0 p t cs (W.alloc o) :=
  ⟨h.blk.alloc o, h.bel.alloc h.bel.size o, h.same.alloc o⟩
theorem Box.drew {w0 : World} {p t : Nat} {cs : List Value} {W : World} (h : Box w0 p t cs W) : Box w0 p t cs W.drew := ⟨h.blk, h.bel.drew, h.same⟩

theorem Box.grown {w0 : World} {p t : Nat} {cs : List Value} {W W' : World} (h : Box w0 p t cs W) {row : Option Nat} (hg : W.grownBy W' row) (hp : some p ≠ row) (hr : ∀ g, row = some g → w0.heap.size ≤ g) (hs : Same W W') : Box w0 p t cs W' :=
  ⟨(hg.block p h.blk.lt hp).trans h.blk, h.bel.trans (grownBy_below hg hr h.bel.size), h.same.trans hs⟩
theorem Box.setCell {w0 : World} {p t : Nat} {cs : List Value} {W : World} (h : Box w0 p t cs W) (q : Addr) (u : Value) (hp : p ≠ q.block) (hq : w0.heap.size ≤ q.block) (hs : Same W (W.setCell q u)) : Box w0 p t cs (W.setCell q u) :=
  ⟨h.blk.far hp u, h.bel.setCell hq u, h.same.trans hs⟩
theorem own_below {w w' : World} {B n : Nat} {e : TypeId} {sv : Value} {xs : List Value} {C : Nat} (h : w.ownsRow B e 1 sv n xs) (hb : Below C w w') (hC : w.heap.size ≤ C) : w'.ownsRow B e 1 sv n xs := by
  rcases h.2 with hn | ⟨g, cap, cur, rfl, hB, hg, hr⟩
  · exact ⟨h.1, .inl hn⟩
  · exact ⟨h.1, .inr ⟨g, cap, cur, rfl, hB, (hb.block g (Nat.lt_of_lt_of_le (Array.getElem?_eq_some_iff.1 hg).1 hC)).trans hg, hr⟩⟩
theorem own_row {w : World} {B n : Nat} {e : TypeId} {sv : Value} {xs : List Value} (h : w.ownsRow B e 1 sv n xs) {g : Nat} (hg : sv.ownBlock = some g) : B ≤ g ∧ ∃ C, w.heap[g]? = some (.cells C e (0, 0)) := by
  rcases h.2 with ⟨rfl, _⟩ | ⟨g', cap, cur, rfl, hB, hgg, hr⟩
  · simp [Value.ownBlock] at hg
  · have : g' = g := by simpa [Value.ownBlock] using hg
    subst this
    exact ⟨hB, cur, hgg⟩
theorem own_setCell {w : World} {B n : Nat} {e : TypeId} {sv : Value} {xs : List Value} (h : w.ownsRow B e 1 sv n xs) {r t : Nat} {cs : List Value} (hr : Blk w r t cs) (hne : e ≠ t) (i : Nat) (u : Value) : (w.setCell ⟨r, i, none⟩ u).ownsRow B e 1 sv n xs := by
  have h2 := own_ne h hr hne
  rcases h.2 with hn | ⟨g, cap, cur, rfl, hB, hg, hr'⟩
  · exact ⟨h.1, .inl hn⟩
  · refine ⟨h.1, .inr ⟨g, cap, cur, rfl, hB, (Below.heap_setCell w ⟨r, i, none⟩ u g (fun e => h2 (by simp [Value.ownBlock, e]))).trans hg, hr'⟩⟩
theorem info161 : (Tryz.prog.info? 161).map (fun i => (i.zero, i.size, i.bytes)) = some (some (.pointer none), 1, 8) := by kernel_rfl
/-- A record, as the law's type has it. -/
structure RecV where
  attr : Int
  tm : Int
  od : Int
  key : BP
  val : BP
  hs : List (BP × BP)
def RIn (w : World) (D : Nat) (v : Value) (x : RecV) : Prop :=
  ∃ kd vd hv, v = .agg #[.int .i8 x.attr, .int .i64 x.tm, .int .i64 x.od, .bool x.key.1, kd, .bool x.val.1, vd, hv] ∧ DataAt w D kd x.key.2 ∧ DataAt w D vd x.val.2 ∧ HIn w D hv x.hs
def RecV.hb (x : RecV) : List (NB × NB) := x.hs.map fun h => (h.1.nb, h.2.nb)

/-- Pointers to headers of the encoders' type. -/
def PtrsAt (w : World) (ptrs : List Value) (hs : List (BP × BP)) : Prop :=
  ptrs.length = hs.length ∧ ∀ i (h : i < hs.length), ∃ b kv vv, ptrs[i]? = some (.pointer (some ⟨b, 0, none⟩)) ∧ Blk w b 163 [kv, vv] ∧ NBytesAt w w.heap.size kv hs[i].1.nb ∧ NBytesAt w w.heap.size vv hs[i].2.nb
theorem PtrsAt.nil (w : World) : PtrsAt w [] [] := ⟨rfl, fun i h => by simp at h⟩
theorem PtrsAt.same {w w' : World} {ptrs : List Value} {hs : List (BP × BP)} (h : PtrsAt w ptrs hs) (hs' : Same w w') : PtrsAt w' ptrs hs :=
  ⟨h.1, fun i hi => by
    obtain ⟨b, kv, vv, h1, h2, h3, h4⟩ := h.2 i hi
    exact ⟨b, kv, vv, h1, h2.same hs', (h3.same hs').mono hs'.1, (h4.same hs').mono hs'.1⟩⟩
theorem PtrsAt.snoc {w : World} {ptrs : List Value} {hs : List (BP × BP)} (h : PtrsAt w ptrs hs) {b : Nat} {kv vv : Value} {x : BP × BP} (h1 : Blk w b 163 [kv, vv]) (h2 : NBytesAt w w.heap.size kv x.1.nb) (h3 : NBytesAt w w.heap.size vv x.2.nb) :
    PtrsAt w (ptrs ++ [.pointer (some ⟨b, 0, none⟩)]) (hs ++ [x]) := by
  refine ⟨by simp [h.1], fun i hi => ?_⟩
  by_cases hlt : i < hs.length
  · obtain ⟨b', kv', vv', g1, g2, g3, g4⟩ := h.2 i hlt
    refine ⟨b', kv', vv', by rw [List.getElem?_append_left (by rw [h.1]; exact hlt)]; exact g1, g2, ?_, ?_⟩
    · rw [List.getElem_append_left hlt]; exact g3
    · rw [List.getElem_append_left hlt]; exact g4
  · have hi' : i = hs.length := by simp at hi; omega
    subst hi'
    refine ⟨b, kv, vv, by rw [← h.1]; simp, h1, ?_, ?_⟩
    · simpa using h2
    · simpa using h3
theorem box28 {w0 : World} {p t : Nat} {c0 c1 c2 c3 c4 c5 c6 c7 : Value} {W : World} (h : Box w0 p t [c0, c1, c2, c3, c4, c5, c6, c7] W) :
    W.cell? ⟨p, 0, none⟩ = some c0 ∧ W.cell? ⟨p, 1, none⟩ = some c1 ∧ W.cell? ⟨p, 2, none⟩ = some c2 ∧ W.cell? ⟨p, 3, none⟩ = some c3 ∧ W.cell? ⟨p, 4, none⟩ = some c4 ∧ W.cell? ⟨p, 5, none⟩ = some c5 ∧ W.cell? ⟨p, 6, none⟩ = some c6 ∧ W.cell? ⟨p, 7, none⟩ = some c7 ∧ Box w0 p t [c0, c1, c2, c3, c4, c5, c6, c7] W :=
  ⟨h.blk.cell 0, h.blk.cell 1, h.blk.cell 2, h.blk.cell 3, h.blk.cell 4, h.blk.cell 5, h.blk.cell 6, h.blk.cell 7, h⟩
theorem box90 {w0 : World} {p t : Nat} {c0 c1 c2 c3 : Value} {W : World} (h : Box w0 p t [c0, c1, c2, c3] W) :
    W.cell? ⟨p, 0, none⟩ = some c0 ∧ W.cell? ⟨p, 1, none⟩ = some c1 ∧ W.cell? ⟨p, 2, none⟩ = some c2 ∧ W.cell? ⟨p, 3, none⟩ = some c3 ∧ Box w0 p t [c0, c1, c2, c3] W :=
  ⟨h.blk.cell 0, h.blk.cell 1, h.blk.cell 2, h.blk.cell 3, h⟩

theorem hdrs_of {w : World} {B : Nat} {hv : Value} {n : Nat} {ptrs : List Value} {hs : List (BP × BP)} (hn : n = hs.length) (h : w.ownsRow B 161 1 hv n ptrs) (hp : PtrsAt w ptrs hs) : HdrsAt w w.heap.size hv (hs.map fun h => (h.1.nb, h.2.nb)) := by
  subst hn
  rcases h.2 with ⟨rfl, h0⟩ | ⟨g, cap, cur, rfl, hB, hg, h1, h2, h3, h4⟩
  · refine ⟨none, 0, by simp [h0], fun hne => ?_⟩
    exact absurd (by simpa using h0) (fun e : hs = [] => hne (by simp [e]))
  · refine ⟨some ⟨g, 0, none⟩, cap, by simp, fun hne => ⟨g, cur, (0, 0), rfl, lt_of_heap hg, hg, fun i hi => ?_⟩⟩
    have hi' : i < hs.length := by simpa using hi
    obtain ⟨b, kv, vv, g1, g2, g3, g4⟩ := hp.2 i hi'
    refine ⟨b, kv, vv, ?_, g2.lt, g2, by simpa using g3, by simpa using g4⟩
    have hc := h.cells (g := g) rfl i _ g1
    rw [← hc]
    congr 1
    unfold Addr.add
    split <;> simp_all
set_option maxHeartbeats 4000000 in
/-- Record.record: the encoders' record, of the law's. -/
theorem f51 (D : Nat) (x : RecV) (v : Value) (w : World) (h : RIn w D v x) (hD : D ≤ w.heap.size) (hk : x.key.2.length ≤ 1000) (hv : x.val.2.length ≤ 1000) (ht0 : -1099511627776 ≤ x.tm) (ht1 : x.tm ≤ 1099511627776) (hhl : x.hs.length ≤ 6) (hhb : ∀ h ∈ x.hs, h.1.2.length ≤ 1000 ∧ h.2.2.length ≤ 1000) :
    Calls Tryz.prog 51 #[v] w fun e w' => ∃ r, e = .returned (.pointer (some ⟨r, 0, none⟩)) ∧ w.heap.size ≤ r ∧ r < w'.heap.size ∧ RecAt w' w'.heap.size r x.attr (x.tm * 1000000) x.od x.key.nb x.val.nb x.hb 0 0 ∧ Below w.heap.size w w' := by
  obtain ⟨kd, vd, hv', rfl, h1, h2, h3⟩ := h
  have H := Lib.hid (And.intro h1 (And.intro h2 h3))
  clear h1 h2 h3
  have hbx : Box w w.heap.size 28 [.int .i8 x.attr, .int .i64 x.tm, .int .i64 x.od, .bool x.key.1, kd, .bool x.val.1, vd, hv'] (w.alloc (.cells #[.int .i8 x.attr, .int .i64 x.tm, .int .i64 x.od, .bool x.key.1, kd, .bool x.val.1, vd, hv'] 28)).drew :=
    ⟨(Blk.new w 28 [.int .i8 x.attr, .int .i64 x.tm, .int .i64 x.od, .bool x.key.1, kd, .bool x.val.1, vd, hv']).drew, ((Below.refl _ _).alloc (Nat.le_refl _) _).drew, ((Same.refl _).alloc _).drew⟩
  have HW := Lib.hid (IntWalk.i64_in (x.tm * 1000000) (by omega))
  go_enter Tryz.func51, Tryz.ntmps51
  go_wp2_with fail
  go_region_held3 (fun W => W.cell? ⟨w.heap.size, 0, none⟩ = some (.int .i8 x.attr) ∧ W.cell? ⟨w.heap.size, 1, none⟩ = some (.int .i64 x.tm) ∧ W.cell? ⟨w.heap.size, 2, none⟩ = some (.int .i64 x.od) ∧ W.cell? ⟨w.heap.size, 3, none⟩ = some (.bool x.key.1) ∧ W.cell? ⟨w.heap.size, 4, none⟩ = some kd ∧ W.cell? ⟨w.heap.size, 5, none⟩ = some (.bool x.val.1) ∧ W.cell? ⟨w.heap.size, 6, none⟩ = some vd ∧ W.cell? ⟨w.heap.size, 7, none⟩ = some hv' ∧ Box w w.heap.size 28 [.int .i8 x.attr, .int .i64 x.tm, .int .i64 x.od, .bool x.key.1, kd, .bool x.val.1, vd, hv'] W)
    (first | exact box28 hbx | exact box28 (Box.call (by assumption) hb2) | exact box28 (Box.call (by assumption) hb) | exact box28 (Box.alloc (by assumption) _))
    (first | (go_at_call_of 82 (Value.agg #[.bool x.key.1, kd]); refine (raw x.key.1 kd x.key.2 D _ (H.out.1.below hbx.bel hD) (by omega) (by simp; omega)).mono ?_; rintro e w1 ⟨kv, rfl, hkv, hb⟩; obtain ⟨kA, kn, kc, hkf⟩ := hkv.form; subst hkf) | (go_at_call_of 82 (Value.agg #[.bool x.val.1, vd]); have hbx1 := Box.call hbx hb; refine (raw x.val.1 vd x.val.2 D _ (H.out.2.1.below hbx1.bel hD) (by omega) (by have := hbx1.bel.size; omega)).mono ?_; rintro e w2 ⟨vv, rfl, hvv, hb2⟩; obtain ⟨vA, vn, vc, hvf⟩ := hvv.form; subst hvf; have hbx2 := Box.call hbx1 hb2))
  rw [HW.out]
  have hr3 := Blk.new w2 101 [Value.slice none 0 0, .int .i8 x.attr, .int .i64 (x.tm * 1000000), .int .i64 x.od, .slice kA kn kc, .slice vA vn vc, .int .i64 0, .int .i64 0]
  have hbx3 := hbx2.alloc (.cells #[Value.slice none 0 0, .int .i8 x.attr, .int .i64 (x.tm * 1000000), .int .i64 x.od, .slice kA kn kc, .slice vA vn vc, .int .i64 0, .int .i64 0] 101)
  have hkv3 : NBytesAt (w2.alloc (.cells #[Value.slice none 0 0, .int .i8 x.attr, .int .i64 (x.tm * 1000000), .int .i64 x.od, .slice kA kn kc, .slice vA vn vc, .int .i64 0, .int .i64 0] 101)) w2.heap.size (.slice kA kn kc) x.key.nb := (((hkv.below hb2 (Nat.le_refl _)).same ((Same.refl _).alloc _)).mono hb2.size)
  have hvv3 : NBytesAt (w2.alloc (.cells #[Value.slice none 0 0, .int .i8 x.attr, .int .i64 (x.tm * 1000000), .int .i64 x.od, .slice kA kn kc, .slice vA vn vc, .int .i64 0, .int .i64 0] 101)) w2.heap.size (.slice vA vn vc) x.val.nb := (hvv.same ((Same.refl _).alloc _))
  have hin3 := H.out.2.2.below hbx3.bel hD
  have hws := hbx2.bel.size
  obtain ⟨hA, hc, hve, hhi⟩ := hin3
  subst hve
  have hc7 := hbx3.blk.cell 7
  have hz3 : (w2.alloc (.cells #[Value.slice none 0 0, .int .i8 x.attr, .int .i64 (x.tm * 1000000), .int .i64 x.od, .slice kA kn kc, .slice vA vn vc, .int .i64 0, .int .i64 0] 101)).heap.size = w2.heap.size + 1 := by simp
  generalize (w2.alloc (.cells #[Value.slice none 0 0, .int .i8 x.attr, .int .i64 (x.tm * 1000000), .int .i64 x.od, .slice kA kn kc, .slice vA vn vc, .int .i64 0, .int .i64 0] 101)) = w3 at *
  generalize w2.heap.size = r at *
  have H3 := Lib.hid (And.intro hr3 (And.intro hbx3 (And.intro hkv3 (And.intro hvv3 hhi))))
  clear hr3 hbx3 hkv3 hvv3 hhi hbx2 hbx1 hkv hvv hb hb2 hbx
  rename_i hHeld
  clear hHeld
  go_wp2
  go_loopw [24] (fun i wr => ∃ k : Nat, k ≤ x.hs.length ∧ i = .int .i64 k ∧ Hid (∃ hv ptrs, Blk wr r 101 [hv, .int .i8 x.attr, .int .i64 (x.tm * 1000000), .int .i64 x.od, .slice kA kn kc, .slice vA vn vc, .int .i64 0, .int .i64 0] ∧
      wr.ownsRow w.heap.size 161 1 hv k ptrs ∧ PtrsAt wr ptrs (x.hs.take k) ∧ Below w.heap.size w wr ∧ Same w3 wr)) (fun i _ => x.hs.length - (intOf i).toNat)
  case atStart => exact ⟨0, by omega, rfl, ⟨_, [], H3.out.1, World.ownsRow_nil _ _ _ _, PtrsAt.nil _, H3.out.2.1.bel, Same.refl _⟩⟩
  case round =>
    obtain ⟨k, hk, rfl, HS⟩ := hrel
    by_cases hlt : k < x.hs.length
    · obtain ⟨hv, ptrs, hrr, hown, hptr, hbel, hsame⟩ := HS.out
      have hin := H.out.2.2.below hbel hD
      obtain ⟨A', c', hAe, hh⟩ := hin
      injection hAe with hA1 hA2 hA3
      subst hA1
      obtain ⟨a, rfl, haD, hall⟩ := hh (by intro e; rw [e] at hlt; simp at hlt)
      obtain ⟨kd', vd', g0, g1, g2, g3, hkd, hvd⟩ := hall k hlt
      obtain ⟨kA2, kc2, rfl⟩ := hkd.sl
      obtain ⟨vA2, vc2, rfl⟩ := hvd.sl
      have HX := Lib.hid (And.intro hkd hvd)
      have HR := Lib.hid (And.intro hrr (And.intro hown (And.intro hptr (And.intro hbel hsame))))
      clear hall hh hkd hvd hrr hown hptr hbel hsame hA2 hA3
      go_wp2_with fail
      have hbv : Below wr.heap.size wr (wr.alloc (.cells #[.bool x.hs[k].1.1, .slice kA2 x.hs[k].1.2.length kc2, .bool x.hs[k].2.1, .slice vA2 x.hs[k].2.2.length vc2] 90)) := (Below.refl _ _).alloc (Nat.le_refl _) _
      have hB3 : Box w wr.heap.size 90 [.bool x.hs[k].1.1, .slice kA2 x.hs[k].1.2.length kc2, .bool x.hs[k].2.1, .slice vA2 x.hs[k].2.2.length vc2] (wr.alloc (.cells #[.bool x.hs[k].1.1, .slice kA2 x.hs[k].1.2.length kc2, .bool x.hs[k].2.1, .slice vA2 x.hs[k].2.2.length vc2] 90)).drew :=
        ⟨(Blk.new wr 90 [.bool x.hs[k].1.1, .slice kA2 x.hs[k].1.2.length kc2, .bool x.hs[k].2.1, .slice vA2 x.hs[k].2.2.length vc2]).drew, (HR.out.2.2.2.1.trans (hbv.mono HR.out.2.2.2.1.size)).drew, (((Same.of_below (HR.out.2.2.2.1.mono (Nat.le_refl _))).trans (Same.of_below hbv))).drew⟩
      have hE3 : Below wr.heap.size wr (wr.alloc (.cells #[.bool x.hs[k].1.1, .slice kA2 x.hs[k].1.2.length kc2, .bool x.hs[k].2.1, .slice vA2 x.hs[k].2.2.length vc2] 90)).drew := hbv.drew
      have cr3 := (HR.out.1.below hE3 HR.out.1.lt).cell 0
      simp only [List.getElem?_cons_zero] at cr3
      generalize (wr.alloc (.cells #[.bool x.hs[k].1.1, .slice kA2 x.hs[k].1.2.length kc2, .bool x.hs[k].2.1, .slice vA2 x.hs[k].2.2.length vc2] 90)) = wv at *
      have hlk := hhb x.hs[k] (by simp)
      obtain ⟨i1, hi1, hz1, hs1, hb1⟩ := info_parts info161
      have hS3 : (fun W => W.cell? ⟨wr.heap.size, 0, none⟩ = some (.bool x.hs[k].1.1) ∧ W.cell? ⟨wr.heap.size, 1, none⟩ = some (.slice kA2 x.hs[k].1.2.length kc2) ∧ W.cell? ⟨wr.heap.size, 2, none⟩ = some (.bool x.hs[k].2.1) ∧ W.cell? ⟨wr.heap.size, 3, none⟩ = some (.slice vA2 x.hs[k].2.2.length vc2) ∧ W.cell? ⟨r, 0, none⟩ = some hv) wv.drew := ⟨(box90 hB3).1, (box90 hB3).2.1, (box90 hB3).2.2.1, (box90 hB3).2.2.2.1, cr3⟩
      refine wp_region_E 17 (fun W => W.cell? ⟨wr.heap.size, 0, none⟩ = some (.bool x.hs[k].1.1) ∧ W.cell? ⟨wr.heap.size, 1, none⟩ = some (.slice kA2 x.hs[k].1.2.length kc2) ∧ W.cell? ⟨wr.heap.size, 2, none⟩ = some (.bool x.hs[k].2.1) ∧ W.cell? ⟨wr.heap.size, 3, none⟩ = some (.slice vA2 x.hs[k].2.2.length vc2) ∧ W.cell? ⟨r, 0, none⟩ = some hv) (by kernel_rfl) ?_
      refine wpE_takeL (i := 0) (v := ?_) rfl (by kernel_rfl) (by kernel_rfl) (by kernel_rfl) (by kernel_rfl) (fun _ _ _ h => h) (by assumption) (Or.inl ⟨by rfl, ?_⟩) ?_
      rotate_left
      · intro W hSw
        try dsimp only at hSw
        go_split_ands
        go_simp
        try with_reducible rfl
      try simp only [Act.put, List.setIfInBounds_toArray, List.set_cons_zero, List.set_cons_succ]
      refine wpE_takeL (i := 1) (v := ?_) rfl (by kernel_rfl) (by kernel_rfl) (by kernel_rfl) (by kernel_rfl) (fun _ _ _ h => h) (by assumption) (Or.inl ⟨by rfl, ?_⟩) ?_
      rotate_left
      · intro W hSw
        try dsimp only at hSw
        go_split_ands
        go_simp
        try with_reducible rfl
      try simp only [Act.put, List.setIfInBounds_toArray, List.set_cons_zero, List.set_cons_succ]
      refine wpE_takeL (i := 2) (v := ?_) rfl (by kernel_rfl) (by kernel_rfl) (by kernel_rfl) (by kernel_rfl) (fun _ _ _ h => h) (by assumption) (Or.inl ⟨by rfl, ?_⟩) ?_
      rotate_left
      · intro W hSw
        try dsimp only at hSw
        go_split_ands
        go_simp
        try with_reducible rfl
      try simp only [Act.put, List.setIfInBounds_toArray, List.set_cons_zero, List.set_cons_succ]
      refine wpE_takeL (i := 3) (v := ?_) rfl (by kernel_rfl) (by kernel_rfl) (by kernel_rfl) (by kernel_rfl) (fun _ _ _ h => h) (by assumption) (Or.inl ⟨by rfl, ?_⟩) ?_
      rotate_left
      · intro W hSw
        try dsimp only at hSw
        go_split_ands
        go_simp
        try with_reducible rfl
      try simp only [Act.put, List.setIfInBounds_toArray, List.set_cons_zero, List.set_cons_succ]
      refine wpE_takeL (i := 4) (v := ?_) rfl (by kernel_rfl) (by kernel_rfl) (by kernel_rfl) (by kernel_rfl) (fun _ _ _ h => h) (by assumption) (Or.inl ⟨by rfl, ?_⟩) ?_
      rotate_left
      · intro W hSw
        try dsimp only at hSw
        go_split_ands
        go_simp
        try with_reducible rfl
      try simp only [Act.put, List.setIfInBounds_toArray, List.set_cons_zero, List.set_cons_succ]
      refine wpE_takeL (i := 5) (v := ?_) rfl (by kernel_rfl) (by kernel_rfl) (by kernel_rfl) (by kernel_rfl) (fun _ _ _ h => h) (by assumption) (Or.inl ⟨by rfl, ?_⟩) ?_
      rotate_left
      · intro W hSw
        try dsimp only at hSw
        go_split_ands
        go_simp
        try with_reducible rfl
      try simp only [Act.put, List.setIfInBounds_toArray, List.set_cons_zero, List.set_cons_succ]
      refine wpE_takeL (i := 6) (v := ?_) rfl (by kernel_rfl) (by kernel_rfl) (by kernel_rfl) (by kernel_rfl) (fun _ _ _ h => h) (by assumption) (Or.inl ⟨by rfl, ?_⟩) ?_
      rotate_left
      · intro W hSw
        try dsimp only at hSw
        go_split_ands
        go_simp
        try with_reducible rfl
      try simp only [Act.put, List.setIfInBounds_toArray, List.set_cons_zero, List.set_cons_succ]
      refine wpE_takeL (i := 8) (v := ?_) rfl (by kernel_rfl) (by kernel_rfl) (by kernel_rfl) (by kernel_rfl) (fun _ _ _ h => h) (by assumption) (Or.inl ⟨by rfl, ?_⟩) ?_
      rotate_left
      · intro W hSw
        try dsimp only at hSw
        go_split_ands
        go_simp
        try with_reducible rfl
      try simp only [Act.put, List.setIfInBounds_toArray, List.set_cons_zero, List.set_cons_succ]
      refine wpE_takeL (i := 9) (v := ?_) rfl (by kernel_rfl) (by kernel_rfl) (by kernel_rfl) (by kernel_rfl) (fun _ _ _ h => h) (by assumption) (Or.inl ⟨by rfl, ?_⟩) ?_
      rotate_left
      · intro W hSw
        try dsimp only at hSw
        go_split_ands
        go_simp
        try with_reducible rfl
      try simp only [Act.put, List.setIfInBounds_toArray, List.set_cons_zero, List.set_cons_succ]
      refine wpE_oneL (i := 7) rfl (by kernel_rfl) (fun K hK => ?_)
      go_simp
      go_at_call 82
      refine (raw x.hs[k].1.1 _ x.hs[k].1.2 D _ (HX.out.1.below (hE3.mono (by have := HR.out.2.2.2.1.size; omega)) (Nat.le_refl _)) (by omega) (by have := hB3.bel.size; omega)).mono ?_
      rintro e w4 ⟨kv4, rfl, hkv4, hb4⟩
      obtain ⟨kA4, kn4, kc4, hkf4⟩ := hkv4.form
      subst hkf4
      have hB4 := Box.call hB3 hb4
      have hE4 := hE3.trans (hb4.mono hE3.size)
      have cr4 := (HR.out.1.below hE4 HR.out.1.lt).cell 0
      simp only [List.getElem?_cons_zero] at cr4
      try simp only []
      have hS4 : (fun W => W.cell? ⟨wr.heap.size, 0, none⟩ = some (.bool x.hs[k].1.1) ∧ W.cell? ⟨wr.heap.size, 1, none⟩ = some (.slice kA2 x.hs[k].1.2.length kc2) ∧ W.cell? ⟨wr.heap.size, 2, none⟩ = some (.bool x.hs[k].2.1) ∧ W.cell? ⟨wr.heap.size, 3, none⟩ = some (.slice vA2 x.hs[k].2.2.length vc2) ∧ W.cell? ⟨r, 0, none⟩ = some hv) w4 := ⟨(box90 hB4).1, (box90 hB4).2.1, (box90 hB4).2.2.1, (box90 hB4).2.2.2.1, cr4⟩
      refine hK.out _ _ (fun _ => hS4) ?_
      clear hK K
      try simp only [Act.put, List.setIfInBounds_toArray, List.set_cons_zero, List.set_cons_succ]
      refine wpE_oneL (i := 10) rfl (by kernel_rfl) (fun K hK => ?_)
      go_simp
      go_at_call 82
      refine (raw x.hs[k].2.1 _ x.hs[k].2.2 D _ (HX.out.2.below (hE4.mono (by have := HR.out.2.2.2.1.size; omega)) (Nat.le_refl _)) (by omega) (by have := hB4.bel.size; omega)).mono ?_
      rintro e w5 ⟨kv5, rfl, hkv5, hb5⟩
      obtain ⟨kA5, kn5, kc5, hkf5⟩ := hkv5.form
      subst hkf5
      have hB5 := Box.call hB4 hb5
      have hE5 := hE4.trans (hb5.mono hE4.size)
      have cr5 := (HR.out.1.below hE5 HR.out.1.lt).cell 0
      simp only [List.getElem?_cons_zero] at cr5
      try simp only []
      have hS5 : (fun W => W.cell? ⟨wr.heap.size, 0, none⟩ = some (.bool x.hs[k].1.1) ∧ W.cell? ⟨wr.heap.size, 1, none⟩ = some (.slice kA2 x.hs[k].1.2.length kc2) ∧ W.cell? ⟨wr.heap.size, 2, none⟩ = some (.bool x.hs[k].2.1) ∧ W.cell? ⟨wr.heap.size, 3, none⟩ = some (.slice vA2 x.hs[k].2.2.length vc2) ∧ W.cell? ⟨r, 0, none⟩ = some hv) w5 := ⟨(box90 hB5).1, (box90 hB5).2.1, (box90 hB5).2.2.1, (box90 hB5).2.2.2.1, cr5⟩
      refine hK.out _ _ (fun _ => hS5) ?_
      clear hK K
      try simp only [Act.put, List.setIfInBounds_toArray, List.set_cons_zero, List.set_cons_succ]
      refine wpE_takeL (i := 11) (v := ?_) rfl (by kernel_rfl) (by kernel_rfl) (by kernel_rfl) (by kernel_rfl) (fun _ _ _ h => h) (by assumption) (Or.inl ⟨by rfl, ?_⟩) ?_
      rotate_left
      · intro W hSw
        try dsimp only at hSw
        go_split_ands
        go_simp
        try with_reducible rfl
      try simp only [Act.put, List.setIfInBounds_toArray, List.set_cons_zero, List.set_cons_succ]
      refine wpE_oneL (i := 12) rfl (by kernel_rfl) (fun K hK => ?_)
      go_simp
      have hE51 := hE5.alloc hE5.size (.cells #[.slice kA4 kn4 kc4, .slice kA5 kn5 kc5] 163)
      have hB51 := hB5.alloc (.cells #[.slice kA4 kn4 kc4, .slice kA5 kn5 kc5] 163)
      have cr51 := (HR.out.1.below hE51 HR.out.1.lt).cell 0
      simp only [List.getElem?_cons_zero] at cr51
      have hS51 : (fun W => W.cell? ⟨wr.heap.size, 0, none⟩ = some (.bool x.hs[k].1.1) ∧ W.cell? ⟨wr.heap.size, 1, none⟩ = some (.slice kA2 x.hs[k].1.2.length kc2) ∧ W.cell? ⟨wr.heap.size, 2, none⟩ = some (.bool x.hs[k].2.1) ∧ W.cell? ⟨wr.heap.size, 3, none⟩ = some (.slice vA2 x.hs[k].2.2.length vc2) ∧ W.cell? ⟨r, 0, none⟩ = some hv) (w5.alloc (.cells #[.slice kA4 kn4 kc4, .slice kA5 kn5 kc5] 163)) := ⟨(box90 hB51).1, (box90 hB51).2.1, (box90 hB51).2.2.1, (box90 hB51).2.2.2.1, cr51⟩
      refine hK.out _ _ (fun _ => hS51) ?_
      clear hK K
      try simp only [Act.put, List.setIfInBounds_toArray, List.set_cons_zero, List.set_cons_succ]
      refine wpE_oneL (i := 13) rfl (by kernel_rfl) (fun K hK => ?_)
      go_simp
      have hE52 := hE51.alloc hE51.size (.cells #[.pointer (some ⟨w5.heap.size, 0, none⟩)] 161)
      have hB52 := hB51.alloc (.cells #[.pointer (some ⟨w5.heap.size, 0, none⟩)] 161)
      have cr52 := (HR.out.1.below hE52 HR.out.1.lt).cell 0
      simp only [List.getElem?_cons_zero] at cr52
      have hS52 : (fun W => W.cell? ⟨wr.heap.size, 0, none⟩ = some (.bool x.hs[k].1.1) ∧ W.cell? ⟨wr.heap.size, 1, none⟩ = some (.slice kA2 x.hs[k].1.2.length kc2) ∧ W.cell? ⟨wr.heap.size, 2, none⟩ = some (.bool x.hs[k].2.1) ∧ W.cell? ⟨wr.heap.size, 3, none⟩ = some (.slice vA2 x.hs[k].2.2.length vc2) ∧ W.cell? ⟨r, 0, none⟩ = some hv) ((w5.alloc (.cells #[.slice kA4 kn4 kc4, .slice kA5 kn5 kc5] 163)).alloc (.cells #[.pointer (some ⟨w5.heap.size, 0, none⟩)] 161)) := ⟨(box90 hB52).1, (box90 hB52).2.1, (box90 hB52).2.2.1, (box90 hB52).2.2.2.1, cr52⟩
      refine hK.out _ _ (fun _ => hS52) ?_
      clear hK K
      try simp only [Act.put, List.setIfInBounds_toArray, List.set_cons_zero, List.set_cons_succ]
      refine wpE_oneL (i := 14) rfl (by kernel_rfl) (fun K hK => ?_)
      refine step_append_lies _ rfl _ _ 96 rfl w.heap.size 161 i1 (.pointer none) 1 8 Tryz.underlying96 hi1 hz1 hs1 hb1 rfl (by omega) hv k ptrs rfl (own_below HR.out.2.1 ((hE5.alloc hE5.size _).alloc (by have := hE5.size; simp; omega) _) (Nat.le_refl _)) ⟨w5.heap.size + 1, 0, none⟩ 1 1 [.pointer (some ⟨w5.heap.size, 0, none⟩)] rfl rfl (World.news_of_block (cs := #[.pointer (some ⟨w5.heap.size, 0, none⟩)]) (t := 161) (fr := (0, 0)) (by have h := heap_alloc_new (w5.alloc (.cells #[.slice kA4 kn4 kc4, .slice kA5 kn5 kc5] 163)) (.cells #[.pointer (some ⟨w5.heap.size, 0, none⟩)] 161); simpa using h)) (by simp [Value.oneCell']) (by omega) (by simp only [maxLen]; omega) (by omega) (by have := hB5.bel.size; simp; omega) (w5.heap.size + 2) (by simp) ?_
      intro g6 cap6 w6 hown6 hgr6 hat6 hlt6
      have hB6 := (hB5.alloc (.cells #[.slice kA4 kn4 kc4, .slice kA5 kn5 kc5] 163)).alloc (.cells #[.pointer (some ⟨w5.heap.size, 0, none⟩)] 161)
      have hE6 : Below wr.heap.size wr ((w5.alloc (.cells #[.slice kA4 kn4 kc4, .slice kA5 kn5 kc5] 163)).alloc (.cells #[.pointer (some ⟨w5.heap.size, 0, none⟩)] 161)) := (hE5.alloc hE5.size _).alloc (by have := hE5.size; simp; omega) _
      have ho6 := own_below HR.out.2.1 hE6 (Nat.le_refl _)
      have hsm : Same ((w5.alloc (.cells #[.slice kA4 kn4 kc4, .slice kA5 kn5 kc5] 163)).alloc (.cells #[.pointer (some ⟨w5.heap.size, 0, none⟩)] 161)) w6 := (Same.refl _).grown hgr6 (fun g e => by
        obtain ⟨C, hC⟩ := (own_row ho6 e).2
        exact ⟨C, 161, _, hC, by decide, by decide⟩)
      have hB7 := hB6.grown hgr6 (fun e => own_ne ho6 hB6.blk (by decide) e.symm) (fun g e => (own_row ho6 e).1) hsm
      have hr5 := HR.out.1.below hE6 HR.out.1.lt
      have hr6 : Blk w6 r 101 _ := (hgr6.block r hr5.lt (fun e => own_ne ho6 hr5 (by decide) e.symm)).trans hr5
      have hrlt := HR.out.1.lt
      have c6 := hr6.cell 0
      have z6 := hr6.frozen 0
      simp only [List.getElem?_cons_zero] at c6
      have hss := (Same.refl w6).setCell hr6 ⟨by decide, by decide⟩ 0 (.slice (some ⟨g6, 0, none⟩) (k + 1) cap6)
      have hB8 := hB7.setCell ⟨r, 0, none⟩ (.slice (some ⟨g6, 0, none⟩) (k + 1) cap6) (show wr.heap.size ≠ r by omega) hws hss
      have hS6 : Same wr (w6.setCell ⟨r, 0, none⟩ (.slice (some ⟨g6, 0, none⟩) (k + 1) cap6)) := ((Same.of_below hE6).trans hsm).trans hss
      have hbn : Blk w6 w5.heap.size 163 [.slice kA4 kn4 kc4, .slice kA5 kn5 kc5] := (((Blk.new w5 163 [.slice kA4 kn4 kc4, .slice kA5 kn5 kc5]).alloc _).same hsm)
      have hs56 : Same w5 (w6.setCell ⟨r, 0, none⟩ (.slice (some ⟨g6, 0, none⟩) (k + 1) cap6)) := ((((Same.refl w5).alloc _).alloc _).trans hsm).trans hss
      have HN := Lib.hid (show ∃ hv ptrs, Blk (w6.setCell ⟨r, 0, none⟩ (.slice (some ⟨g6, 0, none⟩) (k + 1) cap6)) r 101 [hv, .int .i8 x.attr, .int .i64 (x.tm * 1000000), .int .i64 x.od, .slice kA kn kc, .slice vA vn vc, .int .i64 0, .int .i64 0] ∧
          (w6.setCell ⟨r, 0, none⟩ (.slice (some ⟨g6, 0, none⟩) (k + 1) cap6)).ownsRow w.heap.size 161 1 hv (k + 1) ptrs ∧ PtrsAt (w6.setCell ⟨r, 0, none⟩ (.slice (some ⟨g6, 0, none⟩) (k + 1) cap6)) ptrs (x.hs.take (k + 1)) ∧ Below w.heap.size w (w6.setCell ⟨r, 0, none⟩ (.slice (some ⟨g6, 0, none⟩) (k + 1) cap6)) ∧ Same w3 (w6.setCell ⟨r, 0, none⟩ (.slice (some ⟨g6, 0, none⟩) (k + 1) cap6)) from
        ⟨_, _, hr6.set_ 0 _, own_setCell hown6 hr6 (by decide) 0 _, by
          rw [List.take_succ_eq_append_getElem hlt]
          exact (HR.out.2.2.1.same hS6).snoc (hbn.same hss) (((hkv4.below hb5 (Nat.le_refl _)).same hs56).mono (Nat.le_trans hb5.size hs56.1)) ((hkv5.same hs56).mono hs56.1), hB8.bel, HR.out.2.2.2.2.trans hS6⟩)
      have hS6' : (fun W => W.cell? ⟨wr.heap.size, 0, none⟩ = some (.bool x.hs[k].1.1) ∧ W.cell? ⟨wr.heap.size, 1, none⟩ = some (.slice kA2 x.hs[k].1.2.length kc2) ∧ W.cell? ⟨wr.heap.size, 2, none⟩ = some (.bool x.hs[k].2.1) ∧ W.cell? ⟨wr.heap.size, 3, none⟩ = some (.slice vA2 x.hs[k].2.2.length vc2) ∧ W.cell? ⟨r, 0, none⟩ = some hv) w6 := ⟨(box90 hB7).1, (box90 hB7).2.1, (box90 hB7).2.2.1, (box90 hB7).2.2.2.1, c6⟩
      refine hK.out _ _ (fun _ => hS6') ?_
      clear hK K
      try simp only [Act.put, List.setIfInBounds_toArray, List.set_cons_zero, List.set_cons_succ]
      clear hS5 hS51 hS52 hS4 hS3
      refine wpE_oneL (i := 15) rfl (by kernel_rfl) (fun K hK => ?_)
      go_simp
      refine hK.out _ _ (fun _ => hS6') ?_
      clear hK K
      try simp only [Act.put, List.setIfInBounds_toArray, List.set_cons_zero, List.set_cons_succ]
      refine wpE_oneL (i := 16) rfl (by kernel_rfl) (fun K hK => ?_)
      go_simp
      refine hK.out _ _ (fun _ => hS6') ?_
      clear hK K
      try simp only [Act.put, List.setIfInBounds_toArray, List.set_cons_zero, List.set_cons_succ]
      refine wpE_oneL (i := 17) rfl (by kernel_rfl) (fun K hK => ?_)
      go_simp
      refine hK.out _ _ (fun h => Bool.noConfusion (show true = false from h)) ?_
      clear hK K
      try simp only [Act.put, List.setIfInBounds_toArray, List.set_cons_zero, List.set_cons_succ]
      refine wpE_done (by kernel_rfl) ?_ _
      refine NoPanic.normal ?_
      clear HR HX
      go_wp2
      go_roundw
      case rel =>
        exact ⟨k + 1, by omega, by go_num, HN⟩
      case measure => simp [intOf]; omega
    · obtain rfl : k = x.hs.length := by omega
      obtain ⟨hv, ptrs, hrr, hown, hptr, hbel, hsame⟩ := HS.out
      rw [List.take_length] at hptr
      have hfin : RecAt wr wr.heap.size r x.attr (x.tm * 1000000) x.od x.key.nb x.val.nb x.hb 0 0 :=
        ⟨hv, _, _, hrr, hdrs_of rfl hown hptr, (H3.out.2.2.1.same hsame).mono (by have := hsame.1; omega), (H3.out.2.2.2.1.same hsame).mono (by have := hsame.1; omega)⟩
      have HF := Lib.hid (And.intro hws (And.intro hrr.lt (And.intro hfin hbel)))
      clear hrr hown hptr hbel hsame hfin
      go_wp2
      go_ret
      exact ⟨r, rfl, HF.out⟩
end Go.Proofs.YtmiflkccfieefaaGreatDoor
