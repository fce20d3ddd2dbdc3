/-
  A record that was read, as the law's type has it.
-/
import Derived.Test.YtmiflkccfieefaaGreatDoorRdr
import Derived.Deep.DeepCutAuto
namespace Go.Proofs.YtmiflkccfieefaaGreatDoor
open Go.ChangeShapes Go.WideShapes Go.ChangeAt Go.RowKit
set_option maxRecDepth 100000
set_option linter.unusedVariables false
set_option linter.unusedSimpArgs false

/-- Header i of the row at a, in rows of bytes. -/
def HElemS (w : World) (D : Nat) (a : Addr) (i : Nat) (x : BP × BP) : Prop :=
  ∃ kd vd, w.cell? (a.add (i * 4)) = some (.bool x.1.1) ∧ w.cell? ⟨(a.add (i * 4)).block, (a.add (i * 4)).off + 1, none⟩ = some kd ∧ w.cell? ⟨(a.add (i * 4)).block, (a.add (i * 4)).off + 2, none⟩ = some (.bool x.2.1) ∧ w.cell? ⟨(a.add (i * 4)).block, (a.add (i * 4)).off + 3, none⟩ = some vd ∧ DataSt w D kd x.1.2 ∧ DataSt w D vd x.2.2
def HInS (w : World) (D : Nat) (v : Value) (hs : List (BP × BP)) : Prop :=
  ∃ A c, v = .slice A hs.length c ∧ (hs ≠ [] → ∃ a : Addr, A = some a ∧ a.block < D ∧ ∀ i (h : i < hs.length), HElemS w D a i hs[i])
theorem HInS.weak {w : World} {D : Nat} {v : Value} {hs : List (BP × BP)} (h : HInS w D v hs) : HIn w D v hs := by
  obtain ⟨A, c, rfl, hh⟩ := h
  refine ⟨A, c, rfl, fun hne => ?_⟩
  obtain ⟨a, hA, ha, hi⟩ := hh hne
  refine ⟨a, hA, ha, fun i hl => ?_⟩
  obtain ⟨kd, vd, h0, h1, h2, h3, h4, h5⟩ := hi i hl
  exact ⟨kd, vd, h0, h1, h2, h3, h4.weak, h5.weak⟩
/-- Bytes that may be null, as the law's type has them. -/
def bp : NB → BP
  | none => (true, [])
  | some l => (false, l)
theorem bp_of {b : Bool} {l : List UInt8} {o : NB} (h : nb b l = o) (h0 : b = true → l = []) : bp o = (b, l) := by
  subst h
  cases b with
  | true => rw [h0 rfl]; rfl
  | false => rfl
def recV (attr tm od : Int) (ko vo : NB) (hs : List (NB × NB)) : RecV := ⟨attr, tm, od, bp ko, bp vo, hs.map fun x => (bp x.1, bp x.2)⟩
theorem plain2 (v : Value) (o : NB) (D : Nat) (w : World) (h : NBytesAt w D v o) (hl : ol o ≤ 1000000) (hD : D ≤ w.heap.size) :
    Calls Tryz.prog 86 #[v] w fun e w' => ∃ A n c, e = .returned (.agg #[.bool (bp o).1, .slice A n c]) ∧ DataSt w' w'.heap.size (.slice A n c) (bp o).2 ∧ Below w.heap.size w w' := by
  refine (plain v o D w h hl hD).mono ?_
  rintro e w' ⟨b, dv, l, rfl, hd, hn, h0, hb⟩
  obtain ⟨A, c, rfl⟩ := hd.sl
  rw [bp_of hn h0]
  exact ⟨A, _, c, rfl, hd, hb⟩
theorem d85 (tm : Int) (w : World) (h0 : -1099511627776 ≤ tm) (h1 : tm ≤ 1099511627776) : Calls Tryz.prog 85 #[.int .i64 (tm * 1000000)] w fun e w' => e = .returned (.int .i64 tm) ∧ w = w' := by
  have ht1 : Int.tdiv (tm * 1000000) 1000000 = tm := Int.mul_tdiv_cancel _ (by decide)
  have ht2 : IntKind.i64.wrap tm = tm := IntWalk.i64_in _ (by omega)
  go_enter Tryz.func85, Tryz.ntmps85
  go_wp2
  go_ret
  exact ⟨rfl, rfl⟩
/-- What stands while the first statement runs: the record, and the result's cell. -/
structure SU (w : World) (r : Nat) (attr td od so L : Int) (hA : Option Addr) (n hc : Nat) (kA0 : Option Addr) (kn0 kc0 : Nat) (vA0 : Option Addr) (vn0 vc0 : Nat) (W : World) : Prop where
  blk : Blk W r 101 [.slice hA n hc, .int .i8 attr, .int .i64 td, .int .i64 od, .slice kA0 kn0 kc0, .slice vA0 vn0 vc0, .int .i64 so, .int .i64 L]
  bel : Below w.heap.size w W
  res : Blk W w.heap.size 28 [.int .i8 0, .int .i64 0, .int .i64 0, .bool false, .slice none 0 0, .bool false, .slice none 0 0, .slice none 0 0]
section
variable {w W W' : World} {r : Nat} {attr td od so L : Int} {hA : Option Addr} {n hc : Nat} {kA0 : Option Addr} {kn0 kc0 : Nat} {vA0 : Option Addr} {vn0 vc0 : Nat}
theorem su_all (h : SU w r attr td od so L hA n hc kA0 kn0 kc0 vA0 vn0 vc0 W) : W.cell? ⟨r, 1, none⟩ = some (.int .i8 attr) ∧ W.cell? ⟨r, 2, none⟩ = some (.int .i64 td) ∧ W.cell? ⟨r, 3, none⟩ = some (.int .i64 od) ∧ W.cell? ⟨r, 4, none⟩ = some (.slice kA0 kn0 kc0) ∧ W.cell? ⟨r, 5, none⟩ = some (.slice vA0 vn0 vc0) ∧ SU w r attr td od so L hA n hc kA0 kn0 kc0 vA0 vn0 vc0 W := ⟨h.blk.cell 1, h.blk.cell 2, h.blk.cell 3, h.blk.cell 4, h.blk.cell 5, h⟩
theorem SU.call (h : SU w r attr td od so L hA n hc kA0 kn0 kc0 vA0 vn0 vc0 W) (hb : Below W.heap.size W W') : SU w r attr td od so L hA n hc kA0 kn0 kc0 vA0 vn0 vc0 W' := ⟨h.blk.below hb h.blk.lt, h.bel.trans (hb.mono h.bel.size), h.res.below hb h.res.lt⟩
theorem su_alloc (o : Obj) (h : W.cell? ⟨r, 1, none⟩ = some (.int .i8 attr) ∧ W.cell? ⟨r, 2, none⟩ = some (.int .i64 td) ∧ W.cell? ⟨r, 3, none⟩ = some (.int .i64 od) ∧ W.cell? ⟨r, 4, none⟩ = some (.slice kA0 kn0 kc0) ∧ W.cell? ⟨r, 5, none⟩ = some (.slice vA0 vn0 vc0) ∧ SU w r attr td od so L hA n hc kA0 kn0 kc0 vA0 vn0 vc0 W) : (W.alloc o).cell? ⟨r, 1, none⟩ = some (.int .i8 attr) ∧ (W.alloc o).cell? ⟨r, 2, none⟩ = some (.int .i64 td) ∧ (W.alloc o).cell? ⟨r, 3, none⟩ = some (.int .i64 od) ∧ (W.alloc o).cell? ⟨r, 4, none⟩ = some (.slice kA0 kn0 kc0) ∧ (W.alloc o).cell? ⟨r, 5, none⟩ = some (.slice vA0 vn0 vc0) ∧ SU w r attr td od so L hA n hc kA0 kn0 kc0 vA0 vn0 vc0 (W.alloc o) := su_all ⟨h.2.2.2.2.2.blk.alloc o, h.2.2.2.2.2.bel.alloc h.2.2.2.2.2.bel.size o, h.2.2.2.2.2.res.alloc o⟩
theorem su_set (b i : Nat) (u : Value) (hr : r < w.heap.size) (hb : w.heap.size < b) (h : W.cell? ⟨r, 1, none⟩ = some (.int .i8 attr) ∧ W.cell? ⟨r, 2, none⟩ = some (.int .i64 td) ∧ W.cell? ⟨r, 3, none⟩ = some (.int .i64 od) ∧ W.cell? ⟨r, 4, none⟩ = some (.slice kA0 kn0 kc0) ∧ W.cell? ⟨r, 5, none⟩ = some (.slice vA0 vn0 vc0) ∧ SU w r attr td od so L hA n hc kA0 kn0 kc0 vA0 vn0 vc0 W) : (W.setCell ⟨b, i, none⟩ u).cell? ⟨r, 1, none⟩ = some (.int .i8 attr) ∧ (W.setCell ⟨b, i, none⟩ u).cell? ⟨r, 2, none⟩ = some (.int .i64 td) ∧ (W.setCell ⟨b, i, none⟩ u).cell? ⟨r, 3, none⟩ = some (.int .i64 od) ∧ (W.setCell ⟨b, i, none⟩ u).cell? ⟨r, 4, none⟩ = some (.slice kA0 kn0 kc0) ∧ (W.setCell ⟨b, i, none⟩ u).cell? ⟨r, 5, none⟩ = some (.slice vA0 vn0 vc0) ∧ SU w r attr td od so L hA n hc kA0 kn0 kc0 vA0 vn0 vc0 (W.setCell ⟨b, i, none⟩ u) := su_all
  ⟨h.2.2.2.2.2.blk.far (p := ⟨b, i, none⟩) (show r ≠ b by omega) u, h.2.2.2.2.2.bel.setCell (p := ⟨b, i, none⟩) (show w.heap.size ≤ b by omega) u, h.2.2.2.2.2.res.far (p := ⟨b, i, none⟩) (show w.heap.size ≠ b by omega) u⟩
theorem plain2S (v : Value) (o : NB) (D : Nat) (hw : NBytesAt w D v o) (hl : ol o ≤ 1000000) (hD : D ≤ w.heap.size) (h : W.cell? ⟨r, 1, none⟩ = some (.int .i8 attr) ∧ W.cell? ⟨r, 2, none⟩ = some (.int .i64 td) ∧ W.cell? ⟨r, 3, none⟩ = some (.int .i64 od) ∧ W.cell? ⟨r, 4, none⟩ = some (.slice kA0 kn0 kc0) ∧ W.cell? ⟨r, 5, none⟩ = some (.slice vA0 vn0 vc0) ∧ SU w r attr td od so L hA n hc kA0 kn0 kc0 vA0 vn0 vc0 W) :
    Calls Tryz.prog 86 #[v] W fun e w' => ∃ A k c, e = .returned (.agg #[.bool (bp o).1, .slice A k c]) ∧ DataSt w' w'.heap.size (.slice A k c) (bp o).2 ∧ Below W.heap.size W w' ∧ w.heap.size < W.heap.size ∧ (w'.cell? ⟨r, 1, none⟩ = some (.int .i8 attr) ∧ w'.cell? ⟨r, 2, none⟩ = some (.int .i64 td) ∧ w'.cell? ⟨r, 3, none⟩ = some (.int .i64 od) ∧ w'.cell? ⟨r, 4, none⟩ = some (.slice kA0 kn0 kc0) ∧ w'.cell? ⟨r, 5, none⟩ = some (.slice vA0 vn0 vc0) ∧ SU w r attr td od so L hA n hc kA0 kn0 kc0 vA0 vn0 vc0 w') := by
  have hS := h.2.2.2.2.2
  refine (plain2 v o D W (hw.below hS.bel hD) hl (Nat.le_trans hD hS.bel.size)).mono ?_
  rintro e w' ⟨A, k, c, rfl, hd, hb⟩
  exact ⟨A, k, c, rfl, hd, hb, hS.res.lt, su_all (hS.call hb)⟩
end
theorem data_store {w : World} {D : Nat} {v : Value} {l : List UInt8} {b t : Nat} {cs : List Value} (h : DataSt w D v l) (hb : Blk w b t cs) (ht : t ≠ 5) (i : Nat) (u : Value) : DataSt (w.setCell ⟨b, i, none⟩ u) D v l := by
  rcases h with h | h
  · exact .inl (h.kept (B := w.heap.size) (S := [b]) ((Kept.refl _ _ _).setCell (p := ⟨b, i, none⟩) (.inl (by simp)) u) (fun s hs => by
      have : s = b := by simpa using hs
      subst this
      exact .inr ⟨_, _, ht, hb⟩))
  · exact .inr h
theorem blk8 {w : World} {b t : Nat} {c0 c1 c2 c3 c4 c5 c6 c7 : Value} (h : Blk w b t [c0, c1, c2, c3, c4, c5, c6, c7]) :
    w.cell? ⟨b, 0, none⟩ = some c0 ∧ w.cell? ⟨b, 1, none⟩ = some c1 ∧ w.cell? ⟨b, 2, none⟩ = some c2 ∧ w.cell? ⟨b, 3, none⟩ = some c3 ∧ w.cell? ⟨b, 4, none⟩ = some c4 ∧ w.cell? ⟨b, 5, none⟩ = some c5 ∧ w.cell? ⟨b, 6, none⟩ = some c6 ∧ w.cell? ⟨b, 7, none⟩ = some c7 ∧
    w.frozen? ⟨b, 0, none⟩ = false ∧ w.frozen? ⟨b, 1, none⟩ = false ∧ w.frozen? ⟨b, 2, none⟩ = false ∧ w.frozen? ⟨b, 3, none⟩ = false ∧ w.frozen? ⟨b, 4, none⟩ = false ∧ w.frozen? ⟨b, 5, none⟩ = false ∧ w.frozen? ⟨b, 6, none⟩ = false ∧ w.frozen? ⟨b, 7, none⟩ = false :=
  ⟨h.cell 0, h.cell 1, h.cell 2, h.cell 3, h.cell 4, h.cell 5, h.cell 6, h.cell 7, h.frozen 0, h.frozen 1, h.frozen 2, h.frozen 3, h.frozen 4, h.frozen 5, h.frozen 6, h.frozen 7⟩

theorem DataSt.mono {w : World} {D D' : Nat} {v : Value} {l : List UInt8} (h : DataSt w D v l) (hD : D ≤ D') : DataSt w D' v l := by
  rcases h with h | h
  · exact .inl (h.mono hD)
  · exact .inr h
theorem data_up {w1 w2 : World} {x : Value} {l : List UInt8} (h : DataSt w1 w1.heap.size x l) (hb : Below w1.heap.size w1 w2) : DataSt w2 w2.heap.size x l := (h.below hb (Nat.le_refl _)).mono hb.size
theorem data_up2 {w1 w2 : World} {x : Value} {l : List UInt8} {o : Obj} (h : DataSt w1 w1.heap.size x l) (hb : Below (w1.alloc o).heap.size (w1.alloc o) w2) : DataSt w2 w2.heap.size x l := data_up (data_up h ((Below.refl _ _).alloc (Nat.le_refl _) o)) hb
theorem DataSt.same {w w' : World} {D : Nat} {v : Value} {l : List UInt8} (h : DataSt w D v l) (hs : Same w w') : DataSt w' D v l := by
  rcases h with h | h
  · exact .inl (NBytesAt.same (o := some l) h hs)
  · exact .inr h
theorem own_ne_z {w : World} {B n z : Nat} {e t : TypeId} {sv : Value} {xs cs : List Value} {g : Nat} (h : w.ownsRow B e z sv n xs) (hg : Blk w g t cs) (hne : e ≠ t) : sv.ownBlock ≠ some g := by
  rcases h.2 with ⟨rfl, _⟩ | ⟨g', cap, cur, rfl, _, hh, _⟩
  · simp [Value.ownBlock]
  · intro he
    have : g' = g := by simpa [Value.ownBlock] using he
    subst this
    unfold Blk at hg
    rw [hg] at hh
    injection hh with hh
    injection hh with _ ht
    exact hne ht.symm
theorem own_below_z {w w' : World} {B n z : Nat} {e : TypeId} {sv : Value} {xs : List Value} {C : Nat} (h : w.ownsRow B e z sv n xs) (hb : Below C w w') (hC : w.heap.size ≤ C) : w'.ownsRow B e z sv n xs := by
  rcases h.2 with hn | ⟨g, cap, cur, rfl, hB, hg, hr⟩
  · exact ⟨h.1, .inl hn⟩
  · exact ⟨h.1, .inr ⟨g, cap, cur, rfl, hB, (hb.block g (Nat.lt_of_lt_of_le (Array.getElem?_eq_some_iff.1 hg).1 hC)).trans hg, hr⟩⟩
theorem own_row_z {w : World} {B n z : Nat} {e : TypeId} {sv : Value} {xs : List Value} (h : w.ownsRow B e z sv n xs) {g : Nat} (hg : sv.ownBlock = some g) : B ≤ g ∧ ∃ C, w.heap[g]? = some (.cells C e (0, 0)) := by
  rcases h.2 with ⟨rfl, _⟩ | ⟨g', cap, cur, rfl, hB, hgg, hr⟩
  · simp [Value.ownBlock] at hg
  · have : g' = g := by simpa [Value.ownBlock] using hg
    subst this
    exact ⟨hB, cur, hgg⟩
theorem own_setCell_z {w : World} {B n z : Nat} {e : TypeId} {sv : Value} {xs : List Value} (h : w.ownsRow B e z sv n xs) {r t : Nat} {cs : List Value} (hr : Blk w r t cs) (hne : e ≠ t) (i : Nat) (u : Value) : (w.setCell ⟨r, i, none⟩ u).ownsRow B e z sv n xs := by
  have h2 := own_ne_z h hr hne
  rcases h.2 with hn | ⟨g, cap, cur, rfl, hB, hg, hr'⟩
  · exact ⟨h.1, .inl hn⟩
  · refine ⟨h.1, .inr ⟨g, cap, cur, rfl, hB, (Below.heap_setCell w ⟨r, i, none⟩ u g (fun e => h2 (by simp [Value.ownBlock, e]))).trans hg, hr'⟩⟩
theorem info90 : (Tryz.prog.info? 90).map (fun i => (i.zero, i.size, i.bytes)) = some (some (.agg #[.bool false, .slice none 0 0, .bool false, .slice none 0 0]), 4, 64) := by kernel_rfl
/-- The cells of headers, of the law's type. -/
def HCells (w : World) (xs : List Value) (hs : List (NB × NB)) : Prop :=
  xs.length = hs.length * 4 ∧ ∀ i (h : i < hs.length), ∃ kd vd, xs[i * 4]? = some (.bool (bp hs[i].1).1) ∧ xs[i * 4 + 1]? = some kd ∧ xs[i * 4 + 2]? = some (.bool (bp hs[i].2).1) ∧ xs[i * 4 + 3]? = some vd ∧ DataSt w w.heap.size kd (bp hs[i].1).2 ∧ DataSt w w.heap.size vd (bp hs[i].2).2
theorem HCells.nil (w : World) : HCells w [] [] := ⟨rfl, fun i h => by simp at h⟩
theorem HCells.same {w w' : World} {xs : List Value} {hs : List (NB × NB)} (h : HCells w xs hs) (hs' : Same w w') : HCells w' xs hs :=
  ⟨h.1, fun i hi => by
    obtain ⟨kd, vd, h1, h2, h3, h4, h5, h6⟩ := h.2 i hi
    exact ⟨kd, vd, h1, h2, h3, h4, (h5.same hs').mono hs'.1, (h6.same hs').mono hs'.1⟩⟩
theorem HCells.snoc {w : World} {xs : List Value} {hs : List (NB × NB)} (h : HCells w xs hs) {kd vd : Value} {x : NB × NB} (h1 : DataSt w w.heap.size kd (bp x.1).2) (h2 : DataSt w w.heap.size vd (bp x.2).2) :
    HCells w (xs ++ [.bool (bp x.1).1, kd, .bool (bp x.2).1, vd]) (hs ++ [x]) := by
  refine ⟨by simp [h.1]; omega, fun i hi => ?_⟩
  by_cases hlt : i < hs.length
  · obtain ⟨kd', vd', g1, g2, g3, g4, g5, g6⟩ := h.2 i hlt
    refine ⟨kd', vd', ?_, ?_, ?_, ?_, ?_, ?_⟩
    · rw [List.getElem?_append_left (by rw [h.1]; omega), List.getElem_append_left hlt]; exact g1
    · rw [List.getElem?_append_left (by rw [h.1]; omega)]; exact g2
    · rw [List.getElem?_append_left (by rw [h.1]; omega), List.getElem_append_left hlt]; exact g3
    · rw [List.getElem?_append_left (by rw [h.1]; omega)]; exact g4
    · rw [List.getElem_append_left hlt]; exact g5
    · rw [List.getElem_append_left hlt]; exact g6
  · have hi' : i = hs.length := by simp at hi; omega
    subst hi'
    refine ⟨kd, vd, ?_, ?_, ?_, ?_, ?_, ?_⟩
    · rw [List.getElem?_append_right (by rw [h.1]; omega), h.1]; simp
    · rw [List.getElem?_append_right (by rw [h.1]; omega), h.1]; simp
    · rw [List.getElem?_append_right (by rw [h.1]; omega), h.1]; simp
    · rw [List.getElem?_append_right (by rw [h.1]; omega), h.1]; simp
    · simpa using h1
    · simpa using h2
theorem hin_of {w : World} {B : Nat} {hv : Value} {n : Nat} {xs : List Value} {hs : List (NB × NB)} (hn : n = hs.length) (h : w.ownsRow B 90 4 hv n xs) (hp : HCells w xs hs) : HInS w w.heap.size hv (hs.map fun x => (bp x.1, bp x.2)) := by
  subst hn
  rcases h.2 with ⟨rfl, h0⟩ | ⟨g, cap, cur, rfl, hB, hg, h1, h2, h3, h4⟩
  · refine ⟨none, 0, by simp [h0], fun hne => ?_⟩
    exact absurd (by simpa using h0) (fun e : hs = [] => hne (by simp [e]))
  · refine ⟨some ⟨g, 0, none⟩, cap, by simp, fun hne => ⟨⟨g, 0, none⟩, rfl, lt_of_heap hg, fun i hi => ?_⟩⟩
    have hi' : i < hs.length := by simpa using hi
    obtain ⟨kd, vd, g1, g2, g3, g4, g5, g6⟩ := hp.2 i hi'
    have hc : ∀ j u, xs[j]? = some u → w.cell? ⟨g, j, none⟩ = some u := fun j u hj => by
      rw [cell_of_row w g j cur 90 (0, 0) hg]
      rw [← h4] at hj
      have hlt : j < hs.length * 4 := by
        have := (List.getElem?_eq_some_iff.1 hj).1
        simp at this
        omega
      rw [List.getElem?_take_of_lt hlt] at hj
      simpa using hj
    have ha : (⟨g, 0, none⟩ : Addr).add (i * 4) = ⟨g, i * 4, none⟩ := by
      unfold Addr.add
      split
      · rename_i h0
        rw [h0]
      · simp
    refine ⟨kd, vd, ?_, ?_, ?_, ?_, by simpa using g5, by simpa using g6⟩
    · rw [ha]; simpa using hc _ _ g1
    · rw [ha]; exact hc _ _ g2
    · rw [ha]; simpa using hc _ _ g3
    · rw [ha]; exact hc _ _ g4
theorem end_c {w2 : World} {x1 x2 : Value} {l1 l2 : List UInt8} (h1 : DataSt w2 w2.heap.size x1 l1) (h2 : DataSt w2 w2.heap.size x2 l2) (cs : List Value) :
    Blk (w2.alloc (.cells cs.toArray 28)) w2.heap.size 28 cs ∧ DataSt (w2.alloc (.cells cs.toArray 28)) (w2.alloc (.cells cs.toArray 28)).heap.size x1 l1 ∧ DataSt (w2.alloc (.cells cs.toArray 28)) (w2.alloc (.cells cs.toArray 28)).heap.size x2 l2 := by
  have hb : Below w2.heap.size w2 (w2.alloc (.cells cs.toArray 28)) := (Below.refl _ _).alloc (Nat.le_refl _) _
  exact ⟨Blk.new _ _ _, (h1.below hb (Nat.le_refl _)).mono hb.size, (h2.below hb (Nat.le_refl _)).mono hb.size⟩
theorem end_ab {w2 : World} {x1 x2 : Value} {l1 l2 : List UInt8} {b : Nat} {z0 z1 z2 z3 z4 z5 z6 z7 : Value} (hb : Blk w2 b 28 [z0, z1, z2, z3, z4, z5, z6, z7]) (h1 : DataSt w2 w2.heap.size x1 l1) (h2 : DataSt w2 w2.heap.size x2 l2) (u0 u1 u2 u3 u4 u5 u6 u7 : Value) (W : World)
    (hW : W = ((((((((w2.setCell ⟨b, 0, none⟩ u0).setCell ⟨b, 1, none⟩ u1).setCell ⟨b, 2, none⟩ u2).setCell ⟨b, 3, none⟩ u3).setCell ⟨b, 4, none⟩ u4).setCell ⟨b, 5, none⟩ u5).setCell ⟨b, 6, none⟩ u6).setCell ⟨b, 7, none⟩ u7)) :
    Blk W b 28 [u0, u1, u2, u3, u4, u5, u6, u7] ∧ DataSt W W.heap.size x1 l1 ∧ DataSt W W.heap.size x2 l2 := by
  have hz : W.heap.size = w2.heap.size := by subst hW; simp
  rw [hz]
  have k0 := hb.set_ 0 u0
  have k1 := k0.set_ 1 u1
  have k2 := k1.set_ 2 u2
  have k3 := k2.set_ 3 u3
  have k4 := k3.set_ 4 u4
  have k5 := k4.set_ 5 u5
  have k6 := k5.set_ 6 u6
  have k7 := k6.set_ 7 u7
  have hd : ∀ (x : Value) (l : List UInt8), DataSt w2 w2.heap.size x l → DataSt W w2.heap.size x l := fun x l h => by
    have e0 := data_store h hb (by decide) 0 u0
    have e1 := data_store e0 k0 (by decide) 1 u1
    have e2 := data_store e1 k1 (by decide) 2 u2
    have e3 := data_store e2 k2 (by decide) 3 u3
    have e4 := data_store e3 k3 (by decide) 4 u4
    have e5 := data_store e4 k4 (by decide) 5 u5
    have e6 := data_store e5 k5 (by decide) 6 u6
    have e7 := data_store e6 k6 (by decide) 7 u7
    rw [hW]
    exact e7
  refine ⟨?_, hd _ _ h1, hd _ _ h2⟩
  rw [hW]
  exact k7
theorem set8 {w2 : World} {b : Nat} {z0 z1 z2 z3 z4 z5 z6 z7 : Value} (hb : Blk w2 b 28 [z0, z1, z2, z3, z4, z5, z6, z7]) (u0 u1 u2 u3 u4 u5 u6 u7 : Value) (W : World)
    (hW : W = ((((((((w2.setCell ⟨b, 0, none⟩ u0).setCell ⟨b, 1, none⟩ u1).setCell ⟨b, 2, none⟩ u2).setCell ⟨b, 3, none⟩ u3).setCell ⟨b, 4, none⟩ u4).setCell ⟨b, 5, none⟩ u5).setCell ⟨b, 6, none⟩ u6).setCell ⟨b, 7, none⟩ u7)) :
    Same w2 W ∧ (∀ (B n z : Nat) (e : TypeId) (sv : Value) (xs : List Value), e ≠ 28 → w2.ownsRow B e z sv n xs → W.ownsRow B e z sv n xs) ∧ (∀ (w : World) (C : Nat), C ≤ b → Below C w w2 → Below C w W) ∧ ∀ k, k ≠ b → W.heap[k]? = w2.heap[k]? := by
  have k0 := hb.set_ 0 u0
  have k1 := k0.set_ 1 u1
  have k2 := k1.set_ 2 u2
  have k3 := k2.set_ 3 u3
  have k4 := k3.set_ 4 u4
  have k5 := k4.set_ 5 u5
  have k6 := k5.set_ 6 u6
  refine ⟨?_, fun B n z e sv xs he h => ?_, fun w C hC h => ?_, fun k hk => ?_⟩
  · have s0 := (Same.refl w2).setCell hb ⟨by decide, by decide⟩ 0 u0
    have s1 := s0.setCell k0 ⟨by decide, by decide⟩ 1 u1
    have s2 := s1.setCell k1 ⟨by decide, by decide⟩ 2 u2
    have s3 := s2.setCell k2 ⟨by decide, by decide⟩ 3 u3
    have s4 := s3.setCell k3 ⟨by decide, by decide⟩ 4 u4
    have s5 := s4.setCell k4 ⟨by decide, by decide⟩ 5 u5
    have s6 := s5.setCell k5 ⟨by decide, by decide⟩ 6 u6
    have s7 := s6.setCell k6 ⟨by decide, by decide⟩ 7 u7
    rw [hW]
    exact s7
  · have o0 := own_setCell_z h hb he 0 u0
    have o1 := own_setCell_z o0 k0 he 1 u1
    have o2 := own_setCell_z o1 k1 he 2 u2
    have o3 := own_setCell_z o2 k2 he 3 u3
    have o4 := own_setCell_z o3 k3 he 4 u4
    have o5 := own_setCell_z o4 k4 he 5 u5
    have o6 := own_setCell_z o5 k5 he 6 u6
    have o7 := own_setCell_z o6 k6 he 7 u7
    rw [hW]
    exact o7
  · rw [hW]
    exact (((((((h.setCell (p := ⟨b, 0, none⟩) hC _).setCell (p := ⟨b, 1, none⟩) hC _).setCell (p := ⟨b, 2, none⟩) hC _).setCell (p := ⟨b, 3, none⟩) hC _).setCell (p := ⟨b, 4, none⟩) hC _).setCell (p := ⟨b, 5, none⟩) hC _).setCell (p := ⟨b, 6, none⟩) hC _).setCell (p := ⟨b, 7, none⟩) hC _
  · rw [hW]
    rw [Below.heap_setCell _ ⟨b, 7, none⟩ _ k hk, Below.heap_setCell _ ⟨b, 6, none⟩ _ k hk, Below.heap_setCell _ ⟨b, 5, none⟩ _ k hk, Below.heap_setCell _ ⟨b, 4, none⟩ _ k hk, Below.heap_setCell _ ⟨b, 3, none⟩ _ k hk, Below.heap_setCell _ ⟨b, 2, none⟩ _ k hk, Below.heap_setCell _ ⟨b, 1, none⟩ _ k hk, Below.heap_setCell _ ⟨b, 0, none⟩ _ k hk]
theorem HInS.move {w W : World} {D : Nat} {A : Option Addr} {n c : Nat} {hs : List (BP × BP)} (h : HInS w D (.slice A n c) hs) (hs' : Same w W) (hb : ∀ a, A = some a → W.heap[a.block]? = w.heap[a.block]?) : HInS W D (.slice A n c) hs := by
  obtain ⟨A', c', he, hh⟩ := h
  injection he with e1 e2 e3
  subst e1
  subst e3
  refine ⟨A, c, by rw [e2], fun hne => ?_⟩
  obtain ⟨a, hA, hD, hi⟩ := hh hne
  refine ⟨a, hA, hD, fun i hl => ?_⟩
  obtain ⟨kd, vd, h0, h1, h2, h3, h4, h5⟩ := hi i hl
  have e : ∀ q : Addr, q.block = a.block → W.cell? q = w.cell? q := fun q hq => World.cell?_of_block (by rw [hq]; exact hb a hA)
  have e2 : ∀ j, W.cell? ⟨(a.add (i * 4)).block, j, none⟩ = w.cell? ⟨(a.add (i * 4)).block, j, none⟩ := fun j => e ⟨(a.add (i * 4)).block, j, none⟩ (add_block a (i * 4))
  exact ⟨kd, vd, (e _ (add_block _ _)).trans h0, (e2 _).trans h1, (e2 _).trans h2, (e2 _).trans h3, h4.same hs', h5.same hs'⟩
theorem xb_a {w w1 : World} (hb : Below ((w.alloc (.cells #[.int .i8 0, .int .i64 0, .int .i64 0, .bool false, .slice none 0 0, .bool false, .slice none 0 0, .slice none 0 0] 28)).alloc (.cells #[.int .i8 0, .int .i64 0, .int .i64 0, .bool false, .slice none 0 0, .bool false, .slice none 0 0, .slice none 0 0] 28)).drew.heap.size ((w.alloc (.cells #[.int .i8 0, .int .i64 0, .int .i64 0, .bool false, .slice none 0 0, .bool false, .slice none 0 0, .slice none 0 0] 28)).alloc (.cells #[.int .i8 0, .int .i64 0, .int .i64 0, .bool false, .slice none 0 0, .bool false, .slice none 0 0, .slice none 0 0] 28)).drew w1) : Blk w1 (w.heap.size + 1) 28 [.int .i8 0, .int .i64 0, .int .i64 0, .bool false, .slice none 0 0, .bool false, .slice none 0 0, .slice none 0 0] := by
  have h0 : Blk ((w.alloc (.cells #[.int .i8 0, .int .i64 0, .int .i64 0, .bool false, .slice none 0 0, .bool false, .slice none 0 0, .slice none 0 0] 28)).alloc (.cells #[.int .i8 0, .int .i64 0, .int .i64 0, .bool false, .slice none 0 0, .bool false, .slice none 0 0, .slice none 0 0] 28)).drew (w.heap.size + 1) 28 [.int .i8 0, .int .i64 0, .int .i64 0, .bool false, .slice none 0 0, .bool false, .slice none 0 0, .slice none 0 0] := by
    have h := (Blk.new (w.alloc (.cells #[.int .i8 0, .int .i64 0, .int .i64 0, .bool false, .slice none 0 0, .bool false, .slice none 0 0, .slice none 0 0] 28)) 28 [.int .i8 0, .int .i64 0, .int .i64 0, .bool false, .slice none 0 0, .bool false, .slice none 0 0, .slice none 0 0]).drew
    rw [show (w.alloc (.cells #[.int .i8 0, .int .i64 0, .int .i64 0, .bool false, .slice none 0 0, .bool false, .slice none 0 0, .slice none 0 0] 28)).heap.size = w.heap.size + 1 by simp] at h
    exact h
  exact h0.below hb (by show w.heap.size + 1 < _; simp)
set_option maxHeartbeats 4000000 in
theorem d53 (D r : Nat) (attr tm od so L : Int) (ko vo : NB) (hs : List (NB × NB)) (w : World) (h : RecAt w D r attr (tm * 1000000) od ko vo hs so L) (hD : D ≤ w.heap.size) (hk : ol ko ≤ 1000) (hv : ol vo ≤ 1000) (ht0 : -1099511627776 ≤ tm) (ht1 : tm ≤ 1099511627776) (hhl : hs.length ≤ 6) (hhb : ∀ h ∈ hs, ol h.1 ≤ 1000 ∧ ol h.2 ≤ 1000) :
    Calls Tryz.prog 53 #[.pointer (some ⟨r, 0, none⟩)] w fun e w' => ∃ A1 n1 c1 A2 n2 c2 A3 c3, e = .returned (.agg #[.int .i8 attr, .int .i64 tm, .int .i64 od, .bool (bp ko).1, .slice A1 n1 c1, .bool (bp vo).1, .slice A2 n2 c2, .slice A3 hs.length c3]) ∧ DataSt w' w'.heap.size (.slice A1 n1 c1) (bp ko).2 ∧ DataSt w' w'.heap.size (.slice A2 n2 c2) (bp vo).2 ∧ HInS w' w'.heap.size (.slice A3 hs.length c3) (hs.map fun x => (bp x.1, bp x.2)) ∧ (∀ a, A3 = some a → w.heap.size ≤ a.block) ∧ Below w.heap.size w w' := by
  obtain ⟨hv', kv, vv, hrb, hH, hK, hV⟩ := h
  obtain ⟨kA0, kn0, kc0, rfl⟩ := hK.form
  obtain ⟨vA0, vn0, vc0, rfl⟩ := hV.form
  obtain ⟨hA, hc, rfl, hhi⟩ := hH
  have hrl := hrb.lt
  have hS0 : (w.alloc (.cells #[.int .i8 0, .int .i64 0, .int .i64 0, .bool false, .slice none 0 0, .bool false, .slice none 0 0, .slice none 0 0] 28)).drew.cell? ⟨r, 1, none⟩ = some (.int .i8 attr) ∧ (w.alloc (.cells #[.int .i8 0, .int .i64 0, .int .i64 0, .bool false, .slice none 0 0, .bool false, .slice none 0 0, .slice none 0 0] 28)).drew.cell? ⟨r, 2, none⟩ = some (.int .i64 (tm * 1000000)) ∧ (w.alloc (.cells #[.int .i8 0, .int .i64 0, .int .i64 0, .bool false, .slice none 0 0, .bool false, .slice none 0 0, .slice none 0 0] 28)).drew.cell? ⟨r, 3, none⟩ = some (.int .i64 od) ∧ (w.alloc (.cells #[.int .i8 0, .int .i64 0, .int .i64 0, .bool false, .slice none 0 0, .bool false, .slice none 0 0, .slice none 0 0] 28)).drew.cell? ⟨r, 4, none⟩ = some (.slice kA0 kn0 kc0) ∧ (w.alloc (.cells #[.int .i8 0, .int .i64 0, .int .i64 0, .bool false, .slice none 0 0, .bool false, .slice none 0 0, .slice none 0 0] 28)).drew.cell? ⟨r, 5, none⟩ = some (.slice vA0 vn0 vc0) ∧ SU w r attr (tm * 1000000) od so L hA hs.length hc kA0 kn0 kc0 vA0 vn0 vc0 (w.alloc (.cells #[.int .i8 0, .int .i64 0, .int .i64 0, .bool false, .slice none 0 0, .bool false, .slice none 0 0, .slice none 0 0] 28)).drew :=
    su_all ⟨(hrb.alloc _).drew, ((Below.refl _ _).alloc (Nat.le_refl _) _).drew, (Blk.new w 28 [.int .i8 0, .int .i64 0, .int .i64 0, .bool false, .slice none 0 0, .bool false, .slice none 0 0, .slice none 0 0]).drew⟩
  have hS01 : ((w.alloc (.cells #[.int .i8 0, .int .i64 0, .int .i64 0, .bool false, .slice none 0 0, .bool false, .slice none 0 0, .slice none 0 0] 28)).alloc (.cells #[.int .i8 0, .int .i64 0, .int .i64 0, .bool false, .slice none 0 0, .bool false, .slice none 0 0, .slice none 0 0] 28)).drew.cell? ⟨r, 1, none⟩ = some (.int .i8 attr) ∧ ((w.alloc (.cells #[.int .i8 0, .int .i64 0, .int .i64 0, .bool false, .slice none 0 0, .bool false, .slice none 0 0, .slice none 0 0] 28)).alloc (.cells #[.int .i8 0, .int .i64 0, .int .i64 0, .bool false, .slice none 0 0, .bool false, .slice none 0 0, .slice none 0 0] 28)).drew.cell? ⟨r, 2, none⟩ = some (.int .i64 (tm * 1000000)) ∧ ((w.alloc (.cells #[.int .i8 0, .int .i64 0, .int .i64 0, .bool false, .slice none 0 0, .bool false, .slice none 0 0, .slice none 0 0] 28)).alloc (.cells #[.int .i8 0, .int .i64 0, .int .i64 0, .bool false, .slice none 0 0, .bool false, .slice none 0 0, .slice none 0 0] 28)).drew.cell? ⟨r, 3, none⟩ = some (.int .i64 od) ∧ ((w.alloc (.cells #[.int .i8 0, .int .i64 0, .int .i64 0, .bool false, .slice none 0 0, .bool false, .slice none 0 0, .slice none 0 0] 28)).alloc (.cells #[.int .i8 0, .int .i64 0, .int .i64 0, .bool false, .slice none 0 0, .bool false, .slice none 0 0, .slice none 0 0] 28)).drew.cell? ⟨r, 4, none⟩ = some (.slice kA0 kn0 kc0) ∧ ((w.alloc (.cells #[.int .i8 0, .int .i64 0, .int .i64 0, .bool false, .slice none 0 0, .bool false, .slice none 0 0, .slice none 0 0] 28)).alloc (.cells #[.int .i8 0, .int .i64 0, .int .i64 0, .bool false, .slice none 0 0, .bool false, .slice none 0 0, .slice none 0 0] 28)).drew.cell? ⟨r, 5, none⟩ = some (.slice vA0 vn0 vc0) ∧ SU w r attr (tm * 1000000) od so L hA hs.length hc kA0 kn0 kc0 vA0 vn0 vc0 ((w.alloc (.cells #[.int .i8 0, .int .i64 0, .int .i64 0, .bool false, .slice none 0 0, .bool false, .slice none 0 0, .slice none 0 0] 28)).alloc (.cells #[.int .i8 0, .int .i64 0, .int .i64 0, .bool false, .slice none 0 0, .bool false, .slice none 0 0, .slice none 0 0] 28)).drew :=
    su_all ⟨((hrb.alloc _).alloc _).drew, (((Below.refl _ _).alloc (Nat.le_refl _) _).alloc (by simp) _).drew, ((Blk.new w 28 [.int .i8 0, .int .i64 0, .int .i64 0, .bool false, .slice none 0 0, .bool false, .slice none 0 0, .slice none 0 0]).alloc _).drew⟩
  have H := Lib.hid (And.intro hrb (And.intro hK (And.intro hV hhi)))
  clear hrb hK hV hhi
  go_enter Tryz.func53, Tryz.ntmps53
  go_upto_region 1 with fail
  go_cut [3] (fun s3 wx => ∃ b kA kn kc vA vn vc, s3 = .pointer (some ⟨b, 0, none⟩) ∧ Hid (w.heap.size < b ∧ Blk wx b 28 [.int .i8 attr, .int .i64 tm, .int .i64 od, .bool (bp ko).1, .slice kA kn kc, .bool (bp vo).1, .slice vA vn vc, .slice none 0 0] ∧ DataSt wx wx.heap.size (.slice kA kn kc) (bp ko).2 ∧ DataSt wx wx.heap.size (.slice vA vn vc) (bp vo).2 ∧ SU w r attr (tm * 1000000) od so L hA hs.length hc kA0 kn0 kc0 vA0 vn0 vc0 wx))
  case first =>
    go_region_held3 (fun W => W.cell? ⟨r, 1, none⟩ = some (.int .i8 attr) ∧ W.cell? ⟨r, 2, none⟩ = some (.int .i64 (tm * 1000000)) ∧ W.cell? ⟨r, 3, none⟩ = some (.int .i64 od) ∧ W.cell? ⟨r, 4, none⟩ = some (.slice kA0 kn0 kc0) ∧ W.cell? ⟨r, 5, none⟩ = some (.slice vA0 vn0 vc0) ∧ SU w r attr (tm * 1000000) od so L hA hs.length hc kA0 kn0 kc0 vA0 vn0 vc0 W)
      (first | with_reducible exact hS0 | with_reducible exact hS01 | with_reducible assumption | ((with_reducible refine su_alloc _ ?_); with_reducible assumption) | ((repeat (with_reducible refine su_set _ _ _ hrl (by first | omega | (simp; omega)) ?_)); with_reducible assumption))
      (first | (go_at_call 85; refine (d85 tm _ ht0 ht1).mono ?_; rintro e w' ⟨rfl, rfl⟩) | (go_at_call_of 86 (Value.slice kA0 kn0 kc0); refine (plain2S (w := w) (r := r) (hA := hA) (hc := hc) _ ko D H.out.2.1 (by omega) hD (by assumption)).mono ?_; rintro e w1 ⟨kA, kn, kc, rfl, hkv, hb, hz1, hS1⟩; have hz3 := hS1.2.2.2.2.2.res.lt; (first | have hXB1 := (Blk.new _ 28 [.int .i8 0, .int .i64 0, .int .i64 0, .bool false, .slice none 0 0, .bool false, .slice none 0 0, .slice none 0 0]).below hb (by simp) | have hXB1 := xb_a hb | skip)) | (go_at_call_of 86 (Value.slice vA0 vn0 vc0); refine (plain2S (w := w) (r := r) (hA := hA) (hc := hc) _ vo D H.out.2.2.1 (by omega) hD (by assumption)).mono ?_; rintro e w2 ⟨vA, vn, vc, rfl, hvv, hb2, hz2, hS2⟩; have hz4 := hS2.2.2.2.2.2.res.lt; (first | have hXB2 := hXB1.below hb2 hXB1.lt | have hXB2 := (Blk.new _ 28 [.int .i8 0, .int .i64 0, .int .i64 0, .bool false, .slice none 0 0, .bool false, .slice none 0 0, .slice none 0 0]).below hb2 (by simp) | skip); (first | (have hX8 := blk8 hXB2; obtain ⟨x0, x1, x2, x3, x4, x5, x6, x7, y0, y1, y2, y3, y4, y5, y6, y7⟩ := hX8) | skip)))
    all_goals
      rename_i hHeld
      have hsz2 := hb2.size
      have hk2 : DataSt w2 w2.heap.size (.slice kA kn kc) (bp ko).2 := by
        first
          | exact data_up hkv hb2
          | exact data_up2 hkv hb2
      go_wp2_with fail
      go_meet
      first
        | (have hE := end_ab hXB2 hk2 hvv (.int .i8 attr) (.int .i64 tm) (.int .i64 od) (.bool (bp ko).1) (.slice kA kn kc) (.bool (bp vo).1) (.slice vA vn vc) (.slice none 0 0) _ rfl
           exact ⟨_, kA, kn, kc, vA, vn, vc, rfl, ⟨by omega, hE.1, hE.2.1, hE.2.2, hHeld.2.2.2.2.2⟩⟩)
        | (have hE := end_c hk2 hvv [.int .i8 attr, .int .i64 tm, .int .i64 od, .bool (bp ko).1, .slice kA kn kc, .bool (bp vo).1, .slice vA vn vc, .slice none 0 0]
           exact ⟨w2.heap.size, kA, kn, kc, vA, vn, vc, rfl, ⟨hz4, hE.1, hE.2.1, hE.2.2, hHeld.2.2.2.2.2⟩⟩)
  case rest =>
    obtain ⟨b, kA, kn, kc, vA, vn, vc, rfl, HC⟩ := hcut
    clear hS0 hS01
    have hcr := HC.out.2.2.2.2.blk.cell 0
    simp only [List.getElem?_cons_zero] at hcr
    have hbl := HC.out.1
    have H0 : Hid (∃ hv cells, Blk wc b 28 [.int .i8 attr, .int .i64 tm, .int .i64 od, .bool (bp ko).1, .slice kA kn kc, .bool (bp vo).1, .slice vA vn vc, hv] ∧ wc.ownsRow w.heap.size 90 4 hv 0 cells ∧ HCells wc cells (hs.take 0) ∧
        DataSt wc wc.heap.size (.slice kA kn kc) (bp ko).2 ∧ DataSt wc wc.heap.size (.slice vA vn vc) (bp vo).2 ∧ SU w r attr (tm * 1000000) od so L hA hs.length hc kA0 kn0 kc0 vA0 vn0 vc0 wc) :=
      ⟨_, [], HC.out.2.1, World.ownsRow_nil _ _ _ _, HCells.nil _, HC.out.2.2.1, HC.out.2.2.2.1, HC.out.2.2.2.2⟩
    clear HC
    go_wp2_with fail
    go_loopw [35] (fun i wr => ∃ k : Nat, k ≤ hs.length ∧ i = .int .i64 k ∧ Hid (∃ hv cells, Blk wr b 28 [.int .i8 attr, .int .i64 tm, .int .i64 od, .bool (bp ko).1, .slice kA kn kc, .bool (bp vo).1, .slice vA vn vc, hv] ∧ wr.ownsRow w.heap.size 90 4 hv k cells ∧ HCells wr cells (hs.take k) ∧
        DataSt wr wr.heap.size (.slice kA kn kc) (bp ko).2 ∧ DataSt wr wr.heap.size (.slice vA vn vc) (bp vo).2 ∧ SU w r attr (tm * 1000000) od so L hA hs.length hc kA0 kn0 kc0 vA0 vn0 vc0 wr)) (fun i _ => hs.length - (intOf i).toNat)
    case atStart => exact ⟨0, by omega, rfl, H0⟩
    case round =>
      obtain ⟨k, hkk, rfl, HS⟩ := hrel
      clear hcr
      by_cases hlt : k < hs.length
      · obtain ⟨hv, cells, hbb, hown, hcl, hdk, hdv, hsu⟩ := HS.out
        obtain ⟨g, C, f, rfl, hgD, hgb, hall⟩ := H.out.2.2.2 (by intro e; rw [e] at hlt; simp at hlt)
        obtain ⟨hb', kv', vv', hpc, hbD, hhb', hkv', hvv'⟩ := hall k hlt
        obtain ⟨A1, n1, c1, rfl⟩ := hkv'.form
        obtain ⟨A2, n2, c2, rfl⟩ := hvv'.form
        have hwr := hsu.bel.size
        have cpt := (World.cell?_of_block (a := ⟨g, k, none⟩) (hsu.bel.block g (by omega))).trans hpc
        have hh1 : Blk wr hb' 163 [.slice A1 n1 c1, .slice A2 n2 c2] := hhb'.below hsu.bel (by omega)
        have hk1 := hkv'.below hsu.bel hD
        have hv1 := hvv'.below hsu.bel hD
        have hx := hhb hs[k] (by simp)
        have HX := Lib.hid (And.intro hh1 (And.intro hk1 hv1))
        have HR := Lib.hid (And.intro hbb (And.intro hown (And.intro hcl (And.intro hdk (And.intro hdv hsu)))))
        have hh0 := hh1.cell 0
        have hh2 := hh1.cell 1
        have hb7 := hbb.cell 7
        simp only [List.getElem?_cons_zero, List.getElem?_cons_succ] at hh0 hh2 hb7
        have hbblt := hbb.lt
        clear hbb hown hcl hdk hdv hsu hh1 hk1 hv1 hall hpc hhb' hkv' hvv' HS H0
        go_wp2_with fail
        obtain ⟨i1, hi1, hz1, hs1, hby1⟩ := info_parts info90
        have hS3 : (fun W => W.cell? ⟨hb', 0, none⟩ = some (.slice A1 n1 c1) ∧ W.cell? ⟨hb', 1, none⟩ = some (.slice A2 n2 c2) ∧ W.cell? ⟨b, 7, none⟩ = some hv) wr.drew := ⟨hh0, hh2, hb7⟩
        refine wp_region_E 16 (fun W => W.cell? ⟨hb', 0, none⟩ = some (.slice A1 n1 c1) ∧ W.cell? ⟨hb', 1, none⟩ = some (.slice A2 n2 c2) ∧ W.cell? ⟨b, 7, none⟩ = some hv) (by kernel_rfl) ?_
        refine wpE_takeL (i := 0) (v := ?_) rfl (by kernel_rfl) (by kernel_rfl) (by kernel_rfl) (by kernel_rfl) (fun _ _ _ h => h) (by assumption) (Or.inl ⟨by rfl, ?_⟩) ?_
        rotate_left
        · intro W hSw
          try dsimp only at hSw
          go_split_ands
          go_simp
          try with_reducible rfl
        try simp only [Act.put, List.setIfInBounds_toArray, List.set_cons_zero, List.set_cons_succ]
        refine wpE_takeL (i := 1) (v := ?_) rfl (by kernel_rfl) (by kernel_rfl) (by kernel_rfl) (by kernel_rfl) (fun _ _ _ h => h) (by assumption) (Or.inl ⟨by rfl, ?_⟩) ?_
        rotate_left
        · intro W hSw
          try dsimp only at hSw
          go_split_ands
          go_simp
          try with_reducible rfl
        try simp only [Act.put, List.setIfInBounds_toArray, List.set_cons_zero, List.set_cons_succ]
        refine wpE_takeL (i := 2) (v := ?_) rfl (by kernel_rfl) (by kernel_rfl) (by kernel_rfl) (by kernel_rfl) (fun _ _ _ h => h) (by assumption) (Or.inl ⟨by rfl, ?_⟩) ?_
        rotate_left
        · intro W hSw
          try dsimp only at hSw
          go_split_ands
          go_simp
          try with_reducible rfl
        try simp only [Act.put, List.setIfInBounds_toArray, List.set_cons_zero, List.set_cons_succ]
        refine wpE_takeL (i := 3) (v := ?_) rfl (by kernel_rfl) (by kernel_rfl) (by kernel_rfl) (by kernel_rfl) (fun _ _ _ h => h) (by assumption) (Or.inl ⟨by rfl, ?_⟩) ?_
        rotate_left
        · intro W hSw
          try dsimp only at hSw
          go_split_ands
          go_simp
          try with_reducible rfl
        try simp only [Act.put, List.setIfInBounds_toArray, List.set_cons_zero, List.set_cons_succ]
        refine wpE_takeL (i := 4) (v := ?_) rfl (by kernel_rfl) (by kernel_rfl) (by kernel_rfl) (by kernel_rfl) (fun _ _ _ h => h) (by assumption) (Or.inl ⟨by rfl, ?_⟩) ?_
        rotate_left
        · intro W hSw
          try dsimp only at hSw
          go_split_ands
          go_simp
          try with_reducible rfl
        try simp only [Act.put, List.setIfInBounds_toArray, List.set_cons_zero, List.set_cons_succ]
        refine wpE_takeL (i := 5) (v := ?_) rfl (by kernel_rfl) (by kernel_rfl) (by kernel_rfl) (by kernel_rfl) (fun _ _ _ h => h) (by assumption) (Or.inl ⟨by rfl, ?_⟩) ?_
        rotate_left
        · intro W hSw
          try dsimp only at hSw
          go_split_ands
          go_simp
          try with_reducible rfl
        try simp only [Act.put, List.setIfInBounds_toArray, List.set_cons_zero, List.set_cons_succ]
        refine wpE_takeL (i := 7) (v := ?_) rfl (by kernel_rfl) (by kernel_rfl) (by kernel_rfl) (by kernel_rfl) (fun _ _ _ h => h) (by assumption) (Or.inl ⟨by rfl, ?_⟩) ?_
        rotate_left
        · intro W hSw
          try dsimp only at hSw
          go_split_ands
          go_simp
          try with_reducible rfl
        try simp only [Act.put, List.setIfInBounds_toArray, List.set_cons_zero, List.set_cons_succ]
        refine wpE_takeL (i := 8) (v := ?_) rfl (by kernel_rfl) (by kernel_rfl) (by kernel_rfl) (by kernel_rfl) (fun _ _ _ h => h) (by assumption) (Or.inl ⟨by rfl, ?_⟩) ?_
        rotate_left
        · intro W hSw
          try dsimp only at hSw
          go_split_ands
          go_simp
          try with_reducible rfl
        try simp only [Act.put, List.setIfInBounds_toArray, List.set_cons_zero, List.set_cons_succ]
        refine wpE_takeL (i := 9) (v := ?_) rfl (by kernel_rfl) (by kernel_rfl) (by kernel_rfl) (by kernel_rfl) (fun _ _ _ h => h) (by assumption) (Or.inl ⟨by rfl, ?_⟩) ?_
        rotate_left
        · intro W hSw
          try dsimp only at hSw
          go_split_ands
          go_simp
          try with_reducible rfl
        try simp only [Act.put, List.setIfInBounds_toArray, List.set_cons_zero, List.set_cons_succ]
        refine wpE_takeL (i := 10) (v := ?_) rfl (by kernel_rfl) (by kernel_rfl) (by kernel_rfl) (by kernel_rfl) (fun _ _ _ h => h) (by assumption) (Or.inl ⟨by rfl, ?_⟩) ?_
        rotate_left
        · intro W hSw
          try dsimp only at hSw
          go_split_ands
          go_simp
          try with_reducible rfl
        try simp only [Act.put, List.setIfInBounds_toArray, List.set_cons_zero, List.set_cons_succ]
        refine wpE_oneL (i := 6) rfl (by kernel_rfl) (fun K hK => ?_)
        go_simp
        go_at_call 86
        refine (plain2 _ hs[k].1 D _ (HX.out.2.1.below (show Below wr.heap.size wr wr.drew from (Below.refl _ _).drew) (by omega)) (by omega) (show D ≤ wr.heap.size by omega)).mono ?_
        rintro e w4 ⟨kA4, kn4, kc4, rfl, hk4, hb4⟩
        have hE4 : Below wr.heap.size wr w4 := below_undrew hb4
        have q0_4 := (HX.out.1.below hE4 HX.out.1.lt).cell 0
        have q1_4 := (HX.out.1.below hE4 HX.out.1.lt).cell 1
        have q7_4 := (HR.out.1.below hE4 HR.out.1.lt).cell 7
        simp only [List.getElem?_cons_zero, List.getElem?_cons_succ] at q0_4 q1_4 q7_4
        try simp only []
        have hS4 : (fun W => W.cell? ⟨hb', 0, none⟩ = some (.slice A1 n1 c1) ∧ W.cell? ⟨hb', 1, none⟩ = some (.slice A2 n2 c2) ∧ W.cell? ⟨b, 7, none⟩ = some hv) w4 := ⟨q0_4, q1_4, q7_4⟩
        refine hK.out _ _ (fun _ => hS4) ?_
        clear hK K
        try simp only [Act.put, List.setIfInBounds_toArray, List.set_cons_zero, List.set_cons_succ]
        refine wpE_oneL (i := 11) rfl (by kernel_rfl) (fun K hK => ?_)
        go_simp
        go_at_call 86
        refine (plain2 _ hs[k].2 D _ (HX.out.2.2.below hE4 (by omega)) (by omega) (by have := hE4.size; omega)).mono ?_
        rintro e w5 ⟨kA5, kn5, kc5, rfl, hk5, hb5⟩
        have hE5 := hE4.trans (hb5.mono hE4.size)
        have q0_5 := (HX.out.1.below hE5 HX.out.1.lt).cell 0
        have q1_5 := (HX.out.1.below hE5 HX.out.1.lt).cell 1
        have q7_5 := (HR.out.1.below hE5 HR.out.1.lt).cell 7
        simp only [List.getElem?_cons_zero, List.getElem?_cons_succ] at q0_5 q1_5 q7_5
        try simp only []
        have hS5 : (fun W => W.cell? ⟨hb', 0, none⟩ = some (.slice A1 n1 c1) ∧ W.cell? ⟨hb', 1, none⟩ = some (.slice A2 n2 c2) ∧ W.cell? ⟨b, 7, none⟩ = some hv) w5 := ⟨q0_5, q1_5, q7_5⟩
        refine hK.out _ _ (fun _ => hS5) ?_
        clear hK K
        try simp only [Act.put, List.setIfInBounds_toArray, List.set_cons_zero, List.set_cons_succ]
        refine wpE_takeL (i := 12) (v := ?_) rfl (by kernel_rfl) (by kernel_rfl) (by kernel_rfl) (by kernel_rfl) (fun _ _ _ h => h) (by assumption) (Or.inl ⟨by rfl, ?_⟩) ?_
        rotate_left
        · intro W hSw
          try dsimp only at hSw
          go_split_ands
          go_simp
          try with_reducible rfl
        try simp only [Act.put, List.setIfInBounds_toArray, List.set_cons_zero, List.set_cons_succ]
        refine wpE_oneL (i := 13) rfl (by kernel_rfl) (fun K hK => ?_)
        go_simp
        have hE6 := hE5.alloc hE5.size (.cells #[.bool (bp hs[k].1).1, .slice kA4 kn4 kc4, .bool (bp hs[k].2).1, .slice kA5 kn5 kc5] 90)
        have q0_6 := (HX.out.1.below hE6 HX.out.1.lt).cell 0
        have q1_6 := (HX.out.1.below hE6 HX.out.1.lt).cell 1
        have q7_6 := (HR.out.1.below hE6 HR.out.1.lt).cell 7
        simp only [List.getElem?_cons_zero, List.getElem?_cons_succ] at q0_6 q1_6 q7_6
        have hS6 : (fun W => W.cell? ⟨hb', 0, none⟩ = some (.slice A1 n1 c1) ∧ W.cell? ⟨hb', 1, none⟩ = some (.slice A2 n2 c2) ∧ W.cell? ⟨b, 7, none⟩ = some hv) (w5.alloc (.cells #[.bool (bp hs[k].1).1, .slice kA4 kn4 kc4, .bool (bp hs[k].2).1, .slice kA5 kn5 kc5] 90)) := ⟨q0_6, q1_6, q7_6⟩
        refine hK.out _ _ (fun _ => hS6) ?_
        clear hK K
        try simp only [Act.put, List.setIfInBounds_toArray, List.set_cons_zero, List.set_cons_succ]
        refine wpE_oneL (i := 14) rfl (by kernel_rfl) (fun K hK => ?_)
        refine step_append_lies _ rfl _ _ 26 rfl w.heap.size 90 i1 (.agg #[.bool false, .slice none 0 0, .bool false, .slice none 0 0]) 4 64 Tryz.underlying26 hi1 hz1 hs1 hby1 rfl (by omega) hv k cells rfl (own_below_z HR.out.2.1 hE6 (Nat.le_refl _)) ⟨w5.heap.size, 0, none⟩ 1 1 [.bool (bp hs[k].1).1, .slice kA4 kn4 kc4, .bool (bp hs[k].2).1, .slice kA5 kn5 kc5] rfl rfl (World.news_of_block (cs := #[.bool (bp hs[k].1).1, .slice kA4 kn4 kc4, .bool (bp hs[k].2).1, .slice kA5 kn5 kc5]) (t := 90) (fr := (0, 0)) (heap_alloc_new w5 (.cells #[.bool (bp hs[k].1).1, .slice kA4 kn4 kc4, .bool (bp hs[k].2).1, .slice kA5 kn5 kc5] 90))) (by simp [Value.oneCell']) (by omega) (by simp only [maxLen]; omega) (by omega) (by have := hE5.size; simp; omega) (w5.heap.size + 1) (by simp) ?_
        intro g7 cap7 w7 hown7 hgr7 hat7 hlt7
        have ho6 := own_below_z HR.out.2.1 hE6 (Nat.le_refl _)
        have hsm : Same (w5.alloc (.cells #[.bool (bp hs[k].1).1, .slice kA4 kn4 kc4, .bool (bp hs[k].2).1, .slice kA5 kn5 kc5] 90)) w7 := (Same.refl _).grown hgr7 (fun g e => by
          obtain ⟨C, hC⟩ := (own_row_z ho6 e).2
          exact ⟨C, 90, (0, 0), hC, by decide, by decide⟩)
        have hbb6 := HR.out.1.below hE6 HR.out.1.lt
        have hbb7 : Blk w7 b 28 _ := (hgr7.block b hbb6.lt (fun e => own_ne_z ho6 hbb6 (by decide) e.symm)).trans hbb6
        have c7 := hbb7.cell 7
        have z7 := hbb7.frozen 7
        simp only [List.getElem?_cons_zero, List.getElem?_cons_succ] at c7
        have hss := (Same.refl w7).setCell hbb7 ⟨by decide, by decide⟩ 7 (.slice (some ⟨g7, 0, none⟩) (k + 1) cap7)
        have hsw : Same wr (w7.setCell ⟨b, 7, none⟩ (.slice (some ⟨g7, 0, none⟩) (k + 1) cap7)) := ((Same.of_below hE6).trans hsm).trans hss
        have hs57 : Same w5 (w7.setCell ⟨b, 7, none⟩ (.slice (some ⟨g7, 0, none⟩) (k + 1) cap7)) := (((Same.refl w5).alloc _).trans hsm).trans hss
        have hbw6 : Below w.heap.size w (w5.alloc (.cells #[.bool (bp hs[k].1).1, .slice kA4 kn4 kc4, .bool (bp hs[k].2).1, .slice kA5 kn5 kc5] 90)) := HR.out.2.2.2.2.2.bel.trans (hE6.mono hwr)
        have hbw7 : Below w.heap.size w w7 := hbw6.trans (grownBy_below hgr7 (fun g e => (own_row_z ho6 e).1) hbw6.size)
        have hr6 := HR.out.2.2.2.2.2.blk.below hE6 HR.out.2.2.2.2.2.blk.lt
        have hr7 : Blk w7 r 101 _ := (hgr7.block r hr6.lt (fun e => own_ne_z ho6 hr6 (by decide) e.symm)).trans hr6
        have hz6 := HR.out.2.2.2.2.2.res.below hE6 HR.out.2.2.2.2.2.res.lt
        have hz7 : Blk w7 w.heap.size 28 _ := (hgr7.block w.heap.size hz6.lt (fun e => own_ne_z ho6 hz6 (by decide) e.symm)).trans hz6
        have HN : Hid (∃ hv cells, Blk (w7.setCell ⟨b, 7, none⟩ (.slice (some ⟨g7, 0, none⟩) (k + 1) cap7)) b 28 [.int .i8 attr, .int .i64 tm, .int .i64 od, .bool (bp ko).1, .slice kA kn kc, .bool (bp vo).1, .slice vA vn vc, hv] ∧ (w7.setCell ⟨b, 7, none⟩ (.slice (some ⟨g7, 0, none⟩) (k + 1) cap7)).ownsRow w.heap.size 90 4 hv (k + 1) cells ∧ HCells (w7.setCell ⟨b, 7, none⟩ (.slice (some ⟨g7, 0, none⟩) (k + 1) cap7)) cells (hs.take (k + 1)) ∧
            DataSt (w7.setCell ⟨b, 7, none⟩ (.slice (some ⟨g7, 0, none⟩) (k + 1) cap7)) (w7.setCell ⟨b, 7, none⟩ (.slice (some ⟨g7, 0, none⟩) (k + 1) cap7)).heap.size (.slice kA kn kc) (bp ko).2 ∧ DataSt (w7.setCell ⟨b, 7, none⟩ (.slice (some ⟨g7, 0, none⟩) (k + 1) cap7)) (w7.setCell ⟨b, 7, none⟩ (.slice (some ⟨g7, 0, none⟩) (k + 1) cap7)).heap.size (.slice vA vn vc) (bp vo).2 ∧ SU w r attr (tm * 1000000) od so L (some ⟨g, 0, none⟩) hs.length hc kA0 kn0 kc0 vA0 vn0 vc0 (w7.setCell ⟨b, 7, none⟩ (.slice (some ⟨g7, 0, none⟩) (k + 1) cap7))) :=
          ⟨_, _, hbb7.set_ 7 _, own_setCell_z hown7 hbb7 (by decide) 7 _, by
            rw [List.take_succ_eq_append_getElem hlt]
            exact (HR.out.2.2.1.same hsw).snoc (((hk4.below hb5 (Nat.le_refl _)).same hs57).mono (Nat.le_trans hb5.size hs57.1)) ((hk5.same hs57).mono hs57.1), (HR.out.2.2.2.1.same hsw).mono hsw.1, (HR.out.2.2.2.2.1.same hsw).mono hsw.1,
            ⟨hr7.far (p := ⟨b, 7, none⟩) (show r ≠ b by omega) _, hbw7.setCell (p := ⟨b, 7, none⟩) (show w.heap.size ≤ b by omega) _, hz7.far (p := ⟨b, 7, none⟩) (show w.heap.size ≠ b by omega) _⟩⟩
        have q0_7 := hsm
        have hb163 : Blk w7 hb' 163 _ := (HX.out.1.below hE6 HX.out.1.lt).same hsm
        have p0 := hb163.cell 0
        have p1 := hb163.cell 1
        simp only [List.getElem?_cons_zero, List.getElem?_cons_succ] at p0 p1
        have hS7 : (fun W => W.cell? ⟨hb', 0, none⟩ = some (.slice A1 n1 c1) ∧ W.cell? ⟨hb', 1, none⟩ = some (.slice A2 n2 c2) ∧ W.cell? ⟨b, 7, none⟩ = some hv) w7 := ⟨p0, p1, c7⟩
        refine hK.out _ _ (fun _ => hS7) ?_
        clear hK K
        try simp only [Act.put, List.setIfInBounds_toArray, List.set_cons_zero, List.set_cons_succ]
        clear hS3 hS4 hS5 hS6
        refine wpE_oneL (i := 15) rfl (by kernel_rfl) (fun K hK => ?_)
        go_simp
        refine hK.out _ _ (fun _ => hS7) ?_
        clear hK K
        try simp only [Act.put, List.setIfInBounds_toArray, List.set_cons_zero, List.set_cons_succ]
        refine wpE_oneL (i := 16) rfl (by kernel_rfl) (fun K hK => ?_)
        go_simp
        refine hK.out _ _ (fun h => Bool.noConfusion (show true = false from h)) ?_
        clear hK K
        try simp only [Act.put, List.setIfInBounds_toArray, List.set_cons_zero, List.set_cons_succ]
        refine wpE_done (by kernel_rfl) ?_ _
        refine NoPanic.normal ?_
        clear HR HX
        go_wp2
        go_roundw
        case rel =>
          first
            | exact ⟨k + 1, by omega, by go_num, HN⟩
            | ((repeat apply Exists.intro); exact ⟨⟨k + 1, by omega, by go_num, HN⟩, rfl⟩)
        case measure => simp [intOf]; omega
      · obtain rfl : k = hs.length := by omega
        obtain ⟨hv, cells, hbb, hown, hcl, hdk, hdv, hsu⟩ := HS.out
        rw [List.take_length] at hcl
        obtain ⟨A9, c9, rfl, hA9⟩ : ∃ A c, hv = .slice A hs.length c ∧ ∀ a, A = some a → w.heap.size ≤ a.block := by
          rcases hown.2 with ⟨h, h0⟩ | ⟨g, cap, cur, h, hB, _⟩
          · exact ⟨none, 0, by rw [h0]; exact h, fun a ha => by cases ha⟩
          · exact ⟨some ⟨g, 0, none⟩, cap, h, fun a ha => by injection ha with ha; rw [← ha]; exact hB⟩
        obtain ⟨x0, x1, x2, x3, x4, x5, x6, x7, _, _, _, _, _, _, _, _⟩ := blk8 hbb
        obtain ⟨z0, z1, z2, z3, z4, z5, z6, z7, y0, y1, y2, y3, y4, y5, y6, y7⟩ := blk8 hsu.res
        have HR := Lib.hid (And.intro hbb (And.intro hown (And.intro hcl (And.intro hdk (And.intro hdv hsu)))))
        clear hbb hown hcl hdk hdv hsu HS H0
        go_wp2
        obtain ⟨hbb, hown, hcl, hdk, hdv, hsu⟩ := HR.out
        have hE := end_ab hsu.res hdk hdv (.int .i8 attr) (.int .i64 tm) (.int .i64 od) (.bool (bp ko).1) (.slice kA kn kc) (.bool (bp vo).1) (.slice vA vn vc) (.slice A9 hs.length c9) _ rfl
        have hT := set8 hsu.res (.int .i8 attr) (.int .i64 tm) (.int .i64 od) (.bool (bp ko).1) (.slice kA kn kc) (.bool (bp vo).1) (.slice vA vn vc) (.slice A9 hs.length c9) _ rfl
        have hI := hin_of rfl (hT.2.1 _ _ _ _ _ _ (by decide) hown) (hcl.same hT.1)
        have hB := hT.2.2.1 _ _ (Nat.le_refl _) hsu.bel
        try simp only [Exit.inBlock, Exit.then]
        refine bodyPost_ret (results_cell_row rfl _ _ w.heap.size 28 #[.int .i8 attr, .int .i64 tm, .int .i64 od, .bool (bp ko).1, .slice kA kn kc, .bool (bp vo).1, .slice vA vn vc, .slice A9 hs.length c9] (0, 0) _ rfl hE.1 Tryz.underlying28 rfl (by kernel_rfl)) rfl ?_
        exact ⟨_, _, _, _, _, _, _, _, rfl, hE.2.1, hE.2.2, hI, hA9, hB⟩
end Go.Proofs.YtmiflkccfieefaaGreatDoor
