/-
  A record and its headers in memory; a header's encoding, by both encoders.
-/
import Derived.Test.YtmiflkccfieefaaGreatDoorPopB
import Derived.Test.YtmiflkccfieefaaGreatDoorPushA
import Derived.Test.YtmiflkccfieefaaGreatDoorPushB
namespace Go.Proofs.YtmiflkccfieefaaGreatDoor
open Go.ChangeShapes Go.WideShapes Go.ChangeAt Go.RowKit
set_option maxRecDepth 100000
set_option linter.unusedVariables false

/-- What may be written while the data below block D stay: blocks from D on, and blocks that hold no data of a record. -/
def Far (w : World) (D : Nat) (S : List Nat) : Prop := ∀ s ∈ S, D ≤ s ∨ ∃ t cs, Blk w s t cs ∧ t ≠ 5 ∧ t ≠ 161 ∧ t ≠ 163
theorem Far.bytes {w : World} {D : Nat} {S : List Nat} (h : Far w D S) : ∀ s ∈ S, D ≤ s ∨ ∃ t cs, t ≠ 5 ∧ Blk w s t cs := fun s hs => by
  rcases h s hs with h1 | ⟨t, cs, h1, h2, _⟩
  · exact .inl h1
  · exact .inr ⟨t, cs, h2, h1⟩
abbrev NB := Option (List UInt8)
/-- Header i of the row g. -/
def HdrAt (w : World) (D g i : Nat) (x : NB × NB) : Prop := ∃ b kv vv, w.cell? ⟨g, i, none⟩ = some (.pointer (some ⟨b, 0, none⟩)) ∧ b < D ∧ Blk w b 163 [kv, vv] ∧ NBytesAt w D kv x.1 ∧ NBytesAt w D vv x.2
def HdrsAt (w : World) (D : Nat) (v : Value) (hs : List (NB × NB)) : Prop :=
  ∃ A c, v = .slice A hs.length c ∧ (hs ≠ [] → ∃ g C f, A = some ⟨g, 0, none⟩ ∧ g < D ∧ w.heap[g]? = some (.cells C 161 f) ∧ ∀ i (h : i < hs.length), HdrAt w D g i hs[i])
theorem not_in {w : World} {D : Nat} {S : List Nat} (h : Far w D S) {g : Nat} {C : Array Value} {t : TypeId} {f : Nat × Nat} (hg : g < D) (hb : w.heap[g]? = some (.cells C t f)) (ht : t = 161 ∨ t = 163) : g ∉ S := by
  intro hm
  rcases h g hm with h1 | ⟨t', cs, h1, _, h2, h3⟩
  · omega
  · unfold Blk at h1
    rw [hb] at h1
    injection h1 with h1
    injection h1 with _ h1
    subst h1
    rcases ht with rfl | rfl
    · exact h2 rfl
    · exact h3 rfl
theorem heap_keeps {B : Nat} {S : List Nat} {w w' : World} (hk : Kept B S w w') {D : Nat} (hS : Far w D S) {g : Nat} {C : Array Value} {t : TypeId} {f : Nat × Nat} (hg : g < D) (hb : w.heap[g]? = some (.cells C t f)) (ht : t = 161 ∨ t = 163) : w'.heap[g]? = w.heap[g]? := by
  refine hk.block g (Array.getElem?_eq_some_iff.1 hb).1 (not_in hS hg hb ht) (.inr fun c t' f' he => ?_)
  rw [hb] at he
  injection he with he
  injection he with _ he
  subst he
  rintro (h5 | h5) <;> rcases ht with h6 | h6 <;> rw [h5] at h6 <;> exact absurd h6 (by decide)
theorem HdrAt.kept {B D : Nat} {S : List Nat} {w w' : World} {g i : Nat} {x : NB × NB} (h : HdrAt w D g i x) (hk : Kept B S w w') (hS : Far w D S) (hg : w'.heap[g]? = w.heap[g]?) : HdrAt w' D g i x := by
  obtain ⟨b, kv, vv, hc, hb, hbb, h1, h2⟩ := h
  exact ⟨b, kv, vv, (World.cell?_of_block hg).trans hc, hb, (heap_keeps hk hS hb hbb (.inr rfl)).trans hbb, h1.kept hk hS.bytes, h2.kept hk hS.bytes⟩
theorem HdrsAt.kept {B D : Nat} {S : List Nat} {w w' : World} {v : Value} {hs : List (NB × NB)} (h : HdrsAt w D v hs) (hk : Kept B S w w') (hS : Far w D S) : HdrsAt w' D v hs := by
  obtain ⟨A, c, rfl, hh⟩ := h
  refine ⟨A, c, rfl, fun hne => ?_⟩
  obtain ⟨g, C, f, hA, hgD, hgb, hi⟩ := hh hne
  have e := heap_keeps hk hS hgD hgb (.inl rfl)
  exact ⟨g, C, f, hA, hgD, e.trans hgb, fun i hl => (hi i hl).kept hk hS e⟩
/-- A header's bytes; a record's behind its length; a record's. -/
def hdrB (x : NB × NB) : List UInt8 := vBytes x.1 ++ vBytes x.2
def recBody (attr tm od : Int) (ko vo : NB) (hs : List (NB × NB)) : List UInt8 := byteOf attr :: (vb tm ++ (vb od ++ (vBytes ko ++ (vBytes vo ++ (vb hs.length ++ hs.flatMap hdrB)))))
def recBytes (attr tm od : Int) (ko vo : NB) (hs : List (NB × NB)) : List UInt8 := vb (recBody attr tm od ko vo hs).length ++ recBody attr tm od ko vo hs
/-- A record in memory at block r: its length field holds so and L. -/
def RecAt (w : World) (D r : Nat) (attr td od : Int) (ko vo : NB) (hs : List (NB × NB)) (so L : Int) : Prop :=
  ∃ hv kv vv, Blk w r 101 [hv, .int .i8 attr, .int .i64 td, .int .i64 od, kv, vv, .int .i64 so, .int .i64 L] ∧ HdrsAt w D hv hs ∧ NBytesAt w D kv ko ∧ NBytesAt w D vv vo
theorem NBytesAt.len {w : World} {D : Nat} {v : Value} {o : NB} (_ : NBytesAt w D v o) : True := trivial

/-- The writing encoder, whatever stands behind what it has written. -/
def RX (B : Nat) (w : World) (p g N : Nat) (pre : List UInt8) (stk : List Value) : Prop := ∃ rest, RE B w p g N pre rest stk
theorem RX.len {B : Nat} {w : World} {p g N : Nat} {pre : List UInt8} {stk : List Value} (h : RX B w p g N pre stk) : pre.length ≤ N := by
  obtain ⟨rest, h⟩ := h
  have := h.2.2.1
  omega
theorem RX.base {B : Nat} {w : World} {p g N : Nat} {pre : List UInt8} {stk : List Value} (h : RX B w p g N pre stk) : B ≤ p ∧ B ≤ g ∧ p < w.heap.size := by
  obtain ⟨rest, h⟩ := h
  obtain ⟨h1, h2, _, sv, h3, _⟩ := h
  exact ⟨h1, h2, h3.lt⟩
theorem x206 {B : Nat} (p g N : Nat) (x : Int) (pre : List UInt8) (stk : List Value) (w : World) (h : RX B w p g N pre stk) (hN : N ≤ 1000000000) (hx0 : -128 ≤ x) (hx1 : x ≤ 127) (hr : pre.length + ([byteOf x]).length ≤ N) :
    Calls Tryz.prog 206 #[.pointer (some ⟨p, 0, none⟩), .int .i8 x] w fun e w' => e = .returned (.tuple #[]) ∧ RX B w' p g N (pre ++ [byteOf x]) stk ∧ Kept B [p, g] w w' := by
  obtain ⟨rest, h⟩ := h
  have hl := h.2.2.1
  refine (r206 p g N x pre rest stk w h hN hx0 hx1 (by simp at hr; omega)).mono ?_
  rintro e w' ⟨rfl, h1, h2⟩
  exact ⟨rfl, ⟨_, h1⟩, h2⟩
theorem x205 {B : Nat} (p g N : Nat) (x : Int) (pre : List UInt8) (stk : List Value) (w : World) (h : RX B w p g N pre stk) (hN : N ≤ 1000000000)  (hr : pre.length + (Lib.beBytes 8 (x % 18446744073709551616).toNat).length ≤ N) :
    Calls Tryz.prog 205 #[.pointer (some ⟨p, 0, none⟩), .int .i64 x] w fun e w' => e = .returned (.tuple #[]) ∧ RX B w' p g N (pre ++ Lib.beBytes 8 (x % 18446744073709551616).toNat) stk ∧ Kept B [p, g] w w' := by
  obtain ⟨rest, h⟩ := h
  have hl := h.2.2.1
  refine (r205 p g N x pre rest stk w h hN (by rw [Lib.beBytes_length] at hr; omega)).mono ?_
  rintro e w' ⟨rfl, h1, h2⟩
  exact ⟨rfl, ⟨_, h1⟩, h2⟩
theorem x208 {B : Nat} (p g N : Nat) (x : Int) (pre : List UInt8) (stk : List Value) (w : World) (h : RX B w p g N pre stk) (hN : N ≤ 1000000000) (hx0 : -9223372036854775808 ≤ x) (hx1 : x ≤ 9223372036854775807) (hr : pre.length + (vb x).length ≤ N) :
    Calls Tryz.prog 208 #[.pointer (some ⟨p, 0, none⟩), .int .i64 x] w fun e w' => e = .returned (.tuple #[]) ∧ RX B w' p g N (pre ++ vb x) stk ∧ Kept B [p, g] w w' := by
  obtain ⟨rest, h⟩ := h
  have hl := h.2.2.1
  refine (r208 p g N x pre rest stk w h hN hx0 hx1 (by omega)).mono ?_
  rintro e w' ⟨rfl, h1, h2⟩
  exact ⟨rfl, ⟨_, h1⟩, h2⟩
theorem x209 {B : Nat} (p g N : Nat) (v : Value) (o : NB) (D : Nat) (pre : List UInt8) (stk : List Value) (w : World) (h : RX B w p g N pre stk) (hN : N ≤ 1000000000) (hv : NBytesAt w D v o) (hDg : D ≤ g) (hDp : D ≤ p) (hr : pre.length + (vBytes o).length ≤ N) :
    Calls Tryz.prog 209 #[.pointer (some ⟨p, 0, none⟩), v] w fun e w' => e = .returned .nilIface ∧ RX B w' p g N (pre ++ vBytes o) stk ∧ Kept B [p, g] w w' := by
  obtain ⟨rest, h⟩ := h
  have hl := h.2.2.1
  refine (r209 p g N v o pre rest stk w h hN D hv hDg hDp (by omega)).mono ?_
  rintro e w' ⟨rfl, h1, h2⟩
  exact ⟨rfl, ⟨_, h1⟩, h2⟩
theorem x201 {B : Nat} (p g N : Nat) (v : Value) (o : NB) (D : Nat) (pre : List UInt8) (stk : List Value) (w : World) (h : RX B w p g N pre stk) (hN : N ≤ 1000000000) (hv : NBytesAt w D v o) (hDg : D ≤ g) (hDp : D ≤ p) (hr : pre.length + (sBytes o).length ≤ N) :
    Calls Tryz.prog 201 #[.pointer (some ⟨p, 0, none⟩), v] w fun e w' => e = .returned .nilIface ∧ RX B w' p g N (pre ++ sBytes o) stk ∧ Kept B [p, g] w w' := by
  obtain ⟨rest, h⟩ := h
  have hl := h.2.2.1
  refine (r201 p g N v o pre rest stk w h hN D hv hDg hDp (by omega)).mono ?_
  rintro e w' ⟨rfl, h1, h2⟩
  exact ⟨rfl, ⟨_, h1⟩, h2⟩
theorem xpush253 {B : Nat} (p g N : Nat) (r o tr : Nat) (cs : List Value) (u : Value) (m : Int) (pre : List UInt8) (stk : List Value) (w : World) (h : RX B w p g N pre stk) (hN : N ≤ 1000000000)
   (hr : Blk w r tr cs) (hencT : tr ≠ 182) (h323 : tr ≠ 323) (h5 : tr ≠ 5) (hc : cs[o]? = some u) (hm : cs[o + 1]? = some (.int .i64 m)) (hm0 : -9223372036854775808 ≤ m) (hm1 : m ≤ 9223372036854775807) (hs : stk.length ≤ 1000) (hroom : pre.length + (vb m).length ≤ N) :
    Calls Tryz.prog 199 #[.pointer (some ⟨p, 0, none⟩), .iface 253 (.pointer (some ⟨r, o, none⟩))] w fun e w' => e = .returned (.tuple #[]) ∧
      ∃ mid, mid.length = (vb m).length ∧ RX B w' p g N (pre ++ mid) (stk ++ [Value.iface 253 (.pointer (some ⟨r, o, none⟩))]) ∧ Blk w' r tr (cs.set o (.int .i64 pre.length)) ∧ Kept B [p, r] w w' := by
  obtain ⟨rest, h⟩ := h
  obtain ⟨hBp, hBg, hNe, sv, hp, hg, hown⟩ := h
  have hpg : p ≠ g := hp.ne_ hg (by decide)
  have hrg : r ≠ g := hr.ne_ hg h5
  refine (push199_253 p pre.length _ r o tr cs u m stk sv w hBp hp hown (by omega) hr hencT h323 hc hm hm0 hm1 hs).mono ?_
  rintro e w' ⟨rfl, sv', hp', hown', hr', hk⟩
  have hmid : (rest.take ((vb m).length)).length = (vb m).length := by rw [List.length_take]; omega
  refine ⟨rfl, rest.take ((vb m).length), hmid, ⟨rest.drop ((vb m).length), hBp, hBg, ?_, sv', ?_, ?_, hown'⟩, hr', hk⟩
  · rw [List.length_append, hmid, List.length_drop]
    omega
  · rw [List.length_append, hmid]
    exact_mod_cast hp'
  · rw [List.append_assoc, List.take_append_drop]
    exact hg.kept hk (by simp; exact ⟨Ne.symm hpg, Ne.symm hrg⟩) (.inr (by rintro (h5 | h5) <;> exact absurd h5 (by decide)))
theorem xpush264 {B : Nat} (p g N : Nat) (r o tr : Nat) (cs : List Value) (u : Value) (pre : List UInt8) (stk : List Value) (w : World) (h : RX B w p g N pre stk) (hN : N ≤ 1000000000)
   (hr : Blk w r tr cs) (hencT : tr ≠ 182) (h323 : tr ≠ 323) (h5 : tr ≠ 5) (hc : cs[o]? = some u) (hs : stk.length ≤ 1000) (hroom : pre.length + 4 ≤ N) :
    Calls Tryz.prog 199 #[.pointer (some ⟨p, 0, none⟩), .iface 264 (.pointer (some ⟨r, o, none⟩))] w fun e w' => e = .returned (.tuple #[]) ∧
      ∃ mid, mid.length = 4 ∧ RX B w' p g N (pre ++ mid) (stk ++ [Value.iface 264 (.pointer (some ⟨r, o, none⟩))]) ∧ Blk w' r tr (cs.set o (.int .i64 pre.length)) ∧ Kept B [p, r] w w' := by
  obtain ⟨rest, h⟩ := h
  obtain ⟨hBp, hBg, hNe, sv, hp, hg, hown⟩ := h
  have hpg : p ≠ g := hp.ne_ hg (by decide)
  have hrg : r ≠ g := hr.ne_ hg h5
  refine (push199_264 p pre.length _ r o tr cs u stk sv w hBp hp hown (by omega) hr hencT h323 hc hs).mono ?_
  rintro e w' ⟨rfl, sv', hp', hown', hr', hk⟩
  have hmid : (rest.take (4)).length = 4 := by rw [List.length_take]; omega
  refine ⟨rfl, rest.take (4), hmid, ⟨rest.drop (4), hBp, hBg, ?_, sv', ?_, ?_, hown'⟩, hr', hk⟩
  · rw [List.length_append, hmid, List.length_drop]
    omega
  · rw [List.length_append, hmid]
    exact_mod_cast hp'
  · rw [List.append_assoc, List.take_append_drop]
    exact hg.kept hk (by simp; exact ⟨Ne.symm hpg, Ne.symm hrg⟩) (.inr (by rintro (h5 | h5) <;> exact absurd h5 (by decide)))
theorem xpush277 {B : Nat} (p g N : Nat) (r o tr : Nat) (cs : List Value) (u : Value) (pre : List UInt8) (stk : List Value) (w : World) (h : RX B w p g N pre stk) (hN : N ≤ 1000000000)
   (hr : Blk w r tr cs) (hencT : tr ≠ 182) (h323 : tr ≠ 323) (h5 : tr ≠ 5) (hc : cs[o]? = some u) (hs : stk.length ≤ 1000) (hroom : pre.length + 4 ≤ N) :
    Calls Tryz.prog 199 #[.pointer (some ⟨p, 0, none⟩), .iface 277 (.pointer (some ⟨r, o, none⟩))] w fun e w' => e = .returned (.tuple #[]) ∧
      ∃ mid, mid.length = 4 ∧ RX B w' p g N (pre ++ mid) (stk ++ [Value.iface 277 (.pointer (some ⟨r, o, none⟩))]) ∧ Blk w' r tr (cs.set o (.int .i64 pre.length)) ∧ Kept B [p, r] w w' := by
  obtain ⟨rest, h⟩ := h
  obtain ⟨hBp, hBg, hNe, sv, hp, hg, hown⟩ := h
  have hpg : p ≠ g := hp.ne_ hg (by decide)
  have hrg : r ≠ g := hr.ne_ hg h5
  refine (push199_277 p pre.length _ r o tr cs u stk sv w hBp hp hown (by omega) hr hencT h323 hc hs).mono ?_
  rintro e w' ⟨rfl, sv', hp', hown', hr', hk⟩
  have hmid : (rest.take (4)).length = 4 := by rw [List.length_take]; omega
  refine ⟨rfl, rest.take (4), hmid, ⟨rest.drop (4), hBp, hBg, ?_, sv', ?_, ?_, hown'⟩, hr', hk⟩
  · rw [List.length_append, hmid, List.length_drop]
    omega
  · rw [List.length_append, hmid]
    exact_mod_cast hp'
  · rw [List.append_assoc, List.take_append_drop]
    exact hg.kept hk (by simp; exact ⟨Ne.symm hpg, Ne.symm hrg⟩) (.inr (by rintro (h5 | h5) <;> exact absurd h5 (by decide)))
theorem xpop253 {B : Nat} (p g N : Nat) (r o tr so : Nat) (m : Int) (cs : List Value) (a mid body : List UInt8) (stk : List Value) (w : World) (h : RX B w p g N (a ++ (mid ++ body)) (stk ++ [Value.iface 253 (.pointer (some ⟨r, o, none⟩))])) (hN1 : N ≤ 1000000000) (hs : stk.length ≤ 1000)
   (hr : Blk w r tr cs) (hso : cs[o]? = some (.int .i64 so)) (hm : cs[o + 1]? = some (.int .i64 m)) (hm0 : -9223372036854775808 ≤ m) (hm1 : m ≤ 9223372036854775807) (htr : tr ≠ 182) (htr5 : tr ≠ 5) (ha : a.length = so) (hml : mid.length = (vb m).length) :
    Calls Tryz.prog 198 #[.pointer (some ⟨p, 0, none⟩)] w fun e w' => e = .returned .nilIface ∧ RX B w' p g N (a ++ (vb m ++ body)) stk ∧ Kept B [p, g] w w' := by
  obtain ⟨rest, h⟩ := h
  refine (rpop253 p g N r o tr so m cs a mid body rest stk w h hN1 hs hr hso hm hm0 hm1 htr htr5 ha hml).mono ?_
  rintro e w' ⟨rfl, h1, h2⟩
  exact ⟨rfl, ⟨_, h1⟩, h2⟩
theorem xpop264 {B : Nat} (p g N : Nat) (r so : Nat) (a mid body : List UInt8) (stk : List Value) (w : World) (h : RX B w p g N (a ++ (mid ++ body)) (stk ++ [Value.iface 264 (.pointer (some ⟨r, 0, none⟩))])) (hN1 : N ≤ 1000000000) (hs : stk.length ≤ 1000)
   (hr : Blk w r 288 [.int .i64 so, .int .i8 0]) (ha : a.length = so) (hb1 : 1 ≤ body.length) (hml : mid.length = 4) :
    Calls Tryz.prog 198 #[.pointer (some ⟨p, 0, none⟩)] w fun e w' => e = .returned .nilIface ∧ RX B w' p g N (a ++ (Lib.beBytes 4 (crc ieee body).toNat ++ body)) stk ∧ Kept B [p, g] w w' := by
  obtain ⟨rest, h⟩ := h
  refine (rpop264 p g N r so a mid body rest stk w h hN1 hs hr ha hb1 hml).mono ?_
  rintro e w' ⟨rfl, h1, h2⟩
  exact ⟨rfl, ⟨_, h1⟩, h2⟩
theorem xpop277 {B : Nat} (p g N : Nat) (r so : Nat) (L : Int) (a mid body : List UInt8) (stk : List Value) (w : World) (h : RX B w p g N (a ++ (mid ++ body)) (stk ++ [Value.iface 277 (.pointer (some ⟨r, 0, none⟩))])) (hN1 : N ≤ 1000000000) (hs : stk.length ≤ 1000)
   (hr : Blk w r 279 [.int .i64 so, .int .i32 L]) (ha : a.length = so) (hml : mid.length = 4) :
    Calls Tryz.prog 198 #[.pointer (some ⟨p, 0, none⟩)] w fun e w' => e = .returned .nilIface ∧ RX B w' p g N (a ++ (Lib.beBytes 4 body.length ++ body)) stk ∧ Kept B [p, g] w w' := by
  obtain ⟨rest, h⟩ := h
  refine (rpop277 p g N r so L a mid body rest stk w h hN1 hs hr ha hml).mono ?_
  rintro e w' ⟨rfl, h1, h2⟩
  exact ⟨rfl, ⟨_, h1⟩, h2⟩
set_option maxHeartbeats 1000000 in
theorem h135p {B : Nat} (p n D b : Nat) (kv vv : Value) (x : NB × NB) (stk : List Value) (w : World) (h : PE B w p n stk) (hn : n ≤ 500000) (hb : Blk w b 163 [kv, vv]) (hbp : b ≠ p) (hk : NBytesAt w D kv x.1) (hv : NBytesAt w D vv x.2) (hDp : D ≤ p)
    (hk1 : ol x.1 ≤ 10000) (hv1 : ol x.2 ≤ 10000) (hkl : (vBytes x.1).length ≤ 20000) :
    Calls Tryz.prog 135 #[.pointer (some ⟨b, 0, none⟩), .iface 175 (.pointer (some ⟨p, 0, none⟩))] w fun e w' => e = .returned .nilIface ∧ PE B w' p (n + (hdrB x).length) stk ∧ Kept B [p] w w' := by
  have h0 := hb.cell 0
  simp at h0
  have hbl := hb.lt
  have e1 : n + (hdrB x).length = n + (vBytes x.1).length + (vBytes x.2).length := by simp [hdrB]; omega
  rw [e1]
  clear e1
  have HH := Lib.hid (And.intro h (And.intro hb (And.intro hk hv)))
  have ht : b < B ∨ ¬ stackT 163 := .inr (by rintro (h5 | h5) <;> exact absurd h5 (by decide))
  clear h hb hk hv
  go_enter Tryz.func135, Tryz.ntmps135
  go_wp2_with fail
  refine wp_region_still_tail 8 (by kernel_rfl) (by kernel_rfl) ?_
  show wpStill _ _ (World.drew _) (fun a' => wpList _ _ _ _ _ (World.drew _)) _ _
  simp only [List.take_succ_cons, List.take_zero, List.drop_succ_cons, List.drop_zero]
  repeat still_step
  refine wpStill_nil ?_
  go_wp2_with fail
  refine (p195 p n kv x.1 stk _ (by exact HH.out.1) (by omega) HH.out.2.2.1.sl (by omega)).mono ?_
  rintro e w1 ⟨rfl, hp1, hK1⟩
  replace hK1 := Kept.undrew hK1
  have hb1 := HH.out.2.1.kept hK1 (by simpa using hbp) ht
  have h1 := hb1.cell 1
  simp at h1
  have H1 := Lib.hid (And.intro hp1 hK1)
  clear hp1 hK1 hb1 h0
  go_wp2_with fail
  refine wp_region_still_tail 8 (by kernel_rfl) (by kernel_rfl) ?_
  show wpStill _ _ (World.drew _) (fun a' => wpList _ _ _ _ _ (World.drew _)) _ _
  simp only [List.take_succ_cons, List.take_zero, List.drop_succ_cons, List.drop_zero]
  repeat still_step
  refine wpStill_nil ?_
  go_wp2_with fail
  refine (p195 p (n + (vBytes x.1).length) vv x.2 stk _ (by exact H1.out.1) (by omega) HH.out.2.2.2.sl (by omega)).mono ?_
  rintro e w2 ⟨rfl, hp2, hK2⟩
  replace hK2 := Kept.undrew hK2
  have HF := Lib.hid (And.intro hp2 (H1.out.2.trans hK2 (fun x hx => .inl hx) (fun x hx => .inl hx)))
  clear hp2 hK2
  go_wp2
  go_ret
  exact ⟨rfl, HF.out⟩
set_option maxHeartbeats 1000000 in
theorem h135r {B : Nat} (p g N D b : Nat) (kv vv : Value) (x : NB × NB) (pre : List UInt8) (stk : List Value) (w : World) (h : RX B w p g N pre stk) (hN : N ≤ 1000000000) (hb : Blk w b 163 [kv, vv]) (hbp : b ≠ p) (hk : NBytesAt w D kv x.1) (hv : NBytesAt w D vv x.2) (hDp : D ≤ p) (hDg : D ≤ g) (hbD : b < D)
    (hr : pre.length + (hdrB x).length ≤ N) :
    Calls Tryz.prog 135 #[.pointer (some ⟨b, 0, none⟩), .iface 180 (.pointer (some ⟨p, 0, none⟩))] w fun e w' => e = .returned .nilIface ∧ RX B w' p g N (pre ++ hdrB x) stk ∧ Kept B [p, g] w w' := by
  have h0 := hb.cell 0
  simp at h0
  have hbl := hb.lt
  have e1 : pre ++ hdrB x = pre ++ vBytes x.1 ++ vBytes x.2 := by simp [hdrB]
  have hr2 : pre.length + (vBytes x.1).length + (vBytes x.2).length ≤ N := by simp [hdrB] at hr; omega
  rw [e1]
  clear e1
  have HH := Lib.hid (And.intro h (And.intro hb (And.intro hk hv)))
  have ht : b < B ∨ ¬ stackT 163 := .inr (by rintro (h5 | h5) <;> exact absurd h5 (by decide))
  clear h hb hk hv
  go_enter Tryz.func135, Tryz.ntmps135
  go_wp2_with fail
  refine wp_region_still_tail 8 (by kernel_rfl) (by kernel_rfl) ?_
  show wpStill _ _ (World.drew _) (fun a' => wpList _ _ _ _ _ (World.drew _)) _ _
  simp only [List.take_succ_cons, List.take_zero, List.drop_succ_cons, List.drop_zero]
  repeat still_step
  refine wpStill_nil ?_
  go_wp2_with fail
  refine (x209 p g N kv x.1 D pre stk _ (by exact HH.out.1) hN (by exact HH.out.2.2.1) hDg hDp (by omega)).mono ?_
  rintro e w1 ⟨rfl, hp1, hK1⟩
  replace hK1 := Kept.undrew hK1
  have hb1 := HH.out.2.1.kept hK1 (by simp; omega) ht
  have h1 := hb1.cell 1
  simp at h1
  have hv1 := HH.out.2.2.2.kept hK1 (fun s hs => .inl (by simp at hs; rcases hs with rfl | rfl <;> assumption))
  have H1 := Lib.hid (And.intro hp1 (And.intro hK1 hv1))
  clear hp1 hK1 hb1 h0 hv1
  go_wp2_with fail
  refine wp_region_still_tail 8 (by kernel_rfl) (by kernel_rfl) ?_
  show wpStill _ _ (World.drew _) (fun a' => wpList _ _ _ _ _ (World.drew _)) _ _
  simp only [List.take_succ_cons, List.take_zero, List.drop_succ_cons, List.drop_zero]
  repeat still_step
  refine wpStill_nil ?_
  go_wp2_with fail
  refine (x209 p g N vv x.2 D (pre ++ vBytes x.1) stk _ (by exact H1.out.1) hN (by exact H1.out.2.2) hDg hDp (by simp; omega)).mono ?_
  rintro e w2 ⟨rfl, hp2, hK2⟩
  replace hK2 := Kept.undrew hK2
  have HF := Lib.hid (And.intro hp2 (H1.out.2.1.trans hK2 (fun x hx => .inl hx) (fun x hx => .inl hx)))
  clear hp2 hK2
  go_wp2
  go_ret
  exact ⟨rfl, HF.out⟩
end Go.Proofs.YtmiflkccfieefaaGreatDoor
