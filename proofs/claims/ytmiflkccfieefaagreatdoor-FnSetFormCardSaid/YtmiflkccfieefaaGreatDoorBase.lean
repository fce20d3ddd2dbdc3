import Derived.Test.YtmiflkccfieefaaGreatDoorRows
import Derived.WalkKit
import Derived.ProofKit
import Derived.OpenShut
import Derived.WalkLawsBesides
import Derived.WalkSpells
import Derived.Deep.RegionWith
import Derived.Deep.QuietTactic
import Derived.BigQuiet
import Derived.StillTailTactics
import Derived.Deep.RegionHeld3
import Derived.Deep.AppendLies
import Derived.Maps.AppendAt
import Derived.Lib.Hide
import Derived.Lib.Varint
import Derived.Lib.Endian
import Derived.Lib.Zigzag
import Derived.Lib.VarintMem
import Derived.Lib.VarintDec
import Derived.Deep.DeepFit
namespace Go.Proofs.YtmiflkccfieefaaGreatDoor
open Go.ChangeShapes Go.WideShapes Go.ChangeAt Go.RowKit

/-- Block g holds just the cells cs of element type t, none of them frozen. -/
def Blk (w : World) (g : Nat) (t : TypeId) (cs : List Value) : Prop := w.heap[g]? = some (.cells cs.toArray t (0, 0))

section
variable {w w' : World} {g : Nat} {t : TypeId} {cs : List Value}
theorem Blk.lt (h : Blk w g t cs) : g < w.heap.size := by
  rcases Nat.lt_or_ge g w.heap.size with hlt | hge
  · exact hlt
  · unfold Blk at h
    rw [Array.getElem?_eq_none hge] at h
    cases h
theorem Blk.cell (h : Blk w g t cs) (i : Nat) : w.cell? ⟨g, i, none⟩ = cs[i]? := by
  unfold Blk at h
  simp [World.cell?, h]
theorem Blk.frozen (h : Blk w g t cs) (i : Nat) : w.frozen? ⟨g, i, none⟩ = false := by
  unfold Blk at h
  simp [World.frozen?, h]
theorem Blk.new (w : World) (t : TypeId) (cs : List Value) : Blk (w.alloc (.cells cs.toArray t)) w.heap.size t cs := by
  unfold Blk World.alloc
  simp
theorem Blk.drew (h : Blk w g t cs) : Blk w.drew g t cs := h
theorem Blk.drewN (h : Blk w g t cs) (n : Nat) : Blk (w.drewN n) g t cs := h
theorem Blk.alloc (h : Blk w g t cs) (o : Obj) : Blk (w.alloc o) g t cs := (Below.heap_alloc w o g h.lt).trans h
theorem Blk.set_ (h : Blk w g t cs) (i : Nat) (u : Value) : Blk (w.setCell ⟨g, i, none⟩ u) g t (cs.set i u) := by
  unfold Blk at h ⊢
  simp [World.setCell, Array.getElem?_modify, h]
theorem Blk.far (h : Blk w g t cs) {p : Addr} (hp : g ≠ p.block) (u : Value) : Blk (w.setCell p u) g t cs := (Below.heap_setCell w p u g hp).trans h
theorem Blk.below {B : Nat} (h : Blk w g t cs) (hb : Below B w w') (hg : g < B) : Blk w' g t cs := (hb.block g hg).trans h
theorem Blk.ne_ {g' : Nat} {t' : TypeId} {cs' : List Value} (h : Blk w g t cs) (h' : Blk w g' t' cs') (hne : t ≠ t') : g ≠ g' := by
  rintro rfl
  unfold Blk at h h'
  rw [h] at h'
  injection h' with h'
  injection h' with _ ht
  exact hne ht
end

/-- The element types of the encoders' and the decoders' stacks. -/
def stackT (t : TypeId) : Prop := t = 323 ∨ t = 314

/-- From w to w' nothing that was there has turned but the blocks of S and, from B on, stacks. -/
structure Kept (B : Nat) (S : List Nat) (w w' : World) : Prop where
  os : w'.os = w.os
  tape : w'.tape = w.tape
  output : w'.output = w.output
  size : w.heap.size ≤ w'.heap.size
  block : ∀ k, k < w.heap.size → k ∉ S → (k < B ∨ ∀ c t f, w.heap[k]? = some (.cells c t f) → ¬ stackT t) → w'.heap[k]? = w.heap[k]?

theorem Kept.refl (B : Nat) (S : List Nat) (w : World) : Kept B S w w := ⟨rfl, rfl, rfl, Nat.le_refl _, fun _ _ _ _ => rfl⟩
theorem Kept.trans {B : Nat} {S1 S2 S : List Nat} {a b c : World} (h : Kept B S1 a b) (k : Kept B S2 b c) (h1 : ∀ x ∈ S1, x ∈ S ∨ a.heap.size ≤ x) (h2 : ∀ x ∈ S2, x ∈ S ∨ a.heap.size ≤ x) : Kept B S a c := by
  refine ⟨k.os.trans h.os, k.tape.trans h.tape, k.output.trans h.output, Nat.le_trans h.size k.size, fun i hi hS hst => ?_⟩
  have e1 : b.heap[i]? = a.heap[i]? := h.block i hi (fun hm => by rcases h1 i hm with x | x; exact hS x; omega) hst
  rw [← e1]
  refine k.block i (Nat.lt_of_lt_of_le hi h.size) (fun hm => by rcases h2 i hm with x | x; exact hS x; omega) ?_
  rcases hst with hlt | hst
  · exact .inl hlt
  · exact .inr fun c t f he => hst c t f (e1 ▸ he)
theorem Kept.mono {B B' : Nat} {S S' : List Nat} {a b : World} (h : Kept B S a b) (hB : B' ≤ B) (hS : ∀ x ∈ S, x ∈ S' ∨ a.heap.size ≤ x) : Kept B' S' a b :=
  ⟨h.os, h.tape, h.output, h.size, fun i hi hn hst => h.block i hi (fun hm => by rcases hS i hm with x | x; exact hn x; omega) (by
    rcases hst with hlt | hst
    · exact .inl (by omega)
    · exact .inr hst)⟩
theorem Kept.of_below {B : Nat} {a b : World} (h : Below a.heap.size a b) (S : List Nat) : Kept B S a b := ⟨h.os, h.tape, h.output, h.size, fun i hi _ _ => h.block i hi⟩
theorem Kept.to_below {B : Nat} {S : List Nat} {a b : World} (h : Kept B S a b) (hB : B ≤ a.heap.size) (hS : ∀ x ∈ S, B ≤ x) : Below B a b :=
  ⟨h.os, h.tape, h.output, h.size, fun i hi => h.block i (by omega) (fun hm => by have := hS i hm; omega) (.inl hi)⟩
theorem Kept.setCell {B : Nat} {S : List Nat} {a b : World} (h : Kept B S a b) {p : Addr} (hp : p.block ∈ S ∨ a.heap.size ≤ p.block) (u : Value) : Kept B S a (b.setCell p u) :=
  ⟨h.os, h.tape, h.output, by simpa using h.size, fun i hi hn hst => (Below.heap_setCell b p u i (by
    rintro rfl
    rcases hp with x | x
    · exact hn x
    · omega)).trans (h.block i hi hn hst)⟩
theorem Kept.alloc {B : Nat} {S : List Nat} {a b : World} (h : Kept B S a b) (o : Obj) : Kept B S a (b.alloc o) :=
  ⟨h.os, h.tape, h.output, Nat.le_trans h.size (by simp), fun i hi hn hst => (Below.heap_alloc b o i (Nat.lt_of_lt_of_le hi h.size)).trans (h.block i hi hn hst)⟩
theorem Kept.drew {B : Nat} {S : List Nat} {a b : World} (h : Kept B S a b) : Kept B S a b.drew := ⟨h.os, h.tape, h.output, h.size, h.block⟩
theorem Kept.drewN {B : Nat} {S : List Nat} {a b : World} (h : Kept B S a b) (n : Nat) : Kept B S a (b.drewN n) := ⟨h.os, h.tape, h.output, h.size, h.block⟩
theorem Kept.undrew {B : Nat} {S : List Nat} {a b : World} (h : Kept B S a.drew b) : Kept B S a b := ⟨h.os, h.tape, h.output, h.size, h.block⟩

theorem Blk.kept {B : Nat} {S : List Nat} {w w' : World} {g : Nat} {t : TypeId} {cs : List Value} (h : Blk w g t cs) (hk : Kept B S w w') (hS : g ∉ S) (ht : g < B ∨ ¬ stackT t) : Blk w' g t cs := by
  refine (hk.block g h.lt hS ?_).trans h
  rcases ht with x | x
  · exact .inl x
  · refine .inr fun c t' f he => ?_
    unfold Blk at h
    rw [h] at he
    injection he with he
    injection he with _ he
    exact he ▸ x


/-- vs laid over cs from place o on. -/
def puts : List Value → Nat → List Value → List Value
  | cs, _, [] => cs
  | cs, o, v :: r => puts (cs.set o v) (o + 1) r
theorem puts_length : ∀ (vs cs : List Value) (o : Nat), (puts cs o vs).length = cs.length
  | [], _, _ => rfl
  | v :: r, cs, o => by rw [puts, puts_length r, List.length_set]
theorem puts_split : ∀ (vs pre mid post : List Value), mid.length = vs.length → puts (pre ++ (mid ++ post)) pre.length vs = pre ++ (vs ++ post)
  | [], pre, mid, post, h => by
    have : mid = [] := List.eq_nil_of_length_eq_zero (by simpa using h)
    subst this
    rfl
  | v :: r, pre, [], post, h => by simp at h
  | v :: r, pre, m :: mid, post, h => by
    have ih := puts_split r (pre ++ [v]) mid post (by simpa using h)
    simp only [List.length_append, List.length_cons, List.length_nil, Nat.zero_add, List.append_assoc, List.cons_append, List.nil_append] at ih
    rw [puts]
    rw [show (pre ++ (m :: mid ++ post)).set pre.length v = pre ++ (v :: (mid ++ post)) by simp]
    exact ih
theorem Blk.sets {g : Nat} {t : TypeId} : ∀ (vs : List Value) (o : Nat) (w : World) (cs : List Value), Blk w g t cs → Blk (w.setCells g o vs) g t (puts cs o vs)
  | [], _, _, _, h => h
  | v :: r, o, _, _, h => Blk.sets r (o + 1) _ _ (h.set_ o v)
theorem Blk.sets_far {g b : Nat} {t : TypeId} {cs : List Value} (hne : g ≠ b) : ∀ (vs : List Value) (o : Nat) (w : World), Blk w g t cs → Blk (w.setCells b o vs) g t cs
  | [], _, _, h => h
  | v :: r, o, _, h => Blk.sets_far hne r (o + 1) _ (h.far hne v)
theorem Kept.setCells {B : Nat} {S : List Nat} {a : World} {g : Nat} (hp : g ∈ S ∨ a.heap.size ≤ g) : ∀ (vs : List Value) (o : Nat) (b : World), Kept B S a b → Kept B S a (b.setCells g o vs)
  | [], _, _, h => h
  | v :: r, o, _, h => Kept.setCells hp r (o + 1) _ (h.setCell (p := ⟨g, o, none⟩) hp v)
theorem size_sets (g : Nat) : ∀ (vs : List Value) (o : Nat) (w : World), (w.setCells g o vs).heap.size = w.heap.size
  | [], _, _ => rfl
  | v :: r, o, w => by rw [World.setCells, size_sets g r]; simp


/-- The bytes of a varint; of bytes that may be null behind a varint; behind four bytes. -/
def vb (x : Int) : List UInt8 := Lib.uvarint (Lib.zigzag x)
def vBytes : Option (List UInt8) → List UInt8
  | none => vb (-1)
  | some l => vb l.length ++ l
def sBytes : Option (List UInt8) → List UInt8
  | none => Lib.beBytes 4 4294967295
  | some l => Lib.beBytes 4 l.length ++ l
theorem vb_le {x : Int} (h0 : -9223372036854775808 ≤ x) (h1 : x ≤ 9223372036854775807) : (vb x).length ≤ 10 := Lib.uvarint_length64 (Lib.zigzag_lt h0 h1)
theorem vb_pos (x : Int) : 1 ≤ (vb x).length := Lib.uvarint_pos _

/-- A slice's value is null, or a list's length long. -/
def SlIs (v : Value) : Option (List UInt8) → Prop
  | none => v = .slice none 0 0
  | some l => ∃ a c, v = .slice (some a) l.length c

theorem own_ne {w : World} {B n : Nat} {e t : TypeId} {sv : Value} {xs cs : List Value} {g : Nat} (h : w.ownsRow B e 1 sv n xs) (hg : Blk w g t cs) (hne : e ≠ t) : sv.ownBlock ≠ some g := by
  rcases h.2 with ⟨rfl, _⟩ | ⟨g', cap, cur, rfl, _, hh, _⟩
  · simp [Value.ownBlock]
  · intro he
    have : g' = g := by simpa [Value.ownBlock] using he
    subst this
    unfold Blk at hg
    rw [hg] at hh
    injection hh with hh
    injection hh with _ ht
    exact hne ht.symm
theorem own_kept {w w' : World} {B n : Nat} {e : TypeId} {sv : Value} {xs : List Value} {S : List Nat} (h : w.ownsRow B e 1 sv n xs) (hk : Kept w.heap.size S w w') (hS : ∀ x ∈ S, sv.ownBlock ≠ some x) : w'.ownsRow B e 1 sv n xs := by
  refine ⟨h.1, ?_⟩
  rcases h.2 with hn | ⟨g, cap, cur, rfl, hb, hgg, rest⟩
  · exact .inl hn
  · have hlt : g < w.heap.size := (Array.getElem?_eq_some_iff.1 hgg).1
    refine .inr ⟨g, cap, cur, rfl, hb, ?_, rest⟩
    rw [hk.block g hlt (fun hm => hS g hm (by simp [Value.ownBlock])) (.inl hlt)]
    exact hgg

/-- The preparing encoder at block p: n bytes counted, on its stack stk, in a row of its own from block B on. -/
def PE (B : Nat) (w : World) (p n : Nat) (stk : List Value) : Prop := B ≤ p ∧ ∃ sv, Blk w p 178 [sv, .int .i64 n] ∧ w.ownsRow B 323 1 sv stk.length stk
theorem PE.lt {B : Nat} {w : World} {p n : Nat} {stk : List Value} (h : PE B w p n stk) : B ≤ w.heap.size := by
  obtain ⟨h1, sv, h2, _⟩ := h
  have := h2.lt
  omega
theorem PE.keep {B : Nat} {w w' : World} {p n m : Nat} {stk : List Value} (h : PE B w p n stk) (hk : Kept w.heap.size [p] w w') (hb : ∀ sv, Blk w p 178 [sv, .int .i64 n] → Blk w' p 178 [sv, .int .i64 m]) : PE B w' p m stk := by
  obtain ⟨h1, sv, h2, h3⟩ := h
  exact ⟨h1, sv, hb sv h2, own_kept h3 hk (fun x hx => by
    have : x = p := by simpa using hx
    subst this
    exact own_ne h3 h2 (by decide))⟩

end Go.Proofs.YtmiflkccfieefaaGreatDoor
