/-
  A record is read: its headers, its fields.
-/
import Derived.Test.YtmiflkccfieefaaGreatDoorDcp
import Derived.Test.YtmiflkccfieefaaGreatDoorRin
namespace Go.Proofs.YtmiflkccfieefaaGreatDoor
open Go.ChangeShapes Go.WideShapes Go.ChangeAt Go.RowKit
set_option maxRecDepth 100000
set_option linter.unusedVariables false
set_option linter.unusedSimpArgs false

/-- A store into a block of another kind. -/
theorem rd_store {B : Nat} {w : World} {p g c : Nat} {pre rest : List UInt8} {stk : List Value} {r t : Nat} {cs : List Value} (h : RD B w p g c pre rest stk) (hr : Blk w r t cs) (ht : t ≠ 5 ∧ t ≠ 174 ∧ t ≠ 314) (i : Nat) (u : Value) :
    RD B (w.setCell ⟨r, i, none⟩ u) p g c pre rest stk :=
  h.kept (S := [r]) ((Kept.refl _ _ _).setCell (p := ⟨r, i, none⟩) (.inl (by simp)) u) (fun s hs => by
    have : s = r := by simpa using hs
    subst this
    exact ⟨_, _, hr, ht⟩)
theorem nb_store {w : World} {D : Nat} {v : Value} {o : NB} {r t : Nat} {cs : List Value} (h : NBytesAt w D v o) (hr : Blk w r t cs) (ht : t ≠ 5) (i : Nat) (u : Value) : NBytesAt (w.setCell ⟨r, i, none⟩ u) D v o :=
  h.kept (B := w.heap.size) (S := [r]) ((Kept.refl _ _ _).setCell (p := ⟨r, i, none⟩) (.inl (by simp)) u) (fun s hs => by
    have : s = r := by simpa using hs
    subst this
    exact .inr ⟨_, _, ht, hr⟩)
theorem rd_blk {B : Nat} {w : World} {p g c : Nat} {pre rest : List UInt8} {stk : List Value} (h : RD B w p g c pre rest stk) : ∃ cs, Blk w p 174 cs := by
  obtain ⟨_, sv, hp, _⟩ := h
  exact ⟨_, hp⟩
theorem nb_kept_p {B B' : Nat} {w w' : World} {p g c : Nat} {pre rest : List UInt8} {stk : List Value} {D : Nat} {v : Value} {o : NB} (h : NBytesAt w D v o) (hd : RD B w p g c pre rest stk) (hk : Kept B' [p] w w') : NBytesAt w' D v o :=
  h.kept hk (fun s hs => by
    have : s = p := by simpa using hs
    subst this
    obtain ⟨cs, hb⟩ := rd_blk hd
    exact .inr ⟨174, cs, by decide, hb⟩)
theorem blk_kept_p {B B' : Nat} {w w' : World} {p g c : Nat} {pre rest : List UInt8} {stk : List Value} {r t : Nat} {cs : List Value} (h : Blk w r t cs) (hd : RD B w p g c pre rest stk) (hk : Kept B' [p] w w') (ht : t ≠ 174 ∧ t ≠ 314 ∧ t ≠ 323) : Blk w' r t cs := by
  obtain ⟨cs', hb⟩ := rd_blk hd
  exact h.kept hk (by simpa using h.ne_ hb ht.1) (.inr (fun h => by rcases h with h | h; exact ht.2.2 h; exact ht.2.1 h))
theorem kept_p_set {B : Nat} {S : List Nat} {w w1 : World} {r : Nat} (h : Kept B S w w1) (hr : r ∈ S) (i : Nat) (u : Value) : Kept B S w (w1.setCell ⟨r, i, none⟩ u) := h.setCell (p := ⟨r, i, none⟩) (.inl hr) u

theorem d134 {B : Nat} (p g c D b : Nat) (k0 v0 : Value) (x : NB × NB) (pre rest : List UInt8) (stk : List Value) (w : World) (h : RD B w p g c pre (hdrB x ++ rest) stk) (hl : pre.length + 310 + rest.length ≤ 800000) (hD : g < D) (hx : ol x.1 ≤ 60 ∧ ol x.2 ≤ 60) (hb : Blk w b 163 [k0, v0]) :
    Calls Tryz.prog 134 #[.pointer (some ⟨b, 0, none⟩), .iface 171 (.pointer (some ⟨p, 0, none⟩))] w fun e w' => e = .returned .nilIface ∧ RD B w' p g c (pre ++ hdrB x) rest stk ∧ Kept B [p, b] w w' ∧
      ∃ kv vv, Blk w' b 163 [kv, vv] ∧ NBytesAt w' D kv x.1 ∧ NBytesAt w' D vv x.2 := by
  have hv1 := vBytes_le x.1 (by omega)
  have hv2 := vBytes_le x.2 (by omega)
  have h2 : RD B w p g c pre (vBytes x.1 ++ (vBytes x.2 ++ rest)) stk := by simpa [hdrB] using h
  have H := Lib.hid (And.intro h2 hb)
  clear h h2 hb
  go_enter Tryz.func134, Tryz.ntmps134
  go_wp2_with fail
  refine (d174 p g c D x.1 pre (vBytes x.2 ++ rest) stk _ (by exact H.out.1) (by simp; omega) hD).mono ?_
  rintro e w1 ⟨v1, rfl, hn1, hd1, hk1⟩
  obtain ⟨a1, l1, c1, rfl⟩ := hn1.form
  have hb1 := blk_kept_p H.out.2 H.out.1 hk1 (by decide)
  have cc := hb1.cell 0
  have zz := hb1.frozen 0
  simp only [List.getElem?_cons_zero] at cc
  have H1 := Lib.hid (And.intro (rd_store hd1 hb1 (by decide) 0 (.slice a1 l1 c1)) (And.intro (nb_store hn1 hb1 (by decide) 0 (.slice a1 l1 c1)) (And.intro (hb1.set_ 0 (.slice a1 l1 c1)) (kept_p_set (hk1.mono (Nat.le_refl _) (S' := [p, b]) (fun y hy => .inl (by simp at hy ⊢; exact .inl hy))) (r := b) (by simp) 0 (.slice a1 l1 c1)))))
  clear hd1 hn1 hb1 hk1
  go_wp2_with fail
  refine (d174 p g c D x.2 _ rest stk _ (by exact H1.out.1) (by simp; omega) hD).mono ?_
  rintro e w2 ⟨v2, rfl, hn2, hd2, hk2⟩
  obtain ⟨a2, l2, c2, rfl⟩ := hn2.form
  have hb2 := blk_kept_p H1.out.2.2.1 H1.out.1 hk2 (by decide)
  have hn12 := nb_kept_p H1.out.2.1 H1.out.1 hk2
  have cc := hb2.cell 1
  have zz := hb2.frozen 1
  simp only [List.set_cons_zero, List.getElem?_cons_zero, List.getElem?_cons_succ] at cc
  have HF := Lib.hid (show RD B (w2.setCell ⟨b, 1, none⟩ (.slice a2 l2 c2)) p g c (pre ++ hdrB x) rest stk ∧ Kept B [p, b] w (w2.setCell ⟨b, 1, none⟩ (.slice a2 l2 c2)) ∧
      ∃ kv vv, Blk (w2.setCell ⟨b, 1, none⟩ (.slice a2 l2 c2)) b 163 [kv, vv] ∧ NBytesAt (w2.setCell ⟨b, 1, none⟩ (.slice a2 l2 c2)) D kv x.1 ∧ NBytesAt (w2.setCell ⟨b, 1, none⟩ (.slice a2 l2 c2)) D vv x.2 from
    ⟨by have h := rd_store hd2 hb2 (by decide) 1 (.slice a2 l2 c2); simpa [hdrB] using h, kept_p_set (H1.out.2.2.2.trans (S2 := [p]) hk2 (fun y hy => .inl hy) (fun y hy => .inl (by simp at hy ⊢; exact .inl hy))) (by simp) 1 _,
      _, _, hb2.set_ 1 _, nb_store hn12 hb2 (by decide) 1 _, nb_store hn2 hb2 (by decide) 1 _⟩)
  clear hn2 hd2 hk2 hb2 hn12
  go_wp2
  go_ret
  exact ⟨rfl, HF.out⟩

/-- A record while it is read. -/
structure RS (B p g c r : Nat) (w0 : World) (D : Nat) (stk : List Value) (w : World) (pre rest : List UInt8) (cs : List Value) (kv vv : Value) (ko vo : NB) : Prop where
  rd : RD B w p g c pre rest stk
  blk : Blk w r 101 cs
  nk : NBytesAt w D kv ko
  nv : NBytesAt w D vv vo
  kept : Kept B [p, r] w0 w
section
variable {B p g c r D : Nat} {w0 w w1 : World} {stk cs : List Value} {pre rest pre' rest' : List UInt8} {kv vv kv' : Value} {ko vo ko' : NB}
theorem RS.step (h : RS B p g c r w0 D stk w pre rest cs kv vv ko vo) (hd : RD B w1 p g c pre' rest' stk) (hk : Kept B [p] w w1) : RS B p g c r w0 D stk w1 pre' rest' cs kv vv ko vo :=
  ⟨hd, blk_kept_p h.blk h.rd hk (by decide), nb_kept_p h.nk h.rd hk, nb_kept_p h.nv h.rd hk, h.kept.trans hk (fun y hy => .inl hy) (fun y hy => .inl (by simp at hy ⊢; exact .inl hy))⟩
theorem RS.store (h : RS B p g c r w0 D stk w pre rest cs kv vv ko vo) (i : Nat) (u : Value) : RS B p g c r w0 D stk (w.setCell ⟨r, i, none⟩ u) pre rest (cs.set i u) kv vv ko vo :=
  ⟨rd_store h.rd h.blk (by decide) i u, h.blk.set_ i u, nb_store h.nk h.blk (by decide) i u, nb_store h.nv h.blk (by decide) i u, kept_p_set h.kept (by simp) i u⟩
theorem RS.key (h : RS B p g c r w0 D stk w pre rest cs kv vv ko vo) (hk : NBytesAt w D kv' ko') : RS B p g c r w0 D stk w pre rest cs kv' vv ko' vo := ⟨h.rd, h.blk, hk, h.nv, h.kept⟩
theorem RS.val (h : RS B p g c r w0 D stk w pre rest cs kv vv ko vo) (hk : NBytesAt w D kv' ko') : RS B p g c r w0 D stk w pre rest cs kv kv' ko ko' := ⟨h.rd, h.blk, h.nk, hk, h.kept⟩
theorem RS.drewN (h : RS B p g c r w0 D stk w pre rest cs kv vv ko vo) (n : Nat) : RS B p g c r w0 D stk (w.drewN n) pre rest cs kv vv ko vo := ⟨h.rd.drewN n, h.blk.drewN n, h.nk.kept (B := 0) (S := []) ((Kept.refl _ _ _).drewN n) (fun s hs => by cases hs), h.nv.kept (B := 0) (S := []) ((Kept.refl _ _ _).drewN n) (fun s hs => by cases hs), h.kept.drewN n⟩
end

theorem rd_new {B : Nat} {w : World} {p g c : Nat} {pre rest : List UInt8} {stk : List Value} (h : RD B w p g c pre rest stk) (o : Obj) : RD B (w.alloc o) p g c pre rest stk := h.kept (S := []) ((Kept.refl _ _ _).alloc o) (fun s hs => by cases hs)
section
variable {B p g c r D : Nat} {w0 w w1 : World} {stk cs : List Value} {pre rest pre' rest' : List UInt8} {kv vv kv' : Value} {ko vo ko' : NB}
theorem RS.alloc (h : RS B p g c r w0 D stk w pre rest cs kv vv ko vo) (o : Obj) : RS B p g c r w0 D stk (w.alloc o) pre rest cs kv vv ko vo :=
  ⟨rd_new h.rd o, h.blk.alloc o, h.nk.kept (B := 0) (S := []) ((Kept.refl _ _ _).alloc o) (fun s hs => by cases hs), h.nv.kept (B := 0) (S := []) ((Kept.refl _ _ _).alloc o) (fun s hs => by cases hs), h.kept.alloc o⟩
theorem RS.step2 {b : Nat} {cb : List Value} (h : RS B p g c r w0 D stk w pre rest cs kv vv ko vo) (hd : RD B w1 p g c pre' rest' stk) (hk : Kept B [p, b] w w1) (hb : Blk w b 163 cb) (hb0 : w0.heap.size ≤ b) : RS B p g c r w0 D stk w1 pre' rest' cs kv vv ko vo := by
  obtain ⟨cp, hp⟩ := rd_blk h.rd
  have hS : ∀ s ∈ [p, b], D ≤ s ∨ ∃ t cs, t ≠ 5 ∧ Blk w s t cs := fun s hs => by
    simp at hs
    rcases hs with rfl | rfl
    · exact .inr ⟨174, _, by decide, hp⟩
    · exact .inr ⟨163, _, by decide, hb⟩
  have hn : r ∉ [p, b] := by
    simp
    exact ⟨h.blk.ne_ hp (by decide), h.blk.ne_ hb (by decide)⟩
  exact ⟨hd, h.blk.kept hk hn (.inr (by rintro (h5 | h5) <;> exact absurd h5 (by decide))), h.nk.kept hk hS, h.nv.kept hk hS, h.kept.trans hk (fun y hy => .inl hy) (fun y hy => by
    simp at hy
    rcases hy with rfl | rfl
    · exact .inl (by simp)
    · exact .inr hb0)⟩
theorem RS.other {G t : Nat} {cG : List Value} (h : RS B p g c r w0 D stk w pre rest cs kv vv ko vo) (hG : Blk w G t cG) (ht : t ≠ 5 ∧ t ≠ 174 ∧ t ≠ 314) (h101 : t ≠ 101) (hG0 : w0.heap.size ≤ G) (i : Nat) (u : Value) : RS B p g c r w0 D stk (w.setCell ⟨G, i, none⟩ u) pre rest cs kv vv ko vo :=
  ⟨rd_store h.rd hG ht i u, h.blk.far (p := ⟨G, i, none⟩) (h.blk.ne_ hG (Ne.symm h101)) u, nb_store h.nk hG ht.1 i u, nb_store h.nv hG ht.1 i u, h.kept.setCell (p := ⟨G, i, none⟩) (.inr hG0) u⟩
end

/-- Pointers to headers. -/
def PtrsN (w : World) (ptrs : List Value) (hs : List (NB × NB)) : Prop :=
  ptrs.length = hs.length ∧ ∀ i (h : i < hs.length), ∃ b kv vv, ptrs[i]? = some (.pointer (some ⟨b, 0, none⟩)) ∧ Blk w b 163 [kv, vv] ∧ NBytesAt w w.heap.size kv hs[i].1 ∧ NBytesAt w w.heap.size vv hs[i].2
theorem PtrsN.nil (w : World) : PtrsN w [] [] := ⟨rfl, fun i h => by simp at h⟩
theorem PtrsN.kept {B : Nat} {S : List Nat} {w w' : World} {ptrs : List Value} {hs : List (NB × NB)} (h : PtrsN w ptrs hs) (hk : Kept B S w w') (hS : ∀ s ∈ S, w.heap.size ≤ s ∨ ∃ t cs, Blk w s t cs ∧ t ≠ 5 ∧ t ≠ 163) : PtrsN w' ptrs hs :=
  ⟨h.1, fun i hi => by
    obtain ⟨b, kv, vv, h1, h2, h3, h4⟩ := h.2 i hi
    have hS5 : ∀ s ∈ S, w.heap.size ≤ s ∨ ∃ t cs, t ≠ 5 ∧ Blk w s t cs := fun s hs => by
      rcases hS s hs with h | ⟨t, cs, h, h5, _⟩
      · exact .inl h
      · exact .inr ⟨t, cs, h5, h⟩
    refine ⟨b, kv, vv, h1, h2.kept hk (fun hm => ?_) (.inr (by rintro (h5 | h5) <;> exact absurd h5 (by decide))), (h3.kept hk hS5).mono hk.size, (h4.kept hk hS5).mono hk.size⟩
    rcases hS b hm with h | ⟨t, cs, h, _, h5⟩
    · have := h2.lt
      omega
    · exact h2.ne_ h (Ne.symm h5) rfl⟩
theorem PtrsN.snoc {w : World} {ptrs : List Value} {hs : List (NB × NB)} (h : PtrsN w ptrs hs) {b : Nat} {kv vv : Value} {x : NB × NB} (h1 : Blk w b 163 [kv, vv]) (h2 : NBytesAt w w.heap.size kv x.1) (h3 : NBytesAt w w.heap.size vv x.2) :
    PtrsN w (ptrs ++ [.pointer (some ⟨b, 0, none⟩)]) (hs ++ [x]) := by
  refine ⟨by simp [h.1], fun i hi => ?_⟩
  by_cases hlt : i < hs.length
  · obtain ⟨b', kv', vv', g1, g2, g3, g4⟩ := h.2 i hlt
    refine ⟨b', kv', vv', by rw [List.getElem?_append_left (by rw [h.1]; exact hlt)]; exact g1, g2, ?_, ?_⟩
    · rw [List.getElem_append_left hlt]; exact g3
    · rw [List.getElem_append_left hlt]; exact g4
  · have hi' : i = hs.length := by simp at hi; omega
    subst hi'
    refine ⟨b, kv, vv, by rw [← h.1]; simp, h1, ?_, ?_⟩
    · simpa using h2
    · simpa using h3
theorem hdrsN_of {w : World} {G n : Nat} {ptrs : List Value} {hs : List (NB × NB)} (hn : n = hs.length) (hb : Blk w G 161 ptrs) (hp : PtrsN w ptrs hs) (cap : Nat) : HdrsAt w w.heap.size (.slice (some ⟨G, 0, none⟩) n cap) hs := by
  subst hn
  refine ⟨some ⟨G, 0, none⟩, cap, rfl, fun hne => ⟨G, ptrs.toArray, (0, 0), rfl, hb.lt, hb, fun i hi => ?_⟩⟩
  obtain ⟨b, kv, vv, g1, g2, g3, g4⟩ := hp.2 i hi
  exact ⟨b, kv, vv, (hb.cell i).trans g1, g2.lt, g2, g3, g4⟩
theorem hdrs_ge (hs : List (NB × NB)) : hs.length ≤ (hs.flatMap hdrB).length := by
  induction hs with
  | nil => simp
  | cons x l ih =>
    have h1 : 1 ≤ (hdrB x).length := by
      unfold hdrB vBytes
      cases x.1 with
      | none => have := vb_pos (-1); simp; omega
      | some m => have := vb_pos (m.length : Int); simp; omega
    rw [List.flatMap_cons, List.length_append, List.length_cons]
    omega
theorem made161 (n : Nat) : madeCells #[.pointer none] n = (List.replicate n (Value.pointer none)).toArray := by
  apply Array.ext
  · simp [madeCells]
  · intro i h1 h2
    simp [madeCells, Nat.mod_one]
theorem make96 (n : Nat) (hn : n ≤ 1000000) (w : World) : (Instr.makeSlice 96 (.int .i64 (n : Int)) (.int .i64 (n : Int))).run Tryz.prog w = .ok (.slice (some ⟨w.heap.size, 0, none⟩) n n) (w.alloc (.cells (List.replicate n (Value.pointer none)).toArray 161)) := by
  obtain ⟨i, hi, hz, hs, hb⟩ := info_parts info161
  have h := run_make (P := Tryz.prog) w 96 161 i (.pointer none) Tryz.underlying96 hi hz .i64 .i64 n n (by omega) (by omega) (by rw [hb]; omega) (by omega)
  simp only [Int.toNat_natCast, hs, Nat.mul_one] at h
  rw [h]
  congr 3
  exact made161 n

theorem HdrsAt.mono {w : World} {D D' : Nat} {v : Value} {hs : List (NB × NB)} (h : HdrsAt w D v hs) (hD : D ≤ D') : HdrsAt w D' v hs := by
  obtain ⟨A, c, hv, hh⟩ := h
  refine ⟨A, c, hv, fun hne => ?_⟩
  obtain ⟨g, C, f, hA, hg, hgb, hall⟩ := hh hne
  refine ⟨g, C, f, hA, by omega, hgb, fun i hi => ?_⟩
  obtain ⟨b, kv, vv, h1, h2, h3, h4, h5⟩ := hall i hi
  exact ⟨b, kv, vv, h1, by omega, h3, h4.mono hD, h5.mono hD⟩
set_option maxHeartbeats 4000000 in
theorem d132 {B : Nat} (p g c r : Nat) (c0 : List Value) (attr tm od : Int) (ko vo : NB) (hs : List (NB × NB)) (pre rest : List UInt8) (stk : List Value) (w : World) (h : RD B w p g c pre (recBytes attr tm od ko vo hs ++ rest) stk)
    (hl : pre.length + rest.length ≤ 600000) (hF : RecFits attr tm od ko vo hs) (hr : Blk w r 101 c0) (hc0 : c0.length = 8) (hstk : stk.length ≤ 100) :
    Calls Tryz.prog 132 #[.pointer (some ⟨r, 0, none⟩), .iface 171 (.pointer (some ⟨p, 0, none⟩))] w fun e w' => e = .returned .nilIface ∧ RD B w' p g c (pre ++ recBytes attr tm od ko vo hs) rest stk ∧ Kept B [p, r] w w' ∧
      ∃ so L, RecAt w' w'.heap.size r attr (tm * 1000000) od ko vo hs so L := by
  have hbl := recBody_le hF
  have hD := h.glt
  match c0, hc0 with
  | [z0, z1, z2, z3, z4, z5, z6, z7], hc8 =>
  clear hc8
  have hpr : p ≠ r := by
    obtain ⟨cs, hb⟩ := rd_blk h
    exact hb.ne_ hr (by decide)
  have hBs := h.base
  obtain ⟨f1, f2, f3, f4, f5, f6, f7, f8, f9, f10⟩ := hF
  have a1 := vb_le (x := tm) (by omega) (by omega)
  have a2 := vb_le f5 f6
  have a3 := vBytes_le ko f7
  have a4 := vBytes_le vo f8
  have a5 := vb_le (x := (hs.length : Int)) (by omega) (by omega)
  have a6 : (hs.flatMap hdrB).length ≤ 620 * hs.length := hdrsLen_fits hs f10
  have a7 := hdrs_ge hs
  have h1 : RD B w p g c pre (vb (recBody attr tm od ko vo hs).length ++ ([byteOf attr] ++ (vb tm ++ (vb od ++ (vBytes ko ++ (vBytes vo ++ (vb hs.length ++ (hs.flatMap hdrB ++ rest)))))))) stk := by
    simpa [recBytes, recBody] using h
  have hLL : ([byteOf attr] ++ (vb tm ++ (vb od ++ (vBytes ko ++ (vBytes vo ++ (vb hs.length ++ (hs.flatMap hdrB))))))).length = (recBody attr tm od ko vo hs).length := by simp [recBody]
  simp only [List.length_append] at hLL
  generalize hLv : (recBody attr tm od ko vo hs).length = L at *
  have HLL := Lib.hid (And.intro hLL hLv)
  have hvm := vb_le (x := (L : Int)) (by omega) (by omega)
  have H := Lib.hid (And.intro h1 hr)
  clear h h1 hr hLv hLL
  go_enter Tryz.func132, Tryz.ntmps132
  go_wp2_with fail
  refine wp_region_still_tail 8 (by kernel_rfl) (by kernel_rfl) ?_
  show wpStill _ _ (World.drew _) (fun a' => wpList _ _ _ _ _ (World.drew _)) _ _
  simp only [List.take_succ_cons, List.take_zero, List.drop_succ_cons, List.drop_zero]
  repeat still_step
  refine wpStill_nil ?_
  go_wp2_with fail
  refine (dpush253 p g c r 6 101 _ z6 z7 L pre _ stk _ (by exact H.out.1.drew) (by simp only [List.length_append, List.length_cons, List.length_nil]; omega) (by omega) (by omega) (by exact H.out.2.drew) (by decide) (by decide) (by decide) (by decide) rfl rfl (by omega)).mono ?_
  rintro e w1 ⟨rfl, hd1, hr1, hk1⟩
  replace hk1 := Kept.undrew hk1
  simp only [List.set_cons_zero, List.set_cons_succ] at hr1
  have H1 := Lib.hid (show RS B p g c r w w.heap.size (stk ++ [Value.iface 253 (.pointer (some ⟨r, 6, none⟩))]) w1 (pre ++ vb L) ([byteOf attr] ++ (vb tm ++ (vb od ++ (vBytes ko ++ (vBytes vo ++ (vb hs.length ++ (hs.flatMap hdrB ++ rest))))))) [z0, z1, z2, z3, z4, z5, .int .i64 pre.length, .int .i64 L] (.slice none 0 0) (.slice none 0 0) none none from ⟨hd1, hr1, rfl, rfl, hk1⟩)
  clear hd1 hr1 hk1
  generalize hstv : stk ++ [Value.iface 253 (.pointer (some ⟨r, 6, none⟩))] = st at H1
  have HST := Lib.hid hstv
  clear hstv
  go_wp2_with fail
  refine (d171 p g c attr _ _ st _ (by exact H1.out.rd) (by simp only [List.length_append, List.length_cons, List.length_nil]; omega) f1 f2).mono ?_
  rintro e w2 ⟨rfl, hd, hk⟩
  have hS := H1.out.step hd hk
  have cc := hS.blk.cell 1
  have zz := hS.blk.frozen 1
  simp only [List.getElem?_cons_zero, List.getElem?_cons_succ] at cc
  have H2 := Lib.hid (hS.store 1 (.int .i8 attr))
  clear hd hk hS
  go_wp2_with fail
  clear cc zz
  refine (d173 p g c tm _ _ st _ (by exact H2.out.rd) (by simp only [List.length_append, List.length_cons, List.length_nil]; omega) (by omega) (by omega)).mono ?_
  rintro e w3 ⟨rfl, hd, hk⟩
  have hS := H2.out.step hd hk
  have cc := hS.blk.cell 2
  have zz := hS.blk.frozen 2
  simp only [List.set_cons_zero, List.set_cons_succ, List.getElem?_cons_zero, List.getElem?_cons_succ] at cc
  have hw : IntKind.i64.wrap (tm * 1000000) = tm * 1000000 := IntWalk.i64_in _ (by omega)
  have H3 := Lib.hid (hS.store 2 (.int .i64 (tm * 1000000)))
  clear hd hk hS
  go_wp2_with fail
  clear cc zz hw
  refine (d173 p g c od _ _ st _ (by exact H3.out.rd) (by simp only [List.length_append, List.length_cons, List.length_nil]; omega) f5 f6).mono ?_
  rintro e w4 ⟨rfl, hd, hk⟩
  have hS := H3.out.step hd hk
  have cc := hS.blk.cell 3
  have zz := hS.blk.frozen 3
  simp only [List.set_cons_zero, List.set_cons_succ, List.getElem?_cons_zero, List.getElem?_cons_succ] at cc
  have H4 := Lib.hid (hS.store 3 (.int .i64 od))
  clear hd hk hS
  go_wp2_with fail
  clear cc zz
  have ok1 : ol ko ≤ 300 := by omega
  refine (d174 p g c w.heap.size ko _ _ st _ (by exact H4.out.rd) (by simp only [List.length_append, List.length_cons, List.length_nil]; omega) hD).mono ?_
  rintro e w5 ⟨v5, rfl, hn, hd, hk⟩
  obtain ⟨A5, l5, c5, rfl⟩ := hn.form
  have hS := (H4.out.step hd hk).key hn
  have cc := hS.blk.cell 4
  have zz := hS.blk.frozen 4
  simp only [List.set_cons_zero, List.set_cons_succ, List.getElem?_cons_zero, List.getElem?_cons_succ] at cc
  have H5 := Lib.hid (hS.store 4 (.slice A5 l5 c5))
  clear hd hk hS hn
  go_wp2_with fail
  clear cc zz
  refine (d174 p g c w.heap.size vo _ _ st _ (by exact H5.out.rd) (by simp only [List.length_append, List.length_cons, List.length_nil]; omega) hD).mono ?_
  rintro e w6 ⟨v6, rfl, hn, hd, hk⟩
  obtain ⟨A6, l6, c6, rfl⟩ := hn.form
  have hS := (H5.out.step hd hk).val hn
  have cc := hS.blk.cell 5
  have zz := hS.blk.frozen 5
  simp only [List.set_cons_zero, List.set_cons_succ, List.getElem?_cons_zero, List.getElem?_cons_succ] at cc
  have H6 := Lib.hid (hS.store 5 (.slice A6 l6 c6))
  clear hd hk hS hn
  go_wp2_with fail
  clear cc zz
  refine (d173 p g c hs.length _ _ st _ (by exact H6.out.rd) (by simp only [List.length_append, List.length_cons, List.length_nil]; omega) (by omega) (by omega)).mono ?_
  rintro e w7 ⟨rfl, hd, hk⟩
  have hS := H6.out.step hd hk
  simp only [List.set_cons_zero, List.set_cons_succ] at hS
  have H7 := Lib.hid hS
  clear hd hk hS
  have hrl := H7.out.blk.lt
  have cc := H7.out.blk.cell 0
  have zz := H7.out.blk.frozen 0
  simp only [List.getElem?_cons_zero] at cc
  have htll : (hs.flatMap hdrB ++ rest).length ≤ 3720 + rest.length ∧ hs.length ≤ (hs.flatMap hdrB ++ rest).length := by simp only [List.length_append]; omega
  generalize htl : hs.flatMap hdrB ++ rest = tl at H7 htll
  have HTL := Lib.hid htl
  have hnr : decide (tl.length < hs.length) = false := by simpa using htll.2
  obtain ⟨hn1, hn2⟩ := htll
  have hmk := make96 hs.length (by omega)
  have hpl7 : (pre ++ vb (L : Int) ++ [byteOf attr] ++ vb tm ++ vb od ++ vBytes ko ++ vBytes vo ++ vb (hs.length : Int)).length ≤ pre.length + 1000 := by simp only [List.length_append, List.length_cons, List.length_nil]; omega
  have HPE : Hid (pre ++ vb (L : Int) ++ [byteOf attr] ++ vb tm ++ vb od ++ vBytes ko ++ vBytes vo ++ vb (hs.length : Int) = pre ++ (vb (L : Int) ++ ([byteOf attr] ++ (vb tm ++ (vb od ++ (vBytes ko ++ (vBytes vo ++ vb (hs.length : Int)))))))) := Lib.hid (by simp)
  generalize pre ++ vb (L : Int) ++ [byteOf attr] ++ vb tm ++ vb od ++ vBytes ko ++ vBytes vo ++ vb (hs.length : Int) = pre7 at H7 hpl7 HPE
  clear htl H H1 H2 H3 H4 H5 H6
  go_wp2_with (go_at_call 178; refine (d178 p g c _ _ st _ (by exact H7.out.rd) (by omega)).mono ?_; rintro e w8 ⟨rfl, n8, rfl⟩; have cc := ((H7.out.drewN n8).blk.alloc (.cells (Array.replicate hs.length (Value.pointer none)) 161)).cell 0; have zz := ((H7.out.drewN n8).blk.alloc (.cells (Array.replicate hs.length (Value.pointer none)) 161)).frozen 0; simp only [List.getElem?_cons_zero] at cc)
  have hG7 : w.heap.size ≤ w7.heap.size := H7.out.kept.size
  have hRS8 := ((H7.out.drewN n8).alloc (.cells (List.replicate hs.length (Value.pointer none)).toArray 161)).store 0 (.slice (some ⟨w7.heap.size, 0, none⟩) hs.length hs.length)
  have hG8 : Blk (((w7.drewN n8).alloc (.cells (List.replicate hs.length (Value.pointer none)).toArray 161)).setCell ⟨r, 0, none⟩ (.slice (some ⟨w7.heap.size, 0, none⟩) hs.length hs.length)) w7.heap.size 161 (List.replicate hs.length (Value.pointer none)) :=
    (Blk.new (w7.drewN n8) 161 (List.replicate hs.length (Value.pointer none))).far (p := ⟨r, 0, none⟩) (show w7.heap.size ≠ r by omega) _
  simp only [List.set_cons_zero, List.toArray_replicate] at hRS8 hG8
  generalize (((w7.drewN n8).alloc (.cells (Array.replicate hs.length (Value.pointer none)) 161)).setCell ⟨r, 0, none⟩ (.slice (some ⟨w7.heap.size, 0, none⟩) hs.length hs.length)) = w8 at hRS8 hG8 ⊢
  generalize w7.heap.size = G at *
  have hRS8' : RS B p g c r w w.heap.size st w8 (pre7 ++ ([] : List (NB × NB)).flatMap hdrB) (hs.flatMap hdrB ++ rest) [.slice (some ⟨G, 0, none⟩) hs.length hs.length, .int .i8 attr, .int .i64 (tm * 1000000), .int .i64 od, .slice A5 l5 c5, .slice A6 l6 c6, .int .i64 pre.length, .int .i64 L] (.slice A5 l5 c5) (.slice A6 l6 c6) ko vo := by
    rw [HTL.out]
    simpa using hRS8
  have H8 := Lib.hid (And.intro hRS8' hG8)
  have HP7 := Lib.hid hpl7
  clear hRS8 hRS8' hG8 cc zz H7 hrl hnr hpl7
  go_loopw [100] (fun i wr => ∃ k : Nat, k ≤ hs.length ∧ i = .int .i64 k ∧ Hid (∃ ptrs, RS B p g c r w w.heap.size st wr (pre7 ++ (hs.take k).flatMap hdrB) ((hs.drop k).flatMap hdrB ++ rest) [.slice (some ⟨G, 0, none⟩) hs.length hs.length, .int .i8 attr, .int .i64 (tm * 1000000), .int .i64 od, .slice A5 l5 c5, .slice A6 l6 c6, .int .i64 pre.length, .int .i64 L] (.slice A5 l5 c5) (.slice A6 l6 c6) ko vo ∧
      Blk wr G 161 (ptrs ++ List.replicate (hs.length - k) (Value.pointer none)) ∧ PtrsN wr ptrs (hs.take k))) (fun i _ => hs.length - (intOf i).toNat)
  case atStart => exact ⟨0, by omega, rfl, ⟨[], by simpa using H8.out.1, by simpa using H8.out.2, PtrsN.nil _⟩⟩
  case round =>
    obtain ⟨k, hk, rfl, HS⟩ := hrel
    by_cases hlt : k < hs.length
    · obtain ⟨ptrs, hrs, hG, hpt⟩ := HS.out
      have hhk := f10 hs[k] (by simp)
      have hdk : (hs.drop k).flatMap hdrB ++ rest = hdrB hs[k] ++ ((hs.drop (k + 1)).flatMap hdrB ++ rest) := by
        rw [List.drop_eq_getElem_cons hlt, List.flatMap_cons, List.append_assoc]
      rw [hdk] at hrs
      have hw0 := hrs.kept.size
      have HW := Lib.hid (And.intro hrs (And.intro hG hpt))
      have hn := Blk.new wr 163 [.slice none 0 0, .slice none 0 0]
      have hrs1 := hrs.alloc (.cells #[.slice none 0 0, .slice none 0 0] 163)
      have HN := Lib.hid (And.intro hrs1 hn)
      clear hrs hG hpt hn hrs1 hdk
      have hlen1 : ((hs.take k).flatMap hdrB).length + ((hs.drop k).flatMap hdrB).length = (hs.flatMap hdrB).length := by rw [← List.length_append, ← List.flatMap_append, List.take_append_drop]
      have hlen2 : ((hs.drop k).flatMap hdrB).length = (hdrB hs[k]).length + ((hs.drop (k + 1)).flatMap hdrB).length := by rw [List.drop_eq_getElem_cons hlt, List.flatMap_cons, List.length_append]
      have hbnd : (pre7 ++ (hs.take k).flatMap hdrB).length + 310 + ((hs.drop (k + 1)).flatMap hdrB ++ rest).length ≤ 800000 := by
        have h7 := HP7.out
        rw [List.length_append, List.length_append]
        omega
      have hgw : g < wr.heap.size + 1 := by have := HW.out.1.rd.glt; omega
      clear hlen1 hlen2
      go_wp2_with fail
      refine (d134 p g c (wr.heap.size + 1) wr.heap.size _ _ hs[k] _ _ st _ (by exact HN.out.1.rd) hbnd hgw hhk (by exact HN.out.2)).mono ?_
      rintro e w2 ⟨rfl, hd, hk2, kvh, vvh, hbh, hnk, hnv⟩
      have hrs2 := HN.out.1.step2 hd hk2 HN.out.2 hw0
      obtain ⟨hrs, hG, hpt⟩ := HW.out
      obtain ⟨cp, hbp⟩ := rd_blk hrs.rd
      have hGp : G ≠ p := hG.ne_ hbp (by decide)
      have hGr : G ≠ r := hG.ne_ hrs.blk (by decide)
      have hG2 : Blk w2 G 161 _ := (hG.alloc _).kept hk2 (by have := hG.lt; simp; exact ⟨hGp, by omega⟩) (.inr (by rintro (h5 | h5) <;> exact absurd h5 (by decide)))
      have hkl : ptrs.length = k := by rw [hpt.1, List.length_take]; omega
      have hGk : (ptrs ++ List.replicate (hs.length - k) (Value.pointer none))[k]? = some (.pointer none) := by
        rw [List.getElem?_append_right (by omega), hkl, Nat.sub_self, List.getElem?_replicate, if_pos (by omega)]
      have cG := (hG2.cell k).trans hGk
      have zG := hG2.frozen k
      have cr := hrs2.blk.cell 0
      simp only [List.getElem?_cons_zero] at cr
      have hks : Kept B [p, wr.heap.size] wr w2 := ((Kept.refl _ _ _).alloc _).trans hk2 (fun y hy => .inl hy) (fun y hy => .inl hy)
      have hpt2 := hpt.kept hks (fun s hs => by
        simp at hs
        rcases hs with rfl | rfl
        · exact .inr ⟨_, _, hbp, by decide, by decide⟩
        · exact .inl (Nat.le_refl _))
      have hw2 := hk2.size
      have hw2' : wr.heap.size + 1 ≤ w2.heap.size := by simpa using hw2
      have hpt3 := (hpt2.snoc hbh (hnk.mono hw2') (hnv.mono hw2')).kept (B := 0) (S := [G]) ((Kept.refl _ _ _).setCell (p := ⟨G, k, none⟩) (.inl (by simp)) (.pointer (some ⟨wr.heap.size, 0, none⟩))) (fun s hs => by
        have : s = G := by simpa using hs
        subst this
        exact .inr ⟨_, _, hG2, by decide, by decide⟩)
      have hG3 := hG2.set_ k (.pointer (some ⟨wr.heap.size, 0, none⟩))
      have hset : (ptrs ++ List.replicate (hs.length - k) (Value.pointer none)).set k (.pointer (some ⟨wr.heap.size, 0, none⟩)) = (ptrs ++ [.pointer (some ⟨wr.heap.size, 0, none⟩)]) ++ List.replicate (hs.length - (k + 1)) (Value.pointer none) := by
        rw [List.set_append_right _ _ (by omega), hkl, Nat.sub_self, show hs.length - k = (hs.length - (k + 1)) + 1 by omega, List.replicate_succ, List.set_cons_zero, List.append_assoc]
        rfl
      rw [hset] at hG3
      have hrs3 := hrs2.other hG2 (by decide) (by decide) hG7 k (.pointer (some ⟨wr.heap.size, 0, none⟩))
      rw [List.append_assoc] at hrs3
      have htk : (hs.take k).flatMap hdrB ++ hdrB hs[k] = (hs.take (k + 1)).flatMap hdrB := by
        rw [List.take_succ_eq_append_getElem hlt, List.flatMap_append]
        simp
      rw [htk] at hrs3
      rw [← List.take_succ_eq_append_getElem hlt] at hpt3
      have HR := Lib.hid (show ∃ ptrs, RS B p g c r w w.heap.size st (w2.setCell ⟨G, k, none⟩ (.pointer (some ⟨wr.heap.size, 0, none⟩))) (pre7 ++ (hs.take (k + 1)).flatMap hdrB) ((hs.drop (k + 1)).flatMap hdrB ++ rest) [.slice (some ⟨G, 0, none⟩) hs.length hs.length, .int .i8 attr, .int .i64 (tm * 1000000), .int .i64 od, .slice A5 l5 c5, .slice A6 l6 c6, .int .i64 pre.length, .int .i64 L] (.slice A5 l5 c5) (.slice A6 l6 c6) ko vo ∧
        Blk (w2.setCell ⟨G, k, none⟩ (.pointer (some ⟨wr.heap.size, 0, none⟩))) G 161 (ptrs ++ List.replicate (hs.length - (k + 1)) (Value.pointer none)) ∧ PtrsN (w2.setCell ⟨G, k, none⟩ (.pointer (some ⟨wr.heap.size, 0, none⟩))) ptrs (hs.take (k + 1)) from ⟨_, hrs3, hG3, hpt3⟩)
      clear hrs hG hpt hrs2 hpt2 hpt3 hG2 hG3 hrs3 hset htk hd hk2 hbh hnk hnv hks hGk hkl HW HN hbnd
      go_wp2
      go_roundw
      case rel =>
        first
          | exact ⟨k + 1, by omega, by go_num, HR⟩
          | ((repeat apply Exists.intro); exact ⟨⟨k + 1, by omega, by go_num, HR⟩, rfl⟩)
      case measure => simp [intOf]; omega
    · obtain rfl : k = hs.length := by omega
      obtain ⟨ptrs, hrs, hG, hpt⟩ := HS.out
      simp only [List.take_length, List.drop_length, List.flatMap_nil, List.nil_append, Nat.sub_self, List.replicate_zero, List.append_nil] at hrs hG hpt
      rw [HPE.out, ← HST.out] at hrs
      have hLe := HLL.out
      have hre : pre ++ (vb (L : Int) ++ ([byteOf attr] ++ (vb tm ++ (vb od ++ (vBytes ko ++ (vBytes vo ++ vb (hs.length : Int))))))) ++ hs.flatMap hdrB = pre ++ (vb (L : Int) ++ recBody attr tm od ko vo hs) := by simp [recBody]
      rw [hre] at hrs
      have hfin := hdrsN_of rfl hG hpt hs.length
      have HE := Lib.hid (And.intro hrs (And.intro hG (And.intro hpt hfin)))
      clear hrs hG hpt hfin hre hLe
      go_wp2_with fail
      refine (dpop253 p g c r 6 101 L _ pre (recBody attr tm od ko vo hs) rest stk _ (by exact HE.out.1.rd) (by omega) (by exact HE.out.1.blk) rfl rfl (by have := HLL.out.2; omega) (by have := HLL.out.2; omega) (by decide) (by decide)).mono ?_
      rintro e w9 ⟨rfl, hd9, hk9⟩
      obtain ⟨hrs, hG, hpt, hfin⟩ := HE.out
      obtain ⟨cp, hbp⟩ := rd_blk hrs.rd
      have hS9 : Far wr wr.heap.size [p] := fun s hs => .inr ⟨174, cp, by simp at hs; subst hs; exact hbp, by decide, by decide, by decide⟩
      have hrs9 : RS B p g c r w w.heap.size stk w9 (pre ++ (vb (L : Int) ++ recBody attr tm od ko vo hs)) rest _ _ _ ko vo := ⟨hd9, blk_kept_p hrs.blk hrs.rd hk9 (by decide), nb_kept_p hrs.nk hrs.rd hk9, nb_kept_p hrs.nv hrs.rd hk9, hrs.kept.trans hk9 (fun y hy => .inl hy) (fun y hy => .inl (by simp at hy ⊢; exact .inl hy))⟩
      have hsz := hk9.size
      have hw9 := hrs9.kept.size
      have HF := Lib.hid (show RD B w9 p g c (pre ++ recBytes attr tm od ko vo hs) rest stk ∧ Kept B [p, r] w w9 ∧ ∃ so L, RecAt w9 w9.heap.size r attr (tm * 1000000) od ko vo hs so L from
        ⟨by have h := hd9; rw [← HLL.out.2] at h; simpa [recBytes] using h, hrs9.kept, _, _, _, _, _, hrs9.blk, (hfin.kept hk9 hS9).mono hsz, hrs9.nk.mono hw9, hrs9.nv.mono hw9⟩)
      clear hrs hG hpt hfin hbp hS9 hrs9 hd9 hk9
      go_wp2
      go_ret
      exact ⟨rfl, HF.out⟩
end Go.Proofs.YtmiflkccfieefaaGreatDoor
