/-
  A record is written and read: the law's type on both sides.
-/
import Derived.Test.YtmiflkccfieefaaGreatDoorUnr
import Derived.Test.YtmiflkccfieefaaGreatDoorRecR
namespace Go.Proofs.YtmiflkccfieefaaGreatDoor
open Go.ChangeShapes Go.WideShapes Go.ChangeAt Go.RowKit
set_option maxRecDepth 100000
set_option linter.unusedVariables false
set_option linter.unusedSimpArgs false

theorem RecAt.mono {w : World} {D D' r : Nat} {attr td od : Int} {ko vo : NB} {hs : List (NB × NB)} {so L : Int} (h : RecAt w D r attr td od ko vo hs so L) (hD : D ≤ D') : RecAt w D' r attr td od ko vo hs so L := by
  obtain ⟨hv, kv, vv, h1, h2, h3, h4⟩ := h
  exact ⟨hv, kv, vv, h1, h2.mono hD, h3.mono hD, h4.mono hD⟩
theorem RecAt.lt {w : World} {D r : Nat} {attr td od : Int} {ko vo : NB} {hs : List (NB × NB)} {so L : Int} (h : RecAt w D r attr td od ko vo hs so L) : r < w.heap.size := by
  obtain ⟨hv, kv, vv, h1, _⟩ := h
  exact h1.lt
/-- Encoding a record. -/
theorem f97r (r : Nat) (attr tm od : Int) (ko vo : NB) (hs : List (NB × NB)) (W : World) (hF : RecFits attr tm od ko vo hs) (h : RecAt W W.heap.size r attr (tm * 1000000) od ko vo hs 0 0) :
    Calls Tryz.prog 97 #[.iface 94 (.pointer (some ⟨r, 0, none⟩))] W (EncPost r (recBytes attr tm od ko vo hs) W) := by
  have hbl := recBody_le hF
  have hvm := vb_le (x := ((recBody attr tm od ko vo hs).length : Int)) (by omega) (by omega)
  have hrb : (recBytes attr tm od ko vo hs).length ≤ 5010 := by
    have : (recBytes attr tm od ko vo hs).length = (vb ((recBody attr tm od ko vo hs).length : Int)).length + (recBody attr tm od ko vo hs).length := by simp [recBytes]
    omega
  have hrl := h.lt
  refine (enc97_94 W.heap.size r (fun w => RecAt w W.heap.size r attr (tm * 1000000) od ko vo hs 0 0) (fun w => ∃ so, RecAt w W.heap.size r attr (tm * 1000000) od ko vo hs so (recBody attr tm od ko vo hs).length) (fun _ => True) [r] (recBytes attr tm od ko vo hs) W (by omega) h rfl (fun x hx => by simp at hx; omega) ?_ ?_ ?_ ?_).mono ?_
  · intro w1 w2 h1 hk
    exact h1.kept hk (fun s hs => by cases hs) (by simp)
  · intro w1 p h1 hp hpe
    refine (e133p p 0 W.heap.size r attr tm od 0 0 ko vo hs [] w1 hpe (by omega) (by simp) h1 hF (by omega) (by omega) hp hrl rfl).mono ?_
    rintro e w' ⟨rfl, h2, h3, h4⟩
    rw [Nat.zero_add] at h2
    exact ⟨rfl, h2, ⟨_, h3⟩, h4⟩
  · rintro w1 w2 S ⟨so, h1⟩ hk hS
    exact ⟨so, h1.kept hk (fun s hs => .inl (hS s hs)) (fun hm => by have := hS r hm; omega)⟩
  · rintro w1 p g ⟨so, h1⟩ hp hg hrx
    refine (e133r p g _ W.heap.size r attr tm od so ko vo hs [] [] w1 hrx (by omega) (by simp) h1 hF hp hg hrl (by simp)).mono ?_
    rintro e w' ⟨rfl, h2, h3, h4⟩
    exact ⟨rfl, by simpa using h2, trivial, h4⟩
  · rintro e w' ⟨g, rfl, h1, h2, _, h3⟩
    exact ⟨g, rfl, h1, h2, h3⟩
/-- What the law's type may hold. -/
def RecV.fits (x : RecV) : Prop := RecFits x.attr x.tm x.od x.key.nb x.val.nb x.hb
def RecV.bytes (x : RecV) : List UInt8 := recBytes x.attr x.tm x.od x.key.nb x.val.nb x.hb

theorem RecV.bytes_le {x : RecV} (hF : x.fits) : x.bytes.length ≤ 5010 := by
  have hbl := recBody_le hF
  have hvm := vb_le (x := ((recBody x.attr x.tm x.od x.key.nb x.val.nb x.hb).length : Int)) (by omega) (by omega)
  have : x.bytes.length = (vb ((recBody x.attr x.tm x.od x.key.nb x.val.nb x.hb).length : Int)).length + (recBody x.attr x.tm x.od x.key.nb x.val.nb x.hb).length := by simp [RecV.bytes, recBytes]
  omega
theorem d17 (D : Nat) (x : RecV) (v : Value) (w : World) (h : RIn w D v x) (hD : D ≤ w.heap.size) (hF : x.fits) (hk : x.key.2.length ≤ 1000) (hv : x.val.2.length ≤ 1000) (hhb : ∀ h ∈ x.hs, h.1.2.length ≤ 1000 ∧ h.2.2.length ≤ 1000) :
    Calls Tryz.prog 17 #[v] w fun e w' => ∃ r, e = .returned (.tuple #[r, .bool true]) ∧ Own w' w.heap.size r x.bytes ∧ Below w.heap.size w w' := by
  obtain ⟨f1, f2, f3, f4, f5, f6, f7, f8, f9, f10⟩ := id hF
  have hbl : x.bytes.length ≤ 1000000 := by have := RecV.bytes_le hF; omega
  have hh6 : x.hs.length ≤ 6 := by simpa [RecV.hb] using f9
  obtain ⟨kd, vd, hv', rfl, h1, h2, h3⟩ := h
  have hb0 : Below w.heap.size w (w.alloc (.cells #[.int .i8 x.attr, .int .i64 x.tm, .int .i64 x.od, .bool x.key.1, kd, .bool x.val.1, vd, hv'] 28)) := (Below.refl _ _).alloc (Nat.le_refl _) _
  have hri : RIn (w.alloc (.cells #[.int .i8 x.attr, .int .i64 x.tm, .int .i64 x.od, .bool x.key.1, kd, .bool x.val.1, vd, hv'] 28)) D (.agg #[.int .i8 x.attr, .int .i64 x.tm, .int .i64 x.od, .bool x.key.1, kd, .bool x.val.1, vd, hv']) x :=
    ⟨kd, vd, hv', rfl, h1.below hb0 hD, h2.below hb0 hD, h3.below hb0 hD⟩
  have HH := Lib.hid (And.intro hri hb0)
  clear h1 h2 h3 hri hb0
  go_enter Tryz.func17, Tryz.ntmps17
  go_wp2_with (first
    | (go_at_call 51; refine (f51 D x _ _ (by exact HH.out.1) (by simp; omega) hk hv (by omega) (by omega) hh6 hhb).mono ?_; rintro e w1 ⟨r, rfl, hr0, hr1, hra, hb1⟩; have H1 := Lib.hid (And.intro hra hb1); clear hra hb1)
    | (go_at_call 50; refine (f50 94 r x.bytes _ hbl hr1 (fun W hW => f81_94 r x.bytes W (f97r r x.attr x.tm x.od x.key.nb x.val.nb x.hb W hF ((H1.out.1.kept (Kept.of_below (B := 0) hW []) (fun s hs => by cases hs) (by simp)).mono hW.size)))).mono ?_; rintro e w2 ⟨rv, rfl, ho, hk2⟩))
  have hfin : Own w2 w.heap.size rv x.bytes ∧ Below w.heap.size w w2 := by
    have hb := HH.out.2.trans (H1.out.2.mono (by simp))
    exact ⟨⟨World.ownsRow.mono ho.1 hb.size, ho.2⟩, hb.trans ((hk2.mono hb.size (fun x hx => .inl hx)).to_below hb.size (fun x hx => by simp at hx; subst hx; simp at hr0; omega))⟩
  have HF := Lib.hid hfin
  clear ho hk2 hfin
  go_wp2
  go_ret2
  exact ⟨rv, rfl, HF.out⟩

theorem HIn.mono {w : World} {D D' : Nat} {v : Value} {hs : List (BP × BP)} (h : HIn w D v hs) (hD : D ≤ D') : HIn w D' v hs := by
  obtain ⟨A, c, hv, hh⟩ := h
  refine ⟨A, c, hv, fun hne => ?_⟩
  obtain ⟨a, hA, ha, hi⟩ := hh hne
  refine ⟨a, hA, by omega, fun i hl => ?_⟩
  obtain ⟨kd, vd, h0, h1, h2, h3, h4, h5⟩ := hi i hl
  exact ⟨kd, vd, h0, h1, h2, h3, h4.mono hD, h5.mono hD⟩
/-- The record's cells, when nothing is read yet. -/
theorem firm_rec (r : Nat) (attr td od : Int) (ko vo : NB) (hs : List (NB × NB)) : Firm (fun w => ∃ so L, RecAt w w.heap.size r attr td od ko vo hs so L) := by
  rintro S a b ⟨so, L, h⟩ hk hS
  refine ⟨so, L, (h.kept hk (fun s hs => ?_) (fun hm => ?_)).mono hk.size⟩
  · obtain ⟨t, cs, hb, ht⟩ := hS s hs
    exact .inr ⟨t, cs, hb, by rcases ht with rfl | rfl <;> decide, by rcases ht with rfl | rfl <;> decide, by rcases ht with rfl | rfl <;> decide⟩
  · obtain ⟨t, cs, hb, ht⟩ := hS r hm
    obtain ⟨_, _, _, h1, _⟩ := h
    exact hb.ne_ h1 (by rcases ht with rfl | rfl <;> decide) rfl
theorem owes_rec (r g c : Nat) (attr tm od : Int) (ko vo : NB) (hs : List (NB × NB)) (rest : List UInt8) (c0 : List Value) (W : World) (hF : RecFits attr tm od ko vo hs) (hl : rest.length ≤ 500000) (hr : Blk W r 101 c0) (hc : c0.length = 8) :
    DecOwes 132 r g c (recBytes attr tm od ko vo hs).length (recBytes attr tm od ko vo hs ++ rest) (fun w => ∃ so L, RecAt w w.heap.size r attr (tm * 1000000) od ko vo hs so L) W := by
  intro W1 p hrd hk hrl
  have hr1 : Blk W1 r 101 c0 := hr.kept hk (by simp) (.inr (by rintro (h5 | h5) <;> exact absurd h5 (by decide)))
  refine (d132 p g c r c0 attr tm od ko vo hs [] rest [] W1 hrd (by simp; omega) hF hr1 hc (by simp)).mono ?_
  rintro e w' ⟨rfl, h1, h2, h3⟩
  exact ⟨rfl, ⟨_, _, h1, by simp⟩, h2, h3⟩

set_option maxHeartbeats 2000000 in
theorem d18 (D : Nat) (attr tm od : Int) (ko vo : NB) (hs : List (NB × NB)) (rest : List UInt8) (v : Value) (w : World) (h : DataAt w D v (recBytes attr tm od ko vo hs ++ rest)) (hD : D ≤ w.heap.size) (hF : RecFits attr tm od ko vo hs) (hl : rest.length ≤ 500000) :
    Calls Tryz.prog 18 #[v] w fun e w' => ∃ rv, e = .returned (.tuple #[rv, .int .i64 (recBytes attr tm od ko vo hs).length, .bool true]) ∧ RIn w' w'.heap.size rv (recV attr tm od ko vo hs) ∧ Below w.heap.size w w' := by
  have hbl := recBody_le hF
  have hvm := vb_le (x := ((recBody attr tm od ko vo hs).length : Int)) (by omega) (by omega)
  have hrb : (recBytes attr tm od ko vo hs).length ≤ 5010 := by
    have : (recBytes attr tm od ko vo hs).length = (vb ((recBody attr tm od ko vo hs).length : Int)).length + (recBody attr tm od ko vo hs).length := by simp [recBytes]
    omega
  have hll : (recBytes attr tm od ko vo hs ++ rest).length ≤ 600000 := by simp; omega
  obtain ⟨f1, f2, f3, f4, f5, f6, f7, f8, f9, f10⟩ := id hF
  have hb0 : Below w.heap.size w ((w.alloc (.cells #[.int .i8 0, .int .i64 0, .int .i64 0, .bool false, .slice none 0 0, .bool false, .slice none 0 0, .slice none 0 0] 28)).alloc (.cells #[.slice none 0 0, .int .i8 0, .int .i64 0, .int .i64 0, .slice none 0 0, .slice none 0 0, .int .i64 0, .int .i64 0] 101)) := ((Below.refl _ _).alloc (Nat.le_refl _) _).alloc (by simp) _
  have hres : Blk ((w.alloc (.cells #[.int .i8 0, .int .i64 0, .int .i64 0, .bool false, .slice none 0 0, .bool false, .slice none 0 0, .slice none 0 0] 28)).alloc (.cells #[.slice none 0 0, .int .i8 0, .int .i64 0, .int .i64 0, .slice none 0 0, .slice none 0 0, .int .i64 0, .int .i64 0] 101)) w.heap.size 28 [.int .i8 0, .int .i64 0, .int .i64 0, .bool false, .slice none 0 0, .bool false, .slice none 0 0, .slice none 0 0] := (Blk.new w 28 [.int .i8 0, .int .i64 0, .int .i64 0, .bool false, .slice none 0 0, .bool false, .slice none 0 0, .slice none 0 0]).alloc _
  have hrec : Blk ((w.alloc (.cells #[.int .i8 0, .int .i64 0, .int .i64 0, .bool false, .slice none 0 0, .bool false, .slice none 0 0, .slice none 0 0] 28)).alloc (.cells #[.slice none 0 0, .int .i8 0, .int .i64 0, .int .i64 0, .slice none 0 0, .slice none 0 0, .int .i64 0, .int .i64 0] 101)) (w.heap.size + 1) 101 [.slice none 0 0, .int .i8 0, .int .i64 0, .int .i64 0, .slice none 0 0, .slice none 0 0, .int .i64 0, .int .i64 0] := by
    have h := Blk.new (w.alloc (.cells #[.int .i8 0, .int .i64 0, .int .i64 0, .bool false, .slice none 0 0, .bool false, .slice none 0 0, .slice none 0 0] 28)) 101 [.slice none 0 0, .int .i8 0, .int .i64 0, .int .i64 0, .slice none 0 0, .slice none 0 0, .int .i64 0, .int .i64 0]
    simpa using h
  have H := Lib.hid (And.intro (h.below hb0 hD) (And.intro hb0 (And.intro hres hrec)))
  obtain ⟨vA, vc, rfl⟩ := h.sl
  clear h hb0 hres hrec
  generalize hbs : recBytes attr tm od ko vo hs ++ rest = bs at H hll
  have HB := Lib.hid hbs
  clear hbs
  go_enter Tryz.func18, Tryz.ntmps18
  go_wp2_with (first
    | (go_at_call 52; refine (d52 94 (w.heap.size + 1) (recBytes attr tm od ko vo hs).length D bs _ (fun w' => ∃ so L, RecAt w' w'.heap.size (w.heap.size + 1) attr (tm * 1000000) od ko vo hs so L) _ (by exact H.out.1) hll (by simp; omega) (by simp) (firm_rec _ _ _ _ _ _ _) (fun W1 g c hb hraw => d84_94 _ g c _ _ _ W1 hraw (by have := hb.size; simp at this; omega) (by rw [← HB.out]; exact owes_rec _ g c attr tm od ko vo hs rest _ W1 hF hl (H.out.2.2.2.below hb (by simp)) rfl))).mono ?_; rintro e w1 ⟨rfl, ⟨so, L, hra⟩, hk1⟩; have H1 := Lib.hid (And.intro hra hk1); clear hra hk1)
    | (go_at_call 53; refine (d53 _ _ attr tm od so L ko vo hs _ (by exact H1.out.1) (Nat.le_refl _) (by omega) (by omega) f3 f4 f9 (fun h hh => by have := f10 h hh; omega)).mono ?_; rintro e w2 ⟨kA, n1, kc, vA2, n2, vc2, hA, hc, rfl, hd1, hd2, hd4, hd5, hb2⟩; have hres2 := (H.out.2.2.1.kept H1.out.2 (by simp) (.inr (by rintro (h5 | h5) <;> exact absurd h5 (by decide)))).below hb2 (by have := H1.out.2.size; simp at this; omega); have HR := Lib.hid (And.intro hd1 (And.intro hd2 (And.intro hd4 (And.intro hd5 (And.intro hb2 hres2))))); obtain ⟨z0, z1, z2, z3, z4, z5, z6, z7, y0, y1, y2, y3, y4, y5, y6, y7⟩ := blk8 hres2; clear hd1 hd2 hd4 hd5 hb2 hres2))
  go_wp2
  obtain ⟨hd1, hd2, hd4, hd5, hb2, hres2⟩ := HR.out
  have hE := end_ab hres2 hd1 hd2 (.int .i8 attr) (.int .i64 tm) (.int .i64 od) (.bool (bp ko).1) (.slice kA n1 kc) (.bool (bp vo).1) (.slice vA2 n2 vc2) (.slice hA hs.length hc) _ rfl
  have hT := set8 hres2 (.int .i8 attr) (.int .i64 tm) (.int .i64 od) (.bool (bp ko).1) (.slice kA n1 kc) (.bool (bp vo).1) (.slice vA2 n2 vc2) (.slice hA hs.length hc) _ rfl
  have hs1 := H1.out.2.size
  simp only [World.size_alloc] at hs1
  have hkb : Below w.heap.size w w1 := H.out.2.1.trans ((H1.out.2.mono (show w.heap.size ≤ _ by simp; omega) (fun x hx => .inl hx)).to_below (show w.heap.size ≤ _ by simp; omega) (fun x hx => by simp at hx; omega))
  have hB : Below w.heap.size w w2 := hkb.trans (hb2.mono hkb.size)
  have hblk := hE.1
  unfold Blk at hblk
  have hlv := run_loadVar_row (P := Tryz.prog) _ w.heap.size 28 28 #[.int .i8 attr, .int .i64 tm, .int .i64 od, .bool (bp ko).1, .slice kA n1 kc, .bool (bp vo).1, .slice vA2 n2 vc2, .slice hA hs.length hc] (0, 0) _ hblk Tryz.underlying28 rfl (by kernel_rfl)
  try simp only [Exit.inBlock, Exit.then]
  refine bodyPost_ret (v := .tuple #[.agg #[.int .i8 attr, .int .i64 tm, .int .i64 od, .bool (bp ko).1, .slice kA n1 kc, .bool (bp vo).1, .slice vA2 n2 vc2, .slice hA hs.length hc], .int .i64 (recBytes attr tm od ko vo hs).length, .bool true]) (by simp [results, Tryz.results18, asAddr, hlv]) rfl ?_
  refine ⟨_, rfl, ⟨_, _, _, rfl, hE.2.1.weak, hE.2.2.weak, ?_⟩, hT.2.2.1 _ _ (Nat.le_refl _) hB⟩
  exact (hd4.move hT.1 (fun a ha => hT.2.2.2 _ (by have := hd5 a ha; omega))).weak.mono hT.1.1
end Go.Proofs.YtmiflkccfieefaaGreatDoor
