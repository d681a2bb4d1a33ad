import Derived.Test.Qxb6605220aOwn
namespace Go.Proofs.Qxb6605220a
open Go.ChangeShapes Go.WideShapes Go.ChangeAt Go.RowKit

theorem Try.info37 : (Try.prog.info? 37).map (fun i => (i.zero, i.size, i.bytes)) = some (some (.agg #[.int .i64 0, .slice none 0 0, .slice none 0 0, .slice none 0 0]), 4, 80) := by kernel_rfl

/-- what is held through the region of the copy's round: the part's four cells; the four cells of the new row; what has not turned -/
abbrev SR (b o g k : Nat) (f : Int) (v1 v2 v3 : Value) (wr : World) (w' : World) : Prop :=
  w'.cell? ⟨b, o + k * 4, none⟩ = some (.int .i64 f) ∧ w'.cell? ⟨b, o + k * 4 + 1, none⟩ = some v1 ∧ w'.cell? ⟨b, o + k * 4 + 2, none⟩ = some v2 ∧ w'.cell? ⟨b, o + k * 4 + 3, none⟩ = some v3 ∧
  w'.cell? ⟨g, k * 4, none⟩ = some (cellAt w' ⟨g, k * 4, none⟩) ∧ w'.cell? ⟨g, k * 4 + 1, none⟩ = some (cellAt w' ⟨g, k * 4 + 1, none⟩) ∧ w'.cell? ⟨g, k * 4 + 2, none⟩ = some (cellAt w' ⟨g, k * 4 + 2, none⟩) ∧ w'.cell? ⟨g, k * 4 + 3, none⟩ = some (cellAt w' ⟨g, k * 4 + 3, none⟩) ∧
  w'.frozen? ⟨g, k * 4, none⟩ = false ∧ w'.frozen? ⟨g, k * 4 + 1, none⟩ = false ∧ w'.frozen? ⟨g, k * 4 + 2, none⟩ = false ∧ w'.frozen? ⟨g, k * 4 + 3, none⟩ = false ∧ wr.grownBy w' (some g)

theorem at_of_some {w : World} {a : Addr} {v : Value} (h : w.cell? a = some v) : w.cell? a = some (cellAt w a) := by simp [cellAt, h]

theorem SR_init {b o g k n : Nat} {f : Int} {v1 v2 v3 : Value} {wr : World} (hO : Own 37 wr g (n * 4)) (hk : k < n)
    (g0 : wr.cell? ⟨b, o + k * 4, none⟩ = some (.int .i64 f)) (g1 : wr.cell? ⟨b, o + k * 4 + 1, none⟩ = some v1) (g2 : wr.cell? ⟨b, o + k * 4 + 2, none⟩ = some v2) (g3 : wr.cell? ⟨b, o + k * 4 + 3, none⟩ = some v3) : SR b o g k f v1 v2 v3 wr wr.drew :=
  ⟨g0, g1, g2, g3, hO.cellAt (by omega), hO.cellAt (by omega), hO.cellAt (by omega), hO.cellAt (by omega), hO.frozen _, hO.frozen _, hO.frozen _, hO.frozen _, rfl, rfl, rfl, Nat.le_refl _, fun _ _ _ => rfl⟩

theorem SR_below {b o g k : Nat} {f : Int} {v1 v2 v3 : Value} {wr w1 w2 : World} (h : SR b o g k f v1 v2 v3 wr w1) (hb : Below w1.heap.size w1 w2) : SR b o g k f v1 v2 v3 wr w2 := by
  obtain ⟨g0, g1, g2, g3, c0, c1, c2, c3, f0, f1, f2, f3, hg⟩ := h
  have hc : ∀ (a : Addr) (v : Value), w1.cell? a = some v → w2.cell? a = some v := fun a v h => by rw [hb.cell (World.block_lt_of_cell? w1 a h)]; exact h
  have hlt : g < w1.heap.size := World.block_lt_of_cell? w1 _ c0
  have hf : ∀ i, w2.frozen? ⟨g, i, none⟩ = w1.frozen? ⟨g, i, none⟩ := fun i => hb.frozen (p := ⟨g, i, none⟩) hlt
  exact ⟨hc _ _ g0, hc _ _ g1, hc _ _ g2, hc _ _ g3, at_of_some (hc _ _ c0), at_of_some (hc _ _ c1), at_of_some (hc _ _ c2), at_of_some (hc _ _ c3), (hf _).trans f0, (hf _).trans f1, (hf _).trans f2, (hf _).trans f3, grownBy_below hg hb⟩

theorem SR_cell {b o g k : Nat} {f : Int} {v1 v2 v3 : Value} {wr w1 : World} (h : SR b o g k f v1 v2 v3 wr w1) (hne : b ≠ g) (i : Nat) (u : Value) : SR b o g k f v1 v2 v3 wr (w1.setCell ⟨g, i, none⟩ u) := by
  obtain ⟨g0, g1, g2, g3, c0, c1, c2, c3, f0, f1, f2, f3, hg⟩ := h
  have hc : ∀ j v, w1.cell? ⟨b, j, none⟩ = some v → (w1.setCell ⟨g, i, none⟩ u).cell? ⟨b, j, none⟩ = some v := fun j v h => by rw [World.cell?_of_block (w := w1) (Below.heap_setCell _ _ _ _ hne)]; exact h
  have ho : ∀ j v, w1.cell? ⟨g, j, none⟩ = some v → (w1.setCell ⟨g, i, none⟩ u).cell? ⟨g, j, none⟩ = some (cellAt (w1.setCell ⟨g, i, none⟩ u) ⟨g, j, none⟩) := fun j v h => by
    obtain ⟨v', hv'⟩ := cell?_setCell_some (p := ⟨g, i, none⟩) (x := u) h
    exact at_of_some hv'
  have hf : ∀ j, (w1.setCell ⟨g, i, none⟩ u).frozen? ⟨g, j, none⟩ = w1.frozen? ⟨g, j, none⟩ := fun j => by simp
  exact ⟨hc _ _ g0, hc _ _ g1, hc _ _ g2, hc _ _ g3, ho _ _ c0, ho _ _ c1, ho _ _ c2, ho _ _ c3, (hf _).trans f0, (hf _).trans f1, (hf _).trans f2, (hf _).trans f3, grownBy_setCell hg u⟩

theorem SR_store {b o g k : Nat} {f : Int} {v1 v2 v3 : Value} {wr w1 : World} (h : SR b o g k f v1 v2 v3 wr w1) (hne : b ≠ g) (i0 i1 i2 i3 : Nat) (u0 u1 u2 u3 : Value) :
    SR b o g k f v1 v2 v3 wr ((((w1.setCell ⟨g, i0, none⟩ u0).setCell ⟨g, i1, none⟩ u1).setCell ⟨g, i2, none⟩ u2).setCell ⟨g, i3, none⟩ u3) :=
  SR_cell (SR_cell (SR_cell (SR_cell h hne _ _) hne _ _) hne _ _) hne _ _

theorem SR_grown {b o g k : Nat} {f : Int} {v1 v2 v3 : Value} {wr w1 : World} (h : SR b o g k f v1 v2 v3 wr w1) : wr.grownBy w1 (some g) := h.2.2.2.2.2.2.2.2.2.2.2.2


/-! ### the row of parts that is being laid -/
def set4 (w : World) (g o : Nat) (q : Pt) : World :=
  (((w.setCell ⟨g, o, none⟩ (.int .i64 q.f)).setCell ⟨g, o + 1, none⟩ (.slice q.sa q.sl.length q.sc)).setCell ⟨g, o + 2, none⟩ (.slice q.ta q.tl.length q.tc)).setCell ⟨g, o + 3, none⟩ (.slice q.ga q.gl.length q.gc)

theorem Own.set4 {e : TypeId} {w : World} {g m : Nat} (h : Own e w g m) (o : Nat) (q : Pt) : Own e (set4 w g o q) g m := (((h.setCell _ _).setCell _ _).setCell _ _).setCell _ _
theorem below_set4 {w0 w : World} {B g : Nat} (h : Below B w0 w) (hg : B ≤ g) (o : Nat) (q : Pt) : Below B w0 (set4 w g o q) := (((h.setCell (p := ⟨g, o, none⟩) hg _).setCell (p := ⟨g, o + 1, none⟩) hg _).setCell (p := ⟨g, o + 2, none⟩) hg _).setCell (p := ⟨g, o + 3, none⟩) hg _
theorem grownBy_set4 (w : World) (g o : Nat) (q : Pt) : w.grownBy (set4 w g o q) (some g) := grownBy_setCell (grownBy_setCell (grownBy_setCell (grownBy_setCell (World.grownBy.refl w (some g)) _) _) _) _

theorem cell_set4_other {w : World} {g o i : Nat} (q : Pt) (h : i < o ∨ o + 3 < i) : (set4 w g o q).cell? ⟨g, i, none⟩ = w.cell? ⟨g, i, none⟩ := by
  have hne : ∀ j, o ≤ j → j ≤ o + 3 → (⟨g, j, none⟩ : Addr) ≠ ⟨g, i, none⟩ := fun j h1 h2 e => by
    have := congrArg Addr.off e
    simp at this
    omega
  unfold set4
  rw [World.cell?_setCell_other (h := hne _ (by omega) (by omega)), World.cell?_setCell_other (h := hne _ (by omega) (by omega)), World.cell?_setCell_other (h := hne _ (by omega) (by omega)), World.cell?_setCell_other (h := hne _ (by omega) (by omega))]

theorem lies_set4_old {w : World} {g o i : Nat} {p : Pt} (q : Pt) (h : p.lies w g i) (hi : i + 3 < o) : p.lies (set4 w g o q) g i := by
  obtain ⟨h0, h1, h2, h3⟩ := h
  exact ⟨(cell_set4_other q (by omega)).trans h0, (cell_set4_other q (by omega)).trans h1, (cell_set4_other q (by omega)).trans h2, (cell_set4_other q (by omega)).trans h3⟩

theorem lies_set4_new {e : TypeId} {w : World} {g m o : Nat} (hO : Own e w g m) (ho : o + 3 < m) (q : Pt) : q.lies (set4 w g o q) g o := by
  have same : ∀ (W : World) (i : Nat) (v : Value), Own e W g m → i < m → (W.setCell ⟨g, i, none⟩ v).cell? ⟨g, i, none⟩ = some v := fun W i v hW hi => by
    obtain ⟨u, hu⟩ := hW.cell hi
    exact World.cell?_setCell_same _ _ _ hu
  have other : ∀ (W : World) (i j : Nat) (v : Value), i ≠ j → (W.setCell ⟨g, i, none⟩ v).cell? ⟨g, j, none⟩ = W.cell? ⟨g, j, none⟩ := fun W i j v h => World.cell?_setCell_other _ _ _ _ fun e => h (by simpa using congrArg Addr.off e)
  unfold set4
  refine ⟨?_, ?_, ?_, ?_⟩
  · rw [other _ _ _ _ (by omega), other _ _ _ _ (by omega), other _ _ _ _ (by omega)]
    exact same _ _ _ hO (by omega)
  · rw [other _ _ _ _ (by omega), other _ _ _ _ (by omega)]
    exact same _ _ _ (hO.setCell _ _) (by omega)
  · rw [other _ _ _ _ (by omega)]
    exact same _ _ _ ((hO.setCell _ _).setCell _ _) (by omega)
  · exact same _ _ _ (((hO.setCell _ _).setCell _ _).setCell _ _) (by omega)

def Pt.off (g : Nat) (q : Pt) : Prop := (q.sl ≠ [] → offB g q.sa) ∧ (q.tl ≠ [] → offB g q.ta) ∧ (q.gl ≠ [] → offB g q.ga)
theorem Pt.ok.off {w : World} {g : Nat} {q : Pt} (h : q.ok w) (hg : w.heap.size ≤ g) : q.off g := ⟨h.1.1.off hg, h.1.2.1.off hg, h.1.2.2.off hg⟩
theorem Pt.ok.grown {w w' : World} {g : Nat} {q : Pt} (h : q.ok w) (hg : w.grownBy w' (some g)) (ho : q.off g) : q.ok w' :=
  ⟨⟨h.1.1.grown hg ho.1, h.1.2.1.grown hg ho.2.1, h.1.2.2.grown hg ho.2.2⟩, h.2⟩

/-- the same contents; nil where the other is nil -/
def Pt.same (p q : Pt) : Prop := p.f = q.f ∧ p.sl = q.sl ∧ p.tl = q.tl ∧ p.gl = q.gl ∧ (q.sa = none ↔ p.sa = none) ∧ (q.ta = none ↔ p.ta = none) ∧ (q.ga = none ↔ p.ga = none)

/-- at the head of a round: k parts are laid in the row g, each related by R to its model in ps -/
def LInv (R : Pt → Pt → Prop) (e : TypeId) (w : World) (g : Nat) (ps : List Pt) (k : Nat) (wr : World) : Prop :=
  (∃ qs : List Pt, qs.length = k ∧ ∀ j, j < k → R (ps.getD j pt0) (qs.getD j pt0) ∧ (qs.getD j pt0).lies wr g (j * 4) ∧ (qs.getD j pt0).ok wr ∧ (qs.getD j pt0).off g) ∧ Own e wr g (ps.length * 4) ∧ Below w.heap.size w wr

theorem LInv.step {R : Pt → Pt → Prop} {e : TypeId} {w wr w4 : World} {g : Nat} {ps : List Pt} {k : Nat} (H : LInv R e w g ps k wr) (hk : k < ps.length) (hg : w.heap.size ≤ g) (hb : Below wr.heap.size wr w4) (q : Pt) (hR : R (ps.getD k pt0) q) (hq : q.ok w4) (ho : q.off g) :
    LInv R e w g ps (k + 1) (set4 w4 g (k * 4) q) := by
  obtain ⟨⟨qs, hl, hqs⟩, hO, bel⟩ := H
  have hO4 := hO.below hb hO.lt
  refine ⟨⟨qs ++ [q], by simp [hl], fun j hj => ?_⟩, hO4.set4 _ _, below_set4 (bel.trans (hb.mono bel.size)) hg _ _⟩
  by_cases hjk : j < k
  · have ej : (qs ++ [q]).getD j pt0 = qs.getD j pt0 := by simp [List.getD, List.getElem?_append, hl, hjk]
    rw [ej]
    obtain ⟨h1, h2, h3, h4⟩ := hqs j hjk
    exact ⟨h1, lies_set4_old q (Pt.lies_below h2 hb hO.lt) (by omega), (h3.below hb (Nat.le_refl _)).grown (grownBy_set4 _ _ _ _) h4, h4⟩
  · obtain rfl : j = k := by omega
    have ej : (qs ++ [q]).getD j pt0 = q := by simp [List.getD, hl]
    rw [ej]
    exact ⟨hR, lies_set4_new hO4 (by omega) q, hq.grown (grownBy_set4 _ _ _ _) ho, ho⟩

theorem newB.off {n g : Nat} {a : Option Addr} (h : newB n a) (hg : g < n) : offB g a := fun b o e => by have := h b o e; omega

set_option maxHeartbeats 1600000 in
theorem cloneParts_loop (b o c : Nat) (ps : List Pt) (w : World) (hm : ps.length ≤ 4096) (hb : b < w.heap.size) (hle : ∀ i, i < ps.length → (ps.getD i pt0).le 1048576) (hok : okP w ps)
    (hc : ∀ i, i < ps.length → (ps.getD i pt0).lies w b (o + i * 4)) :
    Calls Try.prog 21 #[.slice (some ⟨b, o, none⟩) ps.length c] w fun e w' => e = .returned (.slice (some ⟨w.heap.size, 0, none⟩) ps.length ps.length) ∧ LInv Pt.same 37 w w.heap.size ps ps.length w' := by
  have hq : ∀ (w : World) (a : Option Addr) (n c n' c' : Nat), (binOp .eql 33 (.slice a n c) (.slice none n' c')).run Try.prog w = .ok (.bool a.isNone) w := fun w a n c n' c' => Lib.run_eql_slice_nil w _ _ a n c n' c' Try.underlying33
  obtain ⟨i0, hi, hz0, hz1, hz2⟩ := info_parts Try.info37
  go_enter Try.func21, Try.ntmps21
  go_wp2_with (at_make; refine wpList_make_full _ rfl _ _ 33 rfl w.heap.size 37 i0 _ 4 Try.underlying33 hi hz0 hz1 _ _ _ _ ps.length rfl rfl rfl rfl ?c1 ?c2 ?c3 ?_)
  case c1 => rw [hz2]; omega
  case c2 => unfold maxLen; omega
  case c3 => exact Nat.le_refl _
  intro w1 hown hgrow
  have hbel : Below w.heap.size w w1 := (Below.refl _ _).grown hgrow (Nat.le_refl _) (by intro k h; cases h)
  have hO := (Own.of_row hown).2
  clear hi hz0 hz1 hz2 hgrow hown
  go_wp2
  go_loopw [4] (fun i wr => ∃ k : Nat, k ≤ ps.length ∧ i = .int .i64 k ∧ LInv Pt.same 37 w w.heap.size ps k wr) (fun i _ => ps.length - (intOf i).toNat)
  case atStart => exact ⟨0, Nat.zero_le _, rfl, ⟨[], rfl, fun j hj => by omega⟩, hO, hbel⟩
  case round =>
    clear hO hbel
    obtain ⟨k, hk, rfl, H⟩ := hrel
    have bel := H.2.2
    have hO := H.2.1
    by_cases hlt : k < ps.length
    · obtain ⟨g0, g1, g2, g3⟩ := Pt.lies_below (hc k hlt) bel hb
      obtain ⟨⟨r1, r2, r3⟩, ⟨n1, n2, n3⟩, hby⟩ := hok k hlt
      obtain ⟨l1, l2, l3⟩ := hle k hlt
      clear hc hle hok
      have i1 : (k : Int) < (ps.length : Int) := by omega
      have ST : Hid (∀ (w4 : World), Below wr.heap.size wr w4 → ∀ q : Pt, ((ps.getD k pt0).f = q.f ∧ (ps.getD k pt0).sl = q.sl ∧ (ps.getD k pt0).tl = q.tl ∧ (ps.getD k pt0).gl = q.gl ∧ (q.sa = none ↔ (ps.getD k pt0).sa = none) ∧ (q.ta = none ↔ (ps.getD k pt0).ta = none) ∧ (q.ga = none ↔ (ps.getD k pt0).ga = none)) → q.ok w4 → q.off w.heap.size → LInv Pt.same 37 w w.heap.size ps (k + 1) (set4 w4 w.heap.size (k * 4) q)) := fun w4 hb q h1 h2 h3 => H.step hlt (Nat.le_refl _) hb q h1 h2 h3
      have hlw : w.heap.size < wr.heap.size := hO.lt
      generalize (ps.getD k pt0).sl = s1 at *
      generalize (ps.getD k pt0).tl = s2 at *
      generalize (ps.getD k pt0).gl = s3 at *
      generalize (ps.getD k pt0).sa = a1 at *
      generalize (ps.getD k pt0).ta = a2 at *
      generalize (ps.getD k pt0).ga = a3 at *
      generalize (ps.getD k pt0).sc = d1 at *
      generalize (ps.getD k pt0).tc = d2 at *
      generalize (ps.getD k pt0).gc = d3 at *
      generalize (ps.getD k pt0).f = f at *
      have hne : b ≠ w.heap.size := by omega
      have tok1 : True := trivial
      have hS := SR_init hO hlt g0 g1 g2 g3
      have hG : ∀ w', wr.grownBy w' (some w.heap.size) → Below w.heap.size w w' := fun w' h => bel.grown h bel.size (by intro k hk; cases hk; exact Nat.le_refl _)
      clear H
      go_wp2
      go_region_held3 (SR b o w.heap.size k f (.slice a1 s1.length d1) (.slice a2 s2.length d2) (.slice a3 s3.length d3) wr) (first | exact hS | exact SR_below (by assumption) (by assumption) | exact SR_store (by assumption) hne _ _ _ _ _ _ _ _)
        (first
          | (go_at_call 10; have _t := tok1; refine (clone_new (l := s1) d1 (r1.below (hG _ (SR_grown (by assumption))) (Nat.le_refl _)) n1 l1).mono ?_; rintro e w2 ⟨x1, y1, rfl, R1, N1, F1, B1⟩; clear tok1)
          | (go_at_call 30; refine (clone32_new (l := s2) d2 (r2.below (hG _ (SR_grown (by assumption))) (Nat.le_refl _)) n2 l2).mono ?_; rintro e w3 ⟨x2, y2, rfl, R2, N2, F2, B2⟩)
          | (go_at_call 10; refine (clone_new (l := s3) d3 (r3.below (hG _ (SR_grown (by assumption))) (Nat.le_refl _)) n3 l3).mono ?_; rintro e w4 ⟨x3, y3, rfl, R3, N3, F3, B3⟩))
      clear hS g0 g1 g2 g3
      have B1' : Below wr.heap.size wr w2 := ⟨B1.os, B1.tape, B1.output, B1.size, B1.block⟩
      have F1' : newB wr.heap.size x1 := F1
      have B4 : Below wr.heap.size wr w4 := B1'.trans ((B2.trans (B3.mono B2.size)).mono B1'.size)
      have R : LInv Pt.same 37 w w.heap.size ps (k + 1) (set4 w4 w.heap.size (k * 4) ⟨f, x1, y1, s1, x2, y2, s2, x3, y3, s3⟩) :=
        ST.out w4 B4 ⟨f, x1, y1, s1, x2, y2, s2, x3, y3, s3⟩ ⟨rfl, rfl, rfl, rfl, N1, N2, N3⟩
          ⟨⟨(R1.below B2 (Nat.le_refl _)).below B3 (Nat.le_refl _), R2.below B3 (Nat.le_refl _), R3⟩, ⟨fun h => n1 (N1.1 h), fun h => n2 (N2.1 h), fun h => n3 (N3.1 h)⟩, hby⟩
          ⟨fun _ => F1'.off hlw, fun _ => F2.off (by have := B1'.size; omega), fun _ => F3.off (by have := B1'.size; have := B2.size; omega)⟩
      clear ST B4 B1' F1' B1 B2 B3 F1 F2 F3 R1 R2 R3 N1 N2 N3 hG r1 r2 r3 n1 n2 n3 hO hby
      go_wp2
      go_roundw
      case rel => exact ⟨k + 1, by omega, by go_num, R⟩
      case measure => simp [intOf]; omega
    · obtain rfl : k = ps.length := by omega
      clear hc hle hok
      go_wp2
      go_ret
      exact ⟨rfl, H⟩

theorem cloneParts_nil (c : Nat) (w : World) : Calls Try.prog 21 #[.slice none 0 c] w fun e w' => e = .returned (.slice none 0 0) ∧ w = w' := by
  have hq : ∀ (w : World) (a : Option Addr) (n c n' c' : Nat), (binOp .eql 33 (.slice a n c) (.slice none n' c')).run Try.prog w = .ok (.bool a.isNone) w := fun w a n c n' c' => Lib.run_eql_slice_nil w _ _ a n c n' c' Try.underlying33
  go_enter Try.func21, Try.ntmps21
  go_wp2
  go_ret
  exact ⟨rfl, rfl⟩

theorem cloneParts_empty (x : Addr) (c : Nat) (w : World) : Calls Try.prog 21 #[.slice (some x) 0 c] w fun e w' => e = .returned (.slice (some ⟨w.heap.size, 0, none⟩) 0 0) ∧ Below w.heap.size w w' := by
  have hq : ∀ (w : World) (a : Option Addr) (n c n' c' : Nat), (binOp .eql 33 (.slice a n c) (.slice none n' c')).run Try.prog w = .ok (.bool a.isNone) w := fun w a n c n' c' => Lib.run_eql_slice_nil w _ _ a n c n' c' Try.underlying33
  obtain ⟨i0, hi, hz0, hz1, hz2⟩ := info_parts Try.info37
  go_enter Try.func21, Try.ntmps21
  go_wp2_with (at_make; refine wpList_make_full _ rfl _ _ 33 rfl w.heap.size 37 i0 _ 4 Try.underlying33 hi hz0 hz1 _ _ _ _ 0 rfl rfl rfl rfl ?c1 ?c2 ?c3 ?_)
  case c1 => rw [hz2]; omega
  case c2 => unfold maxLen; omega
  case c3 => exact Nat.le_refl _
  intro w1 hown hgrow
  have hbel : Below w.heap.size w w1 := (Below.refl _ _).grown hgrow (Nat.le_refl _) (by intro k h; cases h)
  clear hi hz0 hz1 hz2 hgrow hown
  go_wp2
  refine wp_loop_rounds 1 ?_
  rw [rounds_succ]
  go_wp2
  go_ret
  exact ⟨rfl, hbel⟩

/-- what LInv gives when all is laid -/
theorem LInv.done {R : Pt → Pt → Prop} {e : TypeId} {w w' : World} {g : Nat} {ps : List Pt} (H : LInv R e w g ps ps.length w') :
    ∃ qs : List Pt, qs.length = ps.length ∧ (∀ j, j < ps.length → R (ps.getD j pt0) (qs.getD j pt0)) ∧ RdP w' (some ⟨g, 0, none⟩) qs ∧ okP w' qs ∧ Below w.heap.size w w' := by
  obtain ⟨⟨qs, hl, hqs⟩, hO, bel⟩ := H
  refine ⟨qs, hl, fun j hj => (hqs j hj).1, .inr ⟨g, 0, rfl, hO.lt, fun i hi => ?_⟩, fun i hi => (hqs i (by omega)).2.2.1, bel⟩
  rw [Nat.zero_add]
  exact (hqs i (by omega)).2.1

def PostC (R : Pt → Pt → Prop) (ps : List Pt) (w : World) (e : Ending) (w' : World) : Prop :=
  ∃ (a' : Option Addr) (c' : Nat) (qs : List Pt), e = .returned (.slice a' qs.length c') ∧ qs.length = ps.length ∧ (∀ j, j < ps.length → R (ps.getD j pt0) (qs.getD j pt0)) ∧ RdP w' a' qs ∧ okP w' qs ∧ Below w.heap.size w w'

/-- zzCloneParts -/
theorem cloneParts_any {w : World} {a : Option Addr} {ps : List Pt} (c : Nat) (h : RdP w a ps) (hn : a = none → ps = []) (hok : okP w ps) (hm : ps.length ≤ 4096) (hle : ∀ i, i < ps.length → (ps.getD i pt0).le 1048576) :
    Calls Try.prog 21 #[.slice a ps.length c] w (PostC Pt.same ps w) := by
  cases a with
  | none =>
    obtain rfl := hn rfl
    refine (cloneParts_nil c w).mono fun e w' ⟨he, hw⟩ => ?_
    subst he; subst hw
    exact ⟨none, 0, [], rfl, rfl, fun j hj => by simp at hj, .inl rfl, fun i hi => by simp at hi, Below.refl _ _⟩
  | some x =>
    rcases h with rfl | ⟨b, o, hx, hb, hc⟩
    · refine (cloneParts_empty x c w).mono fun e w' ⟨he, hb⟩ => ?_
      subst he
      exact ⟨_, 0, [], rfl, rfl, fun j hj => by simp at hj, .inl rfl, fun i hi => by simp at hi, hb⟩
    · cases hx
      refine (cloneParts_loop b o c ps w hm hb hle hok hc).mono fun e w' ⟨he, H⟩ => ?_
      obtain ⟨qs, hl, h1, h2, h3, h4⟩ := H.done
      subst he
      exact ⟨_, _, qs, by rw [hl], hl, h1, h2, h3, h4⟩
end Go.Proofs.Qxb6605220a
