import Derived.Test.Qxb6605220aTo
import Derived.OneCell
namespace Go.Proofs.Qxb6605220a
open Go.ChangeShapes Go.WideShapes Go.ChangeAt Go.RowKit

/-! ### what adding computes -/
def addStep (st : List Int × List Pt) (p : Pt) : List Int × List Pt := if namesB p.sl st.1 = true then (unionL st.1 p.sl, st.2 ++ [p]) else st
def addN (h : List Int) (ps : List Pt) (k : Nat) : List Int × List Pt := (ps.take k).foldl addStep (h, [])
def addL (h : List Int) (ps : List Pt) : List Pt := (addN h ps ps.length).2

theorem addN_succ (h : List Int) (ps : List Pt) (k : Nat) (hk : k < ps.length) : addN h ps (k + 1) = addStep (addN h ps k) (ps.getD k pt0) := by
  unfold addN
  rw [List.take_succ_eq_append_getElem hk, List.foldl_append]
  simp [List.getD, hk]
theorem addN_hit {h : List Int} {ps : List Pt} {k : Nat} (hk : k < ps.length) (hn : namesB (ps.getD k pt0).sl (addN h ps k).1 = true) : addN h ps (k + 1) = (unionL (addN h ps k).1 (ps.getD k pt0).sl, (addN h ps k).2 ++ [ps.getD k pt0]) := by
  rw [addN_succ h ps k hk, addStep, if_pos hn]
theorem addN_miss {h : List Int} {ps : List Pt} {k : Nat} (hk : k < ps.length) (hn : namesB (ps.getD k pt0).sl (addN h ps k).1 = false) : addN h ps (k + 1) = addN h ps k := by
  rw [addN_succ h ps k hk, addStep, if_neg (by rw [hn]; simp)]
theorem addN_len1 {h : List Int} {ps : List Pt} (hh : h.length ≤ 1048576) (hp : ∀ i, i < ps.length → (ps.getD i pt0).sl.length ≤ 1048576) : ∀ k, k ≤ ps.length → (addN h ps k).1.length ≤ 1048576 := by
  intro k
  induction k with
  | zero => intro _; simpa [addN] using hh
  | succ k ih =>
    intro hk
    cases hn : namesB (ps.getD k pt0).sl (addN h ps k).1
    · rw [addN_miss (by omega) hn]; exact ih (by omega)
    · rw [addN_hit (by omega) hn, unionL_length]
      have := ih (by omega)
      have := hp k (by omega)
      omega
theorem addN_len2 {h : List Int} {ps : List Pt} : ∀ k, k ≤ ps.length → (addN h ps k).2.length ≤ k := by
  intro k
  induction k with
  | zero => intro _; simp [addN]
  | succ k ih =>
    intro hk
    have := ih (by omega)
    cases hn : namesB (ps.getD k pt0).sl (addN h ps k).1
    · rw [addN_miss (by omega) hn]; omega
    · rw [addN_hit (by omega) hn]; simp; omega

def Pt.cells (p : Pt) : List Value := [.int .i64 p.f, .slice p.sa p.sl.length p.sc, .slice p.ta p.tl.length p.tc, .slice p.ga p.gl.length p.gc]

/-- the address lies below block n, or in a row of bytes that the program has made -/
def NT (n : Nat) (w : World) (a : Option Addr) (l : List Int) : Prop := l ≠ [] → (∀ b o, a = some ⟨b, o, none⟩ → b < n) ∨ row5 w a

/-- at the head of adding's round: the box holds the named; v owns the kept parts -/
def AInv (w : World) (h : List Int) (ps : List Pt) (k : Nat) (v : Value) (wr : World) : Prop :=
  (∃ na nc, wr.heap[w.heap.size + 1]? = some (.cells #[.slice na (addN h ps k).1.length nc] 28 (0, 0)) ∧ Rd .u8 wr na (addN h ps k).1 ∧ (na = none → (addN h ps k).1 = []) ∧ NT w.heap.size wr na (addN h ps k).1) ∧
  wr.ownsRow (w.heap.size + 2) 48 4 v (addN h ps k).2.length ((addN h ps k).2.flatMap Pt.cells) ∧ Below w.heap.size w wr


theorem Rd.kept {k : IntKind} {w w' : World} {row : Option Nat} {a : Option Addr} {l : List Int} (h : Rd k w a l) (hg : w.grownBy w' row) (ho : l ≠ [] → ∀ b o, a = some ⟨b, o, none⟩ → some b ≠ row) : Rd k w' a l := by
  rcases h with h | ⟨b, o, rfl, hlt, hc⟩
  · exact .inl h
  · refine .inr ⟨b, o, rfl, Nat.lt_of_lt_of_le hlt hg.size, fun i hi => ?_⟩
    have hl : l ≠ [] := by intro h; subst h; simp at hi
    exact hg.cell (hc i hi) (ho hl b o rfl)

theorem row5.below {w w' : World} {B : Nat} {a : Option Addr} (h : row5 w a) (hb : Below B w w') (hB : w.heap.size ≤ B) : row5 w' a := by
  obtain ⟨g, cur, e, hg⟩ := h
  exact ⟨g, cur, e, by rw [hb.block g (Nat.lt_of_lt_of_le (lt_of_block hg) hB)]; exact hg⟩
theorem NT.below {w w' : World} {n B : Nat} {a : Option Addr} {l : List Int} (h : NT n w a l) (hb : Below B w w') (hB : w.heap.size ≤ B) : NT n w' a l := fun hl => by
  rcases h hl with h1 | h1
  · exact .inl h1
  · exact .inr (h1.below hb hB)

/-- the block that v owns holds parts, so it is no row of bytes, and it does not lie below n -/
theorem NT.off {w : World} {n B : Nat} {a : Option Addr} {l : List Int} {v : Value} {m : Nat} {xs : List Value} (h : NT n w a l) (hown : w.ownsRow B 48 4 v m xs) (hB : n ≤ B) : l ≠ [] → ∀ b o, a = some ⟨b, o, none⟩ → some b ≠ v.ownBlock := by
  intro hl b o e hv
  rcases hown.2 with ⟨rfl, _⟩ | ⟨g, cap, cur, rfl, hg, hh, _⟩
  · simp [Value.ownBlock] at hv
  · simp [Value.ownBlock] at hv
    subst hv
    rcases h hl with h | ⟨g5, cur5, e5, h5⟩
    · have := h b o e; omega
    · rw [e] at e5
      cases e5
      rw [hh] at h5
      cases h5

theorem AInv.zero {w : World} {a : Option Addr} {h : List Int} (ps : List Pt) (c : Nat) (o1 : Obj) (hr : Rd .u8 w a h) (hn : a = none → h = []) :
    AInv w h ps 0 (.slice none 0 0) ((w.alloc o1).alloc (.cells #[.slice a h.length c] 28)) := by
  have hb : Below w.heap.size w ((w.alloc o1).alloc (.cells #[.slice a h.length c] 28)) := ((Below.refl _ _).alloc (Nat.le_refl _) _).alloc (by simp) _
  refine ⟨⟨a, c, ?_, hr.below hb (Nat.le_refl _), hn, fun hl => .inl fun b o e => ?_⟩, World.ownsRow_nil _ _ _ _, hb⟩
  · have := heap_alloc_new (w.alloc o1) (.cells #[.slice a h.length c] 28)
    simpa [addN] using this
  · rcases hr with hr | ⟨b', o', rfl, hlt, _⟩
    · exact absurd hr hl
    · cases e; exact hlt

theorem AInv.miss {w wr w1 : World} {h : List Int} {ps : List Pt} {k : Nat} {v : Value} (H : AInv w h ps k v wr) (hk : k < ps.length) (hn : namesB (ps.getD k pt0).sl (addN h ps k).1 = false) (hb : Below wr.heap.size wr w1) : AInv w h ps (k + 1) v w1 := by
  unfold AInv
  rw [addN_miss hk hn]
  obtain ⟨⟨na, nc, h1, h2, h3, h4⟩, h5, h6⟩ := H
  refine ⟨⟨na, nc, ?_, h2.below hb (Nat.le_refl _), h3, h4.below hb (Nat.le_refl _)⟩, ?_, h6.trans (hb.mono h6.size)⟩
  · rw [hb.block _ (lt_of_block h1)]; exact h1
  · exact h5.kept (row := none) ⟨hb.os, hb.tape, hb.output, hb.size, fun k hk _ => hb.block k hk⟩ (by cases v.ownBlock <;> simp)

theorem AInv.hit {w wr w2 w4 : World} {h : List Int} {ps : List Pt} {k : Nat} {v v' : Value} {a2 : Option Addr} {c2 : Nat} {o : Obj} (H : AInv w h ps k v wr) (hk : k < ps.length) (hn : namesB (ps.getD k pt0).sl (addN h ps k).1 = true) (hb : Below wr.heap.size wr w2)
    (r2 : Rd .u8 w2 a2 (unionL (addN h ps k).1 (ps.getD k pt0).sl)) (n2 : a2 = none → unionL (addN h ps k).1 (ps.getD k pt0).sl = []) (hT : NT w.heap.size w2 a2 (unionL (addN h ps k).1 (ps.getD k pt0).sl))
    (hown : w4.ownsRow (w.heap.size + 2) 48 4 v' ((addN h ps k).2.length + 1) ((addN h ps k).2.flatMap Pt.cells ++ (ps.getD k pt0).cells))
    (hg : ((w2.setCell ⟨w.heap.size + 1, 0, none⟩ (.slice a2 (unionL (addN h ps k).1 (ps.getD k pt0).sl).length c2)).alloc o).grownBy w4 v.ownBlock) : AInv w h ps (k + 1) v' w4 := by
  unfold AInv
  rw [addN_hit hk hn]
  obtain ⟨⟨na, nc, h1, h2, h3, h4⟩, h5, h6⟩ := H
  have hbox2 : w2.heap[w.heap.size + 1]? = _ := (hb.block _ (lt_of_block h1)).trans h1
  generalize unionL (addN h ps k).1 (ps.getD k pt0).sl = u at *
  have hbox3 := one_setCell (u := .slice a2 u.length c2) hbox2
  have hown2 : w2.ownsRow (w.heap.size + 2) 48 4 v (addN h ps k).2.length ((addN h ps k).2.flatMap Pt.cells) := h5.kept (row := none) ⟨hb.os, hb.tape, hb.output, hb.size, fun k hk _ => hb.block k hk⟩ (by cases v.ownBlock <;> simp)
  have hown3 := ownsRow_setCell_below hown2 (a := ⟨w.heap.size + 1, 0, none⟩) (by show w.heap.size + 1 < _; omega) (.slice a2 u.length c2)
  have r3 := r2.setCell (cell_of_one hbox2) (by intro n h; cases h) (.slice a2 u.length c2)
  have hT3 : NT w.heap.size (w2.setCell ⟨w.heap.size + 1, 0, none⟩ (.slice a2 u.length c2)) a2 u := fun hl => by
    rcases hT hl with h1 | ⟨g, cur, e, hg5⟩
    · exact .inl h1
    refine .inr ⟨g, cur, e, ?_⟩
    rw [Below.heap_setCell _ _ _ _ (by show g ≠ w.heap.size + 1; rintro rfl; rw [hbox2] at hg5; cases hg5)]
    exact hg5
  have bel3 : Below w.heap.size w (w2.setCell ⟨w.heap.size + 1, 0, none⟩ (.slice a2 u.length c2)) := (h6.trans (hb.mono h6.size)).setCell (by show _ ≤ w.heap.size + 1; omega) _
  generalize w2.setCell ⟨w.heap.size + 1, 0, none⟩ (.slice a2 u.length c2) = W3 at *
  have bA : Below W3.heap.size W3 (W3.alloc o) := (Below.refl _ _).alloc (Nat.le_refl _) _
  have hown4 := hown3.alloc o
  have r4 := r3.below bA (Nat.le_refl _)
  have hT4 := hT3.below bA (Nat.le_refl _)
  have hoff := hT4.off hown4 (by omega)
  have hlt1 : w.heap.size + 1 < W3.heap.size := lt_of_block hbox3
  have hne : some (w.heap.size + 1) ≠ v.ownBlock := by
    intro e
    have := (hown4.lt _ e.symm).1
    omega
  have hT5 : NT w.heap.size w4 a2 u := fun hl => by
    rcases hT4 hl with h1 | ⟨g, cur, e, hg5⟩
    · exact .inl h1
    · refine .inr ⟨g, cur, e, ?_⟩
      rw [hg.block g (lt_of_block hg5) (hoff hl g 0 e)]
      exact hg5
  refine ⟨⟨a2, c2, ?_, r4.kept hg hoff, n2, hT5⟩, ?_, ?_⟩
  · rw [hg.block _ (by simp; omega) hne, Below.heap_alloc _ _ _ hlt1]
    exact hbox3
  · simpa [List.flatMap_append] using hown
  · exact (bel3.alloc bel3.size _).grown hg (by simp; have := bel3.size; omega) (by intro k hk; have := (hown4.lt k hk).1; omega)
/-- the part's own box: what is known of a later world in which it has not turned -/
theorem pbox {wr w1 : World} {v0 v1 v2 v3 : Value} (h : Below (wr.alloc (.cells #[v0, v1, v2, v3] 48)).heap.size (wr.alloc (.cells #[v0, v1, v2, v3] 48)) w1) :
    (w1.cell? ⟨wr.heap.size, 0, none⟩ = some v0 ∧ w1.cell? ⟨wr.heap.size, 1, none⟩ = some v1 ∧ w1.cell? ⟨wr.heap.size, 2, none⟩ = some v2 ∧ w1.cell? ⟨wr.heap.size, 3, none⟩ = some v3) ∧ wr.heap.size < w1.heap.size ∧ Below wr.heap.size wr w1 := by
  have hs : (wr.alloc (.cells #[v0, v1, v2, v3] 48)).heap.size = wr.heap.size + 1 := by simp
  have hz := h.size
  rw [hs] at hz
  have hh : w1.heap[wr.heap.size]? = some (.cells #[v0, v1, v2, v3] 48 (0, 0)) := by
    rw [h.block _ (by omega)]
    exact heap_alloc_new wr _
  refine ⟨⟨?_, ?_, ?_, ?_⟩, by omega, ((Below.refl _ _).alloc (Nat.le_refl _) _).trans (h.mono (by omega))⟩
  · rw [cell_of_row _ _ _ _ _ _ hh]; rfl
  · rw [cell_of_row _ _ _ _ _ _ hh]; rfl
  · rw [cell_of_row _ _ _ _ _ _ hh]; rfl
  · rw [cell_of_row _ _ _ _ _ _ hh]; rfl

theorem cells4_new {w : World} {v0 v1 v2 v3 : Value} (h0 : v0.oneCell' = true) (h1 : v1.oneCell' = true) (h2 : v2.oneCell' = true) (h3 : v3.oneCell' = true) :
    (∀ j u, [v0, v1, v2, v3][j]? = some u → (w.alloc (.cells #[v0, v1, v2, v3] 48)).cell? ((⟨w.heap.size, 0, none⟩ : Addr).add j) = some u) ∧ ∀ u ∈ [v0, v1, v2, v3], u.oneCell' = true := by
  refine ⟨fun j u hj => ?_, fun u hu => ?_⟩
  · have hh : (w.alloc (.cells #[v0, v1, v2, v3] 48)).heap[w.heap.size]? = some (.cells #[v0, v1, v2, v3] 48 (0, 0)) := heap_alloc_new w _
    rw [Addr.add_lit, Nat.zero_add, cell_of_row _ _ _ _ _ _ hh]
    simpa using hj
  · simp only [List.mem_cons, List.not_mem_nil, or_false] at hu
    rcases hu with rfl | rfl | rfl | rfl <;> assumption

set_option maxHeartbeats 1600000 in
theorem adding_loop (a : Option Addr) (c b o c' : Nat) (h : List Int) (ps : List Pt) (w : World) (hr : Rd .u8 w a h) (hn : a = none → h = []) (hh : h.length ≤ 1048576) (hm : ps.length ≤ 4096) (hb : b < w.heap.size) (hle : ∀ i, i < ps.length → (ps.getD i pt0).sl.length ≤ 1048576) (hok : okP w ps)
    (hc : ∀ i, i < ps.length → (ps.getD i pt0).lies w b (o + i * 4)) :
    Calls Try.prog 32 #[.agg #[.slice a h.length c], .slice (some ⟨b, o, none⟩) ps.length c'] w fun e w' => ∃ v, e = .returned v ∧ AInv w h ps ps.length v w' := by
  go_enter Try.func32, Try.ntmps32
  go_wp2
  go_loopw [6, 12] (fun v i wr => ∃ k : Nat, k ≤ ps.length ∧ i = .int .i64 k ∧ AInv w h ps k v wr) (fun _ i _ => ps.length - (intOf i).toNat)
  case atStart => exact ⟨0, Nat.zero_le _, rfl, AInv.zero ps c _ hr hn⟩
  case round =>
    obtain ⟨k, hk, rfl, H⟩ := hrel
    by_cases hlt : k < ps.length
    · have H0 := H
      obtain ⟨⟨na, nc, hbox, hR, hN, hT⟩, hown, bel⟩ := H0
      obtain ⟨g0, g1, g2, g3⟩ := Pt.lies_below (hc k hlt) bel hb
      have hp := hok k hlt
      have hpr := (hp.below bel (Nat.le_refl _)).1.1
      have hl1 := addN_len1 hh hle k hk
      have hl2 := addN_len2 (h := h) k hk
      have hls := hle k hlt
      have MISS : Hid (namesB (ps.getD k pt0).sl (addN h ps k).1 = false → ∀ w1, Below wr.heap.size wr w1 → AInv w h ps (k + 1) u6 w1) := fun hn w1 hb => H.miss hlt hn hb
      have HIT : Hid (namesB (ps.getD k pt0).sl (addN h ps k).1 = true → ∀ (w2 w4 : World) (v' : Value) (x2 : Option Addr) (y2 : Nat) (ob : Obj), Below wr.heap.size wr w2 → Rd .u8 w2 x2 (unionL (addN h ps k).1 (ps.getD k pt0).sl) → (x2 = none → unionL (addN h ps k).1 (ps.getD k pt0).sl = []) →
          NT w.heap.size w2 x2 (unionL (addN h ps k).1 (ps.getD k pt0).sl) → w4.ownsRow (w.heap.size + 2) 48 4 v' ((addN h ps k).2.length + 1) ((addN h ps k).2.flatMap Pt.cells ++ [.int .i64 (ps.getD k pt0).f, .slice (ps.getD k pt0).sa (ps.getD k pt0).sl.length (ps.getD k pt0).sc, .slice (ps.getD k pt0).ta (ps.getD k pt0).tl.length (ps.getD k pt0).tc, .slice (ps.getD k pt0).ga (ps.getD k pt0).gl.length (ps.getD k pt0).gc]) →
          ((w2.setCell ⟨w.heap.size + 1, 0, none⟩ (.slice x2 (unionL (addN h ps k).1 (ps.getD k pt0).sl).length y2)).alloc ob).grownBy w4 u6.ownBlock → AInv w h ps (k + 1) v' w4) :=
        fun hn w2 w4 v' x2 y2 ob h1 h2 h3 h4 h5 h6 => H.hit hlt hn h1 h2 h3 h4 h5 h6
      have hpw := hp.1.1
      have hpn := hp.2.1.1
      have i1 : (k : Int) < (ps.length : Int) := by omega
      have cb := cell_of_one hbox
      have fb := free_of_one hbox
      have lb := lt_of_block hbox
      clear hc hle hok H hp
      generalize (addN h ps k).1 = nm at *
      generalize (addN h ps k).2 = outs at *
      generalize (ps.getD k pt0).sl = s1 at *
      generalize (ps.getD k pt0).tl = s2 at *
      generalize (ps.getD k pt0).gl = s3 at *
      generalize (ps.getD k pt0).sa = a1 at *
      generalize (ps.getD k pt0).ta = a2 at *
      generalize (ps.getD k pt0).ga = a3 at *
      generalize (ps.getD k pt0).sc = d1 at *
      generalize (ps.getD k pt0).tc = d2 at *
      generalize (ps.getD k pt0).gc = d3 at *
      generalize (ps.getD k pt0).f = f at *
      have bp : ∀ ob, Below wr.heap.size wr (wr.alloc ob) := fun ob => (Below.refl _ _).alloc (Nat.le_refl _) _
      by_cases hnm : namesB s1 nm = true
      · go_wp2_with fail
        refine (names_any d1 nc (hpr.below (bp _) (Nat.le_refl _)) (hR.below (bp _) (Nat.le_refl _)) hl1).mono ?_
        rintro e w1 ⟨rfl, hb1⟩
        obtain ⟨⟨p0, p1, p2, p3⟩, hz1, bel1⟩ := pbox hb1
        have cb1 := (bel1.cell (p := ⟨w.heap.size + 1, 0, none⟩) lb).trans cb
        replace hpr := hpr.below bel1 (Nat.le_refl _)
        replace hR := hR.below bel1 (Nat.le_refl _)
        have hT1 := hT.below bel1 (Nat.le_refl _)
        clear hb1 bp MISS g0 g1 g2 g3 cb
        go_wp2_with fail
        refine (union_new nc d1 hR hpr hN hpn hl1 hls).mono ?_
        rintro e w2 ⟨x2, y2, rfl, r2, n2, t2, b2⟩
        have cb2 := (b2.cell (p := ⟨w.heap.size + 1, 0, none⟩) (by show w.heap.size + 1 < _; omega)).trans cb1
        have fb2 := (b2.frozen (p := ⟨w.heap.size + 1, 0, none⟩) (by show w.heap.size + 1 < _; omega)).trans ((bel1.frozen (p := ⟨w.heap.size + 1, 0, none⟩) lb).trans fb)
        have q0 := (b2.cell (p := ⟨wr.heap.size, 0, none⟩) hz1).trans p0
        have q1 := (b2.cell (p := ⟨wr.heap.size, 1, none⟩) hz1).trans p1
        have q2 := (b2.cell (p := ⟨wr.heap.size, 2, none⟩) hz1).trans p2
        have q3 := (b2.cell (p := ⟨wr.heap.size, 3, none⟩) hz1).trans p3
        have bel2 : Below wr.heap.size wr w2 := bel1.trans (b2.mono bel1.size)
        have hT2 : NT w.heap.size w2 x2 (unionL nm s1) := fun hl => by
          rcases t2 with ⟨rfl, e⟩ | ⟨rfl, e⟩ | t2
          · rw [e] at hl
            exact (hT1.below b2 (Nat.le_refl _)) hl
          · rw [e] at hl
            refine .inl fun b o eb => ?_
            rcases hpw with hpw | ⟨b', o', rfl, hlt', _⟩
            · exact absurd hpw hl
            · cases eb; exact hlt'
          · exact .inr t2
        have hown2 : w2.ownsRow (w.heap.size + 2) 48 4 u6 outs.length (outs.flatMap Pt.cells) := hown.kept (row := none) ⟨bel2.os, bel2.tape, bel2.output, bel2.size, fun k hk _ => bel2.block k hk⟩ (by cases u6.ownBlock <;> simp)
        have HI := HIT.out hnm w2
        have hlu : (unionL nm s1).length ≤ 1048576 := by rw [unionL_length]; omega
        clear HIT p0 p1 p2 p3 hpr hR hT1 b2 t2 hpw cb1 hT hown hbox
        generalize unionL nm s1 = u at *
        have hown3 := ownsRow_setCell_below hown2 (a := ⟨w.heap.size + 1, 0, none⟩) (by show w.heap.size + 1 < _; omega) (.slice x2 u.length y2)
        have hN := cells4_new (w := w2.setCell ⟨w.heap.size + 1, 0, none⟩ (.slice x2 u.length y2)) (v0 := .int .i64 f) (v1 := .slice a1 s1.length d1) (v2 := .slice a2 s2.length d2) (v3 := .slice a3 s3.length d3) rfl rfl rfl rfl
        have es : (w2.setCell ⟨w.heap.size + 1, 0, none⟩ (.slice x2 u.length y2)).heap.size = w2.heap.size := by simp [World.setCell]
        rw [es] at hN
        have HN : Hid _ := hN
        clear hN es
        obtain ⟨i0, hi, hz0, hz1', hz2⟩ := info_parts Try.info48
        go_wp2_with (at_builtin; refine wpList_append_own _ rfl _ _ 39 rfl (w.heap.size + 2) 48 i0 (.agg #[.int .i64 0, .slice none 0 0, .slice none 0 0, .slice none 0 0]) 4 80 Try.underlying39 hi hz0 hz1' hz2 rfl (by decide) _ _ _ rfl (hown3.alloc _) ⟨w2.heap.size, 0, none⟩ 1 1 [.int .i64 f, .slice a1 s1.length d1, .slice a2 s2.length d2, .slice a3 s3.length d3] rfl rfl ?c1 ?c2 ?c3 ?c4 ?c5 ?_)
        case c1 => exact HN.out.1
        case c2 => exact HN.out.2
        case c3 => unfold maxLen; omega
        case c4 => omega
        case c5 => have := bel2.size; simp; omega
        intro v' w4 hown4 hgrow4 _
        have R := HI w4 v' x2 y2 _ bel2 r2 n2 hT2 hown4 hgrow4
        clear HI hown4 hgrow4 hown3 hown2 r2 n2 hT2 HN hi hz0 hz1' hz2 q0 q1 q2 q3 cb2 fb2
        go_wp2
        go_roundw
        case rel => exact ⟨k + 1, by omega, by go_num, R⟩
        case measure => simp [intOf]; omega
      · replace hnm : namesB s1 nm = false := by simpa using hnm
        go_wp2_with fail
        refine (names_any d1 nc (hpr.below (bp _) (Nat.le_refl _)) (hR.below (bp _) (Nat.le_refl _)) hl1).mono ?_
        rintro e w1 ⟨rfl, hb1⟩
        obtain ⟨_, hz1, bel1⟩ := pbox hb1
        have R := MISS.out hnm w1 bel1
        clear hb1 bp MISS HIT g0 g1 g2 g3 cb
        go_wp2
        go_roundw
        case rel => exact ⟨k + 1, by omega, by go_num, R⟩
        case measure => simp [intOf]; omega
    · obtain rfl : k = ps.length := by omega
      clear hc hok hle
      go_wp2
      go_ret
      exact ⟨_, rfl, H⟩

theorem flatMap_cells (ps : List Pt) : ∀ (i j : Nat), i < ps.length → j < 4 → (ps.flatMap Pt.cells)[i * 4 + j]? = (ps.getD i pt0).cells[j]? := by
  induction ps with
  | nil => intro i j hi; simp at hi
  | cons p ps ih =>
    intro i j hi hj
    have hl : p.cells.length = 4 := rfl
    cases i with
    | zero => simp [List.flatMap_cons, List.getElem?_append, hl, hj]
    | succ i =>
      rw [List.flatMap_cons, List.getElem?_append_right (by rw [hl]; omega), hl, show (i + 1) * 4 + j - 4 = i * 4 + j by omega, ih i j (by simpa using hi) hj]
      simp

/-- An owned row of parts is a slice that reads them. -/
theorem RdP_of_own {w : World} {B g c : Nat} {e : TypeId} {ps : List Pt} (h : w.ownsRow B e 4 (.slice (some ⟨g, 0, none⟩) ps.length c) ps.length (ps.flatMap Pt.cells)) : RdP w (some ⟨g, 0, none⟩) ps := by
  refine .inr ⟨g, 0, rfl, (h.lt g rfl).2, fun i hi => ?_⟩
  have hc : ∀ j, j < 4 → w.cell? ⟨g, i * 4 + j, none⟩ = (ps.getD i pt0).cells[j]? := fun j hj => by
    rw [h.cellAt (i * 4 + j) (by omega), flatMap_cells ps i j hi hj]
  rw [Nat.zero_add]
  exact ⟨hc 0 (by omega), hc 1 (by omega), hc 2 (by omega), hc 3 (by omega)⟩

theorem adding_empty (a x : Option Addr) (n c c' : Nat) (w : World) : Calls Try.prog 32 #[.agg #[.slice a n c], .slice x 0 c'] w fun e w' => e = .returned (.slice none 0 0) ∧ Below w.heap.size w w' := by
  go_enter Try.func32, Try.ntmps32
  go_wp2
  refine wp_loop_rounds 1 ?_
  rw [rounds_succ]
  go_wp2
  go_ret
  exact ⟨rfl, ((Below.refl _ _).alloc (Nat.le_refl _) _).alloc (by simp) _⟩

def PostA (ps : List Pt) (w : World) (e : Ending) (w' : World) : Prop :=
  ∃ (a2 : Option Addr) (c2 : Nat), e = .returned (.slice a2 ps.length c2) ∧ RdP w' a2 ps ∧ (a2 = none → ps = []) ∧ Below w.heap.size w w'

theorem adding_any {w : World} {a a' : Option Addr} {h : List Int} {ps : List Pt} (c c' : Nat) (hr : Rd .u8 w a h) (hn : a = none → h = []) (hp : RdP w a' ps) (hok : okP w ps) (hh : h.length ≤ 1048576) (hm : ps.length ≤ 4096) (hle : ∀ i, i < ps.length → (ps.getD i pt0).sl.length ≤ 1048576) :
    Calls Try.prog 32 #[.agg #[.slice a h.length c], .slice a' ps.length c'] w (PostA (addL h ps) w) := by
  rcases hp with rfl | ⟨b, o, rfl, hb, hc⟩
  · refine (adding_empty a a' h.length c c' w).mono fun e w' ⟨he, hb⟩ => ?_
    exact ⟨none, 0, he, .inl rfl, fun _ => rfl, hb⟩
  · refine (adding_loop a c b o c' h ps w hr hn hh hm hb hle hok hc).mono fun e w' ⟨v, he, H⟩ => ?_
    obtain ⟨_, hown, bel⟩ := H
    have hown' : w'.ownsRow (w.heap.size + 2) 48 4 v (addL h ps).length ((addL h ps).flatMap Pt.cells) := hown
    rcases hown'.2 with ⟨rfl, h0⟩ | ⟨g, cap, cur, rfl, _⟩
    · have : addL h ps = [] := List.eq_nil_of_length_eq_zero h0
      rw [this]
      exact ⟨none, 0, he, .inl rfl, fun _ => rfl, bel⟩
    · exact ⟨_, cap, he, RdP_of_own hown', by simp, bel⟩

theorem zzAdding_any {w : World} {a a' : Option Addr} {h : List Int} {ps : List Pt} (c c' : Nat) (hr : Rd .u8 w a h) (hn : a = none → h = []) (hp : RdP w a' ps) (hok : okP w ps) (hh : h.length ≤ 1048576) (hm : ps.length ≤ 4096) (hle : ∀ i, i < ps.length → (ps.getD i pt0).sl.length ≤ 1048576) :
    Calls Try.prog 23 #[.agg #[.slice a h.length c], .slice a' ps.length c'] w (PostA (addL h ps) w) := by
  have bp : ∀ ob, Below w.heap.size w (w.alloc ob) := fun ob => (Below.refl _ _).alloc (Nat.le_refl _) _
  go_enter Try.func23, Try.ntmps23
  go_wp2_with fail
  refine (adding_any c c' (hr.below (bp _) (Nat.le_refl _)) hn (hp.below (bp _) (Nat.le_refl _)) (hok.below (bp _) (Nat.le_refl _)) hh hm hle).mono ?_
  rintro e w1 ⟨a2, c2, rfl, h1, h2, h3⟩
  clear hok hle
  go_wp2
  go_ret
  exact ⟨a2, c2, rfl, h1, h2, (bp _).trans (h3.mono (by simp))⟩
end Go.Proofs.Qxb6605220a
