import Derived.Test.Qxb6605220aClone
namespace Go.Proofs.Qxb6605220a
open Go.ChangeShapes Go.WideShapes Go.ChangeAt Go.RowKit

theorem makePart_any (f : Int) (a1 a2 a3 : Option Addr) (n1 c1 n2 c2 n3 c3 : Nat) (w : World) :
    Calls Try.prog 31 #[.int .i64 f, .slice a1 n1 c1, .slice a2 n2 c2, .slice a3 n3 c3] w fun e w' => e = .returned (.agg #[.int .i64 f, .slice a1 n1 c1, .slice a2 n2 c2, .slice a3 n3 c3]) ∧ Below w.heap.size w w' := by
  go_enter Try.func31, Try.ntmps31
  go_wp2
  refine bodyPost_ret (v := .agg #[.int .i64 f, .slice a1 n1 c1, .slice a2 n2 c2, .slice a3 n3 c3]) (by simp [results, Try.results31, go_sem]) rfl ⟨rfl, (Below.refl _ _).alloc (Nat.le_refl _) _⟩
theorem Try.info48 : (Try.prog.info? 48).map (fun i => (i.zero, i.size, i.bytes)) = some (some (.agg #[.int .i64 0, .slice none 0 0, .slice none 0 0, .slice none 0 0]), 4, 80) := by kernel_rfl

theorem SR_init48 {b o g k n : Nat} {f : Int} {v1 v2 v3 : Value} {wr : World} (hO : Own 48 wr g (n * 4)) (hk : k < n)
    (g0 : wr.cell? ⟨b, o + k * 4, none⟩ = some (.int .i64 f)) (g1 : wr.cell? ⟨b, o + k * 4 + 1, none⟩ = some v1) (g2 : wr.cell? ⟨b, o + k * 4 + 2, none⟩ = some v2) (g3 : wr.cell? ⟨b, o + k * 4 + 3, none⟩ = some v3) : SR b o g k f v1 v2 v3 wr wr.drew :=
  ⟨g0, g1, g2, g3, hO.cellAt (by omega), hO.cellAt (by omega), hO.cellAt (by omega), hO.cellAt (by omega), hO.frozen _, hO.frozen _, hO.frozen _, hO.frozen _, rfl, rfl, rfl, Nat.le_refl _, fun _ _ _ => rfl⟩

set_option maxHeartbeats 1600000 in
theorem toParts_loop (b o c : Nat) (ps : List Pt) (w : World) (hm : ps.length ≤ 4096) (hb : b < w.heap.size) (hok : okP w ps)
    (hc : ∀ i, i < ps.length → (ps.getD i pt0).lies w b (o + i * 4)) :
    Calls Try.prog 22 #[.slice (some ⟨b, o, none⟩) ps.length c] w fun e w' => e = .returned (.slice (some ⟨w.heap.size, 0, none⟩) ps.length ps.length) ∧ LInv Eq 48 w w.heap.size ps ps.length w' := by
  obtain ⟨i0, hi, hz0, hz1, hz2⟩ := info_parts Try.info48
  go_enter Try.func22, Try.ntmps22
  go_wp2_with (at_make; refine wpList_make_full _ rfl _ _ 39 rfl w.heap.size 48 i0 _ 4 Try.underlying39 hi hz0 hz1 _ _ _ _ ps.length rfl rfl rfl rfl ?c1 ?c2 ?c3 ?_)
  case c1 => rw [hz2]; omega
  case c2 => unfold maxLen; omega
  case c3 => exact Nat.le_refl _
  intro w1 hown hgrow
  have hbel : Below w.heap.size w w1 := (Below.refl _ _).grown hgrow (Nat.le_refl _) (by intro k h; cases h)
  have hO := (Own.of_row hown).2
  clear hi hz0 hz1 hz2 hgrow hown
  go_wp2
  go_loopw [4] (fun i wr => ∃ k : Nat, k ≤ ps.length ∧ i = .int .i64 k ∧ LInv Eq 48 w w.heap.size ps k wr) (fun i _ => ps.length - (intOf i).toNat)
  case atStart => exact ⟨0, Nat.zero_le _, rfl, ⟨[], rfl, fun j hj => by omega⟩, hO, hbel⟩
  case round =>
    clear hO hbel
    obtain ⟨k, hk, rfl, H⟩ := hrel
    have bel := H.2.2
    have hO := H.2.1
    by_cases hlt : k < ps.length
    · obtain ⟨g0, g1, g2, g3⟩ := Pt.lies_below (hc k hlt) bel hb
      have hp := hok k hlt
      clear hc hok
      have i1 : (k : Int) < (ps.length : Int) := by omega
      have ST : Hid (∀ (w4 : World), Below wr.heap.size wr w4 → LInv Eq 48 w w.heap.size ps (k + 1) (set4 w4 w.heap.size (k * 4) (ps.getD k pt0))) := fun w4 hb => H.step hlt (Nat.le_refl _) hb (ps.getD k pt0) rfl ((hp.below bel (Nat.le_refl _)).below hb (Nat.le_refl _)) (hp.off (Nat.le_refl _))
      have hlw : w.heap.size < wr.heap.size := hO.lt
      clear hp H
      unfold set4 at ST
      generalize (ps.getD k pt0).sl = s1 at *
      generalize (ps.getD k pt0).tl = s2 at *
      generalize (ps.getD k pt0).gl = s3 at *
      generalize (ps.getD k pt0).sa = a1 at *
      generalize (ps.getD k pt0).ta = a2 at *
      generalize (ps.getD k pt0).ga = a3 at *
      generalize (ps.getD k pt0).sc = d1 at *
      generalize (ps.getD k pt0).tc = d2 at *
      generalize (ps.getD k pt0).gc = d3 at *
      generalize (ps.getD k pt0).f = f at *
      have hne : b ≠ w.heap.size := by omega
      have hS := SR_init48 hO hlt g0 g1 g2 g3
      go_wp2
      go_region_held3 (SR b o w.heap.size k f (.slice a1 s1.length d1) (.slice a2 s2.length d2) (.slice a3 s3.length d3) wr) (first | exact hS | exact SR_below (by assumption) (by assumption) | exact SR_store (by assumption) hne _ _ _ _ _ _ _ _)
        (first
          | (go_at_call 31; refine (makePart_any _ _ _ _ _ _ _ _ _ _ _).mono ?_; rintro e w2 ⟨rfl, B1⟩))
      clear hS g0 g1 g2 g3
      have R := ST.out w2 ⟨B1.os, B1.tape, B1.output, B1.size, B1.block⟩
      clear ST B1 hO
      go_wp2
      go_roundw
      case rel => exact ⟨k + 1, by omega, by go_num, R⟩
      case measure => simp [intOf]; omega
    · obtain rfl : k = ps.length := by omega
      clear hc hok
      go_wp2
      go_ret
      exact ⟨rfl, H⟩

theorem toParts_empty (x : Option Addr) (c : Nat) (w : World) : Calls Try.prog 22 #[.slice x 0 c] w fun e w' => e = .returned (.slice (some ⟨w.heap.size, 0, none⟩) 0 0) ∧ Below w.heap.size w w' := by
  obtain ⟨i0, hi, hz0, hz1, hz2⟩ := info_parts Try.info48
  go_enter Try.func22, Try.ntmps22
  go_wp2_with (at_make; refine wpList_make_full _ rfl _ _ 39 rfl w.heap.size 48 i0 _ 4 Try.underlying39 hi hz0 hz1 _ _ _ _ 0 rfl rfl rfl rfl ?c1 ?c2 ?c3 ?_)
  case c1 => rw [hz2]; omega
  case c2 => unfold maxLen; omega
  case c3 => exact Nat.le_refl _
  intro w1 hown hgrow
  have hbel : Below w.heap.size w w1 := (Below.refl _ _).grown hgrow (Nat.le_refl _) (by intro k h; cases h)
  clear hi hz0 hz1 hz2 hgrow hown
  go_wp2
  refine wp_loop_rounds 1 ?_
  rw [rounds_succ]
  go_wp2
  go_ret
  exact ⟨rfl, hbel⟩

theorem eq_of_getD_pt {ps qs : List Pt} (hl : qs.length = ps.length) (H : ∀ j, j < ps.length → ps.getD j pt0 = qs.getD j pt0) : qs = ps := by
  apply List.ext_getElem hl
  intro i h1 h2
  have := H i h2
  simpa [List.getD, h1, h2] using this.symm

/-- zzToParts: the same parts, in a new row -/
theorem toParts_any {w : World} {a : Option Addr} {ps : List Pt} (c : Nat) (h : RdP w a ps) (hok : okP w ps) (hm : ps.length ≤ 4096) :
    Calls Try.prog 22 #[.slice a ps.length c] w fun e w' => ∃ a' c', e = .returned (.slice a' ps.length c') ∧ a' ≠ none ∧ RdP w' a' ps ∧ Below w.heap.size w w' := by
  rcases h with rfl | ⟨b, o, rfl, hb, hc⟩
  · refine (toParts_empty a c w).mono fun e w' ⟨he, hb⟩ => ?_
    subst he
    exact ⟨_, 0, rfl, by simp, .inl rfl, hb⟩
  · refine (toParts_loop b o c ps w hm hb hok hc).mono fun e w' ⟨he, H⟩ => ?_
    obtain ⟨qs, hl, h1, h2, h3, h4⟩ := H.done
    obtain rfl := eq_of_getD_pt hl h1
    subst he
    exact ⟨_, _, rfl, by simp, h2, h4⟩
end Go.Proofs.Qxb6605220a
