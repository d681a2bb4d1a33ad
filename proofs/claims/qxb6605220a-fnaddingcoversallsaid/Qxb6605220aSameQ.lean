import Derived.Test.Qxb6605220aSameP
namespace Go.Proofs.Qxb6605220a
open Go.ChangeShapes Go.WideShapes Go.ChangeAt Go.RowKit

/-- what is held through the comparison's region: the two boxes; what has not turned -/
abbrev SP (w : World) (v0 v1 v2 v3 : Value) (w' : World) : Prop :=
  w'.cell? ⟨w.heap.size, 0, none⟩ = some v0 ∧ w'.cell? ⟨w.heap.size, 1, none⟩ = some v1 ∧ w'.cell? ⟨w.heap.size, 2, none⟩ = some v2 ∧ w'.cell? ⟨w.heap.size, 3, none⟩ = some v3 ∧
  w'.cell? ⟨w.heap.size + 1, 0, none⟩ = some v0 ∧ w'.cell? ⟨w.heap.size + 1, 1, none⟩ = some v1 ∧ w'.cell? ⟨w.heap.size + 1, 2, none⟩ = some v2 ∧ w'.cell? ⟨w.heap.size + 1, 3, none⟩ = some v3 ∧ Below w.heap.size w w'

theorem SP_init (w : World) (v0 v1 v2 v3 : Value) (t : TypeId) : SP w v0 v1 v2 v3 ((w.alloc (.cells #[v0, v1, v2, v3] 48)).alloc (.cells #[v0, v1, v2, v3] t)).drew := by
  have h1 : (w.alloc (.cells #[v0, v1, v2, v3] 48)).heap.size = w.heap.size + 1 := by simp
  have hh0 : ((w.alloc (.cells #[v0, v1, v2, v3] 48)).alloc (.cells #[v0, v1, v2, v3] t)).heap[w.heap.size]? = some (.cells #[v0, v1, v2, v3] 48 (0, 0)) := by
    rw [Below.heap_alloc _ _ _ (by omega)]; exact heap_alloc_new w _
  have hh1 : ((w.alloc (.cells #[v0, v1, v2, v3] 48)).alloc (.cells #[v0, v1, v2, v3] t)).heap[w.heap.size + 1]? = some (.cells #[v0, v1, v2, v3] t (0, 0)) := by
    rw [← h1]; exact heap_alloc_new _ _
  have c0 : ∀ j, ((w.alloc (.cells #[v0, v1, v2, v3] 48)).alloc (.cells #[v0, v1, v2, v3] t)).drew.cell? ⟨w.heap.size, j, none⟩ = #[v0, v1, v2, v3][j]? := fun j => cell_of_row ((w.alloc (.cells #[v0, v1, v2, v3] 48)).alloc (.cells #[v0, v1, v2, v3] t)) _ _ _ _ _ hh0
  have c1 : ∀ j, ((w.alloc (.cells #[v0, v1, v2, v3] 48)).alloc (.cells #[v0, v1, v2, v3] t)).drew.cell? ⟨w.heap.size + 1, j, none⟩ = #[v0, v1, v2, v3][j]? := fun j => cell_of_row ((w.alloc (.cells #[v0, v1, v2, v3] 48)).alloc (.cells #[v0, v1, v2, v3] t)) _ _ _ _ _ hh1
  exact ⟨c0 0, c0 1, c0 2, c0 3, c1 0, c1 1, c1 2, c1 3, (((Below.refl _ _).alloc (Nat.le_refl _) _).alloc (by simp) _).drew⟩

theorem SP_below {w w1 w2 : World} {v0 v1 v2 v3 : Value} (h : SP w v0 v1 v2 v3 w1) (hb : Below w1.heap.size w1 w2) : SP w v0 v1 v2 v3 w2 := by
  obtain ⟨g0, g1, g2, g3, c0, c1, c2, c3, bel⟩ := h
  have hc : ∀ (a : Addr) (v : Value), w1.cell? a = some v → w2.cell? a = some v := fun a v h => by rw [hb.cell (World.block_lt_of_cell? w1 a h)]; exact h
  exact ⟨hc _ _ g0, hc _ _ g1, hc _ _ g2, hc _ _ g3, hc _ _ c0, hc _ _ c1, hc _ _ c2, hc _ _ c3, bel.trans (hb.mono bel.size)⟩

theorem SP_bel {w w1 : World} {v0 v1 v2 v3 : Value} (h : SP w v0 v1 v2 v3 w1) : Below w.heap.size w w1 := h.2.2.2.2.2.2.2.2

set_option maxHeartbeats 1600000 in
theorem samePart_self (f : Int) (a1 a2 a3 : Option Addr) (c1 c2 c3 : Nat) (s1 s2 s3 : List Int) (w : World) (r1 : Rd .u8 w a1 s1) (r2 : Rd .u32 w a2 s2) (r3 : Rd .u8 w a3 s3) (l1 : s1.length ≤ 1048576) (l2 : s2.length ≤ 1048576) (l3 : s3.length ≤ 1048576) :
    Calls Try.prog 24 #[.agg #[.int .i64 f, .slice a1 s1.length c1, .slice a2 s2.length c2, .slice a3 s3.length c3], .agg #[.int .i64 f, .slice a1 s1.length c1, .slice a2 s2.length c2, .slice a3 s3.length c3]] w fun e w' => e = .returned (.bool true) ∧ Below w.heap.size w w' := by
  have hS := SP_init w (.int .i64 f) (.slice a1 s1.length c1) (.slice a2 s2.length c2) (.slice a3 s3.length c3) 37
  have tok1 : True := trivial
  go_enter Try.func24, Try.ntmps24
  go_wp2
  go_region_held3 (SP w (.int .i64 f) (.slice a1 s1.length c1) (.slice a2 s2.length c2) (.slice a3 s3.length c3)) (first | exact hS | exact SP_below (by assumption) (by assumption))
    (first
      | (go_at_call 33; refine (partFrom_any _ _ _ _ _ _ _ _ _ _ _).mono ?_; rintro e w1 ⟨rfl, B1⟩)
      | (go_at_call 26; refine (partSigners_any _ _ _ _ _ _ _ _ _ _ _).mono ?_; rintro e w1 ⟨rfl, B1⟩)
      | (go_at_call 36; refine (partTimes_any _ _ _ _ _ _ _ _ _ _ _).mono ?_; rintro e w1 ⟨rfl, B1⟩)
      | (go_at_call 37; refine (partSignature_any _ _ _ _ _ _ _ _ _ _ _).mono ?_; rintro e w1 ⟨rfl, B1⟩)
      | (go_at_call 35; refine (sameU32_eq (l := s2) _ _ (r2.below (SP_bel (by assumption)) (Nat.le_refl _)) (r2.below (SP_bel (by assumption)) (Nat.le_refl _)) Iff.rfl l2).mono ?_; rintro e w1 ⟨rfl, B1⟩)
      | (go_at_call 34; have _t := tok1; refine (sameBytes_eq (l := s1) _ _ (r1.below (SP_bel (by assumption)) (Nat.le_refl _)) (r1.below (SP_bel (by assumption)) (Nat.le_refl _)) Iff.rfl l1).mono ?_; rintro e w1 ⟨rfl, B1⟩; clear tok1)
      | (go_at_call 34; refine (sameBytes_eq (l := s3) _ _ (r3.below (SP_bel (by assumption)) (Nat.le_refl _)) (r3.below (SP_bel (by assumption)) (Nat.le_refl _)) Iff.rfl l3).mono ?_; rintro e w1 ⟨rfl, B1⟩))
  have hfin := SP_bel (by assumption)
  clear hS
  go_wp2
  go_ret
  exact ⟨rfl, hfin⟩

set_option maxHeartbeats 1600000 in
theorem sameZZ_self (f : Int) (a1 a2 a3 : Option Addr) (c1 c2 c3 : Nat) (s1 s2 s3 : List Int) (w : World) (r1 : Rd .u8 w a1 s1) (r2 : Rd .u32 w a2 s2) (r3 : Rd .u8 w a3 s3) (l1 : s1.length ≤ 1048576) (l2 : s2.length ≤ 1048576) (l3 : s3.length ≤ 1048576) :
    Calls Try.prog 27 #[.agg #[.int .i64 f, .slice a1 s1.length c1, .slice a2 s2.length c2, .slice a3 s3.length c3], .agg #[.int .i64 f, .slice a1 s1.length c1, .slice a2 s2.length c2, .slice a3 s3.length c3]] w fun e w' => e = .returned (.bool true) ∧ Below w.heap.size w w' := by
  have hS := SP_init w (.int .i64 f) (.slice a1 s1.length c1) (.slice a2 s2.length c2) (.slice a3 s3.length c3) 48
  have tok1 : True := trivial
  go_enter Try.func27, Try.ntmps27
  go_wp2
  go_region_held3 (SP w (.int .i64 f) (.slice a1 s1.length c1) (.slice a2 s2.length c2) (.slice a3 s3.length c3)) (first | exact hS | exact SP_below (by assumption) (by assumption))
    (first
      | (go_at_call 33; refine (partFrom_any _ _ _ _ _ _ _ _ _ _ _).mono ?_; rintro e w1 ⟨rfl, B1⟩)
      | (go_at_call 26; refine (partSigners_any _ _ _ _ _ _ _ _ _ _ _).mono ?_; rintro e w1 ⟨rfl, B1⟩)
      | (go_at_call 36; refine (partTimes_any _ _ _ _ _ _ _ _ _ _ _).mono ?_; rintro e w1 ⟨rfl, B1⟩)
      | (go_at_call 37; refine (partSignature_any _ _ _ _ _ _ _ _ _ _ _).mono ?_; rintro e w1 ⟨rfl, B1⟩)
      | (go_at_call 35; refine (sameU32_eq (l := s2) _ _ (r2.below (SP_bel (by assumption)) (Nat.le_refl _)) (r2.below (SP_bel (by assumption)) (Nat.le_refl _)) Iff.rfl l2).mono ?_; rintro e w1 ⟨rfl, B1⟩)
      | (go_at_call 34; have _t := tok1; refine (sameBytes_eq (l := s1) _ _ (r1.below (SP_bel (by assumption)) (Nat.le_refl _)) (r1.below (SP_bel (by assumption)) (Nat.le_refl _)) Iff.rfl l1).mono ?_; rintro e w1 ⟨rfl, B1⟩; clear tok1)
      | (go_at_call 34; refine (sameBytes_eq (l := s3) _ _ (r3.below (SP_bel (by assumption)) (Nat.le_refl _)) (r3.below (SP_bel (by assumption)) (Nat.le_refl _)) Iff.rfl l3).mono ?_; rintro e w1 ⟨rfl, B1⟩))
  have hfin := SP_bel (by assumption)
  clear hS
  go_wp2
  go_ret
  exact ⟨rfl, hfin⟩
end Go.Proofs.Qxb6605220a
