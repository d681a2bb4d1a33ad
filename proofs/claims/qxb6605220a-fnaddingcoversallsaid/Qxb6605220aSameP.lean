import Derived.Test.Qxb6605220aAdd
namespace Go.Proofs.Qxb6605220a
open Go.ChangeShapes Go.WideShapes Go.ChangeAt Go.RowKit

theorem sameBytes_eq {w : World} {a a' : Option Addr} {l : List Int} (c c' : Nat) (hr : Rd .u8 w a l) (hr' : Rd .u8 w a' l) (hn : a = none ↔ a' = none) (hm : l.length ≤ 1048576) :
    Calls Try.prog 34 #[.slice a l.length c, .slice a' l.length c'] w fun e w' => e = .returned (.bool true) ∧ Below w.heap.size w w' := by
  have hq : ∀ (w : World) (a : Option Addr) (n c n' c' : Nat), (binOp .eql 22 (.slice a n c) (.slice none n' c')).run Try.prog w = .ok (.bool a.isNone) w := fun w a n c n' c' => Lib.run_eql_slice_nil w _ _ a n c n' c' Try.underlying22
  have hs := same_any (w := w) c c' hr hr' hm
  simp only [decide_true] at hs
  have e : a.isNone = a'.isNone := by cases a <;> cases a' <;> simp_all
  generalize hx : a.isNone = x at e
  have hx' : a'.isNone = x := e.symm
  clear e hn
  go_enter Try.func34, Try.ntmps34
  go_wp2_with fail
  refine hs.mono ?_
  rintro e w1 ⟨rfl, hb⟩
  go_wp2
  go_ret
  exact ⟨rfl, hb⟩

theorem sameU32_empty (a a' : Option Addr) (c c' : Nat) (w : World) (hn : a = none ↔ a' = none) :
    Calls Try.prog 35 #[.slice a 0 c, .slice a' 0 c'] w fun e w' => e = .returned (.bool true) ∧ Below w.heap.size w w' := by
  have hq : ∀ (w : World) (a : Option Addr) (n c n' c' : Nat), (binOp .eql 35 (.slice a n c) (.slice none n' c')).run Try.prog w = .ok (.bool a.isNone) w := fun w a n c n' c' => Lib.run_eql_slice_nil w _ _ a n c n' c' Try.underlying35
  have e : a.isNone = a'.isNone := by cases a <;> cases a' <;> simp_all
  generalize hx : a.isNone = x at e
  have hx' : a'.isNone = x := e.symm
  clear e hn
  go_enter Try.func35, Try.ntmps35
  go_wp2
  refine wp_loop_rounds 1 ?_
  rw [rounds_succ]
  go_wp2
  go_ret
  exact ⟨rfl, Below.refl _ _⟩

set_option maxHeartbeats 400000 in
theorem sameU32_loop (b o c b' o' c' : Nat) (l : List Int) (w : World) (hm : l.length ≤ 1048576) (hb : b < w.heap.size) (hb' : b' < w.heap.size)
    (hc : ∀ i, i < l.length → w.cell? ⟨b, o + i, none⟩ = some (.int .u32 (l.getD i 0))) (hc' : ∀ i, i < l.length → w.cell? ⟨b', o' + i, none⟩ = some (.int .u32 (l.getD i 0))) :
    Calls Try.prog 35 #[.slice (some ⟨b, o, none⟩) l.length c, .slice (some ⟨b', o', none⟩) l.length c'] w fun e w' => e = .returned (.bool true) ∧ Below w.heap.size w w' := by
  have hq : ∀ (w : World) (a : Option Addr) (n c n' c' : Nat), (binOp .eql 35 (.slice a n c) (.slice none n' c')).run Try.prog w = .ok (.bool a.isNone) w := fun w a n c n' c' => Lib.run_eql_slice_nil w _ _ a n c n' c' Try.underlying35
  go_enter Try.func35, Try.ntmps35
  go_wp2
  go_loopw [5] (fun i wr => ∃ k : Nat, k ≤ l.length ∧ i = .int .i64 k ∧ Below w.heap.size w wr) (fun i _ => l.length - (intOf i).toNat)
  case atStart => exact ⟨0, Nat.zero_le _, rfl, Below.refl _ _⟩
  case round =>
    obtain ⟨k, hk, rfl, bel⟩ := hrel
    by_cases hlt : k < l.length
    · have g : wr.cell? ⟨b, o + k, none⟩ = some (.int .u32 (l.getD k 0)) := (bel.cell (by exact hb)).trans (hc k hlt)
      have g' : wr.cell? ⟨b', o' + k, none⟩ = some (.int .u32 (l.getD k 0)) := (bel.cell (by exact hb')).trans (hc' k hlt)
      clear hc hc'
      have i1 : (k : Int) < (l.length : Int) := by omega
      generalize l.getD k 0 = x at g g'
      go_wp2
      go_quiet (fail)
      go_wp2
      go_roundw
      case rel => exact ⟨k + 1, by omega, by go_num, below_drewN bel _⟩
      case measure => simp [intOf]; omega
    · obtain rfl : k = l.length := by omega
      clear hc hc'
      go_wp2
      go_ret
      exact ⟨rfl, bel⟩

theorem sameU32_eq {w : World} {a a' : Option Addr} {l : List Int} (c c' : Nat) (hr : Rd .u32 w a l) (hr' : Rd .u32 w a' l) (hn : a = none ↔ a' = none) (hm : l.length ≤ 1048576) :
    Calls Try.prog 35 #[.slice a l.length c, .slice a' l.length c'] w fun e w' => e = .returned (.bool true) ∧ Below w.heap.size w w' := by
  rcases hr with rfl | ⟨b, o, rfl, hb, hc⟩
  · exact sameU32_empty a a' c c' w hn
  · rcases hr' with rfl | ⟨b', o', rfl, hb', hc'⟩
    · exact sameU32_empty _ a' c c' w hn
    · exact sameU32_loop b o c b' o' c' l w hm hb hb' hc hc'

/-! ### the readers of a part -/
theorem partFrom_any (f : Int) (a1 a2 a3 : Option Addr) (n1 c1 n2 c2 n3 c3 : Nat) (w : World) :
    Calls Try.prog 33 #[.agg #[.int .i64 f, .slice a1 n1 c1, .slice a2 n2 c2, .slice a3 n3 c3]] w fun e w' => e = .returned (.int .i64 f) ∧ Below w.heap.size w w' := by
  go_enter Try.func33, Try.ntmps33
  go_wp2
  go_ret
  exact ⟨rfl, (Below.refl _ _).alloc (Nat.le_refl _) _⟩
theorem partSigners_any (f : Int) (a1 a2 a3 : Option Addr) (n1 c1 n2 c2 n3 c3 : Nat) (w : World) :
    Calls Try.prog 26 #[.agg #[.int .i64 f, .slice a1 n1 c1, .slice a2 n2 c2, .slice a3 n3 c3]] w fun e w' => e = .returned (.slice a1 n1 c1) ∧ Below w.heap.size w w' := by
  go_enter Try.func26, Try.ntmps26
  go_wp2
  go_ret
  exact ⟨rfl, (Below.refl _ _).alloc (Nat.le_refl _) _⟩
theorem partTimes_any (f : Int) (a1 a2 a3 : Option Addr) (n1 c1 n2 c2 n3 c3 : Nat) (w : World) :
    Calls Try.prog 36 #[.agg #[.int .i64 f, .slice a1 n1 c1, .slice a2 n2 c2, .slice a3 n3 c3]] w fun e w' => e = .returned (.slice a2 n2 c2) ∧ Below w.heap.size w w' := by
  go_enter Try.func36, Try.ntmps36
  go_wp2
  go_ret
  exact ⟨rfl, (Below.refl _ _).alloc (Nat.le_refl _) _⟩
theorem partSignature_any (f : Int) (a1 a2 a3 : Option Addr) (n1 c1 n2 c2 n3 c3 : Nat) (w : World) :
    Calls Try.prog 37 #[.agg #[.int .i64 f, .slice a1 n1 c1, .slice a2 n2 c2, .slice a3 n3 c3]] w fun e w' => e = .returned (.slice a3 n3 c3) ∧ Below w.heap.size w w' := by
  go_enter Try.func37, Try.ntmps37
  go_wp2
  go_ret
  exact ⟨rfl, (Below.refl _ _).alloc (Nat.le_refl _) _⟩
end Go.Proofs.Qxb6605220a
