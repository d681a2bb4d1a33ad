import Derived.Test.Qxb6605220aParts
namespace Go.Proofs.Qxb6605220a
open Go.ChangeShapes Go.WideShapes Go.ChangeAt Go.RowKit

def Post20 (ps : List Pt) (w : World) (e : Ending) (w' : World) : Prop :=
  ∃ r, e = .returned (.bool r) ∧ Below w.heap.size w w' ∧ (r = false → ps.length ≤ 4096)

set_option maxHeartbeats 800000 in
theorem big20_loop (a : Option Addr) (n c b o c' : Nat) (ps : List Pt) (w : World) (hm : n ≤ 1048576) (hm' : ps.length ≤ 1048576) (hle : ∀ i, i < ps.length → (ps.getD i pt0).le 1048576) (hb : b < w.heap.size)
    (hc : ∀ i, i < ps.length → (ps.getD i pt0).lies w b (o + i * 4)) :
    Calls Try.prog 20 #[.slice a n c, .slice (some ⟨b, o, none⟩) ps.length c'] w (Post20 ps w) := by
  have h1 : ¬ 1048576 < n := by omega
  by_cases h2 : 4096 < ps.length
  · go_enter Try.func20, Try.ntmps20
    go_wp2
    go_ret
    exact ⟨true, rfl, Below.refl _ _, fun h => by cases h⟩
  by_cases h3 : 1048576 < n + 80 * ps.length
  · go_enter Try.func20, Try.ntmps20
    go_wp2
    go_ret
    exact ⟨true, rfl, Below.refl _ _, fun h => by cases h⟩
  go_enter Try.func20, Try.ntmps20
  go_wp2
  go_loopw [5, 6] (fun t i wr => ∃ k q : Nat, k ≤ ps.length ∧ q ≤ 1048576 ∧ t = .int .i64 q ∧ i = .int .i64 k ∧ Below w.heap.size w wr) (fun _ i _ => ps.length - (intOf i).toNat)
  case atStart => exact ⟨0, n + 80 * ps.length, Nat.zero_le _, by omega, by go_num, rfl, Below.refl _ _⟩
  case round =>
    obtain ⟨k, q, hk, hq, rfl, rfl, bel⟩ := hrel
    by_cases hlt : k < ps.length
    · obtain ⟨g0, g1, g2, g3⟩ := Pt.lies_below (hc k hlt) bel hb
      obtain ⟨l1, l2, l3⟩ := hle k hlt
      clear hc hle g0
      have i1 : (k : Int) < (ps.length : Int) := by omega
      generalize (ps.getD k pt0).sl.length = m1 at *
      generalize (ps.getD k pt0).tl.length = m2 at *
      generalize (ps.getD k pt0).gl.length = m3 at *
      generalize (ps.getD k pt0).sa = a1 at *
      generalize (ps.getD k pt0).ta = a2 at *
      generalize (ps.getD k pt0).ga = a3 at *
      generalize (ps.getD k pt0).sc = d1 at *
      generalize (ps.getD k pt0).tc = d2 at *
      generalize (ps.getD k pt0).gc = d3 at *
      by_cases hq2 : 1048576 < q + (m1 + m3 + 4 * m2)
      · go_wp2
        go_quiet (fail)
        go_wp2
        go_ret
        exact ⟨true, rfl, below_drewN bel _, fun h => by cases h⟩
      · go_wp2
        go_quiet (fail)
        go_wp2
        go_roundw
        case rel => exact ⟨k + 1, q + (m1 + m3 + 4 * m2), by omega, by omega, by go_num, by go_num, below_drewN bel _⟩
        case measure => simp [intOf]; omega
    · obtain rfl : k = ps.length := by omega
      clear hc hle
      go_wp2
      go_ret
      exact ⟨false, rfl, bel, fun _ => by omega⟩

theorem big20_nil (a a' : Option Addr) (n c c' : Nat) (w : World) (hm : n ≤ 1048576) :
    Calls Try.prog 20 #[.slice a n c, .slice a' 0 c'] w (Post20 [] w) := by
  have h1 : ¬ 1048576 < n := by omega
  go_enter Try.func20, Try.ntmps20
  go_wp2
  refine wp_loop_rounds 1 ?_
  rw [rounds_succ]
  go_wp2
  go_ret
  exact ⟨false, rfl, Below.refl _ _, fun _ => by simp⟩

theorem big20_any {w : World} {a' : Option Addr} {ps : List Pt} (a : Option Addr) (n c c' : Nat) (h : RdP w a' ps) (hm : n ≤ 1048576) (hm' : ps.length ≤ 1048576) (hle : ∀ i, i < ps.length → (ps.getD i pt0).le 1048576) :
    Calls Try.prog 20 #[.slice a n c, .slice a' ps.length c'] w (Post20 ps w) := by
  rcases h with rfl | ⟨b, o, rfl, hb, hc⟩
  · exact big20_nil a a' n c c' w hm
  · exact big20_loop a n c b o c' ps w hm hm' hle hb hc
end Go.Proofs.Qxb6605220a
