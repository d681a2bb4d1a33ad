import Derived.Test.Qxb6605220aSame
namespace Go.Proofs.Qxb6605220a
open Go.ChangeShapes Go.WideShapes Go.ChangeAt Go.RowKit

/-- One part, as its four cells and what they lead to: the number; address, spare and elements of the signers, the times, the signature. -/
structure Pt where
  f : Int
  sa : Option Addr
  sc : Nat
  sl : List Int
  ta : Option Addr
  tc : Nat
  tl : List Int
  ga : Option Addr
  gc : Nat
  gl : List Int

def pt0 : Pt := ⟨0, none, 0, [], none, 0, [], none, 0, []⟩

/-- what a part leads to, read in w -/
def Pt.ok (w : World) (p : Pt) : Prop :=
  (Rd .u8 w p.sa p.sl ∧ Rd .u32 w p.ta p.tl ∧ Rd .u8 w p.ga p.gl) ∧ ((p.sa = none → p.sl = []) ∧ (p.ta = none → p.tl = []) ∧ (p.ga = none → p.gl = [])) ∧ byt p.sl

/-- the four cells of part p from offset o of block b on -/
def Pt.lies (w : World) (b o : Nat) (p : Pt) : Prop :=
  w.cell? ⟨b, o, none⟩ = some (.int .i64 p.f) ∧ w.cell? ⟨b, o + 1, none⟩ = some (.slice p.sa p.sl.length p.sc) ∧ w.cell? ⟨b, o + 2, none⟩ = some (.slice p.ta p.tl.length p.tc) ∧ w.cell? ⟨b, o + 3, none⟩ = some (.slice p.ga p.gl.length p.gc)

def RdP (w : World) (a : Option Addr) (ps : List Pt) : Prop :=
  ps = [] ∨ ∃ b o, a = some ⟨b, o, none⟩ ∧ b < w.heap.size ∧ ∀ i, i < ps.length → (ps.getD i pt0).lies w b (o + i * 4)

theorem Pt.lies_below {w w' : World} {B b o : Nat} {p : Pt} (h : p.lies w b o) (hb : Below B w w') (hB : b < B) : p.lies w' b o := by
  obtain ⟨h0, h1, h2, h3⟩ := h
  refine ⟨?_, ?_, ?_, ?_⟩
  · rw [hb.cell (p := ⟨b, o, none⟩) hB]; exact h0
  · rw [hb.cell (p := ⟨b, o + 1, none⟩) hB]; exact h1
  · rw [hb.cell (p := ⟨b, o + 2, none⟩) hB]; exact h2
  · rw [hb.cell (p := ⟨b, o + 3, none⟩) hB]; exact h3

theorem RdP.below {w w' : World} {B : Nat} {a : Option Addr} {ps : List Pt} (h : RdP w a ps) (hb : Below B w w') (hB : w.heap.size ≤ B) : RdP w' a ps := by
  rcases h with h | ⟨b, o, rfl, hlt, hc⟩
  · exact .inl h
  · exact .inr ⟨b, o, rfl, Nat.lt_of_lt_of_le hlt hb.size, fun i hi => Pt.lies_below (hc i hi) hb (by omega)⟩

theorem Pt.ok.below {w w' : World} {B : Nat} {p : Pt} (h : p.ok w) (hb : Below B w w') (hB : w.heap.size ≤ B) : p.ok w' :=
  ⟨⟨h.1.1.below hb hB, h.1.2.1.below hb hB, h.1.2.2.below hb hB⟩, h.2⟩

/-- every part of ps leads to what it says -/
def okP (w : World) (ps : List Pt) : Prop := ∀ i, i < ps.length → (ps.getD i pt0).ok w
theorem okP.below {w w' : World} {B : Nat} {ps : List Pt} (h : okP w ps) (hb : Below B w w') (hB : w.heap.size ≤ B) : okP w' ps := fun i hi => (h i hi).below hb hB

/-- all lengths of a part are at most n -/
def Pt.le (n : Nat) (p : Pt) : Prop := p.sl.length ≤ n ∧ p.tl.length ≤ n ∧ p.gl.length ≤ n

theorem le_succ {ps : List Pt} {k : Nat} (H : ∀ j, j < k → (ps.getD j pt0).le 1048576) (h : (ps.getD k pt0).le 1048576) : ∀ j, j < k + 1 → (ps.getD j pt0).le 1048576 := by
  intro j hj
  by_cases e : j = k
  · subst e; exact h
  · exact H j (by omega)

def Post19 (n : Nat) (ps : List Pt) (w : World) (e : Ending) (w' : World) : Prop :=
  ∃ r, e = .returned (.bool r) ∧ w = w' ∧ (r = true → n ≤ 1048576 ∧ ps.length ≤ 1048576 ∧ ∀ i, i < ps.length → (ps.getD i pt0).le 1048576)

set_option maxHeartbeats 800000 in
theorem bytes19_loop (a : Option Addr) (n c b o c' : Nat) (ps : List Pt) (w : World) (hm : n ≤ maxLen) (hm' : ps.length ≤ maxLen) (hle : ∀ i, i < ps.length → (ps.getD i pt0).le maxLen)
    (hc : ∀ i, i < ps.length → (ps.getD i pt0).lies w b (o + i * 4)) :
    Calls Try.prog 19 #[.slice a n c, .slice (some ⟨b, o, none⟩) ps.length c'] w (Post19 n ps w) := by
  unfold maxLen at hm hm' hle
  by_cases h1 : 1048576 < n
  · go_enter Try.func19, Try.ntmps19
    go_wp2
    go_ret
    exact ⟨false, rfl, rfl, fun h => by cases h⟩
  by_cases h2 : 1048576 < ps.length
  · go_enter Try.func19, Try.ntmps19
    go_wp2
    go_ret
    exact ⟨false, rfl, rfl, fun h => by cases h⟩
  by_cases h3 : 1048576 < n + ps.length
  · go_enter Try.func19, Try.ntmps19
    go_wp2
    go_ret
    exact ⟨false, rfl, rfl, fun h => by cases h⟩
  go_enter Try.func19, Try.ntmps19
  go_wp2
  go_loop [5, 6] (fun t i => ∃ k q : Nat, k ≤ ps.length ∧ q ≤ 1048576 ∧ t = .int .i64 q ∧ i = .int .i64 k ∧ Hid (∀ j, j < k → (ps.getD j pt0).le 1048576)) (fun _ i => ps.length - (intOf i).toNat)
  case atStart => exact ⟨0, n + ps.length, Nat.zero_le _, by omega, by go_num, rfl, fun j hj => by omega⟩
  case round =>
    obtain ⟨k, q, hk, hq, rfl, rfl, H⟩ := hrel
    by_cases hlt : k < ps.length
    · obtain ⟨g0, g1, g2, g3⟩ := hc k hlt
      obtain ⟨l1, l2, l3⟩ := hle k hlt
      have HN : Hid ((ps.getD k pt0).le 1048576 → ∀ j, j < k + 1 → (ps.getD j pt0).le 1048576) := fun h => le_succ H.out h
      unfold Pt.le at HN
      clear hc hle g0 H
      generalize (ps.getD k pt0).sl.length = m1 at *
      generalize (ps.getD k pt0).tl.length = m2 at *
      generalize (ps.getD k pt0).gl.length = m3 at *
      generalize (ps.getD k pt0).sa = a1 at *
      generalize (ps.getD k pt0).ta = a2 at *
      generalize (ps.getD k pt0).ga = a3 at *
      generalize (ps.getD k pt0).sc = d1 at *
      generalize (ps.getD k pt0).tc = d2 at *
      generalize (ps.getD k pt0).gc = d3 at *
      go_wp2
      case roundEnd =>
        go_round
        case rel => exact ⟨k + 1, q + m1 + m2 + m3, by omega, by omega, by go_num, by go_num, HN.out ⟨by omega, by omega, by omega⟩⟩
        case measure => simp [intOf]; omega
      all_goals
        go_ret
        exact ⟨false, rfl, rfl, fun h => by cases h⟩
    · obtain rfl : k = ps.length := by omega
      clear hc hle
      go_wp2
      go_ret
      exact ⟨true, rfl, rfl, fun _ => ⟨by omega, by omega, H.out⟩⟩

theorem bytes19_nil (a a' : Option Addr) (n c c' : Nat) (w : World) (hm : n ≤ maxLen) :
    Calls Try.prog 19 #[.slice a n c, .slice a' 0 c'] w (Post19 n [] w) := by
  unfold maxLen at hm
  by_cases h1 : 1048576 < n
  · go_enter Try.func19, Try.ntmps19
    go_wp2
    go_ret
    exact ⟨false, rfl, rfl, fun h => by cases h⟩
  go_enter Try.func19, Try.ntmps19
  go_wp2
  refine wp_loop_rounds 1 ?_
  rw [rounds_succ]
  go_wp2
  go_ret
  exact ⟨true, rfl, rfl, fun _ => ⟨by omega, by simp, fun i hi => by simp at hi⟩⟩

theorem bytes19_any {w : World} {a' : Option Addr} {ps : List Pt} (a : Option Addr) (n c c' : Nat) (h : RdP w a' ps) (hm : n ≤ maxLen) (hm' : ps.length ≤ maxLen) (hle : ∀ i, i < ps.length → (ps.getD i pt0).le maxLen) :
    Calls Try.prog 19 #[.slice a n c, .slice a' ps.length c'] w (Post19 n ps w) := by
  rcases h with rfl | ⟨b, o, rfl, _, hc⟩
  · exact bytes19_nil a a' n c c' w hm
  · exact bytes19_loop a n c b o c' ps w hm hm' hle hc

set_option maxHeartbeats 800000 in
theorem bytes25_loop (a : Option Addr) (n c b o c' : Nat) (ps : List Pt) (w : World) (hm : n ≤ maxLen) (hm' : ps.length ≤ maxLen) (hle : ∀ i, i < ps.length → (ps.getD i pt0).le maxLen)
    (hc : ∀ i, i < ps.length → (ps.getD i pt0).lies w b (o + i * 4)) :
    Calls Try.prog 25 #[.slice a n c, .slice (some ⟨b, o, none⟩) ps.length c'] w (Post19 n ps w) := by
  unfold maxLen at hm hm' hle
  by_cases h1 : 1048576 < n
  · go_enter Try.func25, Try.ntmps25
    go_wp2
    go_ret
    exact ⟨false, rfl, rfl, fun h => by cases h⟩
  by_cases h2 : 1048576 < ps.length
  · go_enter Try.func25, Try.ntmps25
    go_wp2
    go_ret
    exact ⟨false, rfl, rfl, fun h => by cases h⟩
  by_cases h3 : 1048576 < n + ps.length
  · go_enter Try.func25, Try.ntmps25
    go_wp2
    go_ret
    exact ⟨false, rfl, rfl, fun h => by cases h⟩
  go_enter Try.func25, Try.ntmps25
  go_wp2
  go_loop [5, 6] (fun t i => ∃ k q : Nat, k ≤ ps.length ∧ q ≤ 1048576 ∧ t = .int .i64 q ∧ i = .int .i64 k ∧ Hid (∀ j, j < k → (ps.getD j pt0).le 1048576)) (fun _ i => ps.length - (intOf i).toNat)
  case atStart => exact ⟨0, n + ps.length, Nat.zero_le _, by omega, by go_num, rfl, fun j hj => by omega⟩
  case round =>
    obtain ⟨k, q, hk, hq, rfl, rfl, H⟩ := hrel
    by_cases hlt : k < ps.length
    · obtain ⟨g0, g1, g2, g3⟩ := hc k hlt
      obtain ⟨l1, l2, l3⟩ := hle k hlt
      have HN : Hid ((ps.getD k pt0).le 1048576 → ∀ j, j < k + 1 → (ps.getD j pt0).le 1048576) := fun h => le_succ H.out h
      unfold Pt.le at HN
      clear hc hle g0 H
      generalize (ps.getD k pt0).sl.length = m1 at *
      generalize (ps.getD k pt0).tl.length = m2 at *
      generalize (ps.getD k pt0).gl.length = m3 at *
      generalize (ps.getD k pt0).sa = a1 at *
      generalize (ps.getD k pt0).ta = a2 at *
      generalize (ps.getD k pt0).ga = a3 at *
      generalize (ps.getD k pt0).sc = d1 at *
      generalize (ps.getD k pt0).tc = d2 at *
      generalize (ps.getD k pt0).gc = d3 at *
      go_wp2
      case roundEnd =>
        go_round
        case rel => exact ⟨k + 1, q + m1 + m2 + m3, by omega, by omega, by go_num, by go_num, HN.out ⟨by omega, by omega, by omega⟩⟩
        case measure => simp [intOf]; omega
      all_goals
        go_ret
        exact ⟨false, rfl, rfl, fun h => by cases h⟩
    · obtain rfl : k = ps.length := by omega
      clear hc hle
      go_wp2
      go_ret
      exact ⟨true, rfl, rfl, fun _ => ⟨by omega, by omega, H.out⟩⟩

theorem bytes25_nil (a a' : Option Addr) (n c c' : Nat) (w : World) (hm : n ≤ maxLen) :
    Calls Try.prog 25 #[.slice a n c, .slice a' 0 c'] w (Post19 n [] w) := by
  unfold maxLen at hm
  by_cases h1 : 1048576 < n
  · go_enter Try.func25, Try.ntmps25
    go_wp2
    go_ret
    exact ⟨false, rfl, rfl, fun h => by cases h⟩
  go_enter Try.func25, Try.ntmps25
  go_wp2
  refine wp_loop_rounds 1 ?_
  rw [rounds_succ]
  go_wp2
  go_ret
  exact ⟨true, rfl, rfl, fun _ => ⟨by omega, by simp, fun i hi => by simp at hi⟩⟩

theorem bytes25_any {w : World} {a' : Option Addr} {ps : List Pt} (a : Option Addr) (n c c' : Nat) (h : RdP w a' ps) (hm : n ≤ maxLen) (hm' : ps.length ≤ maxLen) (hle : ∀ i, i < ps.length → (ps.getD i pt0).le maxLen) :
    Calls Try.prog 25 #[.slice a n c, .slice a' ps.length c'] w (Post19 n ps w) := by
  rcases h with rfl | ⟨b, o, rfl, _, hc⟩
  · exact bytes25_nil a a' n c c' w hm
  · exact bytes25_loop a n c b o c' ps w hm hm' hle hc

end Go.Proofs.Qxb6605220a
