import Derived.Test.Qxb6605220aSameQ
namespace Go.Proofs.Qxb6605220a
open Go.ChangeShapes Go.WideShapes Go.ChangeAt Go.RowKit

/-! ### the row 'seen' -/
theorem Try.info4 : (Try.prog.info? 4).map (fun i => (i.zero, i.size, i.bytes)) = some (some (.bool false), 1, 1) := by kernel_rfl

/-- block g is a row of n bools, S of its index -/
def Sn (w : World) (g n : Nat) (S : Nat → Bool) : Prop := Own 4 w g n ∧ ∀ i, i < n → w.cell? ⟨g, i, none⟩ = some (.bool (S i))

theorem Sn.below {w w' : World} {B g n : Nat} {S : Nat → Bool} (h : Sn w g n S) (hb : Below B w w') (hg : g < B) : Sn w' g n S :=
  ⟨h.1.below hb hg, fun i hi => (hb.cell (p := ⟨g, i, none⟩) hg).trans (h.2 i hi)⟩
theorem Sn.set {w : World} {g n : Nat} {S T : Nat → Bool} (h : Sn w g n S) (j : Nat) (hj : j < n) (hT : ∀ i, i < n → T i = if i = j then true else S i) : Sn (w.setCell ⟨g, j, none⟩ (.bool true)) g n T := by
  refine ⟨h.1.setCell _ _, fun i hi => ?_⟩
  rw [hT i hi]
  by_cases e : i = j
  · subst e
    rw [if_pos rfl]
    exact World.cell?_setCell_same _ _ _ (h.2 i hi)
  · rw [if_neg e, World.cell?_setCell_other _ _ _ _ (fun he => e (by simpa using (congrArg Addr.off he).symm))]
    exact h.2 i hi
theorem Sn.congr {w : World} {g n : Nat} {S T : Nat → Bool} (h : Sn w g n S) (hT : ∀ i, i < n → T i = S i) : Sn w g n T := ⟨h.1, fun i hi => by rw [hT i hi]; exact h.2 i hi⟩
theorem Sn.made {w : World} {B g n c : Nat} (h : w.ownsRow B 4 1 (.slice (some ⟨g, 0, none⟩) n c) n (madeCells #[Value.bool false] n).toList) (hc : c = n) : Sn w g n fun _ => false := by
  subst hc
  refine ⟨by have := (Own.of_row h).2; rwa [Nat.mul_one] at this, fun i hi => ?_⟩
  rw [h.cellAt i (by omega), toList_madeCells_one]
  simp [hi]

/-- what 'seen' holds when the bitmap l has been noted, and the first t bits of s besides -/
def noted (l s : List Int) (t i : Nat) : Bool := decide (1 ≤ i) && (bitB l (i - 1) || (decide (i ≤ t) && bitB s (i - 1)))

theorem noted_zero (l s : List Int) (i : Nat) : noted l s 0 i = (decide (1 ≤ i) && bitB l (i - 1)) := by
  by_cases h : 1 ≤ i
  · simp [noted, h, show ¬ i = 0 by omega]
  · simp [noted, h]
theorem noted_hit (l s : List Int) (t : Nat) (h : bitB s t = true) (i : Nat) : noted l s (t + 1) i = if i = t + 1 then true else noted l s t i := by
  by_cases e : i = t + 1
  · subst e; simp [noted, h]
  · rw [if_neg e]
    have : (i ≤ t + 1) ↔ (i ≤ t) := by omega
    simp [noted, this]
theorem noted_miss (l s : List Int) (t : Nat) (h : bitB s t = false) (i : Nat) : noted l s (t + 1) i = noted l s t i := by
  by_cases e : i = t + 1
  · subst e; simp [noted, h]
  · have : (i ≤ t + 1) ↔ (i ≤ t) := by omega
    simp [noted, this]
theorem noted_all (l s : List Int) (i : Nat) : noted l s (8 * s.length) i = (decide (1 ≤ i) && (bitB l (i - 1) || bitB s (i - 1))) := by
  by_cases h : i ≤ 8 * s.length
  · simp [noted, h]
  · have : bitB s (i - 1) = false := by
      cases hb : bitB s (i - 1)
      · rfl
      · have := bit_lt hb; omega
    simp [noted, this]
theorem bit_nil (i : Nat) : bitB [] i = false := by simp [bitB]

/-! ### the plain laws of adding -/
theorem addN_rest (h : List Int) (ps : List Pt) : ∀ d k, k + d ≤ ps.length → ∃ rest, (addN h ps (k + d)).2 = (addN h ps k).2 ++ rest := by
  intro d
  induction d with
  | zero => intro k _; exact ⟨[], by simp⟩
  | succ d ih =>
    intro k hk
    obtain ⟨rest, hr⟩ := ih k (by omega)
    cases hn : namesB (ps.getD (k + d) pt0).sl (addN h ps (k + d)).1
    · exact ⟨rest, by rw [← Nat.add_assoc, addN_miss (by omega) hn, hr]⟩
    · exact ⟨rest ++ [ps.getD (k + d) pt0], by rw [← Nat.add_assoc, addN_hit (by omega) hn, hr]; simp⟩

/-- where part k is kept, it stands in the result behind those that were kept before it -/
theorem add_at {h : List Int} {ps : List Pt} {k : Nat} (hk : k < ps.length) (hn : namesB (ps.getD k pt0).sl (addN h ps k).1 = true) :
    (addN h ps k).2.length < (addL h ps).length ∧ (addL h ps).getD (addN h ps k).2.length pt0 = ps.getD k pt0 := by
  obtain ⟨rest, hr⟩ := addN_rest h ps (ps.length - (k + 1)) (k + 1) (by omega)
  rw [show k + 1 + (ps.length - (k + 1)) = ps.length by omega, addN_hit hk hn] at hr
  have e : addL h ps = ((addN h ps k).2 ++ [ps.getD k pt0]) ++ rest := hr
  rw [e]
  constructor
  · simp
  · simp [List.getD]

theorem addN_byt {h : List Int} {ps : List Pt} (hh : byt h) (hp : ∀ i, i < ps.length → byt (ps.getD i pt0).sl) : ∀ k, k ≤ ps.length → byt (addN h ps k).1 := by
  intro k
  induction k with
  | zero => intro _; simpa [addN] using hh
  | succ k ih =>
    intro hk
    cases hn : namesB (ps.getD k pt0).sl (addN h ps k).1
    · rw [addN_miss (by omega) hn]; exact ih (by omega)
    · rw [addN_hit (by omega) hn]; exact unionL_byt (ih (by omega)) (hp k (by omega))

/-- what is named behind part k: what was named, and what it names -/
theorem addN_bit {h : List Int} {ps : List Pt} {k : Nat} (hk : k < ps.length) (hb : byt (addN h ps k).1) (hs : byt (ps.getD k pt0).sl) (hv : validB (ps.getD k pt0).sl = true) (i : Nat) :
    bitB (addN h ps (k + 1)).1 i = (bitB (addN h ps k).1 i || bitB (ps.getD k pt0).sl i) := by
  cases hn : namesB (ps.getD k pt0).sl (addN h ps k).1
  · rw [addN_miss hk hn]
    have := names_no hv hs hb hn i
    cases h1 : bitB (ps.getD k pt0).sl i
    · simp
    · simp [this h1]
  · rw [addN_hit hk hn]
    exact unionL_bit hb hs i
end Go.Proofs.Qxb6605220a
