import Derived.Test.Qxb6605220aSeen
namespace Go.Proofs.Qxb6605220a
open Go.ChangeShapes Go.WideShapes Go.ChangeAt Go.RowKit

/-! ### adding as a plain recursion -/
def addR : List Int → List Pt → List Pt
  | _, [] => []
  | h, p :: ps => if namesB p.sl h = true then p :: addR (unionL h p.sl) ps else addR h ps

theorem fold_addR (ps : List Pt) : ∀ (h : List Int) (acc : List Pt), (ps.foldl addStep (h, acc)).2 = acc ++ addR h ps := by
  induction ps with
  | nil => intro h acc; simp [addR]
  | cons p ps ih =>
    intro h acc
    rw [List.foldl_cons, addStep, addR]
    by_cases hn : namesB p.sl h = true
    · rw [if_pos hn, if_pos hn, ih]; simp
    · rw [if_neg hn, if_neg hn, ih]
theorem addL_eq (h : List Int) (ps : List Pt) : addL h ps = addR h ps := by
  unfold addL addN
  rw [List.take_length, fold_addR]
  simp

theorem addR_again (ps : List Pt) : ∀ h, addR h (addR h ps) = addR h ps := by
  induction ps with
  | nil => intro h; rfl
  | cons p ps ih =>
    intro h
    by_cases hn : namesB p.sl h = true
    · rw [addR, if_pos hn, addR, if_pos hn, ih]
    · rw [addR, if_neg hn, ih]
theorem addL_again (h : List Int) (ps : List Pt) : addL h (addL h ps) = addL h ps := by rw [addL_eq, addL_eq, addR_again]

theorem addR_mem (ps : List Pt) : ∀ h p, p ∈ addR h ps → p ∈ ps := by
  induction ps with
  | nil => intro h p hp; exact hp
  | cons q ps ih =>
    intro h p hp
    rw [addR] at hp
    by_cases hn : namesB q.sl h = true
    · rw [if_pos hn] at hp
      rcases List.mem_cons.1 hp with rfl | hp
      · exact List.mem_cons_self
      · exact List.mem_cons_of_mem _ (ih _ _ hp)
    · rw [if_neg hn] at hp
      exact List.mem_cons_of_mem _ (ih _ _ hp)

/-- whatever holds of every part holds of every part that is kept -/
theorem addL_all {q : Pt → Prop} {h : List Int} {ps : List Pt} (H : ∀ i, i < ps.length → q (ps.getD i pt0)) : ∀ i, i < (addL h ps).length → q ((addL h ps).getD i pt0) := by
  intro i hi
  have hm : (addL h ps).getD i pt0 ∈ ps := by
    apply addR_mem ps h
    rw [← addL_eq]
    rw [List.getD, List.getElem?_eq_getElem hi]
    exact List.getElem_mem hi
  obtain ⟨j, hj, e⟩ := List.mem_iff_getElem.1 hm
  have := H j hj
  rw [List.getD, List.getElem?_eq_getElem hj] at this
  rw [← e]
  exact this
theorem addL_length (h : List Int) (ps : List Pt) : (addL h ps).length ≤ ps.length := addN_len2 ps.length (Nat.le_refl _)

/-! ### the union of all -/
def unN (h : List Int) (ps : List Pt) (k : Nat) : List Int := (ps.take k).foldl (fun u p => unionL u p.sl) h
theorem unN_succ (h : List Int) (ps : List Pt) (k : Nat) (hk : k < ps.length) : unN h ps (k + 1) = unionL (unN h ps k) (ps.getD k pt0).sl := by
  unfold unN
  rw [List.take_succ_eq_append_getElem hk, List.foldl_append]
  simp [List.getD, hk]

section
variable {h : List Int} {ps : List Pt}
theorem unN_byt (hh : byt h) (hp : ∀ i, i < ps.length → byt (ps.getD i pt0).sl) : ∀ k, k ≤ ps.length → byt (unN h ps k) := by
  intro k
  induction k with
  | zero => intro _; simpa [unN] using hh
  | succ k ih => intro hk; rw [unN_succ h ps k (by omega)]; exact unionL_byt (ih (by omega)) (hp k (by omega))
theorem unN_valid (hh : byt h) (hp : ∀ i, i < ps.length → byt (ps.getD i pt0).sl) (vh : validB h = true) (vp : ∀ i, i < ps.length → validB (ps.getD i pt0).sl = true) : ∀ k, k ≤ ps.length → validB (unN h ps k) = true := by
  intro k
  induction k with
  | zero => intro _; simpa [unN] using vh
  | succ k ih => intro hk; rw [unN_succ h ps k (by omega)]; exact unionL_valid (unN_byt hh hp k (by omega)) (hp k (by omega)) (ih (by omega)) (vp k (by omega))
theorem unN_len (hh : h.length ≤ 1048576) (hp : ∀ i, i < ps.length → (ps.getD i pt0).sl.length ≤ 1048576) : ∀ k, k ≤ ps.length → (unN h ps k).length ≤ 1048576 := by
  intro k
  induction k with
  | zero => intro _; simpa [unN] using hh
  | succ k ih =>
    intro hk
    rw [unN_succ h ps k (by omega), unionL_length]
    have := ih (by omega)
    have := hp k (by omega)
    omega
/-- what adding has named is the union of what it has kept -/
theorem addN_named (h : List Int) (ps : List Pt) : ∀ k, k ≤ ps.length → (addN h ps k).1 = (addN h ps k).2.foldl (fun u p => unionL u p.sl) h := by
  intro k
  induction k with
  | zero => intro _; simp [addN]
  | succ k ih =>
    intro hk
    cases hn : namesB (ps.getD k pt0).sl (addN h ps k).1
    · rw [addN_miss (by omega) hn]; exact ih (by omega)
    · rw [addN_hit (by omega) hn, List.foldl_append, ← ih (by omega)]
      rfl
theorem kept_named (h : List Int) (ps : List Pt) : unN h (addL h ps) (addL h ps).length = (addN h ps ps.length).1 := by
  rw [addN_named h ps _ (Nat.le_refl _)]
  unfold unN
  rw [List.take_length]
  rfl
theorem addN_unN (hh : byt h) (hp : ∀ i, i < ps.length → byt (ps.getD i pt0).sl) (vp : ∀ i, i < ps.length → validB (ps.getD i pt0).sl = true) : ∀ k, k ≤ ps.length → ∀ i, bitB (addN h ps k).1 i = bitB (unN h ps k) i := by
  intro k
  induction k with
  | zero => intro _ i; simp [addN, unN]
  | succ k ih =>
    intro hk i
    rw [addN_bit (by omega) (addN_byt hh hp k (by omega)) (hp k (by omega)) (vp k (by omega)), unN_succ h ps k (by omega), unionL_bit (unN_byt hh hp k (by omega)) (hp k (by omega)), ih (by omega)]

/-- all the parts name, with held, the very voters that the kept ones name -/
theorem covers (hh : byt h) (vh : validB h = true) (hp : ∀ i, i < ps.length → byt (ps.getD i pt0).sl) (vp : ∀ i, i < ps.length → validB (ps.getD i pt0).sl = true) : unN h ps ps.length = unN h (addL h ps) (addL h ps).length := by
  have hp' := addL_all (q := fun p => byt p.sl) (h := h) hp
  have vp' := addL_all (q := fun p => validB p.sl = true) (h := h) vp
  apply canon (unN_byt hh hp _ (Nat.le_refl _)) (unN_byt hh hp' _ (Nat.le_refl _)) (unN_valid hh hp vh vp _ (Nat.le_refl _)) (unN_valid hh hp' vh vp' _ (Nat.le_refl _))
  intro i
  rw [kept_named, addN_unN hh hp vp _ (Nat.le_refl _)]

theorem unN_mono (hh : byt h) (hp : ∀ i, i < ps.length → byt (ps.getD i pt0).sl) : ∀ d k, k + d ≤ ps.length → ∀ i, bitB (unN h ps k) i = true → bitB (unN h ps (k + d)) i = true := by
  intro d
  induction d with
  | zero => intro k _ i hi; exact hi
  | succ d ih =>
    intro k hk i hi
    rw [← Nat.add_assoc, unN_succ h ps (k + d) (by omega), unionL_bit (unN_byt hh hp _ (by omega)) (hp _ (by omega)), ih k (by omega) i hi]
    rfl
theorem unN_has (hh : byt h) (hp : ∀ i, i < ps.length → byt (ps.getD i pt0).sl) {k : Nat} (hk : k < ps.length) {i : Nat} (hi : bitB (ps.getD k pt0).sl i = true) : bitB (unN h ps ps.length) i = true := by
  have h1 : bitB (unN h ps (k + 1)) i = true := by rw [unN_succ h ps k hk, unionL_bit (unN_byt hh hp _ (by omega)) (hp _ hk), hi]; simp
  have := unN_mono hh hp (ps.length - (k + 1)) (k + 1) (by omega) i h1
  rwa [show k + 1 + (ps.length - (k + 1)) = ps.length by omega] at this

/-- no part names a voter beyond the whole union -/
theorem none_beyond (hh : byt h) (hp : ∀ i, i < ps.length → byt (ps.getD i pt0).sl) (vp : ∀ i, i < ps.length → validB (ps.getD i pt0).sl = true) : addL (unN h ps ps.length) ps = [] := by
  have : ∀ k, k ≤ ps.length → addN (unN h ps ps.length) ps k = (unN h ps ps.length, []) := by
    intro k
    induction k with
    | zero => intro _; rfl
    | succ k ih =>
      intro hk
      rw [addN_miss (by omega), ih (by omega)]
      rw [ih (by omega)]
      exact names_false (vp k (by omega)) (hp k (by omega)) (unN_byt hh hp _ (Nat.le_refl _)) fun i hi => unN_has hh hp (by omega) hi
  unfold addL
  rw [this _ (Nat.le_refl _)]
end
end Go.Proofs.Qxb6605220a
