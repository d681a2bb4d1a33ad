import Derived.Test.Qxb6605339aDec
import Derived.Deep.DeepCutAuto
namespace Go.Proofs.Qxb6605339a
open Go.ChangeShapes Go.WideShapes Go.ChangeAt Go.RowKit

/-! ### THE PLAIN FUNCTIONS -/
def isDig (x : Int) : Bool := decide (48 ≤ x) && decide (x ≤ 57)
def isE (x : Int) : Bool := x == 101 || x == 69
def isSg (x : Int) : Bool := x == 43 || x == 45
def sgn (L : List Int) : Nat := if L.getD 0 0 = 45 then 1 else 0
/-- the first place from i on that holds no digit -/
def skip (L : List Int) (i : Nat) : Nat := i + ((L.drop i).takeWhile isDig).length

/-- what isFloat's last part answers, from the exponent's first place on -/
def expF (L : List Int) (i3 : Nat) : Bool :=
  let i4 := if isSg (L.getD i3 0) = true then i3 + 1 else i3
  decide (skip L i4 ≠ i4) && decide (skip L i4 = L.length)
def tailF (L : List Int) (i : Nat) : Bool := if isE (L.getD i 0) = true then expF L (i + 1) else decide (i = L.length)
def i1F (L : List Int) : Nat := skip L (sgn L)
def i2F (L : List Int) : Nat := if L.getD (i1F L) 0 = 46 then skip L (i1F L + 1) else i1F L
def mantF (L : List Int) : Nat := if L.getD (i1F L) 0 = 46 then (i1F L - sgn L) + (skip L (i1F L + 1) - i1F L - 1) else i1F L - sgn L
def isF (L : List Int) : Bool := decide (mantF L ≠ 0) && tailF L (i2F L)

/-- what the model answers, from the exponent's first place on -/
def expM (L : List Int) (i3 : Nat) : Bool :=
  let i4 := if isSg (L.getD i3 0) = true then i3 + 1 else i3
  decide (i4 ≠ L.length) && (L.drop i4).all isDig
def notE (x : Int) : Bool := !isE x
/-- the part ahead of the first 'e' -/
def seg (L : List Int) : List Int := (L.drop (sgn L)).takeWhile notE
def okM (x : Int) : Bool := isDig x || x == 46
def eM (L : List Int) : Nat := sgn L + (seg L).length
def modF (L : List Int) : Bool :=
  (seg L).all okM && (decide ((seg L).countP isDig ≠ 0) && (decide ((seg L).countP (· == 46) ≤ 1) && (decide (eM L = L.length) || expM L (eM L + 1))))

/-! ### THE PLAIN LAW -/
theorem dig_notE {x : Int} (h : isDig x = true) : notE x = true := by
  simp [isDig, notE, isE] at *
  omega
theorem drop_getD (L : List Int) (i : Nat) : (L.drop i).head?.getD 0 = L.getD i 0 := by
  rw [List.head?_drop]; rfl

theorem skip_of {L T D R : List Int} {i : Nat} (hT : L.drop i = T) (hD : T = D ++ R) (h1 : D.all isDig = true) (h2 : ∀ x R', R = x :: R' → isDig x = false) : skip L i = i + D.length ∧ L.getD (i + D.length) 0 = R.head?.getD 0 ∧ L.drop (i + D.length) = R := by
  have htw : T.takeWhile isDig = D := by
    rw [hD, List.takeWhile_append_of_pos (fun a ha => List.all_eq_true.1 h1 a ha)]
    cases R with
    | nil => simp
    | cons x R' => rw [List.takeWhile_cons, h2 x R' rfl]; simp
  have hdrop : L.drop (i + D.length) = R := by rw [← List.drop_drop, hT, hD]; simp
  refine ⟨by rw [skip, hT, htw], ?_, hdrop⟩
  rw [← drop_getD, hdrop]

/-- every list is its digits and what follows them -/
theorem split_dig (T : List Int) : ∃ D R, T = D ++ R ∧ D.all isDig = true ∧ ∀ x R', R = x :: R' → isDig x = false := by
  induction T with
  | nil => exact ⟨[], [], rfl, rfl, fun x R' h => by cases h⟩
  | cons a T ih =>
    cases ha : isDig a
    · exact ⟨[], a :: T, rfl, rfl, fun x R' h => by cases h; exact ha⟩
    · obtain ⟨D, R, h1, h2, h3⟩ := ih
      exact ⟨a :: D, R, by rw [h1]; rfl, by simp [ha, h2], h3⟩

theorem exp_eq (L : List Int) (i3 : Nat) (h : i3 ≤ L.length) : expF L i3 = expM L i3 := by
  unfold expF expM
  have hi4 : (if isSg (L.getD i3 0) = true then i3 + 1 else i3) ≤ L.length := by
    by_cases hs : isSg (L.getD i3 0) = true
    · rw [if_pos hs]
      rcases Nat.lt_or_ge i3 L.length with h' | h'
      · omega
      · rw [List.getD, List.getElem?_eq_none h'] at hs
        simp [isSg] at hs
    · rw [if_neg hs]; exact h
  generalize (if isSg (L.getD i3 0) = true then i3 + 1 else i3) = i4 at *
  obtain ⟨D, R, h1, h2, h3⟩ := split_dig (L.drop i4)
  obtain ⟨e1, _, e3⟩ := skip_of rfl h1 h2 h3
  have hlen : L.length = i4 + D.length + R.length := by
    have := congrArg List.length h1
    simp at this
    omega
  show (decide (skip L i4 ≠ i4) && decide (skip L i4 = L.length)) = (decide (i4 ≠ L.length) && (L.drop i4).all isDig)
  rw [e1, h1, List.all_append, h2, Bool.true_and, Bool.eq_iff_iff]
  simp only [Bool.and_eq_true, decide_eq_true_eq]
  cases R with
  | nil =>
    rw [List.length_nil] at hlen
    simp only [List.all_nil, and_true]
    omega
  | cons x R' =>
    rw [List.length_cons] at hlen
    simp only [List.all_cons, h3 x R' rfl, Bool.false_and]
    constructor
    · intro h; omega
    · rintro ⟨_, h⟩; cases h

theorem seg_of {L M R : List Int} (hT : L.drop (sgn L) = M ++ R) (h1 : M.all notE = true) (h2 : ∀ x R', R = x :: R' → isE x = true) : seg L = M := by
  rw [seg, hT, List.takeWhile_append_of_pos (fun a ha => List.all_eq_true.1 h1 a ha)]
  cases R with
  | nil => simp
  | cons x R' => rw [List.takeWhile_cons]; simp [notE, h2 x R' rfl]

theorem split_E (T : List Int) : ∃ M R, T = M ++ R ∧ M.all notE = true ∧ ∀ x R', R = x :: R' → isE x = true := by
  induction T with
  | nil => exact ⟨[], [], rfl, rfl, fun x R' h => by cases h⟩
  | cons a T ih =>
    cases ha : isE a
    · obtain ⟨M, R, h1, h2, h3⟩ := ih
      exact ⟨a :: M, R, by rw [h1]; rfl, by simp [notE, ha] at h2 ⊢; exact h2, h3⟩
    · exact ⟨[], a :: T, rfl, rfl, fun x R' h => by cases h; exact ha⟩

theorem sgn_le (L : List Int) : sgn L ≤ L.length := by
  unfold sgn
  split
  · cases L with
    | nil => simp at *
    | cons a L => simp
  · exact Nat.zero_le _

theorem all_dig_count {D : List Int} (h : D.all isDig = true) : D.countP isDig = D.length ∧ D.countP (· == 46) = 0 ∧ D.all okM = true := by
  refine ⟨List.countP_eq_length.2 fun a ha => List.all_eq_true.1 h a ha, List.countP_eq_zero.2 fun a ha => ?_, List.all_eq_true.2 fun a ha => ?_⟩
  · have := List.all_eq_true.1 h a ha
    simp [isDig] at this ⊢
    omega
  · simp [okM, List.all_eq_true.1 h a ha]

theorem tail_eq {L M R : List Int} (hT : L.drop (sgn L) = M ++ R) (h2 : ∀ x R', R = x :: R' → isE x = true) : tailF L (sgn L + M.length) = (decide (sgn L + M.length = L.length) || expM L (sgn L + M.length + 1)) := by
  have hd : L.drop (sgn L + M.length) = R := by rw [← List.drop_drop, hT]; simp
  have hg : L.getD (sgn L + M.length) 0 = R.head?.getD 0 := by rw [← drop_getD, hd]
  have hlen : L.length = sgn L + M.length + R.length := by
    have := congrArg List.length hT
    have := sgn_le L
    simp at *
    omega
  unfold tailF
  cases R with
  | nil =>
    rw [List.length_nil] at hlen
    have h0 : isE (L.getD (sgn L + M.length) 0) = false := by rw [hg]; rfl
    rw [h0]
    simp
    omega
  | cons x R' =>
    rw [List.length_cons] at hlen
    have h0 : isE (L.getD (sgn L + M.length) 0) = true := by rw [hg]; exact h2 x R' rfl
    rw [if_pos h0, exp_eq _ _ (by omega), show decide (sgn L + M.length = L.length) = false from decide_eq_false (by omega)]
    rfl

theorem tail_false {L : List Int} {i : Nat} (h1 : isE (L.getD i 0) = false) (h2 : i < L.length) : tailF L i = false := by
  unfold tailF
  rw [h1]
  simp
  omega

theorem float_law (L : List Int) : isF L = modF L := by
  obtain ⟨M, R, hT, hM, hR⟩ := split_E (L.drop (sgn L))
  have hseg := seg_of hT hM hR
  have htail := tail_eq hT hR
  have hlen : L.length = sgn L + M.length + R.length := by
    have := congrArg List.length hT
    have := sgn_le L
    simp at *
    omega
  unfold modF eM
  rw [hseg, ← htail]
  obtain ⟨D1, M1, hD1, a1, b1⟩ := split_dig M
  have hRnd : ∀ x R', R = x :: R' → isDig x = false := fun x R' e => by
    cases hd : isDig x
    · rfl
    · have := dig_notE hd
      rw [notE, hR x R' e] at this
      cases this
  obtain ⟨c1, c2, c3⟩ := all_dig_count a1
  have hT1 : L.drop (sgn L) = D1 ++ (M1 ++ R) := by rw [hT, hD1, List.append_assoc]
  have hnd : ∀ x R', M1 ++ R = x :: R' → isDig x = false := fun x R' e => by
    cases M1 with
    | nil => exact hRnd x R' e
    | cons y M2 => cases e; exact b1 _ _ rfl
  obtain ⟨e1, e2, e3⟩ := skip_of rfl hT1 a1 hnd
  have hi1 : i1F L = sgn L + D1.length := e1
  unfold isF
  cases M1 with
  | nil =>
    rw [List.append_nil] at hD1
    rw [List.nil_append] at e2 e3
    have hne : ¬ L.getD (i1F L) 0 = 46 := by
      rw [hi1, e2]
      cases R with
      | nil => simp
      | cons x R' =>
        have := hR x R' rfl
        simp [isE] at this ⊢
        omega
    have em : mantF L = D1.length := by rw [mantF, if_neg hne, hi1]; omega
    have ei : i2F L = sgn L + M.length := by rw [i2F, if_neg hne, hi1, hD1]
    rw [em, ei, hD1, c1, c2, c3]
    simp
  | cons y M2 =>
    have hyE : isE y = false := by
      have := List.all_eq_true.1 hM y (by rw [hD1]; simp)
      simpa [notE] using this
    have hyL : L.getD (i1F L) 0 = y := by rw [hi1, e2]; rfl
    have hyl : M.length = D1.length + 1 + M2.length := by rw [hD1]; simp; omega
    by_cases hy : y = 46
    · obtain ⟨D2, M3, hD2, a2, b2⟩ := split_dig M2
      obtain ⟨k1, k2, k3⟩ := all_dig_count a2
      have hT2 : L.drop (i1F L + 1) = D2 ++ (M3 ++ R) := by
        rw [hi1, ← List.drop_drop, e3]
        simp [hD2]
      have hnd2 : ∀ x R', M3 ++ R = x :: R' → isDig x = false := fun x R' e => by
        cases M3 with
        | nil => exact hRnd x R' e
        | cons z M4 => cases e; exact b2 _ _ rfl
      obtain ⟨f1, f2, f3⟩ := skip_of rfl hT2 a2 hnd2
      rw [hy] at hyL
      have em : mantF L = D1.length + D2.length := by rw [mantF, if_pos hyL, f1, hi1]; omega
      have ei : i2F L = sgn L + D1.length + 1 + D2.length := by rw [i2F, if_pos hyL, f1, hi1]
      cases M3 with
      | nil =>
        rw [List.append_nil] at hD2
        have eM : M = D1 ++ 46 :: D2 := by rw [hD1, hy, hD2]
        rw [em, ei, show sgn L + D1.length + 1 + D2.length = sgn L + M.length by rw [eM]; simp; omega, eM]
        have q1 : isDig 46 = false := rfl
        have q2 : okM 46 = true := rfl
        simp [List.countP_append, c1, c2, c3, k1, k2, k3, q1, q2]
      | cons z M4 =>
        have hzM : z ∈ M := by rw [hD1, hD2]; simp
        have hzE : isE z = false := by
          have := List.all_eq_true.1 hM z hzM
          simpa [notE] using this
        have hzL : L.getD (i2F L) 0 = z := by rw [ei, ← hi1, f2]; rfl
        have hl4 : M2.length = D2.length + 1 + M4.length := by rw [hD2]; simp; omega
        rw [tail_false (by rw [hzL]; exact hzE) (by rw [ei]; omega), Bool.and_false]
        have hzd := b2 z M4 rfl
        by_cases hz : z = 46
        · have : ¬ M.countP (· == 46) ≤ 1 := by
            rw [hD1, hD2, hy, hz]
            simp [List.countP_append]
            omega
          simp [this]
        · have : M.all okM = false := by
            rw [← Bool.not_eq_true, List.all_eq_true]
            intro h
            have := h z hzM
            simp [okM, hzd, hz] at this
          rw [this]
          rfl
    · have hyM : y ∈ M := by rw [hD1]; simp
      have ei : i2F L = sgn L + D1.length := by rw [i2F, if_neg (by rw [hyL]; exact hy), hi1]
      rw [tail_false (by rw [ei, ← hi1, hyL]; exact hyE) (by rw [ei]; omega), Bool.and_false]
      have : M.all okM = false := by
        rw [← Bool.not_eq_true, List.all_eq_true]
        intro h
        have := h y hyM
        simp [okM, b1 y M2 rfl, hy] at this
      rw [this]
      rfl
end Go.Proofs.Qxb6605339a
