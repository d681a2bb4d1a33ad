import Derived.Test.Qxb6605404aParse
namespace Go.Proofs.Qxb6605404a
open Go.ChangeShapes Go.WideShapes Go.ChangeAt Go.RowKit

theorem empty_of {b : ByteArray} (h : b.toList.isEmpty = true) : b = ByteArray.empty := by
  rw [ByteArray.toList_eq] at h
  obtain ⟨⟨d⟩⟩ := b
  simp at h
  subst h
  rfl

theorem its_cases (ca cert key : ByteArray) : Good (its ca cert key 3) ∧ (its ca cert key 3).length ≤ 3 ∧
    fd (its ca cert key 3) (its ca cert key 3).length 1 = ca ∧ fd (its ca cert key 3) (its ca cert key 3).length 2 = cert ∧ fd (its ca cert key 3) (its ca cert key 3).length 3 = key := by
  have e : its ca cert key 3 = (if full (1, ca) = true then [(1, ca)] else []) ++ ((if full (2, cert) = true then [(2, cert)] else []) ++ (if full (3, key) = true then [(3, key)] else [])) := by
    unfold its allF
    simp [List.filter_cons]
    split <;> split <;> split <;> simp
  rw [e]
  cases h1 : ca.toList.isEmpty <;> cases h2 : cert.toList.isEmpty <;> cases h3 : key.toList.isEmpty <;>
    (simp only [full, h1, h2, h3, Bool.not_true, Bool.not_false, if_true, if_false, Bool.false_eq_true, List.nil_append, List.append_nil, List.cons_append]
     refine ⟨?_, by simp, ?_, ?_, ?_⟩)
  all_goals first
    | (simp [fd]; done)
    | (simp [fd]; first | exact (empty_of h1).symm | exact (empty_of h2).symm | exact (empty_of h3).symm)
    | (intro j hj
       rcases j with _ | _ | _ | j
       all_goals first
         | (simp [lastR, h1, h2, h3]; done)
         | (exfalso; simp at hj; done)
         | (exfalso; simp at hj; omega))

theorem fl_length (l : List (Nat × ByteArray)) : (fl l).length = 2 * l.length := by
  induction l with
  | nil => rfl
  | cons a l ih => simp [fl] at ih ⊢; omega
theorem fl_get (l : List (Nat × ByteArray)) : ∀ j, j < l.length → (fl l)[2 * j]? = some (.string (nm (l.getD j p0).1)) ∧ (fl l)[2 * j + 1]? = some (.string (l.getD j p0).2) := by
  induction l with
  | nil => intro j hj; simp at hj
  | cons a l ih =>
    intro j hj
    have e : fl (a :: l) = .string (nm a.1) :: .string a.2 :: fl l := rfl
    rw [e]
    cases j with
    | zero => exact ⟨rfl, rfl⟩
    | succ j =>
      have := ih j (by simpa using hj)
      rw [show 2 * (j + 1) = 2 * j + 1 + 1 by omega]
      simpa using this

theorem parse_nil (w : World) : Calls Try.prog 6 #[.slice none 0 0] w fun e w' => e = .returned (.tuple #[.agg #[.string ⟨#[]⟩, .string ⟨#[]⟩, .string ⟨#[]⟩], .bool true]) ∧ Below w.heap.size w w' := by
  go_enter Try.func6, Try.ntmps6
  go_wp2
  refine wp_loop_rounds 1 ?_
  rw [rounds_succ]
  go_wp2
  exact bodyPost_ret (v := .tuple #[.agg #[.string ⟨#[]⟩, .string ⟨#[]⟩, .string ⟨#[]⟩], .bool true]) (by simp [results, Try.results6, go_sem]) rfl ⟨rfl, ((Below.refl _ _).alloc (Nat.le_refl _) _).alloc (by simp) _⟩

theorem parse_own (v : Value) (l : List (Nat × ByteArray)) (w : World) (B : Nat) (hl : l.length ≤ 3) (hg : Good l) (hown : w.ownsRow B 9 1 v (fl l).length (fl l)) :
    Calls Try.prog 6 #[v] w fun e w' => e = .returned (.tuple #[.agg #[.string (fd l l.length 1), .string (fd l l.length 2), .string (fd l l.length 3)], .bool true]) ∧ Below w.heap.size w w' := by
  rcases hown.2 with ⟨rfl, h0⟩ | ⟨g, cap, cur, rfl, _⟩
  · have : l = [] := by
      have := fl_length l
      exact List.eq_nil_of_length_eq_zero (by omega)
    subst this
    exact parse_nil w
  · have hfl := fl_length l
    have hlt := (hown.lt g rfl).2
    rw [hfl] at hown ⊢
    refine parse_some g 0 cap l w hlt hl hg fun j hj => ?_
    obtain ⟨h1, h2⟩ := fl_get l j hj
    refine ⟨?_, ?_⟩
    · rw [Nat.zero_add, hown.cellAt _ (by omega)]; exact h1
    · rw [Nat.zero_add, hown.cellAt _ (by omega)]; exact h2

theorem law3_big (ca cert key : ByteArray) (w : World) (h1 : ca.size ≤ maxLen) (h2 : cert.size ≤ maxLen) (h3 : key.size ≤ maxLen) (h : 262144 < ca.size ∨ 262144 < cert.size ∨ 262144 < key.size) :
    Calls Try.prog 3 #[.string ca, .string cert, .string key] w fun e w' => e = .returned (.bool true) ∧ Below w.heap.size w w' := by
  unfold maxLen at h1 h2 h3
  by_cases g1 : 262144 < ca.size
  · go_enter Try.func3, Try.ntmps3
    go_wp2
    all_goals (go_ret; exact ⟨rfl, Below.refl _ _⟩)
  by_cases g2 : 262144 < cert.size
  · go_enter Try.func3, Try.ntmps3
    go_wp2
    all_goals (go_ret; exact ⟨rfl, Below.refl _ _⟩)
  · have g3 : 262144 < key.size := by omega
    go_enter Try.func3, Try.ntmps3
    go_wp2
    all_goals (go_ret; exact ⟨rfl, Below.refl _ _⟩)

theorem bytes4_ok (ca cert key : ByteArray) (w : World) (h1 : ca.size ≤ 262144) (h2 : cert.size ≤ 262144) (h3 : key.size ≤ 262144) :
    Calls Try.prog 4 #[.string ca, .string cert, .string key] w fun e w' => e = .returned (.bool true) ∧ w = w' := by
  go_enter Try.func4, Try.ntmps4
  go_wp2
  go_ret
  exact ⟨rfl, rfl⟩

set_option maxHeartbeats 1000000 in
theorem law3_main (ca cert key : ByteArray) (w : World) (h1 : ca.size ≤ 262144) (h2 : cert.size ≤ 262144) (h3 : key.size ≤ 262144) :
    Calls Try.prog 3 #[.string ca, .string cert, .string key] w fun e w' => e = .returned (.bool true) ∧ Below w.heap.size w w' := by
  obtain ⟨hg, hl, e1, e2, e3⟩ := its_cases ca cert key
  have f1 : ¬ 262144 < ca.size := by omega
  have f2 : ¬ 262144 < cert.size := by omega
  have f3 : ¬ 262144 < key.size := by omega
  go_enter Try.func3, Try.ntmps3
  go_wp2_with (go_at_call 4; refine (bytes4_ok _ _ _ _ h1 h2 h3).mono ?_; rintro e w' ⟨rfl, rfl⟩)
  refine (flags_any ca cert key _).mono ?_
  rintro e w2 ⟨v, rfl, hown, bel2⟩
  have hp := parse_own v _ w2 _ hl hg hown
  rw [e1, e2, e3] at hp
  have bb : Below w.heap.size w w2 := (((Below.refl w.heap.size w).alloc (Nat.le_refl _) _).alloc (by simp) _).alloc (by simp; omega) _ |>.trans (bel2.mono (by simp; omega))
  clear hg hl e1 e2 e3 hown
  go_wp2_with fail
  refine hp.mono ?_
  rintro e w3 ⟨rfl, b3⟩
  have bb3 := bb.trans (b3.mono bb.size)
  clear hp bel2
  go_wp2
  go_ret
  exact ⟨rfl, bb3.alloc bb3.size _⟩
end Go.Proofs.Qxb6605404a
