import Derived.Test.Qxb6605220aNames
namespace Go.Proofs.Qxb6605220a
open Go.ChangeShapes Go.WideShapes Go.ChangeAt Go.RowKit

/-! ### THE PLAIN LAW -/
theorem byte_zero (x : Nat) (hx : x < 256) (h : ∀ m, m < 8 → x.testBit m = false) : x = 0 := by
  apply Nat.eq_of_testBit_eq
  intro i
  rw [Nat.zero_testBit]
  by_cases hi : i < 8
  · exact h i hi
  · exact Nat.testBit_lt_two_pow (Nat.lt_of_lt_of_le hx (by rw [show (256 : Nat) = 2 ^ 8 from rfl]; exact Nat.pow_le_pow_right (by omega) (by omega)))

theorem andNot_bit (x y : Int) (hx : 0 ≤ x ∧ x ≤ 255) (hy : 0 ≤ y ∧ y ≤ 255) (m : Nat) (hm : m < 8) : (bits .andNot .u8 x y).toNat.testBit m = (x.toNat.testBit m && !y.toNat.testBit m) := by
  rw [u8_andNot x y hx.1 (by omega) hy.1 (by omega), Int.toNat_natCast, Nat.testBit_and]
  have e : 255 - y.toNat = 2 ^ 8 - (y.toNat + 1) := by omega
  rw [e, Nat.testBit_two_pow_sub_succ (by omega)]
  simp [hm]

theorem andNot_rng (x y : Int) (hx : 0 ≤ x ∧ x ≤ 255) (hy : 0 ≤ y ∧ y ≤ 255) : 0 ≤ bits .andNot .u8 x y ∧ bits .andNot .u8 x y < 256 := by
  rw [u8_andNot x y hx.1 (by omega) hy.1 (by omega)]
  have : x.toNat &&& (255 - y.toNat) ≤ x.toNat := Nat.and_le_left
  omega

theorem andNot_iff (x y : Int) (hx : 0 ≤ x ∧ x ≤ 255) (hy : 0 ≤ y ∧ y ≤ 255) : (bits .andNot .u8 x y != 0) = true ↔ ∃ m, m < 8 ∧ x.toNat.testBit m = true ∧ y.toNat.testBit m = false := by
  have hr := andNot_rng x y hx hy
  constructor
  · intro h
    have hne : bits .andNot .u8 x y ≠ 0 := by simpa using h
    apply Classical.byContradiction
    intro hno
    apply hne
    have : (bits .andNot .u8 x y).toNat = 0 := byte_zero _ (by omega) fun m hm => by
      rw [andNot_bit x y hx hy m hm]
      cases h1 : x.toNat.testBit m <;> cases h2 : y.toNat.testBit m <;> simp
      exact hno ⟨m, hm, h1, h2⟩
    omega
  · rintro ⟨m, hm, h1, h2⟩
    have := andNot_bit x y hx hy m hm
    rw [h1, h2] at this
    simp
    intro h0
    rw [h0] at this
    simp at this

theorem bit_lt {l : List Int} {i : Nat} (h : bitB l i = true) : i / 8 < l.length := by
  apply Classical.byContradiction
  intro hn
  rw [bitB, List.getD, List.getElem?_eq_none (by omega)] at h
  simp at h

theorem getD_out {l : List Int} {i : Nat} (h : l.length ≤ i) : l.getD i 0 = 0 := by simp [List.getD, h]

theorem names_iff {s h : List Int} (hv : validB s = true) (hs : byt s) (hh : byt h) : namesB s h = true ↔ ∃ i, bitB s i = true ∧ bitB h i = false := by
  constructor
  · intro hn
    by_cases hlt : h.length < s.length
    · have hv' : lastB s ≠ 0 := by simp [validB] at hv; rcases hv with h | h; · simp [h] at hlt
                                   · exact h
      have hx := hs (s.length - 1)
      have : ∃ m, m < 8 ∧ (lastB s).toNat.testBit m = true := by
        apply Classical.byContradiction
        intro hno
        apply hv'
        have : (lastB s).toNat = 0 := byte_zero _ (by unfold lastB; omega) fun m hm => by
          cases h1 : (lastB s).toNat.testBit m
          · rfl
          · exact absurd ⟨m, hm, h1⟩ hno
        unfold lastB at this ⊢
        omega
      obtain ⟨m, hm, hb⟩ := this
      refine ⟨8 * (s.length - 1) + m, ?_, ?_⟩
      · rw [bitB, show (8 * (s.length - 1) + m) / 8 = s.length - 1 by omega, show (8 * (s.length - 1) + m) % 8 = m by omega]
        exact hb
      · rw [bitB, show (8 * (s.length - 1) + m) / 8 = s.length - 1 by omega, getD_out (by omega)]
        simp
    · have hsub : subB s h = false := by simpa [namesB, hlt] using hn
      rw [← Bool.not_eq_true, subB, List.all_eq_true] at hsub
      simp only [Classical.not_forall] at hsub
      obtain ⟨k, hk, hne⟩ := hsub
      have hne' : (bits .andNot .u8 (s.getD k 0) (h.getD k 0) != 0) = true := by simpa using hne
      obtain ⟨m, hm, h1, h2⟩ := (andNot_iff _ _ (hs k) (hh k)).1 hne'
      refine ⟨8 * k + m, ?_, ?_⟩
      · rw [bitB, show (8 * k + m) / 8 = k by omega, show (8 * k + m) % 8 = m by omega]; exact h1
      · rw [bitB, show (8 * k + m) / 8 = k by omega, show (8 * k + m) % 8 = m by omega]; exact h2
  · rintro ⟨i, h1, h2⟩
    have hi := bit_lt h1
    have := sub_hit (h := h) hi ((andNot_iff _ _ (hs _) (hh _)).2 ⟨i % 8, by omega, h1, h2⟩)
    simp [namesB, this]

/-- the loop's answer behind n rounds -/
def wantB (s h : List Int) (n : Nat) : Bool := (List.range n).any fun i => bitB s i && !bitB h i
theorem want_succ (s h : List Int) (n : Nat) : wantB s h (n + 1) = (wantB s h n || (bitB s n && !bitB h n)) := by simp [wantB, List.range_succ]
theorem want_all {s h : List Int} (hv : validB s = true) (hs : byt s) (hh : byt h) : wantB s h (8 * s.length) = namesB s h := by
  rw [Bool.eq_iff_iff, names_iff hv hs hh, wantB, List.any_eq_true]
  constructor
  · rintro ⟨i, _, h⟩
    simp at h
    exact ⟨i, h.1, h.2⟩
  · rintro ⟨i, h1, h2⟩
    have := bit_lt h1
    exact ⟨i, by simp; omega, by simp [h1, h2]⟩

/-! ### THE WALK -/
theorem law4_big (a a' : Option Addr) (n c n' c' : Nat) (w : World) (hm : n ≤ maxLen) (hm' : n' ≤ maxLen) (h : 524288 < n ∨ 524288 < n') :
    Calls Try.prog 4 #[.slice a n c, .slice a' n' c'] w fun e w' => e = .returned (.bool true) ∧ Below w.heap.size w w' := by
  unfold maxLen at hm hm'
  rcases h with h | h
  · go_enter Try.func4, Try.ntmps4
    go_wp2
    all_goals (go_ret; exact ⟨rfl, Below.refl _ _⟩)
  · by_cases h2 : n ≤ 524288
    · go_enter Try.func4, Try.ntmps4
      go_wp2
      all_goals (go_ret; exact ⟨rfl, Below.refl _ _⟩)
    · go_enter Try.func4, Try.ntmps4
      go_wp2
      all_goals (go_ret; exact ⟨rfl, Below.refl _ _⟩)

theorem law4_bad {w : World} {a a' : Option Addr} {l h : List Int} (c c' : Nat) (hr : Rd .u8 w a l) (hm : l.length ≤ 524288) (hm' : h.length ≤ 524288) (hv : validB l = false) :
    Calls Try.prog 4 #[.slice a l.length c, .slice a' h.length c'] w fun e w' => e = .returned (.bool true) ∧ Below w.heap.size w w' := by
  go_enter Try.func4, Try.ntmps4
  go_wp2_with (first | (go_at_call 9; refine (zzValidSet_any _ hr (by omega)).mono ?_; rintro e w' ⟨rfl, rfl⟩) | go_in)
  go_ret
  exact ⟨rfl, Below.refl _ _⟩

set_option maxHeartbeats 400000 in
theorem law4_main {w : World} {a a' : Option Addr} {l h : List Int} (c c' : Nat) (hr : Rd .u8 w a l) (hr' : Rd .u8 w a' h) (hn : a = none → l = []) (hn' : a' = none → h = []) (hs : byt l) (hh : byt h) (hm : l.length ≤ 524288) (hm' : h.length ≤ 524288) (hv : validB l = true) :
    Calls Try.prog 4 #[.slice a l.length c, .slice a' h.length c'] w fun e w' => e = .returned (.bool true) ∧ Below w.heap.size w w' := by
  have HV : Hid (wantB l h (8 * l.length) = namesB l h) := want_all hv hs hh
  go_enter Try.func4, Try.ntmps4
  go_wp2_with (first | (go_at_call 9; refine (zzValidSet_any _ hr (by omega)).mono ?_; rintro e w' ⟨rfl, rfl⟩) | (go_at_call 15; go_in) | fail)
  refine (clone_any _ hr hn (by omega)).mono ?_
  rintro e w1 ⟨a1, c1, rfl, r1, n1, b1⟩
  have hr1 := hr'.below b1 (Nat.le_refl _)
  clear n1 hr hr' hn
  go_wp2_with fail
  refine (clone_any _ hr1 hn' (by omega)).mono ?_
  rintro e w2 ⟨a2, c2, rfl, r2, n2, b2⟩
  have bb : Below w.heap.size w w2 := b1.trans (b2.mono b1.size)
  replace r1 := r1.below b2 (Nat.le_refl _)
  clear n2 hr1 b1 b2 hn'
  go_wp2_with fail
  refine (mkSet_any _ _ _ _ rfl _).mono ?_
  rintro e w3 ⟨rfl, b3⟩
  replace r1 := r1.below b3 (Nat.le_refl _)
  replace r2 := r2.below b3 (Nat.le_refl _)
  replace bb := bb.trans (b3.mono bb.size)
  clear b3
  go_wp2_with fail
  refine (mkSet_any _ _ _ _ rfl _).mono ?_
  rintro e w4 ⟨rfl, b3⟩
  replace r1 := r1.below b3 (Nat.le_refl _)
  replace r2 := r2.below b3 (Nat.le_refl _)
  replace bb := bb.trans (b3.mono bb.size)
  clear b3
  go_wp2_with fail
  refine (zzNames_any _ _ r1 r2 (by omega)).mono ?_
  rintro e w5 ⟨rfl, b3⟩
  replace r1 := r1.below b3 (Nat.le_refl _)
  replace r2 := r2.below b3 (Nat.le_refl _)
  replace bb := bb.trans (b3.mono bb.size)
  clear b3
  go_wp2_with fail
  go_loop [6, 7] (fun v i => ∃ k : Nat, k ≤ 8 * l.length ∧ v = .bool (wantB l h k) ∧ i = .int .i64 ((k : Int) + 1)) (fun _ i => 8 * l.length + 1 - (intOf i).toNat)
  case atStart => exact ⟨0, Nat.zero_le _, rfl, rfl⟩
  case round =>
    obtain ⟨k, hk, rfl, rfl⟩ := hrel
    have HS : Hid (wantB l h (k + 1) = (wantB l h k || (bitB l k && !bitB h k))) := want_succ l h k
    by_cases hlt : k < 8 * l.length
    · by_cases h1 : bitB l k = true
      · by_cases h2 : bitB h k = true
        · go_wp2_with fail
          refine (holds_any _ k r1 hs (by omega) (by omega)).mono ?_
          rintro e w' ⟨rfl, rfl⟩
          go_wp2_with fail
          refine (holds_any _ k r2 hh (by omega) (by omega)).mono ?_
          rintro e w' ⟨rfl, rfl⟩
          go_wp2
          go_round
          case rel => exact ⟨k + 1, by omega, by rw [HS.out]; simp [h1, h2], by go_num⟩
          case measure => simp [intOf]; omega
        · replace h2 : bitB h k = false := by simpa using h2
          go_wp2_with fail
          refine (holds_any _ k r1 hs (by omega) (by omega)).mono ?_
          rintro e w' ⟨rfl, rfl⟩
          go_wp2_with fail
          refine (holds_any _ k r2 hh (by omega) (by omega)).mono ?_
          rintro e w' ⟨rfl, rfl⟩
          go_wp2
          go_round
          case rel => exact ⟨k + 1, by omega, by rw [HS.out]; simp [h1, h2], by go_num⟩
          case measure => simp [intOf]; omega
      · replace h1 : bitB l k = false := by simpa using h1
        go_wp2_with fail
        refine (holds_any _ k r1 hs (by omega) (by omega)).mono ?_
        rintro e w' ⟨rfl, rfl⟩
        go_wp2
        go_round
        case rel => exact ⟨k + 1, by omega, by rw [HS.out]; simp [h1], by go_num⟩
        case measure => simp [intOf]; omega
    · obtain rfl : k = 8 * l.length := by omega
      go_wp2
      go_ret
      refine ⟨?_, bb⟩
      rw [HV.out]
      simp
end Go.Proofs.Qxb6605220a
