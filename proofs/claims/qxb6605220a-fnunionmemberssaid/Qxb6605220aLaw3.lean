import Derived.Test.Qxb6605220aPlain
namespace Go.Proofs.Qxb6605220a
open Go.ChangeShapes Go.WideShapes Go.ChangeAt Go.RowKit

theorem law3_big (a a' : Option Addr) (n c n' c' : Nat) (w : World) (hm : n ≤ maxLen) (hm' : n' ≤ maxLen) (h : 524288 < n ∨ 524288 < n') :
    Calls Try.prog 3 #[.slice a n c, .slice a' n' c'] w fun e w' => e = .returned (.bool true) ∧ Below w.heap.size w w' := by
  unfold maxLen at hm hm'
  rcases h with h | h
  · go_enter Try.func3, Try.ntmps3
    go_wp2
    all_goals (go_ret; exact ⟨rfl, Below.refl _ _⟩)
  · by_cases h2 : n ≤ 524288
    · go_enter Try.func3, Try.ntmps3
      go_wp2
      all_goals (go_ret; exact ⟨rfl, Below.refl _ _⟩)
    · go_enter Try.func3, Try.ntmps3
      go_wp2
      all_goals (go_ret; exact ⟨rfl, Below.refl _ _⟩)

theorem law3_bad {w : World} {a a' : Option Addr} {l h : List Int} (c c' : Nat) (hr : Rd .u8 w a l) (hm : l.length ≤ 524288) (hm' : h.length ≤ 524288) (hv : validB l = false) :
    Calls Try.prog 3 #[.slice a l.length c, .slice a' h.length c'] w fun e w' => e = .returned (.bool true) ∧ Below w.heap.size w w' := by
  go_enter Try.func3, Try.ntmps3
  go_wp2_with (first | (go_at_call 8; go_in) | fail)
  refine (zzValidSet_any _ hr (by omega)).mono ?_
  rintro e w' ⟨rfl, rfl⟩
  go_wp2
  go_ret
  exact ⟨rfl, Below.refl _ _⟩

theorem law3_bad' {w : World} {a a' : Option Addr} {l h : List Int} (c c' : Nat) (hr : Rd .u8 w a l) (hr' : Rd .u8 w a' h) (hm : l.length ≤ 524288) (hm' : h.length ≤ 524288) (hv : validB l = true) (hv' : validB h = false) :
    Calls Try.prog 3 #[.slice a l.length c, .slice a' h.length c'] w fun e w' => e = .returned (.bool true) ∧ Below w.heap.size w w' := by
  go_enter Try.func3, Try.ntmps3
  go_wp2_with (first | (go_at_call 8; go_in) | fail)
  refine (zzValidSet_any _ hr (by omega)).mono ?_
  rintro e w' ⟨rfl, rfl⟩
  go_wp2_with fail
  refine (zzValidSet_any _ hr' (by omega)).mono ?_
  rintro e w' ⟨rfl, rfl⟩
  go_wp2
  go_ret
  exact ⟨rfl, Below.refl _ _⟩

set_option maxHeartbeats 800000 in
theorem law3_main {w : World} {a a' : Option Addr} {l h : List Int} (c c' : Nat) (hr : Rd .u8 w a l) (hr' : Rd .u8 w a' h) (hn : a = none → l = []) (hn' : a' = none → h = []) (hs : byt l) (hh : byt h) (hm : l.length ≤ 524288) (hm' : h.length ≤ 524288) (hv : validB l = true) (hv' : validB h = true) :
    Calls Try.prog 3 #[.slice a l.length c, .slice a' h.length c'] w fun e w' => e = .returned (.bool true) ∧ Below w.heap.size w w' := by
  have HV : Hid (validB (unionL l h) = true) := unionL_valid hs hh hv hv'
  have HB : Hid (∀ i, bitB (unionL l h) i = (bitB l i || bitB h i)) := unionL_bit hs hh
  have HL : Hid ((unionL l h).length = max l.length h.length) := unionL_length l h
  have hu : byt (unionL l h) := unionL_byt hs hh
  go_enter Try.func3, Try.ntmps3
  go_wp2_with (first | (go_at_call 8; go_in) | fail)
  refine (zzValidSet_any _ hr (by omega)).mono ?_
  rintro e w' ⟨rfl, rfl⟩
  go_wp2_with fail
  refine (zzValidSet_any _ hr' (by omega)).mono ?_
  rintro e w' ⟨rfl, rfl⟩
  go_wp2_with fail
  refine (clone_any _ hr hn (by omega)).mono ?_
  rintro e w1 ⟨a1, c1, rfl, r1, n1, b1⟩
  have hr1 := hr'.below b1 (Nat.le_refl _)
  have m1 : a1 = none → l = [] := fun h => hn (n1.1 h)
  clear n1 hr hr' hn
  go_wp2_with fail
  refine (clone_any _ hr1 hn' (by omega)).mono ?_
  rintro e w2 ⟨a2, c2, rfl, r2, n2, b2⟩
  have bb : Below w.heap.size w w2 := b1.trans (b2.mono b1.size)
  have m2 : a2 = none → h = [] := fun h => hn' (n2.1 h)
  replace r1 := r1.below b2 (Nat.le_refl _)
  clear n2 hr1 b1 b2 hn'
  go_wp2_with fail
  refine (mkSet_any _ _ _ _ rfl _).mono ?_
  rintro e w3 ⟨rfl, b3⟩
  replace r1 := r1.below b3 (Nat.le_refl _)
  replace r2 := r2.below b3 (Nat.le_refl _)
  replace bb := bb.trans (b3.mono bb.size)
  clear b3
  go_wp2_with fail
  refine (mkSet_any _ _ _ _ rfl _).mono ?_
  rintro e w4 ⟨rfl, b3⟩
  replace r1 := r1.below b3 (Nat.le_refl _)
  replace r2 := r2.below b3 (Nat.le_refl _)
  replace bb := bb.trans (b3.mono bb.size)
  clear b3
  go_wp2_with fail
  refine (zzUnion_any _ _ r1 r2 m1 m2 (by omega) (by omega)).mono ?_
  rintro e w5 ⟨a3, c3, rfl, r3, m3, b3⟩
  replace r1 := r1.below b3 (Nat.le_refl _)
  replace r2 := r2.below b3 (Nat.le_refl _)
  replace bb := bb.trans (b3.mono bb.size)
  clear b3 m1 m2 m3
  go_wp2_with fail
  refine (bitmap_any _ _ _ _).mono ?_
  rintro e w6 ⟨rfl, b3⟩
  replace r1 := r1.below b3 (Nat.le_refl _)
  replace r2 := r2.below b3 (Nat.le_refl _)
  replace r3 := r3.below b3 (Nat.le_refl _)
  replace bb := bb.trans (b3.mono bb.size)
  clear b3
  have hml : (unionL l h).length ≤ 524288 := by have := HL.out; omega
  go_wp2_with fail
  refine (zzValidSet_any _ r3 (by omega)).mono ?_
  rintro e w' ⟨rfl, rfl⟩
  rw [HV.out]
  generalize unionL l h = u at *
  by_cases hlt : l.length < h.length
  · have e1 : u.length = h.length := by have := HL.out; omega
    have e2 : ¬ h.length < u.length := by omega
    clear e1
    go_wp2_with fail
    go_loop [7] (fun i => ∃ k : Nat, k ≤ 8 * h.length ∧ i = .int .i64 ((k : Int) + 1)) (fun i => 8 * h.length + 1 - (intOf i).toNat)
    case atStart => exact ⟨0, Nat.zero_le _, rfl⟩
    case round =>
      obtain ⟨k, hk, rfl⟩ := hrel
      have HK := HB.out k
      by_cases hk2 : k < 8 * h.length
      · by_cases h1 : bitB l k = true
        · have hub : bitB u k = true := by rw [HK, h1]; rfl
          clear HK
          go_wp2_with fail
          refine (holds_any _ k r3 hu (by omega) (by omega)).mono ?_
          rintro e w' ⟨rfl, rfl⟩
          go_wp2_with fail
          refine (holds_any _ k r1 hs (by omega) (by omega)).mono ?_
          rintro e w' ⟨rfl, rfl⟩
          go_wp2
          go_round
          case rel => exact ⟨k + 1, by omega, by go_num⟩
          case measure => simp [intOf]; omega
        · replace h1 : bitB l k = false := by simpa using h1
          have hub : bitB u k = bitB h k := by rw [HK, h1]; rfl
          clear HK
          generalize hx : bitB h k = x at hub
          go_wp2_with fail
          refine (holds_any _ k r3 hu (by omega) (by omega)).mono ?_
          rintro e w' ⟨rfl, rfl⟩
          go_wp2_with fail
          refine (holds_any _ k r1 hs (by omega) (by omega)).mono ?_
          rintro e w' ⟨rfl, rfl⟩
          go_wp2_with fail
          refine (holds_any _ k r2 hh (by omega) (by omega)).mono ?_
          rintro e w' ⟨rfl, rfl⟩
          go_wp2
          go_round
          case rel => exact ⟨k + 1, by omega, by go_num⟩
          case measure => simp [intOf]; omega
      · obtain rfl : k = 8 * h.length := by omega
        go_wp2
        go_ret
        exact ⟨rfl, bb⟩
  · have e1 : u.length = l.length := by have := HL.out; omega
    have e2 : ¬ l.length < u.length := by omega
    clear e1
    go_wp2_with fail
    go_loop [7] (fun i => ∃ k : Nat, k ≤ 8 * l.length ∧ i = .int .i64 ((k : Int) + 1)) (fun i => 8 * l.length + 1 - (intOf i).toNat)
    case atStart => exact ⟨0, Nat.zero_le _, rfl⟩
    case round =>
      obtain ⟨k, hk, rfl⟩ := hrel
      have HK := HB.out k
      by_cases hk2 : k < 8 * l.length
      · by_cases h1 : bitB l k = true
        · have hub : bitB u k = true := by rw [HK, h1]; rfl
          clear HK
          go_wp2_with fail
          refine (holds_any _ k r3 hu (by omega) (by omega)).mono ?_
          rintro e w' ⟨rfl, rfl⟩
          go_wp2_with fail
          refine (holds_any _ k r1 hs (by omega) (by omega)).mono ?_
          rintro e w' ⟨rfl, rfl⟩
          go_wp2
          go_round
          case rel => exact ⟨k + 1, by omega, by go_num⟩
          case measure => simp [intOf]; omega
        · replace h1 : bitB l k = false := by simpa using h1
          have hub : bitB u k = bitB h k := by rw [HK, h1]; rfl
          clear HK
          generalize hx : bitB h k = x at hub
          go_wp2_with fail
          refine (holds_any _ k r3 hu (by omega) (by omega)).mono ?_
          rintro e w' ⟨rfl, rfl⟩
          go_wp2_with fail
          refine (holds_any _ k r1 hs (by omega) (by omega)).mono ?_
          rintro e w' ⟨rfl, rfl⟩
          go_wp2_with fail
          refine (holds_any _ k r2 hh (by omega) (by omega)).mono ?_
          rintro e w' ⟨rfl, rfl⟩
          go_wp2
          go_round
          case rel => exact ⟨k + 1, by omega, by go_num⟩
          case measure => simp [intOf]; omega
      · obtain rfl : k = 8 * l.length := by omega
        go_wp2
        go_ret
        exact ⟨rfl, bb⟩
end Go.Proofs.Qxb6605220a
