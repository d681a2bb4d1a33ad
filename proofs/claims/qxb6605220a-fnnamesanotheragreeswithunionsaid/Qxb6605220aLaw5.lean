import Derived.Test.Qxb6605220aSame
namespace Go.Proofs.Qxb6605220a
open Go.ChangeShapes Go.WideShapes Go.ChangeAt Go.RowKit

theorem law5_big (a a' : Option Addr) (n c n' c' : Nat) (w : World) (hm : n ≤ maxLen) (hm' : n' ≤ maxLen) (h : 524288 < n ∨ 524288 < n') :
    Calls Try.prog 5 #[.slice a n c, .slice a' n' c'] w fun e w' => e = .returned (.bool true) ∧ Below w.heap.size w w' := by
  unfold maxLen at hm hm'
  rcases h with h | h
  · go_enter Try.func5, Try.ntmps5
    go_wp2
    all_goals (go_ret; exact ⟨rfl, Below.refl _ _⟩)
  · by_cases h2 : n ≤ 524288
    · go_enter Try.func5, Try.ntmps5
      go_wp2
      all_goals (go_ret; exact ⟨rfl, Below.refl _ _⟩)
    · go_enter Try.func5, Try.ntmps5
      go_wp2
      all_goals (go_ret; exact ⟨rfl, Below.refl _ _⟩)

theorem law5_bad {w : World} {a a' : Option Addr} {l h : List Int} (c c' : Nat) (hr : Rd .u8 w a l) (hm : l.length ≤ 524288) (hm' : h.length ≤ 524288) (hv : validB l = false) :
    Calls Try.prog 5 #[.slice a l.length c, .slice a' h.length c'] w fun e w' => e = .returned (.bool true) ∧ Below w.heap.size w w' := by
  go_enter Try.func5, Try.ntmps5
  go_wp2_with (first | (go_at_call 17; go_in) | fail)
  refine (zzValidSet_any _ hr (by omega)).mono ?_
  rintro e w' ⟨rfl, rfl⟩
  go_wp2
  go_ret
  exact ⟨rfl, Below.refl _ _⟩

theorem law5_bad' {w : World} {a a' : Option Addr} {l h : List Int} (c c' : Nat) (hr : Rd .u8 w a l) (hr' : Rd .u8 w a' h) (hm : l.length ≤ 524288) (hm' : h.length ≤ 524288) (hv : validB l = true) (hv' : validB h = false) :
    Calls Try.prog 5 #[.slice a l.length c, .slice a' h.length c'] w fun e w' => e = .returned (.bool true) ∧ Below w.heap.size w w' := by
  go_enter Try.func5, Try.ntmps5
  go_wp2_with (first | (go_at_call 17; go_in) | fail)
  refine (zzValidSet_any _ hr (by omega)).mono ?_
  rintro e w' ⟨rfl, rfl⟩
  go_wp2_with fail
  refine (zzValidSet_any _ hr' (by omega)).mono ?_
  rintro e w' ⟨rfl, rfl⟩
  go_wp2
  go_ret
  exact ⟨rfl, Below.refl _ _⟩

set_option maxHeartbeats 800000 in
theorem law5_main {w : World} {a a' : Option Addr} {l h : List Int} (c c' : Nat) (hr : Rd .u8 w a l) (hr' : Rd .u8 w a' h) (hn : a = none → l = []) (hn' : a' = none → h = []) (hs : byt l) (hh : byt h) (hm : l.length ≤ 524288) (hm' : h.length ≤ 524288) (hv : validB l = true) (hv' : validB h = true) :
    Calls Try.prog 5 #[.slice a l.length c, .slice a' h.length c'] w fun e w' => e = .returned (.bool true) ∧ Below w.heap.size w w' := by
  have HG : Hid (namesB l h = !decide (unionL h l = h)) := names_grew hv hv' hs hh
  have HU : Hid (namesB l (unionL h l) = false) := names_union hv hs hh
  have HL : Hid ((unionL h l).length = max h.length l.length) := unionL_length h l
  go_enter Try.func5, Try.ntmps5
  go_wp2_with (first | (go_at_call 17; go_in) | fail)
  refine (zzValidSet_any _ hr (by omega)).mono ?_
  rintro e w' ⟨rfl, rfl⟩
  go_wp2_with fail
  refine (zzValidSet_any _ hr' (by omega)).mono ?_
  rintro e w' ⟨rfl, rfl⟩
  go_wp2_with fail
  refine (clone_any _ hr hn (by omega)).mono ?_
  rintro e w1 ⟨a1, c1, rfl, r1, n1, b1⟩
  have hr1 := hr'.below b1 (Nat.le_refl _)
  have m1 : a1 = none → l = [] := fun h => hn (n1.1 h)
  clear n1 hr hr' hn
  go_wp2_with fail
  refine (clone_any _ hr1 hn' (by omega)).mono ?_
  rintro e w2 ⟨a2, c2, rfl, r2, n2, b2⟩
  have bb : Below w.heap.size w w2 := b1.trans (b2.mono b1.size)
  have m2 : a2 = none → h = [] := fun h => hn' (n2.1 h)
  replace r1 := r1.below b2 (Nat.le_refl _)
  clear n2 hr1 b1 b2 hn'
  go_wp2_with fail
  refine (mkSet_any _ _ _ _ rfl _).mono ?_
  rintro e w3 ⟨rfl, b3⟩
  replace r1 := r1.below b3 (Nat.le_refl _)
  replace r2 := r2.below b3 (Nat.le_refl _)
  replace bb := bb.trans (b3.mono bb.size)
  clear b3
  go_wp2_with fail
  refine (mkSet_any _ _ _ _ rfl _).mono ?_
  rintro e w3 ⟨rfl, b3⟩
  replace r1 := r1.below b3 (Nat.le_refl _)
  replace r2 := r2.below b3 (Nat.le_refl _)
  replace bb := bb.trans (b3.mono bb.size)
  clear b3
  go_wp2_with fail
  refine (zzNames_any _ _ r1 r2 (by omega)).mono ?_
  rintro e w5 ⟨rfl, b3⟩
  replace r1 := r1.below b3 (Nat.le_refl _)
  replace r2 := r2.below b3 (Nat.le_refl _)
  replace bb := bb.trans (b3.mono bb.size)
  rw [HG.out]
  clear b3
  go_wp2_with fail
  refine (mkSet_any _ _ _ _ rfl _).mono ?_
  rintro e w3 ⟨rfl, b3⟩
  replace r1 := r1.below b3 (Nat.le_refl _)
  replace r2 := r2.below b3 (Nat.le_refl _)
  replace bb := bb.trans (b3.mono bb.size)
  clear b3
  go_wp2_with fail
  refine (mkSet_any _ _ _ _ rfl _).mono ?_
  rintro e w3 ⟨rfl, b3⟩
  replace r1 := r1.below b3 (Nat.le_refl _)
  replace r2 := r2.below b3 (Nat.le_refl _)
  replace bb := bb.trans (b3.mono bb.size)
  clear b3
  go_wp2_with fail
  refine (zzUnion_any _ _ r2 r1 m2 m1 (by omega) (by omega)).mono ?_
  rintro e w5 ⟨a3, c3, rfl, r3, m3, b3⟩
  replace r1 := r1.below b3 (Nat.le_refl _)
  replace r2 := r2.below b3 (Nat.le_refl _)
  replace bb := bb.trans (b3.mono bb.size)
  clear b3 m1 m2 m3 HG
  go_wp2_with fail
  refine (bitmap_any _ _ _ _).mono ?_
  rintro e w6 ⟨rfl, b3⟩
  replace r1 := r1.below b3 (Nat.le_refl _)
  replace r2 := r2.below b3 (Nat.le_refl _)
  replace r3 := r3.below b3 (Nat.le_refl _)
  replace bb := bb.trans (b3.mono bb.size)
  clear b3
  have hml : (unionL h l).length ≤ 524288 := by have := HL.out; omega
  clear HL
  generalize unionL h l = u at *
  go_wp2_with fail
  refine (same_any _ _ r3 r2 (by omega)).mono ?_
  rintro e w7 ⟨rfl, b3⟩
  replace r1 := r1.below b3 (Nat.le_refl _)
  replace r2 := r2.below b3 (Nat.le_refl _)
  replace r3 := r3.below b3 (Nat.le_refl _)
  replace bb := bb.trans (b3.mono bb.size)
  clear b3
  go_wp2_with fail
  refine (mkSet_any _ _ _ _ rfl _).mono ?_
  rintro e w3 ⟨rfl, b3⟩
  replace r1 := r1.below b3 (Nat.le_refl _)
  replace r2 := r2.below b3 (Nat.le_refl _)
  replace bb := bb.trans (b3.mono bb.size)
  replace r3 := r3.below b3 (Nat.le_refl _)
  clear b3
  go_wp2_with fail
  refine (mkSet_any _ _ _ _ rfl _).mono ?_
  rintro e w3 ⟨rfl, b3⟩
  replace r1 := r1.below b3 (Nat.le_refl _)
  replace r2 := r2.below b3 (Nat.le_refl _)
  replace bb := bb.trans (b3.mono bb.size)
  replace r3 := r3.below b3 (Nat.le_refl _)
  clear b3
  go_wp2_with fail
  refine (zzNames_any _ _ r1 r3 (by omega)).mono ?_
  rintro e w8 ⟨rfl, b3⟩
  replace bb := bb.trans (b3.mono bb.size)
  rw [HU.out]
  clear b3
  go_wp2
  go_ret
  exact ⟨rfl, bb⟩
end Go.Proofs.Qxb6605220a
