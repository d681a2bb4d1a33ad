import Derived.Test.Qxb6605220aPlain
import Derived.Deep.QuietTactic
import Derived.BigQuiet
import Derived.WalkSmall
namespace Go.Proofs.Qxb6605220a
open Go.ChangeShapes Go.WideShapes Go.ChangeAt Go.RowKit

/-! ### zzSameContent -/
theorem same_len (a a' : Option Addr) (n c n' c' : Nat) (w : World) (h : ((n : Int) == (n' : Int)) = false) :
    Calls Try.prog 18 #[.slice a n c, .slice a' n' c'] w fun e w' => e = .returned (.bool false) ∧ Below w.heap.size w w' := by
  go_enter Try.func18, Try.ntmps18
  go_wp2
  go_ret
  exact ⟨rfl, Below.refl _ _⟩

theorem same_empty (a a' : Option Addr) (c c' : Nat) (w : World) :
    Calls Try.prog 18 #[.slice a 0 c, .slice a' 0 c'] w fun e w' => e = .returned (.bool true) ∧ Below w.heap.size w w' := by
  go_enter Try.func18, Try.ntmps18
  go_wp2
  refine wp_loop_rounds 1 ?_
  rw [rounds_succ]
  go_wp2
  go_ret
  exact ⟨rfl, Below.refl _ _⟩

theorem eq_of_getD {l h : List Int} (hl : l.length = h.length) (H : ∀ j, j < l.length → l.getD j 0 = h.getD j 0) : l = h := by
  apply List.ext_getElem hl
  intro i h1 h2
  have := H i h1
  simpa [List.getD, h1, h2] using this

set_option maxHeartbeats 400000 in
theorem same_loop (b o c b' o' c' : Nat) (l h : List Int) (w : World) (hlen : l.length = h.length) (hm : h.length ≤ 1048576) (hb : b < w.heap.size) (hb' : b' < w.heap.size)
    (hc : ∀ i, i < l.length → w.cell? ⟨b, o + i, none⟩ = some (.int .u8 (l.getD i 0))) (hc' : ∀ i, i < l.length → w.cell? ⟨b', o' + i, none⟩ = some (.int .u8 (h.getD i 0))) :
    Calls Try.prog 18 #[.slice (some ⟨b, o, none⟩) l.length c, .slice (some ⟨b', o', none⟩) l.length c'] w fun e w' => e = .returned (.bool (decide (l = h))) ∧ Below w.heap.size w w' := by
  have HL : Hid (l.length = h.length) := hlen
  rw [← hlen] at hm
  clear hlen
  go_enter Try.func18, Try.ntmps18
  go_wp2
  go_loopw [5] (fun i wr => ∃ k : Nat, k ≤ l.length ∧ i = .int .i64 k ∧ Hid (∀ j, j < k → l.getD j 0 = h.getD j 0) ∧ Below w.heap.size w wr) (fun i _ => l.length - (intOf i).toNat)
  case atStart => exact ⟨0, Nat.zero_le _, rfl, fun j hj => by omega, Below.refl _ _⟩
  case round =>
    obtain ⟨k, hk, rfl, H, bel⟩ := hrel
    by_cases hlt : k < l.length
    · have g : wr.cell? ⟨b, o + k, none⟩ = some (.int .u8 (l.getD k 0)) := (bel.cell (by exact hb)).trans (hc k hlt)
      have g' : wr.cell? ⟨b', o' + k, none⟩ = some (.int .u8 (h.getD k 0)) := (bel.cell (by exact hb')).trans (hc' k hlt)
      have HX : Hid ((l.getD k 0 = h.getD k 0 → ∀ j, j < k + 1 → l.getD j 0 = h.getD j 0) ∧ (l.getD k 0 ≠ h.getD k 0 → l ≠ h)) := by
        refine ⟨fun e j hj => ?_, fun hne e => hne (by rw [e])⟩
        by_cases ej : j = k
        · subst ej; exact e
        · exact H.out j (by omega)
      clear hc hc' H
      have i1 : (k : Int) < (l.length : Int) := by omega
      generalize l.getD k 0 = x at g HX
      generalize h.getD k 0 = y at g' HX
      by_cases ht : x = y
      · have ht' : (x != y) = false := by simp [ht]
        have HE : Hid (x = y) := ht
        clear ht
        go_wp2
        go_quiet (fail)
        go_wp2
        go_roundw
        case rel => exact ⟨k + 1, by omega, by go_num, HX.out.1 HE.out, below_drewN bel _⟩
        case measure => simp [intOf]; omega
      · have ht' : (x != y) = true := by simp [ht]
        have hne := HX.out.2 ht
        clear ht
        go_wp2
        go_quiet (fail)
        go_wp2
        go_ret
        exact ⟨by simp [hne], below_drewN bel _⟩
    · obtain rfl : k = l.length := by omega
      have e := eq_of_getD HL.out H.out
      clear H hc hc'
      go_wp2
      go_ret
      exact ⟨by simp [e], bel⟩

theorem same_any {w : World} {a a' : Option Addr} {l h : List Int} (c c' : Nat) (hr : Rd .u8 w a l) (hr' : Rd .u8 w a' h) (hm : h.length ≤ 1048576) :
    Calls Try.prog 18 #[.slice a l.length c, .slice a' h.length c'] w fun e w' => e = .returned (.bool (decide (l = h))) ∧ Below w.heap.size w w' := by
  by_cases hlen : l.length = h.length
  · by_cases hl : l = []
    · subst hl
      obtain rfl : h = [] := List.eq_nil_of_length_eq_zero hlen.symm
      exact same_empty a a' c c' w
    · rcases hr with hr | ⟨b, o, rfl, hb, hc⟩
      · exact absurd hr hl
      · rcases hr' with rfl | ⟨b', o', rfl, hb', hc'⟩
        · exact absurd (List.eq_nil_of_length_eq_zero hlen) hl
        · have := same_loop b o c b' o' c' l h w hlen hm hb hb' hc (by rw [hlen]; exact hc')
          rw [← hlen]
          exact this
  · have : decide (l = h) = false := by simp; rintro rfl; exact hlen rfl
    rw [this]
    exact same_len a a' _ c _ c' w (by simp only [beq_eq_false_iff_ne]; omega)

/-! ### The plain laws -/
theorem byte_ext {x y : Int} (hx : 0 ≤ x ∧ x ≤ 255) (hy : 0 ≤ y ∧ y ≤ 255) (H : ∀ m, m < 8 → x.toNat.testBit m = y.toNat.testBit m) : x = y := by
  have : x.toNat = y.toNat := by
    apply Nat.eq_of_testBit_eq
    intro i
    by_cases hi : i < 8
    · exact H i hi
    · have h8 : (256 : Nat) ≤ 2 ^ i := by
        rw [show (256 : Nat) = 2 ^ 8 from rfl]
        exact Nat.pow_le_pow_right (by omega) (by omega)
      rw [Nat.testBit_lt_two_pow (by omega), Nat.testBit_lt_two_pow (by omega)]
  omega

/-- Two bitmaps in their documented form that hold the same bits are one. -/
theorem canon {l h : List Int} (hl : byt l) (hh : byt h) (vl : validB l = true) (vh : validB h = true) (H : ∀ i, bitB l i = bitB h i) : l = h := by
  have hg : ∀ k, l.getD k 0 = h.getD k 0 := fun k => byte_ext (hl k) (hh k) fun m hm => by
    have := H (8 * k + m)
    unfold bitB at this
    rwa [show (8 * k + m) / 8 = k by omega, show (8 * k + m) % 8 = m by omega] at this
  rw [valid_iff] at vl vh
  have hlen : l.length = h.length := by
    rcases Nat.lt_trichotomy l.length h.length with hlt | he | hgt
    · rcases vh with v | v
      · omega
      · exact absurd ((hg _).symm.trans (getD_out (by omega))) v
    · exact he
    · rcases vl with v | v
      · omega
      · exact absurd ((hg _).trans (getD_out (by omega))) v
  exact eq_of_getD hlen fun j _ => hg j

theorem names_false {s h : List Int} (hv : validB s = true) (hs : byt s) (hh : byt h) (H : ∀ i, bitB s i = true → bitB h i = true) : namesB s h = false := by
  rw [← Bool.not_eq_true, names_iff hv hs hh]
  rintro ⟨i, h1, h2⟩
  rw [H i h1] at h2
  cases h2

theorem names_no {s h : List Int} (hv : validB s = true) (hs : byt s) (hh : byt h) (H : namesB s h = false) : ∀ i, bitB s i = true → bitB h i = true := by
  intro i h1
  rw [← Bool.not_eq_true, names_iff hv hs hh] at H
  cases h2 : bitB h i
  · exact absurd ⟨i, h1, h2⟩ H
  · rfl

/-- s names a replica beyond held exactly when union(held, s) is another than held -/
theorem names_grew {s h : List Int} (vs : validB s = true) (vh : validB h = true) (hs : byt s) (hh : byt h) : namesB s h = !decide (unionL h s = h) := by
  cases hn : namesB s h
  · have hsub := names_no vs hs hh hn
    have : unionL h s = h := canon (unionL_byt hh hs) hh (unionL_valid hh hs vh vs) vh fun i => by
      rw [unionL_bit hh hs]
      cases h1 : bitB s i
      · simp
      · simp [hsub i h1]
    simp [this]
  · have : unionL h s ≠ h := by
      intro e
      have := names_false vs hs hh fun i h1 => by
        rw [← e, unionL_bit hh hs, h1]; simp
      rw [hn] at this
      cases this
    simp [this]

theorem names_union {s h : List Int} (vs : validB s = true) (hs : byt s) (hh : byt h) : namesB s (unionL h s) = false :=
  names_false vs hs (unionL_byt hh hs) fun i h1 => by rw [unionL_bit hh hs, h1]; simp
end Go.Proofs.Qxb6605220a
