import Derived.Test.Qxb6605220aBase
namespace Go.Proofs.Qxb6605220a
open Go.ChangeShapes Go.WideShapes Go.ChangeAt Go.RowKit

/-- bit i (from 0) of the bitmap l -/
def bitB (l : List Int) (i : Nat) : Bool := (l.getD (i / 8) 0).toNat.testBit (i % 8)

theorem bit_and (z : Int) (m : Nat) (hz : 0 ≤ z ∧ z ≤ 255) : (bits .and .u8 (z / 2 ^ m) 1 == 1) = z.toNat.testBit m := by
  obtain ⟨Z, rfl⟩ : ∃ Z : Nat, z = Z := ⟨z.toNat, by omega⟩
  have hlt : Z / 2 ^ m < 256 := Nat.lt_of_le_of_lt (Nat.div_le_self _ _) (by omega)
  have e : ((Z : Int) / 2 ^ m) = ((Z / 2 ^ m : Nat) : Int) := by simp
  rw [e, show (1 : Int) = ((1 : Nat) : Int) from rfl, u8_and_nat _ _ hlt (by omega), Nat.and_one_is_mod, Int.toNat_natCast, Nat.testBit_eq_decide_div_mod_eq]
  rw [Bool.eq_iff_iff]
  simp only [beq_iff_eq, decide_eq_true_eq]
  omega

theorem holds_in (b o n c : Nat) (i : Nat) (z : Int) (w : World) (h1 : 1 ≤ i) (hi : (i - 1) / 8 < n) (hm : n ≤ 1048576) (hz : 0 ≤ z ∧ z ≤ 255) (hc : w.cell? ⟨b, o + (i - 1) / 8, none⟩ = some (.int .u8 z)) :
    Calls Try.prog 14 #[.slice (some ⟨b, o, none⟩) n c, .int .i64 (i : Int)] w fun e w' => e = .returned (.bool (z.toNat.testBit ((i - 1) % 8))) ∧ w = w' := by
  rw [← bit_and z _ hz]
  go_enter Try.func14, Try.ntmps14
  go_wp2
  go_ret
  exact ⟨rfl, rfl⟩

theorem holds_out (a : Option Addr) (n c : Nat) (i : Nat) (w : World) (h1 : 1 ≤ i) (hi : n ≤ (i - 1) / 8) (hi2 : i ≤ 1000000000) :
    Calls Try.prog 14 #[.slice a n c, .int .i64 (i : Int)] w fun e w' => e = .returned (.bool false) ∧ w = w' := by
  go_enter Try.func14, Try.ntmps14
  go_wp2
  go_ret
  exact ⟨rfl, rfl⟩

theorem holds_any {w : World} {a : Option Addr} {l : List Int} (c i : Nat) (h : Rd .u8 w a l) (hb : byt l) (hm : l.length ≤ 1048576) (hi2 : i ≤ 100000000) :
    Calls Try.prog 14 #[.slice a l.length c, .int .i64 ((i : Int) + 1)] w fun e w' => e = .returned (.bool (bitB l i)) ∧ w = w' := by
  have e : ((i : Int) + 1) = ((i + 1 : Nat) : Int) := by omega
  rw [e]
  by_cases hi : i / 8 < l.length
  · rcases h with rfl | ⟨b, o, rfl, hlt, hc⟩
    · simp at hi
    · exact holds_in b o l.length c (i + 1) (l.getD (i / 8) 0) w (by omega) (by simpa using hi) hm (hb _) (by simpa using hc _ hi)
  · have : bitB l i = false := by simp [bitB, List.getD, show l.length ≤ i / 8 by omega]
    rw [this]
    exact holds_out a l.length c (i + 1) w (by omega) (by simp; omega) (by omega)

/-! ### namesAnother -/
def subB (l h : List Int) : Bool := (List.range l.length).all fun i => !(bits .andNot .u8 (l.getD i 0) (h.getD i 0) != 0)
def namesB (l h : List Int) : Bool := decide (h.length < l.length) || !subB l h

theorem names_longer (a a' : Option Addr) (n c n' c' : Nat) (w : World) (h : n' < n) :
    Calls Try.prog 29 #[.agg #[.slice a n c], .agg #[.slice a' n' c']] w fun e w' => e = .returned (.bool true) ∧ Below w.heap.size w w' := by
  go_enter Try.func29, Try.ntmps29
  go_wp2
  go_ret
  exact ⟨rfl, ((Below.refl _ _).alloc (Nat.le_refl _) _).alloc (by simp) _⟩

theorem names_none (a a' : Option Addr) (c n' c' : Nat) (w : World) :
    Calls Try.prog 29 #[.agg #[.slice a 0 c], .agg #[.slice a' n' c']] w fun e w' => e = .returned (.bool false) ∧ Below w.heap.size w w' := by
  go_enter Try.func29, Try.ntmps29
  go_wp2
  refine wp_loop_rounds 1 ?_
  rw [rounds_succ]
  go_wp2
  go_ret
  exact ⟨rfl, ((Below.refl _ _).alloc (Nat.le_refl _) _).alloc (by simp) _⟩

theorem sub_hit {l h : List Int} {k : Nat} (hk : k < l.length) (hne : (bits .andNot .u8 (l.getD k 0) (h.getD k 0) != 0) = true) : subB l h = false := by
  rw [← Bool.not_eq_true]
  intro hs
  have := List.all_eq_true.1 hs k (by simpa using hk)
  rw [hne] at this
  cases this
theorem sub_all {l h : List Int} (hne : ∀ k, k < l.length → (bits .andNot .u8 (l.getD k 0) (h.getD k 0) != 0) = false) : subB l h = true := by
  refine List.all_eq_true.2 fun k hk => ?_
  rw [hne k (by simpa using hk)]
  rfl

set_option maxHeartbeats 400000 in
theorem names_loop (b o c b' o' c' : Nat) (l h : List Int) (w : World) (hlen : l.length ≤ h.length) (hm : h.length ≤ 1048576) (hb : b < w.heap.size) (hb' : b' < w.heap.size)
    (hc : ∀ i, i < l.length → w.cell? ⟨b, o + i, none⟩ = some (.int .u8 (l.getD i 0))) (hc' : ∀ i, i < h.length → w.cell? ⟨b', o' + i, none⟩ = some (.int .u8 (h.getD i 0))) :
    Calls Try.prog 29 #[.agg #[.slice (some ⟨b, o, none⟩) l.length c], .agg #[.slice (some ⟨b', o', none⟩) h.length c']] w fun e w' => e = .returned (.bool (!subB l h)) ∧ Below w.heap.size w w' := by
  go_enter Try.func29, Try.ntmps29
  go_wp2
  go_loop [17] (fun i => ∃ k : Nat, k ≤ l.length ∧ i = .int .i64 k ∧ Hid (∀ j, j < k → (bits .andNot .u8 (l.getD j 0) (h.getD j 0) != 0) = false)) (fun i => l.length - (intOf i).toNat)
  case atStart => exact ⟨0, Nat.zero_le _, rfl, fun j hj => by omega⟩
  case round =>
    obtain ⟨k, hk, rfl, H⟩ := hrel
    by_cases hlt : k < l.length
    · have g := hc k hlt
      have g' := hc' k (by omega)
      have HX : Hid (∀ r, (bits .andNot .u8 (l.getD k 0) (h.getD k 0) != 0) = r → r = false → ∀ j, j < k + 1 → (bits .andNot .u8 (l.getD j 0) (h.getD j 0) != 0) = false) := by
        intro r hr hr' j hj
        by_cases e : j = k
        · subst e; rw [hr, hr']
        · exact H.out j (by omega)
      have HY : Hid ((bits .andNot .u8 (l.getD k 0) (h.getD k 0) != 0) = true → subB l h = false) := sub_hit hlt
      clear hc hc' H
      generalize l.getD k 0 = x at g HX HY
      generalize h.getD k 0 = y at g' HX HY
      by_cases ht : (bits .andNot .u8 x y != 0) = true
      · go_wp2
        go_ret
        rw [HY.out ht]
        exact ⟨rfl, ((Below.refl _ _).alloc (Nat.le_refl _) _).alloc (by simp) _⟩
      · have ht' : (bits .andNot .u8 x y != 0) = false := by simpa using ht
        clear ht
        go_wp2
        go_round
        case rel => exact ⟨k + 1, by omega, by go_num, HX.out _ rfl ht'⟩
        case measure => simp [intOf]; omega
    · obtain rfl : k = l.length := by omega
      have := sub_all H.out
      clear H hc hc'
      go_wp2
      go_ret
      exact ⟨by simp, ((Below.refl _ _).alloc (Nat.le_refl _) _).alloc (by simp) _⟩

theorem names_any {w : World} {a a' : Option Addr} {l h : List Int} (c c' : Nat) (hr : Rd .u8 w a l) (hr' : Rd .u8 w a' h) (hm : h.length ≤ 1048576) :
    Calls Try.prog 29 #[.agg #[.slice a l.length c], .agg #[.slice a' h.length c']] w fun e w' => e = .returned (.bool (namesB l h)) ∧ Below w.heap.size w w' := by
  by_cases hlt : h.length < l.length
  · have : namesB l h = true := by simp [namesB, hlt]
    rw [this]
    exact names_longer _ _ _ _ _ _ _ hlt
  · have : namesB l h = !subB l h := by simp [namesB, hlt]
    rw [this]
    by_cases hl : l = []
    · subst hl
      exact names_none _ _ _ _ _ _
    · rcases hr with hr | ⟨b, o, rfl, hb, hc⟩
      · exact absurd hr hl
      · rcases hr' with rfl | ⟨b', o', rfl, hb', hc'⟩
        · exact absurd (List.eq_nil_of_length_eq_zero (by simpa using hlt)) hl
        · exact names_loop b o c b' o' c' l h w (by omega) hm hb hb' hc hc'

/-! ### ZZMakeSet, ZZNamesAnother -/
theorem mkSet_any (v : Value) (a : Option Addr) (n c : Nat) (hv : v = .slice a n c) (w : World) :
    Calls Try.prog 13 #[v] w fun e w' => e = .returned (.agg #[v]) ∧ Below w.heap.size w w' := by
  subst hv
  go_enter Try.func13, Try.ntmps13
  go_wp2
  exact bodyPost_ret (v := .agg #[.slice a n c]) (by simp [results, Try.results13, go_sem]) rfl ⟨rfl, (Below.refl _ _).alloc (Nat.le_refl _) _⟩

theorem zzNames_any {w : World} {a a' : Option Addr} {l h : List Int} (c c' : Nat) (hr : Rd .u8 w a l) (hr' : Rd .u8 w a' h) (hm : h.length ≤ 1048576) :
    Calls Try.prog 16 #[.agg #[.slice a l.length c], .agg #[.slice a' h.length c']] w fun e w' => e = .returned (.bool (namesB l h)) ∧ Below w.heap.size w w' := by
  go_enter Try.func16, Try.ntmps16
  go_wp2_with fail
  refine (names_any c c' (hr.below (((Below.refl _ _).alloc (Nat.le_refl _) _).alloc (by simp) _) (Nat.le_refl _)) (hr'.below (((Below.refl _ _).alloc (Nat.le_refl _) _).alloc (by simp) _) (Nat.le_refl _)) hm).mono ?_
  rintro e w' ⟨rfl, hb⟩
  go_wp2
  go_ret
  exact ⟨rfl, (((Below.refl _ _).alloc (Nat.le_refl _) _).alloc (by simp) _).trans (hb.mono (by simp; omega))⟩
end Go.Proofs.Qxb6605220a
