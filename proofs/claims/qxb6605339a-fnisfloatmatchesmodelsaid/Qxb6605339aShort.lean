import Derived.Test.Qxb6605339aBase
namespace Go.Proofs.Qxb6605339a
open Go.ChangeShapes Go.WideShapes Go.ChangeAt Go.RowKit

/-! ### the plain law: digits -/
/-- the value of the first j of t digits of N -/
def pre (N t j : Nat) : Nat := N / 10 ^ (t - j)
/-- digit j (from the left) of the t digits of N -/
def dig (N t j : Nat) : Nat := N / 10 ^ (t - 1 - j) % 10

theorem dig_lt (N t j : Nat) : dig N t j < 10 := Nat.mod_lt _ (by omega)
theorem pre_succ (N t j : Nat) (h : j < t) : pre N t (j + 1) = pre N t j * 10 + dig N t j := by
  unfold pre dig
  have e : t - j = (t - 1 - j) + 1 := by omega
  rw [e, show t - (j + 1) = t - 1 - j by omega, Nat.pow_succ, ← Nat.div_div_eq_div_mul]
  omega
theorem pre_le (N t j : Nat) : pre N t j ≤ N := Nat.div_le_self _ _
theorem pre_all (N t : Nat) : pre N t t = N := by simp [pre]

/-- the line holds the t digits of N from place s on, then the sign for the kind, then the end, a comma or a space -/
def Written (L : List Int) (s t N : Nat) : Prop :=
  s + t < L.length ∧ (∀ j, j < t → L.getD (s + j) 0 = ((48 + dig N t j : Nat) : Int)) ∧ L.getD (s + t) 0 = 105 ∧ (s + t + 1 < L.length → L.getD (s + t + 1) 0 = 44 ∨ L.getD (s + t + 1) 0 = 32)


set_option maxHeartbeats 1000000 in
theorem shortInt_pos (b o c i t N : Nat) (L : List Int) (w : World) (hm : L.length ≤ 4000000) (hN : N < 1000000000000000000) (ht1 : 1 ≤ t) (ht2 : t ≤ 18) (h0 : pre N t 0 = 0) (hW : Written L i t N)
    (hc : ∀ i, i < L.length → w.cell? ⟨b, o + i, none⟩ = some (.int .u8 (L.getD i 0))) :
    Calls Try.prog 16 #[.slice (some ⟨b, o, none⟩) L.length c, .int .i64 (i : Int)] w fun e w' => e = .returned (.tuple #[.int .i64 (N : Int), .int .i64 ((i + t + 1 : Nat) : Int), .bool true]) ∧ w = w' := by
  obtain ⟨hl, hd, hi, he⟩ := hW
  have c0 := hc i (by omega)
  have e0 := hd 0 (by omega)
  rw [Nat.add_zero] at e0
  rw [e0] at c0
  have d0 := dig_lt N t 0
  generalize dig N t 0 = dd at c0 d0
  obtain ⟨x, hx⟩ : ∃ x : Int, x = ((48 + dd : Nat) : Int) := ⟨_, rfl⟩
  rw [← hx] at c0
  have n1 : (x == 45) = false := by simp only [beq_eq_false_iff_ne]; omega
  clear hx e0
  have CI : Hid (w.cell? ⟨b, o + (i + t), none⟩ = some (.int .u8 105)) := by have := hc (i + t) hl; rw [hi] at this; exact this
  have CE : Hid (i + t + 1 < L.length → ∃ x : Int, w.cell? ⟨b, o + (i + t + 1), none⟩ = some (.int .u8 x) ∧ (x = 44 ∨ x = 32)) := fun h => ⟨_, hc _ h, he h⟩
  have CD : Hid (∀ j, j < t → w.cell? ⟨b, o + (i + j), none⟩ = some (.int .u8 ((48 + dig N t j : Nat) : Int))) := fun j hj => by rw [hc _ (by omega), hd j hj]
  have H0 : Hid (pre N t 0 = 0) := h0
  clear hc hd hi he h0
  go_enter Try.func16, Try.ntmps16
  go_wp2
  go_loop [1, 9] (fun iv nv => ∃ j : Nat, j ≤ t ∧ iv = .int .i64 ((i : Int) + (j : Int)) ∧ nv = .int .i64 ((pre N t j : Nat) : Int)) (fun iv _ => i + 30 - (intOf iv).toNat)
  case atStart => exact ⟨0, Nat.zero_le _, by go_num, by rw [H0.out]; rfl⟩
  case round =>
    obtain ⟨j, hj, rfl, rfl⟩ := hrel
    by_cases hlt : j < t
    · have cd := CD.out j hlt
      have dl := dig_lt N t j
      have HP : Hid (pre N t (j + 1) = pre N t j * 10 + dig N t j) := pre_succ N t j hlt
      have hle : pre N t j * 10 + dig N t j < 1000000000000000000 := by have := pre_le N t (j + 1); have := HP.out; omega
      generalize dig N t j = d at *
      generalize pre N t j = v at *
      go_wp2
      go_round
      case rel => exact ⟨j + 1, by omega, by go_num, by rw [HP.out]; go_num⟩
      case measure => simp [intOf]; omega
    · obtain rfl : j = t := by omega
      have ci := CI.out
      have f1 : (((i : Int) + (j : Int)) == (i : Int)) = false := by simp only [beq_eq_false_iff_ne]; omega
      have f2 : (((i : Int) + (j : Int)) == (L.length : Int)) = false := by simp only [beq_eq_false_iff_ne]; omega
      rw [pre_all]
      by_cases hend : i + j + 1 < L.length
      · obtain ⟨y, cy, hy⟩ := CE.out hend
        rcases hy with rfl | rfl
        · go_wp2
          go_ret3
          exact ⟨rfl, rfl⟩
        · go_wp2
          go_ret3
          exact ⟨rfl, rfl⟩
      · go_wp2
        go_ret3
        exact ⟨rfl, rfl⟩
set_option maxHeartbeats 1000000 in
theorem shortInt_neg (b o c i t N : Nat) (L : List Int) (w : World) (hm : L.length ≤ 4000000) (hN : N < 1000000000000000000) (ht1 : 1 ≤ t) (ht2 : t ≤ 18) (h0 : pre N t 0 = 0) (hW : Written L (i + 1) t N) (hs : L.getD i 0 = 45)
    (hc : ∀ i, i < L.length → w.cell? ⟨b, o + i, none⟩ = some (.int .u8 (L.getD i 0))) :
    Calls Try.prog 16 #[.slice (some ⟨b, o, none⟩) L.length c, .int .i64 (i : Int)] w fun e w' => e = .returned (.tuple #[.int .i64 (-(N : Int)), .int .i64 ((i + 1 + t + 1 : Nat) : Int), .bool true]) ∧ w = w' := by
  obtain ⟨hl, hd, hi, he⟩ := hW
  have c0 := hc i (by omega)
  rw [hs] at c0
  have CI : Hid (w.cell? ⟨b, o + (i + 1 + t), none⟩ = some (.int .u8 105)) := by have := hc (i + 1 + t) hl; rw [hi] at this; exact this
  have CE : Hid (i + 1 + t + 1 < L.length → ∃ x : Int, w.cell? ⟨b, o + (i + 1 + t + 1), none⟩ = some (.int .u8 x) ∧ (x = 44 ∨ x = 32)) := fun h => ⟨_, hc _ h, he h⟩
  have CD : Hid (∀ j, j < t → w.cell? ⟨b, o + (i + 1 + j), none⟩ = some (.int .u8 ((48 + dig N t j : Nat) : Int))) := fun j hj => by rw [hc _ (by omega), hd j hj]
  have H0 : Hid (pre N t 0 = 0) := h0
  clear hc hd hi he h0
  go_enter Try.func16, Try.ntmps16
  go_wp2
  go_loop [1, 9] (fun iv nv => ∃ j : Nat, j ≤ t ∧ iv = .int .i64 ((i : Int) + 1 + (j : Int)) ∧ nv = .int .i64 ((pre N t j : Nat) : Int)) (fun iv _ => i + 31 - (intOf iv).toNat)
  case atStart => exact ⟨0, Nat.zero_le _, by go_num, by rw [H0.out]; rfl⟩
  case round =>
    obtain ⟨j, hj, rfl, rfl⟩ := hrel
    by_cases hlt : j < t
    · have cd := CD.out j hlt
      have dl := dig_lt N t j
      have HP : Hid (pre N t (j + 1) = pre N t j * 10 + dig N t j) := pre_succ N t j hlt
      have hle : pre N t j * 10 + dig N t j < 1000000000000000000 := by have := pre_le N t (j + 1); have := HP.out; omega
      generalize dig N t j = d at *
      generalize pre N t j = v at *
      go_wp2
      go_round
      case rel => exact ⟨j + 1, by omega, by go_num, by rw [HP.out]; go_num⟩
      case measure => simp [intOf]; omega
    · obtain rfl : j = t := by omega
      have ci := CI.out
      have f1 : (((i : Int) + 1 + (j : Int)) == ((i : Int) + 1)) = false := by simp only [beq_eq_false_iff_ne]; omega
      have f2 : (((i : Int) + 1 + (j : Int)) == (L.length : Int)) = false := by simp only [beq_eq_false_iff_ne]; omega
      rw [pre_all]
      by_cases hend : i + 1 + j + 1 < L.length
      · obtain ⟨y, cy, hy⟩ := CE.out hend
        rcases hy with rfl | rfl
        · go_wp2
          go_ret3
          exact ⟨rfl, rfl⟩
        · go_wp2
          go_ret3
          exact ⟨rfl, rfl⟩
      · go_wp2
        go_ret3
        exact ⟨rfl, rfl⟩
end Go.Proofs.Qxb6605339a
