import Derived.Test.Qxb6605220aLaw4
import Derived.Test.Qxb6605220aUnion
namespace Go.Proofs.Qxb6605220a
open Go.ChangeShapes Go.WideShapes Go.ChangeAt Go.RowKit

/-! ### The plain laws of union -/
theorem or_nat (x y : Int) (hx : 0 ≤ x ∧ x ≤ 255) (hy : 0 ≤ y ∧ y ≤ 255) : bits .or .u8 x y = ((x.toNat ||| y.toNat : Nat) : Int) := u8_or x y hx.1 (by omega) hy.1 (by omega)
theorem or_comm (x y : Int) (hx : 0 ≤ x ∧ x ≤ 255) (hy : 0 ≤ y ∧ y ≤ 255) : bits .or .u8 x y = bits .or .u8 y x := by rw [or_nat x y hx hy, or_nat y x hy hx, Nat.or_comm]
theorem or_zero (x : Int) (hx : 0 ≤ x ∧ x ≤ 255) : bits .or .u8 x 0 = x := by
  rw [or_nat x 0 hx (by omega)]
  simp
  omega
theorem or_rng (x y : Int) (hx : 0 ≤ x ∧ x ≤ 255) (hy : 0 ≤ y ∧ y ≤ 255) : 0 ≤ bits .or .u8 x y ∧ bits .or .u8 x y ≤ 255 := by
  rw [or_nat x y hx hy]
  have : x.toNat ||| y.toNat < 2 ^ 8 := Nat.or_lt_two_pow (by omega) (by omega)
  omega

theorem unionL_getD {l h : List Int} (hl : byt l) (hh : byt h) (i : Nat) : (unionL l h).getD i 0 = bits .or .u8 (l.getD i 0) (h.getD i 0) := by
  unfold unionL
  by_cases hlt : l.length < h.length
  · rw [if_pos hlt]
    by_cases hi : i < h.length
    · rw [orK_getD _ _ _ _ hi]
      by_cases hi2 : i < l.length
      · rw [if_pos hi2, or_comm _ _ (hh i) (hl i)]
      · rw [if_neg hi2, getD_out (l := l) (by omega), or_comm 0 _ (by omega) (hh i), or_zero _ (hh i)]
    · rw [getD_out (by rw [orK_length]; omega), getD_out (l := l) (by omega), getD_out (l := h) (by omega), or_zero _ (by omega)]
  · rw [if_neg hlt]
    by_cases hi : i < l.length
    · rw [orK_getD _ _ _ _ hi]
      by_cases hi2 : i < h.length
      · rw [if_pos hi2]
      · rw [if_neg hi2, getD_out (l := h) (by omega), or_zero _ (hl i)]
    · rw [getD_out (by rw [orK_length]; omega), getD_out (l := l) (by omega), getD_out (l := h) (by omega), or_zero _ (by omega)]

theorem unionL_byt {l h : List Int} (hl : byt l) (hh : byt h) : byt (unionL l h) := fun i => by
  rw [unionL_getD hl hh]
  exact or_rng _ _ (hl i) (hh i)

theorem unionL_bit {l h : List Int} (hl : byt l) (hh : byt h) (i : Nat) : bitB (unionL l h) i = (bitB l i || bitB h i) := by
  unfold bitB
  rw [unionL_getD hl hh, or_nat _ _ (hl _) (hh _), Int.toNat_natCast, Nat.testBit_or]

theorem or_ne (x y : Int) (hx : 0 ≤ x ∧ x ≤ 255) (hy : 0 ≤ y ∧ y ≤ 255) (h : x ≠ 0 ∨ y ≠ 0) : bits .or .u8 x y ≠ 0 := by
  rw [or_nat x y hx hy]
  have h1 : x.toNat ≤ x.toNat ||| y.toNat := Nat.left_le_or
  have h2 : y.toNat ≤ x.toNat ||| y.toNat := Nat.right_le_or
  omega

theorem valid_iff (l : List Int) : validB l = true ↔ l.length = 0 ∨ l.getD (l.length - 1) 0 ≠ 0 := by simp [validB, lastB]

theorem unionL_valid {l h : List Int} (hl : byt l) (hh : byt h) (vl : validB l = true) (vh : validB h = true) : validB (unionL l h) = true := by
  rw [valid_iff] at *
  rw [unionL_getD hl hh, unionL_length]
  by_cases h0 : max l.length h.length = 0
  · exact .inl h0
  · refine .inr (or_ne _ _ (hl _) (hh _) ?_)
    by_cases hlt : l.length < h.length
    · right
      rw [show max l.length h.length = h.length by omega]
      rcases vh with v | v
      · omega
      · exact v
    · left
      rw [show max l.length h.length = l.length by omega]
      rcases vl with v | v
      · omega
      · exact v
end Go.Proofs.Qxb6605220a
