import Derived.Test.Qxb6605339aFloatW
import Derived.Deep.CutBlock
namespace Go.Proofs.Qxb6605339a
open Go.ChangeShapes Go.WideShapes Go.ChangeAt Go.RowKit

theorem isFloat_any {w : World} {a : Option Addr} {L : List Int} (c : Nat) (hr : Rd .u8 w a L) (hm : L.length ≤ 1048576) :
    Calls Try.prog 14 #[.slice a L.length c] w fun e w' => e = .returned (.bool (isF L)) ∧ w = w' := by
  rcases hr with rfl | ⟨b, o, rfl, hb, hc⟩
  · exact isFloat_nil a c w
  · by_cases hl : L.length = 0
    · have : L = [] := List.eq_nil_of_length_eq_zero hl
      subst this
      exact isFloat_nil _ c w
    · exact isFloat_some b o c L w hm (by omega) hb hc

theorem zzIsFloat_any {w : World} {a : Option Addr} {L : List Int} (c : Nat) (hr : Rd .u8 w a L) (hm : L.length ≤ 1048576) :
    Calls Try.prog 7 #[.slice a L.length c] w fun e w' => e = .returned (.bool (isF L)) ∧ w = w' := by
  go_enter Try.func7, Try.ntmps7
  go_wp2_with fail
  refine (isFloat_any c hr hm).mono ?_
  rintro e w' ⟨rfl, rfl⟩
  go_wp2
  go_ret
  exact ⟨rfl, rfl⟩

theorem digit_any (x : Int) (w : World) : Calls Try.prog 15 #[.int .u8 x] w fun e w' => e = .returned (.bool (isDig x)) ∧ w = w' := by
  by_cases h1 : 48 ≤ x
  · by_cases h2 : x ≤ 57
    · have e : isDig x = true := by simp [isDig, h1, h2]
      rw [e]
      go_enter Try.func15, Try.ntmps15
      go_wp2
      go_ret
      exact ⟨ret_bool (by simp), rfl⟩
    · have e : isDig x = false := by simp [isDig, h2]
      rw [e]
      go_enter Try.func15, Try.ntmps15
      go_wp2
      go_ret
      exact ⟨ret_bool (by simp), rfl⟩
  · have e : isDig x = false := by simp [isDig, h1]
    rw [e]
    go_enter Try.func15, Try.ntmps15
    go_wp2
    go_ret
    exact ⟨ret_bool (by simp), rfl⟩

theorem tw_char {p : Int → Bool} {L : List Int} {i j : Nat} (hij : i ≤ j) (hj : j ≤ L.length) (h1 : ∀ m, i ≤ m → m < j → p (L.getD m 0) = true) (h2 : j = L.length ∨ p (L.getD j 0) = false) : ((L.drop i).takeWhile p).length = j - i ∧ (L.drop i).takeWhile p = (L.drop i).take (j - i) := by
  have hT : L.drop i = (L.drop i).take (j - i) ++ L.drop j := by
    have := (List.take_append_drop (j - i) (L.drop i)).symm
    rwa [List.drop_drop, show i + (j - i) = j by omega] at this
  have hall : ∀ x ∈ (L.drop i).take (j - i), p x = true := fun x hx => by
    obtain ⟨m, hm, rfl⟩ := List.mem_iff_getElem.1 hx
    have hm' : m < j - i ∧ m < L.length - i := by simp at hm; omega
    have := h1 (i + m) (by omega) (by omega)
    rw [List.getD, List.getElem?_eq_getElem (by omega)] at this
    simpa using this
  have htw : (L.drop i).takeWhile p = (L.drop i).take (j - i) := by
    rw [hT, List.takeWhile_append_of_pos hall]
    have : (L.drop j).takeWhile p = [] := by
      rcases h2 with h2 | h2
      · rw [List.drop_eq_nil_of_le (by omega)]; rfl
      · rcases Nat.lt_or_ge j L.length with h | h
        · rw [List.drop_eq_getElem_cons h, List.takeWhile_cons]
          rw [List.getD, List.getElem?_eq_getElem h] at h2
          simp at h2
          simp [h2]
        · rw [List.drop_eq_nil_of_le h]; rfl
    rw [this, ← hT, List.append_nil]
  exact ⟨by rw [htw]; simp; omega, htw⟩

theorem seg_take {L : List Int} : seg L = (L.drop (sgn L)).take (eM L - sgn L) := by
  unfold eM
  have : (seg L) <+: (L.drop (sgn L)) := List.takeWhile_prefix _
  have h := List.prefix_iff_eq_take.1 this
  rw [show sgn L + (seg L).length - sgn L = (seg L).length by omega]
  exact h
theorem eM_le (L : List Int) : sgn L ≤ eM L ∧ eM L ≤ L.length := by
  have h1 := (List.takeWhile_sublist (l := L.drop (sgn L)) notE).length_le
  have h2 := sgn_le L
  unfold eM seg
  simp at h1
  omega
/-- element t of the part ahead of the 'e' -/
theorem seg_succ {L : List Int} {t : Nat} (h : sgn L + t < eM L) : (seg L).take (t + 1) = (seg L).take t ++ [L.getD (sgn L + t) 0] := by
  have hl : t < (seg L).length := by unfold eM at h; omega
  have h2 := eM_le L
  rw [List.take_succ_eq_append_getElem hl]
  congr 2
  have : (seg L)[t]? = L[sgn L + t]? := by
    rw [seg_take, List.getElem?_take, if_pos (by omega), List.getElem?_drop]
  rw [List.getElem?_eq_getElem hl, List.getElem?_eq_getElem (by omega)] at this
  rw [List.getD, List.getElem?_eq_getElem (by omega)]
  exact Option.some.inj this
theorem seg_mem {L : List Int} {t : Nat} (h : sgn L + t < eM L) : L.getD (sgn L + t) 0 ∈ seg L := by
  have : L.getD (sgn L + t) 0 ∈ (seg L).take (t + 1) := by rw [seg_succ h]; simp
  exact List.mem_of_mem_take this
theorem seg_bad {L : List Int} {t : Nat} (h : sgn L + t < eM L) (hx : okM (L.getD (sgn L + t) 0) = false) : modF L = false := by
  have : (seg L).all okM = false := by
    rw [← Bool.not_eq_true, List.all_eq_true]
    intro H
    have := H _ (seg_mem h)
    rw [hx] at this
    cases this
  unfold modF
  rw [this]
  rfl

theorem model_nil (a : Option Addr) (c : Nat) (w : World) : Calls Try.prog 8 #[.slice a 0 c] w fun e w' => e = .returned (.bool false) ∧ w = w' := by
  go_enter Try.func8, Try.ntmps8
  go_wp2
  refine wp_loop_rounds 1 ?_
  rw [rounds_succ]
  go_wp2
  refine wp_loop_rounds 1 ?_
  rw [rounds_succ]
  go_wp2
  go_ret
  exact ⟨rfl, rfl⟩

set_option maxRecDepth 100000 in
set_option maxHeartbeats 2000000 in
theorem model_some (b o c : Nat) (L : List Int) (w : World) (hm : L.length ≤ 1048576) (hl : 0 < L.length) (hc : ∀ i, i < L.length → w.cell? ⟨b, o + i, none⟩ = some (.int .u8 (L.getD i 0))) :
    Calls Try.prog 8 #[.slice (some ⟨b, o, none⟩) L.length c] w fun e w' => e = .returned (.bool (modF L)) ∧ w = w' := by
  have CC : Hid (∀ i, i < L.length → w.cell? ⟨b, o + i, none⟩ = some (.int .u8 (L.getD i 0))) := hc
  have c0 := hc 0 hl
  rw [Nat.add_zero] at c0
  clear hc
  have HSG : Hid (sgn L = if L.getD 0 0 = 45 then 1 else 0) := rfl
  generalize L.getD 0 0 = x0 at c0 HSG
  have hsle : sgn L ≤ L.length := sgn_le L
  obtain ⟨he1, he2⟩ := eM_le L
  go_enter Try.func8, Try.ntmps8
  go_upto_if 21 with fail
  go_cut [4] from 12 (fun s4 wx => w = wx ∧ s4 = .int .i64 ((sgn L : Nat) : Int))
  case first =>
    clear CC hsle he1 he2
    by_cases h45 : x0 = 45
    · have HE : Hid (sgn L = 1) := by have := HSG.out; rwa [if_pos h45] at this
      have g : (x0 == 45) = true := by simp [h45]
      clear HSG h45 c0
      go_wp2
      go_meet
      case rel => exact ⟨rfl, by rw [HE.out]; rfl⟩
    · have HE : Hid (sgn L = 0) := by have := HSG.out; rwa [if_neg h45] at this
      have g : (x0 == 45) = false := by simp [h45]
      clear HSG h45 c0
      go_wp2
      go_meet
      case rel => exact ⟨rfl, by rw [HE.out]; rfl⟩
  case rest =>
    obtain ⟨rfl, rfl⟩ := hcut
    clear HSG c0
    go_upto_block 0 with fail
    go_cut [5] from 12 (fun s5 wx => w = wx ∧ s5 = .int .i64 ((eM L : Nat) : Int))
    case first =>
      go_wp2_with fail
      go_loop [5, 6] (fun s5 s6 => ∃ j : Nat, sgn L ≤ j ∧ j ≤ L.length ∧ s5 = .int .i64 (L.length : Int) ∧ s6 = .int .i64 (j : Int) ∧ Hid (∀ m, sgn L ≤ m → m < j → notE (L.getD m 0) = true)) (fun _ s6 => L.length - (intOf s6).toNat)
      case atStart => exact ⟨sgn L, Nat.le_refl _, hsle, rfl, rfl, fun m h1 h2 => by omega⟩
      case round =>
        obtain ⟨j, hj1, hj2, rfl, rfl, H⟩ := hrel
        by_cases hlt : j < L.length
        · have cj := CC.out j hlt
          have HY : Hid (notE (L.getD j 0) = true → ∀ m, sgn L ≤ m → m < j + 1 → notE (L.getD m 0) = true) := fun h m h1 h2 => by
            by_cases e : m = j
            · subst e; exact h
            · exact H.out m h1 (by omega)
          have HN : Hid (notE (L.getD j 0) = false → eM L = j) := fun h => by
            have := (tw_char hj1 hj2 H.out (.inr h)).1
            unfold eM seg
            omega
          clear H CC
          generalize L.getD j 0 = x at *
          by_cases hA : x = 101
          · have g : (x == 101) = true := by simp [hA]
            have HE : Hid (eM L = j) := HN.out (by rw [hA]; rfl)
            clear hA HN HY
            go_wp2
            go_meet
            case rel => exact ⟨rfl, by rw [HE.out]⟩
          · have g : (x == 101) = false := by simp [hA]
            by_cases hB : x = 69
            · have g2 : (x == 69) = true := by simp [hB]
              have HE : Hid (eM L = j) := HN.out (by rw [hB]; rfl)
              clear hA hB HN HY
              go_wp2
              go_meet
              case rel => exact ⟨rfl, by rw [HE.out]⟩
            · have g2 : (x == 69) = false := by simp [hB]
              have HE := HY.out (by simp [notE, isE, hA, hB])
              have HE' : Hid _ := HE
              clear hA hB HN HY HE
              go_wp2
              go_round
              case rel => exact ⟨j + 1, by omega, by omega, rfl, by go_num, HE'⟩
              case measure => simp [intOf]; omega
        · have HE : Hid (eM L = L.length) := by
            have := (tw_char hj1 hj2 H.out (.inl (by omega))).1
            unfold eM seg
            show _ = _
            omega
          clear H CC
          go_wp2
          go_meet
          case rel => exact ⟨rfl, by rw [HE.out]⟩
    case rest =>
      obtain ⟨rfl, rfl⟩ := hcut
      have HCS : Hid (∀ t, (seg L).take t = (seg L).take t) := fun _ => rfl
      clear HCS
      go_wp2_with fail
      go_loop [7, 8, 9] (fun s7 s8 s9 => ∃ t : Nat, sgn L + t ≤ eM L ∧ s7 = .int .i64 ((((seg L).take t).countP isDig : Nat) : Int) ∧ s8 = .int .i64 ((((seg L).take t).countP (· == 46) : Nat) : Int) ∧ s9 = .int .i64 ((sgn L : Int) + (t : Int)) ∧ Hid (((seg L).take t).all okM = true)) (fun _ _ s9 => eM L - (intOf s9).toNat)
      case atStart => exact ⟨0, by omega, by simp, by simp, by go_num, rfl⟩
      case round =>
        obtain ⟨t, ht, rfl, rfl, rfl, H⟩ := hrel
        by_cases hlt : sgn L + t < eM L
        · have cj := CC.out (sgn L + t) (by omega)
          have HS : Hid ((seg L).take (t + 1) = (seg L).take t ++ [L.getD (sgn L + t) 0]) := seg_succ hlt
          have HBAD : Hid (okM (L.getD (sgn L + t) 0) = false → modF L = false) := fun h => seg_bad hlt h
          have n1 : ((seg L).take t).countP isDig ≤ t := Nat.le_trans List.countP_le_length (List.length_take_le _ _)
          have n2 : ((seg L).take t).countP (· == 46) ≤ t := Nat.le_trans List.countP_le_length (List.length_take_le _ _)
          have q1 : sgn L ≤ 1 := by unfold sgn; split <;> omega
          generalize L.getD (sgn L + t) 0 = x at *
          generalize hA0 : ((seg L).take t).countP isDig = A at *
          generalize hB0 : ((seg L).take t).countP (· == 46) = B at *
          have HA0 : Hid (((seg L).take t).countP isDig = A) := hA0
          have HB0 : Hid (((seg L).take t).countP (· == 46) = B) := hB0
          clear hA0 hB0
          by_cases hd : isDig x = true
          · have HC1 : Hid (((seg L).take (t + 1)).countP isDig = A + 1) := by show _ = _; rw [HS.out, List.countP_append, HA0.out]; simp [hd]
            have hx46 : ¬ x = 46 := by intro h; rw [h] at hd; cases hd
            have HC2 : Hid (((seg L).take (t + 1)).countP (· == 46) = B) := by show _ = _; rw [HS.out, List.countP_append, HB0.out]; simp [hx46]
            have HC3 : Hid (((seg L).take (t + 1)).all okM = true) := by show _ = _; rw [HS.out, List.all_append, H.out]; simp [okM, hd]
            clear HS HBAD H HA0 HB0 hx46
            go_wp2_with (go_at_call 15; refine (digit_any _ _).mono ?_; rintro e w' ⟨rfl, rfl⟩; rw [hd])
            go_round
            case rel => exact ⟨t + 1, by omega, by rw [HC1.out]; go_num, by rw [HC2.out], by go_num, HC3⟩
            case measure => simp [intOf]; omega
          · replace hd : isDig x = false := by simpa using hd
            by_cases h46 : x = 46
            · have g : (x == 46) = true := by simp [h46]
              have HC1 : Hid (((seg L).take (t + 1)).countP isDig = A) := by show _ = _; rw [HS.out, List.countP_append, HA0.out]; simp [hd]
              have HC2 : Hid (((seg L).take (t + 1)).countP (· == 46) = B + 1) := by show _ = _; rw [HS.out, List.countP_append, HB0.out]; simp [h46]
              have HC3 : Hid (((seg L).take (t + 1)).all okM = true) := by show _ = _; rw [HS.out, List.all_append, H.out]; simp [okM, h46]
              clear HS HBAD H HA0 HB0 h46
              go_wp2_with (go_at_call 15; refine (digit_any _ _).mono ?_; rintro e w' ⟨rfl, rfl⟩; rw [hd])
              go_round
              case rel => exact ⟨t + 1, by omega, by rw [HC1.out], by rw [HC2.out]; go_num, by go_num, HC3⟩
              case measure => simp [intOf]; omega
            · have g : (x == 46) = false := by simp [h46]
              have HZ : Hid (modF L = false) := HBAD.out (by simp [okM, hd, h46])
              clear HS HBAD H HA0 HB0 h46
              go_wp2_with (go_at_call 15; refine (digit_any _ _).mono ?_; rintro e w' ⟨rfl, rfl⟩; rw [hd])
              go_ret
              exact ⟨ret_bool HZ.out.symm, rfl⟩
        · have ett : (seg L).take t = seg L := List.take_of_length_le (by unfold eM at hlt; omega)
          have H' : (seg L).all okM = true := by rw [← ett]; exact H.out
          have HF : Hid (modF L = (decide ((seg L).countP isDig ≠ 0) && (decide ((seg L).countP (· == 46) ≤ 1) && (decide (eM L = L.length) || expM L (eM L + 1))))) := by show _ = _; unfold modF; rw [H', Bool.true_and]
          rw [ett]
          have n1 : (seg L).countP isDig ≤ L.length := by have := List.countP_le_length (p := isDig) (l := seg L); unfold eM at he2; omega
          have n2 : (seg L).countP (· == 46) ≤ L.length := by have := List.countP_le_length (p := (· == 46)) (l := seg L); unfold eM at he2; omega
          clear ett H' H
          generalize (seg L).countP isDig = A at *
          generalize (seg L).countP (· == 46) = B at *
          generalize eM L = e0 at *
          by_cases hA : A = 0
          · have g : ((A : Int) == 0) = true := by simp [hA]
            have HZ : Hid (modF L = false) := by have := HF.out; rwa [hA, show decide ((0 : Nat) ≠ 0) = false from rfl, Bool.false_and] at this
            clear HF hA CC
            go_wp2
            go_ret
            exact ⟨ret_bool HZ.out.symm, rfl⟩
          have gA : ((A : Int) == 0) = false := by simp only [beq_eq_false_iff_ne]; omega
          by_cases hB : 1 < B
          · have HZ : Hid (modF L = false) := by have := HF.out; rwa [show decide (B ≤ 1) = false from decide_eq_false (by omega), Bool.false_and, Bool.and_false] at this
            clear HF hA CC
            go_wp2
            go_ret
            exact ⟨ret_bool HZ.out.symm, rfl⟩
          have HF2 : Hid (modF L = (decide (e0 = L.length) || expM L (e0 + 1))) := by have := HF.out; rwa [show decide (B ≤ 1) = true from decide_eq_true (by omega), show decide (A ≠ 0) = true from decide_eq_true hA, Bool.true_and, Bool.true_and] at this
          by_cases hen : e0 = L.length
          · have g : ((e0 : Int) == (L.length : Int)) = true := by simp only [beq_iff_eq]; omega
            have HZ : Hid (modF L = true) := by have := HF2.out; rwa [show decide (e0 = L.length) = true from decide_eq_true hen, Bool.true_or] at this
            clear HF HF2 hA CC hen
            go_wp2
            go_ret
            exact ⟨ret_bool HZ.out.symm, rfl⟩
          have gE : ((e0 : Int) == (L.length : Int)) = false := by simp only [beq_eq_false_iff_ne]; omega
          have he3 : e0 < L.length := by omega
          have HT2 : Hid (modF L = expM L (e0 + 1)) := by have := HF2.out; rwa [show decide (e0 = L.length) = false from decide_eq_false hen, Bool.false_or] at this
          clear HF HF2 hA hen
          go_upto_region 27 with fail
          have HB : Hid (∀ p : Prop, (e0 + 1 < L.length → w.cell? ⟨b, o + (e0 + 1), none⟩ = some (.int .u8 (L.getD (e0 + 1) 0)) → p) → (L.length ≤ e0 + 1 → L.getD (e0 + 1) 0 = 0 → p) → p) := fun p h1 h2 => by
            rcases Nat.lt_or_ge (e0 + 1) L.length with h | h
            · exact h1 h (CC.out _ h)
            · exact h2 h (getD_out h)
          have HX : Hid (expM L (e0 + 1) = (decide ((if isSg (L.getD (e0 + 1) 0) = true then e0 + 1 + 1 else e0 + 1) ≠ L.length) && (L.drop (if isSg (L.getD (e0 + 1) 0) = true then e0 + 1 + 1 else e0 + 1)).all isDig)) := rfl
          generalize L.getD (e0 + 1) 0 = x3 at HB HX
          go_cut [87] from 12 (fun sv wx => w = wx ∧ sv = .bool (isSg x3))
          case first =>
            apply HB.out
            · intro hlt hcell
              have ii : ((e0 : Int) + 1) < (L.length : Int) := by omega
              clear HB HX HT2 CC
              by_cases hA : x3 = 43
              · have g : (x3 == 43) = true := by simp [hA]
                have g' : Hid (isSg x3 = true) := by show _ = _; rw [hA]; rfl
                clear hA
                go_wp2
                go_meet
                case rel => exact ⟨rfl, by rw [g'.out]⟩
              · have g : (x3 == 43) = false := by simp [hA]
                by_cases hB : x3 = 45
                · have g2 : (x3 == 45) = true := by simp [hB]
                  have g' : Hid (isSg x3 = true) := by show _ = _; rw [hB]; rfl
                  clear hA hB
                  go_wp2
                  go_meet
                  case rel => exact ⟨rfl, by rw [g'.out]⟩
                · have g2 : (x3 == 45) = false := by simp [hB]
                  have g' : Hid (isSg x3 = false) := by show _ = _; simp [isSg, hA, hB]
                  clear hA hB
                  go_wp2
                  go_meet
                  case rel => exact ⟨rfl, by rw [g'.out]⟩
            · intro hge hz
              have g' : Hid (isSg x3 = false) := by show _ = _; rw [hz]; rfl
              clear HB hz HX HT2 CC
              go_wp2
              go_meet
              case rel => exact ⟨rfl, by rw [g'.out]⟩
          case rest =>
            obtain ⟨rfl, rfl⟩ := hcut
            go_upto_if 87 with fail
            obtain ⟨i4, hi4⟩ : ∃ i4 : Nat, i4 = if isSg x3 = true then e0 + 1 + 1 else e0 + 1 := ⟨_, rfl⟩
            rw [← hi4] at HX
            have hi4l : i4 ≤ L.length := by
              rw [hi4]
              split
              · rename_i h
                have : e0 + 1 < L.length := by
                  apply HB.out
                  · intro h _; exact h
                  · intro _ hz; rw [hz] at h; cases h
                omega
              · omega
            have HI4 : Hid (i4 = if isSg x3 = true then e0 + 1 + 1 else e0 + 1) := hi4
            clear hi4 HB
            go_cut [11] from 12 (fun s11 wx => w = wx ∧ s11 = .int .i64 (i4 : Int))
            case first =>
              clear HX HT2 CC
              by_cases hS : isSg x3 = true
              · have HE : Hid (i4 = e0 + 1 + 1) := by have := HI4.out; rwa [if_pos hS] at this
                rw [hS]
                clear HI4 hS
                go_wp2
                go_meet
                case rel => exact ⟨rfl, by rw [HE.out]; go_num⟩
              · have HE : Hid (i4 = e0 + 1) := by have := HI4.out; rwa [if_neg hS] at this
                replace hS : isSg x3 = false := by simpa using hS
                rw [hS]
                clear HI4 hS
                go_wp2
                go_meet
                case rel => exact ⟨rfl, by rw [HE.out]; go_num⟩
            case rest =>
              obtain ⟨rfl, rfl⟩ := hcut
              have HX2 : Hid (modF L = (decide (i4 ≠ L.length) && (L.drop i4).all isDig)) := by have := HT2.out; rwa [HX.out] at this
              clear HX HT2 HI4
              by_cases hin : i4 = L.length
              · have g : ((i4 : Int) == (L.length : Int)) = true := by simp only [beq_iff_eq]; omega
                have HZ : Hid (modF L = false) := by have := HX2.out; rwa [show decide (i4 ≠ L.length) = false by simp [hin], Bool.false_and] at this
                clear HX2 hin CC
                go_wp2
                go_ret
                exact ⟨ret_bool HZ.out.symm, rfl⟩
              have gI : ((i4 : Int) == (L.length : Int)) = false := by simp only [beq_eq_false_iff_ne]; omega
              have HX3 : Hid (modF L = (L.drop i4).all isDig) := by have := HX2.out; rwa [show decide (i4 ≠ L.length) = true from decide_eq_true hin, Bool.true_and] at this
              clear HX2 hin
              go_wp2_with fail
              go_loop [11] (fun s11 => ∃ j : Nat, i4 ≤ j ∧ j ≤ L.length ∧ s11 = .int .i64 (j : Int) ∧ Hid (∀ m, i4 ≤ m → m < j → isDig (L.getD m 0) = true)) (fun s11 => L.length - (intOf s11).toNat)
              case atStart => exact ⟨i4, Nat.le_refl _, hi4l, rfl, fun m h1 h2 => by omega⟩
              case round =>
                obtain ⟨j, hj1, hj2, rfl, H⟩ := hrel
                by_cases hlt : j < L.length
                · have cj := CC.out j hlt
                  have HY : Hid (isDig (L.getD j 0) = true → ∀ m, i4 ≤ m → m < j + 1 → isDig (L.getD m 0) = true) := fun h m h1 h2 => by
                    by_cases e : m = j
                    · subst e; exact h
                    · exact H.out m h1 (by omega)
                  have HN : Hid (isDig (L.getD j 0) = false → modF L = false) := fun h => by
                    rw [HX3.out, ← Bool.not_eq_true, List.all_eq_true]
                    intro H2
                    have hmem : L.getD j 0 ∈ L.drop i4 := by
                      rw [List.mem_iff_getElem]
                      refine ⟨j - i4, by simp; omega, ?_⟩
                      rw [List.getElem_drop, List.getD, List.getElem?_eq_getElem hlt]
                      simp [show i4 + (j - i4) = j by omega]
                    have := H2 _ hmem
                    rw [h] at this
                    cases this
                  clear H CC HX3
                  generalize L.getD j 0 = x at *
                  by_cases hd : isDig x = true
                  · have HE : Hid (∀ m, i4 ≤ m → m < j + 1 → isDig (L.getD m 0) = true) := HY.out hd
                    clear HN HY
                    go_wp2_with (go_at_call 15; refine (digit_any _ _).mono ?_; rintro e w' ⟨rfl, rfl⟩; rw [hd])
                    go_round
                    case rel => exact ⟨j + 1, by omega, by omega, by go_num, HE⟩
                    case measure => simp [intOf]; omega
                  · replace hd : isDig x = false := by simpa using hd
                    have HZ : Hid (modF L = false) := HN.out hd
                    clear HN HY
                    go_wp2_with (go_at_call 15; refine (digit_any _ _).mono ?_; rintro e w' ⟨rfl, rfl⟩; rw [hd])
                    go_ret
                    exact ⟨ret_bool HZ.out.symm, rfl⟩
                · have HZ : Hid (modF L = true) := by
                    show _ = _
                    rw [HX3.out, List.all_eq_true]
                    intro y hy
                    obtain ⟨m, hm', rfl⟩ := List.mem_iff_getElem.1 hy
                    have hm2 : m < L.length - i4 := by simpa using hm'
                    have := H.out (i4 + m) (by omega) (by omega)
                    rw [List.getD, List.getElem?_eq_getElem (by omega)] at this
                    simpa using this
                  clear H CC HX3
                  go_wp2
                  go_ret
                  exact ⟨ret_bool HZ.out.symm, rfl⟩
end Go.Proofs.Qxb6605339a
