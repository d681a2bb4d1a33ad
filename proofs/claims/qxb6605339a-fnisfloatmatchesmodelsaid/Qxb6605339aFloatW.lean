import Derived.Test.Qxb6605339aFloat
namespace Go.Proofs.Qxb6605339a
open Go.ChangeShapes Go.WideShapes Go.ChangeAt Go.RowKit

theorem skip_char {L : List Int} {i j : Nat} (hij : i ≤ j) (hj : j ≤ L.length) (h1 : ∀ m, i ≤ m → m < j → isDig (L.getD m 0) = true) (h2 : isDig (L.getD j 0) = false) : skip L i = j := by
  have hT : L.drop i = (L.drop i).take (j - i) ++ L.drop j := by
    have := (List.take_append_drop (j - i) (L.drop i)).symm
    rwa [List.drop_drop, show i + (j - i) = j by omega] at this
  have := (skip_of rfl hT (List.all_eq_true.2 fun x hx => ?_) fun x R' e => ?_).1
  · rw [this]; simp; omega
  · obtain ⟨m, hm, rfl⟩ := List.mem_iff_getElem.1 hx
    have hm' : m < j - i ∧ m < L.length - i := by simp at hm; omega
    have := h1 (i + m) (by omega) (by omega)
    rw [List.getD, List.getElem?_eq_getElem (by omega)] at this
    simpa using this
  · have : L.getD j 0 = x := by rw [← drop_getD, e]; rfl
    rw [this] at h2
    exact h2

theorem skip_le {L : List Int} {i : Nat} (h : i ≤ L.length) : i ≤ skip L i ∧ skip L i ≤ L.length := by
  unfold skip
  have := (List.takeWhile_sublist (l := L.drop i) isDig).length_le
  simp at this
  omega

theorem ret_int {k : IntKind} {a b : Int} (h : a = b) : Ending.returned (.int k a) = .returned (.int k b) := by rw [h]
theorem ret_bool {a b : Bool} (h : a = b) : Ending.returned (.bool a) = .returned (.bool b) := by rw [h]

set_option maxHeartbeats 400000 in
theorem skip_some (b o c i : Nat) (L : List Int) (w : World) (hm : L.length ≤ 1048576) (hi : i ≤ L.length) (hc : ∀ i, i < L.length → w.cell? ⟨b, o + i, none⟩ = some (.int .u8 (L.getD i 0))) :
    Calls Try.prog 17 #[.slice (some ⟨b, o, none⟩) L.length c, .int .i64 (i : Int)] w fun e w' => e = .returned (.int .i64 ((skip L i : Nat) : Int)) ∧ w = w' := by
  go_enter Try.func17, Try.ntmps17
  go_wp2
  go_loop [1] (fun iv => ∃ j : Nat, i ≤ j ∧ j ≤ L.length ∧ iv = .int .i64 (j : Int) ∧ Hid (∀ m, i ≤ m → m < j → isDig (L.getD m 0) = true)) (fun iv => L.length - (intOf iv).toNat)
  case atStart => exact ⟨i, Nat.le_refl _, hi, rfl, fun m h1 h2 => by omega⟩
  case round =>
    obtain ⟨j, hij, hj, rfl, H⟩ := hrel
    by_cases hlt : j < L.length
    · have cj := hc j hlt
      have HY : Hid (isDig (L.getD j 0) = true → ∀ m, i ≤ m → m < j + 1 → isDig (L.getD m 0) = true) := fun h m h1 h2 => by
        by_cases e : m = j
        · subst e; exact h
        · exact H.out m h1 (by omega)
      have HN : Hid (isDig (L.getD j 0) = false → skip L i = j) := fun h => skip_char hij hj H.out h
      clear hc H
      unfold isDig at HY HN
      generalize L.getD j 0 = x at *
      by_cases h1 : 48 ≤ x
      · by_cases h2 : x ≤ 57
        · go_wp2
          go_round
          case rel => exact ⟨j + 1, by omega, by omega, by go_num, HY.out (by simp [h1, h2])⟩
          case measure => simp [intOf]; omega
        · have hs : Hid (skip L i = j) := HN.out (by simp [h2])
          go_wp2
          go_ret
          exact ⟨ret_int (by rw [hs.out]), rfl⟩
      · have hs : Hid (skip L i = j) := HN.out (by simp [h1])
        go_wp2
        go_ret
        exact ⟨ret_int (by rw [hs.out]), rfl⟩
    · have hs : Hid (skip L i = j) := skip_char hij hj H.out (by rw [List.getD, List.getElem?_eq_none (by omega)]; rfl)
      clear hc H
      go_wp2
      go_ret
      exact ⟨ret_int (by rw [hs.out]), rfl⟩

theorem skip_any {w : World} {a : Option Addr} {L : List Int} (c i : Nat) (hr : Rd .u8 w a L) (hm : L.length ≤ 1048576) (hi : i ≤ L.length) :
    Calls Try.prog 17 #[.slice a L.length c, .int .i64 (i : Int)] w fun e w' => e = .returned (.int .i64 ((skip L i : Nat) : Int)) ∧ w = w' := by
  rcases hr with rfl | ⟨b, o, rfl, _, hc⟩
  · obtain rfl : i = 0 := by simpa using hi
    have : skip [] 0 = 0 := rfl
    rw [this]
    go_enter Try.func17, Try.ntmps17
    go_wp2
    refine wp_loop_rounds 1 ?_
    rw [rounds_succ]
    go_wp2
    go_ret
    exact ⟨rfl, rfl⟩
  · exact skip_some b o c i L w hm hi hc

theorem getD_out {L : List Int} {i : Nat} (h : L.length ≤ i) : L.getD i 0 = 0 := by rw [List.getD, List.getElem?_eq_none h]; rfl

theorem int_beq (a b : Nat) : ((a : Int) == (b : Int)) = decide (a = b) := by
  rw [Bool.eq_iff_iff]; simp only [beq_iff_eq, decide_eq_true_eq]; omega

theorem isFloat_nil (a : Option Addr) (c : Nat) (w : World) : Calls Try.prog 14 #[.slice a 0 c] w fun e w' => e = .returned (.bool false) ∧ w = w' := by
  have hs := fun c => skip_any (w := w) (a := a) (L := []) c 0 (.inl rfl) (by simp) (by simp)
  have e0 : skip [] 0 = 0 := rfl
  rw [e0] at hs
  go_enter Try.func14, Try.ntmps14
  go_wp2_with (go_at_call 17; refine (hs _).mono ?_; rintro e w' ⟨rfl, rfl⟩)
  go_ret
  exact ⟨rfl, rfl⟩

set_option maxRecDepth 100000 in
set_option maxHeartbeats 2000000 in
theorem isFloat_some (b o c : Nat) (L : List Int) (w : World) (hm : L.length ≤ 1048576) (hl : 0 < L.length) (hb : b < w.heap.size) (hc : ∀ i, i < L.length → w.cell? ⟨b, o + i, none⟩ = some (.int .u8 (L.getD i 0))) :
    Calls Try.prog 14 #[.slice (some ⟨b, o, none⟩) L.length c] w fun e w' => e = .returned (.bool (isF L)) ∧ w = w' := by
  have HR : Hid (Rd .u8 w (some ⟨b, o, none⟩) L) := .inr ⟨b, o, rfl, hb, hc⟩
  have CC : Hid (∀ i, i < L.length → w.cell? ⟨b, o + i, none⟩ = some (.int .u8 (L.getD i 0))) := hc
  have c0 := hc 0 hl
  rw [Nat.add_zero] at c0
  clear hc
  have HSG : Hid (sgn L = if L.getD 0 0 = 45 then 1 else 0) := rfl
  generalize L.getD 0 0 = x0 at c0 HSG
  have hsle : sgn L ≤ L.length := sgn_le L
  have HI1 : Hid (i1F L = skip L (sgn L)) := rfl
  have hi1 : sgn L ≤ i1F L ∧ i1F L ≤ L.length := skip_le hsle
  have HI2 : Hid (i2F L = if L.getD (i1F L) 0 = 46 then skip L (i1F L + 1) else i1F L) := rfl
  have HMA : Hid (mantF L = if L.getD (i1F L) 0 = 46 then (i1F L - sgn L) + (skip L (i1F L + 1) - i1F L - 1) else i1F L - sgn L) := rfl
  have HF : Hid (isF L = (decide (mantF L ≠ 0) && tailF L (i2F L))) := rfl
  have hi2 : i2F L ≤ L.length := by
    rw [HI2.out]
    split
    · rename_i h
      have : i1F L < L.length := by
        rcases Nat.lt_or_ge (i1F L) L.length with h' | h'
        · exact h'
        · rw [getD_out h'] at h; cases h
      exact (skip_le (by omega)).2
    · exact hi1.2
  have hi2g : i1F L ≤ i2F L := by
    rw [HI2.out]
    split
    · rename_i h
      have : i1F L < L.length := by
        rcases Nat.lt_or_ge (i1F L) L.length with h' | h'
        · exact h'
        · rw [getD_out h'] at h; cases h
      have := (skip_le (L := L) (i := i1F L + 1) (by omega)).1
      omega
    · exact Nat.le_refl _
  go_enter Try.func14, Try.ntmps14
  go_upto_if 18 with fail
  go_cut [3] from 8 (fun s3 wx => w = wx ∧ s3 = .int .i64 ((sgn L : Nat) : Int))
  case first =>
    clear HR CC HI1 hi1 HI2 HMA HF hi2 hi2g hsle
    by_cases h45 : x0 = 45
    · have HE : Hid (sgn L = 1) := by have := HSG.out; rwa [if_pos h45] at this
      have g : (x0 == 45) = true := by simp [h45]
      clear HSG h45 c0
      go_wp2
      go_meet
      case rel => exact ⟨rfl, by rw [HE.out]; rfl⟩
    · have HE : Hid (sgn L = 0) := by have := HSG.out; rwa [if_neg h45] at this
      have g : (x0 == 45) = false := by simp [h45]
      clear HSG h45 c0
      go_wp2
      go_meet
      case rel => exact ⟨rfl, by rw [HE.out]; rfl⟩
  case rest =>
    obtain ⟨rfl, rfl⟩ := hcut
    clear HSG c0
    obtain ⟨hk1, hk2⟩ := skip_le hsle
    obtain ⟨hi1a, hi1b⟩ := hi1
    go_upto_region 7 with (go_at_call 17; refine (skip_any _ _ HR.out hm hsle).mono ?_; rintro e w' ⟨rfl, rfl⟩)
    rw [← HI1.out]
    have HB : Hid (∀ p : Prop, (i1F L < L.length → w.cell? ⟨b, o + i1F L, none⟩ = some (.int .u8 (L.getD (i1F L) 0)) → p) → (L.length ≤ i1F L → L.getD (i1F L) 0 = 0 → p) → p) := fun p h1 h2 => by
      rcases Nat.lt_or_ge (i1F L) L.length with h | h
      · exact h1 h (CC.out _ h)
      · exact h2 h (getD_out h)
    generalize L.getD (i1F L) 0 = x1 at HI2 HMA HB
    go_cut [38] from 8 (fun s38 wx => w = wx ∧ s38 = .bool (decide (x1 = 46)))
    case first =>
      clear HR CC HI1 HI2 HMA HF hi2 hi2g hsle
      apply HB.out
      · intro hlt hcell
        have ii : (i1F L : Int) < (L.length : Int) := by omega
        by_cases h46 : x1 = 46
        · have g : (x1 == 46) = true := by simp [h46]
          have g' : Hid (decide (x1 = 46) = true) := by show _ = _; simp [h46]
          clear h46 HB
          go_wp2
          go_meet
          case rel => exact ⟨rfl, by rw [g'.out]⟩
        · have g : (x1 == 46) = false := by simp [h46]
          have g' : Hid (decide (x1 = 46) = false) := by show _ = _; simp [h46]
          clear h46 HB
          go_wp2
          go_meet
          case rel => exact ⟨rfl, by rw [g'.out]⟩
      · intro hge hz
        have g' : Hid (decide (x1 = 46) = false) := by show _ = _; rw [hz]; rfl
        clear hz HB
        go_wp2
        go_meet
        case rel => exact ⟨rfl, by rw [g'.out]⟩
    case rest =>
      obtain ⟨rfl, rfl⟩ := hcut
      go_upto_if 38 with fail
      go_cut [3, 5] from 8 (fun s3 s5 wx => w = wx ∧ s3 = .int .i64 ((i2F L : Nat) : Int) ∧ s5 = .int .i64 ((mantF L : Nat) : Int))
      case first =>
        by_cases h46 : x1 = 46
        · have hlt : i1F L < L.length := by
            apply HB.out
            · intro h _; exact h
            · intro _ hz; rw [h46] at hz; cases hz
          have HI : Hid (i2F L = skip L (i1F L + 1)) := by have := HI2.out; rwa [if_pos h46] at this
          have HM : Hid (mantF L = (i1F L - sgn L) + (skip L (i1F L + 1) - i1F L - 1)) := by have := HMA.out; rwa [if_pos h46] at this
          obtain ⟨sk1, sk2⟩ := skip_le (L := L) (i := i1F L + 1) (by omega)
          have hcall := fun c => skip_any (c := c) (i1F L + 1) HR.out hm (by omega)
          rw [show ((i1F L + 1 : Nat) : Int) = (i1F L : Int) + 1 by omega] at hcall
          have g' : decide (x1 = 46) = true := by simp [h46]
          clear h46 HB HI2 HMA HF HI1 CC
          generalize skip L (i1F L + 1) = k2 at *
          rw [g']
          go_wp2_with (go_at_call 17; refine (hcall _).mono ?_; rintro e w' ⟨rfl, rfl⟩)
          go_meet
          case rel => exact ⟨rfl, by rw [HI.out], by rw [HM.out]; go_num⟩
        · have HI : Hid (i2F L = i1F L) := by have := HI2.out; rwa [if_neg h46] at this
          have HM : Hid (mantF L = i1F L - sgn L) := by have := HMA.out; rwa [if_neg h46] at this
          have g' : decide (x1 = 46) = false := by simp [h46]
          clear h46 HB HI2 HMA HF HI1 CC
          rw [g']
          go_wp2
          go_meet
          case rel => exact ⟨rfl, by rw [HI.out], by rw [HM.out]; go_num⟩
      case rest =>
        obtain ⟨rfl, rfl, rfl⟩ := hcut
        clear HI2 HMA HB HI1
        generalize mantF L = mm at *
        generalize i2F L = i2 at *
        by_cases hm0 : mm = 0
        · have g : ((mm : Int) == 0) = true := by simp [hm0]
          have HZ : Hid (isF L = false) := by have := HF.out; rwa [hm0, show decide ((0 : Nat) ≠ 0) = false from rfl, Bool.false_and] at this
          clear HF hm0 CC HR
          go_wp2
          go_ret
          exact ⟨ret_bool HZ.out.symm, rfl⟩
        · have g : ((mm : Int) == 0) = false := by simp only [beq_eq_false_iff_ne]; omega
          have HT : Hid (isF L = tailF L i2) := by have := HF.out; rwa [show decide (mm ≠ 0) = true from decide_eq_true hm0, Bool.true_and] at this
          clear HF hm0
          go_upto_region 13 with fail
          have HB : Hid (∀ p : Prop, (i2 < L.length → w.cell? ⟨b, o + (i2), none⟩ = some (.int .u8 (L.getD (i2) 0)) → p) → (L.length ≤ i2 → L.getD (i2) 0 = 0 → p) → p) := fun p h1 h2 => by
            rcases Nat.lt_or_ge (i2) L.length with h | h
            · exact h1 h (CC.out _ h)
            · exact h2 h (getD_out h)
          have HTL : Hid (tailF L i2 = if isE (L.getD i2 0) = true then expF L (i2 + 1) else decide (i2 = L.length)) := rfl
          generalize L.getD i2 0 = x2 at HB HTL
          go_cut [69] from 8 (fun sv wx => w = wx ∧ sv = .bool (isE x2))
          case first =>
            apply HB.out
            · intro hlt hcell
              have ii : (i2 : Int) < (L.length : Int) := by omega
              clear HB HTL HT CC HR
              by_cases hA : x2 = 101
              · have g : (x2 == 101) = true := by simp [hA]
                have g' : Hid (isE x2 = true) := by show _ = _; rw [hA]; rfl
                clear hA
                go_wp2
                go_meet
                case rel => exact ⟨rfl, by rw [g'.out]⟩
              · have g : (x2 == 101) = false := by simp [hA]
                by_cases hB : x2 = 69
                · have g2 : (x2 == 69) = true := by simp [hB]
                  have g' : Hid (isE x2 = true) := by show _ = _; rw [hB]; rfl
                  clear hA hB
                  go_wp2
                  go_meet
                  case rel => exact ⟨rfl, by rw [g'.out]⟩
                · have g2 : (x2 == 69) = false := by simp [hB]
                  have g' : Hid (isE x2 = false) := by show _ = _; simp [isE, hA, hB]
                  clear hA hB
                  go_wp2
                  go_meet
                  case rel => exact ⟨rfl, by rw [g'.out]⟩
            · intro hge hz
              have g' : Hid (isE x2 = false) := by show _ = _; rw [hz]; rfl
              clear HB hz HTL HT CC HR
              go_wp2
              go_meet
              case rel => exact ⟨rfl, by rw [g'.out]⟩
          case rest =>
            obtain ⟨rfl, rfl⟩ := hcut
            by_cases hE : isE x2 = true
            · have hlt : i2 < L.length := by
                apply HB.out
                · intro h _; exact h
                · intro _ hz; rw [hz] at hE; cases hE
              have HT2 : Hid (isF L = expF L (i2 + 1)) := by have := HT.out; rw [HTL.out, if_pos hE] at this; exact this
              rw [hE]
              clear HT HTL HB hE
              go_upto_region 15 with fail
              have HB : Hid (∀ p : Prop, (i2 + 1 < L.length → w.cell? ⟨b, o + (i2 + 1), none⟩ = some (.int .u8 (L.getD (i2 + 1) 0)) → p) → (L.length ≤ i2 + 1 → L.getD (i2 + 1) 0 = 0 → p) → p) := fun p h1 h2 => by
                rcases Nat.lt_or_ge (i2 + 1) L.length with h | h
                · exact h1 h (CC.out _ h)
                · exact h2 h (getD_out h)
              have HX : Hid (expF L (i2 + 1) = (decide (skip L (if isSg (L.getD (i2 + 1) 0) = true then i2 + 1 + 1 else i2 + 1) ≠ (if isSg (L.getD (i2 + 1) 0) = true then i2 + 1 + 1 else i2 + 1)) && decide (skip L (if isSg (L.getD (i2 + 1) 0) = true then i2 + 1 + 1 else i2 + 1) = L.length))) := rfl
              generalize L.getD (i2 + 1) 0 = x3 at HB HX
              go_cut [89] from 8 (fun sv wx => w = wx ∧ sv = .bool (isSg x3))
              case first =>
                apply HB.out
                · intro hlt hcell
                  have ii : ((i2 : Int) + 1) < (L.length : Int) := by omega
                  clear HB HX HT2 CC HR
                  by_cases hA : x3 = 43
                  · have g : (x3 == 43) = true := by simp [hA]
                    have g' : Hid (isSg x3 = true) := by show _ = _; rw [hA]; rfl
                    clear hA
                    go_wp2
                    go_meet
                    case rel => exact ⟨rfl, by rw [g'.out]⟩
                  · have g : (x3 == 43) = false := by simp [hA]
                    by_cases hB : x3 = 45
                    · have g2 : (x3 == 45) = true := by simp [hB]
                      have g' : Hid (isSg x3 = true) := by show _ = _; rw [hB]; rfl
                      clear hA hB
                      go_wp2
                      go_meet
                      case rel => exact ⟨rfl, by rw [g'.out]⟩
                    · have g2 : (x3 == 45) = false := by simp [hB]
                      have g' : Hid (isSg x3 = false) := by show _ = _; simp [isSg, hA, hB]
                      clear hA hB
                      go_wp2
                      go_meet
                      case rel => exact ⟨rfl, by rw [g'.out]⟩
                · intro hge hz
                  have g' : Hid (isSg x3 = false) := by show _ = _; rw [hz]; rfl
                  clear HB hz HX HT2 CC HR
                  go_wp2
                  go_meet
                  case rel => exact ⟨rfl, by rw [g'.out]⟩
              case rest =>
                obtain ⟨rfl, rfl⟩ := hcut
                by_cases hS : isSg x3 = true
                · have hlt2 : i2 + 1 < L.length := by
                    apply HB.out
                    · intro h _; exact h
                    · intro _ hz; rw [hz] at hS; cases hS
                  have HX2 : Hid (isF L = (decide (skip L (i2 + 1 + 1) ≠ i2 + 1 + 1) && decide (skip L (i2 + 1 + 1) = L.length))) := by have := HT2.out; rw [HX.out, if_pos hS] at this; exact this
                  have hcall := fun c => skip_any (c := c) (i2 + 1 + 1) HR.out hm (by omega)
                  rw [show ((i2 + 1 + 1 : Nat) : Int) = (i2 : Int) + 1 + 1 by omega] at hcall
                  obtain ⟨q1, q2⟩ := skip_le (L := L) (i := i2 + 1 + 1) (by omega)
                  rw [hS]
                  clear HX HT2 HB hS CC HR
                  generalize skip L (i2 + 1 + 1) = k4 at *
                  by_cases hk : k4 = i2 + 1 + 1
                  · have HZ : Hid (isF L = false) := by have := HX2.out; rwa [hk, show decide (i2 + 1 + 1 ≠ i2 + 1 + 1) = false by simp, Bool.false_and] at this
                    have g1 : ((k4 : Int) == (i2 : Int) + 1 + 1) = true := by simp only [beq_iff_eq]; omega
                    clear HX2 hk
                    go_wp2_with (go_at_call 17; refine (hcall _).mono ?_; rintro e w' ⟨rfl, rfl⟩)
                    go_ret
                    exact ⟨ret_bool HZ.out.symm, rfl⟩
                  · have HZ : Hid (isF L = decide (k4 = L.length)) := by have := HX2.out; rwa [show decide (k4 ≠ i2 + 1 + 1) = true from decide_eq_true hk, Bool.true_and] at this
                    have g1 : ((k4 : Int) == (i2 : Int) + 1 + 1) = false := by simp only [beq_eq_false_iff_ne]; omega
                    clear HX2 hk
                    go_wp2_with (go_at_call 17; refine (hcall _).mono ?_; rintro e w' ⟨rfl, rfl⟩)
                    go_ret
                    exact ⟨ret_bool (by rw [HZ.out]; exact int_beq _ _), rfl⟩
                · replace hS : isSg x3 = false := by simpa using hS
                  have HX2 : Hid (isF L = (decide (skip L (i2 + 1) ≠ i2 + 1) && decide (skip L (i2 + 1) = L.length))) := by have := HT2.out; rw [HX.out, hS] at this; exact this
                  have hcall := fun c => skip_any (c := c) (i2 + 1) HR.out hm (by omega)
                  rw [show ((i2 + 1 : Nat) : Int) = (i2 : Int) + 1 by omega] at hcall
                  obtain ⟨q1, q2⟩ := skip_le (L := L) (i := i2 + 1) (by omega)
                  rw [hS]
                  clear HX HT2 HB hS CC HR
                  generalize skip L (i2 + 1) = k4 at *
                  by_cases hk : k4 = i2 + 1
                  · have HZ : Hid (isF L = false) := by have := HX2.out; rwa [hk, show decide (i2 + 1 ≠ i2 + 1) = false by simp, Bool.false_and] at this
                    have g1 : ((k4 : Int) == (i2 : Int) + 1) = true := by simp only [beq_iff_eq]; omega
                    clear HX2 hk
                    go_wp2_with (go_at_call 17; refine (hcall _).mono ?_; rintro e w' ⟨rfl, rfl⟩)
                    go_ret
                    exact ⟨ret_bool HZ.out.symm, rfl⟩
                  · have HZ : Hid (isF L = decide (k4 = L.length)) := by have := HX2.out; rwa [show decide (k4 ≠ i2 + 1) = true from decide_eq_true hk, Bool.true_and] at this
                    have g1 : ((k4 : Int) == (i2 : Int) + 1) = false := by simp only [beq_eq_false_iff_ne]; omega
                    clear HX2 hk
                    go_wp2_with (go_at_call 17; refine (hcall _).mono ?_; rintro e w' ⟨rfl, rfl⟩)
                    go_ret
                    exact ⟨ret_bool (by rw [HZ.out]; exact int_beq _ _), rfl⟩
            · replace hE : isE x2 = false := by simpa using hE
              have HT2 : Hid (isF L = decide (i2 = L.length)) := by have := HT.out; rw [HTL.out, hE] at this; exact this
              rw [hE]
              clear HT HTL HB hE CC HR
              go_wp2
              go_ret
              exact ⟨ret_bool (by rw [HT2.out]; exact int_beq _ _), rfl⟩
end Go.Proofs.Qxb6605339a
