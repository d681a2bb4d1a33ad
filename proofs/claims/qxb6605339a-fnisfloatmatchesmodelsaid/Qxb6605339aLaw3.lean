import Derived.Test.Qxb6605339aFloatM
namespace Go.Proofs.Qxb6605339a
open Go.ChangeShapes Go.WideShapes Go.ChangeAt Go.RowKit

theorem model_any {w : World} {a : Option Addr} {L : List Int} (c : Nat) (hr : Rd .u8 w a L) (hm : L.length ≤ 1048576) :
    Calls Try.prog 8 #[.slice a L.length c] w fun e w' => e = .returned (.bool (modF L)) ∧ w = w' := by
  rcases hr with rfl | ⟨b, o, rfl, hb, hc⟩
  · exact model_nil a c w
  · by_cases hl : L.length = 0
    · have : L = [] := List.eq_nil_of_length_eq_zero hl
      subst this
      exact model_nil _ c w
    · exact model_some b o c L w hm (by omega) hc

/-- what copy asks of its source -/
theorem Rd_from {w : World} {x : Addr} {l : List Int} (h : Rd .u8 w (some x) l) : ∀ j v, (l.map (Value.int .u8))[j]? = some v → w.cell? (x.add j) = some v := by
  intro j v hj
  have hjl : j < l.length := by have := (List.getElem?_eq_some_iff.1 hj).1; simpa using this
  rcases h with rfl | ⟨b, o, e, _, hc⟩
  · simp at hjl
  · cases e
    rw [Addr.add_lit, hc j hjl, ← hj]
    simp [List.getD, hjl]

theorem law3_big (a : Option Addr) (n c : Nat) (w : World) (hm : n ≤ maxLen) (h : 1048576 < n) :
    Calls Try.prog 3 #[.slice a n c] w fun e w' => e = .returned (.bool true) ∧ Below w.heap.size w w' := by
  unfold maxLen at hm
  go_enter Try.func3, Try.ntmps3
  go_wp2
  go_ret
  exact ⟨rfl, Below.refl _ _⟩

set_option maxRecDepth 100000 in
set_option maxHeartbeats 1000000 in
theorem law3_main {w : World} {a : Option Addr} {L : List Int} (c : Nat) (hr : Rd .u8 w a L) (hn : a = none → L = [] ∧ c = 0) (hm : L.length ≤ 1048576) :
    Calls Try.prog 3 #[.slice a L.length c] w fun e w' => e = .returned (.bool true) ∧ Below w.heap.size w w' := by
  have f1 : ¬ (1048576 < L.length) := by omega
  have hsz5 : (Try.prog.info? 5).map (·.size) = some 1 := by kernel_rfl
  have hq : ∀ (w : World) (a : Option Addr) (n c n' c' : Nat), (binOp .neq 22 (.slice a n c) (.slice none n' c')).run Try.prog w = .ok (.bool (!a.isNone)) w := fun w a n c n' c' => run_neq_slice_nil_any w _ _ a n c n' c' Try.underlying22
  have HL : Hid (isF L = modF L) := float_law L
  go_enter Try.func3, Try.ntmps3
  go_upto_if 11 with (go_at_call 6; go_in)
  go_cut [0] from 4 (fun s1 wx => ∃ a' c', s1 = .slice a' L.length c' ∧ Rd .u8 wx a' L ∧ Below w.heap.size w wx)
  case first =>
    clear HL
    cases a with
    | none =>
      obtain ⟨rfl, rfl⟩ := hn rfl
      clear hn hr
      go_wp2
      go_meet
      case rel => exact ⟨none, 0, rfl, .inl rfl, Below.refl _ _⟩
    | some x =>
      clear hn
      obtain ⟨i0, hi, hz0, hz1, hz2⟩ := info_parts Try.info5
      go_wp2_with (at_make; refine wpList_make_full _ rfl _ _ 22 rfl w.heap.size 5 i0 (.int .u8 0) 1 Try.underlying22 hi hz0 hz1 _ _ _ _ L.length rfl rfl rfl rfl ?c1 ?c2 ?c3 ?_)
      case c1 => rw [hz2]; omega
      case c2 => unfold maxLen; omega
      case c3 => exact Nat.le_refl _
      intro w1 hown hgrow
      clear hi hz0 hz1 hz2
      have b1 : Below w.heap.size w w1 := (Below.refl _ _).grown hgrow (Nat.le_refl _) (by intro k h; cases h)
      obtain ⟨cur, hcur, hcl⟩ := made_row hown
      have HX := Rd_from (hr.below b1 (Nat.le_refl _))
      clear hown hgrow hr
      go_wp2_with (refine wpList_copy_splice rfl (.tmp 15) (.tmp 16) 22 22 rfl 5 Try.underlying22 hsz5 _ _ _ _ _ _ rfl rfl w.heap.size 0 cur 5 hcur (L.map (Value.int .u8)) ?k1 ?k2 ?k3 ?k4 w.heap.size w b1 (Nat.le_refl _) ?_)
      case k1 => simp
      case k2 => intro _ j a hj; exact HX j _ (by simp [hj])
      case k3 => simp [hcl]
      case k4 => exact ints_oneCell _ _
      intro w3 hg3 hb3
      have R3 := Rd_of_row (hg3.out) (splice_whole cur (L.map (Value.int .u8)) (by simp [hcl]))
      clear HX hg3 hcur b1
      go_wp2
      go_meet
      case rel => exact ⟨_, _, rfl, R3, hb3⟩
  case rest =>
    obtain ⟨a', c', rfl, R1, B1⟩ := hcut
    go_wp2_with fail
    refine (zzIsFloat_any c' R1 hm).mono ?_
    rintro e w' ⟨rfl, rfl⟩
    go_wp2_with fail
    refine (model_any c' R1 hm).mono ?_
    rintro e w' ⟨rfl, rfl⟩
    rw [HL.out]
    go_wp2
    go_ret
    exact ⟨ret_bool (by simp), B1⟩
end Go.Proofs.Qxb6605339a
