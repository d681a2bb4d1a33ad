import Derived.Test.Qxb6605220aPartsB
namespace Go.Proofs.Qxb6605220a
open Go.ChangeShapes Go.WideShapes Go.ChangeAt Go.RowKit

theorem Try.info57 : (Try.prog.info? 57).map (fun i => (i.zero, i.size, i.bytes)) = some (some (.int .u32 0), 1, 4) := by kernel_rfl

/-! ### zzCloneU32 -/
theorem clone32_nil (c : Nat) (w : World) : Calls Try.prog 30 #[.slice none 0 c] w fun e w' => e = .returned (.slice none 0 0) ∧ w = w' := by
  have hq : ∀ (w : World) (a : Option Addr) (n c n' c' : Nat), (binOp .eql 35 (.slice a n c) (.slice none n' c')).run Try.prog w = .ok (.bool a.isNone) w := fun w a n c n' c' => Lib.run_eql_slice_nil w _ _ a n c n' c' Try.underlying35
  go_enter Try.func30, Try.ntmps30
  go_wp2
  go_ret
  exact ⟨rfl, rfl⟩


set_option maxHeartbeats 400000 in
theorem clone32_some (b o : Nat) (l : List Int) (c : Nat) (w : World) (hm : l.length ≤ 1048576) (hb : b < w.heap.size) (hc : ∀ i, i < l.length → w.cell? ⟨b, o + i, none⟩ = some (.int .u32 (l.getD i 0))) :
    Calls Try.prog 30 #[.slice (some ⟨b, o, none⟩) l.length c] w fun e w' => e = .returned (.slice (some ⟨w.heap.size, 0, none⟩) l.length l.length) ∧ w'.ownsRow w.heap.size 57 1 (.slice (some ⟨w.heap.size, 0, none⟩) l.length l.length) l.length (l.map (Value.int .u32)) ∧ Below w.heap.size w w' := by
  have hq : ∀ (w : World) (a : Option Addr) (n c n' c' : Nat), (binOp .eql 35 (.slice a n c) (.slice none n' c')).run Try.prog w = .ok (.bool a.isNone) w := fun w a n c n' c' => Lib.run_eql_slice_nil w _ _ a n c n' c' Try.underlying35
  obtain ⟨i0, hi, hz0, hz1, hz2⟩ := info_parts Try.info57
  go_enter Try.func30, Try.ntmps30
  go_wp2_with (at_make; refine wpList_make_full _ rfl _ _ 35 rfl w.heap.size 57 i0 (.int .u32 0) 1 Try.underlying35 hi hz0 hz1 _ _ _ _ l.length rfl rfl rfl rfl ?c1 ?c2 ?c3 ?_)
  case c1 => rw [hz2]; omega
  case c2 => unfold maxLen; omega
  case c3 => exact Nat.le_refl _
  intro w1 hown hgrow
  have hbel : Below w.heap.size w w1 := (Below.refl _ _).grown hgrow (Nat.le_refl _) (by intro k h; cases h)
  rw [part_zero] at hown
  clear hi hz0 hz1 hz2 hgrow
  go_wp2
  go_loopw [4] (fun i wr => ∃ k : Nat, k ≤ l.length ∧ i = .int .i64 k ∧ wr.ownsRow w.heap.size 57 1 (.slice (some ⟨w.heap.size, 0, none⟩) l.length l.length) l.length (part .u32 l k) ∧ Below w.heap.size w wr)
    (fun i _ => l.length - (intOf i).toNat)
  case atStart => exact ⟨0, Nat.zero_le _, rfl, hown, hbel⟩
  case round =>
    clear hown hbel
    obtain ⟨k, hk, rfl, hown, hbel⟩ := hrel
    by_cases hlt : k < l.length
    · have hcell : wr.cell? ⟨b, o + k, none⟩ = some (.int .u32 (l.getD k 0)) := (hbel.cell (by exact hb)).trans (hc k hlt)
      have hf := hown.frozenAt k
      have hold := hown.cellAt k (by omega)
      have hold2 : (part .u32 l k)[k]? = some (.int .u32 0) := by rw [part_get _ _ _ hk]; simp [hlt]
      rw [hold2] at hold
      obtain ⟨hown', hgrow'⟩ := hown.stored k (.int .u32 (l.getD k 0))
      rw [part_succ .u32 l k hlt] at hown'
      have hbel' : Below w.heap.size w (wr.setCell ⟨w.heap.size, k, none⟩ (.int .u32 (l.getD k 0))) := hbel.setCell (Nat.le_refl _) _
      generalize l.getD k 0 = z at hcell hown' hbel'
      clear hold2 hgrow' hc
      go_wp2
      go_roundw
      case rel => exact ⟨k + 1, by omega, by go_num, hown', hbel'⟩
      case measure => simp [intOf]; omega
    · obtain rfl : k = l.length := by omega
      rw [part_all] at hown
      go_wp2
      go_ret
      exact ⟨rfl, hown, hbel⟩

theorem clone32_empty (x : Addr) (c : Nat) (w : World) :
    Calls Try.prog 30 #[.slice (some x) 0 c] w fun e w' => e = .returned (.slice (some ⟨w.heap.size, 0, none⟩) 0 0) ∧ w'.ownsRow w.heap.size 57 1 (.slice (some ⟨w.heap.size, 0, none⟩) 0 0) 0 [] ∧ Below w.heap.size w w' := by
  have hq : ∀ (w : World) (a : Option Addr) (n c n' c' : Nat), (binOp .eql 35 (.slice a n c) (.slice none n' c')).run Try.prog w = .ok (.bool a.isNone) w := fun w a n c n' c' => Lib.run_eql_slice_nil w _ _ a n c n' c' Try.underlying35
  obtain ⟨i0, hi, hz0, hz1, hz2⟩ := info_parts Try.info57
  go_enter Try.func30, Try.ntmps30
  go_wp2_with (at_make; refine wpList_make_full _ rfl _ _ 35 rfl w.heap.size 57 i0 (.int .u32 0) 1 Try.underlying35 hi hz0 hz1 _ _ _ _ 0 rfl rfl rfl rfl ?c1 ?c2 ?c3 ?_)
  case c1 => rw [hz2]; omega
  case c2 => unfold maxLen; omega
  case c3 => exact Nat.le_refl _
  intro w1 hown hgrow
  have hbel : Below w.heap.size w w1 := (Below.refl _ _).grown hgrow (Nat.le_refl _) (by intro k h; cases h)
  have e0 : (madeCells #[Value.int .u32 0] 0).toList = [] := by rw [toList_madeCells_one]; rfl
  rw [e0] at hown
  clear hi hz0 hz1 hz2 hgrow e0
  go_wp2
  refine wp_loop_rounds 1 ?_
  rw [rounds_succ]
  go_wp2
  go_ret
  exact ⟨rfl, hown, hbel⟩

/-- zzCloneU32: a copy in new memory; nil of nil. -/
theorem clone32_any {w : World} {a : Option Addr} {l : List Int} (c : Nat) (h : Rd .u32 w a l) (hn : a = none → l = []) (hm : l.length ≤ 1048576) :
    Calls Try.prog 30 #[.slice a l.length c] w fun e w' => ∃ a' c', e = .returned (.slice a' l.length c') ∧ Rd .u32 w' a' l ∧ (a' = none ↔ a = none) ∧ Below w.heap.size w w' := by
  cases a with
  | none =>
    obtain rfl := hn rfl
    refine (clone32_nil c w).mono fun e w' ⟨he, hw⟩ => ?_
    subst he; subst hw
    exact ⟨none, 0, rfl, .inl rfl, Iff.rfl, Below.refl _ _⟩
  | some x =>
    rcases h with rfl | ⟨b, o, hx, hlt, hc⟩
    · refine (clone32_empty x c w).mono fun e w' ⟨he, ho, hb⟩ => ?_
      subst he
      exact ⟨_, _, rfl, .inl rfl, by simp, hb⟩
    · cases hx
      refine (clone32_some b o l c w hm hlt hc).mono fun e w' ⟨he, ho, hb⟩ => ?_
      subst he
      exact ⟨_, _, rfl, Rd_of_own ho, by simp, hb⟩

end Go.Proofs.Qxb6605220a
