/-
  OUR OWN: what a slice of integers that is read looks like ('Rd'), how it is carried to a later world.
-/
import Derived.Test.Qxb6605220aRows
import Derived.WalkKit
import Derived.ProofKit
import Derived.OpenShut
import Derived.Below
import Derived.WalkSpells
import Derived.WalkLawsBesides
namespace Go.Proofs.Qxb6605220a
open Go.ChangeShapes Go.WideShapes Go.ChangeAt Go.RowKit

/-- The slice at address a holds, in world w, the numbers l of kind k (its length is l.length). -/
def Rd (k : IntKind) (w : World) (a : Option Addr) (l : List Int) : Prop :=
  l = [] ∨ ∃ b o, a = some ⟨b, o, none⟩ ∧ b < w.heap.size ∧ ∀ i, i < l.length → w.cell? ⟨b, o + i, none⟩ = some (.int k (l.getD i 0))

theorem Rd.below {k : IntKind} {w w' : World} {B : Nat} {a : Option Addr} {l : List Int} (h : Rd k w a l) (hb : Below B w w') (hB : w.heap.size ≤ B) : Rd k w' a l := by
  rcases h with h | ⟨b, o, rfl, hlt, hc⟩
  · exact .inl h
  · refine .inr ⟨b, o, rfl, Nat.lt_of_lt_of_le hlt hb.size, fun i hi => ?_⟩
    rw [hb.cell (p := ⟨b, o + i, none⟩) (by show b < B; omega)]
    exact hc i hi

def byt (l : List Int) : Prop := ∀ i, 0 ≤ l.getD i 0 ∧ l.getD i 0 ≤ 255

def lastB : List Int → Int := fun l => l.getD (l.length - 1) 0
def validB (l : List Int) : Bool := l.length == 0 || (lastB l != 0)

theorem zzValidSet_empty (a : Option Addr) (c : Nat) (w : World) :
    Calls Try.prog 9 #[.slice a 0 c] w fun e w' => e = .returned (.bool true) ∧ w = w' := by
  go_enter Try.func9, Try.ntmps9
  go_wp2
  go_ret
  exact ⟨rfl, rfl⟩

theorem zzValidSet_some (b o c n : Nat) (z : Int) (w : World) (hn : 0 < n) (hm : n ≤ 1048576) (hc : w.cell? ⟨b, o + (n - 1), none⟩ = some (.int .u8 z)) :
    Calls Try.prog 9 #[.slice (some ⟨b, o, none⟩) n c] w fun e w' => e = .returned (.bool (z != 0)) ∧ w = w' := by
  have hn' : ((n : Int) == 0) = false := by simp; omega
  go_enter Try.func9, Try.ntmps9
  go_wp2
  go_ret
  exact ⟨rfl, rfl⟩


theorem getD_last (l : List Int) : l.getD (l.length - 1) 0 = lastB l := rfl

theorem zzValidSet_any {w : World} {a : Option Addr} {l : List Int} (c : Nat) (h : Rd .u8 w a l) (hm : l.length ≤ 1048576) :
    Calls Try.prog 9 #[.slice a l.length c] w fun e w' => e = .returned (.bool (validB l)) ∧ w = w' := by
  rcases h with rfl | ⟨b, o, rfl, hlt, hc⟩
  · exact zzValidSet_empty a c w
  · by_cases hl : l.length = 0
    · have : l = [] := List.eq_nil_of_length_eq_zero hl
      subst this
      exact zzValidSet_empty _ c w
    · have e : validB l = (lastB l != 0) := by simp [validB, hl]
      rw [e]
      exact zzValidSet_some b o c l.length (lastB l) w (by omega) hm (hc _ (by omega))

theorem Try.info5 : (Try.prog.info? 5).map (fun i => (i.zero, i.size, i.bytes)) = some (some (.int .u8 0), 1, 1) := by kernel_rfl

/-! ### zzCloneBytes -/
theorem clone_nil (c : Nat) (w : World) : Calls Try.prog 10 #[.slice none 0 c] w fun e w' => e = .returned (.slice none 0 0) ∧ w = w' := by
  have hq : ∀ (w : World) (a : Option Addr) (n c n' c' : Nat), (binOp .eql 22 (.slice a n c) (.slice none n' c')).run Try.prog w = .ok (.bool a.isNone) w := fun w a n c n' c' => Lib.run_eql_slice_nil w _ _ a n c n' c' Try.underlying22
  go_enter Try.func10, Try.ntmps10
  go_wp2
  go_ret
  exact ⟨rfl, rfl⟩


/-- what the new row holds when the first k numbers are copied -/
def part (kd : IntKind) (l : List Int) (k : Nat) : List Value := (l.take k).map (Value.int kd) ++ List.replicate (l.length - k) (Value.int kd 0)

theorem part_zero (kd : IntKind) (l : List Int) : (madeCells #[Value.int kd 0] l.length).toList = part kd l 0 := by
  rw [toList_madeCells_one]; simp [part]
theorem part_all (kd : IntKind) (l : List Int) : part kd l l.length = l.map (Value.int kd) := by simp [part]
theorem part_get (kd : IntKind) (l : List Int) (k : Nat) (h : k ≤ l.length) (i : Nat) : (part kd l k)[i]? = if i < l.length then some (.int kd (if i < k then l.getD i 0 else 0)) else none := by
  unfold part
  by_cases h1 : i < k
  · rw [List.getElem?_append_left (by simp; omega)]
    simp [h1, show i < l.length by omega, List.getD]
  · rw [List.getElem?_append_right (by simp; omega)]
    simp only [List.getElem?_replicate, List.length_map, List.length_take, h1, if_false]
    have : (i - min k l.length < l.length - k) ↔ i < l.length := by omega
    simp [this]
theorem part_succ (kd : IntKind) (l : List Int) (k : Nat) (h : k < l.length) : (part kd l k).set k (.int kd (l.getD k 0)) = part kd l (k + 1) := by
  apply List.ext_getElem?
  intro j
  rw [List.getElem?_set, part_get kd l k (by omega), part_get kd l (k + 1) (by omega)]
  by_cases hj : k = j
  · subst hj
    have hl : (part kd l k).length = l.length := by simp [part]; omega
    simp [h, hl]
  · rw [if_neg hj]
    have : (j < k) ↔ (j < k + 1) := by omega
    simp [this]

set_option maxHeartbeats 400000 in
theorem clone_some (b o : Nat) (l : List Int) (c : Nat) (w : World) (hm : l.length ≤ 1048576) (hb : b < w.heap.size) (hc : ∀ i, i < l.length → w.cell? ⟨b, o + i, none⟩ = some (.int .u8 (l.getD i 0))) :
    Calls Try.prog 10 #[.slice (some ⟨b, o, none⟩) l.length c] w fun e w' => e = .returned (.slice (some ⟨w.heap.size, 0, none⟩) l.length l.length) ∧ w'.ownsRow w.heap.size 5 1 (.slice (some ⟨w.heap.size, 0, none⟩) l.length l.length) l.length (l.map (Value.int .u8)) ∧ Below w.heap.size w w' := by
  have hq : ∀ (w : World) (a : Option Addr) (n c n' c' : Nat), (binOp .eql 22 (.slice a n c) (.slice none n' c')).run Try.prog w = .ok (.bool a.isNone) w := fun w a n c n' c' => Lib.run_eql_slice_nil w _ _ a n c n' c' Try.underlying22
  obtain ⟨i0, hi, hz0, hz1, hz2⟩ := info_parts Try.info5
  go_enter Try.func10, Try.ntmps10
  go_wp2_with (at_make; refine wpList_make_full _ rfl _ _ 22 rfl w.heap.size 5 i0 (.int .u8 0) 1 Try.underlying22 hi hz0 hz1 _ _ _ _ l.length rfl rfl rfl rfl ?c1 ?c2 ?c3 ?_)
  case c1 => rw [hz2]; omega
  case c2 => unfold maxLen; omega
  case c3 => exact Nat.le_refl _
  intro w1 hown hgrow
  have hbel : Below w.heap.size w w1 := (Below.refl _ _).grown hgrow (Nat.le_refl _) (by intro k h; cases h)
  rw [part_zero] at hown
  clear hi hz0 hz1 hz2 hgrow
  go_wp2
  go_loopw [4] (fun i wr => ∃ k : Nat, k ≤ l.length ∧ i = .int .i64 k ∧ wr.ownsRow w.heap.size 5 1 (.slice (some ⟨w.heap.size, 0, none⟩) l.length l.length) l.length (part .u8 l k) ∧ Below w.heap.size w wr)
    (fun i _ => l.length - (intOf i).toNat)
  case atStart => exact ⟨0, Nat.zero_le _, rfl, hown, hbel⟩
  case round =>
    clear hown hbel
    obtain ⟨k, hk, rfl, hown, hbel⟩ := hrel
    by_cases hlt : k < l.length
    · have hcell : wr.cell? ⟨b, o + k, none⟩ = some (.int .u8 (l.getD k 0)) := (hbel.cell (by exact hb)).trans (hc k hlt)
      have hf := hown.frozenAt k
      have hold := hown.cellAt k (by omega)
      have hold2 : (part .u8 l k)[k]? = some (.int .u8 0) := by rw [part_get _ _ _ hk]; simp [hlt]
      rw [hold2] at hold
      obtain ⟨hown', hgrow'⟩ := hown.stored k (.int .u8 (l.getD k 0))
      rw [part_succ .u8 l k hlt] at hown'
      have hbel' : Below w.heap.size w (wr.setCell ⟨w.heap.size, k, none⟩ (.int .u8 (l.getD k 0))) := hbel.setCell (Nat.le_refl _) _
      generalize l.getD k 0 = z at hcell hown' hbel'
      clear hold2 hgrow' hc
      go_wp2
      go_roundw
      case rel => exact ⟨k + 1, by omega, by go_num, hown', hbel'⟩
      case measure => simp [intOf]; omega
    · obtain rfl : k = l.length := by omega
      rw [part_all] at hown
      go_wp2
      go_ret
      exact ⟨rfl, hown, hbel⟩

theorem clone_empty (x : Addr) (c : Nat) (w : World) :
    Calls Try.prog 10 #[.slice (some x) 0 c] w fun e w' => e = .returned (.slice (some ⟨w.heap.size, 0, none⟩) 0 0) ∧ w'.ownsRow w.heap.size 5 1 (.slice (some ⟨w.heap.size, 0, none⟩) 0 0) 0 [] ∧ Below w.heap.size w w' := by
  have hq : ∀ (w : World) (a : Option Addr) (n c n' c' : Nat), (binOp .eql 22 (.slice a n c) (.slice none n' c')).run Try.prog w = .ok (.bool a.isNone) w := fun w a n c n' c' => Lib.run_eql_slice_nil w _ _ a n c n' c' Try.underlying22
  obtain ⟨i0, hi, hz0, hz1, hz2⟩ := info_parts Try.info5
  go_enter Try.func10, Try.ntmps10
  go_wp2_with (at_make; refine wpList_make_full _ rfl _ _ 22 rfl w.heap.size 5 i0 (.int .u8 0) 1 Try.underlying22 hi hz0 hz1 _ _ _ _ 0 rfl rfl rfl rfl ?c1 ?c2 ?c3 ?_)
  case c1 => rw [hz2]; omega
  case c2 => unfold maxLen; omega
  case c3 => exact Nat.le_refl _
  intro w1 hown hgrow
  have hbel : Below w.heap.size w w1 := (Below.refl _ _).grown hgrow (Nat.le_refl _) (by intro k h; cases h)
  have e0 : (madeCells #[Value.int .u8 0] 0).toList = [] := by rw [toList_madeCells_one]; rfl
  rw [e0] at hown
  clear hi hz0 hz1 hz2 hgrow e0
  go_wp2
  refine wp_loop_rounds 1 ?_
  rw [rounds_succ]
  go_wp2
  go_ret
  exact ⟨rfl, hown, hbel⟩

/-- An owned row of numbers is a slice that reads them. -/
theorem Rd_of_own {k : IntKind} {w : World} {B : Nat} {e : TypeId} {g c : Nat} {l : List Int} (h : w.ownsRow B e 1 (.slice (some ⟨g, 0, none⟩) l.length c) l.length (l.map (Value.int k))) : Rd k w (some ⟨g, 0, none⟩) l := by
  refine .inr ⟨g, 0, rfl, (h.lt g rfl).2, fun i hi => ?_⟩
  rw [Nat.zero_add, h.cellAt i (by omega)]
  simp [List.getD, hi]

/-- zzCloneBytes: a copy in new memory; nil of nil. -/
theorem clone_any {w : World} {a : Option Addr} {l : List Int} (c : Nat) (h : Rd .u8 w a l) (hn : a = none → l = []) (hm : l.length ≤ 1048576) :
    Calls Try.prog 10 #[.slice a l.length c] w fun e w' => ∃ a' c', e = .returned (.slice a' l.length c') ∧ Rd .u8 w' a' l ∧ (a' = none ↔ a = none) ∧ Below w.heap.size w w' := by
  cases a with
  | none =>
    obtain rfl := hn rfl
    refine (clone_nil c w).mono fun e w' ⟨he, hw⟩ => ?_
    subst he; subst hw
    exact ⟨none, 0, rfl, .inl rfl, Iff.rfl, Below.refl _ _⟩
  | some x =>
    rcases h with rfl | ⟨b, o, hx, hlt, hc⟩
    · refine (clone_empty x c w).mono fun e w' ⟨he, ho, hb⟩ => ?_
      subst he
      exact ⟨_, _, rfl, .inl rfl, by simp, hb⟩
    · cases hx
      refine (clone_some b o l c w hm hlt hc).mono fun e w' ⟨he, ho, hb⟩ => ?_
      subst he
      exact ⟨_, _, rfl, Rd_of_own ho, by simp, hb⟩

/-- WHAT A SLICE OF INTEGERS THAT CAME IN LOOKS LIKE (the shell's own words): nil; or a row of 'cap' cells, the numbers 'zs', the first 'len' its elements. -/
def IsRow (k : IntKind) (w : World) (a : Option Addr) (len cap : Nat) (zs : List Int) : Prop :=
  (a = none ∧ len = 0 ∧ cap = 0 ∧ zs = []) ∨
  ∃ x, a = some x ∧ len ≤ cap ∧ cap ≤ maxLen ∧ zs.length = cap ∧ (∀ i, i < zs.length → w.cell? (x.add i) = some (.int k (zs.getD i 0))) ∧ ∀ n ∈ zs, (Lit.int k n).wf = true

theorem IsRow.len_eq {k : IntKind} {w : World} {a : Option Addr} {len cap : Nat} {zs : List Int} (h : IsRow k w a len cap zs) : (zs.take len).length = len := by
  rcases h with ⟨_, rfl, _, rfl⟩ | ⟨x, _, h1, _, h2, _⟩
  · rfl
  · simp; omega

theorem IsRow.le {k : IntKind} {w : World} {a : Option Addr} {len cap : Nat} {zs : List Int} (h : IsRow k w a len cap zs) : len ≤ maxLen := by
  rcases h with ⟨_, rfl, _, rfl⟩ | ⟨x, _, h1, h2, _⟩
  · exact Nat.zero_le _
  · omega

theorem IsRow.nil {k : IntKind} {w : World} {a : Option Addr} {len cap : Nat} {zs : List Int} (h : IsRow k w a len cap zs) : a = none → zs.take len = [] := by
  rcases h with ⟨_, rfl, _, rfl⟩ | ⟨x, rfl, _⟩
  · intro _; rfl
  · intro h; cases h

theorem IsRow.rd {k : IntKind} {w : World} {a : Option Addr} {len cap : Nat} {zs : List Int} (h : IsRow k w a len cap zs) : Rd k w a (zs.take len) := by
  rcases h with ⟨_, rfl, _, rfl⟩ | ⟨x, rfl, h1, _, h2, hc, _⟩
  · exact .inl rfl
  · by_cases hl : zs.take len = []
    · exact .inl hl
    · have hpos : 0 < (zs.take len).length := List.length_pos_iff.2 hl
      simp at hpos
      obtain ⟨b, o, spot⟩ := x
      have h0 := hc 0 (by omega)
      have hspot : spot = none := by simpa [Addr.add] using World.cell?_spot h0
      subst hspot
      refine .inr ⟨b, o, rfl, ?_, fun i hi => ?_⟩
      · have := World.block_lt_of_cell? w _ h0
        simpa [Addr.add] using this
      · have hi' : i < len ∧ i < zs.length := by simp at hi; omega
        have := hc i hi'.2
        rw [add_plain] at this
        rw [this]
        simp [List.getD, hi'.1]

theorem IsRow.byt {w : World} {a : Option Addr} {len cap : Nat} {zs : List Int} (h : IsRow .u8 w a len cap zs) : byt (zs.take len) := by
  intro i
  by_cases hi : i < (zs.take len).length
  · have hm : (zs.take len).getD i 0 ∈ zs := by
      rw [List.getD, List.getElem?_eq_getElem hi]
      exact List.mem_of_mem_take (List.getElem_mem hi)
    rcases h with ⟨_, rfl, _, rfl⟩ | ⟨x, _, _, _, _, _, hw⟩
    · simp at hi
    · have := bounds_u8 (hw _ hm)
      omega
  · rw [List.getD, List.getElem?_eq_none (by omega)]
    simp
end Go.Proofs.Qxb6605220a
