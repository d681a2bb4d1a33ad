import Derived.Test.Qxb6605220aU32
import Derived.Deep.RegionHeld3
namespace Go.Proofs.Qxb6605220a
open Go.ChangeShapes Go.WideShapes Go.ChangeAt Go.RowKit

/-- block g is a row of m cells of type e, none of them frozen -/
def Own (e : TypeId) (w : World) (g m : Nat) : Prop := ∃ cur : Array Value, w.heap[g]? = some (.cells cur e (0, 0)) ∧ cur.size = m

theorem Own.lt {e : TypeId} {w : World} {g m : Nat} (h : Own e w g m) : g < w.heap.size := by
  obtain ⟨cur, h1, _⟩ := h
  exact (Array.getElem?_eq_some_iff.1 h1).1
theorem Own.cell {e : TypeId} {w : World} {g m : Nat} (h : Own e w g m) {i : Nat} (hi : i < m) : ∃ v, w.cell? ⟨g, i, none⟩ = some v := by
  obtain ⟨cur, h1, h2⟩ := h
  exact ⟨cur[i], by rw [cell_of_row w g i cur e (0, 0) h1]; simp [h2, hi]⟩
theorem Own.frozen {e : TypeId} {w : World} {g m : Nat} (h : Own e w g m) (i : Nat) : w.frozen? ⟨g, i, none⟩ = false := by
  obtain ⟨cur, h1, _⟩ := h
  exact frozen_of_row w g i cur e h1
theorem Own.setCell {e : TypeId} {w : World} {g m : Nat} (h : Own e w g m) (i : Nat) (v : Value) : Own e (w.setCell ⟨g, i, none⟩ v) g m := by
  obtain ⟨cur, h1, h2⟩ := h
  exact ⟨_, heap_setCell_same w g i cur e v h1, by simpa using h2⟩
theorem Own.below {e : TypeId} {w w' : World} {B g m : Nat} (h : Own e w g m) (hb : Below B w w') (hg : g < B) : Own e w' g m := by
  obtain ⟨cur, h1, h2⟩ := h
  exact ⟨cur, by rw [hb.block g hg]; exact h1, h2⟩
theorem Own.of_row {e : TypeId} {w : World} {B g n c size : Nat} {xs : List Value} (h : w.ownsRow B e size (.slice (some ⟨g, 0, none⟩) n c) n xs) : B ≤ g ∧ Own e w g (c * size) := by
  rcases h.2 with ⟨h', _⟩ | ⟨g', cap', cur, h', hb, hg, _, _, hs, _⟩
  · cases h'
  · cases h'
    exact ⟨hb, cur, hg, hs⟩

/-- what a cell holds, as a plain function -/
def cellAt (w : World) (a : Addr) : Value := (w.cell? a).getD (.bool false)
theorem Own.cellAt {e : TypeId} {w : World} {g m : Nat} (h : Own e w g m) {i : Nat} (hi : i < m) : w.cell? ⟨g, i, none⟩ = some (cellAt w ⟨g, i, none⟩) := by
  obtain ⟨v, hv⟩ := h.cell hi
  simp [Qxb6605220a.cellAt, hv]

/-- the address does not lie in block g -/
def offB (g : Nat) (a : Option Addr) : Prop := ∀ b o, a = some ⟨b, o, none⟩ → b ≠ g

theorem Rd.grown {k : IntKind} {w w' : World} {g : Nat} {a : Option Addr} {l : List Int} (h : Rd k w a l) (hg : w.grownBy w' (some g)) (ho : l ≠ [] → offB g a) : Rd k w' a l := by
  rcases h with h | ⟨b, o, rfl, hlt, hc⟩
  · exact .inl h
  · refine .inr ⟨b, o, rfl, Nat.lt_of_lt_of_le hlt hg.size, fun i hi => ?_⟩
    have hl : l ≠ [] := by intro h; subst h; simp at hi
    exact hg.cell (hc i hi) (by intro h; exact ho hl b o rfl (Option.some.inj h))

/-- what is read in a world lies in a block of it -/
theorem Rd.off {k : IntKind} {w : World} {g : Nat} {a : Option Addr} {l : List Int} (h : Rd k w a l) (hg : w.heap.size ≤ g) : l ≠ [] → offB g a := by
  intro hl b o e
  rcases h with h | ⟨b', o', rfl, hlt, _⟩
  · exact absurd h hl
  · cases e; omega

theorem grownBy_below {w w1 w2 : World} {g : Nat} (h : w.grownBy w1 (some g)) (hb : Below w1.heap.size w1 w2) : w.grownBy w2 (some g) :=
  ⟨hb.os.trans h.os, hb.tape.trans h.tape, hb.output.trans h.output, Nat.le_trans h.size hb.size, fun k hk hne => (hb.block k (Nat.lt_of_lt_of_le hk h.size)).trans (h.block k hk hne)⟩
theorem grownBy_setCell {w w1 : World} {g i : Nat} (h : w.grownBy w1 (some g)) (v : Value) : w.grownBy (w1.setCell ⟨g, i, none⟩ v) (some g) :=
  ⟨h.os, h.tape, h.output, by simpa [World.setCell] using h.size, fun k hk hne => (Below.heap_setCell _ _ _ _ (by intro e; exact hne (by rw [e]))).trans (h.block k hk hne)⟩
theorem grownBy_drew {w w1 : World} {g : Nat} (h : w.grownBy w1 (some g)) : w.grownBy w1.drew (some g) := ⟨h.os, h.tape, h.output, h.size, h.block⟩

/-! ### the copies, with the word that they lie in new memory -/
def newB (n : Nat) (a : Option Addr) : Prop := ∀ b o, a = some ⟨b, o, none⟩ → n ≤ b

theorem clone_new {w : World} {a : Option Addr} {l : List Int} (c : Nat) (h : Rd .u8 w a l) (hn : a = none → l = []) (hm : l.length ≤ 1048576) :
    Calls Try.prog 10 #[.slice a l.length c] w fun e w' => ∃ a' c', e = .returned (.slice a' l.length c') ∧ Rd .u8 w' a' l ∧ (a' = none ↔ a = none) ∧ newB w.heap.size a' ∧ Below w.heap.size w w' := by
  cases a with
  | none =>
    obtain rfl := hn rfl
    refine (clone_nil c w).mono fun e w' ⟨he, hw⟩ => ?_
    subst he; subst hw
    exact ⟨none, 0, rfl, .inl rfl, Iff.rfl, fun b o h => by (cases h), Below.refl _ _⟩
  | some x =>
    rcases h with rfl | ⟨b, o, hx, hlt, hc⟩
    · refine (clone_empty x c w).mono fun e w' ⟨he, ho, hb⟩ => ?_
      subst he
      exact ⟨_, _, rfl, .inl rfl, by simp, fun b o h => by (cases h; exact Nat.le_refl _), hb⟩
    · cases hx
      refine (clone_some b o l c w hm hlt hc).mono fun e w' ⟨he, ho, hb⟩ => ?_
      subst he
      exact ⟨_, _, rfl, Rd_of_own ho, by simp, fun b o h => by (cases h; exact Nat.le_refl _), hb⟩

theorem clone32_new {w : World} {a : Option Addr} {l : List Int} (c : Nat) (h : Rd .u32 w a l) (hn : a = none → l = []) (hm : l.length ≤ 1048576) :
    Calls Try.prog 30 #[.slice a l.length c] w fun e w' => ∃ a' c', e = .returned (.slice a' l.length c') ∧ Rd .u32 w' a' l ∧ (a' = none ↔ a = none) ∧ newB w.heap.size a' ∧ Below w.heap.size w w' := by
  cases a with
  | none =>
    obtain rfl := hn rfl
    refine (clone32_nil c w).mono fun e w' ⟨he, hw⟩ => ?_
    subst he; subst hw
    exact ⟨none, 0, rfl, .inl rfl, Iff.rfl, fun b o h => by (cases h), Below.refl _ _⟩
  | some x =>
    rcases h with rfl | ⟨b, o, hx, hlt, hc⟩
    · refine (clone32_empty x c w).mono fun e w' ⟨he, ho, hb⟩ => ?_
      subst he
      exact ⟨_, _, rfl, .inl rfl, by simp, fun b o h => by (cases h; exact Nat.le_refl _), hb⟩
    · cases hx
      refine (clone32_some b o l c w hm hlt hc).mono fun e w' ⟨he, ho, hb⟩ => ?_
      subst he
      exact ⟨_, _, rfl, Rd_of_own ho, by simp, fun b o h => by (cases h; exact Nat.le_refl _), hb⟩
end Go.Proofs.Qxb6605220a
