/-
  OUR OWN: what a slice of integers that is read looks like ('Rd'), how it is carried to a later world.
-/
import Derived.Test.Qxb6605339aRows
import Derived.WalkKit
import Derived.ProofKit
import Derived.OpenShut
import Derived.Below
import Derived.WalkSpells
import Derived.Laws.CopyOwn
import Derived.WalkLawsBesides
namespace Go.Proofs.Qxb6605339a
open Go.ChangeShapes Go.WideShapes Go.ChangeAt Go.RowKit

/-- The slice at address a holds, in world w, the numbers l of kind k (its length is l.length). -/
def Rd (k : IntKind) (w : World) (a : Option Addr) (l : List Int) : Prop :=
  l = [] ∨ ∃ b o, a = some ⟨b, o, none⟩ ∧ b < w.heap.size ∧ ∀ i, i < l.length → w.cell? ⟨b, o + i, none⟩ = some (.int k (l.getD i 0))

theorem Rd.below {k : IntKind} {w w' : World} {B : Nat} {a : Option Addr} {l : List Int} (h : Rd k w a l) (hb : Below B w w') (hB : w.heap.size ≤ B) : Rd k w' a l := by
  rcases h with h | ⟨b, o, rfl, hlt, hc⟩
  · exact .inl h
  · refine .inr ⟨b, o, rfl, Nat.lt_of_lt_of_le hlt hb.size, fun i hi => ?_⟩
    rw [hb.cell (p := ⟨b, o + i, none⟩) (by show b < B; omega)]
    exact hc i hi

def byt (l : List Int) : Prop := ∀ i, 0 ≤ l.getD i 0 ∧ l.getD i 0 ≤ 255

theorem Try.info5 : (Try.prog.info? 5).map (fun i => (i.zero, i.size, i.bytes)) = some (some (.int .u8 0), 1, 1) := by kernel_rfl

/-- An owned row of numbers is a slice that reads them. -/
theorem Rd_of_own {k : IntKind} {w : World} {B : Nat} {e : TypeId} {g c : Nat} {l : List Int} (h : w.ownsRow B e 1 (.slice (some ⟨g, 0, none⟩) l.length c) l.length (l.map (Value.int k))) : Rd k w (some ⟨g, 0, none⟩) l := by
  refine .inr ⟨g, 0, rfl, (h.lt g rfl).2, fun i hi => ?_⟩
  rw [Nat.zero_add, h.cellAt i (by omega)]
  simp [List.getD, hi]

/-- WHAT A SLICE OF INTEGERS THAT CAME IN LOOKS LIKE (the shell's own words): nil; or a row of 'cap' cells, the numbers 'zs', the first 'len' its elements. -/
def IsRow (k : IntKind) (w : World) (a : Option Addr) (len cap : Nat) (zs : List Int) : Prop :=
  (a = none ∧ len = 0 ∧ cap = 0 ∧ zs = []) ∨
  ∃ x, a = some x ∧ len ≤ cap ∧ cap ≤ maxLen ∧ zs.length = cap ∧ (∀ i, i < zs.length → w.cell? (x.add i) = some (.int k (zs.getD i 0))) ∧ ∀ n ∈ zs, (Lit.int k n).wf = true

theorem IsRow.len_eq {k : IntKind} {w : World} {a : Option Addr} {len cap : Nat} {zs : List Int} (h : IsRow k w a len cap zs) : (zs.take len).length = len := by
  rcases h with ⟨_, rfl, _, rfl⟩ | ⟨x, _, h1, _, h2, _⟩
  · rfl
  · simp; omega

theorem IsRow.le {k : IntKind} {w : World} {a : Option Addr} {len cap : Nat} {zs : List Int} (h : IsRow k w a len cap zs) : len ≤ maxLen := by
  rcases h with ⟨_, rfl, _, rfl⟩ | ⟨x, _, h1, h2, _⟩
  · exact Nat.zero_le _
  · omega

theorem IsRow.nil {k : IntKind} {w : World} {a : Option Addr} {len cap : Nat} {zs : List Int} (h : IsRow k w a len cap zs) : a = none → zs.take len = [] := by
  rcases h with ⟨_, rfl, _, rfl⟩ | ⟨x, rfl, _⟩
  · intro _; rfl
  · intro h; cases h

theorem IsRow.rd {k : IntKind} {w : World} {a : Option Addr} {len cap : Nat} {zs : List Int} (h : IsRow k w a len cap zs) : Rd k w a (zs.take len) := by
  rcases h with ⟨_, rfl, _, rfl⟩ | ⟨x, rfl, h1, _, h2, hc, _⟩
  · exact .inl rfl
  · by_cases hl : zs.take len = []
    · exact .inl hl
    · have hpos : 0 < (zs.take len).length := List.length_pos_iff.2 hl
      simp at hpos
      obtain ⟨b, o, spot⟩ := x
      have h0 := hc 0 (by omega)
      have hspot : spot = none := by simpa [Addr.add] using World.cell?_spot h0
      subst hspot
      refine .inr ⟨b, o, rfl, ?_, fun i hi => ?_⟩
      · have := World.block_lt_of_cell? w _ h0
        simpa [Addr.add] using this
      · have hi' : i < len ∧ i < zs.length := by simp at hi; omega
        have := hc i hi'.2
        rw [add_plain] at this
        rw [this]
        simp [List.getD, hi'.1]

theorem IsRow.byt {w : World} {a : Option Addr} {len cap : Nat} {zs : List Int} (h : IsRow .u8 w a len cap zs) : byt (zs.take len) := by
  intro i
  by_cases hi : i < (zs.take len).length
  · have hm : (zs.take len).getD i 0 ∈ zs := by
      rw [List.getD, List.getElem?_eq_getElem hi]
      exact List.mem_of_mem_take (List.getElem_mem hi)
    rcases h with ⟨_, rfl, _, rfl⟩ | ⟨x, _, _, _, _, _, hw⟩
    · simp at hi
    · have := bounds_u8 (hw _ hm)
      omega
  · rw [List.getD, List.getElem?_eq_none (by omega)]
    simp
end Go.Proofs.Qxb6605339a
