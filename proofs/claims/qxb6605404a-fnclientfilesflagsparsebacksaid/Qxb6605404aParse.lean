import Derived.Test.Qxb6605404aFlags
namespace Go.Proofs.Qxb6605404a
open Go.ChangeShapes Go.WideShapes Go.ChangeAt Go.RowKit

def p0 : Nat × ByteArray := (0, ByteArray.empty)
/-- what field r holds when the first j pairs are read -/
def fd (l : List (Nat × ByteArray)) (j r : Nat) : ByteArray := (l.take j).foldl (fun acc p => if p.1 = r then p.2 else acc) ByteArray.empty
def lastR (l : List (Nat × ByteArray)) (j : Nat) : Nat := (l.take j).foldl (fun _ p => p.1) 0

theorem fd_succ {l : List (Nat × ByteArray)} {j : Nat} (h : j < l.length) (r : Nat) : fd l (j + 1) r = if (l.getD j p0).1 = r then (l.getD j p0).2 else fd l j r := by
  unfold fd
  rw [List.take_succ_eq_append_getElem h, List.foldl_append]
  simp [List.getD, h]
theorem last_succ {l : List (Nat × ByteArray)} {j : Nat} (h : j < l.length) : lastR l (j + 1) = (l.getD j p0).1 := by
  unfold lastR
  rw [List.take_succ_eq_append_getElem h, List.foldl_append]
  simp [List.getD, h]

/-- what the reader asks of the pairs: names that it knows, in order, no empty value -/
def Good (l : List (Nat × ByteArray)) : Prop := ∀ j, j < l.length → 1 ≤ (l.getD j p0).1 ∧ (l.getD j p0).1 ≤ 3 ∧ (l.getD j p0).2.toList.isEmpty = false ∧ lastR l j < (l.getD j p0).1

def PInv (w : World) (l : List (Nat × ByteArray)) (j : Nat) (wr : World) : Prop :=
  wr.heap[w.heap.size + 1]? = some (.cells #[.string (fd l j 1), .string (fd l j 2), .string (fd l j 3)] 24 (0, 0)) ∧
  wr.heap[w.heap.size]? = some (.cells #[.string ByteArray.empty, .string ByteArray.empty, .string ByteArray.empty] 24 (0, 0)) ∧ Below w.heap.size w wr

theorem PInv.cells {w wr : World} {l : List (Nat × ByteArray)} {j : Nat} (h : PInv w l j wr) :
    wr.cell? ⟨w.heap.size + 1, 0, none⟩ = some (.string (fd l j 1)) ∧ wr.cell? ⟨w.heap.size + 1, 1, none⟩ = some (.string (fd l j 2)) ∧ wr.cell? ⟨w.heap.size + 1, 2, none⟩ = some (.string (fd l j 3)) ∧ (∀ i, wr.frozen? ⟨w.heap.size + 1, i, none⟩ = false) ∧
    (wr.cell? ⟨w.heap.size, 0, none⟩ = some (.string ByteArray.empty) ∧ wr.cell? ⟨w.heap.size, 1, none⟩ = some (.string ByteArray.empty) ∧ wr.cell? ⟨w.heap.size, 2, none⟩ = some (.string ByteArray.empty) ∧ (∀ i, wr.frozen? ⟨w.heap.size, i, none⟩ = false)) := by
  obtain ⟨h1, h2, _⟩ := h
  refine ⟨?_, ?_, ?_, fun i => frozen_of_row _ _ _ _ _ h1, ?_, ?_, ?_, fun i => frozen_of_row _ _ _ _ _ h2⟩
  · rw [cell_of_row _ _ _ _ _ _ h1]; rfl
  · rw [cell_of_row _ _ _ _ _ _ h1]; rfl
  · rw [cell_of_row _ _ _ _ _ _ h1]; rfl
  · rw [cell_of_row _ _ _ _ _ _ h2]; rfl
  · rw [cell_of_row _ _ _ _ _ _ h2]; rfl
  · rw [cell_of_row _ _ _ _ _ _ h2]; rfl

theorem PInv.step {w wr : World} {l : List (Nat × ByteArray)} {j : Nat} (H : PInv w l j wr) (hj : j < l.length) (r : Nat) (v : ByteArray) (hr : (l.getD j p0) = (r, v)) (h1 : 1 ≤ r) (h3 : r ≤ 3) : PInv w l (j + 1) (wr.setCell ⟨w.heap.size + 1, r - 1, none⟩ (.string v)) := by
  obtain ⟨a1, a2, a3⟩ := H
  refine ⟨?_, ?_, a3.setCell (by show _ ≤ w.heap.size + 1; omega) _⟩
  · rw [heap_setCell_same _ _ _ _ _ _ a1, fd_succ hj, fd_succ hj, fd_succ hj, hr]
    match r, h1, h3 with
    | 1, _, _ => simp
    | 2, _, _ => simp
    | 3, _, _ => simp
  · rw [Below.heap_setCell _ _ _ _ (by show w.heap.size ≠ w.heap.size + 1; omega)]
    exact a2

set_option maxHeartbeats 1000000 in
theorem parse_some (b o c : Nat) (l : List (Nat × ByteArray)) (w : World) (hb : b < w.heap.size) (hl : l.length ≤ 3) (hg : Good l)
    (hc : ∀ j, j < l.length → w.cell? ⟨b, o + 2 * j, none⟩ = some (.string (nm (l.getD j p0).1)) ∧ w.cell? ⟨b, o + (2 * j + 1), none⟩ = some (.string (l.getD j p0).2)) :
    Calls Try.prog 6 #[.slice (some ⟨b, o, none⟩) (2 * l.length) c] w fun e w' => e = .returned (.tuple #[.agg #[.string (fd l l.length 1), .string (fd l l.length 2), .string (fd l l.length 3)], .bool true]) ∧ Below w.heap.size w w' := by
  have HG : Hid (Good l) := hg
  have CC : Hid (∀ j, j < l.length → w.cell? ⟨b, o + 2 * j, none⟩ = some (.string (nm (l.getD j p0).1)) ∧ w.cell? ⟨b, o + (2 * j + 1), none⟩ = some (.string (l.getD j p0).2)) := hc
  clear hg hc
  have hmod : (((2 * l.length : Nat) : Int) % 2 != 0) = false := by simp only [bne_eq_false_iff_eq]; omega
  go_enter Try.func6, Try.ntmps6
  go_wp2
  go_loopw [5, 6] (fun s5 s6 wr => ∃ j : Nat, j ≤ l.length ∧ s5 = .int .i64 ((lastR l j : Nat) : Int) ∧ s6 = .int .i64 (2 * (j : Int)) ∧ PInv w l j wr) (fun _ s6 _ => 2 * l.length - (intOf s6).toNat)
  case atStart =>
    refine ⟨0, Nat.zero_le _, rfl, rfl, ?_, ?_, ((Below.refl _ _).alloc (Nat.le_refl _) _).alloc (by simp) _⟩
    · have h1 : (w.alloc (Obj.cells #[Value.string { data := #[] }, Value.string { data := #[] }, Value.string { data := #[] }] 24)).heap.size = w.heap.size + 1 := by simp
      rw [← h1]
      exact heap_alloc_new _ _
    · rw [Below.heap_alloc _ _ _ (by simp)]
      exact heap_alloc_new _ _
  case round =>
    obtain ⟨j, hj, rfl, rfl, H⟩ := hrel
    by_cases hlt : j < l.length
    · obtain ⟨g1, g2, g3, g4⟩ := HG.out j hlt
      obtain ⟨d1, d2⟩ := CC.out j hlt
      have e1 := (H.2.2.cell (p := ⟨b, o + 2 * j, none⟩) hb).trans d1
      have e2 := (H.2.2.cell (p := ⟨b, o + (2 * j + 1), none⟩) hb).trans d2
      have HLS : Hid (lastR l (j + 1) = (l.getD j p0).1) := last_succ hlt
      obtain ⟨k1, k2, k3, k4, _⟩ := H.cells
      clear d1 d2
      obtain ⟨r, v, hp⟩ : ∃ r v, l.getD j p0 = (r, v) := ⟨_, _, rfl⟩
      have HP : Hid (l.getD j p0 = (r, v)) := hp
      rw [hp] at g1 g2 g3 g4 e1 e2
      clear hp
      have k41 := k4 0
      have k42 := k4 1
      have k43 := k4 2
      clear k4 HG CC
      simp only at g1 g2 g3 g4 e1 e2
      obtain rfl | rfl | rfl : r = 1 ∨ r = 2 ∨ r = 3 := by omega
      · have ST := H.step hlt 1 v HP.out (by omega) (by omega)
        have HL' : Hid (lastR l (j + 1) = 1) := by have := HLS.out; rwa [HP.out] at this
        clear HP HLS H
        have hla : (lastR l j : Int) < 1 := by omega
        go_wp2_with (go_at_call 7; refine (rank1 _).mono ?_; rintro e w' ⟨rfl, rfl⟩)
        go_roundw
        case rel => exact ⟨j + 1, by omega, by rw [HL'.out]; rfl, by go_num, ST⟩
        case measure => simp [intOf]; omega
      · have ST := H.step hlt 2 v HP.out (by omega) (by omega)
        have HL' : Hid (lastR l (j + 1) = 2) := by have := HLS.out; rwa [HP.out] at this
        clear HP HLS H
        have hla : (lastR l j : Int) < 2 := by omega
        go_wp2_with (go_at_call 7; refine (rank2 _).mono ?_; rintro e w' ⟨rfl, rfl⟩)
        go_roundw
        case rel => exact ⟨j + 1, by omega, by rw [HL'.out]; rfl, by go_num, ST⟩
        case measure => simp [intOf]; omega
      · have ST := H.step hlt 3 v HP.out (by omega) (by omega)
        have HL' : Hid (lastR l (j + 1) = 3) := by have := HLS.out; rwa [HP.out] at this
        clear HP HLS H
        have hla : (lastR l j : Int) < 3 := by omega
        go_wp2_with (go_at_call 7; refine (rank3 _).mono ?_; rintro e w' ⟨rfl, rfl⟩)
        go_roundw
        case rel => exact ⟨j + 1, by omega, by rw [HL'.out]; rfl, by go_num, ST⟩
        case measure => simp [intOf]; omega
    · obtain rfl : j = l.length := by omega
      obtain ⟨k1, k2, k3, k4, k5, k6, k7, k8⟩ := H.cells
      have bel := H.2.2
      have k81 := k8 0
      have k82 := k8 1
      have k83 := k8 2
      clear H HG CC k4 k8
      go_wp2
      generalize fd l l.length 1 = x1 at *
      generalize fd l l.length 2 = x2 at *
      generalize fd l l.length 3 = x3 at *
      exact bodyPost_ret (v := .tuple #[.agg #[.string x1, .string x2, .string x3], .bool true]) (by simp [results, Try.results6, go_sem, k5, k6, k7]) rfl ⟨rfl, ((bel.setCell (p := ⟨w.heap.size, 0, none⟩) (Nat.le_refl _) _).setCell (p := ⟨w.heap.size, 1, none⟩) (Nat.le_refl _) _).setCell (p := ⟨w.heap.size, 2, none⟩) (Nat.le_refl _) _⟩
end Go.Proofs.Qxb6605404a
