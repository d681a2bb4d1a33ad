import Derived.Test.Qxb6605220aNames
namespace Go.Proofs.Qxb6605220a
open Go.ChangeShapes Go.WideShapes Go.ChangeAt Go.RowKit

set_option maxHeartbeats 400000 in
theorem clone38 (b o : Nat) (l : List Int) (c : Nat) (w : World) (hm : l.length ≤ 1048576) (hc : ∀ i, i < l.length → w.cell? ⟨b, o + i, none⟩ = some (.int .u8 (l.getD i 0))) :
    Calls Try.prog 38 #[.slice (some ⟨b, o, none⟩) l.length c] w fun e w' => ∃ g c', e = .returned (.slice (some ⟨g, 0, none⟩) l.length c') ∧ w'.ownsRow w.heap.size 5 1 (.slice (some ⟨g, 0, none⟩) l.length c') l.length (l.map (Value.int .u8)) ∧ Below w.heap.size w w' := by
  have hq : ∀ (w : World) (a : Option Addr) (n c n' c' : Nat), (binOp .eql 22 (.slice a n c) (.slice none n' c')).run Try.prog w = .ok (.bool a.isNone) w := fun w a n c n' c' => Lib.run_eql_slice_nil w _ _ a n c n' c' Try.underlying22
  obtain ⟨i0, hi, hz0, hz1, hz2⟩ := info_parts Try.info5
  have A : Hid (∀ i, i < l.length → w.cell? ⟨b, o + i, none⟩ = some (.int .u8 (l.getD i 0))) := hc
  clear hc
  go_enter Try.func38, Try.ntmps38
  go_wp2_with (at_builtin; refine wpList_append_own _ rfl _ _ 22 rfl w.heap.size 5 i0 (.int .u8 0) 1 1 Try.underlying22 hi hz0 hz1 hz2 rfl (by decide) _ _ _ rfl (World.ownsRow_made w #[] 0 (Nat.le_refl _) (Nat.zero_le _) rfl) ⟨b, o, none⟩ l.length c (l.map (Value.int .u8)) rfl ?qc1 ?qc2 ?qc3 ?qc4 ?qc5 ?qc6 ?_)
  case qc1 => simp
  case qc2 =>
    intro j u hj
    have hjn : j < l.length := by simpa using (List.getElem?_eq_some_iff.1 hj).1
    rw [Addr.add_lit]
    refine Lib.cell?_alloc_some _ ?_
    rw [A.out j hjn]
    have e : (l.map (Value.int .u8))[j]? = some (Value.int .u8 (l.getD j 0)) := by simp [List.getD, hjn]
    rw [e] at hj
    exact hj
  case qc3 => exact ints_oneCell _ _
  case qc4 => unfold maxLen; omega
  case qc5 => omega
  case qc6 => simp
  intro v' w1 hown hgrow hnil
  have hv : ∃ g c', v' = .slice (some ⟨g, 0, none⟩) l.length c' := by
    rcases hown.2 with ⟨h, _⟩ | ⟨g, cap, cur, h, _⟩
    · exact (hnil h).elim
    · exact ⟨g, cap, by simpa using h⟩
  obtain ⟨g, c', hv⟩ := hv
  rw [hv] at hown ⊢
  clear hi hz0 hz1 hz2
  go_wp2
  go_ret
  refine ⟨g, c', rfl, by simpa using hown, ?_⟩
  exact ((Below.refl _ w).alloc (Nat.le_refl _) _).grown hgrow (by simp) (by intro k hk; simp [Value.ownBlock] at hk; omega)


/-- the row when the first k numbers of b are laid over a -/
def orK (a b : List Int) (k : Nat) : List Int := (List.range a.length).map fun i => if i < k then bits .or .u8 (a.getD i 0) (b.getD i 0) else a.getD i 0
def unionL (l h : List Int) : List Int := if l.length < h.length then orK h l l.length else orK l h h.length

theorem orK_length (a b : List Int) (k : Nat) : (orK a b k).length = a.length := by simp [orK]
theorem orK_getD (a b : List Int) (k i : Nat) (h : i < a.length) : (orK a b k).getD i 0 = if i < k then bits .or .u8 (a.getD i 0) (b.getD i 0) else a.getD i 0 := by
  simp [orK, List.getD, h]
theorem orK_zero (a b : List Int) : orK a b 0 = a := by
  apply List.ext_getElem?
  intro i
  simp [orK]
  by_cases h : i < a.length
  · simp [h]
  · simp [h]
theorem orK_succ (a b : List Int) (k : Nat) (h : k < a.length) : ((orK a b k).map (Value.int .u8)).set k (.int .u8 (bits .or .u8 (a.getD k 0) (b.getD k 0))) = (orK a b (k + 1)).map (Value.int .u8) := by
  apply List.ext_getElem?
  intro i
  rw [List.getElem?_set]
  by_cases hi : k = i
  · subst hi
    simp [orK, h, List.getD]
  · rw [if_neg hi]
    simp only [orK, List.getElem?_map]
    by_cases h2 : i < a.length
    · have : (i < k) ↔ (i < k + 1) := by omega
      simp [List.getElem?_range h2, this]
    · simp [h2]


/-- three new blocks of one cell: what is known of a later world in which they have not turned -/
theorem three_boxes {w w1 : World} {v1 v2 v3 : Value} (h : Below (((w.alloc (.cells #[v1] 28)).alloc (.cells #[v2] 28)).alloc (.cells #[v3] 28)).heap.size (((w.alloc (.cells #[v1] 28)).alloc (.cells #[v2] 28)).alloc (.cells #[v3] 28)) w1) :
    w1.cell? ⟨w.heap.size + 1, 0, none⟩ = some v2 ∧ w1.cell? ⟨w.heap.size + 1 + 1, 0, none⟩ = some v3 ∧ w1.frozen? ⟨w.heap.size + 1 + 1, 0, none⟩ = false ∧ w.heap.size + 3 ≤ w1.heap.size ∧ Below w.heap.size w w1 := by
  have hs : (((w.alloc (.cells #[v1] 28)).alloc (.cells #[v2] 28)).alloc (.cells #[v3] 28)).heap.size = w.heap.size + 3 := by simp
  have hz := h.size
  rw [hs] at hz
  refine ⟨?_, ?_, ?_, hz, ?_⟩
  · rw [h.cell (by rw [hs]; show w.heap.size + 1 < _; omega)]
    go_simp
  · rw [h.cell (by rw [hs]; show w.heap.size + 1 + 1 < _; omega)]
    go_simp
  · rw [h.frozen (by rw [hs]; show w.heap.size + 1 + 1 < _; omega)]
    go_simp
  · exact ((((Below.refl _ _).alloc (Nat.le_refl _) _).alloc (by simp) _).alloc (by simp; omega) _).trans (h.mono (by rw [hs]; omega))


/-- what holds at the head of union's loop: k numbers of h are laid over the copy of l; the result's own cell is untouched -/
def UInv (w : World) (g c1 : Nat) (l h : List Int) (k : Nat) (wr : World) : Prop :=
  wr.ownsRow (w.heap.size + 3) 5 1 (.slice (some ⟨g, 0, none⟩) l.length c1) l.length ((orK l h k).map (Value.int .u8)) ∧
  wr.cell? ⟨w.heap.size + 1 + 1, 0, none⟩ = some (.slice none 0 0) ∧ wr.frozen? ⟨w.heap.size + 1 + 1, 0, none⟩ = false ∧ Below w.heap.size w wr

theorem UInv.step {w wr : World} {g c1 : Nat} {l h : List Int} {k : Nat} (H : UInv w g c1 l h k wr) (hk : k < l.length) (u : Value) (hu : u = .int .u8 (bits .or .u8 (l.getD k 0) (h.getD k 0))) : UInv w g c1 l h (k + 1) (wr.setCell ⟨g, k, none⟩ u) := by
  obtain ⟨hown, f2, f3, bel⟩ := H
  have hg := (hown.lt g rfl).1
  subst hu
  obtain ⟨hown', _⟩ := hown.stored k (.int .u8 (bits .or .u8 (l.getD k 0) (h.getD k 0)))
  rw [orK_succ l h k hk] at hown'
  refine ⟨hown', ?_, ?_, bel.setCell (p := ⟨g, k, none⟩) (by show _ ≤ g; omega) _⟩
  · rw [World.cell?_of_block (w := wr) (Below.heap_setCell _ _ _ _ (by show w.heap.size + 1 + 1 ≠ g; omega))]; exact f2
  · rw [World.frozen?_of_block (w := wr) (Below.heap_setCell _ _ _ _ (by show w.heap.size + 1 + 1 ≠ g; omega))]; exact f3

theorem UInv.old {w wr : World} {g c1 : Nat} {l h : List Int} {k : Nat} (H : UInv w g c1 l h k wr) (hk : k < l.length) : wr.cell? ⟨g, k, none⟩ = some (.int .u8 (l.getD k 0)) := by
  rw [H.1.cellAt k (by omega)]
  simp [orK, List.getD, hk]

/-- the address is a row's of bytes that was made by the program -/
def row5 (w : World) (a : Option Addr) : Prop := ∃ g cur, a = some ⟨g, 0, none⟩ ∧ w.heap[g]? = some (.cells cur 5 (0, 0))

theorem row5.some {w : World} {a : Option Addr} {p : Prop} (h : row5 w a) : a = none → p := by
  obtain ⟨g, cur, e, _⟩ := h
  intro h
  rw [e] at h
  cases h

theorem UInv.row {w wr : World} {g c1 : Nat} {l h : List Int} {k : Nat} (H : UInv w g c1 l h k wr) : row5 (wr.setCell ⟨w.heap.size + 1 + 1, 0, none⟩ (.slice (some ⟨g, 0, none⟩) l.length c1)) (some ⟨g, 0, none⟩) := by
  have hk' := ownsRow_setCell_below H.1 (a := ⟨w.heap.size + 1 + 1, 0, none⟩) (by show w.heap.size + 1 + 1 < _; omega) (.slice (some ⟨g, 0, none⟩) l.length c1)
  rcases hk'.2 with ⟨h, _⟩ | ⟨g', cap, cur, h, _, hg, _⟩
  · cases h
  · cases h
    exact ⟨g, cur, rfl, hg⟩

theorem UInv.last {w wr : World} {g c1 : Nat} {l h : List Int} {k : Nat} (H : UInv w g c1 l h k wr) : Rd .u8 (wr.setCell ⟨w.heap.size + 1 + 1, 0, none⟩ (.slice (some ⟨g, 0, none⟩) l.length c1)) (some ⟨g, 0, none⟩) (orK l h k) := by
  have hk' := ownsRow_setCell_below H.1 (a := ⟨w.heap.size + 1 + 1, 0, none⟩) (by show w.heap.size + 1 + 1 < _; omega) (.slice (some ⟨g, 0, none⟩) l.length c1)
  generalize (wr.setCell ⟨w.heap.size + 1 + 1, 0, none⟩ (.slice (some ⟨g, 0, none⟩) l.length c1)) = W at hk'
  have e : l.length = (orK l h k).length := (orK_length _ _ _).symm
  rw [e] at hk'
  exact Rd_of_own hk'

set_option maxHeartbeats 400000 in
theorem union_ge (b o c b' o' c' : Nat) (l h : List Int) (w : World) (hlen : h.length ≤ l.length) (hpos : 0 < h.length) (hm : l.length ≤ 1048576) (hb : b < w.heap.size) (hb' : b' < w.heap.size)
    (hc : ∀ i, i < l.length → w.cell? ⟨b, o + i, none⟩ = some (.int .u8 (l.getD i 0))) (hc' : ∀ i, i < h.length → w.cell? ⟨b', o' + i, none⟩ = some (.int .u8 (h.getD i 0))) :
    Calls Try.prog 28 #[.agg #[.slice (some ⟨b, o, none⟩) l.length c], .agg #[.slice (some ⟨b', o', none⟩) h.length c']] w fun e w' => ∃ a2 c2, e = .returned (.agg #[.slice a2 l.length c2]) ∧ Rd .u8 w' a2 (orK l h h.length) ∧ row5 w' a2 ∧ Below w.heap.size w w' := by
  have hp : ((h.length : Int) == 0) = false := by simp only [beq_eq_false_iff_ne]; omega
  have ha : ∀ o1 o2 o3, ∀ i, i < l.length → (((w.alloc o1).alloc o2).alloc o3).cell? ⟨b, o + i, none⟩ = some (.int .u8 (l.getD i 0)) := fun o1 o2 o3 i hi =>
    ((((Below.refl w.heap.size w).alloc (Nat.le_refl _) o1).alloc (by simp) o2).alloc (by simp; omega) o3).cell (p := ⟨b, o + i, none⟩) hb ▸ hc i hi
  have A : Hid (∀ o1 o2 o3, ∀ i, i < l.length → (((w.alloc o1).alloc o2).alloc o3).cell? ⟨b, o + i, none⟩ = some (.int .u8 (l.getD i 0))) := ha
  have C : Hid (∀ i, i < h.length → w.cell? ⟨b', o' + i, none⟩ = some (.int .u8 (h.getD i 0))) := hc'
  clear hc hc' ha
  go_enter Try.func28, Try.ntmps28
  go_wp2_with fail
  refine (clone38 b o l c _ hm (A.out _ _ _)).mono ?_
  rintro e w1 ⟨g, c1, rfl, hown, hb1⟩
  obtain ⟨f1, f2, f3, hz, bel⟩ := three_boxes hb1
  have e3 : (((w.alloc (Obj.cells #[Value.slice (some ⟨b, o, none⟩) l.length c] 28)).alloc (Obj.cells #[Value.slice (some ⟨b', o', none⟩) h.length c'] 28)).alloc (Obj.cells #[Value.slice none 0 0] 28)).heap.size = w.heap.size + 3 := by simp
  rw [e3] at hown
  have e4 : (l.map (Value.int .u8)) = (orK l h 0).map (Value.int .u8) := by rw [orK_zero]
  rw [e4] at hown
  clear e3 e4 hb1 A
  go_wp2
  go_loopw [28] (fun i wr => ∃ k : Nat, k ≤ h.length ∧ i = .int .i64 k ∧ UInv w g c1 l h k wr) (fun i _ => h.length - (intOf i).toNat)
  case atStart => exact ⟨0, Nat.zero_le _, rfl, hown, f2, f3, bel⟩
  case round =>
    clear hown f1 f2 f3 hz bel
    obtain ⟨k, hk, rfl, H⟩ := hrel
    have hg := (H.1.lt g rfl).1
    by_cases hlt : k < h.length
    · have hcell : wr.cell? ⟨b', o' + k, none⟩ = some (.int .u8 (h.getD k 0)) := (H.2.2.2.cell (by exact hb')).trans (C.out k hlt)
      have hf := H.1.frozenAt k
      have hold := H.old (by omega)
      have R := H.step (by omega)
      generalize l.getD k 0 = x at hold R
      generalize h.getD k 0 = y at hcell R
      have R' := R _ rfl
      clear R H
      go_wp2
      go_roundw
      case rel => exact ⟨k + 1, by omega, by go_num, R'⟩
      case measure => simp [intOf]; omega
    · obtain rfl : k = h.length := by omega
      have f2 := H.2.1
      have f3 := H.2.2.1
      go_wp2
      exact bodyPost_ret (v := .agg #[.slice (some ⟨g, 0, none⟩) l.length c1]) (by simp [results, Try.results28, go_sem, f2]) rfl ⟨some ⟨g, 0, none⟩, c1, rfl, H.last, H.row, H.2.2.2.setCell (by show _ ≤ w.heap.size + 1 + 1; omega) _⟩

set_option maxHeartbeats 400000 in
theorem union_lt (b o c b' o' c' : Nat) (l h : List Int) (w : World) (hlen : h.length < l.length) (hpos : 0 < h.length) (hm : l.length ≤ 1048576) (hb : b < w.heap.size) (hb' : b' < w.heap.size)
    (hc : ∀ i, i < l.length → w.cell? ⟨b, o + i, none⟩ = some (.int .u8 (l.getD i 0))) (hc' : ∀ i, i < h.length → w.cell? ⟨b', o' + i, none⟩ = some (.int .u8 (h.getD i 0))) :
    Calls Try.prog 28 #[.agg #[.slice (some ⟨b', o', none⟩) h.length c'], .agg #[.slice (some ⟨b, o, none⟩) l.length c]] w fun e w' => ∃ a2 c2, e = .returned (.agg #[.slice a2 l.length c2]) ∧ Rd .u8 w' a2 (orK l h h.length) ∧ row5 w' a2 ∧ Below w.heap.size w w' := by
  have hp : ((h.length : Int) == 0) = false := by simp only [beq_eq_false_iff_ne]; omega
  have ha : ∀ o1 o2 o3, ∀ i, i < l.length → (((w.alloc o1).alloc o2).alloc o3).cell? ⟨b, o + i, none⟩ = some (.int .u8 (l.getD i 0)) := fun o1 o2 o3 i hi =>
    ((((Below.refl w.heap.size w).alloc (Nat.le_refl _) o1).alloc (by simp) o2).alloc (by simp; omega) o3).cell (p := ⟨b, o + i, none⟩) hb ▸ hc i hi
  have A : Hid (∀ o1 o2 o3, ∀ i, i < l.length → (((w.alloc o1).alloc o2).alloc o3).cell? ⟨b, o + i, none⟩ = some (.int .u8 (l.getD i 0))) := ha
  have C : Hid (∀ i, i < h.length → w.cell? ⟨b', o' + i, none⟩ = some (.int .u8 (h.getD i 0))) := hc'
  clear hc hc' ha
  go_enter Try.func28, Try.ntmps28
  go_wp2_with fail
  refine (clone38 b o l c _ hm (A.out _ _ _)).mono ?_
  rintro e w1 ⟨g, c1, rfl, hown, hb1⟩
  obtain ⟨f1, f2, f3, hz, bel⟩ := three_boxes hb1
  have e3 : (((w.alloc (Obj.cells #[Value.slice (some ⟨b, o, none⟩) l.length c] 28)).alloc (Obj.cells #[Value.slice (some ⟨b', o', none⟩) h.length c'] 28)).alloc (Obj.cells #[Value.slice none 0 0] 28)).heap.size = w.heap.size + 3 := by simp
  rw [e3] at hown
  have e4 : (l.map (Value.int .u8)) = (orK l h 0).map (Value.int .u8) := by rw [orK_zero]
  rw [e4] at hown
  clear e3 e4 hb1 A
  go_wp2
  go_loopw [28] (fun i wr => ∃ k : Nat, k ≤ h.length ∧ i = .int .i64 k ∧ UInv w g c1 l h k wr) (fun i _ => h.length - (intOf i).toNat)
  case atStart => exact ⟨0, Nat.zero_le _, rfl, hown, f2, f3, bel⟩
  case round =>
    clear hown f1 f2 f3 hz bel
    obtain ⟨k, hk, rfl, H⟩ := hrel
    have hg := (H.1.lt g rfl).1
    by_cases hlt : k < h.length
    · have hcell : wr.cell? ⟨b', o' + k, none⟩ = some (.int .u8 (h.getD k 0)) := (H.2.2.2.cell (by exact hb')).trans (C.out k hlt)
      have hf := H.1.frozenAt k
      have hold := H.old (by omega)
      have R := H.step (by omega)
      generalize l.getD k 0 = x at hold R
      generalize h.getD k 0 = y at hcell R
      have R' := R _ rfl
      clear R H
      go_wp2
      go_roundw
      case rel => exact ⟨k + 1, by omega, by go_num, R'⟩
      case measure => simp [intOf]; omega
    · obtain rfl : k = h.length := by omega
      have f2 := H.2.1
      have f3 := H.2.2.1
      go_wp2
      exact bodyPost_ret (v := .agg #[.slice (some ⟨g, 0, none⟩) l.length c1]) (by simp [results, Try.results28, go_sem, f2]) rfl ⟨some ⟨g, 0, none⟩, c1, rfl, H.last, H.row, H.2.2.2.setCell (by show _ ≤ w.heap.size + 1 + 1; omega) _⟩


theorem union_none (a a' : Option Addr) (n c c' : Nat) (w : World) :
    Calls Try.prog 28 #[.agg #[.slice a n c], .agg #[.slice a' 0 c']] w fun e w' => e = .returned (.agg #[.slice a n c]) ∧ Below w.heap.size w w' := by
  go_enter Try.func28, Try.ntmps28
  go_wp2
  exact bodyPost_ret (v := .agg #[.slice a n c]) (by simp [results, Try.results28, go_sem]) rfl ⟨rfl, (((Below.refl _ _).alloc (Nat.le_refl _) _).alloc (by simp) _).alloc (by simp; omega) _⟩

theorem union_none' (a a' : Option Addr) (n c c' : Nat) (w : World) (hn : 0 < n) :
    Calls Try.prog 28 #[.agg #[.slice a' 0 c'], .agg #[.slice a n c]] w fun e w' => e = .returned (.agg #[.slice a n c]) ∧ Below w.heap.size w w' := by
  go_enter Try.func28, Try.ntmps28
  go_wp2
  exact bodyPost_ret (v := .agg #[.slice a n c]) (by simp [results, Try.results28, go_sem]) rfl ⟨rfl, (((Below.refl _ _).alloc (Nat.le_refl _) _).alloc (by simp) _).alloc (by simp; omega) _⟩

theorem unionL_length (l h : List Int) : (unionL l h).length = max l.length h.length := by
  unfold unionL
  split
  · rw [orK_length]; omega
  · rw [orK_length]; omega

/-- union: the longer one's copy with the shorter laid over it; where the shorter is empty, the longer itself -/
theorem union_new {w : World} {a a' : Option Addr} {l h : List Int} (c c' : Nat) (hr : Rd .u8 w a l) (hr' : Rd .u8 w a' h) (hn : a = none → l = []) (hn' : a' = none → h = []) (hm : l.length ≤ 1048576) (hm' : h.length ≤ 1048576) :
    Calls Try.prog 28 #[.agg #[.slice a l.length c], .agg #[.slice a' h.length c']] w fun e w' => ∃ a2 c2, e = .returned (.agg #[.slice a2 (unionL l h).length c2]) ∧ Rd .u8 w' a2 (unionL l h) ∧ (a2 = none → unionL l h = []) ∧ ((a2 = a ∧ unionL l h = l) ∨ (a2 = a' ∧ unionL l h = h) ∨ row5 w' a2) ∧ Below w.heap.size w w' := by
  by_cases hlt : l.length < h.length
  · have eu : unionL l h = orK h l l.length := by simp [unionL, hlt]
    rw [eu, orK_length]
    by_cases hl : l = []
    · subst hl
      refine (union_none' a' a h.length c' c w (by simpa using hlt)).mono fun e w' ⟨he, hb⟩ => ?_
      subst he
      rw [show orK h [] ([] : List Int).length = h from orK_zero h []]
      exact ⟨a', c', rfl, hr'.below hb (Nat.le_refl _), hn', .inr (.inl ⟨rfl, rfl⟩), hb⟩
    · rcases hr with hr | ⟨b, o, rfl, hb, hc⟩
      · exact absurd hr hl
      · rcases hr' with rfl | ⟨b', o', rfl, hb', hc'⟩
        · simp at hlt
        · refine (union_lt b' o' c' b o c h l w hlt (List.length_pos_iff.2 hl) hm' hb' hb hc' hc).mono fun e w' ⟨a2, c2, he, r, n, bl⟩ => ?_
          exact ⟨a2, c2, he, r, n.some, .inr (.inr n), bl⟩
  · have eu : unionL l h = orK l h h.length := by simp [unionL, hlt]
    rw [eu, orK_length]
    by_cases hl : h = []
    · subst hl
      refine (union_none a a' l.length c c' w).mono fun e w' ⟨he, hb⟩ => ?_
      subst he
      rw [show orK l [] ([] : List Int).length = l from orK_zero l []]
      exact ⟨a, c, rfl, hr.below hb (Nat.le_refl _), hn, .inl ⟨rfl, rfl⟩, hb⟩
    · have hpos := List.length_pos_iff.2 hl
      rcases hr with rfl | ⟨b, o, rfl, hb, hc⟩
      · simp at hlt; exact absurd hlt hl
      · rcases hr' with hr' | ⟨b', o', rfl, hb', hc'⟩
        · exact absurd hr' hl
        · refine (union_ge b o c b' o' c' l h w (by omega) hpos hm hb hb' hc hc').mono fun e w' ⟨a2, c2, he, r, n, bl⟩ => ?_
          exact ⟨a2, c2, he, r, n.some, .inr (.inr n), bl⟩

theorem union_any {w : World} {a a' : Option Addr} {l h : List Int} (c c' : Nat) (hr : Rd .u8 w a l) (hr' : Rd .u8 w a' h) (hn : a = none → l = []) (hn' : a' = none → h = []) (hm : l.length ≤ 1048576) (hm' : h.length ≤ 1048576) :
    Calls Try.prog 28 #[.agg #[.slice a l.length c], .agg #[.slice a' h.length c']] w fun e w' => ∃ a2 c2, e = .returned (.agg #[.slice a2 (unionL l h).length c2]) ∧ Rd .u8 w' a2 (unionL l h) ∧ (a2 = none → unionL l h = []) ∧ Below w.heap.size w w' :=
  (union_new c c' hr hr' hn hn' hm hm').mono fun _ _ ⟨a2, c2, he, r, n, _, b⟩ => ⟨a2, c2, he, r, n, b⟩

/-- A store into a cell that holds no number turns no row of numbers. -/
theorem Rd.setCell {k : IntKind} {w : World} {a : Option Addr} {l : List Int} (h : Rd k w a l) {p : Addr} {v : Value} (hp : w.cell? p = some v) (hv : ∀ n, v ≠ .int k n) (u : Value) : Rd k (w.setCell p u) a l := by
  rcases h with h | ⟨b, o, rfl, hlt, hc⟩
  · exact .inl h
  · refine .inr ⟨b, o, rfl, by simpa [World.setCell] using hlt, fun i hi => ?_⟩
    have hne : p ≠ ⟨b, o + i, none⟩ := by
      rintro rfl
      rw [hc i hi] at hp
      exact hv _ (Option.some.inj hp).symm
    rw [World.cell?_setCell_other (h := hne)]
    exact hc i hi

theorem zzUnion_any {w : World} {a a' : Option Addr} {l h : List Int} (c c' : Nat) (hr : Rd .u8 w a l) (hr' : Rd .u8 w a' h) (hn : a = none → l = []) (hn' : a' = none → h = []) (hm : l.length ≤ 1048576) (hm' : h.length ≤ 1048576) :
    Calls Try.prog 12 #[.agg #[.slice a l.length c], .agg #[.slice a' h.length c']] w fun e w' => ∃ a2 c2, e = .returned (.agg #[.slice a2 (unionL l h).length c2]) ∧ Rd .u8 w' a2 (unionL l h) ∧ (a2 = none → unionL l h = []) ∧ Below w.heap.size w w' := by
  have r1 : ∀ o1 o2 o3, Rd .u8 (((w.alloc o1).alloc o2).alloc o3) a l := fun o1 o2 o3 => hr.below ((((Below.refl _ _).alloc (Nat.le_refl _) _).alloc (by simp) _).alloc (by simp; omega) _) (Nat.le_refl _)
  have r2 : ∀ o1 o2 o3, Rd .u8 (((w.alloc o1).alloc o2).alloc o3) a' h := fun o1 o2 o3 => hr'.below ((((Below.refl _ _).alloc (Nat.le_refl _) _).alloc (by simp) _).alloc (by simp; omega) _) (Nat.le_refl _)
  go_enter Try.func12, Try.ntmps12
  go_wp2_with fail
  refine (union_any c c' (r1 _ _ _) (r2 _ _ _) hn hn' hm hm').mono ?_
  rintro e w1 ⟨a2, c2, rfl, r, n, hb⟩
  obtain ⟨_, f2, f3, hz, bel⟩ := three_boxes hb
  clear r1 r2 hb
  go_wp2
  refine bodyPost_ret (v := .agg #[.slice a2 (unionL l h).length c2]) (by simp [results, Try.results12, go_sem, f2]) rfl ⟨a2, c2, rfl, ?_, n, bel.setCell (by show _ ≤ w.heap.size + 1 + 1; omega) _⟩
  exact r.setCell f2 (by intro n h; cases h) _

theorem bitmap_any (a : Option Addr) (n c : Nat) (w : World) :
    Calls Try.prog 11 #[.agg #[.slice a n c]] w fun e w' => e = .returned (.slice a n c) ∧ Below w.heap.size w w' := by
  go_enter Try.func11, Try.ntmps11
  go_wp2
  go_ret
  exact ⟨rfl, (Below.refl _ _).alloc (Nat.le_refl _) _⟩
end Go.Proofs.Qxb6605220a
