import Derived.Test.Qxb6605220aParts
import Derived.Lib.SmallJoins
import Derived.Deep.Slices
import Derived.OpenShut
namespace Go.Proofs.Qxb6605220a
open Go.ChangeShapes Go.WideShapes Go.ChangeAt Go.RowKit

theorem Try.cells5 : Try.prog.cellsOf 5 = 1 := by kernel_rfl
theorem Try.cells57 : Try.prog.cellsOf 57 = 1 := by kernel_rfl
theorem Try.cells37 : Try.prog.cellsOf 37 = 4 := by kernel_rfl
theorem Try.cells3 : Try.prog.cellsOf 3 = 1 := by kernel_rfl
theorem Try.cells22 : Try.prog.cellsOf 22 = 1 := by kernel_rfl
theorem Try.cells35 : Try.prog.cellsOf 35 = 1 := by kernel_rfl

section
variable {H : Type} {enc : TypeId × Value → H} {W : World} {base : Nat} {held : Bool}

/-- a slice of integers in one cell, opened -/
theorem ints_cell {t e : TypeId} {k : IntKind} {fuel : Nat} {v : Value} {x : DataW H × List MemPlace} (ht : Try.prog.underlying t = some (.slice e)) (he : Try.prog.underlying e = some (.int k)) (hc : Try.prog.cellsOf e = 1)
    (h : DataW.trod enc Try.prog W base (fun _ => true) held fuel t [v] = some x) : ∃ a len cap zs, v = .slice a len cap ∧ IsRow k W a len cap zs := by
  rcases open_ints ht he hc h with ⟨hcs, _⟩ | ⟨x, l, c, zs, hcs, _, hl, hm, hz, _, hcell, hwz⟩
  · exact ⟨none, 0, 0, [], by simpa using hcs, .inl ⟨rfl, rfl, rfl, rfl⟩⟩
  · exact ⟨some x, l, c, zs, by simpa using hcs, .inr ⟨_, rfl, hl, hm, by simpa using hz, hcell, hwz⟩⟩

/-- one part, opened -/
theorem part_open {n : Nat} {cs : List Value} {x : DataW H × List MemPlace} (h : DataW.trod enc Try.prog W base (fun _ => true) held n 37 cs = some x) :
    ∃ p : Pt, cs = [.int .i64 p.f, .slice p.sa p.sl.length p.sc, .slice p.ta p.tl.length p.tc, .slice p.ga p.gl.length p.gc] ∧ p.ok W ∧ p.le maxLen := by
  obtain ⟨y0, y1, y2, y3, m, _, hl, h0, h1, h2, h3⟩ := Joins.trod_struct4 Try.underlying37 h
  rw [Try.cells37] at hl
  have : ∃ c0 c1 c2 c3, cs = [c0, c1, c2, c3] := by
    match cs, hl with
    | [c0, c1, c2, c3], _ => exact ⟨c0, c1, c2, c3, rfl⟩
  obtain ⟨c0, c1, c2, c3, rfl⟩ := this
  simp [Try.cells3, Try.cells22, Try.cells35] at h0 h1 h2 h3
  obtain ⟨f, e0, _, _⟩ := DataW.trod_int Try.underlying3 h0
  obtain ⟨a1, l1, d1, z1, e1, i1⟩ := ints_cell Try.underlying22 Try.underlying5 Try.cells5 h1
  obtain ⟨a2, l2, d2, z2, e2, i2⟩ := ints_cell Try.underlying35 Try.underlying57 Try.cells57 h2
  obtain ⟨a3, l3, d3, z3, e3, i3⟩ := ints_cell Try.underlying22 Try.underlying5 Try.cells5 h3
  simp at e0
  subst e0 e1 e2 e3
  refine ⟨⟨f, a1, d1, z1.take l1, a2, d2, z2.take l2, a3, d3, z3.take l3⟩, ?_, ⟨⟨i1.rd, i2.rd, i3.rd⟩, ⟨i1.nil, i2.nil, i3.nil⟩, i1.byt⟩, ⟨?_, ?_, ?_⟩⟩
  · simp only [i1.len_eq, i2.len_eq, i3.len_eq]
  · show (z1.take l1).length ≤ _; rw [i1.len_eq]; exact i1.le
  · show (z2.take l2).length ≤ _; rw [i2.len_eq]; exact i2.le
  · show (z3.take l3).length ≤ _; rw [i3.len_eq]; exact i3.le

theorem add_at_plain (b o i j : Nat) : ((⟨b, o, none⟩ : Addr).add i).add j = ⟨b, o + i + j, none⟩ := by rw [Addr.add_lit, Addr.add_lit]

/-- the slice of parts that came in, opened -/
theorem parts_open {fuel : Nat} {a1 : Option Addr} {len1 cap1 : Nat} {x : DataW H × List MemPlace} (h : DataW.trod enc Try.prog W base (fun _ => true) held fuel 33 [.slice a1 len1 cap1] = some x) :
    ∃ ps : List Pt, ps.length = len1 ∧ RdP W a1 ps ∧ (a1 = none → ps = []) ∧ okP W ps ∧ len1 ≤ maxLen ∧ ∀ i, i < ps.length → (ps.getD i pt0).le maxLen := by
  rcases Deep.open_slice Try.underlying33 h with ⟨hcs, _⟩ | ⟨a, len, cap, m, n, D, Pl, hcs, _, hl, hm, hmm, _, hx⟩
  · simp at hcs
    obtain ⟨rfl, rfl, rfl⟩ := hcs
    exact ⟨[], rfl, .inl rfl, fun _ => rfl, fun i hi => by simp at hi, Nat.zero_le _, fun i hi => by simp at hi⟩
  · simp at hcs
    obtain ⟨rfl, rfl, rfl⟩ := hcs
    simp only [if_true] at hmm
    have each : ∀ i, i < len1 → ∃ p : Pt, (∀ j, j < 4 → W.cell? ((a.add (i * 4)).add j) = [Value.int .i64 p.f, .slice p.sa p.sl.length p.sc, .slice p.ta p.tl.length p.tc, .slice p.ga p.gl.length p.gc][j]?) ∧ p.ok W ∧ p.le maxLen := fun i hi => by
      obtain ⟨cs', h1, h2⟩ := hx i (by omega)
      rw [Try.cells37] at h1
      obtain ⟨_, _, h3⟩ := World.cells?_some h1
      obtain ⟨p, rfl, hok, hle⟩ := part_open h2
      exact ⟨p, h3, hok, hle⟩
    obtain ⟨F, hF⟩ := @Deep.choose_lt Pt ⟨pt0⟩ len1 _ each
    have hg : ∀ i, i < len1 → ((List.range len1).map F).getD i pt0 = F i := fun i hi => by simp [List.getD, hi]
    refine ⟨(List.range len1).map F, by simp, ?_, fun h => (by cases h), fun i hi => ?_, by omega, fun i hi => ?_⟩
    · by_cases hl0 : len1 = 0
      · left; simp [hl0]
      · right
        obtain ⟨b, o, spot⟩ := a
        have h0 := (hF 0 (by omega)).1 0 (by omega)
        have hspot : spot = none := by
          have := World.cell?_spot h0
          simpa [Addr.add] using this
        subst hspot
        have hblk := World.block_lt_of_cell? W _ h0
        rw [add_at_plain] at hblk
        refine ⟨b, o, rfl, hblk, fun i hi => ?_⟩
        have hi' : i < len1 := by simpa using hi
        rw [hg i hi']
        have hc := (hF i hi').1
        have hc' : ∀ j, j < 4 → W.cell? ⟨b, o + i * 4 + j, none⟩ = [Value.int .i64 (F i).f, .slice (F i).sa (F i).sl.length (F i).sc, .slice (F i).ta (F i).tl.length (F i).tc, .slice (F i).ga (F i).gl.length (F i).gc][j]? := fun j hj => by
          rw [← add_at_plain]; exact hc j hj
        exact ⟨hc' 0 (by omega), hc' 1 (by omega), hc' 2 (by omega), hc' 3 (by omega)⟩
    · have hi' : i < len1 := by simpa using hi
      rw [hg i hi']
      exact (hF i hi').2.1
    · have hi' : i < len1 := by simpa using hi
      rw [hg i hi']
      exact (hF i hi').2.2
end
end Go.Proofs.Qxb6605220a
