import Derived.Test.Qxb6605339aShort
namespace Go.Proofs.Qxb6605339a
open Go.ChangeShapes Go.WideShapes Go.ChangeAt Go.RowKit

/-- the buffer of twenty bytes, its last t bytes written: the last t digits of N -/
def Buf (w : World) (N t : Nat) (wr : World) : Prop :=
  (∃ cur : Array Value, wr.heap[w.heap.size]? = some (.cells cur 30 (0, 0)) ∧ cur.size = 20 ∧ ∀ j, j < t → cur[19 - j]? = some (.int .u8 ((48 + N / 10 ^ j % 10 : Nat) : Int))) ∧ Below w.heap.size w wr

theorem Buf.cell {w wr : World} {N t : Nat} (h : Buf w N t wr) (i : Nat) (hi : i < 20) : ∃ v, wr.cell? ⟨w.heap.size, i, none⟩ = some v := by
  obtain ⟨⟨cur, h1, h2, _⟩, _⟩ := h
  exact ⟨cur[i], by rw [cell_of_row _ _ _ _ _ _ h1]; simp [h2, hi]⟩
theorem Buf.free {w wr : World} {N t : Nat} (h : Buf w N t wr) (i : Nat) : wr.frozen? ⟨w.heap.size, i, none⟩ = false := by
  obtain ⟨⟨cur, h1, h2, _⟩, _⟩ := h
  exact frozen_of_row _ _ _ _ _ h1
theorem Buf.step {w wr : World} {N t : Nat} (h : Buf w N t wr) (ht : t < 20) : Buf w N (t + 1) (wr.setCell ⟨w.heap.size, 19 - t, none⟩ (.int .u8 ((48 + N / 10 ^ t % 10 : Nat) : Int))) := by
  obtain ⟨⟨cur, h1, h2, h3⟩, bel⟩ := h
  refine ⟨⟨_, heap_setCell_same _ _ _ _ _ _ h1, by simpa using h2, fun j hj => ?_⟩, bel.setCell (Nat.le_refl _) _⟩
  rw [Array.getElem?_setIfInBounds]
  by_cases e : 19 - t = 19 - j
  · obtain rfl : t = j := by omega
    rw [if_pos rfl, if_pos (by omega)]
  · rw [if_neg e]
    exact h3 j (by omega)
theorem Buf.below {w wr w2 : World} {N t : Nat} (h : Buf w N t wr) (hb : Below wr.heap.size wr w2) : Buf w N t w2 := by
  obtain ⟨⟨cur, h1, h2, h3⟩, bel⟩ := h
  exact ⟨⟨cur, (hb.block _ (Array.getElem?_eq_some_iff.1 h1).1).trans h1, h2, h3⟩, bel.trans (hb.mono bel.size)⟩
theorem Buf.one (w : World) (N : Nat) (z : Value) : Buf w N 1 (w.alloc (.cells #[z, z, z, z, z, z, z, z, z, z, z, z, z, z, z, z, z, z, z, .int .u8 (48 + (N : Int) % 10)] 30)) := by
  refine ⟨⟨_, heap_alloc_new w _, rfl, fun j hj => ?_⟩, (Below.refl _ _).alloc (Nat.le_refl _) _⟩
  obtain rfl : j = 0 := by omega
  simp

/-- the buffer's end, cut off: t bytes -/
theorem run_tail (g t : Nat) (ht1 : 1 ≤ t) (ht : t ≤ 20) (W : World) : (Instr.sliceAt 30 (.pointer (some ⟨g, 0, none⟩)) (some (.int .i64 (20 - (t : Int)))) none none).run Try.prog W = .ok (.slice (some ⟨g, 20 - t, none⟩) t t) W := by
  have hal : Try.prog.arrayLen 30 = 20 := by simp [Program.arrayLen, Try.underlying30]
  rw [run_sliceAt_array_l W 30 ⟨g, 0, none⟩ (by simp [Program.arrayLen, Program.elem, Try.underlying30]) .i64 (20 - (t : Int)) (by omega) (by rw [hal]; omega)]
  have hsz : (sizeOf (Try.prog.elem 30)).run Try.prog W = .ok 1 W := by kernel_rfl
  rw [hsz, hal]
  simp only [Result.andThen, slicedAt]
  rw [if_neg (by omega), Addr.add_lit, show (20 - (t : Int)).toNat = 20 - t by omega, show 20 - (20 - t) = t by omega]
  simp

/-- t digits of N, from the left -/
def digs (N t : Nat) : List Int := (List.range t).map fun i => ((48 + dig N t i : Nat) : Int)
theorem digs_length (N t : Nat) : (digs N t).length = t := by simp [digs]
theorem digs_getD (N t i : Nat) (h : i < t) : (digs N t).getD i 0 = ((48 + dig N t i : Nat) : Int) := by simp [digs, List.getD, h]

/-- the cells of the buffer's end -/
theorem Buf.digs {w wr : World} {N t : Nat} (h : Buf w N t wr) (ht : t ≤ 20) : ∀ j v, ((Qxb6605339a.digs N t).map (Value.int .u8))[j]? = some v → wr.cell? ((⟨w.heap.size, 20 - t, none⟩ : Addr).add j) = some v := by
  intro j v hj
  have hjt : j < t := by have := (List.getElem?_eq_some_iff.1 hj).1; simpa [Qxb6605339a.digs] using this
  obtain ⟨⟨cur, h1, h2, h3⟩, _⟩ := h
  rw [Addr.add_lit, cell_of_row _ _ _ _ _ _ h1]
  have := h3 (t - 1 - j) (by omega)
  rw [show 19 - (t - 1 - j) = 20 - t + j by omega] at this
  rw [this, ← hj]
  simp [Qxb6605339a.digs, hjt, dig]

/-- a row that a make has just laid, in the words that copy asks -/
theorem made_row {w : World} {B g n : Nat} {xs : List Value} (h : w.ownsRow B 5 1 (.slice (some ⟨g, 0, none⟩) n n) n xs) : ∃ cur : List Value, w.heap[g]? = some (.cells cur.toArray 5 (0, 0)) ∧ cur.length = n := by
  rcases h.2 with ⟨h', _⟩ | ⟨g', cap', cur, h', _, hg, _, _, hs, _⟩
  · cases h'
  · cases h'
    exact ⟨cur.toList, by simpa using hg, by simpa using hs⟩

/-- a row that holds the numbers l, all of it -/
theorem Rd_of_row {w : World} {g : Nat} {l : List Int} {cur : List Value} {t : TypeId} (h : w.heap[g]? = some (.cells cur.toArray t (0, 0))) (e : cur = l.map (Value.int .u8)) : Rd .u8 w (some ⟨g, 0, none⟩) l := by
  subst e
  refine .inr ⟨g, 0, rfl, (Array.getElem?_eq_some_iff.1 h).1, fun i hi => ?_⟩
  rw [cell_of_row _ _ _ _ _ _ h]
  simp [List.getD, hi]

theorem splice_whole {α : Type} (cur cs : List α) (h : cs.length = cur.length) : splice cur 0 cs = cs := by
  simp [splice]
  omega

theorem Buf.sign {w wr : World} {N t : Nat} (h : Buf w N t wr) (ht : t < 20) :
    (∀ j v, ((45 :: Qxb6605339a.digs N t).map (Value.int .u8))[j]? = some v → (wr.setCell ⟨w.heap.size, 19 - t, none⟩ (.int .u8 45)).cell? ((⟨w.heap.size, 20 - t - 1, none⟩ : Addr).add j) = some v) ∧
    Below w.heap.size w (wr.setCell ⟨w.heap.size, 19 - t, none⟩ (.int .u8 45)) ∧ w.heap.size < (wr.setCell ⟨w.heap.size, 19 - t, none⟩ (.int .u8 45)).heap.size := by
  have hd := h.digs (by omega)
  obtain ⟨⟨cur, h1, h2, h3⟩, bel⟩ := h
  have h1' := heap_setCell_same _ _ (19 - t) _ _ (.int .u8 45) h1
  refine ⟨fun j v hj => ?_, bel.setCell (Nat.le_refl _) _, (Array.getElem?_eq_some_iff.1 h1').1⟩
  rw [Addr.add_lit, cell_of_row _ _ _ _ _ _ h1', Array.getElem?_setIfInBounds]
  cases j with
  | zero =>
    rw [if_pos (by omega), if_pos (by omega)]
    simpa using hj
  | succ j =>
    rw [if_neg (by omega)]
    have := hd j v (by simpa using hj)
    rw [Addr.add_lit, cell_of_row _ _ _ _ _ _ h1] at this
    rw [show 20 - t - 1 + (j + 1) = 20 - t + j by omega]
    exact this

set_option maxHeartbeats 1000000 in
theorem decimal_pos (N : Nat) (w : World) (hN : N < 1000000000000000000) :
    Calls Try.prog 13 #[.int .i64 (N : Int)] w fun e w' => ∃ t, 1 ≤ t ∧ t ≤ 18 ∧ pre N t 0 = 0 ∧ ∃ g, e = .returned (.slice (some ⟨g, 0, none⟩) t t) ∧ Rd .u8 w' (some ⟨g, 0, none⟩) (digs N t) ∧ Below w.heap.size w w' := by
  have hneg : decide ((N : Int) < 0) = false := decide_eq_false (by omega)
  have B1 := Buf.one w N (.int .u8 0)
  go_enter Try.func13, Try.ntmps13
  go_wp2
  go_loopw [0, 5] (fun nv kv wr => ∃ t : Nat, 1 ≤ t ∧ t ≤ 18 ∧ nv = .int .i64 ((N / 10 ^ t : Nat) : Int) ∧ kv = .int .i64 (20 - (t : Int)) ∧ Buf w N t wr) (fun _ kv _ => (intOf kv).toNat)
  case atStart => exact ⟨1, by omega, by omega, by go_num, by go_num, B1⟩
  case round =>
    clear B1
    obtain ⟨t, ht1, ht2, rfl, rfl, B⟩ := hrel
    by_cases hz : N / 10 ^ t = 0
    · rw [hz]
      obtain ⟨i0, hi, hz0, hz1, hz2⟩ := info_parts Try.info5
      go_wp2_with (at_make; refine wpList_make_full _ rfl _ _ 22 rfl w.heap.size 5 i0 (.int .u8 0) 1 Try.underlying22 hi hz0 hz1 _ _ _ _ t rfl rfl (by omega) (by omega) ?c1 ?c2 ?c3 ?_)
      case c1 => rw [hz2]; omega
      case c2 => unfold maxLen; omega
      case c3 => exact B.2.size
      intro w2 hown hgrow
      clear hi hz0 hz1 hz2
      have hb2 : Below wr.heap.size wr w2 := (Below.refl _ _).grown hgrow (Nat.le_refl _) (by intro k h; cases h)
      have bel2 : Below w.heap.size w w2 := B.2.trans (hb2.mono B.2.size)
      have B2 : Buf w N t w2 := B.below hb2
      obtain ⟨cur, hcur, hcl⟩ := made_row hown
      have hts := fun W => run_tail w.heap.size t ht1 (by omega) W
      have HD := B2.digs (by omega)
      have hlen : (digs N t).length = t := digs_length N t
      have hge : w.heap.size ≤ wr.heap.size := B.2.size
      clear hown hgrow hb2
      have hsz5 : (Try.prog.info? 5).map (·.size) = some 1 := by kernel_rfl
      go_wp2_with (refine wpList_copy_splice rfl (.tmp 42) (.tmp 44) 22 22 rfl 5 Try.underlying22 hsz5 _ _ _ _ _ _ rfl rfl wr.heap.size 0 cur 5 hcur ((digs N t).map (Value.int .u8)) ?k1 ?k2 ?k3 ?k4 w.heap.size w bel2 hge ?_)
      case k1 => simp [hlen]
      case k2 => intro _ j a hj; have := HD j (.int .u8 a) (by simp [hj]); rwa [Addr.add_lit] at this
      case k3 => simp [hlen, hcl]
      case k4 => exact ints_oneCell _ _
      intro w3 hg3 hb3
      have e3 := splice_whole cur ((digs N t).map (Value.int .u8)) (by simp [hlen, hcl])
      have R3 := Rd_of_row (hg3.out) e3
      clear HD hg3 e3 hcur B B2 bel2
      go_wp2
      go_ret
      exact ⟨t, ht1, ht2, by rw [pre, Nat.sub_zero]; exact hz, _, rfl, R3, hb3⟩
    · have ht3 : t < 18 := by
        rcases Nat.lt_or_ge t 18 with h | h
        · exact h
        · obtain rfl : t = 18 := by omega
          exact absurd (Nat.div_eq_of_lt (by simpa using hN)) hz
      have hq : N / 10 ^ t ≤ N := Nat.div_le_self _ _
      have HS : Hid (N / 10 ^ (t + 1) = N / 10 ^ t / 10) := by show _ = _; rw [Nat.pow_succ, Nat.div_div_eq_div_mul]
      obtain ⟨v, hv⟩ := B.cell (19 - t) (by omega)
      have hf := B.free (19 - t)
      have BS := B.step (by omega)
      generalize N / 10 ^ t = q at *
      have hz' : ((q : Int) != 0) = true := by simp only [bne_iff_ne]; omega
      have ev : ((48 + q % 10 : Nat) : Int) = 48 + (q : Int) % 10 := by omega
      rw [ev, show 19 - t = 20 - t - 1 by omega] at BS
      rw [show 19 - t = 20 - t - 1 by omega] at hv hf
      clear B ev
      go_wp2
      go_roundw
      case rel => exact ⟨t + 1, by omega, by omega, by rw [HS.out]; go_num, by go_num, BS⟩
      case measure => simp [intOf]; omega
set_option maxHeartbeats 1000000 in
theorem decimal_neg (N : Nat) (w : World) (hN : N < 1000000000000000000) (hN1 : 1 ≤ N) :
    Calls Try.prog 13 #[.int .i64 (-(N : Int))] w fun e w' => ∃ t, 1 ≤ t ∧ t ≤ 18 ∧ pre N t 0 = 0 ∧ ∃ g, e = .returned (.slice (some ⟨g, 0, none⟩) (t + 1) (t + 1)) ∧ Rd .u8 w' (some ⟨g, 0, none⟩) (45 :: digs N t) ∧ Below w.heap.size w w' := by
  have hneg : decide (-(N : Int) < 0) = true := decide_eq_true (by omega)
  have B1 := Buf.one w N (.int .u8 0)
  go_enter Try.func13, Try.ntmps13
  go_wp2
  go_loopw [0, 5] (fun nv kv wr => ∃ t : Nat, 1 ≤ t ∧ t ≤ 18 ∧ nv = .int .i64 ((N / 10 ^ t : Nat) : Int) ∧ kv = .int .i64 (20 - (t : Int)) ∧ Buf w N t wr) (fun _ kv _ => (intOf kv).toNat)
  case atStart => exact ⟨1, by omega, by omega, by go_num, by go_num, B1⟩
  case round =>
    clear B1
    obtain ⟨t, ht1, ht2, rfl, rfl, B⟩ := hrel
    by_cases hz : N / 10 ^ t = 0
    · rw [hz]
      obtain ⟨i0, hi, hz0, hz1, hz2⟩ := info_parts Try.info5
      obtain ⟨v, hv⟩ := B.cell (19 - t) (by omega)
      have hf := B.free (19 - t)
      obtain ⟨HD0, bel0, hg0⟩ := B.sign (by omega)
      rw [show 19 - t = 20 - t - 1 by omega] at hv hf HD0 bel0 hg0
      have hts := fun W => run_tail w.heap.size (t + 1) (by omega) (by omega) W
      rw [show (20 : Int) - ((t + 1 : Nat) : Int) = 20 - (t : Int) - 1 by omega, show 20 - (t + 1) = 20 - t - 1 by omega] at hts
      have hsz5 : (Try.prog.info? 5).map (·.size) = some 1 := by kernel_rfl
      have hlen : (digs N t).length = t := digs_length N t
      have hsw : (wr.setCell ⟨w.heap.size, 20 - t - 1, none⟩ (.int .u8 45)).heap.size = wr.heap.size := by simp [World.setCell]
      have hge : w.heap.size ≤ wr.heap.size := B.2.size
      clear B
      go_wp2_with (at_make; refine wpList_make_full _ rfl _ _ 22 rfl w.heap.size 5 i0 (.int .u8 0) 1 Try.underlying22 hi hz0 hz1 _ _ _ _ (t + 1) rfl rfl (by omega) (by omega) ?c1 ?c2 ?c3 ?_)
      case c1 => rw [hz2]; omega
      case c2 => unfold maxLen; omega
      case c3 => simp; omega
      intro w2 hown hgrow
      clear hi hz0 hz1 hz2
      generalize wr.setCell ⟨w.heap.size, 20 - t - 1, none⟩ (.int .u8 45) = wq at *
      have hb2 : Below wq.heap.size wq w2 := (Below.refl _ _).grown hgrow (Nat.le_refl _) (by intro k h; cases h)
      have bel2 : Below w.heap.size w w2 := bel0.trans (hb2.mono bel0.size)
      have HD : ∀ j v, ((45 :: digs N t).map (Value.int .u8))[j]? = some v → w2.cell? ((⟨w.heap.size, 20 - t - 1, none⟩ : Addr).add j) = some v := fun j v hj => by
        have := HD0 j v hj
        rw [hb2.cell (World.block_lt_of_cell? _ _ this)]
        exact this
      obtain ⟨cur, hcur, hcl⟩ := made_row hown
      clear hown hgrow hb2 HD0 bel0 hg0 hv hf
      go_wp2_with (refine wpList_copy_splice rfl (.tmp 42) (.tmp 44) 22 22 rfl 5 Try.underlying22 hsz5 _ _ _ _ _ _ rfl rfl wr.heap.size 0 cur 5 hcur ((45 :: digs N t).map (Value.int .u8)) ?k1 ?k2 ?k3 ?k4 w.heap.size w bel2 hge ?_)
      case k1 => simp [hlen]
      case k2 => intro j v hj; have := HD j v hj; rwa [Addr.add_lit] at this
      case k3 => simp [hlen, hcl]
      case k4 => exact ints_oneCell _ _
      intro w3 hg3 hb3
      have e3 := splice_whole cur ((45 :: digs N t).map (Value.int .u8)) (by simp [hlen, hcl])
      have R3 := Rd_of_row (hg3.out) e3
      clear HD hg3 e3 hcur bel2
      go_wp2
      go_ret
      exact ⟨t, ht1, ht2, by rw [pre, Nat.sub_zero]; exact hz, _, rfl, R3, hb3⟩
    · have ht3 : t < 18 := by
        rcases Nat.lt_or_ge t 18 with h | h
        · exact h
        · obtain rfl : t = 18 := by omega
          exact absurd (Nat.div_eq_of_lt (by simpa using hN)) hz
      have hq : N / 10 ^ t ≤ N := Nat.div_le_self _ _
      have HS : Hid (N / 10 ^ (t + 1) = N / 10 ^ t / 10) := by show _ = _; rw [Nat.pow_succ, Nat.div_div_eq_div_mul]
      obtain ⟨v, hv⟩ := B.cell (19 - t) (by omega)
      have hf := B.free (19 - t)
      have BS := B.step (by omega)
      generalize N / 10 ^ t = q at *
      have hz' : ((q : Int) != 0) = true := by simp only [bne_iff_ne]; omega
      have ev : ((48 + q % 10 : Nat) : Int) = 48 + (q : Int) % 10 := by omega
      rw [ev, show 19 - t = 20 - t - 1 by omega] at BS
      rw [show 19 - t = 20 - t - 1 by omega] at hv hf
      clear B ev
      go_wp2
      go_roundw
      case rel => exact ⟨t + 1, by omega, by omega, by rw [HS.out]; go_num, by go_num, BS⟩
      case measure => simp [intOf]; omega
end Go.Proofs.Qxb6605339a
