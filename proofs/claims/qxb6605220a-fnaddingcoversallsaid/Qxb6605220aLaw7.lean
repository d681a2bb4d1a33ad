import Derived.Test.Qxb6605220aLaw6
import Derived.Test.Qxb6605220aPlain7
import Derived.Deep.RegionWith
namespace Go.Proofs.Qxb6605220a
open Go.ChangeShapes Go.WideShapes Go.ChangeAt Go.RowKit

/-- a variable of type Set in a block of its own, the first behind w7: it holds the bitmap u -/
def BInv (w7 : World) (u : List Int) (wr : World) : Prop :=
  (∃ na nc, wr.heap[w7.heap.size]? = some (.cells #[.slice na u.length nc] 28 (0, 0)) ∧ Rd .u8 wr na u ∧ (na = none → u = [])) ∧ Below w7.heap.size w7 wr

theorem BInv.zero {w7 : World} {a : Option Addr} {u : List Int} (c : Nat) (hr : Rd .u8 w7 a u) (hn : a = none → u = []) : BInv w7 u (w7.alloc (.cells #[.slice a u.length c] 28)) := by
  have hb : Below w7.heap.size w7 (w7.alloc (.cells #[.slice a u.length c] 28)) := (Below.refl _ _).alloc (Nat.le_refl _) _
  exact ⟨⟨a, c, heap_alloc_new w7 _, hr.below hb (Nat.le_refl _), hn⟩, hb⟩

theorem BInv.step {w7 wr w2 : World} {u u' : List Int} {x2 : Option Addr} (y2 : Nat) (H : BInv w7 u wr) (hb : Below wr.heap.size wr w2) (r2 : Rd .u8 w2 x2 u') (n2 : x2 = none → u' = []) : BInv w7 u' (w2.setCell ⟨w7.heap.size, 0, none⟩ (.slice x2 u'.length y2)) := by
  obtain ⟨⟨na, nc, h1, _, _⟩, bel⟩ := H
  have hbox2 : w2.heap[w7.heap.size]? = some (.cells #[.slice na u.length nc] 28 (0, 0)) := (hb.block _ (lt_of_block h1)).trans h1
  exact ⟨⟨x2, y2, one_setCell hbox2, r2.setCell (cell_of_one hbox2) (by intro n h; cases h) _, n2⟩, (bel.trans (hb.mono bel.size)).setCell (Nat.le_refl _) _⟩

theorem below_undrew {w w' : World} (h : Below w.drew.heap.size w.drew w') : Below w.heap.size w w' := ⟨h.os, h.tape, h.output, h.size, h.block⟩

/-- what is held through the comparison of the two unions -/
abbrev SB (b8 b10 : Nat) (v8 v10 : Value) (wr : World) (w' : World) : Prop :=
  w'.cell? ⟨b8, 0, none⟩ = some v8 ∧ w'.cell? ⟨b10, 0, none⟩ = some v10 ∧ Below wr.heap.size wr w'
theorem SB_init {b8 b10 : Nat} {v8 v10 : Value} {wr : World} (h8 : wr.cell? ⟨b8, 0, none⟩ = some v8) (h10 : wr.cell? ⟨b10, 0, none⟩ = some v10) : SB b8 b10 v8 v10 wr wr.drew := ⟨h8, h10, (Below.refl _ _).drew⟩
theorem SB_below {b8 b10 : Nat} {v8 v10 : Value} {wr w1 w2 : World} (h : SB b8 b10 v8 v10 wr w1) (hb : Below w1.heap.size w1 w2) : SB b8 b10 v8 v10 wr w2 := by
  obtain ⟨h1, h2, bel⟩ := h
  have hc : ∀ (a : Addr) (v : Value), w1.cell? a = some v → w2.cell? a = some v := fun a v h => by rw [hb.cell (World.block_lt_of_cell? w1 a h)]; exact h
  exact ⟨hc _ _ h1, hc _ _ h2, bel.trans (hb.mono bel.size)⟩
theorem SB_bel {b8 b10 : Nat} {v8 v10 : Value} {wr w1 : World} (h : SB b8 b10 v8 v10 wr w1) : Below wr.heap.size wr w1 := h.2.2

theorem same_self {w : World} {a a' : Option Addr} {l : List Int} (c c' : Nat) (hr : Rd .u8 w a l) (hr' : Rd .u8 w a' l) (hm : l.length ≤ 1048576) :
    Calls Try.prog 18 #[.slice a l.length c, .slice a' l.length c'] w fun e w' => e = .returned (.bool true) ∧ Below w.heap.size w w' := by
  have hs := same_any (w := w) c c' hr hr' hm
  simpa only [decide_true] using hs

set_option maxRecDepth 100000 in
set_option maxHeartbeats 4000000 in
theorem law7 {w : World} {a a' : Option Addr} {h : List Int} {ps : List Pt} (c c' : Nat) (hr : Rd .u8 w a h) (hn : a = none → h = []) (hbh : byt h) (hmh : h.length ≤ maxLen) (hp : RdP w a' ps) (hpn : a' = none → ps = []) (hok : okP w ps) (hmp : ps.length ≤ maxLen) (hle : ∀ i, i < ps.length → (ps.getD i pt0).le maxLen) :
    Calls Try.prog 7 #[.slice a h.length c, .slice a' ps.length c'] w fun e w' => e = .returned (.bool true) ∧ Below w.heap.size w w' := by
  have HC : Hid (∀ i, i < ps.length → (ps.getD i pt0).le maxLen) := hle
  clear hle
  go_enter Try.func7, Try.ntmps7
  go_wp2_with fail
  refine (bytes25_any a _ c c' hp hmh hmp HC.out).mono ?_
  rintro e w' ⟨r, rfl, rfl, hb⟩
  clear HC
  cases r with
  | false =>
    go_wp2
    go_ret
    exact ⟨rfl, Below.refl _ _⟩
  | true =>
    obtain ⟨m1, m2, m3⟩ := hb rfl
    have M3 : Hid (∀ i, i < ps.length → (ps.getD i pt0).le 1048576) := m3
    clear hb m3 hmh hmp
    go_wp2_with fail
    refine (big20_any a _ c c' hp m1 m2 M3.out).mono ?_
    rintro e w1 ⟨r, rfl, b1, hb⟩
    cases r with
    | true =>
      go_wp2
      go_ret
      exact ⟨rfl, b1⟩
    | false =>
      have m4 := hb rfl
      clear hb m2
      replace hr := hr.below b1 (Nat.le_refl _)
      replace hp := hp.below b1 (Nat.le_refl _)
      replace hok := hok.below b1 (Nat.le_refl _)
      have OK : Hid (okP w1 ps) := hok
      have HP : Hid (RdP w1 a' ps) := hp
      clear hok hp
      by_cases hvh : validB h = true
      case neg =>
        replace hvh : validB h = false := by simpa using hvh
        go_wp2_with fail
        refine (zzValidSet_any _ hr m1).mono ?_
        rintro e w' ⟨rfl, rfl⟩
        go_wp2
        go_ret
        exact ⟨rfl, b1⟩
      go_wp2_with fail
      refine (zzValidSet_any _ hr m1).mono ?_
      rintro e w' ⟨rfl, rfl⟩
      go_wp2_with fail
      go_loop [5] (fun i => ∃ k : Nat, k ≤ ps.length ∧ i = .int .i64 k ∧ Hid (∀ j, j < k → validB (ps.getD j pt0).sl = true)) (fun i => ps.length - (intOf i).toNat)
      case atStart => exact ⟨0, Nat.zero_le _, rfl, fun j hj => by omega⟩
      case round =>
        obtain ⟨k, hk, rfl, HV⟩ := hrel
        by_cases hlt : k < ps.length
        · rcases HP.out with e | ⟨b, o, e, hb, hc⟩
          · subst e; simp at hlt
          subst e
          obtain ⟨g0, g1, g2, g3⟩ := hc k hlt
          have hrk := (OK.out k hlt).1.1
          have hlk := (M3.out k hlt).1
          have HV' : Hid (validB (ps.getD k pt0).sl = true → ∀ j, j < k + 1 → validB (ps.getD j pt0).sl = true) := by
            intro h j hj
            by_cases e : j = k
            · subst e; exact h
            · exact HV.out j (by omega)
          clear hc HV
          generalize (ps.getD k pt0).sl = s1 at *
          generalize (ps.getD k pt0).sa = a1 at *
          generalize (ps.getD k pt0).sc = d1 at *
          by_cases hv : validB s1 = true
          · go_wp2_with fail
            refine (zzValidSet_any _ hrk hlk).mono ?_
            rintro e w' ⟨rfl, rfl⟩
            go_wp2
            go_round
            case rel => exact ⟨k + 1, by omega, by go_num, HV'.out hv⟩
            case measure => simp [intOf]; omega
          · replace hv : validB s1 = false := by simpa using hv
            go_wp2_with fail
            refine (zzValidSet_any _ hrk hlk).mono ?_
            rintro e w' ⟨rfl, rfl⟩
            go_wp2
            go_ret
            exact ⟨rfl, b1⟩
        · obtain rfl : k = ps.length := by omega
          go_wp2_with fail
          refine (clone_any _ hr hn m1).mono ?_
          rintro e w2 ⟨a2, c2, rfl, r2, n2, b2⟩
          have hn2 : a2 = none → h = [] := fun h => hn (n2.1 h)
          replace HP := HP.out.below b2 (Nat.le_refl _)
          replace OK := OK.out.below b2 (Nat.le_refl _)
          have bb : Below w.heap.size w w2 := b1.trans (b2.mono b1.size)
          clear b1 b2 hr hn n2
          go_wp2_with fail
          refine (cloneParts_any _ HP hpn OK m4 M3.out).mono ?_
          rintro e w3 ⟨a3, c3, qs, rfl, hql, hsame, hp3, hok3, b3⟩
          have QV : Hid (∀ i, i < qs.length → validB (qs.getD i pt0).sl = true) := fun i hi => by rw [← (hsame i (by omega)).2.1]; exact HV.out i (by omega)
          have QL : Hid (∀ i, i < qs.length → (qs.getD i pt0).le 1048576) := fun i hi => by
            obtain ⟨_, e1, e2, e3, _⟩ := hsame i (by omega)
            have := M3.out i (by omega)
            unfold Pt.le at this ⊢
            rw [← e1, ← e2, ← e3]
            exact this
          have QM : qs.length ≤ 4096 := by omega
          have bb2 : Below w.heap.size w w3 := bb.trans (b3.mono bb.size)
          replace r2 := r2.below b3 (Nat.le_refl _)
          clear b3 bb hsame hql HV M3 HP OK hpn
          go_wp2_with fail
          refine (toParts_any _ hp3 hok3 QM).mono ?_
          rintro e w4 ⟨a4, c4, rfl, n4, hp4, b4⟩
          replace r2 := r2.below b4 (Nat.le_refl _)
          replace hp3 := hp3.below b4 (Nat.le_refl _)
          replace hok3 := hok3.below b4 (Nat.le_refl _)
          replace bb2 := bb2.trans (b4.mono bb2.size)
          clear b4 n4
          go_wp2_with fail
          refine (mkSet_any _ _ _ _ rfl _).mono ?_
          rintro e w5 ⟨rfl, b4⟩
          replace r2 := r2.below b4 (Nat.le_refl _)
          replace hp3 := hp3.below b4 (Nat.le_refl _)
          replace hp4 := hp4.below b4 (Nat.le_refl _)
          replace hok3 := hok3.below b4 (Nat.le_refl _)
          replace bb2 := bb2.trans (b4.mono bb2.size)
          clear b4
          go_wp2_with fail
          refine (zzAdding_any _ _ r2 hn2 hp4 hok3 m1 QM (fun i hi => (QL.out i hi).1)).mono ?_
          rintro e w6 ⟨a6, c6, rfl, hp6, n6, b4⟩
          replace r2 := r2.below b4 (Nat.le_refl _)
          replace hp3 := hp3.below b4 (Nat.le_refl _)
          replace hok3 := hok3.below b4 (Nat.le_refl _)
          replace bb2 := bb2.trans (b4.mono bb2.size)
          replace hp4 := hp4.below b4 (Nat.le_refl _)
          clear b4 n6
          have OK : Hid (okP w6 qs) := hok3
          have P3 : Hid (RdP w6 a3 qs) := hp3
          have P4 : Hid (RdP w6 a4 qs) := hp4
          have P6 : Hid (RdP w6 a6 (addL h qs)) := hp6
          clear hok3 hp3 hp6 hp4
          go_wp2_with fail
          refine (mkSet_any _ _ _ _ rfl _).mono ?_
          rintro e w7 ⟨rfl, b7⟩
          have r7 := r2.below b7 (Nat.le_refl _)
          have B0 := BInv.zero (w7 := w7) c2 r7 hn2
          go_wp2_with fail
          go_loopw [9] (fun i wr => ∃ k : Nat, k ≤ qs.length ∧ i = .int .i64 k ∧ BInv w7 (unN h qs k) wr) (fun i _ => qs.length - (intOf i).toNat)
          case atStart => exact ⟨0, Nat.zero_le _, rfl, B0⟩
          case round =>
            clear B0
            obtain ⟨k, hk, rfl, H⟩ := hrel
            by_cases hlt : k < qs.length
            · rcases P3.out with e | ⟨b, o, e, hb, hc⟩
              · subst e; simp at hlt
              subst e
              obtain ⟨⟨na, nc, hbox, hR, hN⟩, bel⟩ := id H
              have bel6 : Below w6.heap.size w6 wr := b7.trans (bel.mono b7.size)
              obtain ⟨g0, g1, g2, g3⟩ := Pt.lies_below (hc k hlt) bel6 hb
              have hrk := ((OK.out k hlt).below bel6 (Nat.le_refl _)).1.1
              have hnk := (OK.out k hlt).2.1.1
              have hlk := (QL.out k hlt).1
              have hlu := unN_len m1 (fun i hi => (QL.out i hi).1) k hk
              have ST : Hid (∀ (w2 : World) (x2 : Option Addr) (y2 : Nat), Below wr.heap.size wr w2 → Rd .u8 w2 x2 (unionL (unN h qs k) (qs.getD k pt0).sl) → (x2 = none → unionL (unN h qs k) (qs.getD k pt0).sl = []) → BInv w7 (unN h qs (k + 1)) (w2.setCell ⟨w7.heap.size, 0, none⟩ (.slice x2 (unionL (unN h qs k) (qs.getD k pt0).sl).length y2))) := fun w2 x2 y2 h1 h2 h3 => by
                rw [unN_succ h qs k hlt]; exact H.step y2 h1 h2 h3
              have cb := cell_of_one hbox
              have fb := free_of_one hbox
              have lb := lt_of_block hbox
              have i1 : (k : Int) < (qs.length : Int) := by omega
              clear hc g0 g2 g3 H
              generalize unN h qs k = u at *
              generalize (qs.getD k pt0).sl = s1 at *
              generalize (qs.getD k pt0).sa = a1 at *
              generalize (qs.getD k pt0).sc = d1 at *
              go_wp2
              go_region_with (first
                | (go_at_call 13; refine (mkSet_any _ _ _ _ rfl _).mono ?_; rintro e w8 ⟨rfl, B1⟩; have B1' := below_undrew B1; have cb8 := (B1'.cell (p := ⟨w7.heap.size, 0, none⟩) lb).trans cb)
                | (go_at_call 12; refine (zzUnion_any nc d1 (hR.below B1' (Nat.le_refl _)) (hrk.below B1' (Nat.le_refl _)) hN hnk hlu hlk).mono ?_; rintro e w9 ⟨x2, y2, rfl, R2, N2, B2⟩; have B2' := B1'.trans (B2.mono B1'.size); have cb9 := (B2'.cell (p := ⟨w7.heap.size, 0, none⟩) lb).trans cb; have fb9 := (B2'.frozen (p := ⟨w7.heap.size, 0, none⟩) lb).trans fb))
              all_goals
                have R := ST.out w9 x2 y2 B2' R2 N2
                clear ST B1 B1' B2 B2' R2 N2 cb8 cb9 fb9 cb fb hR hrk hN hnk bel bel6
                go_wp2
                go_roundw
                case rel => exact ⟨k + 1, by omega, by go_num, R⟩
                case measure => simp [intOf]; omega
            · obtain rfl : k = qs.length := by omega
              have b9 : Below w6.heap.size w6 wr := b7.trans (H.2.mono b7.size)
              have r9 := r2.below b9 (Nat.le_refl _)
              go_wp2_with fail
              refine (mkSet_any _ _ _ _ rfl _).mono ?_
              rintro e w8 ⟨rfl, b8⟩
              have bel8 : Below w6.heap.size w6 w8 := b9.trans (b8.mono b9.size)
              have r8 := r9.below b8 (Nat.le_refl _)
              have B0 := BInv.zero (w7 := w8) c2 r8 hn2
              obtain ⟨⟨na, nc, hbox, hR, hN⟩, _⟩ := H
              have hbox8 : w8.heap[w7.heap.size]? = _ := (b8.block _ (lt_of_block hbox)).trans hbox
              have hR8 := hR.below b8 (Nat.le_refl _)
              have lb8 := lt_of_block hbox8
              clear b8 b9 r9 hbox hR b7 r7
              have e7 : w7.heap.size < w8.heap.size := lb8
              go_wp2_with fail
              go_loopw [11] (fun i wr => ∃ k : Nat, k ≤ (addL h qs).length ∧ i = .int .i64 k ∧ BInv w8 (unN h (addL h qs) k) wr) (fun i _ => (addL h qs).length - (intOf i).toNat)
              case atStart => exact ⟨0, Nat.zero_le _, rfl, B0⟩
              case round =>
                clear B0
                obtain ⟨k, hk, rfl, H⟩ := hrel
                have OKo : okP w6 (addL h qs) := addL_all OK.out
                have QLo := addL_all (q := fun p => p.le 1048576) (h := h) QL.out
                have QMo : (addL h qs).length ≤ 4096 := by have := addL_length h qs; omega
                by_cases hlt : k < (addL h qs).length
                · rcases P6.out with e | ⟨b, o, e, hb, hc⟩
                  · rw [e] at hlt; simp at hlt
                  subst e
                  obtain ⟨⟨ma, mc, hbox, hR, hM⟩, bel⟩ := id H
                  have bel6 : Below w6.heap.size w6 wr := bel8.trans (bel.mono bel8.size)
                  obtain ⟨g0, g1, g2, g3⟩ := Pt.lies_below (hc k hlt) bel6 hb
                  have hrk := ((OKo k hlt).below bel6 (Nat.le_refl _)).1.1
                  have hnk := (OKo k hlt).2.1.1
                  have hlk := (QLo k hlt).1
                  have hlu := unN_len m1 (fun i hi => (QLo i hi).1) k hk
                  have ST : Hid (∀ (w2 : World) (x2 : Option Addr) (y2 : Nat), Below wr.heap.size wr w2 → Rd .u8 w2 x2 (unionL (unN h (addL h qs) k) ((addL h qs).getD k pt0).sl) → (x2 = none → unionL (unN h (addL h qs) k) ((addL h qs).getD k pt0).sl = []) → BInv w8 (unN h (addL h qs) (k + 1)) (w2.setCell ⟨w8.heap.size, 0, none⟩ (.slice x2 (unionL (unN h (addL h qs) k) ((addL h qs).getD k pt0).sl).length y2))) := fun w2 x2 y2 h1 h2 h3 => by
                    rw [unN_succ h (addL h qs) k hlt]; exact H.step y2 h1 h2 h3
                  have cb := cell_of_one hbox
                  have fb := free_of_one hbox
                  have lb := lt_of_block hbox
                  have i1 : (k : Int) < ((addL h qs).length : Int) := by omega
                  clear hc H OKo QLo
                  generalize unN h (addL h qs) k = u at *
                  generalize ((addL h qs).getD k pt0).sl = s1 at *
                  generalize ((addL h qs).getD k pt0).tl.length = l2 at *
                  generalize ((addL h qs).getD k pt0).gl.length = l3 at *
                  generalize ((addL h qs).getD k pt0).sa = a1 at *
                  generalize ((addL h qs).getD k pt0).ta = x3 at *
                  generalize ((addL h qs).getD k pt0).ga = x4 at *
                  generalize ((addL h qs).getD k pt0).sc = d1 at *
                  generalize ((addL h qs).getD k pt0).tc = d2 at *
                  generalize ((addL h qs).getD k pt0).gc = d3 at *
                  generalize ((addL h qs).getD k pt0).f = f at *
                  go_wp2
                  go_region_with (first
                    | (go_at_call 26; refine (partSigners_any _ _ _ _ _ _ _ _ _ _ _).mono ?_; rintro e w9 ⟨rfl, A1⟩; have A1' := below_undrew A1; have ca9 := (A1'.cell (p := ⟨w8.heap.size, 0, none⟩) lb).trans cb)
                    | (go_at_call 13; refine (mkSet_any _ _ _ _ rfl _).mono ?_; rintro e w10 ⟨rfl, B1⟩; have B1' := A1'.trans (B1.mono A1'.size); have cb8 := (B1'.cell (p := ⟨w8.heap.size, 0, none⟩) lb).trans cb)
                    | (go_at_call 12; refine (zzUnion_any mc d1 (hR.below B1' (Nat.le_refl _)) (hrk.below B1' (Nat.le_refl _)) hM hnk hlu hlk).mono ?_; rintro e w11 ⟨x2, y2, rfl, R2, N2, B2⟩; have B2' := B1'.trans (B2.mono B1'.size); have cb9 := (B2'.cell (p := ⟨w8.heap.size, 0, none⟩) lb).trans cb; have fb9 := (B2'.frozen (p := ⟨w8.heap.size, 0, none⟩) lb).trans fb))
                  all_goals
                    have R := ST.out w11 x2 y2 B2' R2 N2
                    clear ST A1 A1' ca9 B1 B1' B2 B2' R2 N2 cb8 cb9 fb9 cb fb hR hrk hM hnk bel bel6
                    go_wp2
                    go_roundw
                    case rel => exact ⟨k + 1, by omega, by go_num, R⟩
                    case measure => simp [intOf]; omega
                · obtain rfl : k = (addL h qs).length := by omega
                  have QB : ∀ i, i < qs.length → byt (qs.getD i pt0).sl := fun i hi => (OK.out i hi).2.2
                  have hcov := covers hbh hvh QB QV.out
                  have hnone := none_beyond hbh QB QV.out
                  have hlU := unN_len m1 (fun i hi => (QL.out i hi).1) qs.length (Nat.le_refl _)
                  rw [← hcov] at H
                  generalize unN h qs qs.length = U at *
                  obtain ⟨⟨ma, mc, hboxm, hRm, hMm⟩, bel⟩ := H
                  have hbox9 : wr.heap[w7.heap.size]? = _ := (bel.block _ e7).trans hbox8
                  have hR9 := hR8.below bel (Nat.le_refl _)
                  have bel6 : Below w6.heap.size w6 wr := bel8.trans (bel.mono bel8.size)
                  have c8 := cell_of_one hbox9
                  have c10 := cell_of_one hboxm
                  have hS := SB_init c8 c10
                  have HNONE : Hid (addL U qs = []) := hnone
                  clear hcov hbox8 hR8 lb8 hboxm hnone QB
                  go_wp2
                  go_region_held3 (SB w7.heap.size w8.heap.size (.slice na U.length nc) (.slice ma U.length mc) wr) (first | exact hS | exact SB_below (by assumption) (by assumption))
                    (first
                      | (go_at_call 11; refine (bitmap_any _ _ _ _).mono ?_; rintro e w12 ⟨rfl, B1⟩)
                      | (go_at_call 18; refine (same_self nc mc (hR9.below (SB_bel (by assumption)) (Nat.le_refl _)) (hRm.below (SB_bel (by assumption)) (Nat.le_refl _)) hlU).mono ?_; rintro e w13 ⟨rfl, B1⟩))
                  have b13 := SB_bel (by assumption)
                  have bel13 : Below w6.heap.size w6 w13 := bel6.trans (b13.mono bel6.size)
                  have c13 := (b13.cell (p := ⟨w7.heap.size, 0, none⟩) (lt_of_block hbox9)).trans c8
                  have hR13 := hR9.below b13 (Nat.le_refl _)
                  have p4 := P4.out.below bel13 (Nat.le_refl _)
                  have p6 := P6.out.below bel13 (Nat.le_refl _)
                  have ok13 := OK.out.below bel13 (Nat.le_refl _)
                  have oko13 := okP.below OKo bel13 (Nat.le_refl _)
                  have r13 := r2.below bel13 (Nat.le_refl _)
                  clear hS hRm hMm c8 c10 b13 hR9 P3 bel hbox9
                  go_wp2_with fail
                  refine (zzAdding_any _ _ hR13 hN p4 ok13 hlU QM (fun i hi => (QL.out i hi).1)).mono ?_
                  rw [HNONE.out]
                  rintro e w14 ⟨a14, c14, rfl, _, _, b14⟩
                  replace bel13 := bel13.trans (b14.mono bel13.size)
                  replace p6 := p6.below b14 (Nat.le_refl _)
                  replace oko13 := oko13.below b14 (Nat.le_refl _)
                  replace r13 := r13.below b14 (Nat.le_refl _)
                  clear b14 c13 hR13 p4 ok13 hN HNONE
                  go_wp2_with fail
                  refine (mkSet_any _ _ _ _ rfl _).mono ?_
                  rintro e w15 ⟨rfl, b14⟩
                  replace bel13 := bel13.trans (b14.mono bel13.size)
                  replace p6 := p6.below b14 (Nat.le_refl _)
                  replace oko13 := oko13.below b14 (Nat.le_refl _)
                  replace r13 := r13.below b14 (Nat.le_refl _)
                  clear b14
                  go_wp2_with fail
                  refine (zzAdding_any _ _ r13 hn2 p6 oko13 m1 QMo (fun i hi => (QLo i hi).1)).mono ?_
                  rw [addL_again]
                  rintro e w16 ⟨a16, c16, rfl, p16, _, b14⟩
                  replace bel13 := bel13.trans (b14.mono bel13.size)
                  replace p6 := p6.below b14 (Nat.le_refl _)
                  replace oko13 := oko13.below b14 (Nat.le_refl _)
                  have P6' : Hid (RdP w16 a6 (addL h qs)) := p6
                  have P16 : Hid (RdP w16 a16 (addL h qs)) := p16
                  have OKo' : Hid (okP w16 (addL h qs)) := oko13
                  have QLo' : Hid (∀ i, i < (addL h qs).length → ((addL h qs).getD i pt0).le 1048576) := QLo
                  clear b14 r13 p6 p16 oko13 OKo QLo OK QL QV P4 P6 bel6 bel8
                  generalize addL h qs = outs at *
                  go_wp2_with fail
                  go_loopw [13] (fun i wr => ∃ k : Nat, k ≤ outs.length ∧ i = .int .i64 k ∧ Below w16.heap.size w16 wr) (fun i _ => outs.length - (intOf i).toNat)
                  case atStart => exact ⟨0, Nat.zero_le _, rfl, Below.refl _ _⟩
                  case round =>
                    obtain ⟨k, hk, rfl, bel⟩ := hrel
                    by_cases hlt : k < outs.length
                    · rcases P6'.out with e | ⟨b, o, e, hb, hc⟩
                      · rw [e] at hlt; simp at hlt
                      subst e
                      rcases P16.out with e | ⟨b6, o6, e, hb6, hc6⟩
                      · rw [e] at hlt; simp at hlt
                      subst e
                      obtain ⟨z0, z1, z2, z3⟩ := hc k hlt
                      obtain ⟨y0, y1, y2, y3⟩ := hc6 k hlt
                      have hS := SO_drew (SO_mk z0 z1 z2 z3 y0 y1 y2 y3 hb hb6 bel)
                      obtain ⟨⟨q1, q2, q3⟩, _⟩ := OKo'.out k hlt
                      obtain ⟨l1, l2, l3⟩ := QLo'.out k hlt
                      have i1 : (k : Int) < (outs.length : Int) := by omega
                      clear hc hc6 z0 z1 z2 z3 y0 y1 y2 y3
                      generalize (outs.getD k pt0).sl = s1 at *
                      generalize (outs.getD k pt0).tl = s2 at *
                      generalize (outs.getD k pt0).gl = s3 at *
                      generalize (outs.getD k pt0).sa = a1 at *
                      generalize (outs.getD k pt0).ta = x2 at *
                      generalize (outs.getD k pt0).ga = x3 at *
                      generalize (outs.getD k pt0).sc = d1 at *
                      generalize (outs.getD k pt0).tc = d2 at *
                      generalize (outs.getD k pt0).gc = d3 at *
                      generalize (outs.getD k pt0).f = f at *
                      go_wp2
                      go_region_held3 (SO b o b6 o6 k k f (.slice a1 s1.length d1) (.slice x2 s2.length d2) (.slice x3 s3.length d3) w16) (first | exact hS | exact SO_below (by assumption) (by assumption))
                        (first
                          | (go_at_call 27; refine (sameZZ_self f a1 x2 x3 d1 d2 d3 s1 s2 s3 _ (q1.below (SO_bel (by assumption)) (Nat.le_refl _)) (q2.below (SO_bel (by assumption)) (Nat.le_refl _)) (q3.below (SO_bel (by assumption)) (Nat.le_refl _)) l1 l2 l3).mono ?_; rintro e w17 ⟨rfl, B1⟩))
                      have b17 := SO_bel (by assumption)
                      clear B1 hS q1 q2 q3 bel
                      go_wp2
                      go_roundw
                      case rel => exact ⟨k + 1, by omega, by go_num, b17⟩
                      case measure => simp [intOf]; omega
                    · obtain rfl : k = outs.length := by omega
                      go_wp2
                      go_ret
                      exact ⟨rfl, bb2.trans ((bel13.trans (bel.mono bel13.size)).mono bb2.size)⟩
end Go.Proofs.Qxb6605220a
