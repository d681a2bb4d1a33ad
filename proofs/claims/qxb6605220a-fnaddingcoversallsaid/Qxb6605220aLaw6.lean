import Derived.Test.Qxb6605220aSeen
namespace Go.Proofs.Qxb6605220a
open Go.ChangeShapes Go.WideShapes Go.ChangeAt Go.RowKit

/-- what is held through the region that compares a kept part with its model -/
abbrev SO (b o b6 o6 k j : Nat) (f : Int) (v1 v2 v3 : Value) (w6 : World) (w' : World) : Prop :=
  w'.cell? ⟨b, o + k * 4, none⟩ = some (.int .i64 f) ∧ w'.cell? ⟨b, o + k * 4 + 1, none⟩ = some v1 ∧ w'.cell? ⟨b, o + k * 4 + 2, none⟩ = some v2 ∧ w'.cell? ⟨b, o + k * 4 + 3, none⟩ = some v3 ∧
  w'.cell? ⟨b6, o6 + j * 4, none⟩ = some (.int .i64 f) ∧ w'.cell? ⟨b6, o6 + j * 4 + 1, none⟩ = some v1 ∧ w'.cell? ⟨b6, o6 + j * 4 + 2, none⟩ = some v2 ∧ w'.cell? ⟨b6, o6 + j * 4 + 3, none⟩ = some v3 ∧ Below w6.heap.size w6 w'

theorem SO_mk {b o b6 o6 k j : Nat} {f : Int} {v1 v2 v3 : Value} {w6 wr : World} (z0 : w6.cell? ⟨b, o + k * 4, none⟩ = some (.int .i64 f)) (z1 : w6.cell? ⟨b, o + k * 4 + 1, none⟩ = some v1) (z2 : w6.cell? ⟨b, o + k * 4 + 2, none⟩ = some v2) (z3 : w6.cell? ⟨b, o + k * 4 + 3, none⟩ = some v3)
    (y0 : w6.cell? ⟨b6, o6 + j * 4, none⟩ = some (.int .i64 f)) (y1 : w6.cell? ⟨b6, o6 + j * 4 + 1, none⟩ = some v1) (y2 : w6.cell? ⟨b6, o6 + j * 4 + 2, none⟩ = some v2) (y3 : w6.cell? ⟨b6, o6 + j * 4 + 3, none⟩ = some v3)
    (hb : b < w6.heap.size) (hb6 : b6 < w6.heap.size) (bel : Below w6.heap.size w6 wr) : SO b o b6 o6 k j f v1 v2 v3 w6 wr := by
  have hc : ∀ i v, w6.cell? ⟨b, i, none⟩ = some v → wr.cell? ⟨b, i, none⟩ = some v := fun i v h => (bel.cell (p := ⟨b, i, none⟩) hb).trans h
  have hc6 : ∀ i v, w6.cell? ⟨b6, i, none⟩ = some v → wr.cell? ⟨b6, i, none⟩ = some v := fun i v h => (bel.cell (p := ⟨b6, i, none⟩) hb6).trans h
  exact ⟨hc _ _ z0, hc _ _ z1, hc _ _ z2, hc _ _ z3, hc6 _ _ y0, hc6 _ _ y1, hc6 _ _ y2, hc6 _ _ y3, bel⟩
theorem SO_drew {b o b6 o6 k j : Nat} {f : Int} {v1 v2 v3 : Value} {w6 wr : World} (h : SO b o b6 o6 k j f v1 v2 v3 w6 wr) : SO b o b6 o6 k j f v1 v2 v3 w6 wr.drew := by
  obtain ⟨g0, g1, g2, g3, c0, c1, c2, c3, bel⟩ := h
  exact ⟨g0, g1, g2, g3, c0, c1, c2, c3, bel.drew⟩
theorem SO_below {b o b6 o6 k j : Nat} {f : Int} {v1 v2 v3 : Value} {w6 w1 w2 : World} (h : SO b o b6 o6 k j f v1 v2 v3 w6 w1) (hb : Below w1.heap.size w1 w2) : SO b o b6 o6 k j f v1 v2 v3 w6 w2 := by
  obtain ⟨g0, g1, g2, g3, c0, c1, c2, c3, bel⟩ := h
  have hc : ∀ (a : Addr) (v : Value), w1.cell? a = some v → w2.cell? a = some v := fun a v h => by rw [hb.cell (World.block_lt_of_cell? w1 a h)]; exact h
  exact ⟨hc _ _ g0, hc _ _ g1, hc _ _ g2, hc _ _ g3, hc _ _ c0, hc _ _ c1, hc _ _ c2, hc _ _ c3, bel.trans (hb.mono bel.size)⟩
theorem SO_bel {b o b6 o6 k j : Nat} {f : Int} {v1 v2 v3 : Value} {w6 w1 : World} (h : SO b o b6 o6 k j f v1 v2 v3 w6 w1) : Below w6.heap.size w6 w1 := h.2.2.2.2.2.2.2.2
theorem Sn.drew {w : World} {g n : Nat} {S : Nat → Bool} (h : Sn w g n S) : Sn w.drew g n S := ⟨h.1, h.2⟩

set_option maxRecDepth 100000 in
set_option maxHeartbeats 4000000 in
theorem law6 {w : World} {a a' : Option Addr} {h : List Int} {ps : List Pt} (c c' : Nat) (hr : Rd .u8 w a h) (hn : a = none → h = []) (hbh : byt h) (hmh : h.length ≤ maxLen) (hp : RdP w a' ps) (hpn : a' = none → ps = []) (hok : okP w ps) (hmp : ps.length ≤ maxLen) (hle : ∀ i, i < ps.length → (ps.getD i pt0).le maxLen) :
    Calls Try.prog 6 #[.slice a h.length c, .slice a' ps.length c'] w fun e w' => e = .returned (.bool true) ∧ Below w.heap.size w w' := by
  have HC : Hid (∀ i, i < ps.length → (ps.getD i pt0).le maxLen) := hle
  clear hle
  go_enter Try.func6, Try.ntmps6
  go_wp2_with fail
  refine (bytes19_any a _ c c' hp hmh hmp HC.out).mono ?_
  rintro e w' ⟨r, rfl, rfl, hb⟩
  clear HC
  cases r with
  | false =>
    go_wp2
    go_ret
    exact ⟨rfl, Below.refl _ _⟩
  | true =>
    obtain ⟨m1, m2, m3⟩ := hb rfl
    have M3 : Hid (∀ i, i < ps.length → (ps.getD i pt0).le 1048576) := m3
    clear hb m3 hmh hmp
    go_wp2_with fail
    refine (big20_any a _ c c' hp m1 m2 M3.out).mono ?_
    rintro e w1 ⟨r, rfl, b1, hb⟩
    cases r with
    | true =>
      go_wp2
      go_ret
      exact ⟨rfl, b1⟩
    | false =>
      have m4 := hb rfl
      clear hb m2
      replace hr := hr.below b1 (Nat.le_refl _)
      replace hp := hp.below b1 (Nat.le_refl _)
      replace hok := hok.below b1 (Nat.le_refl _)
      have OK : Hid (okP w1 ps) := hok
      have HP : Hid (RdP w1 a' ps) := hp
      clear hok hp
      go_wp2_with fail
      go_loop [5] (fun i => ∃ k : Nat, k ≤ ps.length ∧ i = .int .i64 k ∧ Hid (∀ j, j < k → validB (ps.getD j pt0).sl = true)) (fun i => ps.length - (intOf i).toNat)
      case atStart => exact ⟨0, Nat.zero_le _, rfl, fun j hj => by omega⟩
      case round =>
        obtain ⟨k, hk, rfl, HV⟩ := hrel
        by_cases hlt : k < ps.length
        · rcases HP.out with e | ⟨b, o, e, hb, hc⟩
          · subst e; simp at hlt
          subst e
          obtain ⟨g0, g1, g2, g3⟩ := hc k hlt
          have hrk := (OK.out k hlt).1.1
          have hlk := (M3.out k hlt).1
          have HV' : Hid (validB (ps.getD k pt0).sl = true → ∀ j, j < k + 1 → validB (ps.getD j pt0).sl = true) := by
            intro h j hj
            by_cases e : j = k
            · subst e; exact h
            · exact HV.out j (by omega)
          clear hc HV
          generalize (ps.getD k pt0).sl = s1 at *
          generalize (ps.getD k pt0).sa = a1 at *
          generalize (ps.getD k pt0).sc = d1 at *
          by_cases hv : validB s1 = true
          · go_wp2_with fail
            refine (zzValidSet_any _ hrk hlk).mono ?_
            rintro e w' ⟨rfl, rfl⟩
            go_wp2
            go_round
            case rel => exact ⟨k + 1, by omega, by go_num, HV'.out hv⟩
            case measure => simp [intOf]; omega
          · replace hv : validB s1 = false := by simpa using hv
            go_wp2_with fail
            refine (zzValidSet_any _ hrk hlk).mono ?_
            rintro e w' ⟨rfl, rfl⟩
            go_wp2
            go_ret
            exact ⟨rfl, b1⟩
        · obtain rfl : k = ps.length := by omega
          go_wp2_with fail
          refine (clone_any _ hr hn m1).mono ?_
          rintro e w2 ⟨a2, c2, rfl, r2, n2, b2⟩
          have hn2 : a2 = none → h = [] := fun h => hn (n2.1 h)
          replace HP := HP.out.below b2 (Nat.le_refl _)
          replace OK := OK.out.below b2 (Nat.le_refl _)
          have bb : Below w.heap.size w w2 := b1.trans (b2.mono b1.size)
          clear b1 b2 hr hn n2
          go_wp2_with fail
          refine (cloneParts_any _ HP hpn OK m4 M3.out).mono ?_
          rintro e w3 ⟨a3, c3, qs, rfl, hql, hsame, hp3, hok3, b3⟩
          have QV : Hid (∀ i, i < qs.length → validB (qs.getD i pt0).sl = true) := fun i hi => by rw [← (hsame i (by omega)).2.1]; exact HV.out i (by omega)
          have QL : Hid (∀ i, i < qs.length → (qs.getD i pt0).le 1048576) := fun i hi => by
            obtain ⟨_, e1, e2, e3, _⟩ := hsame i (by omega)
            have := M3.out i (by omega)
            unfold Pt.le at this ⊢
            rw [← e1, ← e2, ← e3]
            exact this
          have QM : qs.length ≤ 4096 := by omega
          have bb2 : Below w.heap.size w w3 := bb.trans (b3.mono bb.size)
          replace r2 := r2.below b3 (Nat.le_refl _)
          clear b3 bb hsame hql HV M3 HP OK hpn
          go_wp2_with fail
          refine (toParts_any _ hp3 hok3 QM).mono ?_
          rintro e w4 ⟨a4, c4, rfl, n4, hp4, b4⟩
          replace r2 := r2.below b4 (Nat.le_refl _)
          replace hp3 := hp3.below b4 (Nat.le_refl _)
          replace hok3 := hok3.below b4 (Nat.le_refl _)
          replace bb2 := bb2.trans (b4.mono bb2.size)
          clear b4 n4
          go_wp2_with fail
          refine (mkSet_any _ _ _ _ rfl _).mono ?_
          rintro e w5 ⟨rfl, b4⟩
          replace r2 := r2.below b4 (Nat.le_refl _)
          replace hp3 := hp3.below b4 (Nat.le_refl _)
          replace hp4 := hp4.below b4 (Nat.le_refl _)
          replace hok3 := hok3.below b4 (Nat.le_refl _)
          replace bb2 := bb2.trans (b4.mono bb2.size)
          clear b4
          go_wp2_with fail
          refine (zzAdding_any _ _ r2 hn2 hp4 hok3 m1 QM (fun i hi => (QL.out i hi).1)).mono ?_
          rintro e w6 ⟨a6, c6, rfl, hp6, n6, b4⟩
          replace r2 := r2.below b4 (Nat.le_refl _)
          replace hp3 := hp3.below b4 (Nat.le_refl _)
          replace hok3 := hok3.below b4 (Nat.le_refl _)
          replace bb2 := bb2.trans (b4.mono bb2.size)
          clear b4 hp4 n6 hn2
          have OK : Hid (okP w6 qs) := hok3
          have P3 : Hid (RdP w6 a3 qs) := hp3
          have P6 : Hid (RdP w6 a6 (addL h qs)) := hp6
          clear hok3 hp3 hp6
          go_wp2_with fail
          go_loop [8, 9] (fun t i => ∃ k q : Nat, k ≤ qs.length ∧ q ≤ 1048576 ∧ h.length ≤ q ∧ t = .int .i64 q ∧ i = .int .i64 k ∧ Hid (∀ j, j < k → (qs.getD j pt0).sl.length ≤ q)) (fun _ i => qs.length - (intOf i).toNat)
          case atStart => exact ⟨0, h.length, Nat.zero_le _, m1, Nat.le_refl _, rfl, rfl, fun j hj => by omega⟩
          case round =>
            obtain ⟨k, q, hk, hq, hhq, rfl, rfl, HM⟩ := hrel
            by_cases hlt : k < qs.length
            · rcases P3.out with e | ⟨b, o, e, hb, hc⟩
              · subst e; simp at hlt
              subst e
              obtain ⟨g0, g1, g2, g3⟩ := hc k hlt
              have hlk := (QL.out k hlt).1
              have HM1 : Hid ((qs.getD k pt0).sl.length ≤ q → ∀ j, j < k + 1 → (qs.getD j pt0).sl.length ≤ q) := by
                intro h j hj
                by_cases e : j = k
                · subst e; exact h
                · exact HM.out j (by omega)
              have HM2 : Hid (q < (qs.getD k pt0).sl.length → ∀ j, j < k + 1 → (qs.getD j pt0).sl.length ≤ (qs.getD k pt0).sl.length) := by
                intro h j hj
                by_cases e : j = k
                · subst e; exact Nat.le_refl _
                · have := HM.out j (by omega); omega
              clear hc HM
              generalize (qs.getD k pt0).sl.length = s1 at *
              generalize (qs.getD k pt0).sa = a1 at *
              generalize (qs.getD k pt0).sc = d1 at *
              by_cases hv : q < s1
              · go_wp2
                go_round
                case rel => exact ⟨k + 1, s1, by omega, by omega, by omega, by go_num, by go_num, HM2.out hv⟩
                case measure => simp [intOf]; omega
              · go_wp2
                go_round
                case rel => exact ⟨k + 1, q, by omega, by omega, by omega, by go_num, by go_num, HM1.out (by omega)⟩
                case measure => simp [intOf]; omega
            · obtain rfl : k = qs.length := by omega
              obtain ⟨i0, hi, hz0, hz1, hz2⟩ := info_parts Try.info4
              go_wp2_with (at_make; refine wpList_make_full _ rfl _ _ 42 rfl w6.heap.size 4 i0 (.bool false) 1 Try.underlying42 hi hz0 hz1 _ _ _ _ (8 * q + 1) rfl rfl (by omega) (by omega) ?c1 ?c2 ?c3 ?_)
              case c1 => omega
              case c2 => unfold maxLen; omega
              intro w7 hown hgrow
              have b7 : Below w6.heap.size w6 w7 := (Below.refl _ _).grown hgrow (Nat.le_refl _) (by intro k h; cases h)
              have S7 : Sn w7 w6.heap.size (8 * q + 1) (noted [] h 0) := (Sn.made hown rfl).congr fun i hi => by rw [noted_zero, bit_nil]; simp
              clear hi hz0 hz1 hz2 hgrow hown
              go_wp2
              go_loopw [11] (fun i wr => ∃ t : Nat, t ≤ 8 * h.length ∧ i = .int .i64 ((t : Int) + 1) ∧ Sn wr w6.heap.size (8 * q + 1) (noted [] h t) ∧ Below w6.heap.size w6 wr) (fun i _ => 8 * h.length + 1 - (intOf i).toNat)
              case atStart => exact ⟨0, Nat.zero_le _, rfl, S7, b7⟩
              case round =>
                clear S7 b7
                obtain ⟨t, ht, rfl, S7, b7⟩ := hrel
                have rh := r2.below b7 (Nat.le_refl _)
                by_cases hlt2 : t < 8 * h.length
                · by_cases hbit : bitB h t = true
                  · have hcell := S7.2 (t + 1) (by omega)
                    have hfz := S7.1.frozen (t + 1)
                    have S8 := S7.set (t + 1) (by omega) fun i _ => noted_hit [] h t hbit i
                    have b8 := b7.setCell (p := ⟨w6.heap.size, t + 1, none⟩) (Nat.le_refl _) (.bool true)
                    go_wp2_with fail
                    refine (holds_any _ t rh hbh (by omega) (by omega)).mono ?_
                    rintro e w' ⟨rfl, rfl⟩
                    clear S7 b7
                    go_wp2
                    go_roundw
                    case rel => exact ⟨t + 1, by omega, by go_num, S8, b8⟩
                    case measure => simp [intOf]; omega
                  · replace hbit : bitB h t = false := by simpa using hbit
                    have S8 := S7.congr fun i _ => noted_miss [] h t hbit i
                    go_wp2_with fail
                    refine (holds_any _ t rh hbh (by omega) (by omega)).mono ?_
                    rintro e w' ⟨rfl, rfl⟩
                    clear S7
                    go_wp2
                    go_roundw
                    case rel => exact ⟨t + 1, by omega, by go_num, S8, b7⟩
                    case measure => simp [intOf]; omega
                · have S8 : Sn wr w6.heap.size (8 * q + 1) (noted (addN h qs 0).1 [] 0) := S7.congr fun i _ => by
                    rw [noted_zero, show t = 8 * h.length by omega, noted_all, bit_nil]; simp [addN]
                  have e0 : ¬ t < 8 * h.length := hlt2
                  clear S7 rh
                  go_wp2
                  go_loopw [12, 13] (fun jv i wr => ∃ k : Nat, k ≤ qs.length ∧ jv = .int .i64 ((addN h qs k).2.length : Nat) ∧ i = .int .i64 k ∧ Sn wr w6.heap.size (8 * q + 1) (noted (addN h qs k).1 [] 0) ∧ Below w6.heap.size w6 wr) (fun _ i _ => qs.length - (intOf i).toNat)
                  case atStart => exact ⟨0, Nat.zero_le _, rfl, rfl, S8, b7⟩
                  case round =>
                    clear S8 b7
                    obtain ⟨k, hk, rfl, rfl, S7, b7⟩ := hrel
                    by_cases hlt3 : k < qs.length
                    · rcases P3.out with e | ⟨b, o, e, hb, hc⟩
                      · subst e; simp at hlt3
                      subst e
                      have hlies := hc k hlt3
                      obtain ⟨g0, g1, g2, g3⟩ := Pt.lies_below hlies b7 hb
                      have hqk := OK.out k hlt3
                      have hlk := (QL.out k hlt3).1
                      have hqm := HM.out k hlt3
                      have hvk := QV.out k hlt3
                      have hbn := addN_byt hbh (fun i hi => (OK.out i hi).2.2) k hk
                      have HW : Hid (wantB (qs.getD k pt0).sl (addN h qs k).1 (8 * (qs.getD k pt0).sl.length) = namesB (qs.getD k pt0).sl (addN h qs k).1) := want_all hvk hqk.2.2 hbn
                      have HIT : Hid (namesB (qs.getD k pt0).sl (addN h qs k).1 = true → (addN h qs k).2.length < (addL h qs).length ∧ (addL h qs).getD (addN h qs k).2.length pt0 = qs.getD k pt0 ∧ (addN h qs (k + 1)).2.length = (addN h qs k).2.length + 1) := fun hn => ⟨(add_at hlt3 hn).1, (add_at hlt3 hn).2, by rw [addN_hit hlt3 hn]; simp⟩
                      have MISS : Hid (namesB (qs.getD k pt0).sl (addN h qs k).1 = false → (addN h qs (k + 1)).2.length = (addN h qs k).2.length) := fun hn => by rw [addN_miss hlt3 hn]
                      have NXT : Hid (∀ i, noted (addN h qs (k + 1)).1 [] 0 i = noted (addN h qs k).1 (qs.getD k pt0).sl (8 * (qs.getD k pt0).sl.length) i) := fun i => by rw [noted_zero, noted_all, addN_bit hlt3 hbn hqk.2.2 hvk]
                      have hl2 := addN_len2 (h := h) k hk
                      have hrk := (hqk.below b7 (Nat.le_refl _)).1.1
                      have hbk := hqk.2.2
                      have OUT : Hid (namesB (qs.getD k pt0).sl (addN h qs k).1 = true → ∃ b6 o6, a6 = some ⟨b6, o6, none⟩ ∧ b6 < w6.heap.size ∧ (qs.getD k pt0).lies w6 b6 (o6 + (addN h qs k).2.length * 4)) := fun hn => by
                        obtain ⟨h1, h2⟩ := add_at hlt3 hn
                        rcases P6.out with e | ⟨b6, o6, e, hb6, hc6⟩
                        · rw [e] at h1; simp at h1
                        · have := hc6 _ h1
                          rw [h2] at this
                          exact ⟨b6, o6, e, hb6, this⟩
                      have IN : Hid ((qs.getD k pt0).lies w6 b (o + k * 4)) := hlies
                      obtain ⟨⟨q1, q2, q3⟩, _⟩ := hqk
                      have l2 := (QL.out k hlt3).2.1
                      have l3 := (QL.out k hlt3).2.2
                      clear hc hvk g0 g2 g3 hlies
                      unfold Pt.lies at OUT IN
                      generalize (addN h qs k).1 = nm at *
                      generalize (addN h qs k).2.length = J at *
                      generalize (qs.getD k pt0).sl = s1 at *
                      generalize (qs.getD k pt0).tl = s2 at *
                      generalize (qs.getD k pt0).gl = s3 at *
                      generalize (qs.getD k pt0).sa = a1 at *
                      generalize (qs.getD k pt0).ta = x2 at *
                      generalize (qs.getD k pt0).ga = x3 at *
                      generalize (qs.getD k pt0).sc = d1 at *
                      generalize (qs.getD k pt0).tc = d2 at *
                      generalize (qs.getD k pt0).gc = d3 at *
                      generalize (qs.getD k pt0).f = f at *
                      have C7 : Hid (∀ t, t < 8 * s1.length → wr.cell? ⟨w6.heap.size, t + 1, none⟩ = some (.bool (bitB nm t))) := fun t ht => by
                        have := S7.2 (t + 1) (by omega)
                        rw [noted_zero] at this
                        simpa using this
                      have S7' : Sn wr w6.heap.size (8 * q + 1) (noted nm s1 0) := S7.congr fun i _ => by rw [noted_zero, noted_zero]
                      clear S7
                      go_wp2_with fail
                      go_loop [15, 16] (fun v i => ∃ t : Nat, t ≤ 8 * s1.length ∧ v = .bool (wantB s1 nm t) ∧ i = .int .i64 ((t : Int) + 1)) (fun _ i => 8 * s1.length + 1 - (intOf i).toNat)
                      case atStart => exact ⟨0, Nat.zero_le _, rfl, rfl⟩
                      case round =>
                        obtain ⟨t, ht, rfl, rfl⟩ := hrel
                        have HS : Hid (wantB s1 nm (t + 1) = (wantB s1 nm t || (bitB s1 t && !bitB nm t))) := want_succ s1 nm t
                        by_cases hlt4 : t < 8 * s1.length
                        · have hcell := C7.out t hlt4
                          by_cases hb1 : bitB s1 t = true
                          · by_cases hb2 : bitB nm t = true
                            · rw [hb2] at hcell
                              go_wp2_with fail
                              refine (holds_any _ t hrk hbk (by omega) (by omega)).mono ?_
                              rintro e w' ⟨rfl, rfl⟩
                              go_wp2
                              go_round
                              case rel => exact ⟨t + 1, by omega, by rw [HS.out]; simp [hb1, hb2], by go_num⟩
                              case measure => simp [intOf]; omega
                            · replace hb2 : bitB nm t = false := by simpa using hb2
                              rw [hb2] at hcell
                              go_wp2_with fail
                              refine (holds_any _ t hrk hbk (by omega) (by omega)).mono ?_
                              rintro e w' ⟨rfl, rfl⟩
                              go_wp2
                              go_round
                              case rel => exact ⟨t + 1, by omega, by rw [HS.out]; simp [hb1, hb2], by go_num⟩
                              case measure => simp [intOf]; omega
                          · replace hb1 : bitB s1 t = false := by simpa using hb1
                            clear hcell
                            go_wp2_with fail
                            refine (holds_any _ t hrk hbk (by omega) (by omega)).mono ?_
                            rintro e w' ⟨rfl, rfl⟩
                            go_wp2
                            go_round
                            case rel => exact ⟨t + 1, by omega, by rw [HS.out]; simp [hb1], by go_num⟩
                            case measure => simp [intOf]; omega
                        · have HT : Hid (wantB s1 nm t = namesB s1 nm) := by rw [show t = 8 * s1.length by omega]; exact HW.out
                          clear HS C7 HW
                          rw [HT.out]
                          go_wp2_with fail
                          go_loopw [17] (fun i wi => ∃ t : Nat, t ≤ 8 * s1.length ∧ i = .int .i64 ((t : Int) + 1) ∧ Sn wi w6.heap.size (8 * q + 1) (noted nm s1 t) ∧ Below w6.heap.size w6 wi) (fun i _ => 8 * s1.length + 1 - (intOf i).toNat)
                          case atStart => exact ⟨0, Nat.zero_le _, rfl, S7', b7⟩
                          case round =>
                            clear S7' b7 g1 hrk
                            obtain ⟨t2, ht2, rfl, S7, b7⟩ := hrel
                            have hrk := q1.below b7 (Nat.le_refl _)
                            by_cases hlt5 : t2 < 8 * s1.length
                            · by_cases hbit : bitB s1 t2 = true
                              · have hcell := S7.2 (t2 + 1) (by omega)
                                have hfz := S7.1.frozen (t2 + 1)
                                have S8 := S7.set (t2 + 1) (by omega) fun i _ => noted_hit nm s1 t2 hbit i
                                have b8 := b7.setCell (p := ⟨w6.heap.size, t2 + 1, none⟩) (Nat.le_refl _) (.bool true)
                                go_wp2_with fail
                                refine (holds_any _ t2 hrk hbk (by omega) (by omega)).mono ?_
                                rintro e w' ⟨rfl, rfl⟩
                                clear S7 b7 hrk
                                go_wp2
                                go_roundw
                                case rel => exact ⟨t2 + 1, by omega, by go_num, S8, b8⟩
                                case measure => simp [intOf]; omega
                              · replace hbit : bitB s1 t2 = false := by simpa using hbit
                                have S8 := S7.congr fun i _ => noted_miss nm s1 t2 hbit i
                                go_wp2_with fail
                                refine (holds_any _ t2 hrk hbk (by omega) (by omega)).mono ?_
                                rintro e w' ⟨rfl, rfl⟩
                                clear S7 hrk
                                go_wp2
                                go_roundw
                                case rel => exact ⟨t2 + 1, by omega, by go_num, S8, b7⟩
                                case measure => simp [intOf]; omega
                            · have S8 : Sn wr w6.heap.size (8 * q + 1) (noted (addN h qs (k + 1)).1 [] 0) := S7.congr fun i _ => by
                                rw [show t2 = 8 * s1.length by omega]; exact NXT.out i
                              clear S7 hrk NXT
                              by_cases hnm : namesB s1 nm = true
                              · obtain ⟨h1, _, h3⟩ := HIT.out hnm
                                obtain ⟨b6, o6, e6, hb6, hc6⟩ := OUT.out hnm
                                subst e6
                                have H3 : Hid _ := h3
                                obtain ⟨y0, y1, y2, y3⟩ := hc6
                                obtain ⟨z0, z1, z2, z3⟩ := IN.out
                                have hS : SO b o b6 o6 k J f (.slice a1 s1.length d1) (.slice x2 s2.length d2) (.slice x3 s3.length d3) w6 wr := SO_mk z0 z1 z2 z3 y0 y1 y2 y3 hb hb6 b7
                                have hS' := SO_drew hS
                                have i1 : (k : Int) < (qs.length : Int) := by omega
                                have i2 : (J : Int) < ((addL h qs).length : Int) := by omega
                                clear h3 MISS HIT OUT IN y0 y1 y2 y3 z0 z1 z2 z3 hS
                                rw [hnm]
                                go_wp2
                                go_region_held3 (SO b o b6 o6 k J f (.slice a1 s1.length d1) (.slice x2 s2.length d2) (.slice x3 s3.length d3) w6) (first | exact hS' | exact SO_below (by assumption) (by assumption))
                                  (first
                                    | (go_at_call 24; refine (samePart_self f a1 x2 x3 d1 d2 d3 s1 s2 s3 _ (q1.below (SO_bel (by assumption)) (Nat.le_refl _)) (q2.below (SO_bel (by assumption)) (Nat.le_refl _)) (q3.below (SO_bel (by assumption)) (Nat.le_refl _)) hlk l2 l3).mono ?_; rintro e w8 ⟨rfl, B1⟩))
                                have b8 := SO_bel (by assumption)
                                have S9 : Sn w8 w6.heap.size (8 * q + 1) (noted (addN h qs (k + 1)).1 [] 0) := (S8.drew).below B1 S8.1.lt
                                clear S8 b7 B1 hS' q1 q2 q3
                                go_wp2
                                go_roundw
                                case rel => exact ⟨k + 1, by omega, by rw [H3.out]; go_num, by go_num, S9, b8⟩
                                case measure => simp [intOf]; omega
                              · replace hnm : namesB s1 nm = false := by simpa using hnm
                                have h3 := MISS.out hnm
                                have H3 : Hid _ := h3
                                clear h3 MISS HIT OUT IN q1 q2 q3
                                rw [hnm]
                                go_wp2
                                go_roundw
                                case rel => exact ⟨k + 1, by omega, by rw [H3.out], by go_num, S8, b7⟩
                                case measure => simp [intOf]; omega
                    · obtain rfl : k = qs.length := by omega
                      have he : (addN h qs qs.length).2.length = (addL h qs).length := rfl
                      rw [he]
                      go_wp2
                      go_ret
                      exact ⟨by simp, bb2.trans (b7.mono bb2.size)⟩
end Go.Proofs.Qxb6605220a
