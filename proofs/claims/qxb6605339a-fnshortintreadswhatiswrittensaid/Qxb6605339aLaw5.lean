import Derived.Test.Qxb6605339aDec
import Derived.Deep.DeepCutAuto
namespace Go.Proofs.Qxb6605339a
open Go.ChangeShapes Go.WideShapes Go.ChangeAt Go.RowKit

/-- the text ds writes n in decimal -/
def Dec (n : Int) (ds : List Int) : Prop :=
  ∃ N t : Nat, N < 1000000000000000000 ∧ 1 ≤ t ∧ t ≤ 18 ∧ pre N t 0 = 0 ∧ ((n = (N : Int) ∧ ds = digs N t) ∨ (n = -(N : Int) ∧ ds = 45 :: digs N t))

theorem Dec.len {n : Int} {ds : List Int} (h : Dec n ds) : 1 ≤ ds.length ∧ ds.length ≤ 19 := by
  obtain ⟨N, t, _, h1, h2, _, ⟨_, rfl⟩ | ⟨_, rfl⟩⟩ := h
  · rw [digs_length]; omega
  · rw [List.length_cons, digs_length]; omega

theorem decimal_any (n : Int) (w : World) (h1 : -1000000000000000000 < n) (h2 : n < 1000000000000000000) :
    Calls Try.prog 13 #[.int .i64 n] w fun e w' => ∃ ds g, Dec n ds ∧ e = .returned (.slice (some ⟨g, 0, none⟩) ds.length ds.length) ∧ Rd .u8 w' (some ⟨g, 0, none⟩) ds ∧ Below w.heap.size w w' := by
  by_cases hn : n < 0
  · obtain ⟨N, hN⟩ : ∃ N : Nat, n = -(N : Int) := ⟨(-n).toNat, by omega⟩
    rw [hN]
    refine (decimal_neg N w (by omega) (by omega)).mono fun e w' ⟨t, t1, t2, t3, g, he, hr, hb⟩ => ?_
    exact ⟨45 :: digs N t, g, ⟨N, t, by omega, t1, t2, t3, .inr ⟨rfl, rfl⟩⟩, by rw [he, List.length_cons, digs_length], hr, hb⟩
  · obtain ⟨N, hN⟩ : ∃ N : Nat, n = (N : Int) := ⟨n.toNat, by omega⟩
    rw [hN]
    refine (decimal_pos N w (by omega)).mono fun e w' ⟨t, t1, t2, t3, g, he, hr, hb⟩ => ?_
    exact ⟨digs N t, g, ⟨N, t, by omega, t1, t2, t3, .inl ⟨rfl, rfl⟩⟩, by rw [he, digs_length], hr, hb⟩

/-- what may stand behind the integer: nothing, a comma or a space -/
def ends (l : List Int) : Prop := l = [] ∨ l.getD 0 0 = 44 ∨ l.getD 0 0 = 32

theorem written_line (l1 ds0 ds l2 : List Int) (N t : Nat) (hd : ds = digs N t) (ht : t ≤ 18) (he : ends l2) : Written (l1 ++ (ds0 ++ ds) ++ [105] ++ l2) (l1.length + ds0.length) t N := by
  subst hd
  have hl := digs_length N t
  refine ⟨by simp [hl]; omega, fun j hj => ?_, ?_, fun h => ?_⟩
  · rw [← digs_getD N t j hj]
    have : l1.length + ds0.length + j < (l1 ++ (ds0 ++ digs N t)).length := by simp [hl]; omega
    rw [List.append_assoc, List.getD, List.getElem?_append_left this, List.getElem?_append_right (by omega), List.getElem?_append_right (by omega), ← List.getD]
    congr 1
    omega
  · have e : l1.length + ds0.length + t = (l1 ++ (ds0 ++ digs N t)).length := by simp [hl]; omega
    rw [e, List.append_assoc, List.getD, List.getElem?_append_right (Nat.le_refl _)]
    simp
  · have e : l1.length + ds0.length + t + 1 = (l1 ++ (ds0 ++ digs N t) ++ [105]).length := by simp [hl]; omega
    rw [e, List.getD, List.getElem?_append_right (Nat.le_refl _), Nat.sub_self, ← List.getD]
    rcases he with he | he
    · subst he; simp [hl] at h; omega
    · exact he

theorem shortInt_line (a : Option Addr) (c : Nat) (l1 ds l2 : List Int) (n : Int) (w : World) (hD : Dec n ds) (he : ends l2) (hm : (l1 ++ ds ++ [105] ++ l2).length ≤ 4000000) (hr : Rd .u8 w a (l1 ++ ds ++ [105] ++ l2)) :
    Calls Try.prog 16 #[.slice a (l1 ++ ds ++ [105] ++ l2).length c, .int .i64 (l1.length : Int)] w fun e w' => e = .returned (.tuple #[.int .i64 n, .int .i64 ((l1.length + ds.length + 1 : Nat) : Int), .bool true]) ∧ w = w' := by
  rcases hr with hr | ⟨b, o, rfl, _, hc⟩
  · simp at hr
  obtain ⟨N, t, hN, h1, h2, h3, ⟨hn, hds⟩ | ⟨hn, hds⟩⟩ := hD
  · have hW := written_line l1 [] ds l2 N t hds h2 he
    rw [List.nil_append] at hW
    have := shortInt_pos b o c l1.length t N _ w hm hN h1 h2 h3 hW hc
    subst hn
    rw [show ds.length = t by rw [hds, digs_length]]
    exact this
  · have hW := written_line l1 [45] (digs N t) l2 N t rfl h2 he
    have e : l1 ++ ([45] ++ digs N t) = l1 ++ ds := by rw [hds]; rfl
    rw [e] at hW
    have := shortInt_neg b o c l1.length t N _ w hm hN h1 h2 h3 hW (by rw [hds]; simp [List.getD]) hc
    subst hn
    rw [show l1.length + ds.length + 1 = l1.length + 1 + t + 1 by rw [hds, List.length_cons, digs_length]; omega]
    exact this

theorem zzShort_line (a : Option Addr) (c : Nat) (l1 ds l2 : List Int) (n : Int) (w : World) (hD : Dec n ds) (he : ends l2) (hm : (l1 ++ ds ++ [105] ++ l2).length ≤ 4000000) (hr : Rd .u8 w a (l1 ++ ds ++ [105] ++ l2)) :
    Calls Try.prog 10 #[.slice a (l1 ++ ds ++ [105] ++ l2).length c, .int .i64 (l1.length : Int)] w fun e w' => e = .returned (.tuple #[.int .i64 n, .int .i64 ((l1.length + ds.length + 1 : Nat) : Int), .bool true]) ∧ w = w' := by
  have hs := shortInt_line a c l1 ds l2 n w hD he hm hr
  generalize (l1 ++ ds ++ [105] ++ l2).length = m at *
  generalize l1.length + ds.length + 1 = m2 at *
  generalize l1.length = m1 at *
  go_enter Try.func10, Try.ntmps10
  go_wp2_with fail
  refine hs.mono ?_
  rintro e w' ⟨rfl, rfl⟩
  go_wp2
  go_ret3
  exact ⟨rfl, rfl⟩

theorem law5_big (n : Int) (a1 a2 : Option Addr) (n1 c1 n2 c2 : Nat) (w : World) (hm1 : n1 ≤ maxLen) (hm2 : n2 ≤ maxLen) (h : 1048576 < n1 + n2) :
    Calls Try.prog 5 #[.int .i64 n, .slice a1 n1 c1, .slice a2 n2 c2] w fun e w' => e = .returned (.bool true) ∧ Below w.heap.size w w' := by
  unfold maxLen at hm1 hm2
  by_cases h1 : 1048576 < n1
  · go_enter Try.func5, Try.ntmps5
    go_wp2
    go_ret
    exact ⟨rfl, Below.refl _ _⟩
  by_cases h2 : 1048576 < n2
  · go_enter Try.func5, Try.ntmps5
    go_wp2
    go_ret
    exact ⟨rfl, Below.refl _ _⟩
  · go_enter Try.func5, Try.ntmps5
    go_wp2
    go_ret
    exact ⟨rfl, Below.refl _ _⟩

theorem law5_far (n : Int) (a1 a2 : Option Addr) (n1 c1 n2 c2 : Nat) (w : World) (h : n1 + n2 ≤ 1048576) (hn : n ≤ -1000000000000000000 ∨ 1000000000000000000 ≤ n) :
    Calls Try.prog 5 #[.int .i64 n, .slice a1 n1 c1, .slice a2 n2 c2] w fun e w' => e = .returned (.bool true) ∧ Below w.heap.size w w' := by
  have f1 : ¬ (1048576 < n1) := by omega
  have f2 : ¬ (1048576 < n2) := by omega
  rcases hn with hn | hn
  · go_enter Try.func5, Try.ntmps5
    go_wp2
    go_ret
    exact ⟨rfl, Below.refl _ _⟩
  · have hn' : ¬ n ≤ -1000000000000000000 := by omega
    go_enter Try.func5, Try.ntmps5
    go_wp2
    go_ret
    exact ⟨rfl, Below.refl _ _⟩

/-- what copy asks of its source -/
theorem Rd_src {w : World} {x : Addr} {l : List Int} (h : Rd .u8 w (some x) l) : ∀ j v, (l.map (Value.int .u8))[j]? = some v → w.cell? (x.add j) = some v := by
  intro j v hj
  have hjl : j < l.length := by have := (List.getElem?_eq_some_iff.1 hj).1; simpa using this
  rcases h with rfl | ⟨b, o, e, _, hc⟩
  · simp at hjl
  · cases e
    rw [Addr.add_lit, hc j hjl, ← hj]
    simp [List.getD, hjl]

/-- the cells that are appended lie at the source's address -/
def Src (w : World) (a : Option Addr) (l : List Int) : Prop := ∀ x, a = some x → ∀ j v, (l.map (Value.int .u8))[j]? = some v → w.cell? (x.add j) = some v
theorem Src.below {w w' : World} {a : Option Addr} {l : List Int} (h : Src w a l) (hb : Below w.heap.size w w') : Src w' a l := fun x hx j v hj => by
  have := h x hx j v hj
  rw [hb.cell (World.block_lt_of_cell? w _ this)]
  exact this
theorem Src.of {w : World} {a : Option Addr} {l : List Int} (h : Rd .u8 w a l) : Src w a l := fun x hx => Rd_src (by rw [← hx]; exact h)

theorem bytes12_ok (n : Int) (a1 a2 : Option Addr) (n1 c1 n2 c2 : Nat) (w : World) (h : n1 + n2 ≤ 1048576) :
    Calls Try.prog 12 #[.int .i64 n, .slice a1 n1 c1, .slice a2 n2 c2] w fun e w' => e = .returned (.bool true) ∧ w = w' := by
  have f1 : ¬ (1048576 < n1) := by omega
  have f2 : ¬ (1048576 < n2) := by omega
  go_enter Try.func12, Try.ntmps12
  go_wp2
  go_ret
  exact ⟨rfl, rfl⟩

set_option maxRecDepth 100000 in
set_option maxHeartbeats 2000000 in
theorem law5_main (n : Int) {w : World} {a1 a2 : Option Addr} {l1 l2 : List Int} (c1 c2 : Nat) (hr1 : Rd .u8 w a1 l1) (hr2 : Rd .u8 w a2 l2) (hn1 : a1 = none → l1 = [] ∧ c1 = 0) (hn2 : a2 = none → l2 = [] ∧ c2 = 0) (h : l1.length + l2.length ≤ 1048576) (hlo : -1000000000000000000 < n) (hhi : n < 1000000000000000000) :
    Calls Try.prog 5 #[.int .i64 n, .slice a1 l1.length c1, .slice a2 l2.length c2] w fun e w' => e = .returned (.bool true) ∧ Below w.heap.size w w' := by
  have f1 : ¬ (1048576 < l1.length) := by omega
  have f2 : ¬ (1048576 < l2.length) := by omega
  have f3 : ¬ n ≤ -1000000000000000000 := by omega
  have hsz5 : (Try.prog.info? 5).map (·.size) = some 1 := by kernel_rfl
  have hq : ∀ (w : World) (a : Option Addr) (n c n' c' : Nat), (binOp .neq 22 (.slice a n c) (.slice none n' c')).run Try.prog w = .ok (.bool (!a.isNone)) w := fun w a n c n' c' => run_neq_slice_nil_any w _ _ a n c n' c' Try.underlying22
  go_enter Try.func5, Try.ntmps5
  go_upto_region 7 with (go_at_call 12; refine (bytes12_ok _ _ _ _ _ _ _ _ h).mono ?_; rintro e w' ⟨rfl, rfl⟩)
  go_cut [55] from 14 (fun s55 wx => w = wx ∧ ((s55 = .bool true) ∨ (s55 = .bool false ∧ ends l2)))
  case first =>
    rcases hr2 with rfl | ⟨b, o, rfl, hb, hc⟩
    · go_wp2
      go_meet
      case rel => exact ⟨rfl, .inr ⟨rfl, .inl rfl⟩⟩
    · by_cases hl : l2.length = 0
      · have : l2 = [] := List.eq_nil_of_length_eq_zero hl
        subst this
        go_wp2
        go_meet
        case rel => exact ⟨rfl, .inr ⟨rfl, .inl rfl⟩⟩
      · have c0 := hc 0 (by omega)
        have E : Hid (l2.getD 0 0 = 44 → ends l2) := fun h => .inr (.inl h)
        have E' : Hid (l2.getD 0 0 = 32 → ends l2) := fun h => .inr (.inr h)
        have i1 : (0 : Int) < (l2.length : Int) := by omega
        clear hc
        rw [Nat.add_zero] at c0
        generalize l2.getD 0 0 = x at *
        by_cases h44 : x = 44
        · have g1 : (x != 44) = false := by simp [h44]
          have HE : Hid (x = 44) := h44
          clear h44
          go_wp2
          go_meet
          case rel => exact ⟨rfl, .inr ⟨rfl, E.out HE.out⟩⟩
        · have g1 : (x != 44) = true := by simp [h44]
          clear h44
          by_cases h32 : x = 32
          · have g2 : (x != 32) = false := by simp [h32]
            have HE : Hid (x = 32) := h32
            clear h32
            go_wp2
            go_meet
            case rel => exact ⟨rfl, .inr ⟨rfl, E'.out HE.out⟩⟩
          · have g2 : (x != 32) = true := by simp [h32]
            clear h32
            go_wp2
            go_meet
            case rel => exact ⟨rfl, .inl rfl⟩
  case rest =>
    obtain ⟨rfl, rfl | ⟨rfl, he⟩⟩ := hcut
    · go_wp2
      go_ret
      exact ⟨rfl, Below.refl _ _⟩
    · go_upto_if 57 with fail
      go_cut [1] from 14 (fun s1 wx => ∃ a' c', s1 = .slice a' l1.length c' ∧ (a' = none → l1 = [] ∧ c' = 0) ∧ Rd .u8 wx a' l1 ∧ Below w.heap.size w wx)
      case first =>
        cases a1 with
        | none =>
          obtain ⟨rfl, rfl⟩ := hn1 rfl
          clear hn1 hr1
          go_wp2
          go_meet
          case rel => exact ⟨none, 0, rfl, by simp, .inl rfl, Below.refl _ _⟩
        | some x =>
          clear hn1
          obtain ⟨i0, hi, hz0, hz1, hz2⟩ := info_parts Try.info5
          go_wp2_with (at_make; refine wpList_make_full _ rfl _ _ 22 rfl w.heap.size 5 i0 (.int .u8 0) 1 Try.underlying22 hi hz0 hz1 _ _ _ _ l1.length rfl rfl rfl rfl ?c1 ?c2 ?c3 ?_)
          case c1 => rw [hz2]; omega
          case c2 => unfold maxLen; omega
          case c3 => exact Nat.le_refl _
          intro w1 hown hgrow
          clear hi hz0 hz1 hz2
          have b1 : Below w.heap.size w w1 := (Below.refl _ _).grown hgrow (Nat.le_refl _) (by intro k h; cases h)
          obtain ⟨cur, hcur, hcl⟩ := made_row hown
          have HX := Rd_src (hr1.below b1 (Nat.le_refl _))
          clear hown hgrow hr1
          go_wp2_with (refine wpList_copy_splice rfl (.tmp 61) (.tmp 62) 22 22 rfl 5 Try.underlying22 hsz5 _ _ _ _ _ _ rfl rfl w.heap.size 0 cur 5 hcur (l1.map (Value.int .u8)) ?k1 ?k2 ?k3 ?k4 w.heap.size w b1 (Nat.le_refl _) ?_)
          case k1 => simp
          case k2 => intro _ j a hj; exact HX j _ (by simp [hj])
          case k3 => simp [hcl]
          case k4 => exact ints_oneCell _ _
          intro w3 hg3 hb3
          have R3 := Rd_of_row (hg3.out) (splice_whole cur (l1.map (Value.int .u8)) (by simp [hcl]))
          clear HX hg3 hcur b1
          go_wp2
          go_meet
          case rel => exact ⟨_, _, rfl, fun h => (by cases h), R3, hb3⟩
      case rest =>
        obtain ⟨a1', c1', rfl, n1, R1, B1⟩ := hcut
        obtain ⟨w5, rfl⟩ : ∃ w5 : World, w5 = wc := ⟨_, rfl⟩
        have hr2' := hr2.below B1 (Nat.le_refl _)
        clear hr1 hn1 hr2
        go_upto_if 66 with fail
        go_cut [2] from 14 (fun s1 wx => ∃ a' c', s1 = .slice a' l2.length c' ∧ (a' = none → l2 = [] ∧ c' = 0) ∧ Rd .u8 wx a' l2 ∧ Below w5.heap.size w5 wx)
        case first =>
          cases a2 with
          | none =>
            obtain ⟨rfl, rfl⟩ := hn2 rfl
            clear hn2 hr2'
            go_wp2
            go_meet
            case rel => exact ⟨none, 0, rfl, by simp, .inl rfl, Below.refl _ _⟩
          | some x =>
            clear hn2
            obtain ⟨i0, hi, hz0, hz1, hz2⟩ := info_parts Try.info5
            go_wp2_with (at_make; refine wpList_make_full _ rfl _ _ 22 rfl w5.heap.size 5 i0 (.int .u8 0) 1 Try.underlying22 hi hz0 hz1 _ _ _ _ l2.length rfl rfl rfl rfl ?c1 ?c2 ?c3 ?_)
            case c1 => rw [hz2]; omega
            case c2 => unfold maxLen; omega
            case c3 => exact Nat.le_refl _
            intro w1 hown hgrow
            clear hi hz0 hz1 hz2
            have b1 : Below w5.heap.size w5 w1 := (Below.refl _ _).grown hgrow (Nat.le_refl _) (by intro k h; cases h)
            obtain ⟨cur, hcur, hcl⟩ := made_row hown
            have HX := Rd_src (hr2'.below b1 (Nat.le_refl _))
            clear hown hgrow hr2'
            go_wp2_with (refine wpList_copy_splice rfl (.tmp 70) (.tmp 71) 22 22 rfl 5 Try.underlying22 hsz5 _ _ _ _ _ _ rfl rfl w5.heap.size 0 cur 5 hcur (l2.map (Value.int .u8)) ?k1 ?k2 ?k3 ?k4 w5.heap.size w5 b1 (Nat.le_refl _) ?_)
            case k1 => simp
            case k2 => intro _ j a hj; exact HX j _ (by simp [hj])
            case k3 => simp [hcl]
            case k4 => exact ints_oneCell _ _
            intro w3 hg3 hb3
            have R3 := Rd_of_row (hg3.out) (splice_whole cur (l2.map (Value.int .u8)) (by simp [hcl]))
            clear HX hg3 hcur b1
            go_wp2
            go_meet
            case rel => exact ⟨_, _, rfl, fun h => (by cases h), R3, hb3⟩
        case rest =>
          obtain ⟨a2', c2', rfl, n2, R2, B2⟩ := hcut
          replace R1 := R1.below B2 (Nat.le_refl _)
          have BB : Below w.heap.size w wc := B1.trans (B2.mono B1.size)
          clear hr2' hn2 B1 B2
          have N1 : Hid (a1' = none → l1 = [] ∧ c1' = 0) := n1
          have N2 : Hid (a2' = none → l2 = [] ∧ c2' = 0) := n2
          clear n1 n2
          go_wp2_with fail
          refine (decimal_any n _ hlo hhi).mono ?_
          rintro e w6 ⟨ds, gd, hD, rfl, R3, B3⟩
          have hdl := hD.len
          have S1 := Src.of (R1.below B3 (Nat.le_refl _))
          have S2 := Src.of (R2.below B3 (Nat.le_refl _))
          have S3 := Src.of R3
          replace BB := BB.trans (B3.mono BB.size)
          clear R1 R2 R3 B3
          obtain ⟨M, hM⟩ : ∃ M, M = l1.length + ds.length + 1 + l2.length := ⟨_, rfl⟩
          have HM : Hid (M = l1.length + ds.length + 1 + l2.length) := hM
          have M1 : l1.length + ds.length + 1 + l2.length ≤ M := by omega
          have M2 : M ≤ 2000000 := by omega
          obtain ⟨i0, hi, hz0, hz1, hz2⟩ := info_parts Try.info5
          go_wp2_with (at_make; refine wpList_make_own _ rfl _ _ 22 rfl w6.heap.size 5 i0 (.int .u8 0) 1 Try.underlying22 hi hz0 hz1 _ _ _ M rfl rfl (by omega) ?c1 ?c2 ?c3 ?_)
          case c1 => rw [hz2]; omega
          case c2 => unfold maxLen; omega
          case c3 => exact Nat.le_refl _
          clear hM
          intro w7 hown7 hgrow7
          have b7 : Below w6.heap.size w6 w7 := (Below.refl _ _).grown hgrow7 (Nat.le_refl _) (by intro k h; cases h)
          clear hgrow7
          go_wp2_with (at_builtin; refine wpList_append_fits_any _ rfl (.tmp 86) (.tmp 87) 22 rfl w6.heap.size 5 i0 1 Try.underlying22 hi hz1 w6.heap.size _ _ _ rfl hown7 a1' l1.length c1' (l1.map (Value.int .u8)) rfl ?k11 ?k12 ?k13 ?k14 ?k15 ?_)
          case k11 => simp
          case k12 => intro h; obtain ⟨e1, e2⟩ := N1.out h; exact ⟨by rw [e1]; rfl, e2⟩
          case k13 => exact fun ad had => (S1.below b7) ad had
          case k14 => exact ints_oneCell _ _
          case k15 => omega
          intro w8 hown8 hgrow8
          try simp only [Nat.zero_add, List.nil_append] at hown8
          have b8 : Below w6.heap.size w6 w8 := b7.grown hgrow8 b7.size (by intro k h; cases h; exact Nat.le_refl _)
          clear hgrow8 hown7 b7
          go_wp2_with (at_builtin; refine wpList_append_fits_any _ rfl (.tmp 89) (.tmp 90) 22 rfl w6.heap.size 5 i0 1 Try.underlying22 hi hz1 w6.heap.size _ _ _ rfl hown8 (some ⟨gd, 0, none⟩) ds.length ds.length (ds.map (Value.int .u8)) rfl ?k21 ?k22 ?k23 ?k24 ?k25 ?_)
          case k21 => simp
          case k22 => intro h; cases h
          case k23 => exact fun ad had => (S3.below b8) ad had
          case k24 => exact ints_oneCell _ _
          case k25 => omega
          intro w9 hown9 hgrow9
          have b9 : Below w6.heap.size w6 w9 := b8.grown hgrow9 b8.size (by intro k h; cases h; exact Nat.le_refl _)
          clear hgrow9 hown8 b8
          go_wp2_with (at_builtin; refine wpList_append_fits_any _ rfl (.tmp 92) (.tmp 93) 22 rfl w6.heap.size 5 i0 1 Try.underlying22 hi hz1 w6.heap.size _ _ _ rfl (hown9.alloc _) (some ⟨w9.heap.size, 0, none⟩) 1 1 [.int .u8 105] rfl rfl ?k31 ?k32 ?k33 ?k34 ?_)
          case k31 => intro h; cases h
          case k32 => intro ad had j u hj; cases had; rw [Addr.add_lit, Nat.zero_add, cell_of_row _ _ _ _ _ _ (heap_alloc_new w9 _)]; simpa using hj
          case k33 => intro u hu; simp at hu; subst hu; rfl
          case k34 => omega
          intro w10 hown10 hgrow10
          have b10 : Below w6.heap.size w6 w10 := (b9.alloc b9.size _).grown hgrow10 (by simp; have := b9.size; omega) (by intro k h; cases h; exact Nat.le_refl _)
          clear hgrow10 hown9 b9
          go_wp2_with (at_builtin; refine wpList_append_fits_any _ rfl (.tmp 95) (.tmp 96) 22 rfl w6.heap.size 5 i0 1 Try.underlying22 hi hz1 w6.heap.size _ _ _ rfl hown10 a2' l2.length c2' (l2.map (Value.int .u8)) rfl ?k41 ?k42 ?k43 ?k44 ?k45 ?_)
          case k41 => simp
          case k42 => intro h; obtain ⟨e1, e2⟩ := N2.out h; exact ⟨by rw [e1]; rfl, e2⟩
          case k43 => exact fun ad had => (S2.below b10) ad had
          case k44 => exact ints_oneCell _ _
          case k45 => omega
          intro w11 hown11 hgrow11
          have b11 : Below w6.heap.size w6 w11 := b10.grown hgrow11 b10.size (by intro k h; cases h; exact Nat.le_refl _)
          have eL : (l1 ++ ds ++ [105] ++ l2).length = l1.length + ds.length + 1 + l2.length := by simp; omega
          have eM : List.map (Value.int .u8) l1 ++ (List.map (Value.int .u8) ds ++ (Value.int .u8 105 :: List.map (Value.int .u8) l2)) = (l1 ++ ds ++ [105] ++ l2).map (Value.int .u8) := by simp
          have hown12 : w11.ownsRow w6.heap.size 5 1 (.slice (some ⟨w6.heap.size, 0, none⟩) (l1 ++ ds ++ [105] ++ l2).length (l1.length + ds.length + 1 + l2.length)) (l1 ++ ds ++ [105] ++ l2).length ((l1 ++ ds ++ [105] ++ l2).map (Value.int .u8)) := by
            rw [eL, ← eM]
            simpa using hown11
          have R12 := Rd_of_own hown12
          have hfin := zzShort_line (some ⟨w6.heap.size, 0, none⟩) (l1.length + ds.length + 1 + l2.length) l1 ds l2 n w11 hD he (by omega) R12
          rw [eL] at hfin
          clear hown12 R12 eM eL hown11 hgrow11 hown10 b10 S1 S2 S3
          go_wp2_with fail
          refine hfin.mono ?_
          rintro e w' ⟨rfl, rfl⟩
          go_wp2
          go_ret
          exact ⟨by simp, BB.trans (b11.mono BB.size)⟩
end Go.Proofs.Qxb6605339a
