import Derived.Test.Qxb6605404aRows
import Derived.WalkKit
import Derived.ProofKit
import Derived.OpenShut
import Derived.ShutString
import Derived.Below
import Derived.OneCell
import Derived.WalkSpells
import Derived.WalkLawsBesides
namespace Go.Proofs.Qxb6605404a
open Go.ChangeShapes Go.WideShapes Go.ChangeAt Go.RowKit

/-- the three flags' names -/
def nm : Nat → ByteArray
  | 1 => ⟨#[45, 45, 99, 97, 99, 101, 114, 116]⟩
  | 2 => ⟨#[45, 45, 99, 101, 114, 116]⟩
  | _ => ⟨#[45, 45, 107, 101, 121]⟩

def full (p : Nat × ByteArray) : Bool := !p.2.toList.isEmpty
def allF (ca cert key : ByteArray) : List (Nat × ByteArray) := [(1, ca), (2, cert), (3, key)]
/-- of the first k flags those that are given -/
def its (ca cert key : ByteArray) (k : Nat) : List (Nat × ByteArray) := ((allF ca cert key).take k).filter full
def fl (l : List (Nat × ByteArray)) : List Value := l.flatMap fun p => [.string (nm p.1), .string p.2]

theorem rank1 (w : World) : Calls Try.prog 7 #[.string (nm 1)] w fun e w' => e = .returned (.int .i64 1) ∧ w = w' := by
  show Calls Try.prog 7 #[.string ⟨#[45, 45, 99, 97, 99, 101, 114, 116]⟩] w _
  go_enter Try.func7, Try.ntmps7
  go_wp2
  go_ret
  exact ⟨rfl, rfl⟩
theorem rank2 (w : World) : Calls Try.prog 7 #[.string (nm 2)] w fun e w' => e = .returned (.int .i64 2) ∧ w = w' := by
  show Calls Try.prog 7 #[.string ⟨#[45, 45, 99, 101, 114, 116]⟩] w _
  go_enter Try.func7, Try.ntmps7
  go_wp2
  go_ret
  exact ⟨rfl, rfl⟩
theorem rank3 (w : World) : Calls Try.prog 7 #[.string (nm 3)] w fun e w' => e = .returned (.int .i64 3) ∧ w = w' := by
  show Calls Try.prog 7 #[.string ⟨#[45, 45, 107, 101, 121]⟩] w _
  go_enter Try.func7, Try.ntmps7
  go_wp2
  go_ret
  exact ⟨rfl, rfl⟩

theorem Try.info9 : (Try.prog.info? 9).map (fun i => (i.zero, i.size, i.bytes)) = some (some (.string ByteArray.empty), 1, 16) := by kernel_rfl


/-- flag k's value -/
def vl (ca cert key : ByteArray) (k : Nat) : ByteArray := match k with | 0 => ca | 1 => cert | _ => key

theorem its_succ (ca cert key : ByteArray) (k : Nat) (hk : k < 3) : its ca cert key (k + 1) = its ca cert key k ++ (if full (k + 1, vl ca cert key k) = true then [(k + 1, vl ca cert key k)] else []) := by
  unfold its allF
  match k, hk with
  | 0, _ => simp [List.filter_cons, vl]
  | 1, _ => simp [List.filter_cons, vl]; split <;> split <;> simp
  | 2, _ => simp [List.filter_cons, vl]; split <;> split <;> split <;> simp
theorem its_hit {ca cert key : ByteArray} {k : Nat} (hk : k < 3) (h : (vl ca cert key k).toList.isEmpty = false) : fl (its ca cert key (k + 1)) = fl (its ca cert key k) ++ [.string (nm (k + 1)), .string (vl ca cert key k)] := by
  rw [its_succ ca cert key k hk, if_pos (by simp [full, h])]
  simp [fl]
theorem its_miss {ca cert key : ByteArray} {k : Nat} (hk : k < 3) (h : (vl ca cert key k).toList.isEmpty = true) : its ca cert key (k + 1) = its ca cert key k := by
  rw [its_succ ca cert key k hk, if_neg (by simp [full, h])]
  simp
theorem fl_len (ca cert key : ByteArray) (k : Nat) : (fl (its ca cert key k)).length ≤ 6 := by
  have h1 : (its ca cert key k).length ≤ 3 := by
    unfold its
    refine Nat.le_trans (List.length_filter_le _ _) ?_
    refine Nat.le_trans (List.length_take_le' _ _) ?_
    simp [allF]
  have h2 : ∀ l : List (Nat × ByteArray), (fl l).length = 2 * l.length := fun l => by
    induction l with
    | nil => rfl
    | cons a l ih => simp [fl] at ih ⊢; omega
  rw [h2]
  omega

/-- the literal of the three flags -/
def lit3 (ca cert key : ByteArray) : Obj := .cells #[.string (nm 1), .string ca, .string (nm 2), .string cert, .string (nm 3), .string key] 29

theorem lit_cells {w wr : World} {o1 : Obj} {ca cert key : ByteArray} (hb : Below (w.heap.size + 2) ((w.alloc o1).alloc (lit3 ca cert key)) wr) (k : Nat) (hk : k < 3) :
    wr.cell? ⟨w.heap.size + 1, k * 2, none⟩ = some (.string (nm (k + 1))) ∧ wr.cell? ⟨w.heap.size + 1, k * 2 + 1, none⟩ = some (.string (vl ca cert key k)) := by
  have e1 : (w.alloc o1).heap.size = w.heap.size + 1 := by simp
  have hh : wr.heap[w.heap.size + 1]? = some (lit3 ca cert key) := by
    rw [hb.block _ (by omega), ← e1]
    exact heap_alloc_new _ _
  have hc : ∀ j, wr.cell? ⟨w.heap.size + 1, j, none⟩ = #[Value.string (nm 1), .string ca, .string (nm 2), .string cert, .string (nm 3), .string key][j]? := fun j => cell_of_row _ _ _ _ _ _ hh
  match k, hk with
  | 0, _ => exact ⟨hc 0, hc 1⟩
  | 1, _ => exact ⟨hc 2, hc 3⟩
  | 2, _ => exact ⟨hc 4, hc 5⟩

def FInv (w : World) (o1 : Obj) (ca cert key : ByteArray) (k : Nat) (v : Value) (wr : World) : Prop :=
  wr.ownsRow (w.heap.size + 2) 9 1 v (fl (its ca cert key k)).length (fl (its ca cert key k)) ∧ Below (w.heap.size + 2) ((w.alloc o1).alloc (lit3 ca cert key)) wr

theorem two_new {w : World} {a b : ByteArray} :
    (∀ j u, [Value.string a, .string b][j]? = some u → (w.alloc (.cells #[.string a, .string b] 9)).cell? ((⟨w.heap.size, 0, none⟩ : Addr).add j) = some u) ∧ ∀ u ∈ [Value.string a, .string b], u.oneCell' = true := by
  refine ⟨fun j u hj => ?_, fun u hu => ?_⟩
  · have hh : (w.alloc (.cells #[.string a, .string b] 9)).heap[w.heap.size]? = some (.cells #[.string a, .string b] 9 (0, 0)) := heap_alloc_new w _
    rw [Addr.add_lit, Nat.zero_add, cell_of_row _ _ _ _ _ _ hh]
    simpa using hj
  · simp only [List.mem_cons, List.not_mem_nil, or_false] at hu
    rcases hu with rfl | rfl <;> rfl

set_option maxHeartbeats 1000000 in
theorem flags_any (ca cert key : ByteArray) (w : World) :
    Calls Try.prog 5 #[.agg #[.string ca, .string cert, .string key]] w fun e w' => ∃ v, e = .returned v ∧ FInv w (.cells #[.string ca, .string cert, .string key] 24) ca cert key 3 v w' := by
  obtain ⟨o1, ho1⟩ : ∃ o1 : Obj, o1 = .cells #[.string ca, .string cert, .string key] 24 := ⟨_, rfl⟩
  have HO : Hid (o1 = .cells #[.string ca, .string cert, .string key] 24) := ho1
  have F0 : FInv w (.cells #[.string ca, .string cert, .string key] 24) ca cert key 0 (.slice none 0 0) ((w.alloc (.cells #[.string ca, .string cert, .string key] 24)).alloc (lit3 ca cert key)) := ⟨World.ownsRow_nil _ _ _ _, Below.refl _ _⟩
  rw [← ho1] at F0 ⊢
  clear ho1
  obtain ⟨i0, hi, hz0, hz1, hz2⟩ := info_parts Try.info9
  go_enter Try.func5, Try.ntmps5
  go_wp2
  go_loopw [3, 17] (fun v i wr => ∃ k : Nat, k ≤ 3 ∧ i = .int .i64 (k : Int) ∧ FInv w o1 ca cert key k v wr) (fun _ i _ => 3 - (intOf i).toNat)
  case atStart => exact ⟨0, by omega, rfl, by rw [HO.out] at F0 ⊢; exact F0⟩
  case round =>
    clear F0
    obtain ⟨k, hk, rfl, H⟩ := hrel
    by_cases hlt : k < 3
    · obtain ⟨c1, c2⟩ := lit_cells H.2 k hlt
      have HHIT : Hid ((vl ca cert key k).toList.isEmpty = false → fl (its ca cert key (k + 1)) = fl (its ca cert key k) ++ [.string (nm (k + 1)), .string (vl ca cert key k)]) := its_hit hlt
      have HMISS : Hid ((vl ca cert key k).toList.isEmpty = true → its ca cert key (k + 1) = its ca cert key k) := its_miss hlt
      have hlen := fl_len ca cert key k
      obtain ⟨hown, bel⟩ := H
      have i1 : (k : Int) < 3 := by omega
      generalize vl ca cert key k = b at *
      generalize nm (k + 1) = a at *
      have hz : w.heap.size + 2 ≤ wr.heap.size := by have := bel.size; simp at this; omega
      by_cases he : b.toList.isEmpty = true
      · have HM : Hid (its ca cert key (k + 1) = its ca cert key k) := HMISS.out he
        clear HHIT HMISS
        have R : ∀ ob, FInv w o1 ca cert key (k + 1) u3 (wr.alloc ob) := fun ob => by
          unfold FInv
          rw [HM.out]
          exact ⟨hown.alloc _, bel.alloc hz _⟩
        clear HM hown bel
        go_wp2
        go_roundw
        case rel => exact ⟨k + 1, by omega, by go_num, R _⟩
        case measure => simp [intOf]; omega
      · replace he : b.toList.isEmpty = false := by simpa using he
        have HN := two_new (w := wr.alloc (.cells #[.string a, .string b] 29)) (a := a) (b := b)
        have es : (wr.alloc (.cells #[.string a, .string b] 29)).heap.size = wr.heap.size + 1 := by simp
        rw [es] at HN
        have HH : Hid (fl (its ca cert key (k + 1)) = fl (its ca cert key k) ++ [.string a, .string b]) := HHIT.out he
        clear HHIT HMISS es
        generalize hfl : fl (its ca cert key k) = fk at *
        clear hfl
        go_wp2_with (at_builtin; refine wpList_append_own _ rfl _ _ 25 rfl (w.heap.size + 2) 9 i0 (.string ByteArray.empty) 1 16 Try.underlying25 hi hz0 hz1 hz2 rfl (by decide) _ _ _ rfl ((hown.alloc _).alloc _) ⟨wr.heap.size + 1, 0, none⟩ 2 2 [.string a, .string b] rfl rfl ?c1 ?c2 ?c3 ?c4 ?c5 ?_)
        case c1 => exact HN.1
        case c2 => exact HN.2
        case c3 => unfold maxLen; omega
        case c4 => omega
        case c5 => simp; omega
        intro v' w4 hown4 hgrow4 _
        have R : FInv w o1 ca cert key (k + 1) v' w4 := by
          unfold FInv
          rw [HH.out]
          refine ⟨by simpa using hown4, ?_⟩
          exact ((bel.alloc hz _).alloc (by simp; omega) _).grown hgrow4 (by simp; omega) (by intro j hj; exact (hown.lt j hj).1)
        clear hown4 hgrow4 hown bel HH HN c1 c2
        go_wp2
        go_roundw
        case rel => exact ⟨k + 1, by omega, by go_num, R⟩
        case measure => simp [intOf]; omega
    · obtain rfl : k = 3 := by omega
      go_wp2
      go_ret
      exact ⟨_, rfl, H⟩
end Go.Proofs.Qxb6605404a
