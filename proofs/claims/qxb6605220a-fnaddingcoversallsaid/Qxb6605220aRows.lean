/-
  No cell of these rows narrows 'for every input' (looked for: loops, veiled, ifaces, maps, wideKeys, modest, calm, conditions, laid).
  DERIVED. THE GIVEN ROWS OF THIS SEAT. 5 by the template 'for every input the law returns true; each argument reads behind the call as it read before'; 0 by the template 'total and deterministic' (their statements: Qxb6605220aTotals.lean).
  GIVEN WITH THE SEED: the statements are not yours to turn. If you find one false, say at which input.
  Laid BY PROGRAM, IN A SANDBOX (cutbox-rows.mjs): the forced cells as the released guide's own fill.sh prints them over the translation 8aad800d8586abc9… (all of the seat's roots in one cut). By AI agents, Wed Nov 11 2026. No macro, syntax, notation, axiom, sorry.
-/
import Derived.Test.Qxb6605220aChecked
import GoSem.Claim
import GoSem.ClaimJoined
import GoSem.ClaimMapViews
import Derived.JoinedTies
import Derived.KernelRfl
namespace Go.Proofs.Qxb6605220a
/- THE CELL 'sum', in the pinned program and in every row, IS THE sha256 OF THE DUMP (.gsa) THAT Qxb6605220aProg.lean LOADS. Nothing in Lean hashes anything: it is a label: what it is worth is what the hold of that sum in a sandbox is worth. -/
noncomputable def Try.pinned : Pinned := { name := "qxb6605220a", sum := "8aad800d8586abc92e720a717c261c4381f9e9ea1a88e55dea9a127706da3939", checked := Try.checked }
namespace Rows
def none {H : Type} : Left H := { results := [], args := [] }

/-- 'zzlaws_internal_replica_b1.FnUnionMembers': WHATEVER THE INPUT: true; the input reads as it did. -/
def fnUnionMembersSpec : ChangeSpec := { name := "fnUnionMembers", fn := fun _ => fun
  | [d1, d2] => { results := [.lit (.bool true)], args := [d1, d2] }
  | _ => none }
def fnUnionMembersRow : OpenClaim := { program := "qxb6605220a", sum := "8aad800d8586abc92e720a717c261c4381f9e9ea1a88e55dea9a127706da3939", func := "example.com/fanfold/fanfold/zzlaws_internal_replica_b1.FnUnionMembers", spec := "fnUnionMembers", apart := false }
def FnUnionMembersSaid : Prop := fnUnionMembersRow.holds Try.pinned (OpenSpec.ofChange fnUnionMembersSpec)

/-- ITS FALSE NEIGHBOUR: 'it returns false'. Refute it at one input. -/
def fnUnionMembersWrong : ChangeSpec := { name := "fnUnionMembers", fn := fun _ => fun
  | [d1, d2] => { results := [.lit (.bool false)], args := [d1, d2] }
  | _ => none }
def FnUnionMembersWrongFalsely : Prop := fnUnionMembersRow.holds Try.pinned (OpenSpec.ofChange fnUnionMembersWrong)

/-- 'zzlaws_internal_replica_b1.FnNamesAnotherMembers': WHATEVER THE INPUT: true; the input reads as it did. -/
def fnNamesAnotherMembersSpec : ChangeSpec := { name := "fnNamesAnotherMembers", fn := fun _ => fun
  | [d1, d2] => { results := [.lit (.bool true)], args := [d1, d2] }
  | _ => none }
def fnNamesAnotherMembersRow : OpenClaim := { program := "qxb6605220a", sum := "8aad800d8586abc92e720a717c261c4381f9e9ea1a88e55dea9a127706da3939", func := "example.com/fanfold/fanfold/zzlaws_internal_replica_b1.FnNamesAnotherMembers", spec := "fnNamesAnotherMembers", apart := false }
def FnNamesAnotherMembersSaid : Prop := fnNamesAnotherMembersRow.holds Try.pinned (OpenSpec.ofChange fnNamesAnotherMembersSpec)

/-- ITS FALSE NEIGHBOUR: 'it returns false'. Refute it at one input. -/
def fnNamesAnotherMembersWrong : ChangeSpec := { name := "fnNamesAnotherMembers", fn := fun _ => fun
  | [d1, d2] => { results := [.lit (.bool false)], args := [d1, d2] }
  | _ => none }
def FnNamesAnotherMembersWrongFalsely : Prop := fnNamesAnotherMembersRow.holds Try.pinned (OpenSpec.ofChange fnNamesAnotherMembersWrong)

/-- 'zzlaws_internal_replica_b1.FnNamesAnotherAgreesWithUnion': WHATEVER THE INPUT: true; the input reads as it did. -/
def fnNamesAnotherAgreesWithUnionSpec : ChangeSpec := { name := "fnNamesAnotherAgreesWithUnion", fn := fun _ => fun
  | [d1, d2] => { results := [.lit (.bool true)], args := [d1, d2] }
  | _ => none }
def fnNamesAnotherAgreesWithUnionRow : OpenClaim := { program := "qxb6605220a", sum := "8aad800d8586abc92e720a717c261c4381f9e9ea1a88e55dea9a127706da3939", func := "example.com/fanfold/fanfold/zzlaws_internal_replica_b1.FnNamesAnotherAgreesWithUnion", spec := "fnNamesAnotherAgreesWithUnion", apart := false }
def FnNamesAnotherAgreesWithUnionSaid : Prop := fnNamesAnotherAgreesWithUnionRow.holds Try.pinned (OpenSpec.ofChange fnNamesAnotherAgreesWithUnionSpec)

/-- ITS FALSE NEIGHBOUR: 'it returns false'. Refute it at one input. -/
def fnNamesAnotherAgreesWithUnionWrong : ChangeSpec := { name := "fnNamesAnotherAgreesWithUnion", fn := fun _ => fun
  | [d1, d2] => { results := [.lit (.bool false)], args := [d1, d2] }
  | _ => none }
def FnNamesAnotherAgreesWithUnionWrongFalsely : Prop := fnNamesAnotherAgreesWithUnionRow.holds Try.pinned (OpenSpec.ofChange fnNamesAnotherAgreesWithUnionWrong)

/-- 'zzlaws_internal_replica_b1.FnAddingKeepsFirstNewcomers': WHATEVER THE INPUT: true; the input reads as it did. -/
def fnAddingKeepsFirstNewcomersSpec : ChangeSpec := { name := "fnAddingKeepsFirstNewcomers", fn := fun _ => fun
  | [d1, d2] => { results := [.lit (.bool true)], args := [d1, d2] }
  | _ => none }
def fnAddingKeepsFirstNewcomersRow : OpenClaim := { program := "qxb6605220a", sum := "8aad800d8586abc92e720a717c261c4381f9e9ea1a88e55dea9a127706da3939", func := "example.com/fanfold/fanfold/zzlaws_internal_replica_b1.FnAddingKeepsFirstNewcomers", spec := "fnAddingKeepsFirstNewcomers", apart := false }
def FnAddingKeepsFirstNewcomersSaid : Prop := fnAddingKeepsFirstNewcomersRow.holds Try.pinned (OpenSpec.ofChange fnAddingKeepsFirstNewcomersSpec)

/-- ITS FALSE NEIGHBOUR: 'it returns false'. Refute it at one input. -/
def fnAddingKeepsFirstNewcomersWrong : ChangeSpec := { name := "fnAddingKeepsFirstNewcomers", fn := fun _ => fun
  | [d1, d2] => { results := [.lit (.bool false)], args := [d1, d2] }
  | _ => none }
def FnAddingKeepsFirstNewcomersWrongFalsely : Prop := fnAddingKeepsFirstNewcomersRow.holds Try.pinned (OpenSpec.ofChange fnAddingKeepsFirstNewcomersWrong)

/-- 'zzlaws_internal_replica_b1.FnAddingCoversAll': WHATEVER THE INPUT: true; the input reads as it did. -/
def fnAddingCoversAllSpec : ChangeSpec := { name := "fnAddingCoversAll", fn := fun _ => fun
  | [d1, d2] => { results := [.lit (.bool true)], args := [d1, d2] }
  | _ => none }
def fnAddingCoversAllRow : OpenClaim := { program := "qxb6605220a", sum := "8aad800d8586abc92e720a717c261c4381f9e9ea1a88e55dea9a127706da3939", func := "example.com/fanfold/fanfold/zzlaws_internal_replica_b1.FnAddingCoversAll", spec := "fnAddingCoversAll", apart := false }
def FnAddingCoversAllSaid : Prop := fnAddingCoversAllRow.holds Try.pinned (OpenSpec.ofChange fnAddingCoversAllSpec)

/-- ITS FALSE NEIGHBOUR: 'it returns false'. Refute it at one input. -/
def fnAddingCoversAllWrong : ChangeSpec := { name := "fnAddingCoversAll", fn := fun _ => fun
  | [d1, d2] => { results := [.lit (.bool false)], args := [d1, d2] }
  | _ => none }
def FnAddingCoversAllWrongFalsely : Prop := fnAddingCoversAllRow.holds Try.pinned (OpenSpec.ofChange fnAddingCoversAllWrong)

end Rows
end Go.Proofs.Qxb6605220a
