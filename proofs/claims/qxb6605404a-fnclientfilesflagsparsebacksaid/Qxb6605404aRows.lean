/-
  No cell of these rows narrows 'for every input' (looked for: loops, veiled, ifaces, maps, wideKeys, modest, calm, conditions, laid).
  DERIVED. THE GIVEN ROWS OF THIS SEAT. 1 by the template 'for every input the law returns true; each argument reads behind the call as it read before'; 0 by the template 'total and deterministic' (their statements: Qxb6605404aTotals.lean).
  GIVEN WITH THE SEED: the statements are not yours to turn. If you find one false, say at which input.
  Laid BY PROGRAM, IN A SANDBOX (cutbox-rows.mjs): the forced cells as the released guide's own fill.sh prints them over the translation b5baf75403369629… (all of the seat's roots in one cut). By AI agents, Wed Nov 11 2026. No macro, syntax, notation, axiom, sorry.
-/
import Derived.Test.Qxb6605404aChecked
import GoSem.Claim
import GoSem.ClaimJoined
import GoSem.ClaimMapViews
import Derived.JoinedTies
import Derived.KernelRfl
namespace Go.Proofs.Qxb6605404a
/- THE CELL 'sum', in the pinned program and in every row, IS THE sha256 OF THE DUMP (.gsa) THAT Qxb6605404aProg.lean LOADS. Nothing in Lean hashes anything: it is a label: what it is worth is what the hold of that sum in a sandbox is worth. -/
noncomputable def Try.pinned : Pinned := { name := "qxb6605404a", sum := "b5baf75403369629ab520d6869ffdb03532bf638cc20eed60fb2036f9d9f1dd2", checked := Try.checked }
namespace Rows
def none {H : Type} : Left H := { results := [], args := [] }

/-- 'zzlaws_internal_servertest_b1.FnClientFilesFlagsParseBack': WHATEVER THE INPUT: true; the input reads as it did. -/
def fnClientFilesFlagsParseBackSpec : ChangeSpec := { name := "fnClientFilesFlagsParseBack", fn := fun _ => fun
  | [d1, d2, d3] => { results := [.lit (.bool true)], args := [d1, d2, d3] }
  | _ => none }
def fnClientFilesFlagsParseBackRow : OpenClaim := { program := "qxb6605404a", sum := "b5baf75403369629ab520d6869ffdb03532bf638cc20eed60fb2036f9d9f1dd2", func := "example.com/keep-seat/keep-seat/zzlaws_internal_servertest_b1.FnClientFilesFlagsParseBack", spec := "fnClientFilesFlagsParseBack", apart := false }
def FnClientFilesFlagsParseBackSaid : Prop := fnClientFilesFlagsParseBackRow.holds Try.pinned (OpenSpec.ofChange fnClientFilesFlagsParseBackSpec)

/-- ITS FALSE NEIGHBOUR: 'it returns false'. Refute it at one input. -/
def fnClientFilesFlagsParseBackWrong : ChangeSpec := { name := "fnClientFilesFlagsParseBack", fn := fun _ => fun
  | [d1, d2, d3] => { results := [.lit (.bool false)], args := [d1, d2, d3] }
  | _ => none }
def FnClientFilesFlagsParseBackWrongFalsely : Prop := fnClientFilesFlagsParseBackRow.holds Try.pinned (OpenSpec.ofChange fnClientFilesFlagsParseBackWrong)

end Rows
end Go.Proofs.Qxb6605404a
