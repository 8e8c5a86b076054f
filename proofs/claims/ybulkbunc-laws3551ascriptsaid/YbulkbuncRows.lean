/-
  No cell of these rows narrows 'for every input' (looked for: loops, veiled, ifaces, maps, wideKeys, modest, calm, conditions, laid).
  DERIVED. THE GIVEN ROWS OF THIS SEAT. 3 by the template 'for every input the law returns true; each argument reads behind the call as it read before'; 0 by the template 'total and deterministic' (their statements: YbulkbuncTotals.lean).
  GIVEN WITH THE SEED: the statements are not yours to turn. If you find one false, say at which input.
  Laid BY PROGRAM, IN A SANDBOX (cutbox-rows.mjs): the forced cells as the released guide's own fill.sh prints them over the translation d1a96808fd98eff8… (all of the seat's roots in one cut). By AI agents, Wed Nov 11 2026. No macro, syntax, notation, axiom, sorry.
-/
import Derived.Test.YbulkbuncChecked
import GoSem.Claim
import GoSem.ClaimJoined
import GoSem.ClaimMapViews
import Derived.JoinedTies
import Derived.KernelRfl
namespace Go.Proofs.Ybulkbunc
/- THE CELL 'sum', in the pinned program and in every row, IS THE sha256 OF THE DUMP (.gsa) THAT YbulkbuncProg.lean LOADS. Nothing in Lean hashes anything: it is a label: what it is worth is what the hold of that sum in a sandbox is worth. -/
noncomputable def Yba.pinned : Pinned := { name := "ybulkbunc", sum := "d1a96808fd98eff8d5c1cf2e527c6c437be82edb6c372d3389bd9edc7e3fc5f3", checked := Yba.checked }
namespace Rows
def none {H : Type} : Left H := { results := [], args := [] }

/-- 'sim.LawS3551AScript': WHATEVER THE INPUT: true; the input reads as it did. -/
def lawS3551AScriptSpec : ChangeSpec := { name := "lawS3551AScript", fn := fun _ => fun
  | [d1, d2] => { results := [.lit (.bool true)], args := [d1, d2] }
  | _ => none }
def lawS3551AScriptRow : OpenClaim := { program := "ybulkbunc", sum := "d1a96808fd98eff8d5c1cf2e527c6c437be82edb6c372d3389bd9edc7e3fc5f3", func := "example.com/driftvote/driftvote/sim.LawS3551AScript", spec := "lawS3551AScript", apart := false }
def LawS3551AScriptSaid : Prop := lawS3551AScriptRow.holds Yba.pinned (OpenSpec.ofChange lawS3551AScriptSpec)

/-- ITS FALSE NEIGHBOUR: 'it returns false'. Refute it at one input. -/
def lawS3551AScriptWrong : ChangeSpec := { name := "lawS3551AScript", fn := fun _ => fun
  | [d1, d2] => { results := [.lit (.bool false)], args := [d1, d2] }
  | _ => none }
def LawS3551AScriptWrongFalsely : Prop := lawS3551AScriptRow.holds Yba.pinned (OpenSpec.ofChange lawS3551AScriptWrong)

/-- 'adversary.LawS3551BExact': WHATEVER THE INPUT: true; the input reads as it did. -/
def lawS3551BExactSpec : ChangeSpec := { name := "lawS3551BExact", fn := fun _ => fun
  | [d1, d2, d3, d4, d5, d6] => { results := [.lit (.bool true)], args := [d1, d2, d3, d4, d5, d6] }
  | _ => none }
def lawS3551BExactRow : OpenClaim := { program := "ybulkbunc", sum := "d1a96808fd98eff8d5c1cf2e527c6c437be82edb6c372d3389bd9edc7e3fc5f3", func := "example.com/driftvote/driftvote/adversary.LawS3551BExact", spec := "lawS3551BExact", apart := false }
def LawS3551BExactSaid : Prop := lawS3551BExactRow.holds Yba.pinned (OpenSpec.ofChange lawS3551BExactSpec)

/-- ITS FALSE NEIGHBOUR: 'it returns false'. Refute it at one input. -/
def lawS3551BExactWrong : ChangeSpec := { name := "lawS3551BExact", fn := fun _ => fun
  | [d1, d2, d3, d4, d5, d6] => { results := [.lit (.bool false)], args := [d1, d2, d3, d4, d5, d6] }
  | _ => none }
def LawS3551BExactWrongFalsely : Prop := lawS3551BExactRow.holds Yba.pinned (OpenSpec.ofChange lawS3551BExactWrong)

/-- 'adversary.LawS3551BFloat': WHATEVER THE INPUT: true; the input reads as it did. -/
def lawS3551BFloatSpec : ChangeSpec := { name := "lawS3551BFloat", fn := fun _ => fun
  | [d1, d2, d3, d4] => { results := [.lit (.bool true)], args := [d1, d2, d3, d4] }
  | _ => none }
def lawS3551BFloatRow : OpenClaim := { program := "ybulkbunc", sum := "d1a96808fd98eff8d5c1cf2e527c6c437be82edb6c372d3389bd9edc7e3fc5f3", func := "example.com/driftvote/driftvote/adversary.LawS3551BFloat", spec := "lawS3551BFloat", apart := false }
def LawS3551BFloatSaid : Prop := lawS3551BFloatRow.holds Yba.pinned (OpenSpec.ofChange lawS3551BFloatSpec)

/-- ITS FALSE NEIGHBOUR: 'it returns false'. Refute it at one input. -/
def lawS3551BFloatWrong : ChangeSpec := { name := "lawS3551BFloat", fn := fun _ => fun
  | [d1, d2, d3, d4] => { results := [.lit (.bool false)], args := [d1, d2, d3, d4] }
  | _ => none }
def LawS3551BFloatWrongFalsely : Prop := lawS3551BFloatRow.holds Yba.pinned (OpenSpec.ofChange lawS3551BFloatWrong)

end Rows
end Go.Proofs.Ybulkbunc
