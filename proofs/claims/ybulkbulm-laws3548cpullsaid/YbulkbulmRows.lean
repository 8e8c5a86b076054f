/-
  No cell of these rows narrows 'for every input' (looked for: loops, veiled, ifaces, maps, wideKeys, modest, calm, conditions, laid).
  DERIVED. THE GIVEN ROWS OF THIS SEAT. 3 by the template 'for every input the law returns true; each argument reads behind the call as it read before'; 0 by the template 'total and deterministic' (their statements: YbulkbulmTotals.lean).
  GIVEN WITH THE SEED: the statements are not yours to turn. If you find one false, say at which input.
  Laid BY PROGRAM, IN A SANDBOX (cutbox-rows.mjs): the forced cells as the released guide's own fill.sh prints them over the translation d68ea868ccddb1b5… (all of the seat's roots in one cut). By AI agents, Wed Nov 11 2026. No macro, syntax, notation, axiom, sorry.
-/
import Derived.Test.YbulkbulmChecked
import GoSem.Claim
import GoSem.ClaimJoined
import GoSem.ClaimMapViews
import Derived.JoinedTies
import Derived.KernelRfl
namespace Go.Proofs.Ybulkbulm
/- THE CELL 'sum', in the pinned program and in every row, IS THE sha256 OF THE DUMP (.gsa) THAT YbulkbulmProg.lean LOADS. Nothing in Lean hashes anything: it is a label: what it is worth is what the hold of that sum in a sandbox is worth. -/
noncomputable def Yba.pinned : Pinned := { name := "ybulkbulm", sum := "d68ea868ccddb1b5f85e46471c55330dc171e1055d2afbf161ee1bf1e4a97c85", checked := Yba.checked }
namespace Rows
def none {H : Type} : Left H := { results := [], args := [] }

/-- 'report.LawS3548AIntegers': WHATEVER THE INPUT: true; the input reads as it did. -/
def lawS3548AIntegersSpec : ChangeSpec := { name := "lawS3548AIntegers", fn := fun _ => fun
  | [d] => { results := [.lit (.bool true)], args := [d] }
  | _ => none }
def lawS3548AIntegersRow : OpenClaim := { program := "ybulkbulm", sum := "d68ea868ccddb1b5f85e46471c55330dc171e1055d2afbf161ee1bf1e4a97c85", func := "example.com/coxswain/coxswain/pkg/report.LawS3548AIntegers", spec := "lawS3548AIntegers", inPlace := ["math.Float64bits"], apart := false }
def LawS3548AIntegersSaid : Prop := lawS3548AIntegersRow.holds Yba.pinned (OpenSpec.ofChange lawS3548AIntegersSpec)

/-- ITS FALSE NEIGHBOUR: 'it returns false'. Refute it at one input. -/
def lawS3548AIntegersWrong : ChangeSpec := { name := "lawS3548AIntegers", fn := fun _ => fun
  | [d] => { results := [.lit (.bool false)], args := [d] }
  | _ => none }
def LawS3548AIntegersWrongFalsely : Prop := lawS3548AIntegersRow.holds Yba.pinned (OpenSpec.ofChange lawS3548AIntegersWrong)

/-- 'report.LawS3548AFloats': WHATEVER THE INPUT: true; the input reads as it did. -/
def lawS3548AFloatsSpec : ChangeSpec := { name := "lawS3548AFloats", fn := fun _ => fun
  | [d] => { results := [.lit (.bool true)], args := [d] }
  | _ => none }
def lawS3548AFloatsRow : OpenClaim := { program := "ybulkbulm", sum := "d68ea868ccddb1b5f85e46471c55330dc171e1055d2afbf161ee1bf1e4a97c85", func := "example.com/coxswain/coxswain/pkg/report.LawS3548AFloats", spec := "lawS3548AFloats", inPlace := ["math.Float64bits"], apart := false }
def LawS3548AFloatsSaid : Prop := lawS3548AFloatsRow.holds Yba.pinned (OpenSpec.ofChange lawS3548AFloatsSpec)

/-- ITS FALSE NEIGHBOUR: 'it returns false'. Refute it at one input. -/
def lawS3548AFloatsWrong : ChangeSpec := { name := "lawS3548AFloats", fn := fun _ => fun
  | [d] => { results := [.lit (.bool false)], args := [d] }
  | _ => none }
def LawS3548AFloatsWrongFalsely : Prop := lawS3548AFloatsRow.holds Yba.pinned (OpenSpec.ofChange lawS3548AFloatsWrong)

/-- 'sched.LawS3548CPull': WHATEVER THE INPUT: true; the input reads as it did. -/
def lawS3548CPullSpec : ChangeSpec := { name := "lawS3548CPull", fn := fun _ => fun
  | [d1, d2, d3, d4, d5, d6] => { results := [.lit (.bool true)], args := [d1, d2, d3, d4, d5, d6] }
  | _ => none }
def lawS3548CPullRow : OpenClaim := { program := "ybulkbulm", sum := "d68ea868ccddb1b5f85e46471c55330dc171e1055d2afbf161ee1bf1e4a97c85", func := "example.com/coxswain/coxswain/pkg/sched.LawS3548CPull", spec := "lawS3548CPull", apart := false }
def LawS3548CPullSaid : Prop := lawS3548CPullRow.holds Yba.pinned (OpenSpec.ofChange lawS3548CPullSpec)

/-- ITS FALSE NEIGHBOUR: 'it returns false'. Refute it at one input. -/
def lawS3548CPullWrong : ChangeSpec := { name := "lawS3548CPull", fn := fun _ => fun
  | [d1, d2, d3, d4, d5, d6] => { results := [.lit (.bool false)], args := [d1, d2, d3, d4, d5, d6] }
  | _ => none }
def LawS3548CPullWrongFalsely : Prop := lawS3548CPullRow.holds Yba.pinned (OpenSpec.ofChange lawS3548CPullWrong)

end Rows
end Go.Proofs.Ybulkbulm
