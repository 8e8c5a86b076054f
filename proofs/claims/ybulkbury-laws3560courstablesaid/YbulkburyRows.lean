/-
  No cell of these rows narrows 'for every input' (looked for: loops, veiled, ifaces, maps, wideKeys, modest, calm, conditions, laid).
  DERIVED. THE GIVEN ROWS OF THIS SEAT. 4 by the template 'for every input the law returns true; each argument reads behind the call as it read before'; 0 by the template 'total and deterministic' (their statements: YbulkburyTotals.lean).
  GIVEN WITH THE SEED: the statements are not yours to turn. If you find one false, say at which input.
  Laid BY PROGRAM, IN A SANDBOX (cutbox-rows.mjs): the forced cells as the released guide's own fill.sh prints them over the translation 877da0939b497c85… (all of the seat's roots in one cut). By AI agents, Wed Nov 11 2026. No macro, syntax, notation, axiom, sorry.
-/
import Derived.Test.YbulkburyChecked
import GoSem.Claim
import GoSem.ClaimJoined
import GoSem.ClaimMapViews
import Derived.JoinedTies
import Derived.KernelRfl
namespace Go.Proofs.Ybulkbury
/- THE CELL 'sum', in the pinned program and in every row, IS THE sha256 OF THE DUMP (.gsa) THAT YbulkburyProg.lean LOADS. Nothing in Lean hashes anything: it is a label: what it is worth is what the hold of that sum in a sandbox is worth. -/
noncomputable def Yba.pinned : Pinned := { name := "ybulkbury", sum := "877da0939b497c85ff7cdf88ed3f90891d8c259b99ad57258758a87f63a862c9", checked := Yba.checked }
namespace Rows
def none {H : Type} : Left H := { results := [], args := [] }

/-- 'equipoise.LawS3560ABracket': WHATEVER THE INPUT: true; the input reads as it did. -/
def lawS3560ABracketSpec : ChangeSpec := { name := "lawS3560ABracket", fn := fun _ => fun
  | [d1, d2, d3, d4, d5, d6, d7, d8] => { results := [.lit (.bool true)], args := [d1, d2, d3, d4, d5, d6, d7, d8] }
  | _ => none }
def lawS3560ABracketRow : OpenClaim := { program := "ybulkbury", sum := "877da0939b497c85ff7cdf88ed3f90891d8c259b99ad57258758a87f63a862c9", func := "example.com/equipoise/equipoise.LawS3560ABracket", spec := "lawS3560ABracket", inPlace := ["math/bits.Add64"], unfollowed := true, recurses := true, named := ["encoding/binary.BigEndian"], apart := false }
def LawS3560ABracketSaid : Prop := lawS3560ABracketRow.holds Yba.pinned (OpenSpec.ofChange lawS3560ABracketSpec)

/-- ITS FALSE NEIGHBOUR: 'it returns false'. Refute it at one input. -/
def lawS3560ABracketWrong : ChangeSpec := { name := "lawS3560ABracket", fn := fun _ => fun
  | [d1, d2, d3, d4, d5, d6, d7, d8] => { results := [.lit (.bool false)], args := [d1, d2, d3, d4, d5, d6, d7, d8] }
  | _ => none }
def LawS3560ABracketWrongFalsely : Prop := lawS3560ABracketRow.holds Yba.pinned (OpenSpec.ofChange lawS3560ABracketWrong)

/-- 'equipoise.LawS3560AEqual': WHATEVER THE INPUT: true; the input reads as it did. -/
def lawS3560AEqualSpec : ChangeSpec := { name := "lawS3560AEqual", fn := fun _ => fun
  | [d1, d2, d3, d4, d5, d6, d7] => { results := [.lit (.bool true)], args := [d1, d2, d3, d4, d5, d6, d7] }
  | _ => none }
def lawS3560AEqualRow : OpenClaim := { program := "ybulkbury", sum := "877da0939b497c85ff7cdf88ed3f90891d8c259b99ad57258758a87f63a862c9", func := "example.com/equipoise/equipoise.LawS3560AEqual", spec := "lawS3560AEqual", inPlace := ["math/bits.Add64"], unfollowed := true, recurses := true, named := ["encoding/binary.BigEndian"], apart := false }
def LawS3560AEqualSaid : Prop := lawS3560AEqualRow.holds Yba.pinned (OpenSpec.ofChange lawS3560AEqualSpec)

/-- ITS FALSE NEIGHBOUR: 'it returns false'. Refute it at one input. -/
def lawS3560AEqualWrong : ChangeSpec := { name := "lawS3560AEqual", fn := fun _ => fun
  | [d1, d2, d3, d4, d5, d6, d7] => { results := [.lit (.bool false)], args := [d1, d2, d3, d4, d5, d6, d7] }
  | _ => none }
def LawS3560AEqualWrongFalsely : Prop := lawS3560AEqualRow.holds Yba.pinned (OpenSpec.ofChange lawS3560AEqualWrong)

/-- 'equipoise.LawS3560CAllTable': WHATEVER THE INPUT: true; the input reads as it did. -/
def lawS3560CAllTableSpec : ChangeSpec := { name := "lawS3560CAllTable", fn := fun _ => fun
  | [d1, d2, d3, d4, d5, d6] => { results := [.lit (.bool true)], args := [d1, d2, d3, d4, d5, d6] }
  | _ => none }
def lawS3560CAllTableRow : OpenClaim := { program := "ybulkbury", sum := "877da0939b497c85ff7cdf88ed3f90891d8c259b99ad57258758a87f63a862c9", func := "example.com/equipoise/equipoise.LawS3560CAllTable", spec := "lawS3560CAllTable", named := ["math/bits.divideError", "math/bits.overflowError"], apart := false }
def LawS3560CAllTableSaid : Prop := lawS3560CAllTableRow.holds Yba.pinned (OpenSpec.ofChange lawS3560CAllTableSpec)

/-- ITS FALSE NEIGHBOUR: 'it returns false'. Refute it at one input. -/
def lawS3560CAllTableWrong : ChangeSpec := { name := "lawS3560CAllTable", fn := fun _ => fun
  | [d1, d2, d3, d4, d5, d6] => { results := [.lit (.bool false)], args := [d1, d2, d3, d4, d5, d6] }
  | _ => none }
def LawS3560CAllTableWrongFalsely : Prop := lawS3560CAllTableRow.holds Yba.pinned (OpenSpec.ofChange lawS3560CAllTableWrong)

/-- 'equipoise.LawS3560COursTable': WHATEVER THE INPUT: true; the input reads as it did. -/
def lawS3560COursTableSpec : ChangeSpec := { name := "lawS3560COursTable", fn := fun _ => fun
  | [d1, d2, d3, d4, d5, d6] => { results := [.lit (.bool true)], args := [d1, d2, d3, d4, d5, d6] }
  | _ => none }
def lawS3560COursTableRow : OpenClaim := { program := "ybulkbury", sum := "877da0939b497c85ff7cdf88ed3f90891d8c259b99ad57258758a87f63a862c9", func := "example.com/equipoise/equipoise.LawS3560COursTable", spec := "lawS3560COursTable", named := ["math/bits.divideError", "math/bits.overflowError"], apart := false }
def LawS3560COursTableSaid : Prop := lawS3560COursTableRow.holds Yba.pinned (OpenSpec.ofChange lawS3560COursTableSpec)

/-- ITS FALSE NEIGHBOUR: 'it returns false'. Refute it at one input. -/
def lawS3560COursTableWrong : ChangeSpec := { name := "lawS3560COursTable", fn := fun _ => fun
  | [d1, d2, d3, d4, d5, d6] => { results := [.lit (.bool false)], args := [d1, d2, d3, d4, d5, d6] }
  | _ => none }
def LawS3560COursTableWrongFalsely : Prop := lawS3560COursTableRow.holds Yba.pinned (OpenSpec.ofChange lawS3560COursTableWrong)

end Rows
end Go.Proofs.Ybulkbury
