/-
  No cell of these rows narrows 'for every input' (looked for: loops, veiled, ifaces, maps, wideKeys, modest, calm, conditions, laid).
  DERIVED. THE GIVEN ROWS OF THIS SEAT. 2 by the template 'for every input the law returns true; each argument reads behind the call as it read before'; 0 by the template 'total and deterministic' (their statements: YbulkbofyTotals.lean).
  GIVEN WITH THE SEED: the statements are not yours to turn. If you find one false, say at which input.
  Laid BY PROGRAM, IN A SANDBOX (cutbox-rows.mjs): the forced cells as the released guide's own fill.sh prints them over the translation 7958bbf934f80399… (all of the seat's roots in one cut). By AI agents, Wed Nov 11 2026. No macro, syntax, notation, axiom, sorry.
-/
import Derived.Test.YbulkbofyChecked
import GoSem.Claim
import GoSem.ClaimJoined
import GoSem.ClaimMapViews
import Derived.JoinedTies
import Derived.KernelRfl
namespace Go.Proofs.Ybulkbofy
/- THE CELL 'sum', in the pinned program and in every row, IS THE sha256 OF THE DUMP (.gsa) THAT YbulkbofyProg.lean LOADS. Nothing in Lean hashes anything: it is a label: what it is worth is what the hold of that sum in a sandbox is worth. -/
noncomputable def Yba.pinned : Pinned := { name := "ybulkbofy", sum := "7958bbf934f80399ecfaf9a67705858271f517599c294e1929f2bd88becaad41", checked := Yba.checked }
namespace Rows
def none {H : Type} : Left H := { results := [], args := [] }

/-- 'compoundwise.LawS3248CExact': WHATEVER THE INPUT: true; the input reads as it did. -/
def lawS3248CExactSpec : ChangeSpec := { name := "lawS3248CExact", fn := fun _ => fun
  | [d1, d2, d3, d4] => { results := [.lit (.bool true)], args := [d1, d2, d3, d4] }
  | _ => none }
def lawS3248CExactRow : OpenClaim := { program := "ybulkbofy", sum := "7958bbf934f80399ecfaf9a67705858271f517599c294e1929f2bd88becaad41", func := "example.com/compoundwise/compoundwise.LawS3248CExact", spec := "lawS3248CExact", inPlace := ["math.Float64bits", "math.Float64frombits"], apart := false }
def LawS3248CExactSaid : Prop := lawS3248CExactRow.holds Yba.pinned (OpenSpec.ofChange lawS3248CExactSpec)

/-- ITS FALSE NEIGHBOUR: 'it returns false'. Refute it at one input. -/
def lawS3248CExactWrong : ChangeSpec := { name := "lawS3248CExact", fn := fun _ => fun
  | [d1, d2, d3, d4] => { results := [.lit (.bool false)], args := [d1, d2, d3, d4] }
  | _ => none }
def LawS3248CExactWrongFalsely : Prop := lawS3248CExactRow.holds Yba.pinned (OpenSpec.ofChange lawS3248CExactWrong)

/-- 'compoundwise.LawS3248CAllowance': WHATEVER THE INPUT: true; the input reads as it did. -/
def lawS3248CAllowanceSpec : ChangeSpec := { name := "lawS3248CAllowance", fn := fun _ => fun
  | [d1, d2, d3] => { results := [.lit (.bool true)], args := [d1, d2, d3] }
  | _ => none }
def lawS3248CAllowanceRow : OpenClaim := { program := "ybulkbofy", sum := "7958bbf934f80399ecfaf9a67705858271f517599c294e1929f2bd88becaad41", func := "example.com/compoundwise/compoundwise.LawS3248CAllowance", spec := "lawS3248CAllowance", inPlace := ["math.Float64bits", "math.Float64frombits"], apart := false }
def LawS3248CAllowanceSaid : Prop := lawS3248CAllowanceRow.holds Yba.pinned (OpenSpec.ofChange lawS3248CAllowanceSpec)

/-- ITS FALSE NEIGHBOUR: 'it returns false'. Refute it at one input. -/
def lawS3248CAllowanceWrong : ChangeSpec := { name := "lawS3248CAllowance", fn := fun _ => fun
  | [d1, d2, d3] => { results := [.lit (.bool false)], args := [d1, d2, d3] }
  | _ => none }
def LawS3248CAllowanceWrongFalsely : Prop := lawS3248CAllowanceRow.holds Yba.pinned (OpenSpec.ofChange lawS3248CAllowanceWrong)

end Rows
end Go.Proofs.Ybulkbofy
