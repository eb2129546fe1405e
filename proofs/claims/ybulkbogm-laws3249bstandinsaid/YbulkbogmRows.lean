/-
  No cell of these rows narrows 'for every input' (looked for: loops, veiled, ifaces, maps, wideKeys, modest, calm, conditions, laid).
  DERIVED. THE GIVEN ROWS OF THIS SEAT. 2 by the template 'for every input the law returns true; each argument reads behind the call as it read before'; 0 by the template 'total and deterministic' (their statements: YbulkbogmTotals.lean).
  GIVEN WITH THE SEED: the statements are not yours to turn. If you find one false, say at which input.
  Laid BY PROGRAM, IN A SANDBOX (cutbox-rows.mjs): the forced cells as the released guide's own fill.sh prints them over the translation 35ccd3b49887d717… (all of the seat's roots in one cut). By AI agents, Wed Nov 11 2026. No macro, syntax, notation, axiom, sorry.
-/
import Derived.Test.YbulkbogmChecked
import GoSem.Claim
import GoSem.ClaimJoined
import GoSem.ClaimMapViews
import Derived.JoinedTies
import Derived.KernelRfl
namespace Go.Proofs.Ybulkbogm
/- THE CELL 'sum', in the pinned program and in every row, IS THE sha256 OF THE DUMP (.gsa) THAT YbulkbogmProg.lean LOADS. Nothing in Lean hashes anything: it is a label: what it is worth is what the hold of that sum in a sandbox is worth. -/
noncomputable def Yba.pinned : Pinned := { name := "ybulkbogm", sum := "35ccd3b49887d71772f35f489f26155dd140803ed16279d891934724c961c51e", checked := Yba.checked }
namespace Rows
def none {H : Type} : Left H := { results := [], args := [] }

/-- 'asset.LawS3249BStandIn': WHATEVER THE INPUT: true; the input reads as it did. -/
def lawS3249BStandInSpec : ChangeSpec := { name := "lawS3249BStandIn", fn := fun _ => fun
  | [d] => { results := [.lit (.bool true)], args := [d] }
  | _ => none }
def lawS3249BStandInRow : OpenClaim := { program := "ybulkbogm", sum := "35ccd3b49887d71772f35f489f26155dd140803ed16279d891934724c961c51e", func := "example.com/assetwire/assetwire/asset.LawS3249BStandIn", spec := "lawS3249BStandIn", unfollowed := true, recurses := true, apart := false }
def LawS3249BStandInSaid : Prop := lawS3249BStandInRow.holds Yba.pinned (OpenSpec.ofChange lawS3249BStandInSpec)

/-- ITS FALSE NEIGHBOUR: 'it returns false'. Refute it at one input. -/
def lawS3249BStandInWrong : ChangeSpec := { name := "lawS3249BStandIn", fn := fun _ => fun
  | [d] => { results := [.lit (.bool false)], args := [d] }
  | _ => none }
def LawS3249BStandInWrongFalsely : Prop := lawS3249BStandInRow.holds Yba.pinned (OpenSpec.ofChange lawS3249BStandInWrong)

/-- 'asset.LawS3249BSha': WHATEVER THE INPUT: true; the input reads as it did. -/
def lawS3249BShaSpec : ChangeSpec := { name := "lawS3249BSha", fn := fun _ => fun
  | [d] => { results := [.lit (.bool true)], args := [d] }
  | _ => none }
def lawS3249BShaRow : OpenClaim := { program := "ybulkbogm", sum := "35ccd3b49887d71772f35f489f26155dd140803ed16279d891934724c961c51e", func := "example.com/assetwire/assetwire/asset.LawS3249BSha", spec := "lawS3249BSha", unfollowed := true, recurses := true, apart := false }
def LawS3249BShaSaid : Prop := lawS3249BShaRow.holds Yba.pinned (OpenSpec.ofChange lawS3249BShaSpec)

/-- ITS FALSE NEIGHBOUR: 'it returns false'. Refute it at one input. -/
def lawS3249BShaWrong : ChangeSpec := { name := "lawS3249BSha", fn := fun _ => fun
  | [d] => { results := [.lit (.bool false)], args := [d] }
  | _ => none }
def LawS3249BShaWrongFalsely : Prop := lawS3249BShaRow.holds Yba.pinned (OpenSpec.ofChange lawS3249BShaWrong)

end Rows
end Go.Proofs.Ybulkbogm
