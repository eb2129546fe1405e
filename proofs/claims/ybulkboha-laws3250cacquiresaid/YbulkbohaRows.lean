/-
  No cell of these rows narrows 'for every input' (looked for: loops, veiled, ifaces, maps, wideKeys, modest, calm, conditions, laid).
  DERIVED. THE GIVEN ROWS OF THIS SEAT. 3 by the template 'for every input the law returns true; each argument reads behind the call as it read before'; 0 by the template 'total and deterministic' (their statements: YbulkbohaTotals.lean).
  GIVEN WITH THE SEED: the statements are not yours to turn. If you find one false, say at which input.
  Laid BY PROGRAM, IN A SANDBOX (cutbox-rows.mjs): the forced cells as the released guide's own fill.sh prints them over the translation 2cf87453f0a73a51… (all of the seat's roots in one cut). By AI agents, Wed Nov 11 2026. No macro, syntax, notation, axiom, sorry.
-/
import Derived.Test.YbulkbohaChecked
import GoSem.Claim
import GoSem.ClaimJoined
import GoSem.ClaimMapViews
import Derived.JoinedTies
import Derived.KernelRfl
namespace Go.Proofs.Ybulkboha
/- THE CELL 'sum', in the pinned program and in every row, IS THE sha256 OF THE DUMP (.gsa) THAT YbulkbohaProg.lean LOADS. Nothing in Lean hashes anything: it is a label: what it is worth is what the hold of that sum in a sandbox is worth. -/
noncomputable def Yba.pinned : Pinned := { name := "ybulkboha", sum := "2cf87453f0a73a515ca4f0e2788741563e86d153a16dac0a35e187b9daa0ee34", checked := Yba.checked }
namespace Rows
def none {H : Type} : Left H := { results := [], args := [] }

/-- 'sim.LawS3250BHeapSort': WHATEVER THE INPUT: true; the input reads as it did. -/
def lawS3250BHeapSortSpec : ChangeSpec := { name := "lawS3250BHeapSort", fn := fun _ => fun
  | [d] => { results := [.lit (.bool true)], args := [d] }
  | _ => none }
def lawS3250BHeapSortRow : OpenClaim := { program := "ybulkboha", sum := "2cf87453f0a73a515ca4f0e2788741563e86d153a16dac0a35e187b9daa0ee34", func := "example.com/lendmark/lendmark/internal/sim.LawS3250BHeapSort", spec := "lawS3250BHeapSort", plainKeys := false, apart := false }
def LawS3250BHeapSortSaid : Prop := lawS3250BHeapSortRow.holds Yba.pinned (OpenSpec.ofChange lawS3250BHeapSortSpec)

/-- ITS FALSE NEIGHBOUR: 'it returns false'. Refute it at one input. -/
def lawS3250BHeapSortWrong : ChangeSpec := { name := "lawS3250BHeapSort", fn := fun _ => fun
  | [d] => { results := [.lit (.bool false)], args := [d] }
  | _ => none }
def LawS3250BHeapSortWrongFalsely : Prop := lawS3250BHeapSortRow.holds Yba.pinned (OpenSpec.ofChange lawS3250BHeapSortWrong)

/-- 'sim.LawS3250BReplaceTop': WHATEVER THE INPUT: true; the input reads as it did. -/
def lawS3250BReplaceTopSpec : ChangeSpec := { name := "lawS3250BReplaceTop", fn := fun _ => fun
  | [d1, d2] => { results := [.lit (.bool true)], args := [d1, d2] }
  | _ => none }
def lawS3250BReplaceTopRow : OpenClaim := { program := "ybulkboha", sum := "2cf87453f0a73a515ca4f0e2788741563e86d153a16dac0a35e187b9daa0ee34", func := "example.com/lendmark/lendmark/internal/sim.LawS3250BReplaceTop", spec := "lawS3250BReplaceTop", plainKeys := false, apart := false }
def LawS3250BReplaceTopSaid : Prop := lawS3250BReplaceTopRow.holds Yba.pinned (OpenSpec.ofChange lawS3250BReplaceTopSpec)

/-- ITS FALSE NEIGHBOUR: 'it returns false'. Refute it at one input. -/
def lawS3250BReplaceTopWrong : ChangeSpec := { name := "lawS3250BReplaceTop", fn := fun _ => fun
  | [d1, d2] => { results := [.lit (.bool false)], args := [d1, d2] }
  | _ => none }
def LawS3250BReplaceTopWrongFalsely : Prop := lawS3250BReplaceTopRow.holds Yba.pinned (OpenSpec.ofChange lawS3250BReplaceTopWrong)

/-- 'commit.LawS3250CAcquire': WHATEVER THE INPUT: true; the input reads as it did. -/
def lawS3250CAcquireSpec : ChangeSpec := { name := "lawS3250CAcquire", fn := fun _ => fun
  | [d1, d2, d3, d4, d5, d6] => { results := [.lit (.bool true)], args := [d1, d2, d3, d4, d5, d6] }
  | _ => none }
def lawS3250CAcquireRow : OpenClaim := { program := "ybulkboha", sum := "2cf87453f0a73a515ca4f0e2788741563e86d153a16dac0a35e187b9daa0ee34", func := "example.com/lendmark/lendmark/internal/commit.LawS3250CAcquire", spec := "lawS3250CAcquire", inPlace := ["slices.overlaps[example.com/lendmark/lendmark/internal/commit.lockRequest]"], unfollowed := true, recurses := true, plainKeys := false, apart := false }
def LawS3250CAcquireSaid : Prop := lawS3250CAcquireRow.holds Yba.pinned (OpenSpec.ofChange lawS3250CAcquireSpec)

/-- ITS FALSE NEIGHBOUR: 'it returns false'. Refute it at one input. -/
def lawS3250CAcquireWrong : ChangeSpec := { name := "lawS3250CAcquire", fn := fun _ => fun
  | [d1, d2, d3, d4, d5, d6] => { results := [.lit (.bool false)], args := [d1, d2, d3, d4, d5, d6] }
  | _ => none }
def LawS3250CAcquireWrongFalsely : Prop := lawS3250CAcquireRow.holds Yba.pinned (OpenSpec.ofChange lawS3250CAcquireWrong)

end Rows
end Go.Proofs.Ybulkboha
