/-
  No cell of these rows narrows 'for every input' (looked for: loops, veiled, ifaces, maps, wideKeys, modest, calm, conditions, laid).
  DERIVED. THE GIVEN ROWS OF THIS SEAT. 5 by the template 'for every input the law returns true; each argument reads behind the call as it read before'; 0 by the template 'total and deterministic' (their statements: YbulkbojsTotals.lean).
  GIVEN WITH THE SEED: the statements are not yours to turn. If you find one false, say at which input.
  Laid BY PROGRAM, IN A SANDBOX (cutbox-rows.mjs): the forced cells as the released guide's own fill.sh prints them over the translation 5decba63148456ab… (all of the seat's roots in one cut). By AI agents, Wed Nov 11 2026. No macro, syntax, notation, axiom, sorry.
-/
import Derived.Test.YbulkbojsChecked
import GoSem.Claim
import GoSem.ClaimJoined
import GoSem.ClaimMapViews
import Derived.JoinedTies
import Derived.KernelRfl
namespace Go.Proofs.Ybulkbojs
/- THE CELL 'sum', in the pinned program and in every row, IS THE sha256 OF THE DUMP (.gsa) THAT YbulkbojsProg.lean LOADS. Nothing in Lean hashes anything: it is a label: what it is worth is what the hold of that sum in a sandbox is worth. -/
noncomputable def Yba.pinned : Pinned := { name := "ybulkbojs", sum := "5decba63148456ab7a54842b519b0511cf6c8d341bff2128135d6fa0bdd4324e", checked := Yba.checked }
namespace Rows
def none {H : Type} : Left H := { results := [], args := [] }

/-- 'tracelode.LawS3255ACloseResult': WHATEVER THE INPUT: true; the input reads as it did. -/
def lawS3255ACloseResultSpec : ChangeSpec := { name := "lawS3255ACloseResult", fn := fun _ => fun
  | [d1, d2, d3, d4, d5] => { results := [.lit (.bool true)], args := [d1, d2, d3, d4, d5] }
  | _ => none }
def lawS3255ACloseResultRow : OpenClaim := { program := "ybulkbojs", sum := "5decba63148456ab7a54842b519b0511cf6c8d341bff2128135d6fa0bdd4324e", func := "example.com/tracelode/tracelode.LawS3255ACloseResult", spec := "lawS3255ACloseResult", unfollowed := true, recurses := true, apart := false }
def LawS3255ACloseResultSaid : Prop := lawS3255ACloseResultRow.holds Yba.pinned (OpenSpec.ofChange lawS3255ACloseResultSpec)

/-- ITS FALSE NEIGHBOUR: 'it returns false'. Refute it at one input. -/
def lawS3255ACloseResultWrong : ChangeSpec := { name := "lawS3255ACloseResult", fn := fun _ => fun
  | [d1, d2, d3, d4, d5] => { results := [.lit (.bool false)], args := [d1, d2, d3, d4, d5] }
  | _ => none }
def LawS3255ACloseResultWrongFalsely : Prop := lawS3255ACloseResultRow.holds Yba.pinned (OpenSpec.ofChange lawS3255ACloseResultWrong)

/-- 'tracelode.LawS3255ACloseRepeat': WHATEVER THE INPUT: true; the input reads as it did. -/
def lawS3255ACloseRepeatSpec : ChangeSpec := { name := "lawS3255ACloseRepeat", fn := fun _ => fun
  | [d1, d2] => { results := [.lit (.bool true)], args := [d1, d2] }
  | _ => none }
def lawS3255ACloseRepeatRow : OpenClaim := { program := "ybulkbojs", sum := "5decba63148456ab7a54842b519b0511cf6c8d341bff2128135d6fa0bdd4324e", func := "example.com/tracelode/tracelode.LawS3255ACloseRepeat", spec := "lawS3255ACloseRepeat", unfollowed := true, recurses := true, apart := false }
def LawS3255ACloseRepeatSaid : Prop := lawS3255ACloseRepeatRow.holds Yba.pinned (OpenSpec.ofChange lawS3255ACloseRepeatSpec)

/-- ITS FALSE NEIGHBOUR: 'it returns false'. Refute it at one input. -/
def lawS3255ACloseRepeatWrong : ChangeSpec := { name := "lawS3255ACloseRepeat", fn := fun _ => fun
  | [d1, d2] => { results := [.lit (.bool false)], args := [d1, d2] }
  | _ => none }
def LawS3255ACloseRepeatWrongFalsely : Prop := lawS3255ACloseRepeatRow.holds Yba.pinned (OpenSpec.ofChange lawS3255ACloseRepeatWrong)

/-- 'tracelode.LawS3255BDecode': WHATEVER THE INPUT: true; the input reads as it did. -/
def lawS3255BDecodeSpec : ChangeSpec := { name := "lawS3255BDecode", fn := fun _ => fun
  | [d1, d2, d3, d4, d5, d6] => { results := [.lit (.bool true)], args := [d1, d2, d3, d4, d5, d6] }
  | _ => none }
def lawS3255BDecodeRow : OpenClaim := { program := "ybulkbojs", sum := "5decba63148456ab7a54842b519b0511cf6c8d341bff2128135d6fa0bdd4324e", func := "example.com/tracelode/tracelode.LawS3255BDecode", spec := "lawS3255BDecode", named := ["encoding/binary.LittleEndian"], apart := false }
def LawS3255BDecodeSaid : Prop := lawS3255BDecodeRow.holds Yba.pinned (OpenSpec.ofChange lawS3255BDecodeSpec)

/-- ITS FALSE NEIGHBOUR: 'it returns false'. Refute it at one input. -/
def lawS3255BDecodeWrong : ChangeSpec := { name := "lawS3255BDecode", fn := fun _ => fun
  | [d1, d2, d3, d4, d5, d6] => { results := [.lit (.bool false)], args := [d1, d2, d3, d4, d5, d6] }
  | _ => none }
def LawS3255BDecodeWrongFalsely : Prop := lawS3255BDecodeRow.holds Yba.pinned (OpenSpec.ofChange lawS3255BDecodeWrong)

/-- 'tracelode.LawS3255CExact': WHATEVER THE INPUT: true; the input reads as it did. -/
def lawS3255CExactSpec : ChangeSpec := { name := "lawS3255CExact", fn := fun _ => fun
  | [d1, d2] => { results := [.lit (.bool true)], args := [d1, d2] }
  | _ => none }
def lawS3255CExactRow : OpenClaim := { program := "ybulkbojs", sum := "5decba63148456ab7a54842b519b0511cf6c8d341bff2128135d6fa0bdd4324e", func := "example.com/tracelode/tracelode.LawS3255CExact", spec := "lawS3255CExact", named := ["math/bits.divideError", "math/bits.overflowError"], apart := false }
def LawS3255CExactSaid : Prop := lawS3255CExactRow.holds Yba.pinned (OpenSpec.ofChange lawS3255CExactSpec)

/-- ITS FALSE NEIGHBOUR: 'it returns false'. Refute it at one input. -/
def lawS3255CExactWrong : ChangeSpec := { name := "lawS3255CExact", fn := fun _ => fun
  | [d1, d2] => { results := [.lit (.bool false)], args := [d1, d2] }
  | _ => none }
def LawS3255CExactWrongFalsely : Prop := lawS3255CExactRow.holds Yba.pinned (OpenSpec.ofChange lawS3255CExactWrong)

/-- 'tracelode.LawS3255CAtStart': WHATEVER THE INPUT: true; the input reads as it did. -/
def lawS3255CAtStartSpec : ChangeSpec := { name := "lawS3255CAtStart", fn := fun _ => fun
  | [d] => { results := [.lit (.bool true)], args := [d] }
  | _ => none }
def lawS3255CAtStartRow : OpenClaim := { program := "ybulkbojs", sum := "5decba63148456ab7a54842b519b0511cf6c8d341bff2128135d6fa0bdd4324e", func := "example.com/tracelode/tracelode.LawS3255CAtStart", spec := "lawS3255CAtStart", named := ["math/bits.divideError", "math/bits.overflowError"], apart := false }
def LawS3255CAtStartSaid : Prop := lawS3255CAtStartRow.holds Yba.pinned (OpenSpec.ofChange lawS3255CAtStartSpec)

/-- ITS FALSE NEIGHBOUR: 'it returns false'. Refute it at one input. -/
def lawS3255CAtStartWrong : ChangeSpec := { name := "lawS3255CAtStart", fn := fun _ => fun
  | [d] => { results := [.lit (.bool false)], args := [d] }
  | _ => none }
def LawS3255CAtStartWrongFalsely : Prop := lawS3255CAtStartRow.holds Yba.pinned (OpenSpec.ofChange lawS3255CAtStartWrong)

end Rows
end Go.Proofs.Ybulkbojs
