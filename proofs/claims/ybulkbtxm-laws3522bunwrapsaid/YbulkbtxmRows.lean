/-
  No cell of these rows narrows 'for every input' (looked for: loops, veiled, ifaces, maps, wideKeys, modest, calm, conditions, laid).
  DERIVED. THE GIVEN ROWS OF THIS SEAT. 2 by the template 'for every input the law returns true; each argument reads behind the call as it read before'; 0 by the template 'total and deterministic' (their statements: YbulkbtxmTotals.lean).
  GIVEN WITH THE SEED: the statements are not yours to turn. If you find one false, say at which input.
  Laid BY PROGRAM, IN A SANDBOX (cutbox-rows.mjs): the forced cells as the released guide's own fill.sh prints them over the translation cff86b9046ac796e… (all of the seat's roots in one cut). By AI agents, Wed Nov 11 2026. No macro, syntax, notation, axiom, sorry.
-/
import Derived.Test.YbulkbtxmChecked
import GoSem.Claim
import GoSem.ClaimJoined
import GoSem.ClaimMapViews
import Derived.JoinedTies
import Derived.KernelRfl
namespace Go.Proofs.Ybulkbtxm
/- THE CELL 'sum', in the pinned program and in every row, IS THE sha256 OF THE DUMP (.gsa) THAT YbulkbtxmProg.lean LOADS. Nothing in Lean hashes anything: it is a label: what it is worth is what the hold of that sum in a sandbox is worth. -/
noncomputable def Yba.pinned : Pinned := { name := "ybulkbtxm", sum := "cff86b9046ac796ed6fe2d6a79b9f1565eac4d51c3cab233df84df89f2778df3", checked := Yba.checked }
namespace Rows
def none {H : Type} : Left H := { results := [], args := [] }

/-- 'description.LawS3522BText': WHATEVER THE INPUT: true; the input reads as it did. -/
def lawS3522BTextSpec : ChangeSpec := { name := "lawS3522BText", fn := fun _ => fun
  | [d1, d2, d3] => { results := [.lit (.bool true)], args := [d1, d2, d3] }
  | _ => none }
def lawS3522BTextRow : OpenClaim := { program := "ybulkbtxm", sum := "cff86b9046ac796ed6fe2d6a79b9f1565eac4d51c3cab233df84df89f2778df3", func := "example.com/dovetail/dovetail/internal/description.LawS3522BText", spec := "lawS3522BText", unfollowed := true, recurses := true, apart := false }
def LawS3522BTextSaid : Prop := lawS3522BTextRow.holds Yba.pinned (OpenSpec.ofChange lawS3522BTextSpec)

/-- ITS FALSE NEIGHBOUR: 'it returns false'. Refute it at one input. -/
def lawS3522BTextWrong : ChangeSpec := { name := "lawS3522BText", fn := fun _ => fun
  | [d1, d2, d3] => { results := [.lit (.bool false)], args := [d1, d2, d3] }
  | _ => none }
def LawS3522BTextWrongFalsely : Prop := lawS3522BTextRow.holds Yba.pinned (OpenSpec.ofChange lawS3522BTextWrong)

/-- 'description.LawS3522BUnwrap': WHATEVER THE INPUT: true; the input reads as it did. -/
def lawS3522BUnwrapSpec : ChangeSpec := { name := "lawS3522BUnwrap", fn := fun _ => fun
  | [d1, d2, d3] => { results := [.lit (.bool true)], args := [d1, d2, d3] }
  | _ => none }
def lawS3522BUnwrapRow : OpenClaim := { program := "ybulkbtxm", sum := "cff86b9046ac796ed6fe2d6a79b9f1565eac4d51c3cab233df84df89f2778df3", func := "example.com/dovetail/dovetail/internal/description.LawS3522BUnwrap", spec := "lawS3522BUnwrap", unfollowed := true, recurses := true, apart := false }
def LawS3522BUnwrapSaid : Prop := lawS3522BUnwrapRow.holds Yba.pinned (OpenSpec.ofChange lawS3522BUnwrapSpec)

/-- ITS FALSE NEIGHBOUR: 'it returns false'. Refute it at one input. -/
def lawS3522BUnwrapWrong : ChangeSpec := { name := "lawS3522BUnwrap", fn := fun _ => fun
  | [d1, d2, d3] => { results := [.lit (.bool false)], args := [d1, d2, d3] }
  | _ => none }
def LawS3522BUnwrapWrongFalsely : Prop := lawS3522BUnwrapRow.holds Yba.pinned (OpenSpec.ofChange lawS3522BUnwrapWrong)

end Rows
end Go.Proofs.Ybulkbtxm
