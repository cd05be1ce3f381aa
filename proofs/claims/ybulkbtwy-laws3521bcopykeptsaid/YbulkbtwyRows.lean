/-
  No cell of these rows narrows 'for every input' (looked for: loops, veiled, ifaces, maps, wideKeys, modest, calm, conditions, laid).
  DERIVED. THE GIVEN ROWS OF THIS SEAT. 4 by the template 'for every input the law returns true; each argument reads behind the call as it read before'; 0 by the template 'total and deterministic' (their statements: YbulkbtwyTotals.lean).
  GIVEN WITH THE SEED: the statements are not yours to turn. If you find one false, say at which input.
  Laid BY PROGRAM, IN A SANDBOX (cutbox-rows.mjs): the forced cells as the released guide's own fill.sh prints them over the translation 6e395ae2a645e726… (all of the seat's roots in one cut). By AI agents, Wed Nov 11 2026. No macro, syntax, notation, axiom, sorry.
-/
import Derived.Test.YbulkbtwyChecked
import GoSem.Claim
import GoSem.ClaimJoined
import GoSem.ClaimMapViews
import Derived.JoinedTies
import Derived.KernelRfl
namespace Go.Proofs.Ybulkbtwy
/- THE CELL 'sum', in the pinned program and in every row, IS THE sha256 OF THE DUMP (.gsa) THAT YbulkbtwyProg.lean LOADS. Nothing in Lean hashes anything: it is a label: what it is worth is what the hold of that sum in a sandbox is worth. -/
noncomputable def Yba.pinned : Pinned := { name := "ybulkbtwy", sum := "6e395ae2a645e726b7f900795fb9245c04d23abafb70f33f5c990b5720198837", checked := Yba.checked }
namespace Rows
def none {H : Type} : Left H := { results := [], args := [] }

/-- 'policy.LawS3521AFirst': WHATEVER THE INPUT: true; the input reads as it did. -/
def lawS3521AFirstSpec : ChangeSpec := { name := "lawS3521AFirst", fn := fun _ => fun
  | [d1, d2] => { results := [.lit (.bool true)], args := [d1, d2] }
  | _ => none }
def lawS3521AFirstRow : OpenClaim := { program := "ybulkbtwy", sum := "6e395ae2a645e726b7f900795fb9245c04d23abafb70f33f5c990b5720198837", func := "example.com/nadzor/nadzor/policy.LawS3521AFirst", spec := "lawS3521AFirst", apart := false }
def LawS3521AFirstSaid : Prop := lawS3521AFirstRow.holds Yba.pinned (OpenSpec.ofChange lawS3521AFirstSpec)

/-- ITS FALSE NEIGHBOUR: 'it returns false'. Refute it at one input. -/
def lawS3521AFirstWrong : ChangeSpec := { name := "lawS3521AFirst", fn := fun _ => fun
  | [d1, d2] => { results := [.lit (.bool false)], args := [d1, d2] }
  | _ => none }
def LawS3521AFirstWrongFalsely : Prop := lawS3521AFirstRow.holds Yba.pinned (OpenSpec.ofChange lawS3521AFirstWrong)

/-- 'policy.LawS3521AScript': WHATEVER THE INPUT: true; the input reads as it did. -/
def lawS3521AScriptSpec : ChangeSpec := { name := "lawS3521AScript", fn := fun _ => fun
  | [d] => { results := [.lit (.bool true)], args := [d] }
  | _ => none }
def lawS3521AScriptRow : OpenClaim := { program := "ybulkbtwy", sum := "6e395ae2a645e726b7f900795fb9245c04d23abafb70f33f5c990b5720198837", func := "example.com/nadzor/nadzor/policy.LawS3521AScript", spec := "lawS3521AScript", apart := false }
def LawS3521AScriptSaid : Prop := lawS3521AScriptRow.holds Yba.pinned (OpenSpec.ofChange lawS3521AScriptSpec)

/-- ITS FALSE NEIGHBOUR: 'it returns false'. Refute it at one input. -/
def lawS3521AScriptWrong : ChangeSpec := { name := "lawS3521AScript", fn := fun _ => fun
  | [d] => { results := [.lit (.bool false)], args := [d] }
  | _ => none }
def LawS3521AScriptWrongFalsely : Prop := lawS3521AScriptRow.holds Yba.pinned (OpenSpec.ofChange lawS3521AScriptWrong)

/-- 'policy.LawS3521BLayout': WHATEVER THE INPUT: true; the input reads as it did. -/
def lawS3521BLayoutSpec : ChangeSpec := { name := "lawS3521BLayout", fn := fun _ => fun
  | [d1, d2] => { results := [.lit (.bool true)], args := [d1, d2] }
  | _ => none }
def lawS3521BLayoutRow : OpenClaim := { program := "ybulkbtwy", sum := "6e395ae2a645e726b7f900795fb9245c04d23abafb70f33f5c990b5720198837", func := "example.com/nadzor/nadzor/policy.LawS3521BLayout", spec := "lawS3521BLayout", apart := false }
def LawS3521BLayoutSaid : Prop := lawS3521BLayoutRow.holds Yba.pinned (OpenSpec.ofChange lawS3521BLayoutSpec)

/-- ITS FALSE NEIGHBOUR: 'it returns false'. Refute it at one input. -/
def lawS3521BLayoutWrong : ChangeSpec := { name := "lawS3521BLayout", fn := fun _ => fun
  | [d1, d2] => { results := [.lit (.bool false)], args := [d1, d2] }
  | _ => none }
def LawS3521BLayoutWrongFalsely : Prop := lawS3521BLayoutRow.holds Yba.pinned (OpenSpec.ofChange lawS3521BLayoutWrong)

/-- 'policy.LawS3521BCopyKept': WHATEVER THE INPUT: true; the input reads as it did. -/
def lawS3521BCopyKeptSpec : ChangeSpec := { name := "lawS3521BCopyKept", fn := fun _ => fun
  | [d1, d2, d3] => { results := [.lit (.bool true)], args := [d1, d2, d3] }
  | _ => none }
def lawS3521BCopyKeptRow : OpenClaim := { program := "ybulkbtwy", sum := "6e395ae2a645e726b7f900795fb9245c04d23abafb70f33f5c990b5720198837", func := "example.com/nadzor/nadzor/policy.LawS3521BCopyKept", spec := "lawS3521BCopyKept", apart := false }
def LawS3521BCopyKeptSaid : Prop := lawS3521BCopyKeptRow.holds Yba.pinned (OpenSpec.ofChange lawS3521BCopyKeptSpec)

/-- ITS FALSE NEIGHBOUR: 'it returns false'. Refute it at one input. -/
def lawS3521BCopyKeptWrong : ChangeSpec := { name := "lawS3521BCopyKept", fn := fun _ => fun
  | [d1, d2, d3] => { results := [.lit (.bool false)], args := [d1, d2, d3] }
  | _ => none }
def LawS3521BCopyKeptWrongFalsely : Prop := lawS3521BCopyKeptRow.holds Yba.pinned (OpenSpec.ofChange lawS3521BCopyKeptWrong)

end Rows
end Go.Proofs.Ybulkbtwy
