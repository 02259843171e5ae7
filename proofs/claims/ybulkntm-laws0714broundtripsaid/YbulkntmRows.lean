/-
  No cell of these rows narrows 'for every input' (looked for: loops, veiled, ifaces, maps, wideKeys, modest, calm, conditions, laid).
  DERIVED. THE GIVEN ROWS OF THIS SEAT. 4 by the template 'for every input the law returns true; each argument reads behind the call as it read before'; 0 by the template 'total and deterministic' (their statements: YbulkntmTotals.lean).
  GIVEN WITH THE SEED: the statements are not yours to turn. If you find one false, say at which input.
  Laid BY PROGRAM, IN A SANDBOX (cutbox-rows.mjs): the forced cells as the released guide's own fill.sh prints them over the translation 117103e8e272eeae… (all of the seat's roots in one cut). By AI agents, Wed Nov 11 2026. No macro, syntax, notation, axiom, sorry.
-/
import Derived.Test.YbulkntmChecked
import GoSem.Claim
import GoSem.ClaimJoined
import GoSem.ClaimMapViews
import Derived.JoinedTies
import Derived.KernelRfl
namespace Go.Proofs.Ybulkntm
/- THE CELL 'sum', in the pinned program and in every row, IS THE sha256 OF THE DUMP (.gsa) THAT YbulkntmProg.lean LOADS. Nothing in Lean hashes anything: it is a label: what it is worth is what the hold of that sum in a sandbox is worth. -/
noncomputable def Yba.pinned : Pinned := { name := "ybulkntm", sum := "117103e8e272eeae196e59ac322d42abe9f74a5f6483a9ee7a9739a0db472b21", checked := Yba.checked }
namespace Rows
def none {H : Type} : Left H := { results := [], args := [] }

/-- 'certwright.LawS0714AExact': WHATEVER THE INPUT: true; the input reads as it did. -/
def lawS0714AExactSpec : ChangeSpec := { name := "lawS0714AExact", fn := fun _ => fun
  | [d1, d2, d3] => { results := [.lit (.bool true)], args := [d1, d2, d3] }
  | _ => none }
def lawS0714AExactRow : OpenClaim := { program := "ybulkntm", sum := "117103e8e272eeae196e59ac322d42abe9f74a5f6483a9ee7a9739a0db472b21", func := "example.com/certwright/certwright.LawS0714AExact", spec := "lawS0714AExact", apart := false }
def LawS0714AExactSaid : Prop := lawS0714AExactRow.holds Yba.pinned (OpenSpec.ofChange lawS0714AExactSpec)

/-- ITS FALSE NEIGHBOUR: 'it returns false'. Refute it at one input. -/
def lawS0714AExactWrong : ChangeSpec := { name := "lawS0714AExact", fn := fun _ => fun
  | [d1, d2, d3] => { results := [.lit (.bool false)], args := [d1, d2, d3] }
  | _ => none }
def LawS0714AExactWrongFalsely : Prop := lawS0714AExactRow.holds Yba.pinned (OpenSpec.ofChange lawS0714AExactWrong)

/-- 'certwright.LawS0714AThirtyTwo': WHATEVER THE INPUT: true; the input reads as it did. -/
def lawS0714AThirtyTwoSpec : ChangeSpec := { name := "lawS0714AThirtyTwo", fn := fun _ => fun
  | [d1, d2] => { results := [.lit (.bool true)], args := [d1, d2] }
  | _ => none }
def lawS0714AThirtyTwoRow : OpenClaim := { program := "ybulkntm", sum := "117103e8e272eeae196e59ac322d42abe9f74a5f6483a9ee7a9739a0db472b21", func := "example.com/certwright/certwright.LawS0714AThirtyTwo", spec := "lawS0714AThirtyTwo", apart := false }
def LawS0714AThirtyTwoSaid : Prop := lawS0714AThirtyTwoRow.holds Yba.pinned (OpenSpec.ofChange lawS0714AThirtyTwoSpec)

/-- ITS FALSE NEIGHBOUR: 'it returns false'. Refute it at one input. -/
def lawS0714AThirtyTwoWrong : ChangeSpec := { name := "lawS0714AThirtyTwo", fn := fun _ => fun
  | [d1, d2] => { results := [.lit (.bool false)], args := [d1, d2] }
  | _ => none }
def LawS0714AThirtyTwoWrongFalsely : Prop := lawS0714AThirtyTwoRow.holds Yba.pinned (OpenSpec.ofChange lawS0714AThirtyTwoWrong)

/-- 'der.LawS0714BModel': WHATEVER THE INPUT: true; the input reads as it did. -/
def lawS0714BModelSpec : ChangeSpec := { name := "lawS0714BModel", fn := fun _ => fun
  | [d] => { results := [.lit (.bool true)], args := [d] }
  | _ => none }
def lawS0714BModelRow : OpenClaim := { program := "ybulkntm", sum := "117103e8e272eeae196e59ac322d42abe9f74a5f6483a9ee7a9739a0db472b21", func := "example.com/certwright/certwright/internal/der.LawS0714BModel", spec := "lawS0714BModel", apart := false }
def LawS0714BModelSaid : Prop := lawS0714BModelRow.holds Yba.pinned (OpenSpec.ofChange lawS0714BModelSpec)

/-- ITS FALSE NEIGHBOUR: 'it returns false'. Refute it at one input. -/
def lawS0714BModelWrong : ChangeSpec := { name := "lawS0714BModel", fn := fun _ => fun
  | [d] => { results := [.lit (.bool false)], args := [d] }
  | _ => none }
def LawS0714BModelWrongFalsely : Prop := lawS0714BModelRow.holds Yba.pinned (OpenSpec.ofChange lawS0714BModelWrong)

/-- 'der.LawS0714BRoundTrip': WHATEVER THE INPUT: true; the input reads as it did. -/
def lawS0714BRoundTripSpec : ChangeSpec := { name := "lawS0714BRoundTrip", fn := fun _ => fun
  | [d] => { results := [.lit (.bool true)], args := [d] }
  | _ => none }
def lawS0714BRoundTripRow : OpenClaim := { program := "ybulkntm", sum := "117103e8e272eeae196e59ac322d42abe9f74a5f6483a9ee7a9739a0db472b21", func := "example.com/certwright/certwright/internal/der.LawS0714BRoundTrip", spec := "lawS0714BRoundTrip", apart := false }
def LawS0714BRoundTripSaid : Prop := lawS0714BRoundTripRow.holds Yba.pinned (OpenSpec.ofChange lawS0714BRoundTripSpec)

/-- ITS FALSE NEIGHBOUR: 'it returns false'. Refute it at one input. -/
def lawS0714BRoundTripWrong : ChangeSpec := { name := "lawS0714BRoundTrip", fn := fun _ => fun
  | [d] => { results := [.lit (.bool false)], args := [d] }
  | _ => none }
def LawS0714BRoundTripWrongFalsely : Prop := lawS0714BRoundTripRow.holds Yba.pinned (OpenSpec.ofChange lawS0714BRoundTripWrong)

end Rows
end Go.Proofs.Ybulkntm
