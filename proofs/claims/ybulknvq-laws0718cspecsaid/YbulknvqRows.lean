/-
  No cell of these rows narrows 'for every input' (looked for: loops, veiled, ifaces, maps, wideKeys, modest, calm, conditions, laid).
  DERIVED. THE GIVEN ROWS OF THIS SEAT. 2 by the template 'for every input the law returns true; each argument reads behind the call as it read before'; 0 by the template 'total and deterministic' (their statements: YbulknvqTotals.lean).
  GIVEN WITH THE SEED: the statements are not yours to turn. If you find one false, say at which input.
  Laid BY PROGRAM, IN A SANDBOX (cutbox-rows.mjs): the forced cells as the released guide's own fill.sh prints them over the translation bc8c5e1f5c9c8331… (all of the seat's roots in one cut). By AI agents, Wed Nov 11 2026. No macro, syntax, notation, axiom, sorry.
-/
import Derived.Test.YbulknvqChecked
import GoSem.Claim
import GoSem.ClaimJoined
import GoSem.ClaimMapViews
import Derived.JoinedTies
import Derived.KernelRfl
namespace Go.Proofs.Ybulknvq
/- THE CELL 'sum', in the pinned program and in every row, IS THE sha256 OF THE DUMP (.gsa) THAT YbulknvqProg.lean LOADS. Nothing in Lean hashes anything: it is a label: what it is worth is what the hold of that sum in a sandbox is worth. -/
noncomputable def Yba.pinned : Pinned := { name := "ybulknvq", sum := "bc8c5e1f5c9c8331fa95bdae8fde82b1e7607da52f5b58c8f02ddd2ca63553cd", checked := Yba.checked }
namespace Rows
def none {H : Type} : Left H := { results := [], args := [] }

/-- 'alloc.LawS0718CSpec': WHATEVER THE INPUT: true; the input reads as it did. -/
def lawS0718CSpecSpec : ChangeSpec := { name := "lawS0718CSpec", fn := fun _ => fun
  | [d] => { results := [.lit (.bool true)], args := [d] }
  | _ => none }
def lawS0718CSpecRow : OpenClaim := { program := "ybulknvq", sum := "bc8c5e1f5c9c8331fa95bdae8fde82b1e7607da52f5b58c8f02ddd2ca63553cd", func := "example.com/conclave/conclave/internal/alloc.LawS0718CSpec", spec := "lawS0718CSpec", apart := false }
def LawS0718CSpecSaid : Prop := lawS0718CSpecRow.holds Yba.pinned (OpenSpec.ofChange lawS0718CSpecSpec)

/-- ITS FALSE NEIGHBOUR: 'it returns false'. Refute it at one input. -/
def lawS0718CSpecWrong : ChangeSpec := { name := "lawS0718CSpec", fn := fun _ => fun
  | [d] => { results := [.lit (.bool false)], args := [d] }
  | _ => none }
def LawS0718CSpecWrongFalsely : Prop := lawS0718CSpecRow.holds Yba.pinned (OpenSpec.ofChange lawS0718CSpecWrong)

/-- 'alloc.LawS0718COrder': WHATEVER THE INPUT: true; the input reads as it did. -/
def lawS0718COrderSpec : ChangeSpec := { name := "lawS0718COrder", fn := fun _ => fun
  | [d1, d2] => { results := [.lit (.bool true)], args := [d1, d2] }
  | _ => none }
def lawS0718COrderRow : OpenClaim := { program := "ybulknvq", sum := "bc8c5e1f5c9c8331fa95bdae8fde82b1e7607da52f5b58c8f02ddd2ca63553cd", func := "example.com/conclave/conclave/internal/alloc.LawS0718COrder", spec := "lawS0718COrder", apart := false }
def LawS0718COrderSaid : Prop := lawS0718COrderRow.holds Yba.pinned (OpenSpec.ofChange lawS0718COrderSpec)

/-- ITS FALSE NEIGHBOUR: 'it returns false'. Refute it at one input. -/
def lawS0718COrderWrong : ChangeSpec := { name := "lawS0718COrder", fn := fun _ => fun
  | [d1, d2] => { results := [.lit (.bool false)], args := [d1, d2] }
  | _ => none }
def LawS0718COrderWrongFalsely : Prop := lawS0718COrderRow.holds Yba.pinned (OpenSpec.ofChange lawS0718COrderWrong)

end Rows
end Go.Proofs.Ybulknvq
