/-
  No cell of these rows narrows 'for every input' (looked for: loops, veiled, ifaces, maps, wideKeys, modest, calm, conditions, laid).
  DERIVED. THE GIVEN ROWS OF THIS SEAT. 3 by the template 'for every input the law returns true; each argument reads behind the call as it read before'; 0 by the template 'total and deterministic' (their statements: YbulknwsFmtTotals.lean).
  GIVEN WITH THE SEED: the statements are not yours to turn. If you find one false, say at which input.
  Laid BY PROGRAM, IN A SANDBOX (cutbox-rows.mjs): the forced cells as the released guide's own fill.sh prints them over the translation f19720b60ca46621… (all of the seat's roots in one cut). By AI agents, Wed Nov 11 2026. No macro, syntax, notation, axiom, sorry.
-/
import Derived.Test.YbulknwsFmtChecked
import GoSem.Claim
import GoSem.ClaimJoined
import GoSem.ClaimMapViews
import Derived.JoinedTies
import Derived.KernelRfl
namespace Go.Proofs.YbulknwsFmt
/- THE CELL 'sum', in the pinned program and in every row, IS THE sha256 OF THE DUMP (.gsa) THAT YbulknwsFmtProg.lean LOADS. Nothing in Lean hashes anything: it is a label: what it is worth is what the hold of that sum in a sandbox is worth. -/
noncomputable def Ybaf.pinned : Pinned := { name := "ybulknwsfmt", sum := "f19720b60ca466217278e0036ff09184ae47971f10b7ad4814a557ba8008d33f", checked := Ybaf.checked }
namespace Rows
def none {H : Type} : Left H := { results := [], args := [] }

/-- 'keyshroud.LawS0720CRoundTrip': WHATEVER THE INPUT: true; the input reads as it did. -/
def lawS0720CRoundTripSpec : ChangeSpec := { name := "lawS0720CRoundTrip", fn := fun _ => fun
  | [d] => { results := [.lit (.bool true)], args := [d] }
  | _ => none }
def lawS0720CRoundTripRow : OpenClaim := { program := "ybulknwsfmt", sum := "f19720b60ca466217278e0036ff09184ae47971f10b7ad4814a557ba8008d33f", func := "example.com/keyshroud/keyshroud.LawS0720CRoundTrip", spec := "lawS0720CRoundTrip", stops := ["fmt.Sprintf"], inPlace := ["internal/bytealg.Compare", "fmt.Sprintf"], apart := false }
/-- NO THEOREM (fmt's text is open here; it may be false): for the released tool's asking of the row's closed facts alone. THE STATEMENT IS 'LawS0720CRoundTripToldSaid' (YbulknwsFmtCards.lean). -/
def LawS0720CRoundTripFormAsk : Prop := lawS0720CRoundTripRow.holds Ybaf.pinned (OpenSpec.ofChange lawS0720CRoundTripSpec)

/-- ITS FALSE NEIGHBOUR: 'it returns false'. Refute it at one input. -/
def lawS0720CRoundTripWrong : ChangeSpec := { name := "lawS0720CRoundTrip", fn := fun _ => fun
  | [d] => { results := [.lit (.bool false)], args := [d] }
  | _ => none }
def LawS0720CRoundTripWrongFormAsk : Prop := lawS0720CRoundTripRow.holds Ybaf.pinned (OpenSpec.ofChange lawS0720CRoundTripWrong)

/-- 'keyshroud.LawS0720CChain': WHATEVER THE INPUT: true; the input reads as it did. -/
def lawS0720CChainSpec : ChangeSpec := { name := "lawS0720CChain", fn := fun _ => fun
  | [d] => { results := [.lit (.bool true)], args := [d] }
  | _ => none }
def lawS0720CChainRow : OpenClaim := { program := "ybulknwsfmt", sum := "f19720b60ca466217278e0036ff09184ae47971f10b7ad4814a557ba8008d33f", func := "example.com/keyshroud/keyshroud.LawS0720CChain", spec := "lawS0720CChain", stops := ["fmt.Sprintf"], inPlace := ["fmt.Sprintf", "internal/bytealg.Compare"], apart := false }
/-- NO THEOREM (fmt's text is open here; it may be false): for the released tool's asking of the row's closed facts alone. THE STATEMENT IS 'LawS0720CChainToldSaid' (YbulknwsFmtCards.lean). -/
def LawS0720CChainFormAsk : Prop := lawS0720CChainRow.holds Ybaf.pinned (OpenSpec.ofChange lawS0720CChainSpec)

/-- ITS FALSE NEIGHBOUR: 'it returns false'. Refute it at one input. -/
def lawS0720CChainWrong : ChangeSpec := { name := "lawS0720CChain", fn := fun _ => fun
  | [d] => { results := [.lit (.bool false)], args := [d] }
  | _ => none }
def LawS0720CChainWrongFormAsk : Prop := lawS0720CChainRow.holds Ybaf.pinned (OpenSpec.ofChange lawS0720CChainWrong)

/-- 'keyshroud.LawS0720CRawOrdered': WHATEVER THE INPUT: true; the input reads as it did. -/
def lawS0720CRawOrderedSpec : ChangeSpec := { name := "lawS0720CRawOrdered", fn := fun _ => fun
  | [d] => { results := [.lit (.bool true)], args := [d] }
  | _ => none }
def lawS0720CRawOrderedRow : OpenClaim := { program := "ybulknwsfmt", sum := "f19720b60ca466217278e0036ff09184ae47971f10b7ad4814a557ba8008d33f", func := "example.com/keyshroud/keyshroud.LawS0720CRawOrdered", spec := "lawS0720CRawOrdered", stops := ["fmt.Sprintf"], inPlace := ["fmt.Sprintf", "internal/bytealg.Compare"], apart := false }
/-- NO THEOREM (fmt's text is open here; it may be false): for the released tool's asking of the row's closed facts alone. THE STATEMENT IS 'LawS0720CRawOrderedToldSaid' (YbulknwsFmtCards.lean). -/
def LawS0720CRawOrderedFormAsk : Prop := lawS0720CRawOrderedRow.holds Ybaf.pinned (OpenSpec.ofChange lawS0720CRawOrderedSpec)

/-- ITS FALSE NEIGHBOUR: 'it returns false'. Refute it at one input. -/
def lawS0720CRawOrderedWrong : ChangeSpec := { name := "lawS0720CRawOrdered", fn := fun _ => fun
  | [d] => { results := [.lit (.bool false)], args := [d] }
  | _ => none }
def LawS0720CRawOrderedWrongFormAsk : Prop := lawS0720CRawOrderedRow.holds Ybaf.pinned (OpenSpec.ofChange lawS0720CRawOrderedWrong)

end Rows
end Go.Proofs.YbulknwsFmt
