/-
  DERIVED. GIVEN WITH THE SEED: THE CARDS: each row of YbulknwsFmtRows.lean that lists a variable, with what it lists TIED to the program's text (the seventh form; the later family's looks); each row that meets fmt, with fmt's text TOLD by the authors' own Lean function (tested against real Go, not proved from fmt's source: count such statements apart). THE CARD IS WHAT COUNTS. Prove the row's statement (the work); the ties are given (YbulknwsFmtTie.lean); close each card by the builder's one call (the guide's Derived/Test/ToyasCard.lean, 'card_holds'). Laid BY PROGRAM, IN A SANDBOX (cutbox-door.mjs). By AI agents, Wed Nov 11 2026. No macro, syntax, notation, axiom, sorry.
-/
import Derived.Test.YbulknwsFmtRows
import GoSem.ClaimSeven
namespace Go.Proofs.YbulknwsFmt
namespace Rows

/-- THE TOLD CARD OF 'keyshroud.LawS0720CRoundTrip'. -/
def lawS0720CRoundTripCard : Claim7 := { stood := { row := lawS0720CRoundTripRow, standIns := [], harness := (true, "076b548a4de476d3c08e0830d4490352c20b3ba070bd7e1de125444a84e6bc77"), looks := false }, told := true, goes := false }
def LawS0720CRoundTripToldSaid : Prop := Claim7.holds Ybaf.pinned (.plain (OpenSpec.ofChange lawS0720CRoundTripSpec)) lawS0720CRoundTripCard
/-- ITS FALSE NEIGHBOUR. Refute it at one input. -/
def LawS0720CRoundTripToldWrongFalsely : Prop := Claim7.holds Ybaf.pinned (.plain (OpenSpec.ofChange lawS0720CRoundTripWrong)) lawS0720CRoundTripCard

/-- THE TOLD CARD OF 'keyshroud.LawS0720CChain'. -/
def lawS0720CChainCard : Claim7 := { stood := { row := lawS0720CChainRow, standIns := [], harness := (true, "076b548a4de476d3c08e0830d4490352c20b3ba070bd7e1de125444a84e6bc77"), looks := false }, told := true, goes := false }
def LawS0720CChainToldSaid : Prop := Claim7.holds Ybaf.pinned (.plain (OpenSpec.ofChange lawS0720CChainSpec)) lawS0720CChainCard
/-- ITS FALSE NEIGHBOUR. Refute it at one input. -/
def LawS0720CChainToldWrongFalsely : Prop := Claim7.holds Ybaf.pinned (.plain (OpenSpec.ofChange lawS0720CChainWrong)) lawS0720CChainCard

/-- THE TOLD CARD OF 'keyshroud.LawS0720CRawOrdered'. -/
def lawS0720CRawOrderedCard : Claim7 := { stood := { row := lawS0720CRawOrderedRow, standIns := [], harness := (true, "076b548a4de476d3c08e0830d4490352c20b3ba070bd7e1de125444a84e6bc77"), looks := false }, told := true, goes := false }
def LawS0720CRawOrderedToldSaid : Prop := Claim7.holds Ybaf.pinned (.plain (OpenSpec.ofChange lawS0720CRawOrderedSpec)) lawS0720CRawOrderedCard
/-- ITS FALSE NEIGHBOUR. Refute it at one input. -/
def LawS0720CRawOrderedToldWrongFalsely : Prop := Claim7.holds Ybaf.pinned (.plain (OpenSpec.ofChange lawS0720CRawOrderedWrong)) lawS0720CRawOrderedCard
end Rows
end Go.Proofs.YbulknwsFmt
