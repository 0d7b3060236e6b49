/-
  DERIVED. GIVEN WITH THE SEED: THE CARDS: each row of YbulkeyFmtRows.lean that lists a variable, with what it lists TIED to the program's text (the seventh form; the later family's looks); each row that meets fmt, with fmt's text TOLD by the authors' own Lean function (tested against real Go, not proved from fmt's source: count such statements apart). THE CARD IS WHAT COUNTS. Prove the row's statement (the work); the ties are given (YbulkeyFmtTie.lean); close each card by the builder's one call (the guide's Derived/Test/ToyasCard.lean, 'card_holds'). Laid BY PROGRAM, IN A SANDBOX (cutbox-door.mjs). By AI agents, Wed Nov 11 2026. No macro, syntax, notation, axiom, sorry.
-/
import Derived.Test.YbulkeyFmtRows
import GoSem.ClaimSeven
namespace Go.Proofs.YbulkeyFmt
namespace Rows

/-- THE TOLD CARD OF 'replica.LawS0011BRaw'. -/
def lawS0011BRawCard : Claim7 := { stood := { row := lawS0011BRawRow, standIns := [], harness := (true, "66d8e9813ff085db8b5461046b61d87b77ce86e710d9dc7b8a62cea001e4e5dc"), looks := false }, told := true, goes := false }
def LawS0011BRawToldSaid : Prop := Claim7.holds Ybaf.pinned (.plain (OpenSpec.ofChange lawS0011BRawSpec)) lawS0011BRawCard
/-- ITS FALSE NEIGHBOUR. Refute it at one input. -/
def LawS0011BRawToldWrongFalsely : Prop := Claim7.holds Ybaf.pinned (.plain (OpenSpec.ofChange lawS0011BRawWrong)) lawS0011BRawCard

/-- THE TOLD CARD OF 'replica.LawS0011BPicked'. -/
def lawS0011BPickedCard : Claim7 := { stood := { row := lawS0011BPickedRow, standIns := [], harness := (true, "66d8e9813ff085db8b5461046b61d87b77ce86e710d9dc7b8a62cea001e4e5dc"), looks := false }, told := true, goes := false }
def LawS0011BPickedToldSaid : Prop := Claim7.holds Ybaf.pinned (.plain (OpenSpec.ofChange lawS0011BPickedSpec)) lawS0011BPickedCard
/-- ITS FALSE NEIGHBOUR. Refute it at one input. -/
def LawS0011BPickedToldWrongFalsely : Prop := Claim7.holds Ybaf.pinned (.plain (OpenSpec.ofChange lawS0011BPickedWrong)) lawS0011BPickedCard
end Rows
end Go.Proofs.YbulkeyFmt
