/-
  No cell of these rows narrows 'for every input' (looked for: loops, veiled, ifaces, maps, wideKeys, modest, calm, conditions, laid).
  DERIVED. THE GIVEN ROWS OF THIS SEAT. 2 by the template 'for every input the law returns true; each argument reads behind the call as it read before'; 0 by the template 'total and deterministic' (their statements: YbulkeyFmtTotals.lean).
  GIVEN WITH THE SEED: the statements are not yours to turn. If you find one false, say at which input.
  Laid BY PROGRAM, IN A SANDBOX (cutbox-rows.mjs): the forced cells as the released guide's own fill.sh prints them over the translation 4c26f22a124c6c49… (all of the seat's roots in one cut). By AI agents, Wed Nov 11 2026. No macro, syntax, notation, axiom, sorry.
-/
import Derived.Test.YbulkeyFmtChecked
import GoSem.Claim
import GoSem.ClaimJoined
import GoSem.ClaimMapViews
import Derived.JoinedTies
import Derived.KernelRfl
namespace Go.Proofs.YbulkeyFmt
/- THE CELL 'sum', in the pinned program and in every row, IS THE sha256 OF THE DUMP (.gsa) THAT YbulkeyFmtProg.lean LOADS. Nothing in Lean hashes anything: it is a label: what it is worth is what the hold of that sum in a sandbox is worth. -/
noncomputable def Ybaf.pinned : Pinned := { name := "ybulkeyfmt", sum := "4c26f22a124c6c49e54e7f5742c7d45af0af1373901e7508efc6f4332adfe86a", checked := Ybaf.checked }
namespace Rows
def none {H : Type} : Left H := { results := [], args := [] }

/-- 'replica.LawS0011BRaw': WHATEVER THE INPUT: true; the input reads as it did. -/
def lawS0011BRawSpec : ChangeSpec := { name := "lawS0011BRaw", fn := fun _ => fun
  | [d] => { results := [.lit (.bool true)], args := [d] }
  | _ => none }
def lawS0011BRawRow : OpenClaim := { program := "ybulkeyfmt", sum := "4c26f22a124c6c49e54e7f5742c7d45af0af1373901e7508efc6f4332adfe86a", func := "example.com/causeway/causeway/pkg/replica.LawS0011BRaw", spec := "lawS0011BRaw", stops := ["fmt.errorf"], inPlace := ["fmt.errorf"], apart := false }
/-- NO THEOREM (fmt's text is open here; it may be false): for the released tool's asking of the row's closed facts alone. THE STATEMENT IS 'LawS0011BRawToldSaid' (YbulkeyFmtCards.lean). -/
def LawS0011BRawFormAsk : Prop := lawS0011BRawRow.holds Ybaf.pinned (OpenSpec.ofChange lawS0011BRawSpec)

/-- ITS FALSE NEIGHBOUR: 'it returns false'. Refute it at one input. -/
def lawS0011BRawWrong : ChangeSpec := { name := "lawS0011BRaw", fn := fun _ => fun
  | [d] => { results := [.lit (.bool false)], args := [d] }
  | _ => none }
def LawS0011BRawWrongFormAsk : Prop := lawS0011BRawRow.holds Ybaf.pinned (OpenSpec.ofChange lawS0011BRawWrong)

/-- 'replica.LawS0011BPicked': WHATEVER THE INPUT: true; the input reads as it did. -/
def lawS0011BPickedSpec : ChangeSpec := { name := "lawS0011BPicked", fn := fun _ => fun
  | [d1, d2] => { results := [.lit (.bool true)], args := [d1, d2] }
  | _ => none }
def lawS0011BPickedRow : OpenClaim := { program := "ybulkeyfmt", sum := "4c26f22a124c6c49e54e7f5742c7d45af0af1373901e7508efc6f4332adfe86a", func := "example.com/causeway/causeway/pkg/replica.LawS0011BPicked", spec := "lawS0011BPicked", stops := ["fmt.errorf"], inPlace := ["fmt.errorf"], apart := false }
/-- NO THEOREM (fmt's text is open here; it may be false): for the released tool's asking of the row's closed facts alone. THE STATEMENT IS 'LawS0011BPickedToldSaid' (YbulkeyFmtCards.lean). -/
def LawS0011BPickedFormAsk : Prop := lawS0011BPickedRow.holds Ybaf.pinned (OpenSpec.ofChange lawS0011BPickedSpec)

/-- ITS FALSE NEIGHBOUR: 'it returns false'. Refute it at one input. -/
def lawS0011BPickedWrong : ChangeSpec := { name := "lawS0011BPicked", fn := fun _ => fun
  | [d1, d2] => { results := [.lit (.bool false)], args := [d1, d2] }
  | _ => none }
def LawS0011BPickedWrongFormAsk : Prop := lawS0011BPickedRow.holds Ybaf.pinned (OpenSpec.ofChange lawS0011BPickedWrong)

end Rows
end Go.Proofs.YbulkeyFmt
