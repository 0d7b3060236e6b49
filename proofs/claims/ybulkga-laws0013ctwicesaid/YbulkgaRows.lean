/-
  No cell of these rows narrows 'for every input' (looked for: loops, veiled, ifaces, maps, wideKeys, modest, calm, conditions, laid).
  DERIVED. THE GIVEN ROWS OF THIS SEAT. 4 by the template 'for every input the law returns true; each argument reads behind the call as it read before'; 0 by the template 'total and deterministic' (their statements: YbulkgaTotals.lean).
  GIVEN WITH THE SEED: the statements are not yours to turn. If you find one false, say at which input.
  Laid BY PROGRAM, IN A SANDBOX (cutbox-rows.mjs): the forced cells as the released guide's own fill.sh prints them over the translation 0bed31406d576fd3… (all of the seat's roots in one cut). By AI agents, Wed Nov 11 2026. No macro, syntax, notation, axiom, sorry.
-/
import Derived.Test.YbulkgaChecked
import GoSem.Claim
import GoSem.ClaimJoined
import GoSem.ClaimMapViews
import Derived.JoinedTies
import Derived.KernelRfl
namespace Go.Proofs.Ybulkga
/- THE CELL 'sum', in the pinned program and in every row, IS THE sha256 OF THE DUMP (.gsa) THAT YbulkgaProg.lean LOADS. Nothing in Lean hashes anything: it is a label: what it is worth is what the hold of that sum in a sandbox is worth. -/
noncomputable def Yba.pinned : Pinned := { name := "ybulkga", sum := "0bed31406d576fd3784043c55ca9428dc597b493070c100640e33ece25ab7c42", checked := Yba.checked }
namespace Rows
def none {H : Type} : Left H := { results := [], args := [] }

/-- 'config.LawS0013AModel': WHATEVER THE INPUT: true; the input reads as it did. -/
def lawS0013AModelSpec : ChangeSpec := { name := "lawS0013AModel", fn := fun _ => fun
  | [d] => { results := [.lit (.bool true)], args := [d] }
  | _ => none }
def lawS0013AModelRow : OpenClaim := { program := "ybulkga", sum := "0bed31406d576fd3784043c55ca9428dc597b493070c100640e33ece25ab7c42", func := "example.com/tokenkeep/tokenkeep/internal/config.LawS0013AModel", spec := "lawS0013AModel", inPlace := ["internal/bytealg.IndexByteString"], apart := false }
def LawS0013AModelSaid : Prop := lawS0013AModelRow.holds Yba.pinned (OpenSpec.ofChange lawS0013AModelSpec)

/-- ITS FALSE NEIGHBOUR: 'it returns false'. Refute it at one input. -/
def lawS0013AModelWrong : ChangeSpec := { name := "lawS0013AModel", fn := fun _ => fun
  | [d] => { results := [.lit (.bool false)], args := [d] }
  | _ => none }
def LawS0013AModelWrongFalsely : Prop := lawS0013AModelRow.holds Yba.pinned (OpenSpec.ofChange lawS0013AModelWrong)

/-- 'config.LawS0013ABuilt': WHATEVER THE INPUT: true; the input reads as it did. -/
def lawS0013ABuiltSpec : ChangeSpec := { name := "lawS0013ABuilt", fn := fun _ => fun
  | [d1, d2, d3] => { results := [.lit (.bool true)], args := [d1, d2, d3] }
  | _ => none }
def lawS0013ABuiltRow : OpenClaim := { program := "ybulkga", sum := "0bed31406d576fd3784043c55ca9428dc597b493070c100640e33ece25ab7c42", func := "example.com/tokenkeep/tokenkeep/internal/config.LawS0013ABuilt", spec := "lawS0013ABuilt", inPlace := ["internal/bytealg.IndexByteString"], apart := false }
def LawS0013ABuiltSaid : Prop := lawS0013ABuiltRow.holds Yba.pinned (OpenSpec.ofChange lawS0013ABuiltSpec)

/-- ITS FALSE NEIGHBOUR: 'it returns false'. Refute it at one input. -/
def lawS0013ABuiltWrong : ChangeSpec := { name := "lawS0013ABuilt", fn := fun _ => fun
  | [d1, d2, d3] => { results := [.lit (.bool false)], args := [d1, d2, d3] }
  | _ => none }
def LawS0013ABuiltWrongFalsely : Prop := lawS0013ABuiltRow.holds Yba.pinned (OpenSpec.ofChange lawS0013ABuiltWrong)

/-- 'cache.LawS0013CExact': WHATEVER THE INPUT: true; the input reads as it did. -/
def lawS0013CExactSpec : ChangeSpec := { name := "lawS0013CExact", fn := fun _ => fun
  | [d1, d2, d3] => { results := [.lit (.bool true)], args := [d1, d2, d3] }
  | _ => none }
def lawS0013CExactRow : OpenClaim := { program := "ybulkga", sum := "0bed31406d576fd3784043c55ca9428dc597b493070c100640e33ece25ab7c42", func := "example.com/tokenkeep/tokenkeep/internal/cache.LawS0013CExact", spec := "lawS0013CExact", apart := false }
def LawS0013CExactSaid : Prop := lawS0013CExactRow.holds Yba.pinned (OpenSpec.ofChange lawS0013CExactSpec)

/-- ITS FALSE NEIGHBOUR: 'it returns false'. Refute it at one input. -/
def lawS0013CExactWrong : ChangeSpec := { name := "lawS0013CExact", fn := fun _ => fun
  | [d1, d2, d3] => { results := [.lit (.bool false)], args := [d1, d2, d3] }
  | _ => none }
def LawS0013CExactWrongFalsely : Prop := lawS0013CExactRow.holds Yba.pinned (OpenSpec.ofChange lawS0013CExactWrong)

/-- 'cache.LawS0013CTwice': WHATEVER THE INPUT: true; the input reads as it did. -/
def lawS0013CTwiceSpec : ChangeSpec := { name := "lawS0013CTwice", fn := fun _ => fun
  | [d1, d2, d3] => { results := [.lit (.bool true)], args := [d1, d2, d3] }
  | _ => none }
def lawS0013CTwiceRow : OpenClaim := { program := "ybulkga", sum := "0bed31406d576fd3784043c55ca9428dc597b493070c100640e33ece25ab7c42", func := "example.com/tokenkeep/tokenkeep/internal/cache.LawS0013CTwice", spec := "lawS0013CTwice", apart := false }
def LawS0013CTwiceSaid : Prop := lawS0013CTwiceRow.holds Yba.pinned (OpenSpec.ofChange lawS0013CTwiceSpec)

/-- ITS FALSE NEIGHBOUR: 'it returns false'. Refute it at one input. -/
def lawS0013CTwiceWrong : ChangeSpec := { name := "lawS0013CTwice", fn := fun _ => fun
  | [d1, d2, d3] => { results := [.lit (.bool false)], args := [d1, d2, d3] }
  | _ => none }
def LawS0013CTwiceWrongFalsely : Prop := lawS0013CTwiceRow.holds Yba.pinned (OpenSpec.ofChange lawS0013CTwiceWrong)

end Rows
end Go.Proofs.Ybulkga
