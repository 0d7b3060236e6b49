/-
  No cell of these rows narrows 'for every input' (looked for: loops, veiled, ifaces, maps, wideKeys, modest, calm, conditions, laid).
  DERIVED. THE GIVEN ROWS OF THIS SEAT. 2 by the template 'for every input the law returns true; each argument reads behind the call as it read before'; 0 by the template 'total and deterministic' (their statements: YbulkieTotals.lean).
  GIVEN WITH THE SEED: the statements are not yours to turn. If you find one false, say at which input.
  Laid BY PROGRAM, IN A SANDBOX (cutbox-rows.mjs): the forced cells as the released guide's own fill.sh prints them over the translation 2fb365c9be22e67b… (all of the seat's roots in one cut). By AI agents, Wed Nov 11 2026. No macro, syntax, notation, axiom, sorry.
-/
import Derived.Test.YbulkieChecked
import GoSem.Claim
import GoSem.ClaimJoined
import GoSem.ClaimMapViews
import Derived.JoinedTies
import Derived.KernelRfl
namespace Go.Proofs.Ybulkie
/- THE CELL 'sum', in the pinned program and in every row, IS THE sha256 OF THE DUMP (.gsa) THAT YbulkieProg.lean LOADS. Nothing in Lean hashes anything: it is a label: what it is worth is what the hold of that sum in a sandbox is worth. -/
noncomputable def Yba.pinned : Pinned := { name := "ybulkie", sum := "2fb365c9be22e67b413f54afe85e70f82bab69041c6c5bbb452ce0c2fe057ea6", checked := Yba.checked }
namespace Rows
def none {H : Type} : Left H := { results := [], args := [] }

/-- 'rewrite.LawS0017AAbove': WHATEVER THE INPUT: true; the input reads as it did. -/
def lawS0017AAboveSpec : ChangeSpec := { name := "lawS0017AAbove", fn := fun _ => fun
  | [d] => { results := [.lit (.bool true)], args := [d] }
  | _ => none }
def lawS0017AAboveRow : OpenClaim := { program := "ybulkie", sum := "2fb365c9be22e67b413f54afe85e70f82bab69041c6c5bbb452ce0c2fe057ea6", func := "example.com/secvu/secvu/pkg/rewrite.LawS0017AAbove", spec := "lawS0017AAbove", inPlace := ["internal/bytealg.IndexByteString", "internal/bytealg.IndexString", "internal/abi.NoEscape", "internal/bytealg.MakeNoZero"], unfollowed := true, recurses := true, named := ["internal/bytealg.MaxLen"], plainKeys := false, apart := false }
def LawS0017AAboveSaid : Prop := lawS0017AAboveRow.holds Yba.pinned (OpenSpec.ofChange lawS0017AAboveSpec)

/-- ITS FALSE NEIGHBOUR: 'it returns false'. Refute it at one input. -/
def lawS0017AAboveWrong : ChangeSpec := { name := "lawS0017AAbove", fn := fun _ => fun
  | [d] => { results := [.lit (.bool false)], args := [d] }
  | _ => none }
def LawS0017AAboveWrongFalsely : Prop := lawS0017AAboveRow.holds Yba.pinned (OpenSpec.ofChange lawS0017AAboveWrong)

/-- 'automaton.LawS0017BModel': WHATEVER THE INPUT: true; the input reads as it did. -/
def lawS0017BModelSpec : ChangeSpec := { name := "lawS0017BModel", fn := fun _ => fun
  | [d1, d2, d3, d4, d5, d6] => { results := [.lit (.bool true)], args := [d1, d2, d3, d4, d5, d6] }
  | _ => none }
def lawS0017BModelRow : OpenClaim := { program := "ybulkie", sum := "2fb365c9be22e67b413f54afe85e70f82bab69041c6c5bbb452ce0c2fe057ea6", func := "example.com/secvu/secvu/pkg/automaton.LawS0017BModel", spec := "lawS0017BModel", unfollowed := true, recurses := true, plainKeys := false, apart := false }
def LawS0017BModelSaid : Prop := lawS0017BModelRow.holds Yba.pinned (OpenSpec.ofChange lawS0017BModelSpec)

/-- ITS FALSE NEIGHBOUR: 'it returns false'. Refute it at one input. -/
def lawS0017BModelWrong : ChangeSpec := { name := "lawS0017BModel", fn := fun _ => fun
  | [d1, d2, d3, d4, d5, d6] => { results := [.lit (.bool false)], args := [d1, d2, d3, d4, d5, d6] }
  | _ => none }
def LawS0017BModelWrongFalsely : Prop := lawS0017BModelRow.holds Yba.pinned (OpenSpec.ofChange lawS0017BModelWrong)

end Rows
end Go.Proofs.Ybulkie
