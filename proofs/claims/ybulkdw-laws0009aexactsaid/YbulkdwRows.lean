/-
  No cell of these rows narrows 'for every input' (looked for: loops, veiled, ifaces, maps, wideKeys, modest, calm, conditions, laid).
  DERIVED. THE GIVEN ROWS OF THIS SEAT. 2 by the template 'for every input the law returns true; each argument reads behind the call as it read before'; 0 by the template 'total and deterministic' (their statements: YbulkdwTotals.lean).
  GIVEN WITH THE SEED: the statements are not yours to turn. If you find one false, say at which input.
  Laid BY PROGRAM, IN A SANDBOX (cutbox-rows.mjs): the forced cells as the released guide's own fill.sh prints them over the translation 95ffae18b191c216… (all of the seat's roots in one cut). By AI agents, Wed Nov 11 2026. No macro, syntax, notation, axiom, sorry.
-/
import Derived.Test.YbulkdwChecked
import GoSem.Claim
import GoSem.ClaimJoined
import GoSem.ClaimMapViews
import Derived.JoinedTies
import Derived.KernelRfl
namespace Go.Proofs.Ybulkdw
/- THE CELL 'sum', in the pinned program and in every row, IS THE sha256 OF THE DUMP (.gsa) THAT YbulkdwProg.lean LOADS. Nothing in Lean hashes anything: it is a label: what it is worth is what the hold of that sum in a sandbox is worth. -/
noncomputable def Yba.pinned : Pinned := { name := "ybulkdw", sum := "95ffae18b191c216eb2978d2ca28674ee8ef0b712922929b4acf314a67e5a260", checked := Yba.checked }
namespace Rows
def none {H : Type} : Left H := { results := [], args := [] }

/-- 'phidelity.LawS0009AExact': WHATEVER THE INPUT: true; the input reads as it did. -/
def lawS0009AExactSpec : ChangeSpec := { name := "lawS0009AExact", fn := fun _ => fun
  | [d1, d2, d3] => { results := [.lit (.bool true)], args := [d1, d2, d3] }
  | _ => none }
def lawS0009AExactRow : OpenClaim := { program := "ybulkdw", sum := "95ffae18b191c216eb2978d2ca28674ee8ef0b712922929b4acf314a67e5a260", func := "example.com/phidelity/phidelity.LawS0009AExact", spec := "lawS0009AExact", apart := false }
def LawS0009AExactSaid : Prop := lawS0009AExactRow.holds Yba.pinned (OpenSpec.ofChange lawS0009AExactSpec)

/-- ITS FALSE NEIGHBOUR: 'it returns false'. Refute it at one input. -/
def lawS0009AExactWrong : ChangeSpec := { name := "lawS0009AExact", fn := fun _ => fun
  | [d1, d2, d3] => { results := [.lit (.bool false)], args := [d1, d2, d3] }
  | _ => none }
def LawS0009AExactWrongFalsely : Prop := lawS0009AExactRow.holds Yba.pinned (OpenSpec.ofChange lawS0009AExactWrong)

/-- 'phidelity.LawS0009AMirror': WHATEVER THE INPUT: true; the input reads as it did. -/
def lawS0009AMirrorSpec : ChangeSpec := { name := "lawS0009AMirror", fn := fun _ => fun
  | [d1, d2] => { results := [.lit (.bool true)], args := [d1, d2] }
  | _ => none }
def lawS0009AMirrorRow : OpenClaim := { program := "ybulkdw", sum := "95ffae18b191c216eb2978d2ca28674ee8ef0b712922929b4acf314a67e5a260", func := "example.com/phidelity/phidelity.LawS0009AMirror", spec := "lawS0009AMirror", apart := false }
def LawS0009AMirrorSaid : Prop := lawS0009AMirrorRow.holds Yba.pinned (OpenSpec.ofChange lawS0009AMirrorSpec)

/-- ITS FALSE NEIGHBOUR: 'it returns false'. Refute it at one input. -/
def lawS0009AMirrorWrong : ChangeSpec := { name := "lawS0009AMirror", fn := fun _ => fun
  | [d1, d2] => { results := [.lit (.bool false)], args := [d1, d2] }
  | _ => none }
def LawS0009AMirrorWrongFalsely : Prop := lawS0009AMirrorRow.holds Yba.pinned (OpenSpec.ofChange lawS0009AMirrorWrong)

end Rows
end Go.Proofs.Ybulkdw
