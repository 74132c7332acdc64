/-
  No cell of these rows narrows 'for every input' (looked for: loops, veiled, ifaces, maps, wideKeys, modest, calm, conditions, laid).
  DERIVED. THE GIVEN ROWS OF THIS SEAT. 1 by the template 'for every input the law returns true; each argument reads behind the call as it read before'; 0 by the template 'total and deterministic' (their statements: YbulkdpdsTotals.lean).
  GIVEN WITH THE SEED: the statements are not yours to turn. If you find one false, say at which input.
  Laid BY PROGRAM, IN A SANDBOX (cutbox-rows.mjs): the forced cells as the released guide's own fill.sh prints them over the translation 99f6fbb6d9b4cd84… (all of the seat's roots in one cut). By AI agents, Wed Nov 11 2026. No macro, syntax, notation, axiom, sorry.
-/
import Derived.Test.YbulkdpdsChecked
import GoSem.Claim
import GoSem.ClaimJoined
import GoSem.ClaimMapViews
import Derived.JoinedTies
import Derived.KernelRfl
namespace Go.Proofs.Ybulkdpds
/- THE CELL 'sum', in the pinned program and in every row, IS THE sha256 OF THE DUMP (.gsa) THAT YbulkdpdsProg.lean LOADS. Nothing in Lean hashes anything: it is a label: what it is worth is what the hold of that sum in a sandbox is worth. -/
noncomputable def Yba.pinned : Pinned := { name := "ybulkdpds", sum := "99f6fbb6d9b4cd847f70adeb3b617560c535ef947e1f83f8c039f45272c08bd5", checked := Yba.checked }
namespace Rows
def none {H : Type} : Left H := { results := [], args := [] }

/-- 'cairnpath.LawS5803BWhole': WHATEVER THE INPUT: true; the input reads as it did. -/
def lawS5803BWholeSpec : ChangeSpec := { name := "lawS5803BWhole", fn := fun _ => fun
  | [d1, d2] => { results := [.lit (.bool true)], args := [d1, d2] }
  | _ => none }
def lawS5803BWholeRow : OpenClaim := { program := "ybulkdpds", sum := "99f6fbb6d9b4cd847f70adeb3b617560c535ef947e1f83f8c039f45272c08bd5", func := "example.com/cairnpath/cairnpath.LawS5803BWhole", spec := "lawS5803BWhole", apart := false }
def LawS5803BWholeSaid : Prop := lawS5803BWholeRow.holds Yba.pinned (OpenSpec.ofChange lawS5803BWholeSpec)

/-- ITS FALSE NEIGHBOUR: 'it returns false'. Refute it at one input. -/
def lawS5803BWholeWrong : ChangeSpec := { name := "lawS5803BWhole", fn := fun _ => fun
  | [d1, d2] => { results := [.lit (.bool false)], args := [d1, d2] }
  | _ => none }
def LawS5803BWholeWrongFalsely : Prop := lawS5803BWholeRow.holds Yba.pinned (OpenSpec.ofChange lawS5803BWholeWrong)

end Rows
end Go.Proofs.Ybulkdpds
