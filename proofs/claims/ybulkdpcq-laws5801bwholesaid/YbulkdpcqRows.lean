/-
  No cell of these rows narrows 'for every input' (looked for: loops, veiled, ifaces, maps, wideKeys, modest, calm, conditions, laid).
  DERIVED. THE GIVEN ROWS OF THIS SEAT. 3 by the template 'for every input the law returns true; each argument reads behind the call as it read before'; 0 by the template 'total and deterministic' (their statements: YbulkdpcqTotals.lean).
  GIVEN WITH THE SEED: the statements are not yours to turn. If you find one false, say at which input.
  Laid BY PROGRAM, IN A SANDBOX (cutbox-rows.mjs): the forced cells as the released guide's own fill.sh prints them over the translation 227fd825ddec91b3… (all of the seat's roots in one cut). By AI agents, Wed Nov 11 2026. No macro, syntax, notation, axiom, sorry.
-/
import Derived.Test.YbulkdpcqChecked
import GoSem.Claim
import GoSem.ClaimJoined
import GoSem.ClaimMapViews
import Derived.JoinedTies
import Derived.KernelRfl
namespace Go.Proofs.Ybulkdpcq
/- THE CELL 'sum', in the pinned program and in every row, IS THE sha256 OF THE DUMP (.gsa) THAT YbulkdpcqProg.lean LOADS. Nothing in Lean hashes anything: it is a label: what it is worth is what the hold of that sum in a sandbox is worth. -/
noncomputable def Yba.pinned : Pinned := { name := "ybulkdpcq", sum := "227fd825ddec91b37e46853ff8ccc3dab2380f85da05852d15236678184b136e", checked := Yba.checked }
namespace Rows
def none {H : Type} : Left H := { results := [], args := [] }

/-- 'pappus.LawS5801AWhole': WHATEVER THE INPUT: true; the input reads as it did. -/
def lawS5801AWholeSpec : ChangeSpec := { name := "lawS5801AWhole", fn := fun _ => fun
  | [d1, d2, d3, d4] => { results := [.lit (.bool true)], args := [d1, d2, d3, d4] }
  | _ => none }
def lawS5801AWholeRow : OpenClaim := { program := "ybulkdpcq", sum := "227fd825ddec91b37e46853ff8ccc3dab2380f85da05852d15236678184b136e", func := "example.com/pappus/pappus.LawS5801AWhole", spec := "lawS5801AWhole", apart := false }
def LawS5801AWholeSaid : Prop := lawS5801AWholeRow.holds Yba.pinned (OpenSpec.ofChange lawS5801AWholeSpec)

/-- ITS FALSE NEIGHBOUR: 'it returns false'. Refute it at one input. -/
def lawS5801AWholeWrong : ChangeSpec := { name := "lawS5801AWhole", fn := fun _ => fun
  | [d1, d2, d3, d4] => { results := [.lit (.bool false)], args := [d1, d2, d3, d4] }
  | _ => none }
def LawS5801AWholeWrongFalsely : Prop := lawS5801AWholeRow.holds Yba.pinned (OpenSpec.ofChange lawS5801AWholeWrong)

/-- 'pappus.LawS5801BWhole': WHATEVER THE INPUT: true; the input reads as it did. -/
def lawS5801BWholeSpec : ChangeSpec := { name := "lawS5801BWhole", fn := fun _ => fun
  | [d1, d2, d3] => { results := [.lit (.bool true)], args := [d1, d2, d3] }
  | _ => none }
def lawS5801BWholeRow : OpenClaim := { program := "ybulkdpcq", sum := "227fd825ddec91b37e46853ff8ccc3dab2380f85da05852d15236678184b136e", func := "example.com/pappus/pappus.LawS5801BWhole", spec := "lawS5801BWhole", apart := false }
def LawS5801BWholeSaid : Prop := lawS5801BWholeRow.holds Yba.pinned (OpenSpec.ofChange lawS5801BWholeSpec)

/-- ITS FALSE NEIGHBOUR: 'it returns false'. Refute it at one input. -/
def lawS5801BWholeWrong : ChangeSpec := { name := "lawS5801BWhole", fn := fun _ => fun
  | [d1, d2, d3] => { results := [.lit (.bool false)], args := [d1, d2, d3] }
  | _ => none }
def LawS5801BWholeWrongFalsely : Prop := lawS5801BWholeRow.holds Yba.pinned (OpenSpec.ofChange lawS5801BWholeWrong)

/-- 'pappus.LawS5801CWhole': WHATEVER THE INPUT: true; the input reads as it did. -/
def lawS5801CWholeSpec : ChangeSpec := { name := "lawS5801CWhole", fn := fun _ => fun
  | [d1, d2, d3, d4, d5] => { results := [.lit (.bool true)], args := [d1, d2, d3, d4, d5] }
  | _ => none }
def lawS5801CWholeRow : OpenClaim := { program := "ybulkdpcq", sum := "227fd825ddec91b37e46853ff8ccc3dab2380f85da05852d15236678184b136e", func := "example.com/pappus/pappus.LawS5801CWhole", spec := "lawS5801CWhole", apart := false }
def LawS5801CWholeSaid : Prop := lawS5801CWholeRow.holds Yba.pinned (OpenSpec.ofChange lawS5801CWholeSpec)

/-- ITS FALSE NEIGHBOUR: 'it returns false'. Refute it at one input. -/
def lawS5801CWholeWrong : ChangeSpec := { name := "lawS5801CWhole", fn := fun _ => fun
  | [d1, d2, d3, d4, d5] => { results := [.lit (.bool false)], args := [d1, d2, d3, d4, d5] }
  | _ => none }
def LawS5801CWholeWrongFalsely : Prop := lawS5801CWholeRow.holds Yba.pinned (OpenSpec.ofChange lawS5801CWholeWrong)

end Rows
end Go.Proofs.Ybulkdpcq
