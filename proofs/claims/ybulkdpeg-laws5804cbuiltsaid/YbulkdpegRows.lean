/-
  No cell of these rows narrows 'for every input' (looked for: loops, veiled, ifaces, maps, wideKeys, modest, calm, conditions, laid).
  DERIVED. THE GIVEN ROWS OF THIS SEAT. 4 by the template 'for every input the law returns true; each argument reads behind the call as it read before'; 0 by the template 'total and deterministic' (their statements: YbulkdpegTotals.lean).
  GIVEN WITH THE SEED: the statements are not yours to turn. If you find one false, say at which input.
  Laid BY PROGRAM, IN A SANDBOX (cutbox-rows.mjs): the forced cells as the released guide's own fill.sh prints them over the translation 17c0664fb5f34019… (all of the seat's roots in one cut). By AI agents, Wed Nov 11 2026. No macro, syntax, notation, axiom, sorry.
-/
import Derived.Test.YbulkdpegChecked
import GoSem.Claim
import GoSem.ClaimJoined
import GoSem.ClaimMapViews
import Derived.JoinedTies
import Derived.KernelRfl
namespace Go.Proofs.Ybulkdpeg
/- THE CELL 'sum', in the pinned program and in every row, IS THE sha256 OF THE DUMP (.gsa) THAT YbulkdpegProg.lean LOADS. Nothing in Lean hashes anything: it is a label: what it is worth is what the hold of that sum in a sandbox is worth. -/
noncomputable def Yba.pinned : Pinned := { name := "ybulkdpeg", sum := "17c0664fb5f34019705b03e92082f7a9d6e40784077fcb0b02dfcead947bc861", checked := Yba.checked }
namespace Rows
def none {H : Type} : Left H := { results := [], args := [] }

/-- 'longarc.LawS5804BWhole': WHATEVER THE INPUT: true; the input reads as it did. -/
def lawS5804BWholeSpec : ChangeSpec := { name := "lawS5804BWhole", fn := fun _ => fun
  | [d] => { results := [.lit (.bool true)], args := [d] }
  | _ => none }
def lawS5804BWholeRow : OpenClaim := { program := "ybulkdpeg", sum := "17c0664fb5f34019705b03e92082f7a9d6e40784077fcb0b02dfcead947bc861", func := "example.com/longarc/longarc.LawS5804BWhole", spec := "lawS5804BWhole", apart := false }
def LawS5804BWholeSaid : Prop := lawS5804BWholeRow.holds Yba.pinned (OpenSpec.ofChange lawS5804BWholeSpec)

/-- ITS FALSE NEIGHBOUR: 'it returns false'. Refute it at one input. -/
def lawS5804BWholeWrong : ChangeSpec := { name := "lawS5804BWhole", fn := fun _ => fun
  | [d] => { results := [.lit (.bool false)], args := [d] }
  | _ => none }
def LawS5804BWholeWrongFalsely : Prop := lawS5804BWholeRow.holds Yba.pinned (OpenSpec.ofChange lawS5804BWholeWrong)

/-- 'longarc.LawS5804BBuilt': WHATEVER THE INPUT: true; the input reads as it did. -/
def lawS5804BBuiltSpec : ChangeSpec := { name := "lawS5804BBuilt", fn := fun _ => fun
  | [d1, d2] => { results := [.lit (.bool true)], args := [d1, d2] }
  | _ => none }
def lawS5804BBuiltRow : OpenClaim := { program := "ybulkdpeg", sum := "17c0664fb5f34019705b03e92082f7a9d6e40784077fcb0b02dfcead947bc861", func := "example.com/longarc/longarc.LawS5804BBuilt", spec := "lawS5804BBuilt", apart := false }
def LawS5804BBuiltSaid : Prop := lawS5804BBuiltRow.holds Yba.pinned (OpenSpec.ofChange lawS5804BBuiltSpec)

/-- ITS FALSE NEIGHBOUR: 'it returns false'. Refute it at one input. -/
def lawS5804BBuiltWrong : ChangeSpec := { name := "lawS5804BBuilt", fn := fun _ => fun
  | [d1, d2] => { results := [.lit (.bool false)], args := [d1, d2] }
  | _ => none }
def LawS5804BBuiltWrongFalsely : Prop := lawS5804BBuiltRow.holds Yba.pinned (OpenSpec.ofChange lawS5804BBuiltWrong)

/-- 'longarc.LawS5804CWhole': WHATEVER THE INPUT: true; the input reads as it did. -/
def lawS5804CWholeSpec : ChangeSpec := { name := "lawS5804CWhole", fn := fun _ => fun
  | [d] => { results := [.lit (.bool true)], args := [d] }
  | _ => none }
def lawS5804CWholeRow : OpenClaim := { program := "ybulkdpeg", sum := "17c0664fb5f34019705b03e92082f7a9d6e40784077fcb0b02dfcead947bc861", func := "example.com/longarc/longarc.LawS5804CWhole", spec := "lawS5804CWhole", apart := false }
def LawS5804CWholeSaid : Prop := lawS5804CWholeRow.holds Yba.pinned (OpenSpec.ofChange lawS5804CWholeSpec)

/-- ITS FALSE NEIGHBOUR: 'it returns false'. Refute it at one input. -/
def lawS5804CWholeWrong : ChangeSpec := { name := "lawS5804CWhole", fn := fun _ => fun
  | [d] => { results := [.lit (.bool false)], args := [d] }
  | _ => none }
def LawS5804CWholeWrongFalsely : Prop := lawS5804CWholeRow.holds Yba.pinned (OpenSpec.ofChange lawS5804CWholeWrong)

/-- 'longarc.LawS5804CBuilt': WHATEVER THE INPUT: true; the input reads as it did. -/
def lawS5804CBuiltSpec : ChangeSpec := { name := "lawS5804CBuilt", fn := fun _ => fun
  | [d1, d2] => { results := [.lit (.bool true)], args := [d1, d2] }
  | _ => none }
def lawS5804CBuiltRow : OpenClaim := { program := "ybulkdpeg", sum := "17c0664fb5f34019705b03e92082f7a9d6e40784077fcb0b02dfcead947bc861", func := "example.com/longarc/longarc.LawS5804CBuilt", spec := "lawS5804CBuilt", apart := false }
def LawS5804CBuiltSaid : Prop := lawS5804CBuiltRow.holds Yba.pinned (OpenSpec.ofChange lawS5804CBuiltSpec)

/-- ITS FALSE NEIGHBOUR: 'it returns false'. Refute it at one input. -/
def lawS5804CBuiltWrong : ChangeSpec := { name := "lawS5804CBuilt", fn := fun _ => fun
  | [d1, d2] => { results := [.lit (.bool false)], args := [d1, d2] }
  | _ => none }
def LawS5804CBuiltWrongFalsely : Prop := lawS5804CBuiltRow.holds Yba.pinned (OpenSpec.ofChange lawS5804CBuiltWrong)

end Rows
end Go.Proofs.Ybulkdpeg
