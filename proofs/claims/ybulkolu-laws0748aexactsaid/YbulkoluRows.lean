/-
  No cell of these rows narrows 'for every input' (looked for: loops, veiled, ifaces, maps, wideKeys, modest, calm, conditions, laid).
  DERIVED. THE GIVEN ROWS OF THIS SEAT. 2 by the template 'for every input the law returns true; each argument reads behind the call as it read before'; 0 by the template 'total and deterministic' (their statements: YbulkoluTotals.lean).
  GIVEN WITH THE SEED: the statements are not yours to turn. If you find one false, say at which input.
  Laid BY PROGRAM, IN A SANDBOX (cutbox-rows.mjs): the forced cells as the released guide's own fill.sh prints them over the translation 82e04993a9d5ed26… (all of the seat's roots in one cut). By AI agents, Wed Nov 11 2026. No macro, syntax, notation, axiom, sorry.
-/
import Derived.Test.YbulkoluChecked
import GoSem.Claim
import GoSem.ClaimJoined
import GoSem.ClaimMapViews
import Derived.JoinedTies
import Derived.KernelRfl
namespace Go.Proofs.Ybulkolu
/- THE CELL 'sum', in the pinned program and in every row, IS THE sha256 OF THE DUMP (.gsa) THAT YbulkoluProg.lean LOADS. Nothing in Lean hashes anything: it is a label: what it is worth is what the hold of that sum in a sandbox is worth. -/
noncomputable def Yba.pinned : Pinned := { name := "ybulkolu", sum := "82e04993a9d5ed26303fbb83ef5b15bead64af1970720ef5d8c4d5016de1004d", checked := Yba.checked }
namespace Rows
def none {H : Type} : Left H := { results := [], args := [] }

/-- 'flood.LawS0748AExact': WHATEVER THE INPUT: true; the input reads as it did. -/
def lawS0748AExactSpec : ChangeSpec := { name := "lawS0748AExact", fn := fun _ => fun
  | [d1, d2] => { results := [.lit (.bool true)], args := [d1, d2] }
  | _ => none }
def lawS0748AExactRow : OpenClaim := { program := "ybulkolu", sum := "82e04993a9d5ed26303fbb83ef5b15bead64af1970720ef5d8c4d5016de1004d", func := "example.com/lullnet/lullnet/flood.LawS0748AExact", spec := "lawS0748AExact", apart := false }
def LawS0748AExactSaid : Prop := lawS0748AExactRow.holds Yba.pinned (OpenSpec.ofChange lawS0748AExactSpec)

/-- ITS FALSE NEIGHBOUR: 'it returns false'. Refute it at one input. -/
def lawS0748AExactWrong : ChangeSpec := { name := "lawS0748AExact", fn := fun _ => fun
  | [d1, d2] => { results := [.lit (.bool false)], args := [d1, d2] }
  | _ => none }
def LawS0748AExactWrongFalsely : Prop := lawS0748AExactRow.holds Yba.pinned (OpenSpec.ofChange lawS0748AExactWrong)

/-- 'flood.LawS0748AFresh': WHATEVER THE INPUT: true; the input reads as it did. -/
def lawS0748AFreshSpec : ChangeSpec := { name := "lawS0748AFresh", fn := fun _ => fun
  | [d] => { results := [.lit (.bool true)], args := [d] }
  | _ => none }
def lawS0748AFreshRow : OpenClaim := { program := "ybulkolu", sum := "82e04993a9d5ed26303fbb83ef5b15bead64af1970720ef5d8c4d5016de1004d", func := "example.com/lullnet/lullnet/flood.LawS0748AFresh", spec := "lawS0748AFresh", apart := false }
def LawS0748AFreshSaid : Prop := lawS0748AFreshRow.holds Yba.pinned (OpenSpec.ofChange lawS0748AFreshSpec)

/-- ITS FALSE NEIGHBOUR: 'it returns false'. Refute it at one input. -/
def lawS0748AFreshWrong : ChangeSpec := { name := "lawS0748AFresh", fn := fun _ => fun
  | [d] => { results := [.lit (.bool false)], args := [d] }
  | _ => none }
def LawS0748AFreshWrongFalsely : Prop := lawS0748AFreshRow.holds Yba.pinned (OpenSpec.ofChange lawS0748AFreshWrong)

end Rows
end Go.Proofs.Ybulkolu
