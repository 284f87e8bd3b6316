/-
  No cell of these rows narrows 'for every input' (looked for: loops, veiled, ifaces, maps, wideKeys, modest, calm, conditions, laid).
  DERIVED. THE GIVEN ROWS OF THIS SEAT. 2 by the template 'for every input the law returns true; each argument reads behind the call as it read before'; 0 by the template 'total and deterministic' (their statements: YbulkolgTotals.lean).
  GIVEN WITH THE SEED: the statements are not yours to turn. If you find one false, say at which input.
  Laid BY PROGRAM, IN A SANDBOX (cutbox-rows.mjs): the forced cells as the released guide's own fill.sh prints them over the translation 49c3bb824703bbbb… (all of the seat's roots in one cut). By AI agents, Wed Nov 11 2026. No macro, syntax, notation, axiom, sorry.
-/
import Derived.Test.YbulkolgChecked
import GoSem.Claim
import GoSem.ClaimJoined
import GoSem.ClaimMapViews
import Derived.JoinedTies
import Derived.KernelRfl
namespace Go.Proofs.Ybulkolg
/- THE CELL 'sum', in the pinned program and in every row, IS THE sha256 OF THE DUMP (.gsa) THAT YbulkolgProg.lean LOADS. Nothing in Lean hashes anything: it is a label: what it is worth is what the hold of that sum in a sandbox is worth. -/
noncomputable def Yba.pinned : Pinned := { name := "ybulkolg", sum := "49c3bb824703bbbb297f9c6d06f32c9fcb54ee68bd8df88f9f3b88936fc00a89", checked := Yba.checked }
namespace Rows
def none {H : Type} : Left H := { results := [], args := [] }

/-- 'peers.LawS0747BTable': WHATEVER THE INPUT: true; the input reads as it did. -/
def lawS0747BTableSpec : ChangeSpec := { name := "lawS0747BTable", fn := fun _ => fun
  | [d] => { results := [.lit (.bool true)], args := [d] }
  | _ => none }
def lawS0747BTableRow : OpenClaim := { program := "ybulkolg", sum := "49c3bb824703bbbb297f9c6d06f32c9fcb54ee68bd8df88f9f3b88936fc00a89", func := "example.com/trustwell/trustwell/internal/peers.LawS0747BTable", spec := "lawS0747BTable", apart := false }
def LawS0747BTableSaid : Prop := lawS0747BTableRow.holds Yba.pinned (OpenSpec.ofChange lawS0747BTableSpec)

/-- ITS FALSE NEIGHBOUR: 'it returns false'. Refute it at one input. -/
def lawS0747BTableWrong : ChangeSpec := { name := "lawS0747BTable", fn := fun _ => fun
  | [d] => { results := [.lit (.bool false)], args := [d] }
  | _ => none }
def LawS0747BTableWrongFalsely : Prop := lawS0747BTableRow.holds Yba.pinned (OpenSpec.ofChange lawS0747BTableWrong)

/-- 'peers.LawS0747BBuilt': WHATEVER THE INPUT: true; the input reads as it did. -/
def lawS0747BBuiltSpec : ChangeSpec := { name := "lawS0747BBuilt", fn := fun _ => fun
  | [d1, d2, d3] => { results := [.lit (.bool true)], args := [d1, d2, d3] }
  | _ => none }
def lawS0747BBuiltRow : OpenClaim := { program := "ybulkolg", sum := "49c3bb824703bbbb297f9c6d06f32c9fcb54ee68bd8df88f9f3b88936fc00a89", func := "example.com/trustwell/trustwell/internal/peers.LawS0747BBuilt", spec := "lawS0747BBuilt", apart := false }
def LawS0747BBuiltSaid : Prop := lawS0747BBuiltRow.holds Yba.pinned (OpenSpec.ofChange lawS0747BBuiltSpec)

/-- ITS FALSE NEIGHBOUR: 'it returns false'. Refute it at one input. -/
def lawS0747BBuiltWrong : ChangeSpec := { name := "lawS0747BBuilt", fn := fun _ => fun
  | [d1, d2, d3] => { results := [.lit (.bool false)], args := [d1, d2, d3] }
  | _ => none }
def LawS0747BBuiltWrongFalsely : Prop := lawS0747BBuiltRow.holds Yba.pinned (OpenSpec.ofChange lawS0747BBuiltWrong)

end Rows
end Go.Proofs.Ybulkolg
