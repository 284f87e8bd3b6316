/-
  No cell of these rows narrows 'for every input' (looked for: loops, veiled, ifaces, maps, wideKeys, modest, calm, conditions, laid).
  DERIVED. THE GIVEN ROWS OF THIS SEAT. 1 by the template 'for every input the law returns true; each argument reads behind the call as it read before'; 0 by the template 'total and deterministic' (their statements: YbulkozuTotals.lean).
  GIVEN WITH THE SEED: the statements are not yours to turn. If you find one false, say at which input.
  Laid BY PROGRAM, IN A SANDBOX (cutbox-rows.mjs): the forced cells as the released guide's own fill.sh prints them over the translation 076e98d7180df1b7… (all of the seat's roots in one cut). By AI agents, Wed Nov 11 2026. No macro, syntax, notation, axiom, sorry.
-/
import Derived.Test.YbulkozuChecked
import GoSem.Claim
import GoSem.ClaimJoined
import GoSem.ClaimMapViews
import Derived.JoinedTies
import Derived.KernelRfl
namespace Go.Proofs.Ybulkozu
/- THE CELL 'sum', in the pinned program and in every row, IS THE sha256 OF THE DUMP (.gsa) THAT YbulkozuProg.lean LOADS. Nothing in Lean hashes anything: it is a label: what it is worth is what the hold of that sum in a sandbox is worth. -/
noncomputable def Yba.pinned : Pinned := { name := "ybulkozu", sum := "076e98d7180df1b7d8602cdb048bd15e90e3774326851cd717758c72c24168f3", checked := Yba.checked }
namespace Rows
def none {H : Type} : Left H := { results := [], args := [] }

/-- 'joinview.LawS0774CRestores': WHATEVER THE INPUT: true; the input reads as it did. -/
def lawS0774CRestoresSpec : ChangeSpec := { name := "lawS0774CRestores", fn := fun _ => fun
  | [d1, d2, d3, d4] => { results := [.lit (.bool true)], args := [d1, d2, d3, d4] }
  | _ => none }
def lawS0774CRestoresRow : OpenClaim := { program := "ybulkozu", sum := "076e98d7180df1b7d8602cdb048bd15e90e3774326851cd717758c72c24168f3", func := "example.com/joinview/joinview.LawS0774CRestores", spec := "lawS0774CRestores", unfollowed := true, recurses := true, apart := false }
def LawS0774CRestoresSaid : Prop := lawS0774CRestoresRow.holds Yba.pinned (OpenSpec.ofChange lawS0774CRestoresSpec)

/-- ITS FALSE NEIGHBOUR: 'it returns false'. Refute it at one input. -/
def lawS0774CRestoresWrong : ChangeSpec := { name := "lawS0774CRestores", fn := fun _ => fun
  | [d1, d2, d3, d4] => { results := [.lit (.bool false)], args := [d1, d2, d3, d4] }
  | _ => none }
def LawS0774CRestoresWrongFalsely : Prop := lawS0774CRestoresRow.holds Yba.pinned (OpenSpec.ofChange lawS0774CRestoresWrong)

end Rows
end Go.Proofs.Ybulkozu
