/-
  No cell of these rows narrows 'for every input' (looked for: loops, veiled, ifaces, maps, wideKeys, modest, calm, conditions, laid).
  DERIVED. THE GIVEN ROWS OF THIS SEAT. 3 by the template 'for every input the law returns true; each argument reads behind the call as it read before'; 0 by the template 'total and deterministic' (their statements: YbulkoluFmtTotals.lean).
  GIVEN WITH THE SEED: the statements are not yours to turn. If you find one false, say at which input.
  Laid BY PROGRAM, IN A SANDBOX (cutbox-rows.mjs): the forced cells as the released guide's own fill.sh prints them over the translation a9086307dbca3947… (all of the seat's roots in one cut). By AI agents, Wed Nov 11 2026. No macro, syntax, notation, axiom, sorry.
-/
import Derived.Test.YbulkoluFmtChecked
import GoSem.Claim
import GoSem.ClaimJoined
import GoSem.ClaimMapViews
import Derived.JoinedTies
import Derived.KernelRfl
namespace Go.Proofs.YbulkoluFmt
/- THE CELL 'sum', in the pinned program and in every row, IS THE sha256 OF THE DUMP (.gsa) THAT YbulkoluFmtProg.lean LOADS. Nothing in Lean hashes anything: it is a label: what it is worth is what the hold of that sum in a sandbox is worth. -/
noncomputable def Ybaf.pinned : Pinned := { name := "ybulkolufmt", sum := "a9086307dbca39476e6e3f62cd52c303e3143d0de618bbea949b74bb4528baed", checked := Ybaf.checked }
namespace Rows
def none {H : Type} : Left H := { results := [], args := [] }

/-- 'runtimetest.LawS0748BCalls': WHATEVER THE INPUT: true; the input reads as it did. -/
def lawS0748BCallsSpec : ChangeSpec := { name := "lawS0748BCalls", fn := fun _ => fun
  | [d1, d2, d3, d4, d5, d6, d7] => { results := [.lit (.bool true)], args := [d1, d2, d3, d4, d5, d6, d7] }
  | _ => none }
def lawS0748BCallsRow : OpenClaim := { program := "ybulkolufmt", sum := "a9086307dbca39476e6e3f62cd52c303e3143d0de618bbea949b74bb4528baed", func := "example.com/lullnet/lullnet/internal/runtimetest.LawS0748BCalls", spec := "lawS0748BCalls", stops := ["fmt.Sprintf"], inPlace := ["fmt.Sprintf"], unfollowed := true, recurses := true, apart := false }
/-- NO THEOREM (fmt's text is open here; it may be false): for the released tool's asking of the row's closed facts alone. THE STATEMENT IS 'LawS0748BCallsToldSaid' (YbulkoluFmtCards.lean). -/
def LawS0748BCallsFormAsk : Prop := lawS0748BCallsRow.holds Ybaf.pinned (OpenSpec.ofChange lawS0748BCallsSpec)

/-- ITS FALSE NEIGHBOUR: 'it returns false'. Refute it at one input. -/
def lawS0748BCallsWrong : ChangeSpec := { name := "lawS0748BCalls", fn := fun _ => fun
  | [d1, d2, d3, d4, d5, d6, d7] => { results := [.lit (.bool false)], args := [d1, d2, d3, d4, d5, d6, d7] }
  | _ => none }
def LawS0748BCallsWrongFormAsk : Prop := lawS0748BCallsRow.holds Ybaf.pinned (OpenSpec.ofChange lawS0748BCallsWrong)

/-- 'termination.LawS0748CInitiator': WHATEVER THE INPUT: true; the input reads as it did. -/
def lawS0748CInitiatorSpec : ChangeSpec := { name := "lawS0748CInitiator", fn := fun _ => fun
  | [d1, d2, d3, d4, d5] => { results := [.lit (.bool true)], args := [d1, d2, d3, d4, d5] }
  | _ => none }
def lawS0748CInitiatorRow : OpenClaim := { program := "ybulkolufmt", sum := "a9086307dbca39476e6e3f62cd52c303e3143d0de618bbea949b74bb4528baed", func := "example.com/lullnet/lullnet/termination.LawS0748CInitiator", spec := "lawS0748CInitiator", stops := ["fmt.Sprintf"], unfollowed := true, recurses := true, apart := false }
/-- NO THEOREM (fmt's text is open here; it may be false): for the released tool's asking of the row's closed facts alone. THE STATEMENT IS 'LawS0748CInitiatorToldSaid' (YbulkoluFmtCards.lean). -/
def LawS0748CInitiatorFormAsk : Prop := lawS0748CInitiatorRow.holds Ybaf.pinned (OpenSpec.ofChange lawS0748CInitiatorSpec)

/-- ITS FALSE NEIGHBOUR: 'it returns false'. Refute it at one input. -/
def lawS0748CInitiatorWrong : ChangeSpec := { name := "lawS0748CInitiator", fn := fun _ => fun
  | [d1, d2, d3, d4, d5] => { results := [.lit (.bool false)], args := [d1, d2, d3, d4, d5] }
  | _ => none }
def LawS0748CInitiatorWrongFormAsk : Prop := lawS0748CInitiatorRow.holds Ybaf.pinned (OpenSpec.ofChange lawS0748CInitiatorWrong)

/-- 'termination.LawS0748CEngaged': WHATEVER THE INPUT: true; the input reads as it did. -/
def lawS0748CEngagedSpec : ChangeSpec := { name := "lawS0748CEngaged", fn := fun _ => fun
  | [d1, d2, d3, d4, d5, d6, d7] => { results := [.lit (.bool true)], args := [d1, d2, d3, d4, d5, d6, d7] }
  | _ => none }
def lawS0748CEngagedRow : OpenClaim := { program := "ybulkolufmt", sum := "a9086307dbca39476e6e3f62cd52c303e3143d0de618bbea949b74bb4528baed", func := "example.com/lullnet/lullnet/termination.LawS0748CEngaged", spec := "lawS0748CEngaged", stops := ["fmt.Sprintf"], unfollowed := true, recurses := true, apart := false }
/-- NO THEOREM (fmt's text is open here; it may be false): for the released tool's asking of the row's closed facts alone. THE STATEMENT IS 'LawS0748CEngagedToldSaid' (YbulkoluFmtCards.lean). -/
def LawS0748CEngagedFormAsk : Prop := lawS0748CEngagedRow.holds Ybaf.pinned (OpenSpec.ofChange lawS0748CEngagedSpec)

/-- ITS FALSE NEIGHBOUR: 'it returns false'. Refute it at one input. -/
def lawS0748CEngagedWrong : ChangeSpec := { name := "lawS0748CEngaged", fn := fun _ => fun
  | [d1, d2, d3, d4, d5, d6, d7] => { results := [.lit (.bool false)], args := [d1, d2, d3, d4, d5, d6, d7] }
  | _ => none }
def LawS0748CEngagedWrongFormAsk : Prop := lawS0748CEngagedRow.holds Ybaf.pinned (OpenSpec.ofChange lawS0748CEngagedWrong)

end Rows
end Go.Proofs.YbulkoluFmt
