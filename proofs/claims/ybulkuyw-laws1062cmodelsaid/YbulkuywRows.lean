/-
  No cell of these rows narrows 'for every input' (looked for: loops, veiled, ifaces, maps, wideKeys, modest, calm, conditions, laid).
  DERIVED. THE GIVEN ROWS OF THIS SEAT. 2 by the template 'for every input the law returns true; each argument reads behind the call as it read before'; 0 by the template 'total and deterministic' (their statements: YbulkuywTotals.lean).
  GIVEN WITH THE SEED: the statements are not yours to turn. If you find one false, say at which input.
  Laid BY PROGRAM, IN A SANDBOX (cutbox-rows.mjs): the forced cells as the released guide's own fill.sh prints them over the translation b1331741723bbc9f… (all of the seat's roots in one cut). By AI agents, Wed Nov 11 2026. No macro, syntax, notation, axiom, sorry.
-/
import Derived.Test.YbulkuywChecked
import GoSem.Claim
import GoSem.ClaimJoined
import GoSem.ClaimMapViews
import Derived.JoinedTies
import Derived.KernelRfl
namespace Go.Proofs.Ybulkuyw
/- THE CELL 'sum', in the pinned program and in every row, IS THE sha256 OF THE DUMP (.gsa) THAT YbulkuywProg.lean LOADS. Nothing in Lean hashes anything: it is a label: what it is worth is what the hold of that sum in a sandbox is worth. -/
noncomputable def Yba.pinned : Pinned := { name := "ybulkuyw", sum := "b1331741723bbc9fb7f251a99946de8f14d1c42194786e0d7aa1298b9e8e42fe", checked := Yba.checked }
namespace Rows
def none {H : Type} : Left H := { results := [], args := [] }

/-- 'protocol.LawS1062CModel': WHATEVER THE INPUT: true; the input reads as it did. -/
def lawS1062CModelSpec : ChangeSpec := { name := "lawS1062CModel", fn := fun _ => fun
  | [d1, d2, d3] => { results := [.lit (.bool true)], args := [d1, d2, d3] }
  | _ => none }
def lawS1062CModelRow : OpenClaim := { program := "ybulkuyw", sum := "b1331741723bbc9fb7f251a99946de8f14d1c42194786e0d7aa1298b9e8e42fe", func := "example.com/trustgate/trustgate/internal/protocol.LawS1062CModel", spec := "lawS1062CModel", unfollowed := true, recurses := true, plainKeys := false, apart := false }
def LawS1062CModelSaid : Prop := lawS1062CModelRow.holds Yba.pinned (OpenSpec.ofChange lawS1062CModelSpec)

/-- ITS FALSE NEIGHBOUR: 'it returns false'. Refute it at one input. -/
def lawS1062CModelWrong : ChangeSpec := { name := "lawS1062CModel", fn := fun _ => fun
  | [d1, d2, d3] => { results := [.lit (.bool false)], args := [d1, d2, d3] }
  | _ => none }
def LawS1062CModelWrongFalsely : Prop := lawS1062CModelRow.holds Yba.pinned (OpenSpec.ofChange lawS1062CModelWrong)

/-- 'protocol.LawS1062CKeepingLater': WHATEVER THE INPUT: true; the input reads as it did. -/
def lawS1062CKeepingLaterSpec : ChangeSpec := { name := "lawS1062CKeepingLater", fn := fun _ => fun
  | [d1, d2] => { results := [.lit (.bool true)], args := [d1, d2] }
  | _ => none }
def lawS1062CKeepingLaterRow : OpenClaim := { program := "ybulkuyw", sum := "b1331741723bbc9fb7f251a99946de8f14d1c42194786e0d7aa1298b9e8e42fe", func := "example.com/trustgate/trustgate/internal/protocol.LawS1062CKeepingLater", spec := "lawS1062CKeepingLater", unfollowed := true, recurses := true, plainKeys := false, apart := false }
def LawS1062CKeepingLaterSaid : Prop := lawS1062CKeepingLaterRow.holds Yba.pinned (OpenSpec.ofChange lawS1062CKeepingLaterSpec)

/-- ITS FALSE NEIGHBOUR: 'it returns false'. Refute it at one input. -/
def lawS1062CKeepingLaterWrong : ChangeSpec := { name := "lawS1062CKeepingLater", fn := fun _ => fun
  | [d1, d2] => { results := [.lit (.bool false)], args := [d1, d2] }
  | _ => none }
def LawS1062CKeepingLaterWrongFalsely : Prop := lawS1062CKeepingLaterRow.holds Yba.pinned (OpenSpec.ofChange lawS1062CKeepingLaterWrong)

end Rows
end Go.Proofs.Ybulkuyw
