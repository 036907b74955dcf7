/-
  No cell of these rows narrows 'for every input' (looked for: loops, veiled, ifaces, maps, wideKeys, modest, calm, conditions, laid).
  DERIVED. THE GIVEN ROWS OF THIS SEAT. 4 by the template 'for every input the law returns true; each argument reads behind the call as it read before'; 0 by the template 'total and deterministic' (their statements: YbulkuzyTotals.lean).
  GIVEN WITH THE SEED: the statements are not yours to turn. If you find one false, say at which input.
  Laid BY PROGRAM, IN A SANDBOX (cutbox-rows.mjs): the forced cells as the released guide's own fill.sh prints them over the translation 865287086273b75e… (all of the seat's roots in one cut). By AI agents, Wed Nov 11 2026. No macro, syntax, notation, axiom, sorry.
-/
import Derived.Test.YbulkuzyChecked
import GoSem.Claim
import GoSem.ClaimJoined
import GoSem.ClaimMapViews
import Derived.JoinedTies
import Derived.KernelRfl
namespace Go.Proofs.Ybulkuzy
/- THE CELL 'sum', in the pinned program and in every row, IS THE sha256 OF THE DUMP (.gsa) THAT YbulkuzyProg.lean LOADS. Nothing in Lean hashes anything: it is a label: what it is worth is what the hold of that sum in a sandbox is worth. -/
noncomputable def Yba.pinned : Pinned := { name := "ybulkuzy", sum := "865287086273b75e949c84f4f5794e8b46ebb7476b257f96036dd6e620312afd", checked := Yba.checked }
namespace Rows
def none {H : Type} : Left H := { results := [], args := [] }

/-- 'fragmenta.LawS1064AWalk': WHATEVER THE INPUT: true; the input reads as it did. -/
def lawS1064AWalkSpec : ChangeSpec := { name := "lawS1064AWalk", fn := fun _ => fun
  | [d1, d2, d3, d4] => { results := [.lit (.bool true)], args := [d1, d2, d3, d4] }
  | _ => none }
def lawS1064AWalkRow : OpenClaim := { program := "ybulkuzy", sum := "865287086273b75e949c84f4f5794e8b46ebb7476b257f96036dd6e620312afd", func := "example.com/fragmenta/fragmenta.LawS1064AWalk", spec := "lawS1064AWalk", unfollowed := true, recurses := true, apart := false }
def LawS1064AWalkSaid : Prop := lawS1064AWalkRow.holds Yba.pinned (OpenSpec.ofChange lawS1064AWalkSpec)

/-- ITS FALSE NEIGHBOUR: 'it returns false'. Refute it at one input. -/
def lawS1064AWalkWrong : ChangeSpec := { name := "lawS1064AWalk", fn := fun _ => fun
  | [d1, d2, d3, d4] => { results := [.lit (.bool false)], args := [d1, d2, d3, d4] }
  | _ => none }
def LawS1064AWalkWrongFalsely : Prop := lawS1064AWalkRow.holds Yba.pinned (OpenSpec.ofChange lawS1064AWalkWrong)

/-- 'fragmenta.LawS1064AMissing': WHATEVER THE INPUT: true; the input reads as it did. -/
def lawS1064AMissingSpec : ChangeSpec := { name := "lawS1064AMissing", fn := fun _ => fun
  | [d1, d2, d3] => { results := [.lit (.bool true)], args := [d1, d2, d3] }
  | _ => none }
def lawS1064AMissingRow : OpenClaim := { program := "ybulkuzy", sum := "865287086273b75e949c84f4f5794e8b46ebb7476b257f96036dd6e620312afd", func := "example.com/fragmenta/fragmenta.LawS1064AMissing", spec := "lawS1064AMissing", unfollowed := true, recurses := true, apart := false }
def LawS1064AMissingSaid : Prop := lawS1064AMissingRow.holds Yba.pinned (OpenSpec.ofChange lawS1064AMissingSpec)

/-- ITS FALSE NEIGHBOUR: 'it returns false'. Refute it at one input. -/
def lawS1064AMissingWrong : ChangeSpec := { name := "lawS1064AMissing", fn := fun _ => fun
  | [d1, d2, d3] => { results := [.lit (.bool false)], args := [d1, d2, d3] }
  | _ => none }
def LawS1064AMissingWrongFalsely : Prop := lawS1064AMissingRow.holds Yba.pinned (OpenSpec.ofChange lawS1064AMissingWrong)

/-- 'rtcp.LawS1064CMatches': WHATEVER THE INPUT: true; the input reads as it did. -/
def lawS1064CMatchesSpec : ChangeSpec := { name := "lawS1064CMatches", fn := fun _ => fun
  | [d1, d2, d3] => { results := [.lit (.bool true)], args := [d1, d2, d3] }
  | _ => none }
def lawS1064CMatchesRow : OpenClaim := { program := "ybulkuzy", sum := "865287086273b75e949c84f4f5794e8b46ebb7476b257f96036dd6e620312afd", func := "example.com/fragmenta/fragmenta/rtcp.LawS1064CMatches", spec := "lawS1064CMatches", apart := false }
def LawS1064CMatchesSaid : Prop := lawS1064CMatchesRow.holds Yba.pinned (OpenSpec.ofChange lawS1064CMatchesSpec)

/-- ITS FALSE NEIGHBOUR: 'it returns false'. Refute it at one input. -/
def lawS1064CMatchesWrong : ChangeSpec := { name := "lawS1064CMatches", fn := fun _ => fun
  | [d1, d2, d3] => { results := [.lit (.bool false)], args := [d1, d2, d3] }
  | _ => none }
def LawS1064CMatchesWrongFalsely : Prop := lawS1064CMatchesRow.holds Yba.pinned (OpenSpec.ofChange lawS1064CMatchesWrong)

/-- 'rtcp.LawS1064CMonotone': WHATEVER THE INPUT: true; the input reads as it did. -/
def lawS1064CMonotoneSpec : ChangeSpec := { name := "lawS1064CMonotone", fn := fun _ => fun
  | [d1, d2, d3, d4, d5] => { results := [.lit (.bool true)], args := [d1, d2, d3, d4, d5] }
  | _ => none }
def lawS1064CMonotoneRow : OpenClaim := { program := "ybulkuzy", sum := "865287086273b75e949c84f4f5794e8b46ebb7476b257f96036dd6e620312afd", func := "example.com/fragmenta/fragmenta/rtcp.LawS1064CMonotone", spec := "lawS1064CMonotone", apart := false }
def LawS1064CMonotoneSaid : Prop := lawS1064CMonotoneRow.holds Yba.pinned (OpenSpec.ofChange lawS1064CMonotoneSpec)

/-- ITS FALSE NEIGHBOUR: 'it returns false'. Refute it at one input. -/
def lawS1064CMonotoneWrong : ChangeSpec := { name := "lawS1064CMonotone", fn := fun _ => fun
  | [d1, d2, d3, d4, d5] => { results := [.lit (.bool false)], args := [d1, d2, d3, d4, d5] }
  | _ => none }
def LawS1064CMonotoneWrongFalsely : Prop := lawS1064CMonotoneRow.holds Yba.pinned (OpenSpec.ofChange lawS1064CMonotoneWrong)

end Rows
end Go.Proofs.Ybulkuzy
