/-
  No cell of these rows narrows 'for every input' (looked for: loops, veiled, ifaces, maps, wideKeys, modest, calm, conditions, laid).
  DERIVED. THE GIVEN ROWS OF THIS SEAT. 2 by the template 'for every input the law returns true; each argument reads behind the call as it read before'; 0 by the template 'total and deterministic' (their statements: YbulkvdsTotals.lean).
  GIVEN WITH THE SEED: the statements are not yours to turn. If you find one false, say at which input.
  Laid BY PROGRAM, IN A SANDBOX (cutbox-rows.mjs): the forced cells as the released guide's own fill.sh prints them over the translation 1e8db6116fcedf00… (all of the seat's roots in one cut). By AI agents, Wed Nov 11 2026. No macro, syntax, notation, axiom, sorry.
-/
import Derived.Test.YbulkvdsChecked
import GoSem.Claim
import GoSem.ClaimJoined
import GoSem.ClaimMapViews
import Derived.JoinedTies
import Derived.KernelRfl
namespace Go.Proofs.Ybulkvds
/- THE CELL 'sum', in the pinned program and in every row, IS THE sha256 OF THE DUMP (.gsa) THAT YbulkvdsProg.lean LOADS. Nothing in Lean hashes anything: it is a label: what it is worth is what the hold of that sum in a sandbox is worth. -/
noncomputable def Yba.pinned : Pinned := { name := "ybulkvds", sum := "1e8db6116fcedf000a7fe872179bd3d43ac0275981dfe52195f54aa01a5314b0", checked := Yba.checked }
namespace Rows
def none {H : Type} : Left H := { results := [], args := [] }

/-- 'transaction.LawS1071AExact': WHATEVER THE INPUT: true; the input reads as it did. -/
def lawS1071AExactSpec : ChangeSpec := { name := "lawS1071AExact", fn := fun _ => fun
  | [d1, d2, d3, d4] => { results := [.lit (.bool true)], args := [d1, d2, d3, d4] }
  | _ => none }
def lawS1071AExactRow : OpenClaim := { program := "ybulkvds", sum := "1e8db6116fcedf000a7fe872179bd3d43ac0275981dfe52195f54aa01a5314b0", func := "example.com/tideway/tideway/internal/transaction.LawS1071AExact", spec := "lawS1071AExact", apart := false }
def LawS1071AExactSaid : Prop := lawS1071AExactRow.holds Yba.pinned (OpenSpec.ofChange lawS1071AExactSpec)

/-- ITS FALSE NEIGHBOUR: 'it returns false'. Refute it at one input. -/
def lawS1071AExactWrong : ChangeSpec := { name := "lawS1071AExact", fn := fun _ => fun
  | [d1, d2, d3, d4] => { results := [.lit (.bool false)], args := [d1, d2, d3, d4] }
  | _ => none }
def LawS1071AExactWrongFalsely : Prop := lawS1071AExactRow.holds Yba.pinned (OpenSpec.ofChange lawS1071AExactWrong)

/-- 'transaction.LawS1071ABound': WHATEVER THE INPUT: true; the input reads as it did. -/
def lawS1071ABoundSpec : ChangeSpec := { name := "lawS1071ABound", fn := fun _ => fun
  | [d1, d2, d3] => { results := [.lit (.bool true)], args := [d1, d2, d3] }
  | _ => none }
def lawS1071ABoundRow : OpenClaim := { program := "ybulkvds", sum := "1e8db6116fcedf000a7fe872179bd3d43ac0275981dfe52195f54aa01a5314b0", func := "example.com/tideway/tideway/internal/transaction.LawS1071ABound", spec := "lawS1071ABound", apart := false }
def LawS1071ABoundSaid : Prop := lawS1071ABoundRow.holds Yba.pinned (OpenSpec.ofChange lawS1071ABoundSpec)

/-- ITS FALSE NEIGHBOUR: 'it returns false'. Refute it at one input. -/
def lawS1071ABoundWrong : ChangeSpec := { name := "lawS1071ABound", fn := fun _ => fun
  | [d1, d2, d3] => { results := [.lit (.bool false)], args := [d1, d2, d3] }
  | _ => none }
def LawS1071ABoundWrongFalsely : Prop := lawS1071ABoundRow.holds Yba.pinned (OpenSpec.ofChange lawS1071ABoundWrong)

end Rows
end Go.Proofs.Ybulkvds
