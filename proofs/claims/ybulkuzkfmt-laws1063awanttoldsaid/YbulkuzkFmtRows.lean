/-
  NARROWER THAN 'FOR EVERY INPUT', by the rows' own cells (each row's printed sentence says how): LawS1063AWant: ifaces, laid · LawS1063ADone: ifaces, laid · LawS1063ALent: ifaces, laid.
  DERIVED. THE GIVEN ROWS OF THIS SEAT. 3 by the template 'for every input the law returns true; each argument reads behind the call as it read before'; 0 by the template 'total and deterministic' (their statements: YbulkuzkFmtTotals.lean).
  GIVEN WITH THE SEED: the statements are not yours to turn. If you find one false, say at which input.
  Laid BY PROGRAM, IN A SANDBOX (cutbox-rows.mjs): the forced cells as the released guide's own fill.sh prints them over the translation f1040d91034662fc… (all of the seat's roots in one cut). By AI agents, Wed Nov 11 2026. No macro, syntax, notation, axiom, sorry.
-/
import Derived.Test.YbulkuzkFmtChecked
import GoSem.Claim
import GoSem.ClaimJoined
import GoSem.ClaimMapViews
import Derived.JoinedTies
import Derived.KernelRfl
namespace Go.Proofs.YbulkuzkFmt
/- THE CELL 'sum', in the pinned program and in every row, IS THE sha256 OF THE DUMP (.gsa) THAT YbulkuzkFmtProg.lean LOADS. Nothing in Lean hashes anything: it is a label: what it is worth is what the hold of that sum in a sandbox is worth. -/
noncomputable def Ybaf.pinned : Pinned := { name := "ybulkuzkfmt", sum := "f1040d91034662fc57ae819aecb2728912a4039395bb965a4a8c9b0f12d32dba", checked := Ybaf.checked }
namespace Rows
def none {H : Type} : Left H := { results := [], args := [] }

/- WHAT THE LISTED PACKAGE-LEVEL VARIABLES READ AS WHEN THE CALL BEGINS. Each datum BY PROGRAM (the guide's laid-datum.mjs) off the statement by which the dump's own 'gosem.cut.vars' lays the variable. In a bare row this is a premise. The card (YbulkuzkFmtCards.lean) ties it to the program's text. -/
def laid_io_EOF {H : Type} : DataW H := .iface "*errors.errorString" (.ptr (.agg [.lit (.string [69, 79, 70])]))
def laid_example_com_tocsin_tocsin_wire_ErrProtocol {H : Type} : DataW H := .iface "*errors.errorString" (.ptr (.agg [.lit (.string [110, 111, 116, 32, 116, 104, 101, 32, 116, 111, 99, 115, 105, 110, 32, 112, 114, 111, 116, 111, 99, 111, 108])]))

/-- 'node.LawS1063AWant': WHATEVER THE INPUT: true; the input reads as it did. -/
def lawS1063AWantSpec : ChangeSpec := { name := "lawS1063AWant", vars := ["example.com/tocsin/tocsin/wire.ErrProtocol"], fn := fun _ => fun
  | [d1, d2, d3, g1] => { results := [.lit (.bool true)], args := [d1, d2, d3], vars := [g1] }
  | _ => none }
def lawS1063AWantRow : OpenClaim := { program := "ybulkuzkfmt", sum := "f1040d91034662fc57ae819aecb2728912a4039395bb965a4a8c9b0f12d32dba", func := "example.com/tocsin/tocsin/node.LawS1063AWant", spec := "lawS1063AWant", stops := ["fmt.errorf"], inPlace := ["fmt.errorf", "(*internal/sync.Mutex).Lock", "internal/race.Disable", "sync/atomic.CompareAndSwapInt32", "internal/race.Enable", "internal/race.Acquire", "(*internal/sync.Mutex).lockSlow", "internal/sync.runtime_canSpin", "internal/sync.runtime_doSpin", "internal/sync.throw", "internal/sync.runtime_nanotime", "internal/sync.runtime_SemacquireMutex", "sync/atomic.AddInt32", "(*internal/sync.Mutex).Unlock", "internal/race.ReleaseMerge", "(*internal/sync.Mutex).unlockSlow", "internal/sync.fatal", "internal/sync.runtime_Semrelease", "internal/reflectlite.TypeOf"], unfollowed := true, recurses := true, named := ["encoding/binary.BigEndian", "example.com/tocsin/tocsin/wire.ErrProtocol", "io.EOF"], ifaces := true, apart := false, laid := [("io.EOF", laid_io_EOF), ("example.com/tocsin/tocsin/wire.ErrProtocol", laid_example_com_tocsin_tocsin_wire_ErrProtocol)] }
/-- NO THEOREM (fmt's text is open here; it may be false): for the released tool's asking of the row's closed facts alone. THE STATEMENT IS 'LawS1063AWantToldSaid' (YbulkuzkFmtCards.lean). -/
def LawS1063AWantFormAsk : Prop := lawS1063AWantRow.holds Ybaf.pinned (OpenSpec.ofChange lawS1063AWantSpec)

/-- ITS FALSE NEIGHBOUR: 'it returns false'. Refute it at one input. -/
def lawS1063AWantWrong : ChangeSpec := { name := "lawS1063AWant", vars := ["example.com/tocsin/tocsin/wire.ErrProtocol"], fn := fun _ => fun
  | [d1, d2, d3, g1] => { results := [.lit (.bool false)], args := [d1, d2, d3], vars := [g1] }
  | _ => none }
def LawS1063AWantWrongFormAsk : Prop := lawS1063AWantRow.holds Ybaf.pinned (OpenSpec.ofChange lawS1063AWantWrong)

/-- 'node.LawS1063ADone': WHATEVER THE INPUT: true; the input reads as it did. -/
def lawS1063ADoneSpec : ChangeSpec := { name := "lawS1063ADone", vars := ["example.com/tocsin/tocsin/wire.ErrProtocol"], fn := fun _ => fun
  | [d1, d2, d3, g1] => { results := [.lit (.bool true)], args := [d1, d2, d3], vars := [g1] }
  | _ => none }
def lawS1063ADoneRow : OpenClaim := { program := "ybulkuzkfmt", sum := "f1040d91034662fc57ae819aecb2728912a4039395bb965a4a8c9b0f12d32dba", func := "example.com/tocsin/tocsin/node.LawS1063ADone", spec := "lawS1063ADone", stops := ["fmt.errorf"], inPlace := ["fmt.errorf", "(*internal/sync.Mutex).Lock", "internal/race.Disable", "sync/atomic.CompareAndSwapInt32", "internal/race.Enable", "internal/race.Acquire", "(*internal/sync.Mutex).lockSlow", "internal/sync.runtime_canSpin", "internal/sync.runtime_doSpin", "internal/sync.throw", "internal/sync.runtime_nanotime", "internal/sync.runtime_SemacquireMutex", "sync/atomic.AddInt32", "(*internal/sync.Mutex).Unlock", "internal/race.ReleaseMerge", "(*internal/sync.Mutex).unlockSlow", "internal/sync.fatal", "internal/sync.runtime_Semrelease", "internal/reflectlite.TypeOf"], unfollowed := true, recurses := true, named := ["example.com/tocsin/tocsin/wire.ErrProtocol", "io.EOF", "encoding/binary.BigEndian"], ifaces := true, apart := false, laid := [("io.EOF", laid_io_EOF), ("example.com/tocsin/tocsin/wire.ErrProtocol", laid_example_com_tocsin_tocsin_wire_ErrProtocol)] }
/-- NO THEOREM (fmt's text is open here; it may be false): for the released tool's asking of the row's closed facts alone. THE STATEMENT IS 'LawS1063ADoneToldSaid' (YbulkuzkFmtCards.lean). -/
def LawS1063ADoneFormAsk : Prop := lawS1063ADoneRow.holds Ybaf.pinned (OpenSpec.ofChange lawS1063ADoneSpec)

/-- ITS FALSE NEIGHBOUR: 'it returns false'. Refute it at one input. -/
def lawS1063ADoneWrong : ChangeSpec := { name := "lawS1063ADone", vars := ["example.com/tocsin/tocsin/wire.ErrProtocol"], fn := fun _ => fun
  | [d1, d2, d3, g1] => { results := [.lit (.bool false)], args := [d1, d2, d3], vars := [g1] }
  | _ => none }
def LawS1063ADoneWrongFormAsk : Prop := lawS1063ADoneRow.holds Ybaf.pinned (OpenSpec.ofChange lawS1063ADoneWrong)

/-- 'node.LawS1063ALent': WHATEVER THE INPUT: true; the input reads as it did. -/
def lawS1063ALentSpec : ChangeSpec := { name := "lawS1063ALent", vars := ["example.com/tocsin/tocsin/wire.ErrProtocol"], fn := fun _ => fun
  | [d1, d2, d3, d4, d5, d6, g1] => { results := [.lit (.bool true)], args := [d1, d2, d3, d4, d5, d6], vars := [g1] }
  | _ => none }
def lawS1063ALentRow : OpenClaim := { program := "ybulkuzkfmt", sum := "f1040d91034662fc57ae819aecb2728912a4039395bb965a4a8c9b0f12d32dba", func := "example.com/tocsin/tocsin/node.LawS1063ALent", spec := "lawS1063ALent", stops := ["fmt.errorf"], inPlace := ["fmt.errorf", "(*internal/sync.Mutex).Lock", "internal/race.Disable", "sync/atomic.CompareAndSwapInt32", "internal/race.Enable", "internal/race.Acquire", "(*internal/sync.Mutex).lockSlow", "internal/sync.runtime_canSpin", "internal/sync.runtime_doSpin", "internal/sync.throw", "internal/sync.runtime_nanotime", "internal/sync.runtime_SemacquireMutex", "sync/atomic.AddInt32", "(*internal/sync.Mutex).Unlock", "internal/race.ReleaseMerge", "(*internal/sync.Mutex).unlockSlow", "internal/sync.fatal", "internal/sync.runtime_Semrelease", "internal/reflectlite.TypeOf"], unfollowed := true, recurses := true, named := ["example.com/tocsin/tocsin/wire.ErrProtocol", "io.EOF", "encoding/binary.BigEndian"], ifaces := true, apart := false, laid := [("io.EOF", laid_io_EOF), ("example.com/tocsin/tocsin/wire.ErrProtocol", laid_example_com_tocsin_tocsin_wire_ErrProtocol)] }
/-- NO THEOREM (fmt's text is open here; it may be false): for the released tool's asking of the row's closed facts alone. THE STATEMENT IS 'LawS1063ALentToldSaid' (YbulkuzkFmtCards.lean). -/
def LawS1063ALentFormAsk : Prop := lawS1063ALentRow.holds Ybaf.pinned (OpenSpec.ofChange lawS1063ALentSpec)

/-- ITS FALSE NEIGHBOUR: 'it returns false'. Refute it at one input. -/
def lawS1063ALentWrong : ChangeSpec := { name := "lawS1063ALent", vars := ["example.com/tocsin/tocsin/wire.ErrProtocol"], fn := fun _ => fun
  | [d1, d2, d3, d4, d5, d6, g1] => { results := [.lit (.bool false)], args := [d1, d2, d3, d4, d5, d6], vars := [g1] }
  | _ => none }
def LawS1063ALentWrongFormAsk : Prop := lawS1063ALentRow.holds Ybaf.pinned (OpenSpec.ofChange lawS1063ALentWrong)

end Rows
end Go.Proofs.YbulkuzkFmt
