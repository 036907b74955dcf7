/-
  THE CLOSED FACTS FOR THE WALK OVER fmt.errorf (37) at "%w: a Want before the last was answered" with one operand, a sentinel of errors.New's make; the walk of fmt.Errorf (18) there; errors.Is (11, 26) at what it hands back.
-/
import Derived.Test.YbulkuzkFmtFr
import Derived.Stop.CallBack
import Derived.Stop.IfaceNil
import GoSem.ClaimData
import Derived.LaidEql
import Derived.Stop.Asserts
import Derived.RowKitTokens
namespace Go.Proofs
open Go.Extern.Stop Go.Stop Go.Extern

@[go_sem] theorem Ybaf.call37 (args : Array Value) (w : World) : (callFunc 37 args).run Ybaf.prog w = ((FmtStop.errorf #[9, 111] #[56] args).run Ybaf.prog w).andThen fun v w' => .ok (.value v) w' :=
  run_callFunc_extern Ybaf.func37 (by kernel_rfl) (by kernel_rfl) (by kernel_rfl) (by kernel_rfl) args w
@[go_sem] theorem Ybaf.guard (name : String) (w : World) : (FmtStop.guard name).run Ybaf.prog w = .ok () w := by kernel_rfl
def Ybaf.wantText : ByteArray := ⟨#[37, 119, 58, 32, 97, 32, 87, 97, 110, 116, 32, 98, 101, 102, 111, 114, 101, 32, 116, 104, 101, 32, 108, 97, 115, 116, 32, 119, 97, 115, 32, 97, 110, 115, 119, 101, 114, 101, 100]⟩
@[go_sem] theorem Ybaf.fmt0 : FmtStop.printed? ⟨#[37, 119, 58, 32, 97, 32, 87, 97, 110, 116, 32, 98, 101, 102, 111, 114, 101, 32, 116, 104, 101, 32, 108, 97, 115, 116, 32, 119, 97, 115, 32, 97, 110, 115, 119, 101, 114, 101, 100]⟩ 1 = some [(0, 119, false)] := by kernel_rfl
@[go_sem] theorem Ybaf.fmt0r (w : World) : (FmtDoors.printed ⟨#[37, 119, 58, 32, 97, 32, 87, 97, 110, 116, 32, 98, 101, 102, 111, 114, 101, 32, 116, 104, 101, 32, 108, 97, 115, 116, 32, 119, 97, 115, 32, 97, 110, 115, 119, 101, 114, 101, 100]⟩ 1).run Ybaf.prog w = .ok [(0, 119, false)] w := by kernel_rfl
@[go_sem] theorem Ybaf.fmt1 : FmtStop.printed? ⟨#[37, 119, 58, 32, 97, 32, 87, 97, 110, 116, 32, 98, 101, 102, 111, 114, 101, 32, 116, 104, 101, 32, 108, 97, 115, 116, 32, 119, 97, 115, 32, 97, 110, 115, 119, 101, 114, 101, 100]⟩ 0 = some [] := by kernel_rfl
@[go_sem] theorem Ybaf.fmt1r (w : World) : (FmtDoors.printed ⟨#[37, 119, 58, 32, 97, 32, 87, 97, 110, 116, 32, 98, 101, 102, 111, 114, 101, 32, 116, 104, 101, 32, 108, 97, 115, 116, 32, 119, 97, 115, 32, 97, 110, 115, 119, 101, 114, 101, 100]⟩ 0).run Ybaf.prog w = .ok [] w := by kernel_rfl
@[go_sem] theorem Ybaf.ptr99 (w : World) : (FmtStop.ptrTo "errors.errorString").run Ybaf.prog w = .ok 99 w := by kernel_rfl
@[go_sem] theorem Ybaf.elem99 (w : World) : (elemOf 99).run Ybaf.prog w = .ok 101 w := by kernel_rfl
@[go_sem] theorem Ybaf.isError99' (w : World) : (FmtDoors.textMethod 99 "Error").run Ybaf.prog w = .ok true w := by kernel_rfl
theorem Ybaf.name99 : Ybaf.prog.typeName? 3 99 = some "*errors.errorString" := by kernel_rfl
def Ybaf.plain99 : List UInt8 := 14 :: FmtStop.pack "*errors.errorString".toUTF8.data.toList
theorem Ybaf.opPlain99_119w (name : String) (a : Addr) (s : ByteArray) (w : World) (hc : w.cell? a = some (.string s)) :
    (FmtStop.operand name true 119 false (.iface 99 (.pointer (some a)))).run Ybaf.prog w = .ok (Ybaf.plain99, s.data.toList) w := by
  have h1 : (typeStr 99).run Ybaf.prog w = .ok "*errors.errorString" w := by kernel_rfl
  have d2 : Ybaf.t99.desc = .pointer 101 := rfl
  have d3 : Ybaf.t101.desc = .named "errors.errorString" 100 := rfl
  simp [FmtStop.operand, h1, d2, d3, run_load, hc, Ybaf.plain99]
@[go_sem] theorem Ybaf.ptr112 (w : World) : (FmtStop.ptrTo "fmt.wrapError").run Ybaf.prog w = .ok 112 w := by kernel_rfl
@[go_sem] theorem Ybaf.elem112 (w : World) : (elemOf 112).run Ybaf.prog w = .ok 186 w := by kernel_rfl
@[go_sem] theorem Ybaf.isError112' (w : World) : (FmtDoors.textMethod 112 "Error").run Ybaf.prog w = .ok true w := by kernel_rfl

namespace YbulkuzkFmt
open Go.RowKit

/-- the call hands back a new *fmt.wrapError that holds the sentinel -/
def ErrPost (a1 : Addr) (w w' : World) (e : Ending) : Prop := ∃ q t, e = .returned (.iface 112 (.pointer (some ⟨q, 0, none⟩))) ∧ w.heap.size ≤ q ∧ Box w' q #[.string t, .iface 99 (.pointer (some a1))] 186 ∧ Below w.heap.size w w'

set_option maxRecDepth 100000 in
theorem errorf_any (F : Interp) (g : Nat) (a1 : Addr) (s : ByteArray) (w : World) (hF : F.answers w.tape) (hg : w.cell? ⟨g, 0, none⟩ = some (.iface 99 (.pointer (some a1)))) (hs : w.cell? a1 = some (.string s)) :
    Calls Ybaf.prog 18 #[.string ⟨#[37, 119, 58, 32, 97, 32, 87, 97, 110, 116, 32, 98, 101, 102, 111, 114, 101, 32, 116, 104, 101, 32, 108, 97, 115, 116, 32, 119, 97, 115, 32, 97, 110, 115, 119, 101, 114, 101, 100]⟩, .slice (some ⟨g, 0, none⟩) 1 1] w fun e w' => ErrPost a1 w w' e := by
  have hF' : ∀ i name reading k range, w.tape i (.extern (word name reading k) range) = F name reading k := hF
  have hop := Ybaf.opPlain99_119w "fmt.errorf" a1 s _ hs
  go_enter Ybaf.func18, Ybaf.ntmps18
  go_wp2
  go_ret
  exact ⟨w.heap.size, _, rfl, Nat.le_refl _, Box.new w _ _, ((Below.refl _ _).alloc (Nat.le_refl _) _).drew⟩

/-! ### errors.Is (11) at a *fmt.wrapError that wraps the sentinel itself (after the guide's SentryIs.lean) -/
theorem Ybaf.isTypeOf (v : Value) (w : World) : (Extern.ReflectliteType.typeOf #[.iface 99 v]).run Ybaf.prog w = .ok (.iface 120 (.agg #[.pointer (some ⟨4, 99, none⟩)])) w := by kernel_rfl
theorem Ybaf.isComparable (w : World) : (callFunc 97 #[.agg #[.pointer (some ⟨4, 99, none⟩)]]).run Ybaf.prog w = .ok (.value (.bool true)) w := by kernel_rfl
theorem Ybaf.isMethodComparable (v : Value) (w : World) : (Go.method 313 120 v "Comparable").run Ybaf.prog w = .ok (97, v) w := by kernel_rfl
theorem Ybaf.isComp : (Ybaf.prog.info? 99).map (·.comparable) = some true := by kernel_rfl
theorem Ybaf.isSize : (Ybaf.prog.info? 101).map (·.size) = some 1 := by kernel_rfl
theorem Ybaf.noIsE (v : Value) (xT : TypeId) (w : World) : (Instr.typeAssert (.iface 99 v) xT 122 true).run Ybaf.prog w = .ok (.tuple #[.nilIface, .bool false]) w := run_typeAssert_lacksB Ybaf.underlying122 (by kernel_rfl) (by kernel_rfl) v xT w
theorem Ybaf.noIsW (v : Value) (xT : TypeId) (w : World) : (Instr.typeAssert (.iface 112 v) xT 122 true).run Ybaf.prog w = .ok (.tuple #[.nilIface, .bool false]) w := run_typeAssert_lacksB Ybaf.underlying122 (by kernel_rfl) (by kernel_rfl) v xT w
theorem Ybaf.hasUnwrapW (v : Value) (xT : TypeId) (w : World) : (Instr.typeAssert (.iface 112 v) xT 125 true).run Ybaf.prog w = .ok (.tuple #[.iface 112 v, .bool true]) w := run_typeAssert_hasB Ybaf.underlying125 (by kernel_rfl) v xT w
theorem Ybaf.methodUnwrap (v : Value) (w : World) : (Go.method 313 112 v "Unwrap").run Ybaf.prog w = .ok (93, v) w := by kernel_rfl

set_option maxRecDepth 100000 in
theorem is_any (q : Nat) (a1 : Addr) (w : World) (h1 : w.cell? ⟨q, 1, none⟩ = some (.iface 99 (.pointer (some a1)))) :
    Calls Ybaf.prog 11 #[.iface 112 (.pointer (some ⟨q, 0, none⟩)), .iface 99 (.pointer (some a1))] w fun e w' => e = .returned (.bool true) ∧ w' = w := by
  obtain ⟨i, hi, hcmp⟩ := Option.map_eq_some_iff.1 Ybaf.isComp
  obtain ⟨j, hj, hjs⟩ := Option.map_eq_some_iff.1 Ybaf.isSize
  have h8 := @run_callFunc_extern Ybaf.prog 25 _ Extern.ReflectliteType.typeOf Ybaf.func25 (by kernel_rfl) (by kernel_rfl) (by kernel_rfl) (by kernel_rfl)
  have tT := Ybaf.isTypeOf
  have cT := Ybaf.isComparable
  have mR := Ybaf.isMethodComparable
  have nE := Ybaf.noIsE
  have nW := Ybaf.noIsW
  have uW := Ybaf.hasUnwrapW
  have mU := Ybaf.methodUnwrap
  have heq := run_eql_iface_ptr_same (P := Ybaf.prog) w a1 Ybaf.underlying56 Ybaf.underlying99 hi hcmp hj
  have hty := run_eql_iface_types (P := Ybaf.prog) 112 99 (.pointer (some ⟨q, 0, none⟩)) (.pointer (some a1)) Ybaf.underlying56 (by decide) w
  go_enter Ybaf.func11, Ybaf.ntmps11
  go_wp2
  refine wp_loop_rounds 2 ?_
  rw [rounds_succ]
  go_wp2
  rw [rounds_succ]
  go_wp2
  go_ret
  exact ⟨rfl, rfl⟩
end YbulkuzkFmt
end Go.Proofs
