/-
  encoding/binary.BigEndian's Uint16, Uint64, AppendUint16, AppendUint64 AT THIS DUMP: the shelf's contracts, laid in plain words (the kit's own tool lay-plain.mjs wrote it for this program).
-/
import Derived.Shelf.Bin.BEUint16
import Derived.Shelf.Bin.BEAppendUint16
import Derived.Shelf.Bin.BEUint64
import Derived.Shelf.Bin.BEAppendUint64
import Derived.Test.YbulkuzkFmtRows
namespace Go.Proofs
open Go.Shelf
def Ybaf.laysBin36_ren : Go.Shelf.Ren := ⟨fun | 36 => 44 | n => n, fun | 37 => 27 | 22 => 25 | 23 => 30 | 0 => 0 | 5 => 5 | 45 => 31 | n => n, fun | n => n⟩
theorem Ybaf.laysBin36 : Go.Proofs.LaysBin.n36 Ybaf.prog Ybaf.laysBin36_ren := {
  mixed := by kernel_rfl
  f36 := Ybaf.func44.trans (congrArg some (by kernel_rfl))
  t0 := Ybaf.underlying0
  a0 := Ybaf.isAgg0
  z0 := Ybaf.sizeOf0
  v0 := Ybaf.zeroValue0
  i0 := by kernel_rfl
  t5 := Ybaf.underlying5
  a5 := Ybaf.isAgg5
  z5 := Ybaf.sizeOf5
  v5 := Ybaf.zeroValue5
  i5 := by kernel_rfl
  t22 := Ybaf.underlying25
  a22 := Ybaf.isAgg25
  z22 := Ybaf.sizeOf25
  v22 := Ybaf.zeroValue25
  i22 := by kernel_rfl
  t23 := Ybaf.underlying30
  a23 := Ybaf.isAgg30
  z23 := Ybaf.sizeOf30
  v23 := Ybaf.zeroValue30
  i23 := by kernel_rfl
  t37 := Ybaf.underlying27
  a37 := Ybaf.isAgg27
  z37 := Ybaf.sizeOf27
  v37 := Ybaf.zeroValue27
  i37 := by kernel_rfl
  t45 := Ybaf.underlying31
  a45 := Ybaf.isAgg31
  z45 := Ybaf.sizeOf31
  v45 := Ybaf.zeroValue31
  i45 := by kernel_rfl }
open Go.RowKit in
/-- binary.BigEndian.Uint16: "Uint16 returns the uint16 representation of b[0:2].": THE NUMBER THAT THE FIRST 2 BYTES SPELL, the greatest byte first ('Lib.beNat'). Of what was there nothing has turned (the receiver, an empty struct, is laid in a new block without cells; the statement's order is drawn). (LAID: no walk: one application.) -/
theorem Ybaf.binary_BE_Uint16 (g o n c : Nat) (b0 b1 : UInt8) (w : World) (hn : 2 ≤ n) (c0 : w.cell? ⟨g, o, none⟩ = some (.int .u8 b0.toNat)) (c1 : w.cell? ⟨g, o + 1, none⟩ = some (.int .u8 b1.toNat)) :
    Calls Ybaf.prog 44 #[.agg #[], .slice (some ⟨g, o, none⟩) n c] w fun e w' => e = .returned (.int .u16 (Lib.beNat [b0, b1])) ∧ Below w.heap.size w w' := Any.binary_BE_Uint16 Ybaf.laysBin36 g o n c b0 b1 w hn c0 c1
def Ybaf.laysBin38_ren : Go.Shelf.Ren := ⟨fun | 38 => 7 | n => n, fun | 37 => 27 | 22 => 25 | 23 => 30 | 0 => 0 | 45 => 31 | 5 => 5 | n => n, fun | n => n⟩
theorem Ybaf.laysBin38 : Go.Proofs.LaysBin.n38 Ybaf.prog Ybaf.laysBin38_ren := {
  mixed := by kernel_rfl
  f38 := Ybaf.func7.trans (congrArg some (by kernel_rfl))
  t0 := Ybaf.underlying0
  a0 := Ybaf.isAgg0
  z0 := Ybaf.sizeOf0
  v0 := Ybaf.zeroValue0
  i0 := by kernel_rfl
  t5 := Ybaf.underlying5
  a5 := Ybaf.isAgg5
  z5 := Ybaf.sizeOf5
  v5 := Ybaf.zeroValue5
  i5 := by kernel_rfl
  t22 := Ybaf.underlying25
  a22 := Ybaf.isAgg25
  z22 := Ybaf.sizeOf25
  v22 := Ybaf.zeroValue25
  i22 := by kernel_rfl
  t23 := Ybaf.underlying30
  a23 := Ybaf.isAgg30
  z23 := Ybaf.sizeOf30
  v23 := Ybaf.zeroValue30
  i23 := by kernel_rfl
  t37 := Ybaf.underlying27
  a37 := Ybaf.isAgg27
  z37 := Ybaf.sizeOf27
  v37 := Ybaf.zeroValue27
  i37 := by kernel_rfl
  t45 := Ybaf.underlying31
  a45 := Ybaf.isAgg31
  z45 := Ybaf.sizeOf31
  v45 := Ybaf.zeroValue31
  i45 := by kernel_rfl }
open Go.RowKit in
/-- binary.BigEndian.AppendUint16: "AppendUint16 appends the bytes of v to b and returns the appended slice.": WHAT COMES BACK OWNS b's CELLS AND, BEHIND THEM, v's 2 BYTES, the greatest first ('Lib.beBytes 2 v'). Below the call's own blocks nothing has turned. (LAID: no walk: one application.) -/
theorem Ybaf.binary_BE_AppendUint16 (B n v : Nat) (hv : v < 65536) (sv : Value) (xs : List Value) (w : World) (hown : w.ownsRow B 5 1 sv n xs) (hBw : B ≤ w.heap.size) (hlim : n + 2 ≤ 140737488355328) :
    Calls Ybaf.prog 7 #[.agg #[], sv, .int .u16 v] w fun e w' => ∃ v', e = .returned v' ∧ w'.ownsRow B 5 1 v' (n + 2) (xs ++ Lib.byteCells (Lib.beBytes 2 v)) ∧ Below B w w' := Any.binary_BE_AppendUint16 Ybaf.laysBin38 B n v hv sv xs w hown hBw hlim
def Ybaf.laysBin42_ren : Go.Shelf.Ren := ⟨fun | 42 => 43 | n => n, fun | 37 => 27 | 22 => 25 | 33 => 22 | 0 => 0 | 5 => 5 | 45 => 31 | n => n, fun | n => n⟩
theorem Ybaf.laysBin42 : Go.Proofs.LaysBin.n42 Ybaf.prog Ybaf.laysBin42_ren := {
  mixed := by kernel_rfl
  f42 := Ybaf.func43.trans (congrArg some (by kernel_rfl))
  t0 := Ybaf.underlying0
  a0 := Ybaf.isAgg0
  z0 := Ybaf.sizeOf0
  v0 := Ybaf.zeroValue0
  i0 := by kernel_rfl
  t5 := Ybaf.underlying5
  a5 := Ybaf.isAgg5
  z5 := Ybaf.sizeOf5
  v5 := Ybaf.zeroValue5
  i5 := by kernel_rfl
  t22 := Ybaf.underlying25
  a22 := Ybaf.isAgg25
  z22 := Ybaf.sizeOf25
  v22 := Ybaf.zeroValue25
  i22 := by kernel_rfl
  t33 := Ybaf.underlying22
  a33 := Ybaf.isAgg22
  z33 := Ybaf.sizeOf22
  v33 := Ybaf.zeroValue22
  i33 := by kernel_rfl
  t37 := Ybaf.underlying27
  a37 := Ybaf.isAgg27
  z37 := Ybaf.sizeOf27
  v37 := Ybaf.zeroValue27
  i37 := by kernel_rfl
  t45 := Ybaf.underlying31
  a45 := Ybaf.isAgg31
  z45 := Ybaf.sizeOf31
  v45 := Ybaf.zeroValue31
  i45 := by kernel_rfl }
open Go.RowKit in
/-- binary.BigEndian.Uint64: "Uint64 returns the uint64 representation of b[0:8].": THE NUMBER THAT THE FIRST 8 BYTES SPELL, the greatest byte first ('Lib.beNat'). Of what was there nothing has turned (the receiver, an empty struct, is laid in a new block without cells; the statement's order is drawn). (LAID: no walk: one application.) -/
theorem Ybaf.binary_BE_Uint64 (g o n c : Nat) (b0 b1 b2 b3 b4 b5 b6 b7 : UInt8) (w : World) (hn : 8 ≤ n) (c0 : w.cell? ⟨g, o, none⟩ = some (.int .u8 b0.toNat)) (c1 : w.cell? ⟨g, o + 1, none⟩ = some (.int .u8 b1.toNat)) (c2 : w.cell? ⟨g, o + 2, none⟩ = some (.int .u8 b2.toNat)) (c3 : w.cell? ⟨g, o + 3, none⟩ = some (.int .u8 b3.toNat)) (c4 : w.cell? ⟨g, o + 4, none⟩ = some (.int .u8 b4.toNat)) (c5 : w.cell? ⟨g, o + 5, none⟩ = some (.int .u8 b5.toNat)) (c6 : w.cell? ⟨g, o + 6, none⟩ = some (.int .u8 b6.toNat)) (c7 : w.cell? ⟨g, o + 7, none⟩ = some (.int .u8 b7.toNat)) :
    Calls Ybaf.prog 43 #[.agg #[], .slice (some ⟨g, o, none⟩) n c] w fun e w' => e = .returned (.int .u64 (Lib.beNat [b0, b1, b2, b3, b4, b5, b6, b7])) ∧ Below w.heap.size w w' := Any.binary_BE_Uint64 Ybaf.laysBin42 g o n c b0 b1 b2 b3 b4 b5 b6 b7 w hn c0 c1 c2 c3 c4 c5 c6 c7
def Ybaf.laysBin44_ren : Go.Shelf.Ren := ⟨fun | 44 => 6 | n => n, fun | 37 => 27 | 22 => 25 | 33 => 22 | 0 => 0 | 45 => 31 | 5 => 5 | n => n, fun | n => n⟩
theorem Ybaf.laysBin44 : Go.Proofs.LaysBin.n44 Ybaf.prog Ybaf.laysBin44_ren := {
  mixed := by kernel_rfl
  f44 := Ybaf.func6.trans (congrArg some (by kernel_rfl))
  t0 := Ybaf.underlying0
  a0 := Ybaf.isAgg0
  z0 := Ybaf.sizeOf0
  v0 := Ybaf.zeroValue0
  i0 := by kernel_rfl
  t5 := Ybaf.underlying5
  a5 := Ybaf.isAgg5
  z5 := Ybaf.sizeOf5
  v5 := Ybaf.zeroValue5
  i5 := by kernel_rfl
  t22 := Ybaf.underlying25
  a22 := Ybaf.isAgg25
  z22 := Ybaf.sizeOf25
  v22 := Ybaf.zeroValue25
  i22 := by kernel_rfl
  t33 := Ybaf.underlying22
  a33 := Ybaf.isAgg22
  z33 := Ybaf.sizeOf22
  v33 := Ybaf.zeroValue22
  i33 := by kernel_rfl
  t37 := Ybaf.underlying27
  a37 := Ybaf.isAgg27
  z37 := Ybaf.sizeOf27
  v37 := Ybaf.zeroValue27
  i37 := by kernel_rfl
  t45 := Ybaf.underlying31
  a45 := Ybaf.isAgg31
  z45 := Ybaf.sizeOf31
  v45 := Ybaf.zeroValue31
  i45 := by kernel_rfl }
open Go.RowKit in
/-- binary.BigEndian.AppendUint64: "AppendUint64 appends the bytes of v to b and returns the appended slice.": WHAT COMES BACK OWNS b's CELLS AND, BEHIND THEM, v's 8 BYTES, the greatest first ('Lib.beBytes 8 v'). Below the call's own blocks nothing has turned. (LAID: no walk: one application.) -/
theorem Ybaf.binary_BE_AppendUint64 (B n v : Nat) (hv : v < 18446744073709551616) (sv : Value) (xs : List Value) (w : World) (hown : w.ownsRow B 5 1 sv n xs) (hBw : B ≤ w.heap.size) (hlim : n + 8 ≤ 140737488355328) :
    Calls Ybaf.prog 6 #[.agg #[], sv, .int .u64 v] w fun e w' => ∃ v', e = .returned v' ∧ w'.ownsRow B 5 1 v' (n + 8) (xs ++ Lib.byteCells (Lib.beBytes 8 v)) ∧ Below B w w' := Any.binary_BE_AppendUint64 Ybaf.laysBin44 B n v hv sv xs w hown hBw hlim
end Go.Proofs
