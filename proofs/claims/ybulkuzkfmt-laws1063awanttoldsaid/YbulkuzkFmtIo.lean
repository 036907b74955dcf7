/-
  WALKS: bytes.Reader.Read (90), io.LimitedReader.Read (31), wire.Frame.ReadAll (16), at a reader that holds all that is asked for.
-/
import Derived.Test.YbulkuzkFmtDec
import Derived.Laws.IdiomCopy
import Derived.Laws.CopyOwn
namespace Go.Proofs.YbulkuzkFmt
open Go.RowKit

def byc (bs : List UInt8) : List Value := bs.map fun b => Value.int .u8 b.toNat

/-- bytes.Reader's cells, before and behind the read -/
def bbox (g o n c : Nat) (i : Int) : Array Value := #[.slice (some ⟨g, o, none⟩) n c, .int .i64 i, .int .i64 (-1)]

/-- no block but x and y has turned -/
structure Two (w w' : World) (x y : Nat) : Prop where
  os : w'.os = w.os
  tape : w'.tape = w.tape
  output : w'.output = w.output
  size : w'.heap.size = w.heap.size
  block : ∀ i, i ≠ x → i ≠ y → w'.heap[i]? = w.heap[i]?
theorem Two.below {w w' : World} {x y B : Nat} (h : Two w w' x y) (hx : B ≤ x) (hy : B ≤ y) : Below B w w' := ⟨h.os, h.tape, h.output, Nat.le_of_eq h.size.symm, fun k hk => h.block k (by omega) (by omega)⟩
def ReadPost (w w' : World) (x d : Nat) (bs : List UInt8) (e : Ending) : Prop := e = .returned (.tuple #[.int .i64 bs.length, .nilIface]) ∧ Box w' d (byc bs).toArray 5 ∧ Two w w' x d

theorem byc_get {bs : List UInt8} {j : Nat} {v : Value} (h : (byc bs)[j]? = some v) : ∃ b, bs[j]? = some b ∧ v = .int .u8 b.toNat := by
  unfold byc at h
  rw [List.getElem?_map] at h
  obtain ⟨b, hb, e⟩ := Option.map_eq_some_iff.1 h
  exact ⟨b, hb, e.symm⟩

set_option maxRecDepth 100000 in
set_option maxHeartbeats 1000000 in
theorem readB_any (br g o c d cd : Nat) (bs : List UInt8) (cur : Array Value) (w : World) (h : Box w br (bbox g o bs.length c 0) 118) (hb : Bts w g o bs) (hd : Box w d cur 5) (hcs : cur.size = bs.length) (hpos : 0 < bs.length) (hsm : bs.length ≤ 1000000) (hrd : br ≠ d) (hgr : g ≠ br) :
    Calls Ybaf.prog 90 #[.pointer (some ⟨br, 0, none⟩), .slice (some ⟨d, 0, none⟩) bs.length cd] w fun e w' => ReadPost w w' br d bs e := by
  have b0 := h.cell 0
  have b1 := h.cell 1
  have b2 := h.cell 2
  have bf := h.frozen
  have hbl := h.lt
  simp [bbox] at b0 b1 b2
  have hp' : (0 : Int) < (bs.length : Int) := by omega
  have hp2 : ¬ (bs.length : Int) ≤ 0 := by omega
  have hp3 : decide ((bs.length : Int) ≤ 0) = false := decide_eq_false hp2
  have hne : ¬ bs = [] := fun e => by rw [e] at hpos; simp at hpos
  have hne' : decide (bs = []) = false := decide_eq_false hne
  go_enter Ybaf.func90, Ybaf.ntmps90
  go_wp2
  go_quiet (fail)
  go_wp2_with fail
  have h2 : Box ((w.drewN nq).setCell ⟨br, 2, none⟩ (.int .i64 (-1))) br (bbox g o bs.length c 0) 118 := by
    have h3 : Box (w.drewN nq) br (bbox g o bs.length c 0) 118 := h
    have := h3.set 2 (.int .i64 (-1)); simpa [bbox] using this
  have hd2 : Box ((w.drewN nq).setCell ⟨br, 2, none⟩ (.int .i64 (-1))) d cur 5 := Box.setOther (w := w.drewN nq) hd (fun e => hrd e.symm) _
  have hb2 : Bts ((w.drewN nq).setCell ⟨br, 2, none⟩ (.int .i64 (-1))) g o bs := Bts.setOther (w := w.drewN nq) hb hgr _
  have hT0 : Two w ((w.drewN nq).setCell ⟨br, 2, none⟩ (.int .i64 (-1))) br d := ⟨rfl, rfl, rfl, by simp, fun i h1 _ => Below.heap_setCell (w.drewN nq) _ _ _ h1⟩
  generalize (w.drewN nq).setCell ⟨br, 2, none⟩ (.int .i64 (-1)) = W at *
  clear b0 b1 b2 bf hbl h hd hb
  have b0 := h2.cell 0
  have b1 := h2.cell 1
  have hbl := h2.lt
  simp [bbox] at b0 b1
  go_still_tail 10, mixed
  refine wpList_copy_own rfl _ _ 25 25 rfl 5 Ybaf.underlying25 (by kernel_rfl) d 0 _ _ ⟨g, o, none⟩ _ _ rfl rfl cur 5 hd2 (byc bs) (by simp [byc]) ?_ (by simp [byc, hcs]) ?_ ?_
  · intro j v hj
    obtain ⟨b, hb, rfl⟩ := byc_get hj
    rw [show (⟨g, o, none⟩ : Addr).add j = ⟨g, o + j, none⟩ by unfold Addr.add; split <;> simp_all]
    exact hb2 j b hb
  · intro v hv
    simp [byc] at hv
    obtain ⟨b, _, rfl⟩ := hv
    rfl
  have eL : (cur.toList.take 0 ++ (byc bs ++ cur.toList.drop (0 + (byc bs).length))).toArray = (byc bs).toArray := by simp [byc, hcs]
  rw [eL, show (byc bs).length = bs.length by simp [byc]]
  have h3 : Box (W.drew.setRow d (byc bs).toArray) br (bbox g o bs.length c 0) 118 := (setRow_other W.drew d br (byc bs).toArray hrd).trans h2
  have hT : Two W (W.drew.setRow d (byc bs).toArray) br d := ⟨rfl, rfl, rfl, by simp [World.setRow], fun i _ h2 => setRow_other W.drew d i (byc bs).toArray h2⟩
  have hD3 : Box (W.drew.setRow d (byc bs).toArray) d (byc bs).toArray 5 := setRow_heap W.drew d cur (byc bs).toArray 5 (0, 0) hd2
  clear b0 b1 hbl
  have b1 := h3.cell 1
  have bf := h3.frozen
  have hbl := h3.lt
  simp [bbox] at b1
  go_wp2_with fail
  go_ret2
  exact ⟨rfl, hD3.setOther (fun e => hrd e.symm) _, ⟨hT0.os, hT0.tape, hT0.output, by have := hT0.size; have := hT.size; simp; omega, fun i h1 h2 => (Below.heap_setCell _ _ _ _ h1).trans ((hT.block i h1 h2).trans (hT0.block i h1 h2))⟩⟩

def lbox (br : Nat) (n : Int) : Array Value := #[.iface 89 (.pointer (some ⟨br, 0, none⟩)), .int .i64 n]
theorem methRead (br : Nat) (w : World) : (method 313 89 (.pointer (some ⟨br, 0, none⟩)) "Read").run Ybaf.prog w = .ok (90, .pointer (some ⟨br, 0, none⟩)) w := by kernel_rfl

/-- no block but x, y, z has turned -/
structure Three (w w' : World) (x y z : Nat) : Prop where
  os : w'.os = w.os
  tape : w'.tape = w.tape
  output : w'.output = w.output
  size : w'.heap.size = w.heap.size
  block : ∀ i, i ≠ x → i ≠ y → i ≠ z → w'.heap[i]? = w.heap[i]?
def ReadLPost (w w' : World) (x d z : Nat) (bs : List UInt8) (e : Ending) : Prop := e = .returned (.tuple #[.int .i64 bs.length, .nilIface]) ∧ Box w' d (byc bs).toArray 5 ∧ Three w w' x d z

set_option maxRecDepth 100000 in
set_option maxHeartbeats 1000000 in
theorem readL_any (lr br g o c d cd : Nat) (bs : List UInt8) (cur : Array Value) (w : World) (hl : Box w lr (lbox br bs.length) 94) (h : Box w br (bbox g o bs.length c 0) 118) (hb : Bts w g o bs) (hd : Box w d cur 5) (hcs : cur.size = bs.length) (hpos : 0 < bs.length) (hsm : bs.length ≤ 1000000) (hrd : br ≠ d) (hgr : g ≠ br) (hlb : lr ≠ br) (hld : lr ≠ d) :
    Calls Ybaf.prog 31 #[.pointer (some ⟨lr, 0, none⟩), .slice (some ⟨d, 0, none⟩) bs.length cd] w fun e w' => ReadLPost w w' br d lr bs e := by
  have l0 := hl.cell 0
  have l1 := hl.cell 1
  have lf := hl.frozen
  have hll := hl.lt
  simp [lbox] at l0 l1
  have hp2 : ¬ (bs.length : Int) ≤ 0 := by omega
  have hne : ¬ bs = [] := fun e => by rw [e] at hpos; simp at hpos
  have hm := methRead br
  have hk := readB_any br g o c d cd bs cur w h hb hd hcs hpos hsm hrd hgr
  go_enter Ybaf.func31, Ybaf.ntmps31
  go_wp2_with fail
  refine hk.mono ?_
  rintro e w2 ⟨rfl, hD, hT⟩
  clear hk h hb hd l0 l1
  have hl2 : Box w2 lr (lbox br bs.length) 94 := (hT.block lr hlb hld).trans hl
  clear hl hll lf
  have l1 := hl2.cell 1
  have lf := hl2.frozen
  have hll := hl2.lt
  simp [lbox] at l1
  go_wp2_with fail
  go_ret2
  exact ⟨rfl, hD.setOther (fun e => hld e.symm) _, ⟨hT.os, hT.tape, hT.output, by have := hT.size; simp; omega, fun i h1 h2 h3 => (Below.heap_setCell _ _ _ _ h3).trans (hT.block i h1 h2)⟩⟩
end Go.Proofs.YbulkuzkFmt
