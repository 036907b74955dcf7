/-
  WALKS: fields.Reader: NewReader (32), Take (42), Uint64 (33), Uint16 (34), Short (35), Rest (36), over a slice of bytes.
-/
import Derived.Test.YbulkuzkFmtShelf
import Derived.Test.YbulkuzkFmtComm
import Derived.Lib.EndianMore
import Derived.StillTailTactics
import Derived.BigQuiet
import Derived.Lib.SliceRun
import Derived.Maps.Range
import Derived.Deep.Draws
namespace Go.Proofs.YbulkuzkFmt
open Go.RowKit

theorem cso {w : World} {a b : Addr} {v : Value} (h : a ≠ b) : (w.setCell a v).cell? b = w.cell? b := World.cell?_setCell_other w a b v h
theorem css {w : World} {a : Addr} {v u : Value} (h : w.cell? a = some u) : (w.setCell a v).cell? a = some v := World.cell?_setCell_same w a v h
theorem cell_lt {w : World} {a : Addr} {v : Value} (h : w.cell? a = some v) : a.block < w.heap.size := World.block_lt_of_cell? w a h
theorem mixed : Ybaf.prog.follows .mixedOrders = true := by kernel_rfl
theorem own : ownKnob Ybaf.prog.godebug = none := by kernel_rfl
theorem laidOut : laidOutB Ybaf.prog = true := by kernel_rfl

/-- a block of cells, none frozen -/
def Box (w : World) (b : Nat) (c : Array Value) (t : TypeId) : Prop := w.heap[b]? = some (.cells c t (0, 0))
theorem Box.cell {w : World} {b : Nat} {c : Array Value} {t : TypeId} (h : Box w b c t) (j : Nat) : w.cell? ⟨b, j, none⟩ = c[j]? := by unfold Box at h; simp [World.cell?, h]
theorem Box.frozen {w : World} {b : Nat} {c : Array Value} {t : TypeId} (h : Box w b c t) (j : Nat) : w.frozen? ⟨b, j, none⟩ = false := by unfold Box at h; simp [World.frozen?, h]
theorem Box.new (w : World) (c : Array Value) (t : TypeId) : Box (w.alloc (.cells c t)) w.heap.size c t := (MapKept.heap_alloc w _).1
theorem Box.lt {w : World} {b : Nat} {c : Array Value} {t : TypeId} (h : Box w b c t) : b < w.heap.size := (Array.getElem?_eq_some_iff.1 h).1
theorem Box.mono {w w' : World} {b : Nat} {c : Array Value} {t : TypeId} (h : Box w b c t) (hw : Below w.heap.size w w') : Box w' b c t := (hw.block b h.lt).trans h
theorem Box.below {w w' : World} {b B : Nat} {c : Array Value} {t : TypeId} (h : Box w b c t) (hw : Below B w w') (hb : b < B) : Box w' b c t := (hw.block b hb).trans h
theorem Box.set {w : World} {b : Nat} {c : Array Value} {t : TypeId} (h : Box w b c t) (j : Nat) (v : Value) : Box (w.setCell ⟨b, j, none⟩ v) b (c.setIfInBounds j v) t := by
  unfold Box at *
  simp [World.setCell, Array.getElem?_modify, h]
theorem Box.setOther {w : World} {b : Nat} {c : Array Value} {t : TypeId} (h : Box w b c t) {a : Addr} (ha : b ≠ a.block) (v : Value) : Box (w.setCell a v) b c t := (Below.heap_setCell _ _ _ _ ha).trans h

/-- the bytes bs lie at block g from o on -/
def Bts (w : World) (g o : Nat) (bs : List UInt8) : Prop := ∀ (j : Nat) (b : UInt8), bs[j]? = some b → w.cell? ⟨g, o + j, none⟩ = some (.int .u8 b.toNat)
theorem Bts.below {w w' : World} {g o B : Nat} {bs : List UInt8} (h : Bts w g o bs) (hw : Below B w w') (hg : g < B) : Bts w' g o bs := fun j b hb => (hw.cell (p := ⟨g, o + j, none⟩) hg).trans (h j b hb)
theorem Bts.drop {w : World} {g o : Nat} {bs : List UInt8} (h : Bts w g o bs) (k : Nat) : Bts w g (o + k) (bs.drop k) := fun j b hb => by
  rw [List.getElem?_drop] at hb
  have := h (k + j) b hb
  rw [show o + k + j = o + (k + j) by omega]; exact this
theorem Bts.setOther {w : World} {g o : Nat} {bs : List UInt8} (h : Bts w g o bs) {a : Addr} (ha : g ≠ a.block) (v : Value) : Bts (w.setCell a v) g o bs := fun j b hb => by
  rw [cso (fun e => ha (by rw [e]))]; exact h j b hb

/-- the reader's cells -/
def rbox (g o n c : Nat) : Array Value := #[.slice (some ⟨g, o, none⟩) n c, .bool false]

/-- what is left of the reader's slice behind Take -/
def TakeRest (o n c k : Nat) (o' c' : Nat) : Prop := n - k ≤ c' ∧ c' ≤ 1000000 ∧ (k < c → o' = o + k)
def TakePost (w : World) (rb g o n c k : Nat) (e : Ending) (w' : World) : Prop := e = .returned (.slice (some ⟨g, o, none⟩) k c) ∧ ∃ o' c', TakeRest o n c k o' c' ∧ w' = w.setCell ⟨rb, 0, none⟩ (.slice (some ⟨g, o', none⟩) (n - k) c')

set_option maxRecDepth 100000 in
theorem take_any (rb g o n c k : Nat) (w : World) (h : Box w rb (rbox g o n c) 133) (hk : k ≤ n) (hnc : n ≤ c) (hc : c ≤ 1000000) :
    Calls Ybaf.prog 42 #[.pointer (some ⟨rb, 0, none⟩), .int .u64 k] w fun e w' => TakePost w rb g o n c k e w' := by
  have r0 := h.cell 0
  have r1 := h.cell 1
  have rf := h.frozen
  have hrl := h.lt
  simp [rbox] at r0 r1
  have hk' : (k : Int) ≤ (n : Int) := by omega
  have hnc' : (n : Int) ≤ (c : Int) := by omega
  have hc' : (c : Int) ≤ 1000000 := by omega
  by_cases e : k = c
  · obtain rfl : n = c := by omega
    subst e
    go_enter Ybaf.func42, Ybaf.ntmps42
    go_wp2
    go_ret
    exact ⟨rfl, o, 0, ⟨by omega, by omega, fun h => absurd h (Nat.lt_irrefl _)⟩, by simp⟩
  · have e' : k < c := by omega
    go_enter Ybaf.func42, Ybaf.ntmps42
    go_wp2
    go_ret
    exact ⟨rfl, o + k, c - k, ⟨by omega, by omega, fun _ => rfl⟩, rfl⟩

/-- THE READER at block rb HAS bs BEFORE IT -/
def Rd (w : World) (rb : Nat) (bs : List UInt8) : Prop := ∃ g o c, Box w rb (rbox g o bs.length c) 133 ∧ bs.length ≤ c ∧ c ≤ 1000000 ∧ g < rb ∧ Bts w g o bs

theorem Rd.mono {w w' : World} {rb : Nat} {bs : List UInt8} (h : Rd w rb bs) (hw : Below w.heap.size w w') : Rd w' rb bs := by
  obtain ⟨g, o, c, h1, h2, h3, h4, h6⟩ := h
  exact ⟨g, o, c, h1.mono hw, h2, h3, h4, h6.below hw (Nat.lt_trans h4 h1.lt)⟩
theorem Bts.kept {w w' : World} {g o : Nat} {bs : List UInt8} {row : Option Nat} (h : Bts w g o bs) (hg : w.grownBy w' row) (hl : g < w.heap.size) (hr : some g ≠ row) : Bts w' g o bs := fun j b hb => (World.cell?_of_block (w := w) (a := ⟨g, o + j, none⟩) (hg.block g hl hr)).trans (h j b hb)
theorem Rd.kept {w w' : World} {rb : Nat} {bs : List UInt8} {row : Option Nat} (h : Rd w rb bs) (hg : w.grownBy w' row) (hr : ∀ b, row = some b → rb < b) : Rd w' rb bs := by
  obtain ⟨g, o, c, h1, h2, h3, h4, h6⟩ := h
  exact ⟨g, o, c, (hg.block rb h1.lt (fun e => by have := hr rb e.symm; omega)).trans h1, h2, h3, h4, h6.kept hg (Nat.lt_trans h4 h1.lt) (fun e => by have := hr g e.symm; omega)⟩

theorem below_grown {w w' : World} (h : Below w.heap.size w w') (r : Option Nat) : w.grownBy w' r := ⟨h.os, h.tape, h.output, h.size, fun i hi _ => h.block i hi⟩
theorem grown_trans {a b c : World} {r : Option Nat} (h : a.grownBy b r) (k : b.grownBy c r) : a.grownBy c r := h.andThen k (fun _ hj => .inr hj)
theorem grown_setCell (w : World) (b j : Nat) (v : Value) : w.grownBy (w.setCell ⟨b, j, none⟩ v) (some b) :=
  ⟨rfl, rfl, rfl, by simp, fun i _ hne => Below.heap_setCell _ _ _ _ (fun e => hne (by rw [e]))⟩

theorem Rd.taken {w : World} {rb g o c k o' c' : Nat} {bs : List UInt8} (h1 : Box w rb (rbox g o bs.length c) 133) (h2 : bs.length ≤ c) (h4 : g < rb) (h6 : Bts w g o bs) (hk : k ≤ bs.length) (ht : TakeRest o bs.length c k o' c') :
    Rd (w.setCell ⟨rb, 0, none⟩ (.slice (some ⟨g, o', none⟩) (bs.length - k) c')) rb (bs.drop k) := by
  refine ⟨g, o', c', ?_, by rw [List.length_drop]; exact ht.1, ht.2.1, h4, ?_⟩
  · have := h1.set 0 (.slice (some ⟨g, o', none⟩) (bs.length - k) c')
    simpa [rbox] using this
  · refine Bts.setOther ?_ (Nat.ne_of_lt h4) _
    by_cases e : k < c
    · rw [ht.2.2 e]; exact h6.drop k
    · intro j b hb
      rw [List.getElem?_drop, List.getElem?_eq_none (by omega)] at hb
      cases hb

/-- the call hands back the number v; the reader has rest before it; nothing else has turned -/
def NumPost (k : IntKind) (v : Nat) (rb : Nat) (rest : List UInt8) (w : World) (e : Ending) (w' : World) : Prop := e = .returned (.int k v) ∧ Rd w' rb rest ∧ w.grownBy w' (some rb)

theorem be8 (v : Nat) : ∃ b0 b1 b2 b3 b4 b5 b6 b7, Lib.beBytes 8 v = [b0, b1, b2, b3, b4, b5, b6, b7] := by
  have h := Lib.beBytes_length 8 v
  match Lib.beBytes 8 v, h with
  | [b0, b1, b2, b3, b4, b5, b6, b7], _ => exact ⟨b0, b1, b2, b3, b4, b5, b6, b7, rfl⟩
theorem be2 (v : Nat) : ∃ b0 b1, Lib.beBytes 2 v = [b0, b1] := by
  have h := Lib.beBytes_length 2 v
  match Lib.beBytes 2 v, h with
  | [b0, b1], _ => exact ⟨b0, b1, rfl⟩

set_option maxRecDepth 100000 in
set_option maxHeartbeats 1000000 in
theorem uint64_any (rb v : Nat) (rest : List UInt8) (w : World) (hv : v < 18446744073709551616) (h : Rd w rb (Lib.beBytes 8 v ++ rest)) :
    Calls Ybaf.prog 33 #[.pointer (some ⟨rb, 0, none⟩)] w fun e w' => NumPost .u64 v rb rest w e w' := by
  obtain ⟨g, o, c, h1, h2, h3, h4, h6⟩ := h
  have hlen : (Lib.beBytes 8 v ++ rest).length = 8 + rest.length := by rw [List.length_append, Lib.beBytes_length]
  have hk := take_any rb g o _ c 8 w h1 (by omega) h2 h3
  have heq := fun (x : World) => Lib.run_eql_slice_nil (P := Ybaf.prog) x 25 5 (some ⟨g, o, none⟩) 8 c 0 0 Ybaf.underlying25
  go_enter Ybaf.func33, Ybaf.ntmps33
  go_wp2_with fail
  refine hk.mono ?_
  rintro e w2 ⟨rfl, o', c', ht, rfl⟩
  clear hk
  have hR := Rd.taken h1 h2 h4 h6 (by omega) ht
  rw [List.drop_left' (Lib.beBytes_length 8 v)] at hR
  have hB := h6.setOther (a := ⟨rb, 0, none⟩) (Nat.ne_of_lt h4) (.slice (some ⟨g, o', none⟩) ((Lib.beBytes 8 v ++ rest).length - 8) c')
  have hg := grown_setCell w rb 0 (.slice (some ⟨g, o', none⟩) ((Lib.beBytes 8 v ++ rest).length - 8) c')
  generalize w.setCell ⟨rb, 0, none⟩ (.slice (some ⟨g, o', none⟩) ((Lib.beBytes 8 v ++ rest).length - 8) c') = W at *
  obtain ⟨b0, b1, b2, b3, b4, b5, b6, b7, hbs⟩ := be8 v
  have hnum := Lib.beNat_beBytes 8 v (by simpa using hv)
  rw [hbs] at hB hnum
  have hk := Ybaf.binary_BE_Uint64 g o 8 c b0 b1 b2 b3 b4 b5 b6 b7 W (by omega) (hB 0 b0 rfl) (hB 1 b1 rfl) (hB 2 b2 rfl) (hB 3 b3 rfl) (hB 4 b4 rfl) (hB 5 b5 rfl) (hB 6 b6 rfl) (hB 7 b7 rfl)
  rw [hnum] at hk
  clear h1 h2 h4 h6 ht hB hlen hbs hnum
  go_wp2_with fail
  refine hk.mono ?_
  rintro e w3 ⟨rfl, hb3⟩
  clear hk heq
  go_wp2_with fail
  go_ret
  exact ⟨rfl, hR.mono hb3, grown_trans hg (below_grown hb3 _)⟩
set_option maxRecDepth 100000 in
set_option maxHeartbeats 1000000 in
theorem uint16_any (rb v : Nat) (rest : List UInt8) (w : World) (hv : v < 65536) (h : Rd w rb (Lib.beBytes 2 v ++ rest)) :
    Calls Ybaf.prog 34 #[.pointer (some ⟨rb, 0, none⟩)] w fun e w' => NumPost .u16 v rb rest w e w' := by
  obtain ⟨g, o, c, h1, h2, h3, h4, h6⟩ := h
  have hlen : (Lib.beBytes 2 v ++ rest).length = 2 + rest.length := by rw [List.length_append, Lib.beBytes_length]
  have hk := take_any rb g o _ c 2 w h1 (by omega) h2 h3
  have heq := fun (x : World) => Lib.run_eql_slice_nil (P := Ybaf.prog) x 25 5 (some ⟨g, o, none⟩) 2 c 0 0 Ybaf.underlying25
  go_enter Ybaf.func34, Ybaf.ntmps34
  go_wp2_with fail
  refine hk.mono ?_
  rintro e w2 ⟨rfl, o', c', ht, rfl⟩
  clear hk
  have hR := Rd.taken h1 h2 h4 h6 (by omega) ht
  rw [List.drop_left' (Lib.beBytes_length 2 v)] at hR
  have hB := h6.setOther (a := ⟨rb, 0, none⟩) (Nat.ne_of_lt h4) (.slice (some ⟨g, o', none⟩) ((Lib.beBytes 2 v ++ rest).length - 2) c')
  have hg := grown_setCell w rb 0 (.slice (some ⟨g, o', none⟩) ((Lib.beBytes 2 v ++ rest).length - 2) c')
  generalize w.setCell ⟨rb, 0, none⟩ (.slice (some ⟨g, o', none⟩) ((Lib.beBytes 2 v ++ rest).length - 2) c') = W at *
  obtain ⟨b0, b1, hbs⟩ := be2 v
  have hnum := Lib.beNat_beBytes 2 v (by simpa using hv)
  rw [hbs] at hB hnum
  have hk := Ybaf.binary_BE_Uint16 g o 2 c b0 b1 W (by omega) (hB 0 b0 rfl) (hB 1 b1 rfl)
  rw [hnum] at hk
  clear h1 h2 h4 h6 ht hB hlen hbs hnum
  go_wp2_with fail
  refine hk.mono ?_
  rintro e w3 ⟨rfl, hb3⟩
  clear hk heq
  go_wp2_with fail
  go_ret
  exact ⟨rfl, hR.mono hb3, grown_trans hg (below_grown hb3 _)⟩

set_option maxRecDepth 100000 in
theorem short_any (rb : Nat) (bs : List UInt8) (w : World) (h : Rd w rb bs) :
    Calls Ybaf.prog 35 #[.pointer (some ⟨rb, 0, none⟩)] w fun e w' => e = .returned (.bool false) ∧ w' = w := by
  obtain ⟨g, o, c, h1, _⟩ := h
  have r1 := h1.cell 1
  have hrl := h1.lt
  simp [rbox] at r1
  go_enter Ybaf.func35, Ybaf.ntmps35
  go_wp2
  go_ret
  exact ⟨rfl, rfl⟩

def RestPost (n : Nat) (e : Ending) : Prop := ∃ a c, e = .returned (.slice a n c)
set_option maxRecDepth 100000 in
theorem rest_any (rb : Nat) (bs : List UInt8) (w : World) (h : Rd w rb bs) :
    Calls Ybaf.prog 36 #[.pointer (some ⟨rb, 0, none⟩)] w fun e w' => RestPost bs.length e ∧ w' = w := by
  obtain ⟨g, o, c, h1, _⟩ := h
  have r0 := h1.cell 0
  have hrl := h1.lt
  simp [rbox] at r0
  go_enter Ybaf.func36, Ybaf.ntmps36
  go_wp2
  go_ret
  exact ⟨⟨_, _, rfl⟩, rfl⟩

def NewPost (bs : List UInt8) (w : World) (e : Ending) (w' : World) : Prop := e = .returned (.pointer (some ⟨w.heap.size, 0, none⟩)) ∧ Rd w' w.heap.size bs ∧ Below w.heap.size w w'
set_option maxRecDepth 100000 in
theorem newReader_any (g o c : Nat) (bs : List UInt8) (w : World) (hb : Bts w g o bs) (hc : bs.length ≤ c) (hc' : c ≤ 1000000) (hg : g < w.heap.size) :
    Calls Ybaf.prog 32 #[.slice (some ⟨g, o, none⟩) bs.length c] w fun e w' => NewPost bs w e w' := by
  have hA := (Below.refl w.heap.size w).alloc (Nat.le_refl _) (Obj.cells (rbox g o bs.length c) 133)
  have bR := Box.new w (rbox g o bs.length c) 133
  have hR : Rd (w.alloc (Obj.cells (rbox g o bs.length c) 133)) w.heap.size bs := ⟨g, o, c, bR, hc, hc', hg, hb.below hA hg⟩
  unfold rbox at *
  go_enter Ybaf.func32, Ybaf.ntmps32
  go_wp2
  go_ret
  exact ⟨rfl, hR, hA⟩
end Go.Proofs.YbulkuzkFmt
