/-
  lending (9) at the frame that zzs1063aframe (10) has made.
-/
import Derived.Test.YbulkuzkFmtSp
namespace Go.Proofs.YbulkuzkFmt
open Go.RowKit Go.Conc Go.Extern.Stop Go.Stop Go.Extern

/-- what the law's world holds ahead of the frame -/
structure Ready (full : Bool) (F : Interp) (lb c1 c2 g c mc : Nat) (S : List (Nat × Nat)) (te : TypeId) (pe : Value) (a1 : Addr) (s1 : ByteArray) (w : World) : Prop where
  hF : F.answers w.tape
  bL : Box w lb (linkC c1 c2) 51
  hb : Bts w g 0 (payload mc S)
  hg : g < w.heap.size
  hE : w.cell? ⟨2, 0, none⟩ = some (.iface te pe)
  hP : w.cell? ⟨1, 0, none⟩ = some (.iface 99 (.pointer (some a1)))
  hs : w.cell? a1 = some (.string s1)
  hch : w.heap[c1]? = some (chS full)

def LendPost2 (full : Bool) (mc : Nat) (S : List (Nat × Nat)) (c1 : Nat) (a1 : Addr) (w w' : World) (e : Ending) : Prop :=
  Keep w w' [c1] ∧
  bif full then (∃ q t, e = .returned (.tuple #[.bool true, .iface 112 (.pointer (some ⟨q, 0, none⟩))]) ∧ Box w' q #[.string t, .iface 99 (.pointer (some a1))] 186 ∧ w'.heap[c1]? = some (chS true))
  else (e = .returned (.tuple #[.bool true, .nilIface]) ∧ ∃ v, w'.heap[c1]? = some (.chan 1 #[.agg #[.int .u64 mc, v]] false 1 0 false) ∧ w'.ownsRow w.heap.size 66 2 v S.length (spc S))

theorem lend_after {full : Bool} {F : Interp} {lb c1 c2 g c mc : Nat} {S : List (Nat × Nat)} {te : TypeId} {pe : Value} {a1 : Addr} {s1 : ByteArray} {w : World} (R : Ready full F lb c1 c2 g c mc S te pe a1 s1 w)
    (hmc : mc < 18446744073709551616) (hS : S.length ≤ 1024) (hA : Asc S) {w2 : World} {br lr : Nat} (h1 : w.heap.size ≤ br) (h2 : w.heap.size ≤ lr) (h3 : br ≠ lr) (h4 : Box w2 br (bbox g 0 (payload mc S).length c 0) 118) (h5 : Box w2 lr (lbox br (payload mc S).length) 94) (h6 : Below w.heap.size w w2) :
    Calls Ybaf.prog 9 #[.pointer (some ⟨lb, 0, none⟩), .agg #[.int .u8 87, .pointer (some ⟨lr, 0, none⟩)]] w2 fun e w' => LendPost2 full mc S c1 a1 w w' e := by
  have hg := R.hg
  have i1 := cell_lt R.hP
  have i2 := cell_lt R.hE
  have i3 := cell_lt R.hs
  have i4 := R.bL.lt
  have i5 := (Array.getElem?_eq_some_iff.1 R.hch).1
  have i6 := h6.size
  dsimp only at i1 i2
  refine (lending_any full F lb c1 c2 lr br g 0 c mc S te pe a1 s1 w2 (by rw [h6.tape]; exact R.hF) (R.bL.below h6 i4) h5 h4 (R.hb.below h6 hg) (by omega) hmc hS hA ((h6.cell (p := ⟨2, 0, none⟩) i2).trans R.hE) ((h6.cell (p := ⟨1, 0, none⟩) i1).trans R.hP) ((h6.cell i3).trans R.hs) ((h6.block c1 i5).trans R.hch) (by omega) (fun e => h3 e.symm) ⟨by omega, by omega⟩ ⟨by omega, by omega⟩ ⟨by omega, by omega⟩ ⟨by omega, by omega⟩ ⟨by omega, by omega⟩).mono ?_
  rintro e w' ⟨hK, hp⟩
  have hK' : Keep w w' [c1] := ⟨hK.os.trans h6.os, hK.tape.trans h6.tape, hK.output.trans h6.output, Nat.le_trans i6 hK.size, fun i hi hx => (hK.block i (by omega) (by simp at hx ⊢; omega)).trans (h6.block i hi)⟩
  refine ⟨hK', ?_⟩
  cases full
  · obtain ⟨rfl, v, p1, p2⟩ := hp
    exact ⟨rfl, v, p1, ownsRow_le p2 i6⟩
  · exact hp
end Go.Proofs.YbulkuzkFmt
