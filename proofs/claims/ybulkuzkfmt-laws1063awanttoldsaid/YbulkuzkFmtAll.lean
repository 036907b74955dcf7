/-
  WALK: wire.Frame.ReadAll (16) at a frame whose reader holds all its bytes.
-/
import Derived.Test.YbulkuzkFmtTab
namespace Go.Proofs.YbulkuzkFmt
set_option linter.unusedSimpArgs false
open Go.RowKit

theorem info5 : (Ybaf.prog.info? 5).map (fun i => (i.zero, i.size, i.bytes)) = some (some (.int .u8 0), 1, 1) := by kernel_rfl

theorem nilEql (te : TypeId) (pe : Value) (w : World) : (binOp .eql 56 .nilIface (.iface te pe)).run Ybaf.prog w = .ok (.bool false) w := by kernel_rfl
/-- the call hands back a new slice that holds bs -/
def AllPost (w w' : World) (br lr : Nat) (bs : List UInt8) (e : Ending) : Prop := ∃ d, e = .returned (.tuple #[.slice (some ⟨d, 0, none⟩) bs.length bs.length, .nilIface]) ∧ w.heap.size ≤ d ∧ Box w' d (byc bs).toArray 5 ∧ w'.os = w.os ∧ w'.tape = w.tape ∧ w'.output = w.output ∧ w.heap.size ≤ w'.heap.size ∧ ∀ i, i < w.heap.size → i ≠ br → i ≠ lr → w'.heap[i]? = w.heap[i]?

set_option maxRecDepth 100000 in
set_option maxHeartbeats 1000000 in
theorem readAll_any (k : Int) (lim : Nat) (lr br g o c : Nat) (bs : List UInt8) (te : TypeId) (pe : Value) (w : World) (hl : Box w lr (lbox br bs.length) 94) (h : Box w br (bbox g o bs.length c 0) 118) (hb : Bts w g o bs) (hg : g < w.heap.size) (hpos : 0 < bs.length) (hlim : bs.length ≤ lim) (hsm : bs.length ≤ 60000) (hgr : g ≠ br) (hlb : lr ≠ br) (hE : w.cell? ⟨2, 0, none⟩ = some (.iface te pe)) (h2b : 2 ≠ br) (h2l : 2 ≠ lr) :
    Calls Ybaf.prog 16 #[.agg #[.int .u8 k, .pointer (some ⟨lr, 0, none⟩)], .int .i64 lim] w fun e w' => AllPost w w' br lr bs e := by
  have hA := (Below.refl w.heap.size w).alloc (Nat.le_refl _) (Obj.cells #[.int .u8 k, .pointer (some ⟨lr, 0, none⟩)] 62)
  have bF := Box.new w #[.int .u8 k, .pointer (some ⟨lr, 0, none⟩)] 62
  have bl := hl.mono hA
  have l1 := bl.cell 1
  simp [lbox] at l1
  have hm : min (bs.length : Int) 65536 = (bs.length : Int) := by omega
  have hlim' : ¬ (lim : Int) < (bs.length : Int) := by omega
  have hlim2 : (bs.length : Int) ≤ (lim : Int) := by omega
  obtain ⟨i0, hi, hz0, hz1, hz2⟩ := info_parts info5
  have mk : ∀ x : World, (Instr.makeSlice 25 (.int .i64 0) (.int .i64 bs.length)).run Ybaf.prog x = .ok (.slice (some ⟨x.heap.size, 0, none⟩) 0 bs.length) (x.alloc (.cells (madeCells (Value.int .u8 0).cells bs.length) 5)) := by
    intro x
    have := run_makeSlice (P := Ybaf.prog) (w := x) 25 5 i0 _ Ybaf.underlying25 hi hz0 .i64 .i64 0 bs.length (by omega) (by omega) (by rw [hz1]; omega) (by rw [hz2]; omega) (by omega)
    simpa [hz1] using this
  have hcs := size_madeCells (Value.int .u8 0).cells bs.length
  generalize madeCells (Value.int .u8 0).cells bs.length = cur at *
  have hA2 := (Below.refl _ _).alloc (Nat.le_refl (w.alloc (Obj.cells #[.int .u8 k, .pointer (some ⟨lr, 0, none⟩)] 62)).heap.size) (Obj.cells cur 5)
  have bD := Box.new (w.alloc (Obj.cells #[.int .u8 k, .pointer (some ⟨lr, 0, none⟩)] 62)) cur 5
  have bF2 := bF.mono hA2
  have bl2 := bl.mono hA2
  have bb2 := (h.mono hA).mono hA2
  have hb2 := (hb.below hA hg).below hA2 (by simp; omega)
  have hE2 : ((w.alloc (Obj.cells #[.int .u8 k, .pointer (some ⟨lr, 0, none⟩)] 62)).alloc (.cells cur 5)).cell? ⟨2, 0, none⟩ = some (.iface te pe) := ((hA.trans (hA2.mono (by simp))).cell (p := ⟨2, 0, none⟩) (cell_lt hE)).trans hE
  have hB2 := hA.trans (hA2.mono (by simp))
  have h2w := cell_lt hE
  have hsz1 : (w.alloc (Obj.cells #[.int .u8 k, .pointer (some ⟨lr, 0, none⟩)] 62)).heap.size = w.heap.size + 1 := by simp
  rw [hsz1] at bD
  have hlw := hl.lt
  have hbw := h.lt
  go_enter Ybaf.func16, Ybaf.ntmps16
  go_wp2_with fail
  generalize ((w.alloc (Obj.cells #[.int .u8 k, .pointer (some ⟨lr, 0, none⟩)] 62)).alloc (.cells cur 5)) = W at *
  clear bF bl l1 hA hA2 mk hb
  go_loopw [7, 8, 9, 10] (fun p _ _ _ wr => (p = .slice (some ⟨w.heap.size + 1, 0, none⟩) 0 bs.length ∧ wr = W) ∨ (p = .slice (some ⟨w.heap.size + 1, 0, none⟩) bs.length bs.length ∧ ReadLPost W wr br (w.heap.size + 1) lr bs (.returned (.tuple #[.int .i64 bs.length, .nilIface])))) (fun p _ _ _ _ => match p with | .slice _ n _ => bs.length - n | _ => 0)
  case atStart => exact .inl ⟨rfl, rfl⟩
  case round =>
    have hp2 : (0 : Int) < (bs.length : Int) := by omega
    have hne : ¬ bs = [] := fun e => by rw [e] at hpos; simp at hpos
    rcases hrel with ⟨rfl, rfl⟩ | ⟨rfl, hr⟩
    · have f1 := bF2.cell 1
      have fl := bF2.lt
      simp at f1
      have hn0 : ¬ (0 : Int) = (bs.length : Int) := by omega
      have hn1 : ¬ 0 = bs.length := by omega
      have hn2 : bs.length ≠ 0 := by omega
      have hk := readL_any lr br g o c (w.heap.size + 1) bs.length bs cur wr.drew bl2 bb2 hb2 bD hcs hpos (by omega) (by omega) hgr hlb (by omega)
      go_upto_region 9 with fail
      refine wp_region_table [49, 50, 51, 52, 53, 54, 55, 56, 57, 48, 58, 59, 9, 10] [.pointer (some ⟨w.heap.size, 1, none⟩), .pointer (some ⟨lr, 0, none⟩), .slice (some ⟨w.heap.size + 1, 0, none⟩) 0 bs.length, .slice (some ⟨w.heap.size + 1, 0, none⟩) 0 bs.length, .int .i64 0, .slice (some ⟨w.heap.size + 1, 0, none⟩) 0 bs.length, .int .i64 bs.length, .slice (some ⟨w.heap.size + 1, 0, none⟩) bs.length bs.length, .tuple #[.int .i64 bs.length, .nilIface], .tuple #[.int .i64 bs.length, .nilIface], .int .i64 bs.length, .nilIface, .int .i64 bs.length, .nilIface]
        (fun L x => (¬ Li L 8 ∧ x = wr.drew) ∨ (Li L 8 ∧ ReadLPost wr.drew x br (w.heap.size + 1) lr bs (.returned (.tuple #[.int .i64 bs.length, .nilIface])))) mixed rfl rfl (by decide) (by simp) (by kernel_rfl) (.inl ⟨by unfold Li; rw [getD_replicate_false]; simp, rfl⟩) ?_ ?_
      · intro L b x i hI hi d v hd hv
        obtain ⟨h1, o, ho, h2⟩ := mem_ready.1 hi
        have hlt := (Array.getElem?_eq_some_iff.1 ho).1
        simp at hlt
        have hF : x.cell? ⟨w.heap.size, 1, none⟩ = some (.pointer (some ⟨lr, 0, none⟩)) := by
          rcases hI.cw with ⟨_, rfl⟩ | ⟨_, _, _, hT⟩
          · exact f1
          · exact (World.cell?_of_block (w := wr.drew) (a := ⟨w.heap.size, 1, none⟩) (hT.block w.heap.size (by omega) (by omega) (by omega))).trans f1
        have o2 : b.tmps[2]? = some _ := hI.out 2 (by decide)
        have o7 : b.tmps[7]? = some _ := hI.out 7 (by decide)
        have hkeep : ∀ i, i ≠ 8 → (¬ Li (L.setIfInBounds i true) 8 ∧ x = wr.drew) ∨ (Li (L.setIfInBounds i true) 8 ∧ ReadLPost wr.drew x br (w.heap.size + 1) lr bs (.returned (.tuple #[.int .i64 bs.length, .nilIface]))) := fun i hi => by
          rw [Li.set_ne (Ne.symm hi)]; exact hI.cw
        match i, hlt with
        | 0, _ =>
          obtain rfl := Option.some.inj (show some _ = some o from ho)
          obtain rfl := Option.some.inj (show some _ = some d from hd)
          obtain rfl := Option.some.inj (show some _ = some v from hv)
          exact wpOp_val rfl rfl (by simp [go_sem, o2, o7, hF]; done) ⟨rfl, hkeep 0 (by decide)⟩
        | 1, _ =>
          obtain rfl := Option.some.inj (show some _ = some o from ho)
          obtain rfl := Option.some.inj (show some _ = some d from hd)
          obtain rfl := Option.some.inj (show some _ = some v from hv)
          have t49 : b.tmps[49]? = some _ := hI.fs 0 49 _ rfl rfl (h2 ⟨0, .data⟩ (by simp) rfl)
          exact wpOp_val rfl rfl (by simp [go_sem, o2, o7, hF, t49]; done) ⟨rfl, hkeep 1 (by decide)⟩
        | 2, _ =>
          obtain rfl := Option.some.inj (show some _ = some o from ho)
          obtain rfl := Option.some.inj (show some _ = some d from hd)
          obtain rfl := Option.some.inj (show some _ = some v from hv)
          exact wpOp_val rfl rfl (by simp [go_sem, o2, o7, hF]; done) ⟨rfl, hkeep 2 (by decide)⟩
        | 3, _ =>
          obtain rfl := Option.some.inj (show some _ = some o from ho)
          obtain rfl := Option.some.inj (show some _ = some d from hd)
          obtain rfl := Option.some.inj (show some _ = some v from hv)
          exact wpOp_val rfl rfl (by simp [go_sem, o2, o7, hF]; done) ⟨rfl, hkeep 3 (by decide)⟩
        | 4, _ =>
          obtain rfl := Option.some.inj (show some _ = some o from ho)
          obtain rfl := Option.some.inj (show some _ = some d from hd)
          obtain rfl := Option.some.inj (show some _ = some v from hv)
          have t52 : b.tmps[52]? = some _ := hI.fs 3 52 _ rfl rfl (h2 ⟨3, .data⟩ (by simp) rfl)
          exact wpOp_val rfl rfl (by simp [go_sem, o2, o7, hF, t52]; done) ⟨rfl, hkeep 4 (by decide)⟩
        | 5, _ =>
          obtain rfl := Option.some.inj (show some _ = some o from ho)
          obtain rfl := Option.some.inj (show some _ = some d from hd)
          obtain rfl := Option.some.inj (show some _ = some v from hv)
          exact wpOp_val rfl rfl (by simp [go_sem, o2, o7, hF]; done) ⟨rfl, hkeep 5 (by decide)⟩
        | 6, _ =>
          obtain rfl := Option.some.inj (show some _ = some o from ho)
          obtain rfl := Option.some.inj (show some _ = some d from hd)
          obtain rfl := Option.some.inj (show some _ = some v from hv)
          have t54 : b.tmps[54]? = some _ := hI.fs 5 54 _ rfl rfl (h2 ⟨5, .data⟩ (by simp) rfl)
          exact wpOp_val rfl rfl (by simp [go_sem, o2, o7, hF, t54]; done) ⟨rfl, hkeep 6 (by decide)⟩
        | 7, _ =>
          obtain rfl := Option.some.inj (show some _ = some o from ho)
          obtain rfl := Option.some.inj (show some _ = some d from hd)
          obtain rfl := Option.some.inj (show some _ = some v from hv)
          have t51 : b.tmps[51]? = some _ := hI.fs 2 51 _ rfl rfl (h2 ⟨2, .data⟩ (by simp) rfl)
          have t53 : b.tmps[53]? = some _ := hI.fs 4 53 _ rfl rfl (h2 ⟨4, .data⟩ (by simp) rfl)
          have t55 : b.tmps[55]? = some _ := hI.fs 6 55 _ rfl rfl (h2 ⟨6, .data⟩ (by simp) rfl)
          exact wpOp_val rfl rfl (by simp [go_sem, o2, o7, hF, t51, t53, t55]; done) ⟨rfl, hkeep 7 (by decide)⟩
        | 8, _ =>
          obtain rfl := Option.some.inj (show some _ = some o from ho)
          obtain rfl := Option.some.inj (show some _ = some d from hd)
          obtain rfl := Option.some.inj (show some _ = some v from hv)
          have t50 : b.tmps[50]? = some _ := hI.fs 1 50 _ rfl rfl (h2 ⟨1, .data⟩ (by simp) rfl)
          have t56 : b.tmps[56]? = some _ := hI.fs 7 56 _ rfl rfl (h2 ⟨7, .data⟩ (by simp) rfl)
          obtain ⟨hL8, rfl⟩ : ¬ Li L 8 ∧ x = wr.drew := by
            rcases hI.cw with h | ⟨h, _⟩
            · exact h
            · exfalso
              have h8 : 8 < L.size := by rw [hI.sz]; decide
              unfold Li at h
              simp [h8] at h h1
              rw [h] at h1; cases h1
          refine wpOp_enter rfl rfl (f := 31) (args := #[.pointer (some ⟨lr, 0, none⟩), .slice (some ⟨w.heap.size + 1, 0, none⟩) bs.length bs.length]) (by simp [go_sem, t50, t56]) ?_
          refine hk.mono ?_
          rintro e w3 ⟨rfl, hP⟩
          exact ⟨_, rfl, rfl, .inr ⟨Li.set_same (by rw [hI.sz]; decide), rfl, hP⟩⟩
        | 9, _ =>
          obtain rfl := Option.some.inj (show some _ = some o from ho)
          obtain rfl := Option.some.inj (show some _ = some d from hd)
          obtain rfl := Option.some.inj (show some _ = some v from hv)
          have t57 : b.tmps[57]? = some _ := hI.fs 8 57 _ rfl rfl (h2 ⟨8, .data⟩ (by simp) rfl)
          exact wpOp_val rfl rfl (by simp [go_sem, o2, o7, hF, t57]; done) ⟨rfl, hkeep 9 (by decide)⟩
        | 10, _ =>
          obtain rfl := Option.some.inj (show some _ = some o from ho)
          obtain rfl := Option.some.inj (show some _ = some d from hd)
          obtain rfl := Option.some.inj (show some _ = some v from hv)
          have t48 : b.tmps[48]? = some _ := hI.fs 9 48 _ rfl rfl (h2 ⟨9, .data⟩ (by simp) rfl)
          exact wpOp_val rfl rfl (by simp [go_sem, o2, o7, hF, t48]; done) ⟨rfl, hkeep 10 (by decide)⟩
        | 11, _ =>
          obtain rfl := Option.some.inj (show some _ = some o from ho)
          obtain rfl := Option.some.inj (show some _ = some d from hd)
          obtain rfl := Option.some.inj (show some _ = some v from hv)
          have t48 : b.tmps[48]? = some _ := hI.fs 9 48 _ rfl rfl (h2 ⟨9, .data⟩ (by simp) rfl)
          exact wpOp_val rfl rfl (by simp [go_sem, o2, o7, hF, t48]; done) ⟨rfl, hkeep 11 (by decide)⟩
        | 12, _ =>
          obtain rfl := Option.some.inj (show some _ = some o from ho)
          obtain rfl := Option.some.inj (show some _ = some d from hd)
          obtain rfl := Option.some.inj (show some _ = some v from hv)
          have t58 : b.tmps[58]? = some _ := hI.fs 10 58 _ rfl rfl (h2 ⟨10, .data⟩ (by simp) rfl)
          exact wpOp_val rfl rfl (by simp [go_sem, o2, o7, hF, t58]; done) ⟨rfl, hkeep 12 (by decide)⟩
        | 13, _ =>
          obtain rfl := Option.some.inj (show some _ = some o from ho)
          obtain rfl := Option.some.inj (show some _ = some d from hd)
          obtain rfl := Option.some.inj (show some _ = some v from hv)
          have t59 : b.tmps[59]? = some _ := hI.fs 11 59 _ rfl rfl (h2 ⟨11, .data⟩ (by simp) rfl)
          exact wpOp_val rfl rfl (by simp [go_sem, o2, o7, hF, t59]; done) ⟨rfl, hkeep 13 (by decide)⟩
      intro L w3 hC hall
      obtain ⟨_, _, hD3, hT⟩ : Li L 8 ∧ ReadLPost wr.drew w3 br (w.heap.size + 1) lr bs (.returned (.tuple #[.int .i64 bs.length, .nilIface])) := by
        rcases hC with ⟨h, _⟩ | h
        · exact absurd (hall 8 (by simp)) h
        · exact h
      clear hk hC hall
      simp only [putAll]
      have hE3 : w3.cell? ⟨2, 0, none⟩ = some (.iface te pe) := (World.cell?_of_block (w := wr.drew) (a := ⟨2, 0, none⟩) (hT.block 2 h2b (by omega) h2l)).trans hE2
      have h2l' := cell_lt hE3
      have hnq := nilEql te pe
      go_wp2_with fail
      go_roundw
      case rel => exact .inr ⟨rfl, rfl, hD3, ⟨hT.os, hT.tape, hT.output, hT.size, hT.block⟩⟩
      case measure => simp; omega
    · obtain ⟨_, hD, hT⟩ := hr
      have hn0 : ¬ (bs.length : Int) < (bs.length : Int) := by omega
      go_wp2_with fail
      go_ret2
      exact ⟨w.heap.size + 1, rfl, by omega, hD, hT.os.trans hB2.os, hT.tape.trans hB2.tape, hT.output.trans hB2.output, by have := hB2.size; have := hT.size; omega, fun i h1 h2 h3 => (hT.block i h2 (by omega) h3).trans (hB2.block i h1)⟩
end Go.Proofs.YbulkuzkFmt
