import Derived.Test.YbulkuzyWin
import Derived.LaidEqlPtr
namespace Go.Proofs.Ybulkuzy
open Go.RowKit

set_option maxHeartbeats 400000 in
theorem slot_any (W SB : Nat) (seq : Int) (w : World) (h0 : 0 ≤ seq ∧ seq ≤ 65535) (c9 : w.cell? ⟨W, 9, none⟩ = some (.slice (some ⟨SB, 0, none⟩) 64 64)) :
    Calls Yba.prog 14 #[.pointer (some ⟨W, 0, none⟩), .int .u16 seq] w fun e w' => e = .returned (.pointer (some ⟨SB, (seq % 64).toNat, none⟩)) ∧ ∃ n, w' = w.drewN n := by
  go_enter Yba.func14, Yba.ntmps14
  go_wp2
  go_quiet (fail)
  go_wp2
  go_ret
  exact ⟨rfl, _, rfl⟩

theorem neq_same (a : Addr) (w : World) : (binOp BinOp.neq 31 (.pointer (some a)) (.pointer (some a))).run Yba.prog w = .ok (.bool false) w := by
  obtain ⟨z, i, hi, _⟩ := info42z
  have h : ∀ d : Nat, (Op.equalIn (d + 1) 31 (.pointer (some a)) (.pointer (some a))).run Yba.prog w = .ok true w := fun d => by
    simp [Op.equalIn, run_underlying Yba.underlying31, sizeOf, typeInfo, hi, run_sameAddr_same]
  simp only [binOp]
  simp [Op.equal, Op.maxDepth, h 9999]

/-- THE YIELD FUNCTION, called in turn: position i -/
theorem yield_any (next mask limit : Int) (n i : Nat) (bc bn bo bx bm bh bl HB : Nat) (w : World) (h : Option Addr) (hn : n ≤ 63) (hi : i ≤ n)
    (cc : w.cell? ⟨bc, 0, none⟩ = some (.int .i64 i)) (fc : w.frozen? ⟨bc, 0, none⟩ = false) (cn : w.cell? ⟨bn, 0, none⟩ = some (.int .i64 n)) (cx : w.cell? ⟨bx, 0, none⟩ = some (.int .u16 next))
    (cm : w.cell? ⟨bm, 0, none⟩ = some (.int .u64 mask)) (ch : w.cell? ⟨bh, 0, none⟩ = some (.slice (some ⟨HB, 0, none⟩) 64 64)) (cl : w.cell? ⟨bl, 0, none⟩ = some (.int .i64 limit))
    (e1 : bn ≠ bc) (e2 : bx ≠ bc) (e3 : bm ≠ bc) (e4 : bh ≠ bc) (e5 : bl ≠ bc)
    (hh : h = if bt mask i = true then some ⟨HB, i * 14, none⟩ else none) :
    Calls Yba.prog 9 #[.int .u16 (IntKind.u16.wrap (next + i)), .pointer h, .pointer (some ⟨bc, 0, none⟩), .pointer (some ⟨bn, 0, none⟩), .pointer (some ⟨bo, 0, none⟩), .pointer (some ⟨bx, 0, none⟩), .pointer (some ⟨bm, 0, none⟩), .pointer (some ⟨bh, 0, none⟩), .pointer (some ⟨bl, 0, none⟩)] w
      fun e w' => e = .returned (.bool (decide ((i : Int) + 1 < limit))) ∧ w' = w.setCell ⟨bc, 0, none⟩ (.int .i64 (i + 1)) := by
  have hi' : (i : Int) ≤ (n : Int) := by omega
  have hn' : (n : Int) ≤ 63 := by omega
  have k1 : (w.setCell ⟨bc, 0, none⟩ (.int .i64 (i + 1))).cell? ⟨bn, 0, none⟩ = some (.int .i64 n) := by rw [cso (by simp)]; exact cn
  have k2 : (w.setCell ⟨bc, 0, none⟩ (.int .i64 (i + 1))).cell? ⟨bx, 0, none⟩ = some (.int .u16 next) := by rw [cso (by simp)]; exact cx
  have k3 : (w.setCell ⟨bc, 0, none⟩ (.int .i64 (i + 1))).cell? ⟨bm, 0, none⟩ = some (.int .u64 mask) := by rw [cso (by simp)]; exact cm
  have k4 : (w.setCell ⟨bc, 0, none⟩ (.int .i64 (i + 1))).cell? ⟨bh, 0, none⟩ = some (.slice (some ⟨HB, 0, none⟩) 64 64) := by rw [cso (by simp)]; exact ch
  have k5 : (w.setCell ⟨bc, 0, none⟩ (.int .i64 (i + 1))).cell? ⟨bl, 0, none⟩ = some (.int .i64 limit) := by rw [cso (by simp)]; exact cl
  have k6 : (w.setCell ⟨bc, 0, none⟩ (.int .i64 (i + 1))).cell? ⟨bc, 0, none⟩ = some (.int .i64 (i + 1)) := css cc
  have hne : ∀ a w, (binOp BinOp.neq 31 (.pointer (some a)) (.pointer (some a))).run Yba.prog w = .ok (.bool false) w := neq_same
  have hbk : (bits BinOp.and IntKind.u64 (mask / 2 ^ i) 1 == 1) = bt mask i := rfl
  cases hb : bt mask i with
  | true =>
    rw [hb, if_pos rfl] at hh
    subst hh
    go_enter Yba.func9, Yba.ntmps9
    go_wp2
    go_ret
    exact ⟨rfl, rfl⟩
  | false =>
    rw [hb, if_neg (by simp)] at hh
    subst hh
    go_enter Yba.func9, Yba.ntmps9
    go_wp2
    go_ret
    exact ⟨rfl, rfl⟩

/-- THE WORLD WHILE places GOES: all is as it was in w but the counter's block -/
def Turned (w wr : World) (bc i : Nat) : Prop := w.grownBy wr (some bc) ∧ wr.cell? ⟨bc, 0, none⟩ = some (.int .i64 i) ∧ wr.frozen? ⟨bc, 0, none⟩ = false

/-- all that the closure's cells are -/
structure Caps (w : World) (next mask limit : Int) (n : Nat) (bc bn bx bm bh bl HB W bw : Nat) : Prop where
  cn : w.cell? ⟨bn, 0, none⟩ = some (.int .i64 n)
  cx : w.cell? ⟨bx, 0, none⟩ = some (.int .u16 next)
  cm : w.cell? ⟨bm, 0, none⟩ = some (.int .u64 mask)
  ch : w.cell? ⟨bh, 0, none⟩ = some (.slice (some ⟨HB, 0, none⟩) 64 64)
  cl : w.cell? ⟨bl, 0, none⟩ = some (.int .i64 limit)
  cw : w.cell? ⟨bw, 0, none⟩ = some (.pointer (some ⟨W, 0, none⟩))
  w7 : w.cell? ⟨W, 7, none⟩ = some (.int .u16 next)
  w8 : w.cell? ⟨W, 8, none⟩ = some (.int .u16 (IntKind.u16.wrap (next + n)))
  w9 : w.cell? ⟨W, 9, none⟩ = some (.slice (some ⟨HB + 1, 0, none⟩) 64 64)
  w10 : w.cell? ⟨W, 10, none⟩ = some (.int .i64 (cnt mask (n + 1)))
  sl : Slots w HB next mask (n + 1)
  e1 : bn ≠ bc
  e2 : bx ≠ bc
  e3 : bm ≠ bc
  e4 : bh ≠ bc
  e5 : bl ≠ bc
  e6 : bw ≠ bc
  e7 : W ≠ bc
  e8 : HB + 1 ≠ bc

theorem kept_cell {w wr : World} {bc : Nat} (h : w.grownBy wr (some bc)) {b o : Nat} {v : Value} (hc : w.cell? ⟨b, o, none⟩ = some v) (hb : b ≠ bc) : wr.cell? ⟨b, o, none⟩ = some v :=
  (World.cell?_of_block (w := w) (h.block b (World.block_lt_of_cell? w _ hc) (by simpa using hb))).trans hc
theorem kept_frozen {w wr : World} {bc : Nat} (h : w.grownBy wr (some bc)) {b o : Nat} {v : Value} (hc : w.cell? ⟨b, o, none⟩ = some v) (hb : b ≠ bc) : wr.frozen? ⟨b, o, none⟩ = w.frozen? ⟨b, o, none⟩ :=
  World.frozen?_of_block (w := w) (h.block b (World.block_lt_of_cell? w _ hc) (by simpa using hb))

theorem Caps.kept {w wr : World} {next mask limit : Int} {n bc bn bx bm bh bl HB W bw : Nat} (h : Caps w next mask limit n bc bn bx bm bh bl HB W bw) (hg : w.grownBy wr (some bc)) : Caps wr next mask limit n bc bn bx bm bh bl HB W bw where
  cn := kept_cell hg h.cn h.e1
  cx := kept_cell hg h.cx h.e2
  cm := kept_cell hg h.cm h.e3
  ch := kept_cell hg h.ch h.e4
  cl := kept_cell hg h.cl h.e5
  cw := kept_cell hg h.cw h.e6
  w7 := kept_cell hg h.w7 h.e7
  w8 := kept_cell hg h.w8 h.e7
  w9 := kept_cell hg h.w9 h.e7
  w10 := kept_cell hg h.w10 h.e7
  sl := fun i hi => ⟨kept_cell hg (h.sl i hi).1 h.e8, by rw [kept_frozen hg (h.sl i hi).1 h.e8]; exact (h.sl i hi).2⟩
  e1 := h.e1
  e2 := h.e2
  e3 := h.e3
  e4 := h.e4
  e5 := h.e5
  e6 := h.e6
  e7 := h.e7
  e8 := h.e8

theorem turned_step {w wr : World} {bc i : Nat} (h : Turned w wr bc i) (v : Nat) : Turned w (wr.setCell ⟨bc, 0, none⟩ (.int .i64 v)) bc v := by
  obtain ⟨hg, hc, hf⟩ := h
  refine ⟨?_, css hc, by rw [World.frozen?_setCell]; exact hf⟩
  exact ⟨hg.os, hg.tape, hg.output, by simpa using hg.size, fun k hk hne => (Below.heap_setCell _ _ _ _ (fun e => hne (by rw [e]))).trans (hg.block k hk hne)⟩

theorem turned_draw {w wr : World} {bc i : Nat} (h : Turned w wr bc i) (m : Nat) : Turned w (wr.drewN m) bc i := by
  obtain ⟨hg, hc, hf⟩ := h
  exact ⟨⟨hg.os, hg.tape, hg.output, hg.size, hg.block⟩, hc, hf⟩

/-- how many calls -/
def calls (limit : Int) (n : Nat) : Int := min limit (n + 1)

/-- what places leaves -/
def Went (w w' : World) (mask limit : Int) (n bc : Nat) : Prop := ∃ c : Nat, Turned w w' bc c ∧ (c : Int) = (if cnt mask (n + 1) = 0 then 0 else calls limit n)

/-- the loop's measure -/
def left (n bc : Nat) (w : World) : Nat := n + 1 - (intOf ((w.cell? ⟨bc, 0, none⟩).getD undef)).toNat
theorem left_eq {w wr : World} {n bc i : Nat} (h : Turned w wr bc i) : left n bc wr = n + 1 - i := by
  unfold left; rw [h.2.1]; simp [intOf]

theorem wrap_id {next : Int} (h0 : 0 ≤ next ∧ next ≤ 65535) : IntKind.u16.wrap (next + (0 : Nat)) = next := by rw [IntKind.wrap_u16]; omega
theorem wrap_rng (x : Int) : 0 ≤ IntKind.u16.wrap x ∧ IntKind.u16.wrap x ≤ 65535 := by rw [IntKind.wrap_u16]; omega
theorem wrap_step (next : Int) (i : Nat) : IntKind.u16.wrap (IntKind.u16.wrap (next + i) + 1) = IntKind.u16.wrap (next + (i + 1 : Nat)) := by
  simp only [IntKind.wrap_u16]; omega
theorem neq_yes {next : Int} {n i : Nat} (hn : n ≤ 63) (hi : i ≤ n) : (IntKind.u16.wrap (next + i) != IntKind.u16.wrap (IntKind.u16.wrap (next + n) + 1)) = true := by
  rw [bne_iff_ne, IntKind.wrap_u16, IntKind.wrap_u16, IntKind.wrap_u16]; omega
theorem neq_no (next : Int) {n i : Nat} (h : i = n + 1) : (IntKind.u16.wrap (next + i) != IntKind.u16.wrap (IntKind.u16.wrap (next + n) + 1)) = false := by
  rw [bne_eq_false_iff_eq, IntKind.wrap_u16, IntKind.wrap_u16, IntKind.wrap_u16]; omega
theorem pos_eq (next : Int) (i : Nat) : (IntKind.u16.wrap (next + i) % 64).toNat = pos next i := by
  unfold pos; rw [IntKind.wrap_u16]; omega

set_option maxHeartbeats 1000000 in
theorem places_any (next mask limit : Int) (n : Nat) (bc bn bo bx bm bh bl HB W bw : Nat) (w : World) (hn : n ≤ 63) (h0 : 0 ≤ next ∧ next ≤ 65535) (hlim : 1 ≤ limit ∧ limit ≤ n + 2)
    (hC : Caps w next mask limit n bc bn bx bm bh bl HB W bw) (hT : Turned w w bc 0) :
    Calls Yba.prog 13 #[.func (.func 9) #[] #[.pointer (some ⟨bc, 0, none⟩), .pointer (some ⟨bn, 0, none⟩), .pointer (some ⟨bo, 0, none⟩), .pointer (some ⟨bx, 0, none⟩), .pointer (some ⟨bm, 0, none⟩), .pointer (some ⟨bh, 0, none⟩), .pointer (some ⟨bl, 0, none⟩)], .pointer (some ⟨bw, 0, none⟩)] w
      fun e w' => e = .returned (.tuple #[]) ∧ Went w w' mask limit n bc := by
  have cw := hC.cw
  have w7 := hC.w7
  have w10 := hC.w10
  by_cases hz : cnt mask (n + 1) = 0
  · have hz' : ((cnt mask (n + 1) : Int) == 0) = true := by rw [hz]; rfl
    go_enter Yba.func13, Yba.ntmps13
    go_wp2
    refine bodyPost_ret (results_none rfl _ _ _) rfl ?_
    exact ⟨rfl, 0, hT, by rw [if_pos hz]; rfl⟩
  · have hz' : ((cnt mask (n + 1) : Int) == 0) = false := by rw [beq_eq_false_iff_ne]; omega
    go_enter Yba.func13, Yba.ntmps13
    go_wp2
    go_loopw [3] (fun s wr => ∃ i : Nat, i ≤ n + 1 ∧ (i : Int) < limit ∧ s = .int .u16 (IntKind.u16.wrap (next + i)) ∧ Turned w wr bc i) (fun _ wr => left n bc wr)
    case atStart => exact ⟨0, by omega, by omega, by rw [wrap_id h0], hT⟩
    case round =>
      obtain ⟨i, hi, hil, rfl, hT'⟩ := hrel
      have hCr := hC.kept hT'.1
      have cw' := hCr.cw
      have w8' := hCr.w8
      have w9' := hCr.w9
      clear cw w7 w10
      have hr := wrap_rng (next + i)
      by_cases hlt : i ≤ n
      · have hne := neq_yes (next := next) hn hlt
        have hsl := (hCr.sl i (by omega)).1
        have hpos := pos_eq next i
        obtain ⟨h, hh⟩ : ∃ h : Option Addr, h = (if i < n + 1 ∧ bt mask i = true then some ⟨HB, i * 14, none⟩ else none) := ⟨_, rfl⟩
        rw [← hh] at hsl
        have HH : Hid (h = if bt mask i = true then some ⟨HB, i * 14, none⟩ else none) := by
          rw [hh]
          have e : (i < n + 1 ∧ bt mask i = true) ↔ bt mask i = true := ⟨fun x => x.2, fun x => ⟨by omega, x⟩⟩
          show _ = _
          simp only [e]
        clear hh
        have hst := wrap_step next i
        obtain ⟨g, hg⟩ : ∃ g : Bool, g = decide ((i : Int) + 1 < limit) := ⟨_, rfl⟩
        have HG : Hid (g = decide ((i : Int) + 1 < limit)) := hg
        clear hg
        cases g
        all_goals
          go_wp2_with fail
          refine (slot_any W (HB + 1) _ _ hr w9').mono ?_
          rintro e w1 ⟨rfl, nd, rfl⟩
          rw [hpos]
          go_wp2_with fail
          have hTd := turned_draw hT' nd
          have hCd := hC.kept hTd.1
          refine (yield_any next mask limit n i bc bn bo bx bm bh bl HB (wr.drewN nd) h hn hlt hTd.2.1 hTd.2.2 hCd.cn hCd.cx hCd.cm hCd.ch hCd.cl hC.e1 hC.e2 hC.e3 hC.e4 hC.e5 HH.out).mono ?_
          have hT2 : Turned w ((wr.drewN nd).setCell ⟨bc, 0, none⟩ (.int .i64 ((i : Int) + 1))) bc (i + 1) := turned_step hTd (i + 1)
          clear hTd hCd
          rw [← HG.out]
          rintro e w1 ⟨rfl, rfl⟩
        · go_wp2_with fail
          refine bodyPost_ret (results_none rfl _ _ _) rfl ?_
          have hgo : ¬ (i : Int) + 1 < limit := of_decide_eq_false HG.out.symm
          exact ⟨rfl, i + 1, hT2, by rw [if_neg hz]; unfold calls; omega⟩
        · go_wp2_with fail
          go_roundw
          case rel =>
            have hgo : (i : Int) + 1 < limit := of_decide_eq_true HG.out.symm
            exact ⟨i + 1, by omega, by omega, rfl, hT2⟩
          case measure => rw [left_eq hT', left_eq hT2]; omega
      · have hin : ¬ i ≤ n := hlt
        have hne := neq_no next (n := n) (i := i) (by omega)
        go_wp2_with fail
        go_end0
        exact ⟨rfl, i, hT', by rw [if_neg hz]; unfold calls; omega⟩

end Go.Proofs.Ybulkuzy
