/-
  WALK: (*link).lending (9) at a Want frame: into a channel with room, or none.
-/
import Derived.Test.YbulkuzkFmtErr
namespace Go.Proofs.YbulkuzkFmt
open Go.RowKit Go.Conc Go.Extern.Stop Go.Stop Go.Extern

/-- what was there at the start is as it was, but for the blocks of xs -/
structure Keep (w w' : World) (xs : List Nat) : Prop where
  os : w'.os = w.os
  tape : w'.tape = w.tape
  output : w'.output = w.output
  size : w.heap.size ≤ w'.heap.size
  block : ∀ i, i < w.heap.size → i ∉ xs → w'.heap[i]? = w.heap[i]?
theorem Keep.refl (w : World) (xs : List Nat) : Keep w w xs := ⟨rfl, rfl, rfl, Nat.le_refl _, fun _ _ _ => rfl⟩
theorem Keep.trans {a b c : World} {xs : List Nat} (h : Keep a b xs) (k : Keep b c xs) : Keep a c xs :=
  ⟨k.os.trans h.os, k.tape.trans h.tape, k.output.trans h.output, Nat.le_trans h.size k.size, fun i hi hx => (k.block i (Nat.lt_of_lt_of_le hi h.size) hx).trans (h.block i hi hx)⟩
theorem Keep.of_below {w w' : World} (h : Below w.heap.size w w') (xs : List Nat) : Keep w w' xs := ⟨h.os, h.tape, h.output, h.size, fun i hi _ => h.block i hi⟩
theorem Keep.of_grown {w w' : World} {row : Option Nat} {xs : List Nat} (h : w.grownBy w' row) (hr : ∀ b, row = some b → b ∈ xs ∨ w.heap.size ≤ b) : Keep w w' xs :=
  ⟨h.os, h.tape, h.output, h.size, fun i hi hx => h.block i hi (fun e => by rcases hr i e.symm with h1 | h1; exact hx h1; omega)⟩
theorem Keep.more {w w' : World} {xs ys : List Nat} (h : Keep w w' xs) (hs : ∀ x, x ∈ xs → x ∈ ys) : Keep w w' ys :=
  ⟨h.os, h.tape, h.output, h.size, fun i hi hx => h.block i hi (fun e => hx (hs i e))⟩
theorem Keep.box {w w' : World} {xs : List Nat} (h : Keep w w' xs) {b : Nat} {c : Array Value} {t : TypeId} (hb : Box w b c t) (hx : b ∉ xs) : Box w' b c t := (h.block b hb.lt hx).trans hb
theorem Keep.cell {w w' : World} {xs : List Nat} (h : Keep w w' xs) {p : Addr} {v : Value} (hb : w.cell? p = some v) (hx : p.block ∉ xs) : w'.cell? p = some v := (World.cell?_of_block (h.block p.block (cell_lt hb) hx)).trans hb

theorem setChan_other (w : World) (c i cap : Nat) (buf : Array Value) (cl : Bool) (s r : Nat) (tm : Bool) (h : i ≠ c) : (w.setChan c cap buf cl s r tm).heap[i]? = w.heap[i]? := by
  simp [World.setChan, Array.getElem?_setIfInBounds_ne (Ne.symm h)]
theorem keep_setChan (w : World) (c cap : Nat) (buf : Array Value) (cl : Bool) (s r : Nat) (tm : Bool) {xs : List Nat} (hc : c ∈ xs) : Keep w (w.setChan c cap buf cl s r tm) xs :=
  ⟨rfl, rfl, rfl, Nat.le_of_eq (size_setChan ..).symm, fun _ _ hx => setChan_other _ _ _ _ _ _ _ _ _ (fun e => hx (e ▸ hc))⟩

/-- the channel: empty, or with the old request in it -/
def chS (full : Bool) : Obj := .chan 1 (bif full then #[.agg #[.int .u64 7, .slice none 0 0]] else #[]) false (bif full then 1 else 0) 0 false
def LendPost (full : Bool) (mc : Nat) (S : List (Nat × Nat)) (c1 : Nat) (a1 : Addr) (br lr : Nat) (w w' : World) (e : Ending) : Prop :=
  Keep w w' [br, lr, c1] ∧
  bif full then (∃ q t, e = .returned (.tuple #[.bool true, .iface 112 (.pointer (some ⟨q, 0, none⟩))]) ∧ Box w' q #[.string t, .iface 99 (.pointer (some a1))] 186 ∧ w'.heap[c1]? = some (chS true))
  else (e = .returned (.tuple #[.bool true, .nilIface]) ∧ ∃ v, w'.heap[c1]? = some (.chan 1 #[.agg #[.int .u64 mc, v]] false 1 0 false) ∧ w'.ownsRow w.heap.size 66 2 v S.length (spc S))

theorem payload_length (mc : Nat) (S : List (Nat × Nat)) : (payload mc S).length = 10 + 16 * S.length := by
  unfold payload
  rw [List.length_append, List.length_append, enc_length, Lib.beBytes_length, Lib.beBytes_length]; omega

set_option maxRecDepth 100000 in
set_option maxHeartbeats 2000000 in
theorem lending_any (full : Bool) (F : Interp) (lb c1 c2 lr br g o c mc : Nat) (S : List (Nat × Nat)) (te : TypeId) (pe : Value) (a1 : Addr) (s1 : ByteArray) (w : World) (hF : F.answers w.tape)
    (bL : Box w lb (linkC c1 c2) 51) (hl : Box w lr (lbox br (payload mc S).length) 94) (h : Box w br (bbox g o (payload mc S).length c 0) 118) (hb : Bts w g o (payload mc S)) (hg : g < w.heap.size)
    (hmc : mc < 18446744073709551616) (hS : S.length ≤ 1024) (hA : Asc S) (hE : w.cell? ⟨2, 0, none⟩ = some (.iface te pe)) (hP : w.cell? ⟨1, 0, none⟩ = some (.iface 99 (.pointer (some a1)))) (hs : w.cell? a1 = some (.string s1))
    (hch : w.heap[c1]? = some (chS full)) (n1 : g ≠ br) (n2 : lr ≠ br) (n3 : 2 ≠ br ∧ 2 ≠ lr) (n4 : lb ≠ br ∧ lb ≠ lr) (n5 : c1 ≠ br ∧ c1 ≠ lr) (n6 : 1 ≠ br ∧ 1 ≠ lr) (n7 : a1.block ≠ br ∧ a1.block ≠ lr) :
    Calls Ybaf.prog 9 #[.pointer (some ⟨lb, 0, none⟩), .agg #[.int .u8 87, .pointer (some ⟨lr, 0, none⟩)]] w fun e w' => LendPost full mc S c1 a1 br lr w w' e := by
  have hlen := payload_length mc S
  have hA0 := (Below.refl w.heap.size w).alloc (Nat.le_refl _) (Obj.cells #[.int .u8 87, .pointer (some ⟨lr, 0, none⟩)] 62)
  have hk := readAll_any 87 16394 lr br g o c (payload mc S) te pe (w.alloc (Obj.cells #[.int .u8 87, .pointer (some ⟨lr, 0, none⟩)] 62)) (hl.mono hA0) (h.mono hA0) (hb.below hA0 hg) (by simp; omega) (by omega) (by omega) (by omega) n1 n2 ((hA0.cell (p := ⟨2, 0, none⟩) (cell_lt hE)).trans hE) n3.1 n3.2
  have hK0 : Keep w (w.alloc (Obj.cells #[.int .u8 87, .pointer (some ⟨lr, 0, none⟩)] 62)) [br, lr] := Keep.of_below hA0 _
  clear hl h hb
  refine calls_of_wpN Ybaf.func9 rfl ?_
  simp only [Ybaf.ntmps9, List.size_toArray, List.length_cons, List.length_nil, Nat.reduceAdd, Nat.reduceSub, Array.replicate_succ, Array.replicate_zero, List.push_toArray, List.append_toArray, List.nil_append, List.cons_append]
  refine wpN_seq_wp fun K hK => ?_
  go_wp2_with fail
  refine wpN_seq_wp fun K hK => ?_
  go_wp2_with fail
  refine wpN_block ?_
  refine wpN_seq_wp fun K hK => ?_
  go_wp2_with fail
  refine wpN_cond (t := true) rfl ?_
  simp only [if_true]
  refine wpN_seq_wp fun K hK => ?_
  go_wp2_with fail
  refine hk.mono ?_
  clear hk
  rintro e w1 ⟨d, rfl, hd, bD, e1, e2, e3, e4, e5⟩
  have hK1 : Keep w w1 [br, lr] := hK0.trans ⟨e1, e2, e3, e4, fun i hi hx => e5 i hi (fun e => hx (by simp [e])) (fun e => hx (by simp [e]))⟩
  have hdl := bD.lt
  have hk := dec_any d 0 (payload mc S).length mc S w1 (fun j b hj => by rw [bD.cell]; simp [byc, hj]) hmc hS hA (Nat.le_refl _) (by omega) hdl
  simp at hd
  clear hlen
  go_wp2_with fail
  clear e1 e2 e3 e4 e5 hK0 bD
  refine wpN_seq_wp fun K hK => ?_
  go_wp2_with fail
  refine wpN_seq_wp fun K hK => ?_
  go_wp2_with fail
  refine hk.mono ?_
  clear hk
  rintro e w2 ⟨⟨v, rfl, hown⟩, hb2⟩
  have hK2 := hK1.trans (Keep.of_below hb2 _)
  have hown := ownsRow_le hown hK1.size
  clear hb2
  obtain ⟨va, vc, rfl⟩ := ownsRow_form hown
  go_wp2_with fail
  have hA2 := (Below.refl w2.heap.size w2).alloc (Nat.le_refl _) (Obj.cells #[.int .u64 (mc : Int), .slice va S.length vc] 54)
  have hK3 := hK2.trans (Keep.of_below hA2 _)
  have bR := Box.new w2 #[.int .u64 (mc : Int), .slice va S.length vc] 54
  have hown3 := ownsRow_mono hown (below_grown hA2 none) (fun b e => by cases e)
  have hsz2 := hK2.size
  clear hA2 hown hK2 hK1
  generalize w2.alloc (Obj.cells #[.int .u64 (mc : Int), .slice va S.length vc] 54) = w3 at *
  generalize w2.heap.size = rb at *
  have bL3 := hK3.box bL (by simp; exact n4)
  have hch3 : w3.heap[c1]? = some (chS full) := (hK3.block c1 (Array.getElem?_eq_some_iff.1 hch).1 (by simp; exact n5)).trans hch
  have l4 := bL3.cell 4
  have hll := bL3.lt
  have r0 := bR.cell 0
  have r1 := bR.cell 1
  have hrl := bR.lt
  simp [linkC] at l4
  simp at r0 r1
  refine wpN_seq_wp fun K hK => ?_
  go_wp2_with fail
  refine wpN_seq_k fun K hK => ?_
  refine wpN_seq_wp fun K2 hK2 => ?_
  go_wp2_with fail
  refine wpN_seq_k fun K2 hK2 => ?_
  refine wpN_region ?_
  show opsN _ _ _ [0, 1, 2] _ _
  cases full
  · refine opsN_sel_room (c := c1) (v := .agg #[.int .u64 (mc : Int), .slice va S.length vc]) (z := .agg #[.int .u64 0, .slice none 0 0]) rfl rfl (by simp [go_sem, scase]; done) hch3 (by decide) ?_
    refine opsN_val (v := .int .i64 0) rfl rfl (by simp [go_sem, goInt]; rfl) ?_
    refine opsN_val (v := .bool true) rfl rfl (by simp [go_sem]; rfl) ?_
    refine opsN_nil ?_
    go_wp2_with fail
    refine wpN_of_wp ?_
    go_wp2_with fail
    refine wpN_of_wp ?_
    go_wp2_with fail
    have hcl := (Array.getElem?_eq_some_iff.1 hch3).1
    have hKc : Keep w3 (w3.setChan c1 1 #[.agg #[.int .u64 (mc : Int), .slice va S.length vc]] false 1 0 false) [br, lr, c1] := keep_setChan _ _ _ _ _ _ _ _ (by simp)
    go_ret2
    refine ⟨(hK3.more (by simp)).trans hKc, ?_⟩
    refine ⟨rfl, _, heap_setChan _ _ _ _ _ _ _ _ hcl, ?_⟩
    refine hown3.kept (w' := w3.setChan c1 1 #[.agg #[.int .u64 (mc : Int), .slice va S.length vc]] false 1 0 false) (row := some c1) ⟨rfl, rfl, rfl, Nat.le_of_eq (size_setChan ..).symm, fun i _ hx => setChan_other _ _ _ _ _ _ _ _ _ (fun e => hx (by rw [e]))⟩ ?_
    rcases hown3.2 with ⟨hv, _⟩ | ⟨g', cap, cur, hv, hb', hcur⟩
    · left; rw [hv]; rfl
    · right; rw [hv]; intro e
      have hc1 := (Array.getElem?_eq_some_iff.1 hch).1
      have e' : g' = c1 := by simpa [Value.ownBlock] using e
      omega
  · refine opsN_sel_full (c := c1) (v := .agg #[.int .u64 (mc : Int), .slice va S.length vc]) (z := .agg #[.int .u64 0, .slice none 0 0]) rfl rfl (by simp [go_sem, scase]; done) hch3 (by decide) ?_
    refine opsN_val (v := .int .i64 (-1)) rfl rfl (by simp [go_sem, goInt]; rfl) ?_
    refine opsN_val (v := .bool false) rfl rfl (by simp [go_sem]; rfl) ?_
    refine opsN_nil ?_
    go_wp2_with fail
    refine wpN_of_wp ?_
    have hP3 := hK3.cell hP (by simp; exact n6)
    have hs3 := hK3.cell hs (by simp; exact n7)
    have hA3 := (Below.refl w3.heap.size w3).alloc (Nat.le_refl _) (Obj.cells #[.iface 99 (.pointer (some a1))] 20)
    have hk := errorf_any F w3.heap.size a1 s1 (w3.alloc (Obj.cells #[.iface 99 (.pointer (some a1))] 20)) (by show F.answers w3.tape; rw [hK3.tape]; exact hF) (by simp) ((hA3.cell (cell_lt hs3)).trans hs3)
    have h1l := cell_lt hP3
    go_wp2_with fail
    refine hk.mono ?_
    clear hk
    rintro e w4 ⟨q, t, rfl, hq, bq, hb4⟩
    have hK4 := hK3.trans ((Keep.of_below hA3 _).trans (Keep.of_below hb4 _))
    go_wp2_with fail
    go_ret2
    exact ⟨hK4.more (by simp), q, t, rfl, bq, (hK4.block c1 (Array.getElem?_eq_some_iff.1 hch).1 (by simp; exact n5)).trans hch⟩
end Go.Proofs.YbulkuzkFmt
