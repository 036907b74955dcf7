/-
  WALK: the law (3).
-/
import Derived.Test.YbulkuzkFmtLa
import Derived.Conc.LoneSelectN
namespace Go.Proofs.YbulkuzkFmt
open Go.RowKit Go.Conc Go.Extern.Stop Go.Stop Go.Extern

theorem info22 : (Ybaf.prog.info? 22).map (fun i => (i.zero, i.size, i.bytes)) = some (some (.int .u64 0), 1, 8) := by kernel_rfl

theorem mk_any (t e : TypeId) (z : Value) (b : Nat) (ht : Ybaf.prog.underlying t = some (.slice e)) (hinfo : (Ybaf.prog.info? e).map (fun i => (i.zero, i.size, i.bytes)) = some (some z, 1, b)) (n : Nat) (hn : b * n ≤ 1000000) (hn2 : n ≤ 1000000) (x : World) :
    (Instr.makeSlice t (.int .i64 0) (.int .i64 n)).run Ybaf.prog x = .ok (.slice (some ⟨x.heap.size, 0, none⟩) 0 n) (x.alloc (.cells (madeCells z.cells n) e)) := by
  obtain ⟨i0, hi, hz0, hz1, hz2⟩ := info_parts hinfo
  have hb : (b : Int) * (n : Int) ≤ 1000000 := by
    have : ((b * n : Nat) : Int) ≤ 1000000 := by omega
    rwa [Int.natCast_mul] at this
  have := run_makeSlice (P := Ybaf.prog) (w := x) t e i0 _ ht hi hz0 .i64 .i64 0 n (by omega) (by omega) (by rw [hz1]; omega) (by rw [hz2]; omega) (by omega)
  simpa [hz1] using this

def Sp16 (w : World) (a : Option Addr) (xs : List Nat) : Prop := 0 < xs.length → ∃ b off, a = some ⟨b, off, none⟩ ∧ b < w.heap.size ∧ ∀ i, i < xs.length → w.cell? ⟨b, off + i, none⟩ = some (.int .u16 (xs.getD i 0 : Nat))

theorem wpList_append_run {P : Program} {ops : Array Oper} {rest : List Oper} {o : Oper} {a : Act} {w : World} {Q : Exit → Act → World → Prop} (hgd : o.guard = none) (s x : Operand) (t : TypeId)
    (ho : o.op = .call { callee := .builtin .append, args := #[s, x], argTypes := #[t, t] }) (v u v' : Value) (w' : World) (hs : a.eval s = v) (hx : a.eval x = u) (hr : (Builtin.append_ #[t, t] o.type #[v, u]).run P w = .ok v' w')
    (h : wpList P ops Q rest (a.put o.dst v') w') : wpList P ops Q (o :: rest) a w :=
  wpList_plain hgd fun _ hK => by
    unfold Oper.wp execOp
    simp only [ho, resolve, invoke, builtin, Sem.run_bind, Sem.run_pure, Result.andThen_ok, List.map_toArray, List.map_cons, List.map_nil, hs, hx, hr]
    exact hK _ _ h
def losK (xs : List Nat) (k : Nat) : List Value := ((spans xs).take k).map fun s => .int .u64 s.1
def hisK (xs : List Nat) (k : Nat) : List Value := ((spans xs).take k).map fun s => .int .u64 s.2
theorem and_255_u16 (a : Nat) (ha : a < 65536) : bits .and .u16 (a : Int) 255 = ((a % 256 : Nat) : Int) := by
  have hx : a &&& 255 < 2 ^ 16 := Nat.and_lt_two_pow _ (by omega)
  have h1 : (BitVec.ofInt 16 (a : Int)).toNat = a := by
    rw [BitVec.ofInt_natCast, BitVec.toNat_ofNat]; exact Nat.mod_eq_of_lt (by omega)
  have h2 : (BitVec.ofInt 16 (255 : Int)).toNat = 255 := by decide
  have h3 : a &&& 255 = a % 256 := Nat.and_two_pow_sub_one_eq_mod a 8
  show IntKind.u16.wrap ((BitVec.ofInt 16 (a : Int) &&& BitVec.ofInt 16 (255 : Int)).toNat : Int) = _
  rw [BitVec.toNat_and, h1, h2, h3]
  simp [IntKind.wrap, IntKind.signed, IntKind.bits]
  omega
theorem losK_succ {xs : List Nat} {k : Nat} (h : k < xs.length) : losK xs (k + 1) = losK xs k ++ [.int .u64 (loK xs k : Nat)] := by
  unfold losK
  rw [take_span (spans_get h)]; simp
theorem hisK_succ {xs : List Nat} {k : Nat} (h : k < xs.length) : hisK xs (k + 1) = hisK xs k ++ [.int .u64 (hiK xs k : Nat)] := by
  unfold hisK
  rw [take_span (spans_get h)]; simp
theorem losK_get {xs : List Nat} {k : Nat} (h : k < xs.length) : (losK xs xs.length)[k]? = some (.int .u64 (loK xs k : Nat)) := by
  unfold losK
  rw [List.take_of_length_le (by rw [spans_length]; exact Nat.le_refl _), List.getElem?_map, spans_get h]; rfl
theorem hisK_get {xs : List Nat} {k : Nat} (h : k < xs.length) : (hisK xs xs.length)[k]? = some (.int .u64 (hiK xs k : Nat)) := by
  unfold hisK
  rw [List.take_of_length_le (by rw [spans_length]; exact Nat.le_refl _), List.getElem?_map, spans_get h]; rfl
theorem losK_length {xs : List Nat} {k : Nat} (h : k ≤ xs.length) : (losK xs k).length = k := by simp [losK, spans_length]; omega
theorem hisK_length {xs : List Nat} {k : Nat} (h : k ≤ xs.length) : (hisK xs k).length = k := by simp [hisK, spans_length]; omega
structure LoopInv (mc : Nat) (xs : List Nat) (w : World) (k : Nat) (va : Option Addr) (vc : Nat) (wr : World) : Prop where
  f1 : Fill wr w.heap.size 22 xs.length (losK xs k)
  f2 : Fill wr (w.heap.size + 1) 22 xs.length (hisK xs k)
  f3 : wr.ownsRow (w.heap.size + 2) 5 1 (.slice va (10 + 16 * k) vc) (10 + 16 * k) (Lib.byteCells (bufK mc xs k))
  bel : Below w.heap.size w wr
  sz : w.heap.size + 3 ≤ wr.heap.size

set_option maxRecDepth 100000 in
set_option maxHeartbeats 4000000 in
theorem law_any (full : Bool) (F : Interp) (mc : Nat) (xs : List Nat) (a : Option Addr) (cap : Nat) (te : TypeId) (pe : Value) (a1 : Addr) (s1 : ByteArray) (w : World) (hF : F.answers w.tape)
    (hmc : mc < 18446744073709551616) (hx : ∀ x ∈ xs, x < 65536) (hl : xs.length ≤ 1024) (hsp : Sp16 w a xs)
    (hE : w.cell? ⟨2, 0, none⟩ = some (.iface te pe)) (hP : w.cell? ⟨1, 0, none⟩ = some (.iface 99 (.pointer (some a1)))) (hs : w.cell? a1 = some (.string s1)) :
    Calls Ybaf.prog 3 #[.int .u64 mc, .slice a xs.length cap, .bool full] w fun e w' => e = .returned (.bool true) ∧ Below w.heap.size w w' := by
  have hl' : ¬ (1024 : Int) < (xs.length : Int) := by omega
  have hl2 : (xs.length : Int) ≤ 1024 := by omega
  have mk1 := mk_any 24 22 (.int .u64 0) 8 Ybaf.underlying24 info22 xs.length (by omega) (by omega)
  have mk2 := mk_any 25 5 (.int .u8 0) 1 Ybaf.underlying25 info5 (10 + 16 * xs.length) (by omega) (by omega)
  rw [show ((10 + 16 * xs.length : Nat) : Int) = 10 + 16 * (xs.length : Int) by omega] at mk2
  have hn0 : (0 : Int) ≤ (xs.length : Int) := by omega
  have hcu := size_madeCells (Value.int .u64 0).cells xs.length
  have hcb := size_madeCells (Value.int .u8 0).cells (10 + 16 * xs.length)
  generalize madeCells (Value.int .u64 0).cells xs.length = cu at *
  generalize madeCells (Value.int .u8 0).cells (10 + 16 * xs.length) = cb at *
  refine calls_of_wpN Ybaf.func3 rfl ?_
  simp only [Ybaf.ntmps3, List.size_toArray, List.length_cons, List.length_nil, Nat.reduceAdd, Nat.reduceSub, Array.replicate_succ, Array.replicate_zero, List.push_toArray, List.append_toArray, List.nil_append, List.cons_append]
  refine wpN_seq_wp fun K hK => ?_
  go_wp2_with fail
  refine wpN_seq_wp fun K hK => ?_
  go_wp2_with fail
  refine wpN_seq_wp fun K hK => ?_
  go_wp2_with fail
  refine wpN_seq_wp fun K hK => ?_
  go_wp2_with fail
  refine wpN_seq_wp fun K hK => ?_
  go_wp2_with fail
  clear mk1 mk2
  have f1 : Fill (w.alloc (.cells cu 22)) w.heap.size 22 xs.length [] := ⟨cu, (MapKept.heap_alloc w _).1, hcu, Nat.zero_le _, rfl⟩
  have f2 : Fill ((w.alloc (.cells cu 22)).alloc (.cells cu 22)) (w.heap.size + 1) 22 xs.length [] := ⟨cu, by have := (MapKept.heap_alloc (w.alloc (.cells cu 22)) (.cells cu 22)).1; simpa using this, hcu, Nat.zero_le _, rfl⟩
  have f3 : (((w.alloc (.cells cu 22)).alloc (.cells cu 22)).alloc (.cells cb 5)).ownsRow (w.heap.size + 2) 5 1 (.slice (some ⟨w.heap.size + 1 + 1, 0, none⟩) 0 (10 + 16 * xs.length)) 0 [] :=
    ⟨rfl, .inr ⟨w.heap.size + 1 + 1, 10 + 16 * xs.length, cb, rfl, Nat.le_refl _, by have := (MapKept.heap_alloc ((w.alloc (.cells cu 22)).alloc (.cells cu 22)) (.cells cb 5)).1; simpa using this, Nat.zero_le _, by unfold maxLen; omega, by omega, rfl⟩⟩
  have g1 := (Below.refl _ _).alloc (Nat.le_refl (w.alloc (.cells cu 22)).heap.size) (.cells cu 22)
  have g2 := (Below.refl _ _).alloc (Nat.le_refl ((w.alloc (.cells cu 22)).alloc (.cells cu 22)).heap.size) (.cells cb 5)
  have f1 := f1.keep (g1.block _ (by simp))
  have f1 := f1.keep (g2.block _ (by simp; omega))
  have f2 := f2.keep (g2.block _ (by simp))
  have hB1 : Below w.heap.size w (((w.alloc (.cells cu 22)).alloc (.cells cu 22)).alloc (.cells cb 5)) := (((Below.refl _ _).alloc (Nat.le_refl _) _).alloc (by simp) _).alloc (by simp; omega) _
  have hz1 : (((w.alloc (.cells cu 22)).alloc (.cells cu 22)).alloc (.cells cb 5)).heap.size = w.heap.size + 3 := by simp
  clear g1 g2 hcu hcb
  generalize (((w.alloc (.cells cu 22)).alloc (.cells cu 22)).alloc (.cells cb 5)) = W1 at *
  have hk := Ybaf.binary_BE_AppendUint64 (w.heap.size + 2) 0 mc hmc _ _ W1 f3 (by omega) (by omega)
  clear f3
  refine wpN_seq_wp fun K hK => ?_
  go_wp2_with fail
  refine hk.mono ?_
  clear hk
  rintro e W2 ⟨v2, rfl, f3, hb2⟩
  obtain ⟨va, vc, rfl⟩ := ownsRow_form f3
  go_wp2_with fail
  have f1 := f1.keep (hb2.block _ (by omega))
  have f2 := f2.keep (hb2.block _ (by omega))
  have hB2 := hB1.trans (hb2.mono (by omega))
  have hz2 : w.heap.size + 3 ≤ W2.heap.size := by have := hb2.size; omega
  clear hb2 hB1 hz1
  have hk := Ybaf.binary_BE_AppendUint16 (w.heap.size + 2) _ xs.length (by omega) _ _ W2 f3 (by omega) (by omega)
  clear f3
  refine wpN_seq_wp fun K hK => ?_
  go_wp2_with fail
  refine hk.mono ?_
  clear hk
  rintro e W3 ⟨v3, rfl, f3, hb3⟩
  obtain ⟨va', vc', rfl⟩ := ownsRow_form f3
  go_wp2_with fail
  have f1 := f1.keep (hb3.block _ (by omega))
  have f2 := f2.keep (hb3.block _ (by omega))
  have hB3 := hB2.trans (hb3.mono (by omega))
  have hz3 : w.heap.size + 3 ≤ W3.heap.size := by have := hb3.size; omega
  clear hb3 hB2 hz2
  have e3 : [] ++ Lib.byteCells (Lib.beBytes 8 mc) ++ Lib.byteCells (Lib.beBytes 2 xs.length) = Lib.byteCells (bufK mc xs 0) := by
    unfold bufK
    rw [byteCells_append, byteCells_append]
    simp [enc, Lib.byteCells]
  rw [e3] at f3
  clear e3
  refine wpN_seq_wp fun K hK => ?_
  go_wp2_with fail
  refine wpN_seq_wp fun K hK => ?_
  go_wp2_with fail
  go_loopw [7, 8, 9, 10, 11, 12, 13] (fun v7 v8 v9 v10 v11 _ _ wr => ∃ (k : Nat) (va : Option Addr) (vc : Nat), k ≤ xs.length ∧ v7 = .slice (some ⟨w.heap.size, 0, none⟩) k xs.length ∧ v8 = .slice (some ⟨w.heap.size + 1, 0, none⟩) k xs.length ∧ v9 = .slice va (10 + 16 * k) vc ∧ v10 = .int .u64 (curs xs k) ∧ v11 = .int .i64 k ∧ LoopInv mc xs w k va vc wr) (fun _ _ _ _ v11 _ _ _ => xs.length - (intOf v11).toNat)
  case atStart => exact ⟨0, _, _, Nat.zero_le _, rfl, rfl, rfl, by rw [curs_zero]; rfl, rfl, f1, f2, f3, hB3, hz3⟩
  case round =>
    obtain ⟨k, va2, vc2, hk, rfl, rfl, rfl, rfl, rfl, hI⟩ := hrel
    clear f1 f2 f3 hB3 hz3
    by_cases hlt : k < xs.length
    · have hlt' : (k : Int) < (xs.length : Int) := by omega
      obtain ⟨b, off, rfl, hbl, hcell⟩ := hsp (by omega)
      have hck := (hI.bel.cell (p := ⟨b, off + k, none⟩) hbl).trans (hcell k hlt)
      have hxk := getD_lt hx k
      have hcu := curs_le hx k hk
      have hhi := hiK_le hx hlt
      have hand := and_255_u16 _ hxk
      have hdiv : ((xs.getD k 0 : Nat) : Int) / 256 = ((xs.getD k 0 / 256 : Nat) : Int) := by omega
      have hM : xs.getD k 0 % 256 < 256 := Nat.mod_lt _ (by decide)
      have hD : xs.getD k 0 / 256 < 256 := by omega
      have q1 : (curs xs k : Int) + ((xs.getD k 0 % 256 : Nat) : Int) = (loK xs k : Int) := by unfold loK; omega
      have q2 : (loK xs k : Int) + ((xs.getD k 0 / 256 : Nat) : Int) = (hiK xs k : Int) := by unfold hiK; omega
      have q3 : (hiK xs k : Int) + 2 = (curs xs (k + 1) : Int) := by rw [curs_succ hlt]; omega
      have q4 : loK xs k ≤ hiK xs k := by unfold hiK; omega
      have H1 := losK_succ hlt
      have H2 := hisK_succ hlt
      have H3 := bufK_succ mc hlt
      have L1 := losK_length hk
      have L2 := hisK_length hk
      have hI1 := hI.f1
      have hI2 := hI.f2
      have hI3 := hI.f3
      have hbel := hI.bel
      have hsz := hI.sz
      clear hI
      generalize hC1 : curs xs (k + 1) = C' at q3
      replace hC1 : Hid (curs xs (k + 1) = C') := hC1
      generalize curs xs k = C at hcu q1 ⊢
      generalize loK xs k = lo at q1 q2 q4 H1 H3 ⊢
      generalize hiK xs k = hi at q2 q3 q4 hhi H2 H3 ⊢
      generalize xs.getD k 0 % 256 = M at hand hM q1 ⊢
      generalize xs.getD k 0 / 256 = D at hdiv hD q2 ⊢
      generalize xs.getD k 0 = X at hck hxk hand hdiv ⊢
      have hX' : (X : Int) < 65536 := by omega
      have hC' : (C : Int) ≤ 1000000 := by omega
      have hlo' : (lo : Int) ≤ 1000000 := by omega
      have hhi' : (hi : Int) ≤ 1000000 := by omega
      have hM' : (M : Int) < 256 := by omega
      have hD' : (D : Int) < 256 := by omega
      have HX : Hid (∀ x ∈ xs, x < 65536) := hx
      clear hcell hsp hx hcu hhi hM hD
      generalize losK xs k = ls at hI1 H1 L1
      generalize hisK xs k = hs' at hI2 H2 L2
      replace H1 : Hid (losK xs (k + 1) = ls ++ [.int .u64 (lo : Int)]) := H1
      replace H2 : Hid (hisK xs (k + 1) = hs' ++ [.int .u64 (hi : Int)]) := H2
      replace H3 : Hid (bufK mc xs (k + 1) = (bufK mc xs k ++ Lib.beBytes 8 lo) ++ Lib.beBytes 8 hi) := H3
      obtain ⟨i0, hi0, hz0, hzs, hzb⟩ := info_parts info22
      have gA := (Below.refl wr.heap.size wr).alloc (Nat.le_refl _) (Obj.cells #[.int .u64 (lo : Int)] 22)
      obtain ⟨W5, hr5, f15, hg5⟩ := (hI1.keep (gA.block _ hI1.lt)).push (w := wr.alloc (Obj.cells #[.int .u64 (lo : Int)] 22)) 24 24 i0 Ybaf.underlying24 hi0 hzs (by omega) ⟨wr.heap.size, 0, none⟩ 1 (.int .u64 (lo : Int)) (by simp) rfl
      rw [L1] at hr5
      have hI2 := hI2.keep (gA.block _ hI2.lt)
      have hI2 := hI2.keep (hg5.block _ hI2.lt (by simp))
      have hI3 := ownsRow_mono (hI3.alloc _) hg5 (fun b e => by cases e; omega)
      have hbel := (hbel.trans (gA.mono hbel.size)).grown hg5 (by have := hbel.size; simp; omega) (fun j hj => by cases hj; omega)
      have hsz : w.heap.size + 3 ≤ W5.heap.size := by have := hg5.size; simp at this; omega
      clear gA hI1 hg5
      go_upto_region 16 with (first | (at_builtin; refine wpList_append_run rfl _ _ 24 rfl _ _ _ _ rfl rfl hr5 ?_) | go_in)
      clear hr5
      have gA := (Below.refl W5.heap.size W5).alloc (Nat.le_refl _) (Obj.cells #[.int .u64 (hi : Int)] 22)
      obtain ⟨W6, hr6, f26, hg6⟩ := (hI2.keep (gA.block _ hI2.lt)).push (w := W5.alloc (Obj.cells #[.int .u64 (hi : Int)] 22)) 24 24 i0 Ybaf.underlying24 hi0 hzs (by omega) ⟨W5.heap.size, 0, none⟩ 1 (.int .u64 (hi : Int)) (by simp) rfl
      rw [L2] at hr6
      have f15 := f15.keep (gA.block _ f15.lt)
      have f15 := f15.keep (hg6.block _ f15.lt (by simp))
      have hI3 := ownsRow_mono (hI3.alloc _) hg6 (fun b e => by cases e; omega)
      have hbel := (hbel.trans (gA.mono hbel.size)).grown hg6 (by have := hbel.size; simp; omega) (fun j hj => by cases hj; omega)
      have hsz : w.heap.size + 3 ≤ W6.heap.size := by have := hg6.size; simp at this; omega
      clear gA hI2 hg6
      have hkA := Ybaf.binary_BE_AppendUint64 (w.heap.size + 2) _ lo (by omega) _ _ W6 hI3 (by omega) (by omega)
      clear hI3
      go_upto_region 17 with (first | (at_builtin; refine wpList_append_run rfl _ _ 24 rfl _ _ _ _ rfl rfl hr6 ?_) | go_in)
      clear hr6
      go_wp2_with fail
      refine hkA.mono ?_
      clear hkA
      rintro e W7 ⟨v7', rfl, hI3, hb7⟩
      obtain ⟨va7, vc7, rfl⟩ := ownsRow_form hI3
      have f15 := f15.keep (hb7.block _ (by omega))
      have f26 := f26.keep (hb7.block _ (by omega))
      have hbel := hbel.trans (hb7.mono (by omega))
      have hsz : w.heap.size + 3 ≤ W7.heap.size := by have := hb7.size; omega
      clear hb7
      have hkA := Ybaf.binary_BE_AppendUint64 (w.heap.size + 2) _ hi (by omega) _ _ W7 hI3 (by omega) (by omega)
      clear hI3
      go_wp2_with fail
      refine hkA.mono ?_
      clear hkA
      rintro e W8 ⟨v8', rfl, hI3, hb8⟩
      obtain ⟨va8, vc8, rfl⟩ := ownsRow_form hI3
      have f15 := f15.keep (hb8.block _ (by omega))
      have f26 := f26.keep (hb8.block _ (by omega))
      have hbel := hbel.trans (hb8.mono (by omega))
      have hsz : w.heap.size + 3 ≤ W8.heap.size := by have := hb8.size; omega
      clear hb8
      go_wp2_with fail
      go_roundw
      case rel =>
        refine ⟨k + 1, va8, vc8, by omega, rfl, rfl, by rw [show 10 + 16 * (k + 1) = 10 + 16 * k + 8 + 8 by omega], by rw [hC1.out], by go_num, ⟨by rw [H1.out]; exact f15, by rw [H2.out]; exact f26, ?_, hbel, hsz⟩⟩
        rw [H3.out, byteCells_append, byteCells_append, show 10 + 16 * (k + 1) = 10 + 16 * k + 8 + 8 by omega]
        exact hI3
      case measure => simp [intOf]; omega
    · have hlt' : ¬ (k : Int) < (xs.length : Int) := by omega
      obtain rfl : k = xs.length := by omega
      obtain ⟨f1, f2, f3, hbel, hsz⟩ := hI
      rw [bufK_end] at f3
      go_wp2_with fail
      clear hl' hn0 hlt' hsp
      have hkA := newLink_any wr
      refine wpN_seq_wp fun K hK => ?_
      go_wp2_with fail
      refine hkA.mono ?_
      clear hkA
      rintro e W9 ⟨c1, c2, rfl, hc1, hch, hb9⟩
      have hst := run_storeCells_new (P := Ybaf.prog) W9 51 linkZ (linkC c1 c2) info51 rfl (linkC_one c1 c2)
      unfold linkZ at hst
      go_wp2_with fail
      clear hst
      obtain ⟨gb, capb, ev, hcb⟩ := ownsRow_cell f3 (by omega)
      cases ev
      have hgb := ownsRow_lo f3 gb rfl
      have hbt : Bts wr gb 0 (payload mc (spans xs)) := fun j b hj => by rw [Nat.zero_add]; exact hcb j _ (by simp [Lib.byteCells, hj])
      have hgl : gb < wr.heap.size := by
        rcases f3.2 with ⟨h, _⟩ | ⟨g', c', cu', h, _, hh, _⟩
        · cases h
        · cases h; exact (Array.getElem?_eq_some_iff.1 hh).1
      clear hcb f3
      have hA9 := (Below.refl W9.heap.size W9).alloc (Nat.le_refl _) (Obj.cells (linkC c1 c2) 51)
      have bL := Box.new W9 (linkC c1 c2) 51
      have hb10 : Below wr.heap.size wr (W9.alloc (Obj.cells (linkC c1 c2) 51)) := hb9.trans (hA9.mono hb9.size)
      have hcl := (Array.getElem?_eq_some_iff.1 hch).1
      have hch : (W9.alloc (Obj.cells (linkC c1 c2) 51)).heap[c1]? = some (chS false) := (hA9.block c1 hcl).trans hch
      clear hA9 hb9
      generalize W9.alloc (Obj.cells (linkC c1 c2) 51) = W10 at *
      generalize W9.heap.size = lb at *
      have f1 := f1.keep (hb10.block _ (by omega))
      have f2 := f2.keep (hb10.block _ (by omega))
      have hbt := hbt.below hb10 hgl
      have hbel := hbel.trans (hb10.mono (by omega))
      have hz10 : wr.heap.size ≤ W10.heap.size := hb10.size
      clear hb10
      have i1 := cell_lt hP
      have i2 := cell_lt hE
      have i3 := cell_lt hs
      dsimp only at i1 i2
      have hE := (hbel.cell (p := ⟨2, 0, none⟩) i2).trans hE
      have hP := (hbel.cell (p := ⟨1, 0, none⟩) i1).trans hP
      have hs := (hbel.cell i3).trans hs
      have hF : F.answers W10.tape := by rw [hbel.tape]; exact hF
      have l4 := bL.cell 4
      have hll := bL.lt
      simp [linkC] at l4
      have hasc := spans_asc hx hl
      have hslen := spans_length xs
      have hpl := payload_length mc (spans xs)
      rw [hslen] at hpl
      replace hpl : Hid ((payload mc (spans xs)).length = 10 + 16 * xs.length) := hpl
      have hslen' : (spans xs).length ≤ 1024 := by omega
      replace hslen : Hid ((spans xs).length = xs.length) := hslen
      clear hx
      cases full
      · have R : Ready false F lb c1 c2 gb vc2 mc (spans xs) te pe a1 s1 W10 := ⟨hF, bL, hbt, by omega, hE, hP, hs, hch⟩
        have hkA := frame_any 87 gb 0 (10 + 16 * xs.length) vc2 W10
        refine wpN_seq_wp fun K hK => ?_
        go_wp2_with fail
        refine wpN_seq_wp fun K hK => ?_
        go_wp2_with fail
        refine hkA.mono ?_
        clear hkA
        rintro e W11 ⟨br, lr, rfl, p1, p2, p3, p4, p5, p6⟩
        rw [← hpl.out] at p4
        have p5' : Box W11 lr (lbox br (payload mc (spans xs)).length) 94 := by rw [hpl.out]; exact p5
        have hkA := lend_after R hmc hslen' hasc p1 p2 p3 p4 p5' p6
        clear p1 p2 p3 p4 p5 p5' p6 R hslen'
        go_wp2_with fail
        refine hkA.mono ?_
        clear hkA
        rintro e W12 ⟨hK12, rfl, v, hc12, hown⟩
        rw [hslen.out] at hown
        obtain ⟨ha, hc, rfl⟩ := ownsRow_form hown
        have bL := hK12.box bL (by simp; omega)
        have f1 := f1.keep (hK12.block _ (by omega) (by simp; omega))
        have f2 := f2.keep (hK12.block _ (by omega) (by simp; omega))
        have hbel : Below w.heap.size w W12 := ⟨hK12.os.trans hbel.os, hK12.tape.trans hbel.tape, hK12.output.trans hbel.output, Nat.le_trans hbel.size hK12.size, fun i hi => (hK12.block i (by omega) (by simp; omega)).trans (hbel.block i hi)⟩
        have hz12 := hK12.size
        clear hK12 hE hP hs hF hch hbt hpl
        have l4 := bL.cell 4
        have hll := bL.lt
        simp [linkC] at l4
        have hlen : (Builtin.len_ #[36] 3 #[.chan (some c1)]).run Ybaf.prog W12 = .ok (.int .i64 1) W12 := run_len_chan 36 3 Ybaf.underlying36 hc12
        go_wp2_with fail
        refine wpN_seq_wp fun K hK => ?_
        go_wp2_with fail
        refine wpN_seq_wp fun K hK => ?_
        go_wp2_with fail
        refine wpN_seq_wp fun K hK => ?_
        go_wp2_with fail
        clear hlen
        have hcl12 := (Array.getElem?_eq_some_iff.1 hc12).1
        have hK13 : Keep W12 (W12.setChan c1 1 #[] false 1 1 false) [c1] := keep_setChan _ _ _ _ _ _ _ _ (by simp)
        refine wpN_seq_k fun K hK => ?_
        refine wpN_region ?_
        show opsN _ _ _ [0, 1, 2, 3, 4] _ _
        refine opsN_val (v := .pointer (some ⟨lb, 4, none⟩)) (w' := W12) rfl rfl (by simp [go_sem]; done) ?_
        refine opsN_val (v := .chan (some c1)) (w' := W12) rfl rfl (by simp [go_sem, l4]; done) ?_
        refine opsN_recv (c := c1) (z := .agg #[.int .u64 0, .slice none 0 0]) rfl rfl (by simp [go_sem, rcase]; done) hc12 (by simp) ?_
        show opsN _ _ _ [3, 4] _ (W12.setChan c1 1 #[] false 1 1 false)
        have hown := hown.kept (w' := W12.setChan c1 1 #[] false 1 1 false) (row := some c1) ⟨rfl, rfl, rfl, Nat.le_of_eq (size_setChan ..).symm, fun i _ hx => setChan_other _ _ _ _ _ _ _ _ _ (fun e => hx (by rw [e]))⟩ (by
          cases ha with
          | none => exact .inl rfl
          | some p => exact .inr (fun e => by have := ownsRow_lo hown c1 e; omega))
        have f1 := f1.keep (hK13.block _ (by omega) (by simp; omega))
        have f2 := f2.keep (hK13.block _ (by omega) (by simp; omega))
        have hbel : Below w.heap.size w (W12.setChan c1 1 #[] false 1 1 false) := ⟨hK13.os.trans hbel.os, hK13.tape.trans hbel.tape, hK13.output.trans hbel.output, Nat.le_trans hbel.size hK13.size, fun i hi => (hK13.block i (by omega) (by simp; omega)).trans (hbel.block i hi)⟩
        have hz13 := hK13.size
        clear hK13 hc12 l4 bL hll hcl12
        generalize W12.setChan c1 1 #[] false 1 1 false = W13 at *
        refine opsN_val (v := .pointer (some ⟨W13.heap.size, 0, none⟩)) (w' := W13.alloc (.cells #[.int .u64 0, .slice none 0 0] 54)) rfl rfl (by simp [go_sem]; done) ?_
        refine opsN_skip (w' := W13.alloc (.cells #[.int .u64 (mc : Int), .slice ha xs.length hc] 54)) rfl rfl (by simp [go_sem]; done) ?_
        refine opsN_nil ?_
        have hA13 := (Below.refl W13.heap.size W13).alloc (Nat.le_refl _) (Obj.cells #[.int .u64 (mc : Int), .slice ha xs.length hc] 54)
        have bR := Box.new W13 #[.int .u64 (mc : Int), .slice ha xs.length hc] 54
        have hown := hown.alloc (Obj.cells #[.int .u64 (mc : Int), .slice ha xs.length hc] 54)
        have f1 := f1.keep (hA13.block _ (by omega))
        have f2 := f2.keep (hA13.block _ (by omega))
        have hbel := hbel.trans (hA13.mono (by omega))
        clear hA13
        go_wp2_with fail
        generalize W13.alloc (Obj.cells #[.int .u64 (mc : Int), .slice ha xs.length hc] 54) = W14 at *
        generalize W13.heap.size = rb at *
        have r0 := bR.cell 0
        have r1 := bR.cell 1
        have hrl := bR.lt
        simp at r0 r1
        clear bR
        refine wpN_of_wp ?_
        go_upto_region 35 with fail
        go_wp2_with fail
        go_loopw [19] (fun i wr => ∃ k : Nat, k ≤ xs.length ∧ i = .int .i64 k ∧ Below W14.heap.size W14 wr) (fun i _ => xs.length - (intOf i).toNat)
        case atStart => exact ⟨0, Nat.zero_le _, rfl, Below.refl _ _⟩
        case round =>
          obtain ⟨k, hk, rfl, hB⟩ := hrel
          by_cases hlt : k < xs.length
          · have hlt' : (k : Int) < (xs.length : Int) := by omega
            obtain ⟨gv, cv, ev, hcv⟩ := ownsRow_cell hown (by omega)
            cases ev
            obtain ⟨d1, d2⟩ := spc_get _ _ _ (spans_get hlt)
            have z1 := hcv _ _ d1
            have z2 := hcv _ _ d2
            have z3 := f1.cell (j := k) (v := .int .u64 (loK xs k : Nat)) (losK_get hlt)
            have z4 := f2.cell (j := k) (v := .int .u64 (hiK xs k : Nat)) (hisK_get hlt)
            clear hcv d1 d2
            dsimp only at z1 z2
            have n1 := cell_lt z1
            have n3 := cell_lt z3
            have n4 := cell_lt z4
            dsimp only at n1 n3 n4
            have z1 := (hB.cell (p := ⟨gv, k * 2, none⟩) n1).trans z1
            have z2 := (hB.cell (p := ⟨gv, k * 2 + 1, none⟩) n1).trans z2
            have z3 := (hB.cell (p := ⟨w.heap.size, k, none⟩) n3).trans z3
            have z4 := (hB.cell (p := ⟨w.heap.size + 1, k, none⟩) n4).trans z4
            have r1' := (hB.cell (p := ⟨rb, 1, none⟩) hrl).trans r1
            have hzz := hB.size
            go_upto_region 38 with fail
            have y1 := fun y : Ext wr.heap.size wr => ext_cell z1 (by omega) y
            have y2 := fun y : Ext wr.heap.size wr => ext_cell z2 (by omega) y
            have y3 := fun y : Ext wr.heap.size wr => ext_cell z3 (by omega) y
            have y4 := fun y : Ext wr.heap.size wr => ext_cell z4 (by omega) y
            have y5 := fun y : Ext wr.heap.size wr => ext_cell r1' (by omega) y
            have hne : Nonempty (Ext wr.heap.size wr) := ⟨⟨_, Below.refl _ _⟩⟩
            generalize loK xs k = lo at *
            generalize hiK xs k = hi at *
            clear z1 z2 z3 z4 r1' hown f1 f2 r0 r1
            refine wp_region_ext wr.heap.size (by kernel_rfl) ?_
            repeat (go_big_quiet_step (fail))
            refine wpQuiet_nil ?_
            rintro _ ⟨y, rfl⟩
            clear y1 y2 y3 y4 y5 hne
            go_wp2_with fail
            go_roundw
            case rel => exact ⟨k + 1, by omega, by go_num, hB.trans (y.ok.mono hB.size)⟩
            case measure => simp [intOf]; omega
          · have hlt' : ¬ (k : Int) < (xs.length : Int) := by omega
            go_wp2_with fail
            go_ret
            exact ⟨rfl, hbel.trans (hB.mono (by have := hbel.size; omega))⟩
      · refine wpN_seq_k fun K hK => ?_
        refine wpN_seq_wp fun K2 hK2 => ?_
        go_wp2_with fail
        refine wpN_cond (t := true) rfl ?_
        simp only [if_true]
        refine wpN_region ?_
        show opsN _ _ _ [0, 1, 2, 3] _ _
        have hcl10 := (Array.getElem?_eq_some_iff.1 hch).1
        refine opsN_val (v := .pointer (some ⟨lb, 4, none⟩)) (w' := W10) rfl rfl (by simp [go_sem]; done) ?_
        refine opsN_val (v := .chan (some c1)) (w' := W10) rfl rfl (by simp [go_sem, l4]; done) ?_
        refine opsN_val (v := .agg #[.int .u64 7, .slice none 0 0]) (w' := W10) rfl rfl (by simp [go_sem]; done) ?_
        refine opsN_send (c := c1) (v := .agg #[.int .u64 7, .slice none 0 0]) (z := .tuple #[]) rfl rfl (by simp [go_sem, scase]; done) hch (by decide) ?_
        show opsN _ _ _ [] _ (W10.setChan c1 1 #[.agg #[.int .u64 7, .slice none 0 0]] false 1 0 false)
        have hK11 : Keep W10 (W10.setChan c1 1 #[.agg #[.int .u64 7, .slice none 0 0]] false 1 0 false) [c1] := keep_setChan _ _ _ _ _ _ _ _ (by simp)
        have hch : (W10.setChan c1 1 #[.agg #[.int .u64 7, .slice none 0 0]] false 1 0 false).heap[c1]? = some (chS true) := heap_setChan _ _ _ _ _ _ _ _ hcl10
        have hsz11 := hK11.size
        have hbel : Below w.heap.size w (W10.setChan c1 1 #[.agg #[.int .u64 7, .slice none 0 0]] false 1 0 false) := ⟨hK11.os.trans hbel.os, hK11.tape.trans hbel.tape, hK11.output.trans hbel.output, Nat.le_trans hbel.size hK11.size, fun i hi => (hK11.block i (by omega) (by simp; omega)).trans (hbel.block i hi)⟩
        have bL := hK11.box bL (by simp; omega)
        have R : Ready true F lb c1 c2 gb vc2 mc (spans xs) te pe a1 s1 (W10.setChan c1 1 #[.agg #[.int .u64 7, .slice none 0 0]] false 1 0 false) :=
          ⟨by rw [hK11.tape]; exact hF, bL, fun j b hj => hK11.cell (hbt j b hj) (by simp; omega), by omega, hK11.cell hE (by simp; omega), hK11.cell hP (by simp; omega), hK11.cell hs (by simp; omega), hch⟩
        clear hF hbt hE hs hK11 f1 f2 l4
        generalize W10.setChan c1 1 #[.agg #[.int .u64 7, .slice none 0 0]] false 1 0 false = W11 at *
        refine opsN_nil ?_
        go_wp2_with fail
        have hkA := frame_any 87 gb 0 (10 + 16 * xs.length) vc2 W11
        refine wpN_seq_wp fun K hK => ?_
        go_wp2_with fail
        refine hkA.mono ?_
        clear hkA
        rintro e W12 ⟨br, lr, rfl, p1, p2, p3, p4, p5, p6⟩
        rw [← hpl.out] at p4
        have p5' : Box W12 lr (lbox br (payload mc (spans xs)).length) 94 := by rw [hpl.out]; exact p5
        have hkA := lend_after R hmc hslen' hasc p1 p2 p3 p4 p5' p6
        have hP := R.hP
        clear p1 p2 p3 p4 p5 p5' p6 R hslen'
        go_wp2_with fail
        refine hkA.mono ?_
        clear hkA
        rintro e W13 ⟨hK13, q, t, rfl, bq, hc13⟩
        have bL := hK13.box bL (by simp; omega)
        have hP := hK13.cell hP (by simp; omega)
        have hbel : Below w.heap.size w W13 := ⟨hK13.os.trans hbel.os, hK13.tape.trans hbel.tape, hK13.output.trans hbel.output, Nat.le_trans hbel.size hK13.size, fun i hi => (hK13.block i (by have := hbel.size; omega) (by simp; omega)).trans (hbel.block i hi)⟩
        have hz13 := hK13.size
        clear hK13 hpl
        have l4 := bL.cell 4
        have hll := bL.lt
        simp [linkC] at l4
        have hlen : (Builtin.len_ #[36] 3 #[.chan (some c1)]).run Ybaf.prog W13 = .ok (.int .i64 1) W13 := run_len_chan 36 3 Ybaf.underlying36 hc13
        have hq1 := bq.cell 1
        simp at hq1
        have hkA := is_any q a1 W13 hq1
        have h1l := cell_lt hP
        go_wp2_with fail
        refine wpN_seq_wp fun K hK => ?_
        go_wp2_with fail
        refine wpN_seq_k fun K hK => ?_
        refine wpN_seq_wp fun K2 hK2 => ?_
        go_wp2_with fail
        refine wpN_cond (t := true) rfl ?_
        simp only [if_true]
        refine wpN_seq_wp fun K2 hK2 => ?_
        go_wp2_with fail
        refine hkA.mono ?_
        clear hkA
        rintro e W14 ⟨rfl, rfl⟩
        go_wp2_with fail
        clear hlen
        have hcl13 := (Array.getElem?_eq_some_iff.1 hc13).1
        refine wpN_seq_k fun K hK => ?_
        refine wpN_region ?_
        show opsN _ _ _ [0, 1, 2, 3, 4] _ _
        refine opsN_val (v := .pointer (some ⟨lb, 4, none⟩)) (w' := W14) rfl rfl (by simp [go_sem]; done) ?_
        refine opsN_val (v := .chan (some c1)) (w' := W14) rfl rfl (by simp [go_sem, l4]; done) ?_
        refine opsN_recv (c := c1) (z := .agg #[.int .u64 0, .slice none 0 0]) rfl rfl (by simp [go_sem, rcase]; done) hc13 (by decide) ?_
        show opsN _ _ _ [3, 4] _ (W14.setChan c1 1 #[] false 1 1 false)
        have hK15 : Keep W14 (W14.setChan c1 1 #[] false 1 1 false) [c1] := keep_setChan _ _ _ _ _ _ _ _ (by simp)
        have hbel : Below w.heap.size w (W14.setChan c1 1 #[] false 1 1 false) := ⟨hK15.os.trans hbel.os, hK15.tape.trans hbel.tape, hK15.output.trans hbel.output, Nat.le_trans hbel.size hK15.size, fun i hi => (hK15.block i (by have := hbel.size; omega) (by simp; omega)).trans (hbel.block i hi)⟩
        clear hK15 hc13 l4 bL hll hcl13 hP bq hq1 h1l
        generalize W14.setChan c1 1 #[] false 1 1 false = W15 at *
        refine opsN_val (v := .pointer (some ⟨W15.heap.size, 0, none⟩)) (w' := W15.alloc (.cells #[.int .u64 0, .slice none 0 0] 54)) rfl rfl (by simp [go_sem]; done) ?_
        refine opsN_skip (w' := W15.alloc (.cells #[.int .u64 7, .slice none 0 0] 54)) rfl rfl (by simp [go_sem]; done) ?_
        refine opsN_nil ?_
        have hbel := hbel.alloc hbel.size (Obj.cells #[.int .u64 7, .slice none 0 0] 54)
        go_wp2_with fail
        refine wpN_of_wp ?_
        go_wp2_with fail
        go_ret
        exact ⟨rfl, hbel⟩
end Go.Proofs.YbulkuzkFmt
