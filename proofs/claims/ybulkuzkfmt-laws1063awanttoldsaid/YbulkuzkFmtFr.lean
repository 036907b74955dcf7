/-
  WALKS: bytes.NewReader (24), zzs1063aframe (10), newLink (8).
-/
import Derived.Test.YbulkuzkFmtAll
import Derived.Deep.MidRow
import Derived.Deep.WholeRow
namespace Go.Proofs.YbulkuzkFmt
open Go.RowKit

set_option maxRecDepth 100000 in
theorem newB_any (g o n c : Nat) (w : World) :
    Calls Ybaf.prog 24 #[.slice (some ⟨g, o, none⟩) n c] w fun e w' => e = .returned (.pointer (some ⟨w.heap.size, 0, none⟩)) ∧ w' = w.alloc (Obj.cells (bbox g o n c 0) 118) := by
  unfold bbox
  go_enter Ybaf.func24, Ybaf.ntmps24
  go_wp2
  go_ret
  exact ⟨rfl, rfl⟩

def FramePost (k : Int) (g o n c : Nat) (w w' : World) (e : Ending) : Prop := ∃ br lr, e = .returned (.agg #[.int .u8 k, .pointer (some ⟨lr, 0, none⟩)]) ∧ w.heap.size ≤ br ∧ w.heap.size ≤ lr ∧ br ≠ lr ∧ Box w' br (bbox g o n c 0) 118 ∧ Box w' lr (lbox br n) 94 ∧ Below w.heap.size w w'
set_option maxRecDepth 100000 in
theorem frame_any (k : Int) (g o n c : Nat) (w : World) :
    Calls Ybaf.prog 10 #[.int .u8 k, .slice (some ⟨g, o, none⟩) n c] w fun e w' => FramePost k g o n c w w' e := by
  have hk := newB_any g o n c (w.alloc (Obj.cells #[.int .u8 0, .pointer none] 62))
  go_enter Ybaf.func10, Ybaf.ntmps10
  go_wp2_with fail
  refine hk.mono ?_
  clear hk
  rintro e w2 ⟨rfl, rfl⟩
  go_wp2_with fail
  refine bodyPost_ret (v := .agg #[.int .u8 k, .pointer (some ⟨w.heap.size + 1 + 1, 0, none⟩)]) (by simp [results, Ybaf.results10, go_sem]) rfl ⟨w.heap.size + 1, w.heap.size + 1 + 1, rfl, by omega, by omega, by omega, ?_, ?_, ?_⟩
  · have h := Box.new (w.alloc (Obj.cells #[.int .u8 k, .pointer (some ⟨w.heap.size + 1 + 1, 0, none⟩)] 62)) (bbox g o n c 0) 118
    rw [show (w.alloc (Obj.cells #[.int .u8 k, .pointer (some ⟨w.heap.size + 1 + 1, 0, none⟩)] 62)).heap.size = w.heap.size + 1 by simp] at h
    exact h.mono ((Below.refl _ _).alloc (Nat.le_refl _) _)
  · have h := Box.new ((w.alloc (Obj.cells #[.int .u8 k, .pointer (some ⟨w.heap.size + 1 + 1, 0, none⟩)] 62)).alloc (Obj.cells (bbox g o n c 0) 118)) (lbox (w.heap.size + 1) n) 94
    rw [show ((w.alloc (Obj.cells #[.int .u8 k, .pointer (some ⟨w.heap.size + 1 + 1, 0, none⟩)] 62)).alloc (Obj.cells (bbox g o n c 0) 118)).heap.size = w.heap.size + 1 + 1 by simp] at h
    exact h
  · exact (((Below.refl _ _).alloc (Nat.le_refl _) _).alloc (by simp) _).alloc (by simp; omega) _

theorem run_mkChan (w : World) : (Instr.makeChan 36 (.int .i64 1)).run Ybaf.prog w = .ok (.chan (some w.heap.size)) (w.alloc (.chan 1 #[] false 0 0 false)) := by kernel_rfl

def linkC (a b : Nat) : Array Value := #[.string ⟨#[]⟩, .pointer none, .nilIface, .chan none, .chan (some a), .chan (some b), .int .i32 0, .int .u32 0, .int .u64 0, .int .u64 0, .int .u64 0, .int .i64 0, .pointer none, .int .i32 0, .int .u32 0, .slice none 0 0, .bool false, .slice none 0 0]
def LinkPost (w w' : World) (e : Ending) : Prop := ∃ a b, e = .returned (.agg (linkC a b)) ∧ w.heap.size ≤ a ∧ w'.heap[a]? = some (.chan 1 #[] false 0 0 false) ∧ Below w.heap.size w w'

/-- between two operations, the values by a mode; a slot out of range stands for none -/
structure MInv {M : Type} (ds : List Nat) (vs : M → List Value) (C : M → Array Bool → World → Prop) (a0 : Act) (m : M) (L : Array Bool) (a : Act) (w : World) : Prop where
  sz : L.size = ds.length
  ts : a.tmps.size = a0.tmps.size
  df : a.defers = a0.defers
  out : ∀ j, j ∉ ds → a.tmps[j]? = a0.tmps[j]?
  fs : ∀ (i d : Nat) (v : Value), ds[i]? = some d → (vs m)[i]? = some v → d < a0.tmps.size → Li L i → a.tmps[d]? = some v
  cw : C m L w

theorem putAll_none {a : Act} {d : Nat} {v : Value} (h : ¬ d < a.tmps.size) : a.put (some d) v = a := by
  cases a
  simp only [Act.put] at *
  rw [Array.setIfInBounds_eq_of_size_le (by simpa using h)]

theorem wp_region_modes {P : Program} {M : Type} {l : List Oper} {id : Nat} {Q : Exit → Act → World → Prop} {a : Act} {w : World} (ds : List Nat) (vs : M → List Value) (C : M → Array Bool → World → Prop) (hm : P.follows .mixedOrders = true) (m0 : M)
    (hd : ds.length = l.length) (hv : ∀ m, (vs m).length = l.length) (hnd : ds.Nodup)
    (hlex : (List.range l.toArray.size).all (fun i => match l.toArray[i]? with | some o => o.after.all (fun e => !Region.binds .any e || decide (e.on < i)) | none => true) = true)
    (h0 : C m0 (Array.replicate l.toArray.size false) w.drew)
    (hstep : ∀ m L b w i, MInv ds vs C a m L b w → i ∈ Region.ready .any l.toArray L → ∀ d, ds[i]? = some d → wpOp P l.toArray Q i (fun b' w' => ∃ m' v, (vs m')[i]? = some v ∧ b' = b.put (some d) v ∧ (∀ k, Li L k → (vs m')[k]? = (vs m)[k]?) ∧ C m' (L.setIfInBounds i true) w') b w)
    (hend : ∀ m L w, C m L w → (∀ i, i < l.length → Li L i) → Q .normal (putAll a ds (vs m)) w) : (Code.region id l.toArray true).wp P Q a w := by
  refine wp_region_any hm (wpAny_inv (fun L b w => ∃ m, MInv ds vs C a m L b w) (fun L b w ⟨m, h⟩ => by rw [h.sz, hd]; simp) ?_ ?_ l.toArray.size _ a w.drew (by simp) ?_)
  · rintro L b w i ⟨m, hI⟩ hi
    have hil : i < l.length := by
      obtain ⟨_, o, ho, _⟩ := mem_ready.1 hi
      have := (Array.getElem?_eq_some_iff.1 ho).1
      simpa using this
    obtain ⟨d, hdi⟩ : ∃ d, ds[i]? = some d := ⟨ds[i]'(by omega), by simp [hd, hil]⟩
    refine wpOp_mono ?_ (hstep m L b w i hI hi d hdi)
    rintro b' w' ⟨m', v, hvi, rfl, hsame, hC⟩
    have hdm : d ∈ ds := List.mem_of_getElem? hdi
    refine ⟨m', by simp [hI.sz], by simp [Act.put, hI.ts], hI.df, ?_, ?_, hC⟩
    · intro j hj
      simp only [Act.put]
      rw [Array.getElem?_setIfInBounds_ne (fun e => hj (by rw [← e]; exact hdm))]
      exact hI.out j hj
    · intro k d' v' h1 h2 hlt hl
      by_cases e : k = i
      · subst e
        obtain rfl : d = d' := Option.some.inj (hdi.symm.trans h1)
        obtain rfl : v = v' := Option.some.inj (hvi.symm.trans h2)
        exact Sl.put_same (by rw [hI.ts]; exact hlt)
      · have hne : d' ≠ d := fun e' => e (by
          subst e'
          obtain ⟨g1, g2⟩ := List.getElem?_eq_some_iff.1 h1
          obtain ⟨g3, g4⟩ := List.getElem?_eq_some_iff.1 hdi
          have hp := List.pairwise_iff_getElem.1 hnd
          rcases Nat.lt_trichotomy k i with h | h | h
          · exact absurd (g2.trans g4.symm) (hp k i g1 g3 h)
          · exact h
          · exact absurd (g4.trans g2.symm) (hp i k g3 g1 h))
        have hl' := (Li.set_ne e).1 hl
        exact Sl.put_ne (hI.fs k d' v' h1 (by rw [← hsame k hl']; exact h2) hlt hl') hne
  · rintro L b w ⟨m, hI⟩ hr
    have hall := all_listed (by rw [hI.sz, hd]; simp) hlex hr
    have hb : b = putAll a ds (vs m) := by
      have e1 : b.tmps = (putAll a ds (vs m)).tmps := by
        apply Array.ext_getElem?
        intro j
        by_cases hlt : j < a.tmps.size
        · by_cases hj : j ∈ ds
          · obtain ⟨i, hi, he⟩ := List.mem_iff_getElem.1 hj
            have hdi : ds[i]? = some j := by rw [← he]; simp
            obtain ⟨v, hvi⟩ : ∃ v, (vs m)[i]? = some v := ⟨(vs m)[i]'(by rw [hv]; omega), by simp [hv, ← hd, hi]⟩
            rw [hI.fs i j v hdi hvi hlt (hall i (by simp; omega)), putAll_in ds (vs m) a i j v hnd hdi hvi hlt]
          · rw [hI.out j hj, putAll_out ds (vs m) a j hj]
        · rw [Array.getElem?_eq_none (by rw [hI.ts]; omega), Array.getElem?_eq_none (by rw [putAll_size]; omega)]
      have e2 : b.defers = (putAll a ds (vs m)).defers := by rw [hI.df, putAll_defers]
      cases b
      simp only at e1 e2
      rw [e1, e2]
    rw [hb]
    exact hend m L w hI.cw (fun i hi => hall i (by simpa using hi))
  · refine ⟨m0, by simp [hd], rfl, rfl, fun _ _ => rfl, ?_, h0⟩
    intro i d v _ _ _ hl
    exfalso
    unfold Li at hl
    rw [getD_replicate_false] at hl
    cases hl

def lvs (s : Nat) (m : Bool) : List Value := [.string ⟨#[]⟩, .pointer none, .nilIface, .chan none, .chan (some (cond m s (s + 1))), .chan (some (cond m (s + 1) s)), .agg (linkC (cond m s (s + 1)) (cond m (s + 1) s)), undef]


def linkZ : Array Value := #[.string ⟨#[]⟩, .pointer none, .nilIface, .chan none, .chan none, .chan none, .int .i32 0, .int .u32 0, .int .u64 0, .int .u64 0, .int .u64 0, .int .i64 0, .pointer none, .int .i32 0, .int .u32 0, .slice none 0 0, .bool false, .slice none 0 0]
def Ch0 (x : World) (a : Nat) : Prop := x.heap[a]? = some (.chan 1 #[] false 0 0 false)
structure LBase (w : World) (m : Bool) (L : Array Bool) (x : World) : Prop where
  bel : Below w.heap.size w x
  box : (¬ Li L 7 ∧ Box x w.heap.size linkZ 51) ∨ (Li L 7 ∧ Box x w.heap.size (linkC (cond m (w.heap.size + 1) (w.heap.size + 1 + 1)) (cond m (w.heap.size + 1 + 1) (w.heap.size + 1))) 51)
def LC (w : World) (m : Bool) (L : Array Bool) (x : World) : Prop := LBase w m L x ∧
  ((¬ Li L 4 ∧ ¬ Li L 5 ∧ ¬ Li L 6 ∧ ¬ Li L 7 ∧ x.heap.size = w.heap.size + 1) ∨
   (Li L 4 ∧ ¬ Li L 5 ∧ ¬ Li L 6 ∧ ¬ Li L 7 ∧ m = true ∧ x.heap.size = w.heap.size + 1 + 1 ∧ Ch0 x (w.heap.size + 1)) ∨
   (¬ Li L 4 ∧ Li L 5 ∧ ¬ Li L 6 ∧ ¬ Li L 7 ∧ m = false ∧ x.heap.size = w.heap.size + 1 + 1 ∧ Ch0 x (w.heap.size + 1)) ∨
   (Li L 4 ∧ Li L 5 ∧ Ch0 x (w.heap.size + 1) ∧ Ch0 x (w.heap.size + 1 + 1)))
theorem Ch0.alloc {x : World} {a : Nat} (h : Ch0 x a) (o : Obj) : Ch0 (x.alloc o) a := by
  unfold Ch0 at *
  exact (((Below.refl _ _).alloc (Nat.le_refl _) o).block a (Array.getElem?_eq_some_iff.1 h).1).trans h
theorem Ch0.new (x : World) : Ch0 (x.alloc (.chan 1 #[] false 0 0 false)) x.heap.size := (MapKept.heap_alloc x _).1



theorem wpOp_skip {P : Program} {ops : Array Oper} {Q : Exit → Act → World → Prop} {i : Nat} {o : Oper} {a : Act} {w w' : World} {K : Act → World → Prop} (ho : ops[i]? = some o) (hg : o.guard = none)
    (hr : (execOp a.eval o).run P w = .ok .skip w') (h : K (a.put o.dst undef) w') : wpOp P ops Q i K a w := by
  unfold wpOp
  simp only [ho]
  have hw : Region.wanted o (yielded ops a.tmps) = true := by simp [Region.wanted, hg]
  simp only [hw, if_true, Oper.wp, hr, Oper.upon]
  exact .inl h

theorem info51 : (Ybaf.prog.info? 51).map (·.size) = some 18 := by kernel_rfl
theorem linkC_size (a b : Nat) : (linkC a b).size = 18 := rfl
theorem linkC_one (a b : Nat) : (linkC a b).all (·.oneCell') = true := by simp [linkC, Value.oneCell']
theorem store_link (x : World) (b : Nat) (a1 a2 : Nat) (h : Box x b linkZ 51) : (Instr.storeAt 51 (.pointer (some ⟨b, 0, none⟩)) (.agg (linkC a1 a2))).run Ybaf.prog x = .ok () (x.setRow b (linkC a1 a2)) := by
  simp only [Instr.storeAt, Instr.sureAddr, Sem.run_bind, Sem.run_pure, Result.andThen]
  exact run_storeVar_row (P := Ybaf.prog) x b 51 51 linkZ (linkC a1 a2) h info51 rfl (linkC_one a1 a2)
theorem load_link (x : World) (b : Nat) (a1 a2 : Nat) (h : Box x b (linkC a1 a2) 51) : (loadVar 51 ⟨b, 0, none⟩).run Ybaf.prog x = .ok (.agg (linkC a1 a2)) x := by
  have := run_loadVar_mid (P := Ybaf.prog) x b 0 51 (linkC a1 a2).toList _ (fun j v hv => by rw [Nat.zero_add, h.cell j]; simpa using hv) Ybaf.underlying51 rfl info51
  simpa using this

set_option maxRecDepth 100000 in
set_option maxHeartbeats 1000000 in
theorem newLink_any (w : World) :
    Calls Ybaf.prog 8 #[.string ⟨#[]⟩, .pointer none, .nilIface, .chan none] w fun e w' => LinkPost w w' e := by
  have hmk := run_mkChan
  go_enter Ybaf.func8, Ybaf.ntmps8
  go_wp2_with fail
  have bZ : Box (w.alloc (.cells linkZ 51)) w.heap.size linkZ 51 := Box.new _ _ _
  have hB : Below w.heap.size w (w.alloc (.cells linkZ 51)) := (Below.refl _ _).alloc (Nat.le_refl _) _
  have hsz : (w.alloc (.cells linkZ 51)).heap.size = w.heap.size + 1 := by simp
  unfold linkZ at bZ hB hsz
  refine wp_region_modes [9, 10, 11, 12, 13, 14, 15, 1000] (lvs (w.heap.size + 1)) (LC w) mixed true rfl (fun m => rfl) (by decide) (by kernel_rfl) ?_ ?_ ?_
  · have hn : ∀ k, ¬ Li (Array.replicate 8 false) k := fun k h => by unfold Li at h; rw [getD_replicate_false] at h; cases h
    exact ⟨⟨hB.drew, .inl ⟨hn 7, bZ⟩⟩, .inl ⟨hn 4, hn 5, hn 6, hn 7, hsz⟩⟩
  · intro m L b x i hI hi d hd
    obtain ⟨h1, o, ho, h2⟩ := mem_ready.1 hi
    have hlt := (Array.getElem?_eq_some_iff.1 ho).1
    simp at hlt
    have hnl : ¬ Li L i := fun h => by
      have h8 : i < L.size := by rw [hI.sz]; simpa using hlt
      unfold Li at h
      simp [h8] at h h1
      rw [h] at h1; cases h1
    have hkeep : ∀ i, i ≠ 4 → i ≠ 5 → i ≠ 6 → i ≠ 7 → LC w m (L.setIfInBounds i true) x := fun i e4 e5 e6 e7 => by
      obtain ⟨⟨hb1, hb2⟩, hc⟩ := hI.cw
      refine ⟨⟨hb1, ?_⟩, ?_⟩
      · rw [Li.set_ne (Ne.symm e7)]; exact hb2
      · rw [Li.set_ne (Ne.symm e4), Li.set_ne (Ne.symm e5), Li.set_ne (Ne.symm e6), Li.set_ne (Ne.symm e7)]; exact hc
    have hset : ∀ j, j < 8 → Li (L.setIfInBounds j true) j := fun j hj => Li.set_same (by rw [hI.sz]; exact hj)
    match i, hlt with
    | 0, _ =>
      have o0 : b.tmps[0]? = some _ := hI.out 0 (by decide)
      obtain rfl := Option.some.inj (show some _ = some d from hd)
      exact wpOp_val rfl rfl (by simp [go_sem, o0]; done) ⟨m, _, rfl, rfl, fun _ _ => rfl, hkeep 0 (by decide) (by decide) (by decide) (by decide)⟩
    | 1, _ =>
      have o1 : b.tmps[1]? = some _ := hI.out 1 (by decide)
      obtain rfl := Option.some.inj (show some _ = some d from hd)
      exact wpOp_val rfl rfl (by simp [go_sem, o1]; done) ⟨m, _, rfl, rfl, fun _ _ => rfl, hkeep 1 (by decide) (by decide) (by decide) (by decide)⟩
    | 2, _ =>
      have o2 : b.tmps[2]? = some _ := hI.out 2 (by decide)
      obtain rfl := Option.some.inj (show some _ = some d from hd)
      exact wpOp_val rfl rfl (by simp [go_sem, o2]; done) ⟨m, _, rfl, rfl, fun _ _ => rfl, hkeep 2 (by decide) (by decide) (by decide) (by decide)⟩
    | 3, _ =>
      have o3 : b.tmps[3]? = some _ := hI.out 3 (by decide)
      obtain rfl := Option.some.inj (show some _ = some d from hd)
      exact wpOp_val rfl rfl (by simp [go_sem, o3]; done) ⟨m, _, rfl, rfl, fun _ _ => rfl, hkeep 3 (by decide) (by decide) (by decide) (by decide)⟩
    | 4, _ =>
      obtain rfl := Option.some.inj (show some _ = some d from hd)
      obtain ⟨⟨hb1, hb2⟩, hc⟩ := hI.cw
      have hA : Below x.heap.size x (x.alloc (.chan 1 #[] false 0 0 false)) := (Below.refl _ _).alloc (Nat.le_refl _) _
      refine wpOp_val rfl rfl (v := .chan (some x.heap.size)) (w' := x.alloc (.chan 1 #[] false 0 0 false)) (by simp [go_sem, hmk]; done) ?_
      rcases hc with ⟨c4, c5, c6, c7, hs⟩ | ⟨c4, _⟩ | ⟨c4, c5, c6, c7, rfl, hs, hch⟩ | ⟨c4, _⟩
      · refine ⟨true, _, by simp [lvs, hs], rfl, ?_, ⟨⟨hb1.trans (hA.mono hb1.size), .inl ⟨by rw [Li.set_ne (by decide)]; exact c7, ?_⟩⟩, .inr (.inl ⟨hset 4 (by decide), by rw [Li.set_ne (by decide)]; exact c5, by rw [Li.set_ne (by decide)]; exact c6, by rw [Li.set_ne (by decide)]; exact c7, rfl, by simp [hs], ?_⟩)⟩⟩
        · intro k hk
          match k with
          | 0 => rfl
          | 1 => rfl
          | 2 => rfl
          | 3 => rfl
          | 4 => exact absurd hk c4
          | 5 => exact absurd hk c5
          | 6 => exact absurd hk c6
          | 7 => rfl
          | _ + 8 => rfl
        · rcases hb2 with ⟨_, hb⟩ | ⟨h, _⟩
          · exact hb.mono hA
          · exact absurd h c7
        · rw [← hs]; exact Ch0.new x
      · exact absurd c4 hnl
      · refine ⟨false, _, by simp [lvs, hs], rfl, fun _ _ => rfl, ⟨⟨hb1.trans (hA.mono hb1.size), .inl ⟨by rw [Li.set_ne (by decide)]; exact c7, ?_⟩⟩, .inr (.inr (.inr ⟨hset 4 (by decide), by rw [Li.set_ne (by decide)]; exact c5, hch.alloc _, ?_⟩))⟩⟩
        · rcases hb2 with ⟨_, hb⟩ | ⟨h, _⟩
          · exact hb.mono hA
          · exact absurd h c7
        · rw [← hs]; exact Ch0.new x
      · exact absurd c4 hnl
    | 5, _ =>
      obtain rfl := Option.some.inj (show some _ = some d from hd)
      obtain ⟨⟨hb1, hb2⟩, hc⟩ := hI.cw
      have hA : Below x.heap.size x (x.alloc (.chan 1 #[] false 0 0 false)) := (Below.refl _ _).alloc (Nat.le_refl _) _
      refine wpOp_val rfl rfl (v := .chan (some x.heap.size)) (w' := x.alloc (.chan 1 #[] false 0 0 false)) (by simp [go_sem, hmk]; done) ?_
      rcases hc with ⟨c4, c5, c6, c7, hs⟩ | ⟨c4, c5, c6, c7, rfl, hs, hch⟩ | ⟨_, c5, _⟩ | ⟨_, c5, _⟩
      · refine ⟨false, _, by simp [lvs, hs], rfl, ?_, ⟨⟨hb1.trans (hA.mono hb1.size), .inl ⟨by rw [Li.set_ne (by decide)]; exact c7, ?_⟩⟩, .inr (.inr (.inl ⟨by rw [Li.set_ne (by decide)]; exact c4, hset 5 (by decide), by rw [Li.set_ne (by decide)]; exact c6, by rw [Li.set_ne (by decide)]; exact c7, rfl, by simp [hs], ?_⟩))⟩⟩
        · intro k hk
          match k with
          | 0 => rfl
          | 1 => rfl
          | 2 => rfl
          | 3 => rfl
          | 4 => exact absurd hk c4
          | 5 => exact absurd hk c5
          | 6 => exact absurd hk c6
          | 7 => rfl
          | _ + 8 => rfl
        · rcases hb2 with ⟨_, hb⟩ | ⟨h, _⟩
          · exact hb.mono hA
          · exact absurd h c7
        · rw [← hs]; exact Ch0.new x
      · refine ⟨true, _, by simp [lvs, hs], rfl, fun _ _ => rfl, ⟨⟨hb1.trans (hA.mono hb1.size), .inl ⟨by rw [Li.set_ne (by decide)]; exact c7, ?_⟩⟩, .inr (.inr (.inr ⟨by rw [Li.set_ne (by decide)]; exact c4, hset 5 (by decide), hch.alloc _, ?_⟩))⟩⟩
        · rcases hb2 with ⟨_, hb⟩ | ⟨h, _⟩
          · exact hb.mono hA
          · exact absurd h c7
        · rw [← hs]; exact Ch0.new x
      · exact absurd c5 hnl
      · exact absurd c5 hnl
    | 6, _ =>
      obtain rfl := Option.some.inj (show some _ = some o from ho)
      obtain rfl := Option.some.inj (show some _ = some d from hd)
      have l4 : Li L 4 := h2 ⟨4, .data⟩ (by simp) rfl
      have l5 : Li L 5 := h2 ⟨5, .data⟩ (by simp) rfl
      have t9 : b.tmps[9]? = some _ := hI.fs 0 9 _ rfl rfl (by simp) (h2 ⟨0, .data⟩ (by simp) rfl)
      have t10 : b.tmps[10]? = some _ := hI.fs 1 10 _ rfl rfl (by simp) (h2 ⟨1, .data⟩ (by simp) rfl)
      have t11 : b.tmps[11]? = some _ := hI.fs 2 11 _ rfl rfl (by simp) (h2 ⟨2, .data⟩ (by simp) rfl)
      have t12 : b.tmps[12]? = some _ := hI.fs 3 12 _ rfl rfl (by simp) (h2 ⟨3, .data⟩ (by simp) rfl)
      have t13 : b.tmps[13]? = some _ := hI.fs 4 13 _ rfl rfl (by simp) l4
      have t14 : b.tmps[14]? = some _ := hI.fs 5 14 _ rfl rfl (by simp) l5
      obtain ⟨⟨hb1, hb2⟩, hc⟩ := hI.cw
      refine wpOp_val rfl rfl (v := .agg (linkC (cond m (w.heap.size + 1) (w.heap.size + 1 + 1)) (cond m (w.heap.size + 1 + 1) (w.heap.size + 1)))) (w' := x) (by simp [go_sem, t9, t10, t11, t12, t13, t14, linkC]; done) ⟨m, _, rfl, rfl, fun _ _ => rfl, ⟨hb1, by rw [Li.set_ne (by decide)]; exact hb2⟩, ?_⟩
      rcases hc with ⟨c4, _⟩ | ⟨_, c5, _⟩ | ⟨c4, _⟩ | ⟨c4, c5, hc⟩
      · exact absurd l4 c4
      · exact absurd l5 c5
      · exact absurd l4 c4
      · exact .inr (.inr (.inr ⟨by rw [Li.set_ne (by decide)]; exact c4, by rw [Li.set_ne (by decide)]; exact c5, hc⟩))
    | 7, _ =>
      obtain rfl := Option.some.inj (show some _ = some o from ho)
      obtain rfl := Option.some.inj (show some _ = some d from hd)
      have l4 : Li L 4 := h2 ⟨4, .phase⟩ (by simp) rfl
      have l5 : Li L 5 := h2 ⟨5, .phase⟩ (by simp) rfl
      have t15 : b.tmps[15]? = some _ := hI.fs 6 15 _ rfl rfl (by simp) (h2 ⟨6, .data⟩ (by simp) rfl)
      have o8 : b.tmps[8]? = some _ := hI.out 8 (by decide)
      obtain ⟨⟨hb1, hb2⟩, hc⟩ := hI.cw
      have hbx : Box x w.heap.size linkZ 51 := by
        rcases hb2 with ⟨_, hb⟩ | ⟨h, _⟩
        · exact hb
        · exact absurd h hnl
      have hsl := store_link x w.heap.size (cond m (w.heap.size + 1) (w.heap.size + 1 + 1)) (cond m (w.heap.size + 1 + 1) (w.heap.size + 1)) hbx
      have e8 : b.eval (.tmp 8) = .pointer (some ⟨w.heap.size, 0, none⟩) := by simp [Act.eval, o8]
      have e15 : b.eval (.tmp 15) = .agg (linkC (cond m (w.heap.size + 1) (w.heap.size + 1 + 1)) (cond m (w.heap.size + 1 + 1) (w.heap.size + 1))) := by simp [Act.eval, t15]
      refine wpOp_skip (o := { dst := none, op := Op.store 51 (.tmp 8) (.tmp 15), type := 0, pos := "link.go:117", after := #[⟨6, .data⟩, ⟨0, .phase⟩, ⟨1, .phase⟩, ⟨2, .phase⟩, ⟨3, .phase⟩, ⟨4, .phase⟩, ⟨5, .phase⟩, ⟨6, .phase⟩], guard := none }) rfl rfl (w' := x.setRow w.heap.size (linkC (cond m (w.heap.size + 1) (w.heap.size + 1 + 1)) (cond m (w.heap.size + 1 + 1) (w.heap.size + 1)))) (by unfold execOp; simp only [e8, e15, Sem.run_bind, hsl, Result.andThen_ok, Sem.run_pure]) ⟨m, _, rfl, (putAll_none (a := b) (by rw [hI.ts]; simp)).symm, fun _ _ => rfl, ⟨⟨hb1.os, hb1.tape, hb1.output, by have := hb1.size; simp [World.setRow]; omega, fun k hk => (setRow_other _ _ _ _ (by omega)).trans (hb1.block k hk)⟩, .inr ⟨hset 7 (by decide), setRow_heap _ _ _ _ _ _ hbx⟩⟩, ?_⟩
      rcases hc with ⟨c4, _⟩ | ⟨_, c5, _⟩ | ⟨c4, _⟩ | ⟨c4, c5, h3, h4⟩
      · exact absurd l4 c4
      · exact absurd l5 c5
      · exact absurd l4 c4
      · exact .inr (.inr (.inr ⟨by rw [Li.set_ne (by decide)]; exact c4, by rw [Li.set_ne (by decide)]; exact c5, (setRow_other _ _ _ _ (by omega)).trans h3, (setRow_other _ _ _ _ (by omega)).trans h4⟩))
  · intro m L x hC hall
    obtain ⟨⟨hb1, hb2⟩, hc⟩ := hC
    have hbx : Box x w.heap.size (linkC (cond m (w.heap.size + 1) (w.heap.size + 1 + 1)) (cond m (w.heap.size + 1 + 1) (w.heap.size + 1))) 51 := by
      rcases hb2 with ⟨h, _⟩ | ⟨_, h⟩
      · exact absurd (hall 7 (by simp)) h
      · exact h
    have hch : Ch0 x (cond m (w.heap.size + 1) (w.heap.size + 1 + 1)) := by
      rcases hc with ⟨c4, _⟩ | ⟨_, c5, _⟩ | ⟨c4, _⟩ | ⟨_, _, h3, h4⟩
      · exact absurd (hall 4 (by simp)) c4
      · exact absurd (hall 5 (by simp)) c5
      · exact absurd (hall 4 (by simp)) c4
      · cases m
        · exact h4
        · exact h3
    have hlo : w.heap.size ≤ cond m (w.heap.size + 1) (w.heap.size + 1 + 1) := by cases m <;> simp only [cond] <;> omega
    have hld := load_link x w.heap.size _ _ hbx
    generalize cond m (w.heap.size + 1) (w.heap.size + 1 + 1) = c1 at *
    generalize cond m (w.heap.size + 1 + 1) (w.heap.size + 1) = c2 at *
    clear hc hall hb2
    have e9 : (putAll { tmps := #[Value.string ⟨#[]⟩, .pointer none, .nilIface, .chan none, undef, undef, undef, undef, .pointer (some ⟨w.heap.size, 0, none⟩), undef, undef, undef, undef, undef, undef, undef], defers := [] } [9, 10, 11, 12, 13, 14, 15, 1000] (lvs (w.heap.size + 1) m)).tmps[8]? = some (.pointer (some ⟨w.heap.size, 0, none⟩)) := by
      rw [putAll_out _ _ _ _ (by decide)]; rfl
    have ed := putAll_defers [9, 10, 11, 12, 13, 14, 15, 1000] (lvs (w.heap.size + 1) m) { tmps := #[Value.string ⟨#[]⟩, .pointer none, .nilIface, .chan none, undef, undef, undef, undef, .pointer (some ⟨w.heap.size, 0, none⟩), undef, undef, undef, undef, undef, undef, undef], defers := [] }
    generalize putAll { tmps := #[Value.string ⟨#[]⟩, .pointer none, .nilIface, .chan none, undef, undef, undef, undef, .pointer (some ⟨w.heap.size, 0, none⟩), undef, undef, undef, undef, undef, undef, undef], defers := [] } [9, 10, 11, 12, 13, 14, 15, 1000] (lvs (w.heap.size + 1) m) = A at *
    obtain ⟨tm, df⟩ := A
    simp only at e9 ed
    subst ed
    go_wp2_with fail
    refine bodyPost_ret (v := .agg (linkC c1 c2)) ?_ rfl ⟨c1, c2, rfl, hlo, hch, hb1⟩
    simp only [results, Ybaf.results8]
    simp [e9]
    simp [asAddr, hld]
end Go.Proofs.YbulkuzkFmt
