/-
  WALK: newDetector (function 12): ONE REGION THAT DRAWS ITS ORDER: eleven maps are made, two functions called, a struct boxed, in whatever order: by an invariant over the operations that have come up.
-/
import Derived.Test.YbulkuywBase
import Derived.Test.YbulkuywSorted
namespace Go.Proofs.Ybulkuyw
open Go.RowKit
open Go.Maps (Keyed IsMap)

def Li (L : Array Bool) (i : Nat) : Prop := L.getD i false = true
def Sl (a : Act) (j : Nat) (v : Value) : Prop := a.tmps[j]? = some v
theorem Sl.eval {a : Act} {j : Nat} {v : Value} (h : Sl a j v) : a.eval (.tmp j) = v := by
  unfold Sl at h; simp [Act.eval, h]
theorem Sl.put_ne {a : Act} {j d : Nat} {v u : Value} (h : Sl a j u) (hne : j ≠ d) : Sl (a.put (some d) v) j u := by
  unfold Sl at *; simp only [Act.put]; rw [Array.getElem?_setIfInBounds_ne (Ne.symm hne)]; exact h
theorem Sl.put_same {a : Act} {d : Nat} {v : Value} (h : d < a.tmps.size) : Sl (a.put (some d) v) d v := by
  unfold Sl; simp [Act.put, h]
theorem Li.set_ne {L : Array Bool} {i j : Nat} (hne : j ≠ i) : Li (L.setIfInBounds i true) j ↔ Li L j := by
  unfold Li; rw [getD_set_ne false (Ne.symm hne)]

theorem wpOp_val {ops : Array Oper} {Q : Exit → Act → World → Prop} {i : Nat} {o : Oper} {a : Act} {w w' : World} {v : Value} {K : Act → World → Prop} (ho : ops[i]? = some o) (hg : o.guard = none)
    (hr : (execOp a.eval o).run Yba.prog w = .ok (.value v) w') (h : K (a.put o.dst v) w') : wpOp Yba.prog ops Q i K a w := by
  unfold wpOp
  simp only [ho]
  have hw : Region.wanted o (yielded ops a.tmps) = true := by simp [Region.wanted, hg]
  simp only [hw, if_true, Oper.wp, hr, Oper.upon]
  exact .inl h
theorem wpOp_enter {ops : Array Oper} {Q : Exit → Act → World → Prop} {i : Nat} {o : Oper} {a : Act} {w : World} {f : FuncId} {args : Array Value} {K : Act → World → Prop} (ho : ops[i]? = some o) (hg : o.guard = none)
    (hr : (execOp a.eval o).run Yba.prog w = .ok (.enter f args) w) (h : Calls Yba.prog f args w fun e w' => ∃ v, e = .returned v ∧ K (a.put o.dst v) w') : wpOp Yba.prog ops Q i K a w := by
  unfold wpOp
  simp only [ho]
  have hw : Region.wanted o (yielded ops a.tmps) = true := by simp [Region.wanted, hg]
  simp only [hw, if_true, Oper.wp, hr, Oper.upon]
  refine .inl (h.mono ?_)
  rintro e w' ⟨v, rfl, hv⟩
  exact hv

theorem all_listed {ops : Array Oper} {L : Array Bool} (hsz : L.size = ops.size) (hlex : (List.range ops.size).all (fun i => match ops[i]? with | some o => o.after.all (fun e => decide (e.on < i)) | none => true) = true)
    (hr : Region.ready .any ops L = []) : ∀ i, i < ops.size → Li L i := by
  intro i
  induction i using Nat.strongRecOn with
  | ind i ih =>
    intro hi
    apply Classical.byContradiction
    intro hn
    obtain ⟨o, ho⟩ : ∃ o, ops[i]? = some o := ⟨ops[i], by simp [hi]⟩
    have hmem : i ∈ Region.ready .any ops L := by
      refine mem_ready.2 ⟨?_, o, ho, fun e he _ => ?_⟩
      · unfold Li at hn
        have hiL : i < L.size := by omega
        simp [hiL] at hn ⊢
        exact hn
      · have h1 := List.all_eq_true.1 hlex i (List.mem_range.2 hi)
        rw [ho] at h1
        have h2 := Array.all_eq_true_iff_forall_mem.1 h1 e he
        have h3 : e.on < i := of_decide_eq_true h2
        exact ih e.on h3 (by omega)
    rw [hr] at hmem
    cases hmem

/-- the detector's cells -/
def detC (sm si now : Int) (n g cap : Nat) (m : Nat → Nat) : Array Value :=
  #[.int .i64 sm, .int .u64 si, .slice (some ⟨g, 0, none⟩) n cap, .int .i64 now, .map (some (m 0)), .map (some (m 1)), .map (some (m 2)), .map (some (m 3)), .map (some (m 4)), .map (some (m 5)), .map (some (m 6)), .map (some (m 7)), .map (some (m 8)), .map (some (m 9)), .map (some (m 10))]
/-- .. what it leads to, as it is new -/
structure DetOk (B n g : Nat) (m : Nat → Nat) (w : World) : Prop where
  lo : B ≤ g
  ids : ∀ j, j < n → w.cell? ⟨g, j, none⟩ = some (.int .i64 (j : Int))
  mlo : ∀ j, j < 11 → B ≤ m j
  mp : ∀ j, j < 11 → w.heap[m j]? = some (.map #[] 0)
  inj : ∀ i j, i < 11 → j < 11 → m i = m j → i = j

section
variable (B n : Nat) (sm si now : Int) (idsv : Value)
/-- what operation i has left -/
def fact : Nat → Value → World → Prop
  | 0, v, _ => v = rv sm si
  | 1, v, _ => v = idsv
  | 2, v, w => ∃ bv, v = .func (.func 28) #[] #[.pointer (some ⟨bv, 0, none⟩)] ∧ w.cell? ⟨bv, 0, none⟩ = some idsv
  | 3, v, w => ∃ g cap, v = .slice (some ⟨g, 0, none⟩) n cap ∧ B ≤ g ∧ ∀ j, j < n → w.cell? ⟨g, j, none⟩ = some (.int .i64 (j : Int))
  | 4, v, _ => v = .int .i64 now
  | 16, v, w => ∃ g cap m, v = .agg (detC sm si now n g cap m) ∧ DetOk B n g m w
  | 17, v, w => ∃ d g cap m, v = .pointer (some ⟨d, 0, none⟩) ∧ B ≤ d ∧ w.heap[d]? = some (.cells (detC sm si now n g cap m) 58 (0, 0)) ∧ DetOk B n g m w
  | _, v, w => ∃ b, v = .map (some b) ∧ B ≤ b ∧ w.heap[b]? = some (.map #[] 0)

theorem cell_mono {w w' : World} (hw : Below w.heap.size w w') {p : Addr} {v : Value} (h : w.cell? p = some v) : w'.cell? p = some v := (hw.cell (cell_lt h)).trans h
theorem heap_mono {w w' : World} (hw : Below w.heap.size w w') {b : Nat} {o : Obj} (h : w.heap[b]? = some o) : w'.heap[b]? = some o := (hw.block b (Array.getElem?_eq_some_iff.1 h).1).trans h
theorem DetOk.mono {B n g : Nat} {m : Nat → Nat} {w w' : World} (h : DetOk B n g m w) (hw : Below w.heap.size w w') : DetOk B n g m w' :=
  ⟨h.lo, fun j hj => cell_mono hw (h.ids j hj), h.mlo, fun j hj => heap_mono hw (h.mp j hj), h.inj⟩
theorem fact_mono {w w' : World} (hw : Below w.heap.size w w') : ∀ {i : Nat} {v : Value}, fact B n sm si now idsv i v w → fact B n sm si now idsv i v w' := by
  intro i v h
  unfold fact at *
  split at h
  · exact h
  · exact h
  · obtain ⟨bv, h1, h2⟩ := h; exact ⟨bv, h1, cell_mono hw h2⟩
  · obtain ⟨g, cap, h1, h2, h3⟩ := h; exact ⟨g, cap, h1, h2, fun j hj => cell_mono hw (h3 j hj)⟩
  · exact h
  · obtain ⟨g, cap, m, h1, h2⟩ := h; exact ⟨g, cap, m, h1, h2.mono hw⟩
  · obtain ⟨d, g, cap, m, h1, h2, h3, h4⟩ := h; exact ⟨d, g, cap, m, h1, h2, heap_mono hw h3, h4.mono hw⟩
  · obtain ⟨b, h1, h2, h3⟩ := h; exact ⟨b, h1, h2, heap_mono hw h3⟩

/-- BETWEEN TWO OPERATIONS -/
structure Inv (W1 : World) (L : Array Bool) (a : Act) (w : World) : Prop where
  sz : L.size = 19
  ts : a.tmps.size = 25
  df : a.defers = []
  bel : Below W1.heap.size W1 w
  s1 : Sl a 1 idsv
  s2 : Sl a 2 (.int .i64 now)
  s3 : ∃ bs, Sl a 3 (.pointer (some ⟨bs, 0, none⟩)) ∧ w.cell? ⟨bs, 0, none⟩ = some (.int .i64 sm) ∧ w.cell? ⟨bs, 1, none⟩ = some (.int .u64 si)
  fs : ∀ i, i < 18 → Li L i → ∃ v, Sl a (i + 7) v ∧ fact B n sm si now idsv i v w
  dj : ∀ i j, 5 ≤ i → i < 16 → 5 ≤ j → j < 16 → i ≠ j → Li L i → Li L j → a.tmps[i + 7]? ≠ a.tmps[j + 7]?
  fin : Li L 18 → ∃ v, Sl a 6 v ∧ fact B n sm si now idsv 17 v w

theorem inv_step {W1 : World} {L : Array Bool} {a : Act} {w w' : World} (h : Inv B n sm si now idsv W1 L a w) {i : Nat} (hi : i < 18) (hw : Below w.heap.size w w') (v : Value) (hf : fact B n sm si now idsv i v w')
    (hd : 5 ≤ i → i < 16 → ∀ j u, 5 ≤ j → j < 16 → j ≠ i → fact B n sm si now idsv j u w → u ≠ v) : Inv B n sm si now idsv W1 (L.setIfInBounds i true) (a.put (some (i + 7)) v) w' := by
  have hW : W1.heap.size ≤ w.heap.size := h.bel.size
  refine ⟨by simp [h.sz], by simp [Act.put, h.ts], h.df, h.bel.trans (hw.mono hW), h.s1.put_ne (by omega), h.s2.put_ne (by omega), ?_, ?_, ?_, ?_⟩
  · obtain ⟨bs, h1, h2, h3⟩ := h.s3
    exact ⟨bs, h1.put_ne (by omega), cell_mono hw h2, cell_mono hw h3⟩
  · intro j hj hl
    by_cases e : j = i
    · subst e; exact ⟨v, Sl.put_same (by rw [h.ts]; omega), hf⟩
    · obtain ⟨u, h1, h2⟩ := h.fs j hj ((Li.set_ne e).1 hl)
      exact ⟨u, h1.put_ne (by omega), fact_mono B n sm si now idsv hw h2⟩
  · intro j k h1 h2 h3 h4 hne hj hk
    by_cases ej : j = i
    · subst ej
      obtain ⟨u, hu, hfu⟩ := h.fs k (by omega) ((Li.set_ne (Ne.symm hne)).1 hk)
      have e1 : (a.put (some (j + 7)) v).tmps[j + 7]? = some v := Sl.put_same (by rw [h.ts]; omega)
      have e2 : (a.put (some (j + 7)) v).tmps[k + 7]? = some u := hu.put_ne (by omega)
      rw [e1, e2]
      intro e; injection e with e
      exact hd h1 h2 k u h3 h4 (Ne.symm hne) hfu e.symm
    · by_cases ek : k = i
      · subst ek
        obtain ⟨u, hu, hfu⟩ := h.fs j (by omega) ((Li.set_ne ej).1 hj)
        have e1 : (a.put (some (k + 7)) v).tmps[k + 7]? = some v := Sl.put_same (by rw [h.ts]; omega)
        have e2 : (a.put (some (k + 7)) v).tmps[j + 7]? = some u := hu.put_ne (by omega)
        rw [e1, e2]
        intro e; injection e with e
        exact hd h3 h4 j u h1 h2 ej hfu e
      · have e1 : ∀ x : Nat, x ≠ i → (a.put (some (i + 7)) v).tmps[x + 7]? = a.tmps[x + 7]? := fun x hx => by
          simp only [Act.put]; rw [Array.getElem?_setIfInBounds_ne (by omega)]
        rw [e1 j ej, e1 k ek]
        exact h.dj j k h1 h2 h3 h4 hne ((Li.set_ne ej).1 hj) ((Li.set_ne ek).1 hk)
  · intro hl
    obtain ⟨u, h1, h2⟩ := h.fin ((Li.set_ne (by omega)).1 hl)
    exact ⟨u, h1.put_ne (by omega), fact_mono B n sm si now idsv hw h2⟩

theorem fact_map : ∀ (j : Nat) (v : Value) (w : World), 5 ≤ j → j < 16 → (fact B n sm si now idsv j v w ↔ ∃ b, v = .map (some b) ∧ B ≤ b ∧ w.heap[b]? = some (.map #[] 0)) := fun j v w h1 h2 => by
  unfold fact
  split <;> first | omega | rfl

theorem map_step {W1 : World} {L : Array Bool} {a : Act} {w : World} (h : Inv B n sm si now idsv W1 L a w) {i : Nat} (h5 : 5 ≤ i) (h16 : i < 16) (hB : B ≤ W1.heap.size) :
    Inv B n sm si now idsv W1 (L.setIfInBounds i true) (a.put (some (i + 7)) (.map (some w.heap.size))) (w.alloc (.map #[] 0)) := by
  have hfi := fact_map B n sm si now idsv
  refine inv_step B n sm si now idsv h (by omega) ((Below.refl _ _).alloc (Nat.le_refl _) _) _ ((hfi _ _ _ h5 h16).2 ⟨w.heap.size, rfl, Nat.le_trans hB h.bel.size, (MapKept.heap_alloc w _).1⟩) ?_
  intro _ _ j u j5 j16 _ hf e
  obtain ⟨b, rfl, _, hb⟩ := (hfi _ _ _ j5 j16).1 hf
  have hlt := (Array.getElem?_eq_some_iff.1 hb).1
  injection e with e1
  injection e1 with e2
  omega
end

/-- THE DETECTOR AS IT IS MADE -/
def Det0 (w w' : World) (sm si now : Int) (n d : Nat) : Prop :=
  ∃ g cap m, w.heap.size ≤ d ∧ w'.heap[d]? = some (.cells (detC sm si now n g cap m) 58 (0, 0)) ∧ DetOk w.heap.size n g m w' ∧ Below w.heap.size w w'

set_option maxHeartbeats 1000000 in
theorem newDet_any (sm si now : Int) (b off cap n : Nat) (w : World) (hn : 1 ≤ n) (hn6 : n ≤ 6) (hb : b < w.heap.size) (hI : ∀ j, j < n → w.cell? ⟨b, off + j, none⟩ = some (.int .i64 ((n : Int) - 1 - j))) :
    Calls Yba.prog 12 #[.agg #[.int .i64 sm, .int .u64 si], .slice (some ⟨b, off, none⟩) n cap, .int .i64 now] w fun e w' => ∃ d, e = .returned (.pointer (some ⟨d, 0, none⟩)) ∧ Det0 w w' sm si now n d := by
  go_enter Yba.func12, Yba.ntmps12
  go_wp2
  have hB1 : Below w.heap.size w (w.alloc (Obj.cells #[.int .i64 sm, .int .u64 si] 30)) := (Below.refl _ _).alloc (Nat.le_refl _) _
  have hI1 : ∀ {w' : World}, Below (w.alloc (Obj.cells #[.int .i64 sm, .int .u64 si] 30)).heap.size (w.alloc (Obj.cells #[.int .i64 sm, .int .u64 si] 30)) w' → ∀ j, j < n → w'.cell? ⟨b, off + j, none⟩ = some (.int .i64 ((n : Int) - 1 - j)) := fun {w'} hw j hj =>
    (hw.cell (p := ⟨b, off + j, none⟩) (by simp; omega)).trans ((hB1.cell (p := ⟨b, off + j, none⟩) hb).trans (hI j hj))
  refine wp_region_inv (Inv w.heap.size n sm si now (.slice (some ⟨b, off, none⟩) n cap) (w.alloc (Obj.cells #[.int .i64 sm, .int .u64 si] 30))) (fun L a w h => h.sz) ?_ ?_ ?_
  · refine ⟨by simp, rfl, rfl, (Below.refl _ _).drew, rfl, rfl, ⟨w.heap.size, rfl, by simp, by simp⟩, ?_, ?_, ?_⟩
    · intro i hi hl; exfalso; unfold Li at hl; rw [getD_replicate_false] at hl; cases hl
    · intro i j _ _ _ _ _ hl; exfalso; unfold Li at hl; rw [getD_replicate_false] at hl; cases hl
    · intro hl; exfalso; unfold Li at hl; rw [getD_replicate_false] at hl; cases hl
  · intro L a w1 i hV hi
    obtain ⟨h1, o, ho, h2⟩ := mem_ready.1 hi
    have hlt := (Array.getElem?_eq_some_iff.1 ho).1
    simp at hlt
    have hBw : w.heap.size ≤ (w.alloc (Obj.cells #[.int .i64 sm, .int .u64 si] 30)).heap.size := hB1.size
    clear hi
    match i, hlt with
    | 0, _ =>
      obtain ⟨bs, h3, c0, c1⟩ := hV.s3
      have h3' : a.tmps[3]? = _ := h3
      exact wpOp_val rfl rfl (v := rv sm si) (by simp [go_sem, h3', c0, c1, rv]) (inv_step _ _ _ _ _ _ hV (i := 0) (by omega) (Below.refl _ _) _ rfl (fun h => by omega))
    | 1, _ =>
      have h3' : a.tmps[1]? = _ := hV.s1
      exact wpOp_val rfl rfl (v := .slice (some ⟨b, off, none⟩) n cap) (by simp [go_sem, h3']) (inv_step _ _ _ _ _ _ hV (i := 1) (by omega) (Below.refl _ _) _ rfl (fun h => by omega))
    | 2, _ =>
      obtain rfl := Option.some.inj (show some _ = some o from ho)
      have hl1 : Li L 1 := h2 ⟨1, .data⟩ (by simp) rfl
      obtain ⟨v, h3, hf⟩ := hV.fs 1 (by omega) hl1
      obtain rfl : v = .slice (some ⟨b, off, none⟩) n cap := hf
      have h3' : a.tmps[8]? = _ := h3
      refine wpOp_enter rfl rfl (f := 20) (args := #[.slice (some ⟨b, off, none⟩) n cap]) (by simp [go_sem, h3']) ?_
      refine (values_any _ _ _ _).mono ?_
      rintro e w2 ⟨rfl, rfl⟩
      refine ⟨_, rfl, inv_step _ _ _ _ _ _ hV (i := 2) (by omega) ((Below.refl _ _).alloc (Nat.le_refl _) _) _ ⟨w1.heap.size, rfl, by simp⟩ (fun h => by omega)⟩
    | 3, _ =>
      obtain rfl := Option.some.inj (show some _ = some o from ho)
      have hl1 : Li L 2 := h2 ⟨2, .data⟩ (by simp) rfl
      obtain ⟨v, h3, bv, rfl, hc⟩ := hV.fs 2 (by omega) hl1
      have h3' : a.tmps[9]? = _ := h3
      refine wpOp_enter rfl rfl (f := 19) (args := #[.func (.func 28) #[] #[.pointer (some ⟨bv, 0, none⟩)]]) (by simp [go_sem, h3']) ?_
      refine (sorted_any bv b off cap n w1 hn hn6 (cell_lt hc) hc (by have := hV.bel.size; simp at this; omega) (hI1 hV.bel)).mono ?_
      rintro e w2 ⟨g, cap', rfl, hg, hids, hbel⟩
      refine ⟨_, rfl, inv_step _ _ _ _ _ _ hV (i := 3) (by omega) hbel _ ⟨g, cap', rfl, by have := hV.bel.size; simp at this; omega, hids⟩ (fun h => by omega)⟩
    | 4, _ =>
      have h3' : a.tmps[2]? = _ := hV.s2
      exact wpOp_val rfl rfl (v := .int .i64 now) (by simp [go_sem, h3']) (inv_step _ _ _ _ _ _ hV (i := 4) (by omega) (Below.refl _ _) _ rfl (fun h => by omega))
    | 5, _ => exact wpOp_val rfl rfl (by simp [go_sem, run_makeMap]) (map_step _ _ _ _ _ _ hV (i := 5) (by omega) (by omega) hBw)
    | 6, _ => exact wpOp_val rfl rfl (by simp [go_sem, run_makeMap]) (map_step _ _ _ _ _ _ hV (i := 6) (by omega) (by omega) hBw)
    | 7, _ => exact wpOp_val rfl rfl (by simp [go_sem, run_makeMap]) (map_step _ _ _ _ _ _ hV (i := 7) (by omega) (by omega) hBw)
    | 8, _ => exact wpOp_val rfl rfl (by simp [go_sem, run_makeMap]) (map_step _ _ _ _ _ _ hV (i := 8) (by omega) (by omega) hBw)
    | 9, _ => exact wpOp_val rfl rfl (by simp [go_sem, run_makeMap]) (map_step _ _ _ _ _ _ hV (i := 9) (by omega) (by omega) hBw)
    | 10, _ => exact wpOp_val rfl rfl (by simp [go_sem, run_makeMap]) (map_step _ _ _ _ _ _ hV (i := 10) (by omega) (by omega) hBw)
    | 11, _ => exact wpOp_val rfl rfl (by simp [go_sem, run_makeMap]) (map_step _ _ _ _ _ _ hV (i := 11) (by omega) (by omega) hBw)
    | 12, _ => exact wpOp_val rfl rfl (by simp [go_sem, run_makeMap]) (map_step _ _ _ _ _ _ hV (i := 12) (by omega) (by omega) hBw)
    | 13, _ => exact wpOp_val rfl rfl (by simp [go_sem, run_makeMap]) (map_step _ _ _ _ _ _ hV (i := 13) (by omega) (by omega) hBw)
    | 14, _ => exact wpOp_val rfl rfl (by simp [go_sem, run_makeMap]) (map_step _ _ _ _ _ _ hV (i := 14) (by omega) (by omega) hBw)
    | 15, _ => exact wpOp_val rfl rfl (by simp [go_sem, run_makeMap]) (map_step _ _ _ _ _ _ hV (i := 15) (by omega) (by omega) hBw)
    | 16, _ =>
      obtain rfl := Option.some.inj (show some _ = some o from ho)
      obtain ⟨v7, s7, f7⟩ := hV.fs 0 (by omega) (h2 ⟨0, .data⟩ (by simp) rfl)
      obtain ⟨v10, s10, g, cap', f10, hg, hids⟩ := hV.fs 3 (by omega) (h2 ⟨3, .data⟩ (by simp) rfl)
      obtain ⟨v11, s11, f11⟩ := hV.fs 4 (by omega) (h2 ⟨4, .data⟩ (by simp) rfl)
      have hLm : ∀ j, j < 11 → Li L (5 + j) := fun j hj => by
        match j, hj with
        | 0, _ => exact h2 ⟨5, .data⟩ (by simp) rfl
        | 1, _ => exact h2 ⟨6, .data⟩ (by simp) rfl
        | 2, _ => exact h2 ⟨7, .data⟩ (by simp) rfl
        | 3, _ => exact h2 ⟨8, .data⟩ (by simp) rfl
        | 4, _ => exact h2 ⟨9, .data⟩ (by simp) rfl
        | 5, _ => exact h2 ⟨10, .data⟩ (by simp) rfl
        | 6, _ => exact h2 ⟨11, .data⟩ (by simp) rfl
        | 7, _ => exact h2 ⟨12, .data⟩ (by simp) rfl
        | 8, _ => exact h2 ⟨13, .data⟩ (by simp) rfl
        | 9, _ => exact h2 ⟨14, .data⟩ (by simp) rfl
        | 10, _ => exact h2 ⟨15, .data⟩ (by simp) rfl
      obtain ⟨m, hm⟩ : ∃ m : Nat → Nat, ∀ j, j < 11 → Sl a (12 + j) (.map (some (m j))) ∧ w.heap.size ≤ m j ∧ w1.heap[m j]? = some (.map #[] 0) := by
        have hex : ∀ j, j < 11 → ∃ b', Sl a (12 + j) (.map (some b')) ∧ w.heap.size ≤ b' ∧ w1.heap[b']? = some (.map #[] 0) := fun j hj => by
          obtain ⟨v, s, f⟩ := hV.fs (5 + j) (by omega) (hLm j hj)
          obtain ⟨b', rfl, f1, f2⟩ := (fact_map _ _ _ _ _ _ (5 + j) v w1 (by omega) (by omega)).1 f
          exact ⟨b', by rw [show 12 + j = 5 + j + 7 by omega]; exact s, f1, f2⟩
        exact ⟨fun j => if hj : j < 11 then (hex j hj).choose else 0, fun j hj => by simp only [dif_pos hj]; exact (hex j hj).choose_spec⟩
      have inj : ∀ i j, i < 11 → j < 11 → m i = m j → i = j := fun i j hi hj e => by
        apply Classical.byContradiction
        intro hne
        refine hV.dj (5 + i) (5 + j) (by omega) (by omega) (by omega) (by omega) (by omega) (hLm i hi) (hLm j hj) ?_
        have e1 : a.tmps[12 + i]? = _ := (hm i hi).1
        have e2 : a.tmps[12 + j]? = _ := (hm j hj).1
        rw [show 5 + i + 7 = 12 + i by omega, show 5 + j + 7 = 12 + j by omega, e1, e2, e]
      obtain rfl : v7 = rv sm si := f7
      obtain rfl : v11 = .int .i64 now := f11
      subst f10
      have t7 : a.tmps[7]? = _ := s7
      have t10 : a.tmps[10]? = _ := s10
      have t11 : a.tmps[11]? = _ := s11
      have m0 : a.tmps[12]? = _ := (hm 0 (by omega)).1
      have m1 : a.tmps[13]? = _ := (hm 1 (by omega)).1
      have m2 : a.tmps[14]? = _ := (hm 2 (by omega)).1
      have m3 : a.tmps[15]? = _ := (hm 3 (by omega)).1
      have m4 : a.tmps[16]? = _ := (hm 4 (by omega)).1
      have m5 : a.tmps[17]? = _ := (hm 5 (by omega)).1
      have m6 : a.tmps[18]? = _ := (hm 6 (by omega)).1
      have m7 : a.tmps[19]? = _ := (hm 7 (by omega)).1
      have m8 : a.tmps[20]? = _ := (hm 8 (by omega)).1
      have m9 : a.tmps[21]? = _ := (hm 9 (by omega)).1
      have m10 : a.tmps[22]? = _ := (hm 10 (by omega)).1
      refine wpOp_val rfl rfl (v := .agg (detC sm si now n g cap' m)) (w' := w1) ?_ (inv_step _ _ _ _ _ _ hV (i := 16) (by omega) (Below.refl _ _) _ ⟨g, cap', m, rfl, ⟨hg, hids, fun j hj => (hm j hj).2.1, fun j hj => (hm j hj).2.2, inj⟩⟩ (fun _ h => by omega))
      simp [go_sem, t7, t10, t11, m0, m1, m2, m3, m4, m5, m6, m7, m8, m9, m10, rv, detC]
    | 17, _ =>
      obtain rfl := Option.some.inj (show some _ = some o from ho)
      obtain ⟨v, s, g, cap', m, rfl, hD⟩ := hV.fs 16 (by omega) (h2 ⟨16, .data⟩ (by simp) rfl)
      have t : a.tmps[23]? = _ := s
      refine wpOp_val rfl rfl (v := .pointer (some ⟨w1.heap.size, 0, none⟩)) (w' := w1.alloc (.cells (detC sm si now n g cap' m) 58)) ?_ (inv_step _ _ _ _ _ _ hV (i := 17) (by omega) ((Below.refl _ _).alloc (Nat.le_refl _) _) _ ⟨w1.heap.size, g, cap', m, rfl, by have := hV.bel.size; simp at this; omega, (MapKept.heap_alloc w1 _).1, hD.mono ((Below.refl _ _).alloc (Nat.le_refl _) _)⟩ (fun _ h => by omega))
      simp [go_sem, t, detC]
    | 18, _ =>
      obtain rfl := Option.some.inj (show some _ = some o from ho)
      obtain ⟨v, s, hf⟩ := hV.fs 17 (by omega) (h2 ⟨17, .data⟩ (by simp) rfl)
      have t : a.tmps[24]? = _ := s
      refine wpOp_val rfl rfl (v := v) (w' := w1) (by simp [go_sem, t]) ?_
      refine ⟨by simp [hV.sz], by simp [Act.put, hV.ts], hV.df, hV.bel, hV.s1.put_ne (by omega), hV.s2.put_ne (by omega), ?_, ?_, ?_, ?_⟩
      · obtain ⟨bs, h3, h4, h5⟩ := hV.s3
        exact ⟨bs, h3.put_ne (by omega), h4, h5⟩
      · intro j hj hl
        obtain ⟨u, h3, h4⟩ := hV.fs j hj ((Li.set_ne (by omega)).1 hl)
        exact ⟨u, h3.put_ne (by omega), h4⟩
      · intro j k h3 h4 h5 h6 hne hj hk
        have e1 : ∀ x : Nat, x + 7 ≠ 6 → (a.put (some 6) v).tmps[x + 7]? = a.tmps[x + 7]? := fun x hx => by
          simp only [Act.put]; rw [Array.getElem?_setIfInBounds_ne (by omega)]
        show (a.put (some 6) v).tmps[j + 7]? ≠ (a.put (some 6) v).tmps[k + 7]?
        rw [e1 j (by omega), e1 k (by omega)]
        exact hV.dj j k h3 h4 h5 h6 hne ((Li.set_ne (by omega)).1 hj) ((Li.set_ne (by omega)).1 hk)
      · intro _
        exact ⟨v, Sl.put_same (by rw [hV.ts]; omega), hf⟩
  · intro L a w1 hV hr
    have hall := all_listed (ops := _) hV.sz (by kernel_rfl) hr
    obtain ⟨v, s, d, g, cap', m, rfl, hd, hcells, hD⟩ := hV.fin (hall 18 (by simp))
    have t : a.tmps[6]? = _ := s
    have hB0 : Below w.heap.size w w1 := hB1.trans (hV.bel.mono hB1.size)
    obtain ⟨tm, df⟩ := a
    obtain rfl : df = [] := hV.df
    go_wp2
    refine bodyPost_ret (v := .pointer (some ⟨d, 0, none⟩)) ?_ rfl ⟨d, rfl, g, cap', m, hd, hcells, hD, hB0⟩
    have t' : tm[6]? = some (.pointer (some ⟨d, 0, none⟩)) := t
    simp [results, Yba.results12, go_sem, t']
end Go.Proofs.Ybulkuyw
