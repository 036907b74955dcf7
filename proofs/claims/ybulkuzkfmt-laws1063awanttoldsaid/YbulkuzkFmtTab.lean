/-
  A REGION THAT DRAWS ITS ORDER, BY A TABLE: each operation leaves its own value in its own slot, whatever the order; what the world is hangs on which operations have come up.
-/
import Derived.Test.YbulkuzkFmtIo
import Derived.Orders
namespace Go.Proofs.YbulkuzkFmt
open Go.RowKit

def Li (L : Array Bool) (i : Nat) : Prop := L.getD i false = true
def Sl (a : Act) (j : Nat) (v : Value) : Prop := a.tmps[j]? = some v
theorem Sl.put_ne {a : Act} {j d : Nat} {v u : Value} (h : Sl a j u) (hne : j ≠ d) : Sl (a.put (some d) v) j u := by
  unfold Sl at *; simp only [Act.put]; rw [Array.getElem?_setIfInBounds_ne (Ne.symm hne)]; exact h
theorem Sl.put_same {a : Act} {d : Nat} {v : Value} (h : d < a.tmps.size) : Sl (a.put (some d) v) d v := by
  unfold Sl; simp [Act.put, h]
theorem Li.set_ne {L : Array Bool} {i j : Nat} (hne : j ≠ i) : Li (L.setIfInBounds i true) j ↔ Li L j := by
  unfold Li; rw [getD_set_ne false (Ne.symm hne)]
theorem Li.set_same {L : Array Bool} {i : Nat} (h : i < L.size) : Li (L.setIfInBounds i true) i := by
  unfold Li; simp [h]

section
variable {P : Program}
theorem wpOp_val {ops : Array Oper} {Q : Exit → Act → World → Prop} {i : Nat} {o : Oper} {a : Act} {w w' : World} {v : Value} {K : Act → World → Prop} (ho : ops[i]? = some o) (hg : o.guard = none)
    (hr : (execOp a.eval o).run P w = .ok (.value v) w') (h : K (a.put o.dst v) w') : wpOp P ops Q i K a w := by
  unfold wpOp
  simp only [ho]
  have hw : Region.wanted o (yielded ops a.tmps) = true := by simp [Region.wanted, hg]
  simp only [hw, if_true, Oper.wp, hr, Oper.upon]
  exact .inl h
theorem wpOp_enter {ops : Array Oper} {Q : Exit → Act → World → Prop} {i : Nat} {o : Oper} {a : Act} {w : World} {f : FuncId} {args : Array Value} {K : Act → World → Prop} (ho : ops[i]? = some o) (hg : o.guard = none)
    (hr : (execOp a.eval o).run P w = .ok (.enter f args) w) (h : Calls P f args w fun e w' => ∃ v, e = .returned v ∧ K (a.put o.dst v) w') : wpOp P ops Q i K a w := by
  unfold wpOp
  simp only [ho]
  have hw : Region.wanted o (yielded ops a.tmps) = true := by simp [Region.wanted, hg]
  simp only [hw, if_true, Oper.wp, hr, Oper.upon]
  refine .inl (h.mono ?_)
  rintro e w' ⟨v, rfl, hv⟩
  exact hv

theorem all_listed {ops : Array Oper} {L : Array Bool} (hsz : L.size = ops.size) (hlex : (List.range ops.size).all (fun i => match ops[i]? with | some o => o.after.all (fun e => !Region.binds .any e || decide (e.on < i)) | none => true) = true)
    (hr : Region.ready .any ops L = []) : ∀ i, i < ops.size → Li L i := by
  intro i
  induction i using Nat.strongRecOn with
  | ind i ih =>
    intro hi
    apply Classical.byContradiction
    intro hn
    obtain ⟨o, ho⟩ : ∃ o, ops[i]? = some o := ⟨ops[i], by simp [hi]⟩
    have hmem : i ∈ Region.ready .any ops L := by
      refine mem_ready.2 ⟨?_, o, ho, fun e he hbd => ?_⟩
      · unfold Li at hn
        have hiL : i < L.size := by omega
        simp [hiL] at hn ⊢
        exact hn
      · have h1 := List.all_eq_true.1 hlex i (List.mem_range.2 hi)
        rw [ho] at h1
        have h2 := Array.all_eq_true_iff_forall_mem.1 h1 e he
        have h3 : e.on < i := by simpa [hbd] using h2
        exact ih e.on h3 (by omega)
    rw [hr] at hmem
    cases hmem

theorem wpAny_inv {ops : Array Oper} {Q : Exit → Act → World → Prop} (I : Array Bool → Act → World → Prop)
    (hsz : ∀ L a w, I L a w → L.size = ops.size)
    (hstep : ∀ L a w i, I L a w → i ∈ Region.ready .any ops L → wpOp P ops Q i (I (L.setIfInBounds i true)) a w)
    (hend : ∀ L a w, I L a w → Region.ready .any ops L = [] → Q .normal a w) :
    ∀ (fuel : Nat) (L : Array Bool) (a : Act) (w : World), L.toList.count false ≤ fuel → I L a w → wpAny P .any ops Q fuel L a w
  | 0, L, a, w, hc, hI => by
    have h0 : Region.ready .any ops L = [] := by
      cases hr : Region.ready .any ops L with
      | nil => rfl
      | cons i r =>
        have hi : i ∈ Region.ready .any ops L := by rw [hr]; simp
        obtain ⟨h1, o, ho, _⟩ := mem_ready.1 hi
        have hlt : i < L.size := by rw [hsz L a w hI]; exact (Array.getElem?_eq_some_iff.1 ho).1
        have h2 : L[i] = false := by simpa [hlt] using h1
        have : 0 < L.toList.count false := List.count_pos_iff.2 (by rw [← h2]; exact List.mem_iff_getElem.2 ⟨i, by simpa using hlt, by simp⟩)
        omega
    exact ⟨h0, hend L a w hI h0⟩
  | fuel + 1, L, a, w, hc, hI => by
    refine ⟨hend L a w hI, fun i hi => ?_⟩
    obtain ⟨h1, o, ho, _⟩ := mem_ready.1 hi
    have hlt : i < L.size := by rw [hsz L a w hI]; exact (Array.getElem?_eq_some_iff.1 ho).1
    have h2 : L[i] = false := by simpa [hlt] using h1
    have hc' : (L.setIfInBounds i true).toList.count false ≤ fuel := by
      have e : (L.setIfInBounds i true).toList = L.toList.set i true := by simp
      rw [e, List.count_set (by simpa using hlt)]
      have : 0 < L.toList.count false := List.count_pos_iff.2 (by rw [← h2]; exact List.mem_iff_getElem.2 ⟨i, by simpa using hlt, by simp⟩)
      have e2 : L.toList[i]'(by simpa using hlt) = false := by simpa using h2
      rw [e2]
      simp only [beq_self_eq_true, if_true]
      have e3 : (true == false) = false := rfl
      rw [e3]
      simp only [Bool.false_eq_true, if_false]
      omega
    exact wpOp_mono (fun a' w' h => wpAny_inv I hsz hstep hend fuel _ a' w' hc' h) (hstep L a w i hI hi)

/-- the slots, one behind the other -/
def putAll : Act → List Nat → List Value → Act
  | a, d :: ds, v :: vs => putAll (a.put (some d) v) ds vs
  | a, _, _ => a
theorem putAll_defers : ∀ (ds : List Nat) (vs : List Value) (a : Act), (putAll a ds vs).defers = a.defers
  | [], _, _ => by simp [putAll]
  | _ :: _, [], _ => by simp [putAll]
  | d :: ds, v :: vs, a => by simp only [putAll]; rw [putAll_defers ds vs]; rfl
theorem putAll_size : ∀ (ds : List Nat) (vs : List Value) (a : Act), (putAll a ds vs).tmps.size = a.tmps.size
  | [], _, _ => by simp [putAll]
  | _ :: _, [], _ => by simp [putAll]
  | d :: ds, v :: vs, a => by simp only [putAll]; rw [putAll_size ds vs]; simp [Act.put]
theorem putAll_out : ∀ (ds : List Nat) (vs : List Value) (a : Act) (j : Nat), j ∉ ds → (putAll a ds vs).tmps[j]? = a.tmps[j]?
  | [], _, _, _, _ => by simp [putAll]
  | _ :: _, [], _, _, _ => by simp [putAll]
  | d :: ds, v :: vs, a, j, h => by
    simp only [putAll]
    rw [putAll_out ds vs _ j (fun h' => h (List.mem_cons_of_mem _ h'))]
    simp only [Act.put]
    rw [Array.getElem?_setIfInBounds_ne (fun e => h (by rw [e]; exact List.mem_cons_self))]
theorem putAll_in : ∀ (ds : List Nat) (vs : List Value) (a : Act) (i d : Nat) (v : Value), ds.Nodup → ds[i]? = some d → vs[i]? = some v → d < a.tmps.size → (putAll a ds vs).tmps[d]? = some v
  | [], _, _, _, _, _, _, h, _, _ => by simp at h
  | _ :: _, [], _, _, _, _, _, _, h, _ => by simp at h
  | d' :: ds, v' :: vs, a, 0, d, v, hn, h1, h2, hlt => by
    simp at h1 h2; subst h1 h2
    simp only [putAll]
    rw [putAll_out ds vs _ _ (List.nodup_cons.1 hn).1]
    exact Sl.put_same hlt
  | d' :: ds, v' :: vs, a, i + 1, d, v, hn, h1, h2, hlt => by
    simp only [putAll]
    exact putAll_in ds vs _ i d v (List.nodup_cons.1 hn).2 (by simpa using h1) (by simpa using h2) (by simpa [Act.put] using hlt)

/-- between two operations -/
structure TInv (ds : List Nat) (vs : List Value) (C : Array Bool → World → Prop) (a0 : Act) (L : Array Bool) (a : Act) (w : World) : Prop where
  sz : L.size = ds.length
  ts : a.tmps.size = a0.tmps.size
  df : a.defers = a0.defers
  out : ∀ j, j ∉ ds → a.tmps[j]? = a0.tmps[j]?
  fs : ∀ (i d : Nat) (v : Value), ds[i]? = some d → vs[i]? = some v → Li L i → a.tmps[d]? = some v
  cw : C L w

theorem wp_region_table {l : List Oper} {id : Nat} {Q : Exit → Act → World → Prop} {a : Act} {w : World} (ds : List Nat) (vs : List Value) (C : Array Bool → World → Prop) (hm : P.follows .mixedOrders = true)
    (hd : ds.length = l.length) (hv : vs.length = l.length) (hnd : ds.Nodup) (hlt : ∀ d ∈ ds, d < a.tmps.size)
    (hlex : (List.range l.toArray.size).all (fun i => match l.toArray[i]? with | some o => o.after.all (fun e => !Region.binds .any e || decide (e.on < i)) | none => true) = true)
    (h0 : C (Array.replicate l.toArray.size false) w.drew)
    (hstep : ∀ L b w i, TInv ds vs C a L b w → i ∈ Region.ready .any l.toArray L → ∀ d v, ds[i]? = some d → vs[i]? = some v → wpOp P l.toArray Q i (fun b' w' => b' = b.put (some d) v ∧ C (L.setIfInBounds i true) w') b w)
    (hend : ∀ L w, C L w → (∀ i, i < l.length → Li L i) → Q .normal (putAll a ds vs) w) : (Code.region id l.toArray true).wp P Q a w := by
  refine wp_region_any hm (wpAny_inv (TInv ds vs C a) (fun L b w h => by rw [h.sz, hd]; simp) ?_ ?_ l.toArray.size _ a w.drew (by simp) ?_)
  · intro L b w i hI hi
    have hil : i < l.length := by
      obtain ⟨_, o, ho, _⟩ := mem_ready.1 hi
      have := (Array.getElem?_eq_some_iff.1 ho).1
      simpa using this
    obtain ⟨d, hdi⟩ : ∃ d, ds[i]? = some d := ⟨ds[i]'(by omega), by simp [hd, hil]⟩
    obtain ⟨v, hvi⟩ : ∃ v, vs[i]? = some v := ⟨vs[i]'(by omega), by simp [hv, hil]⟩
    refine wpOp_mono ?_ (hstep L b w i hI hi d v hdi hvi)
    rintro b' w' ⟨rfl, hC⟩
    have hdm : d ∈ ds := List.mem_of_getElem? hdi
    refine ⟨by simp [hI.sz], by simp [Act.put, hI.ts], hI.df, ?_, ?_, hC⟩
    · intro j hj
      simp only [Act.put]
      rw [Array.getElem?_setIfInBounds_ne (fun e => hj (by rw [← e]; exact hdm))]
      exact hI.out j hj
    · intro k d' v' h1 h2 hl
      by_cases e : k = i
      · subst e
        obtain rfl : d = d' := Option.some.inj (hdi.symm.trans h1)
        obtain rfl : v = v' := Option.some.inj (hvi.symm.trans h2)
        exact Sl.put_same (by rw [hI.ts]; exact hlt d hdm)
      · have hne : d' ≠ d := fun e' => e (by
          subst e'
          obtain ⟨g1, g2⟩ := List.getElem?_eq_some_iff.1 h1
          obtain ⟨g3, g4⟩ := List.getElem?_eq_some_iff.1 hdi
          have hp := List.pairwise_iff_getElem.1 hnd
          rcases Nat.lt_trichotomy k i with h | h | h
          · exact absurd (g2.trans g4.symm) (hp k i g1 g3 h)
          · exact h
          · exact absurd (g4.trans g2.symm) (hp i k g3 g1 h))
        exact Sl.put_ne (hI.fs k d' v' h1 h2 ((Li.set_ne e).1 hl)) hne
  · intro L b w hI hr
    have hall := all_listed (by rw [hI.sz, hd]; simp) hlex hr
    have hb : b = putAll a ds vs := by
      have e1 : b.tmps = (putAll a ds vs).tmps := by
        apply Array.ext_getElem?
        intro j
        by_cases hj : j ∈ ds
        · obtain ⟨i, hi, he⟩ := List.mem_iff_getElem.1 hj
          have hdi : ds[i]? = some j := by rw [← he]; simp
          obtain ⟨v, hvi⟩ : ∃ v, vs[i]? = some v := ⟨vs[i]'(by omega), by simp [hv, ← hd, hi]⟩
          rw [hI.fs i j v hdi hvi (hall i (by simp; omega)), putAll_in ds vs a i j v hnd hdi hvi (hlt j hj)]
        · rw [hI.out j hj, putAll_out ds vs a j hj]
      have e2 : b.defers = (putAll a ds vs).defers := by rw [hI.df, putAll_defers]
      cases b
      simp only at e1 e2
      rw [e1, e2]
    rw [hb]
    exact hend L w hI.cw (fun i hi => hall i (by simpa using hi))
  · refine ⟨by simp [hd], rfl, rfl, fun _ _ => rfl, ?_, h0⟩
    intro i d v _ _ hl
    exfalso
    unfold Li at hl
    rw [getD_replicate_false] at hl
    cases hl
end
end Go.Proofs.YbulkuzkFmt
