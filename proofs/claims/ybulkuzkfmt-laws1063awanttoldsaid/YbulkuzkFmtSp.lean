/-
  THE PLAIN SIDE: the spans that the law makes of its numbers; a row that is filled in place.
-/
import Derived.Test.YbulkuzkFmtLend
namespace Go.Proofs.YbulkuzkFmt
open Go.RowKit

def nxt (cur x : Nat) : Nat := cur + x % 256 + x / 256 + 2
/-- where span k may begin -/
def curs (xs : List Nat) (k : Nat) : Nat := (xs.take k).foldl nxt 1
def loK (xs : List Nat) (k : Nat) : Nat := curs xs k + xs.getD k 0 % 256
def hiK (xs : List Nat) (k : Nat) : Nat := loK xs k + xs.getD k 0 / 256
def spans (xs : List Nat) : List (Nat × Nat) := (List.range xs.length).map fun k => (loK xs k, hiK xs k)
theorem spans_length (xs : List Nat) : (spans xs).length = xs.length := by simp [spans]
theorem spans_get {xs : List Nat} {k : Nat} (h : k < xs.length) : (spans xs)[k]? = some (loK xs k, hiK xs k) := by simp [spans, h]
theorem curs_succ {xs : List Nat} {k : Nat} (h : k < xs.length) : curs xs (k + 1) = hiK xs k + 2 := by
  unfold curs hiK loK curs
  rw [List.take_add_one, List.foldl_append]
  simp [h, nxt]
theorem curs_zero (xs : List Nat) : curs xs 0 = 1 := by simp [curs]
theorem curs_pos (xs : List Nat) : ∀ k, k ≤ xs.length → 1 ≤ curs xs k
  | 0, _ => by rw [curs_zero]; omega
  | k + 1, h => by
    rw [curs_succ (by omega)]; omega
theorem curs_le {xs : List Nat} (hx : ∀ x ∈ xs, x < 65536) : ∀ k, k ≤ xs.length → curs xs k ≤ 1 + 512 * k
  | 0, _ => by rw [curs_zero]; omega
  | k + 1, h => by
    have := curs_le hx k (by omega)
    rw [curs_succ (by omega)]
    have hk : xs.getD k 0 < 65536 := by
      have : xs.getD k 0 = xs[k]'(by omega) := by simp [List.getD, (show k < xs.length by omega)]
      rw [this]; exact hx _ (List.getElem_mem _)
    unfold hiK loK
    have h1 := Nat.mod_lt (xs.getD k 0) (show 0 < 256 by decide)
    have h2 : xs.getD k 0 / 256 < 256 := by omega
    omega
theorem getD_lt {xs : List Nat} (hx : ∀ x ∈ xs, x < 65536) (k : Nat) : xs.getD k 0 < 65536 := by
  by_cases h : k < xs.length
  · have : xs.getD k 0 = xs[k] := by simp [List.getD, h]
    rw [this]; exact hx _ (List.getElem_mem _)
  · have : xs.getD k 0 = 0 := by simp [List.getD, h]
    omega
theorem hiK_le {xs : List Nat} (hx : ∀ x ∈ xs, x < 65536) {k : Nat} (h : k < xs.length) : hiK xs k ≤ 1 + 512 * (k + 1) := by
  have := curs_le hx (k + 1) (by omega)
  rw [curs_succ h] at this
  omega
theorem spans_asc {xs : List Nat} (hx : ∀ x ∈ xs, x < 65536) (hl : xs.length ≤ 1024) : Asc (spans xs) := by
  intro k s hs
  have hk : k < xs.length := by have := (List.getElem?_eq_some_iff.1 hs).1; rwa [spans_length] at this
  rw [spans_get hk] at hs
  cases hs
  have h1 := curs_pos xs k (by omega)
  have h2 := hiK_le hx hk
  refine ⟨by show 1 ≤ loK xs k; unfold loK; omega, by show loK xs k ≤ hiK xs k; unfold hiK; omega, by show hiK xs k < _; omega, fun p hp hs => ?_⟩
  have hk' : k - 1 < xs.length := by omega
  rw [spans_get hk'] at hs
  cases hs
  have := curs_succ hk'
  rw [show k - 1 + 1 = k by omega] at this
  show hiK xs (k - 1) + 1 < loK xs k
  unfold loK
  omega

/-- the bytes behind k rounds -/
def bufK (mc : Nat) (xs : List Nat) (k : Nat) : List UInt8 := Lib.beBytes 8 mc ++ (Lib.beBytes 2 xs.length ++ enc ((spans xs).take k))
theorem bufK_succ (mc : Nat) {xs : List Nat} {k : Nat} (h : k < xs.length) : bufK mc xs (k + 1) = (bufK mc xs k ++ Lib.beBytes 8 (loK xs k)) ++ Lib.beBytes 8 (hiK xs k) := by
  unfold bufK
  rw [take_span (spans_get h)]
  simp [enc]
theorem bufK_end (mc : Nat) (xs : List Nat) : bufK mc xs xs.length = payload mc (spans xs) := by
  unfold bufK payload
  rw [List.take_of_length_le (by rw [spans_length]; exact Nat.le_refl _), spans_length]
theorem byteCells_append (a b : List UInt8) : Lib.byteCells (a ++ b) = Lib.byteCells a ++ Lib.byteCells b := by simp [Lib.byteCells]

/-- the cells of block g begin with xs; there is room for cap -/
def Fill (w : World) (g : Nat) (e : TypeId) (cap : Nat) (xs : List Value) : Prop := ∃ cur : Array Value, w.heap[g]? = some (.cells cur e (0, 0)) ∧ cur.size = cap ∧ xs.length ≤ cap ∧ cur.toList.take xs.length = xs
theorem Fill.lt {w : World} {g cap : Nat} {e : TypeId} {xs : List Value} (h : Fill w g e cap xs) : g < w.heap.size := by
  obtain ⟨cur, h1, _⟩ := h
  exact (Array.getElem?_eq_some_iff.1 h1).1
theorem Fill.keep {w w' : World} {g cap : Nat} {e : TypeId} {xs : List Value} (h : Fill w g e cap xs) (hb : w'.heap[g]? = w.heap[g]?) : Fill w' g e cap xs := by
  obtain ⟨cur, h1, h2⟩ := h
  exact ⟨cur, hb.trans h1, h2⟩
theorem Fill.cell {w : World} {g cap : Nat} {e : TypeId} {xs : List Value} (h : Fill w g e cap xs) {j : Nat} {v : Value} (hj : xs[j]? = some v) : w.cell? ⟨g, j, none⟩ = some v := by
  obtain ⟨cur, h1, h2, h3, h4⟩ := h
  have hl := (List.getElem?_eq_some_iff.1 hj).1
  rw [cell_of_row w g j cur e (0, 0) h1]
  rw [← h4, List.getElem?_take_of_lt hl] at hj
  simpa using hj
/-- one more, in place -/
theorem Fill.push {w : World} {g cap : Nat} {e : TypeId} {xs : List Value} (h : Fill w g e cap xs) (t ty : TypeId) (i : TypeInfo) (ht : Ybaf.prog.underlying t = some (.slice e)) (hi : Ybaf.prog.info? e = some i) (hsz : i.size = 1) (hroom : xs.length < cap)
    (a : Addr) (c : Nat) (v : Value) (hv : w.cell? a = some v) (h1 : v.oneCell' = true) :
    ∃ w', (Builtin.append_ #[t, t] ty #[.slice (some ⟨g, 0, none⟩) xs.length cap, .slice (some a) 1 c]).run Ybaf.prog w = .ok (.slice (some ⟨g, 0, none⟩) (xs.length + 1) cap) w' ∧ Fill w' g e cap (xs ++ [v]) ∧ w.grownBy w' (some g) := by
  obtain ⟨cur, hg, hc, hl, ht'⟩ := h
  have hr := run_append_room (P := Ybaf.prog) w t ty e i ht hi g xs.length cap cur hg a 1 c [v] (by rw [hsz]; rfl) (fun j u hj => by
    match j, hj with
    | 0, hj => simp at hj; subst hj; simpa [Addr.add] using hv) (by simpa using h1) hroom (by rw [hsz, hc]; simp; omega)
  refine ⟨_, hr, ⟨_, setRow_heap w g cur _ e _ hg, ?_, by simp; omega, ?_⟩, ⟨rfl, rfl, rfl, by simp [World.setRow], fun k _ hk => setRow_other w g k _ (fun e => hk (by rw [e]))⟩⟩
  · rw [hsz]; simp; omega
  · rw [hsz, Nat.mul_one, ht']
    have e1 : (xs ++ [v]).length = xs.length + 1 := by simp
    rw [e1]

    rw [List.take_append_of_le_length (by simp)]
    rw [List.take_of_length_le (by simp)]
end Go.Proofs.YbulkuzkFmt
