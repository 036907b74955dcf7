/-
  WALK: slices.Sorted[int](slices.Values(ids)) (function 19): a new slice that holds the numbers in rising order.
-/
import Derived.Test.YbulkuywIter
import Derived.Test.YbulkuywShelf
import Derived.Sort.OwnSortedInts
namespace Go.Proofs.Ybulkuyw
open Go.RowKit Go.Sort

/-- the members' ids as the law lays them: n-1, .., 0 -/
def down (n : Nat) : List Int := (List.range n).map fun (j : Nat) => (n : Int) - 1 - (j : Int)
/-- .. and sorted -/
def upl (n : Nat) : List Int := (List.range n).map fun (j : Nat) => (j : Int)

theorem sort_down (n : Nat) (h : n ≤ 6) : (down n).mergeSort (fun x y => decide (x ≤ y)) = upl n := by
  refine List.Perm.eq_of_pairwise (le := fun a b : Int => a ≤ b) (fun a b _ _ h1 h2 => by omega) ?_ ?_ ?_
  · have := List.pairwise_mergeSort (le := fun x y : Int => decide (x ≤ y)) (fun a b c h1 h2 => by simp at *; omega) (fun a b => by simp; omega) (down n)
    exact this.imp (fun h => by simpa using h)
  · match n, h with
    | 0, _ => decide
    | 1, _ => decide
    | 2, _ => decide
    | 3, _ => decide
    | 4, _ => decide
    | 5, _ => decide
    | 6, _ => decide
  · refine (List.mergeSort_perm _ _).trans ?_
    match n, h with
    | 0, _ => decide
    | 1, _ => decide
    | 2, _ => decide
    | 3, _ => decide
    | 4, _ => decide
    | 5, _ => decide
    | 6, _ => decide

set_option maxHeartbeats 400000 in
theorem sorted_any (Bs b off cap n : Nat) (w : World) (hn : 1 ≤ n) (hn6 : n ≤ 6)
    (hBs : Bs < w.heap.size) (hc : w.cell? ⟨Bs, 0, none⟩ = some (.slice (some ⟨b, off, none⟩) n cap)) (hb : b < w.heap.size) (hI : ∀ j, j < n → w.cell? ⟨b, off + j, none⟩ = some (.int .i64 ((n : Int) - 1 - j))) :
    Calls Yba.prog 19 #[.func (.func 28) #[] #[.pointer (some ⟨Bs, 0, none⟩)]] w fun e W' => ∃ g cap', e = .returned (.slice (some ⟨g, 0, none⟩) n cap') ∧ w.heap.size ≤ g ∧ (∀ j, j < n → W'.cell? ⟨g, j, none⟩ = some (.int .i64 (j : Int))) ∧ Below w.heap.size w W' := by
  have hl : (down n).length = n := by simp [down]
  have hcol := collect_any Bs b off cap (down n) (by rw [hl]; unfold maxLen; omega) (by rw [hl]; omega) w hBs (by rw [hl]; exact hc) hb (by
    rw [hl]; intro j hj; rw [hI j hj]; simp [down, hj])
  go_enter Yba.func19, Yba.ntmps19
  go_wp2_with fail
  refine hcol.mono ?_
  rintro e W1 ⟨v, rfl, hrow, hnil, hB⟩
  rcases hrow.2 with ⟨hv, h0⟩ | ⟨g, cap1, cur, rfl, hbase, hgb, h1, h2, h3, h4⟩
  · omega
  · have hH := holds_of_blockI (ss := down n) hgb (by simpa using h4)
    have hS := Yba.slices_Sort_int g 0 cap1 (down n) W1 hH (Array.getElem?_eq_some_iff.1 hgb).1 (by rw [hl]; omega)
    rw [sort_down n hn6, hl] at hS
    rw [hl]
    clear hcol hrow hnil
    go_wp2_with fail
    refine hS.mono ?_
    rintro e W2 ⟨rfl, nn, os, rfl⟩
    have hown := ownsRow_sortedI (n := nn) (os := os) (ts := upl n) (ss := down n) (by simp [upl, down]) hbase hgb h1 h2 h3
    have hgr := grownBy_sortedI (w := W1) (g := g) (n := nn) (os := os) (upl n).toArray
    have hB2 := hB.grown hgr hB.size (fun j hj => by cases hj; exact hbase)
    rw [hl] at hown
    generalize grow (putRow (Value.int .i64) (Sort.ahead W1 nn) g 0 (upl n).toArray) os = W2 at *
    clear hS
    go_wp2_with fail
    go_ret
    refine ⟨g, cap1, rfl, hbase, fun j hj => ?_, hB2⟩
    have := hown.cellAt j (by omega)
    rw [this]
    simp [upl, hj]
end Go.Proofs.Ybulkuyw
