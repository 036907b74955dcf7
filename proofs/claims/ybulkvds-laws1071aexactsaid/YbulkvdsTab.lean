import Derived.Test.YbulkvdsRows
import Derived.WalkKit
import Derived.WalkSpells
import Derived.WalkLawsBesides
import Derived.Deep.QuietTactic
import Derived.BigQuiet
import Derived.StillTailTactics
import Derived.Maps.RangeWalk
namespace Go.Proofs.Ybulkvds
open Go.RowKit
open Go.Maps

theorem law : Keyed Yba.prog 2 := int_keyed Yba.underlying2
theorem mixed : Yba.prog.follows .mixedOrders = true := by kernel_rfl

theorem run_makeMap_hint (w : World) (n : Int) : (Instr.makeMap 24 (some (.int .i64 n))).run Yba.prog w = .ok (.map (some w.heap.size)) (w.alloc (.map #[] 0)) := by
  simp [Instr.makeMap, run_underlying Yba.underlying24, asInt, asIntOf]

/-- WHAT THE WALK KNOWS OF A SLICE OF INTS: where it has an element it has an address. -/
def Rd (w : World) (a : Option Addr) (len : Nat) (zs : List Int) : Prop :=
  len ≤ zs.length ∧ (0 < len → ∃ b off, a = some ⟨b, off, none⟩ ∧ b < w.heap.size ∧ ∀ i, i < len → w.cell? ⟨b, off + i, none⟩ = some (.int .i64 (zs[i]?.getD 0)))

/-- the keys of D are the first k numbers -/
def Keys (D : DataW Unit) (zs : List Int) (k : Nat) : Prop := ∀ kl, Maps.has D kl = true ↔ ∃ j, j < k ∧ kl = .int .i64 (zs[j]?.getD 0)

theorem keys_start (zs : List Int) : Keys (.map []) zs 0 := fun kl => by
  constructor
  · intro h; cases h
  · rintro ⟨j, hj, _⟩; omega

theorem keys_put {D : DataW Unit} {zs : List Int} {k : Nat} (h : Keys D zs k) (hD : IsMap D) (d : DataW Unit) : Keys (D.put (.int .i64 (zs[k]?.getD 0)) d) zs (k + 1) := fun kl => by
  by_cases e : kl = .int .i64 (zs[k]?.getD 0)
  · subst e
    rw [has_put_same hD (by trivial)]
    exact ⟨fun _ => ⟨k, by omega, rfl⟩, fun _ => rfl⟩
  · rw [has_put_other e, h kl]
    constructor
    · rintro ⟨j, hj, he⟩; exact ⟨j, by omega, he⟩
    · rintro ⟨j, hj, he⟩
      by_cases ej : j = k
      · subst ej; exact absurd he e
      · exact ⟨j, by omega, he⟩

/-- the table as it is built -/
def Tab (w w' : World) (B : Nat) (zs : List Int) (k : Nat) : Prop :=
  ∃ D : DataW Unit, w'.ownsMap Yba.prog 2 (plainElem Yba.prog 3) B k D ∧ Keys D zs k ∧ Below w.heap.size w w'

/-- the table in the making: all but the map is as it was in W1 -/
def St (W1 wr : World) (B : Nat) (zs : List Int) (k : Nat) : Prop :=
  ∃ D : DataW Unit, wr.ownsMap Yba.prog 2 (plainElem Yba.prog 3) B k D ∧ Keys D zs k ∧ W1.grownBy wr (some B)

theorem tab_start {w W1 : World} {read scan : Int} {zs : List Int} (h : W1 = ((w.alloc (Obj.cells #[.int .i64 0, .int .i64 0, .map none] 26)).alloc (Obj.map #[] 0)).alloc (Obj.cells #[.int .i64 read, .int .i64 scan, .map (some (w.heap.size + 1))] 26)) :
    (W1.heap.size = w.heap.size + 3 ∧ Below w.heap.size w W1 ∧ (∀ (j : Nat) v, #[Value.int .i64 0, .int .i64 0, .map none][j]? = some v → W1.cell? ⟨w.heap.size, j, none⟩ = some v) ∧ (∀ j, W1.frozen? ⟨w.heap.size, j, none⟩ = false) ∧
      (∀ (j : Nat) v, #[Value.int .i64 read, .int .i64 scan, .map (some (w.heap.size + 1))][j]? = some v → W1.cell? ⟨w.heap.size + 2, j, none⟩ = some v)) ∧ St W1 W1 (w.heap.size + 1) zs 0 := by
  subst h
  refine ⟨⟨by simp, ((((Below.refl _ _).alloc (Nat.le_refl _) _).alloc (by simp) _).alloc (by simp; omega) _), fun j v hj => ?_, fun j => ?_, fun j v hj => ?_⟩, .map [], ?_, keys_start zs, ⟨rfl, rfl, rfl, Nat.le_refl _, fun _ _ _ => rfl⟩⟩
  · rw [World.cell?_alloc_past _ _ _ (by simp; omega), World.cell?_alloc_past _ _ _ (by simp), World.cell?_alloc_at _ _ _ _ rfl]; exact hj
  · rw [World.frozen?_alloc_past _ _ _ (by simp; omega), World.frozen?_alloc_past _ _ _ (by simp), World.frozen?_alloc_at _ _ _ _ rfl]
  · rw [World.cell?_alloc_at _ _ _ _ (by simp)]; exact hj
  · have := World.ownsMap_made (H := Unit) (w.alloc (Obj.cells #[.int .i64 0, .int .i64 0, .map none] 26)) Yba.prog 2 (plainElem Yba.prog 3)
    simp only [World.size_alloc] at this
    exact this.alloc _

theorem kept_cell {w wr : World} {bc : Nat} (h : w.grownBy wr (some bc)) {b o : Nat} {v : Value} (hc : w.cell? ⟨b, o, none⟩ = some v) (hb : b ≠ bc) : wr.cell? ⟨b, o, none⟩ = some v :=
  (World.cell?_of_block (w := w) (h.block b (World.block_lt_of_cell? w _ hc) (by simpa using hb))).trans hc
theorem kept_frozen {w wr : World} {bc : Nat} (h : w.grownBy wr (some bc)) {b o : Nat} {v : Value} (hc : w.cell? ⟨b, o, none⟩ = some v) (hb : b ≠ bc) : wr.frozen? ⟨b, o, none⟩ = w.frozen? ⟨b, o, none⟩ :=
  World.frozen?_of_block (w := w) (h.block b (World.block_lt_of_cell? w _ hc) (by simpa using hb))

theorem grown_step {W1 wr w1 : World} {B : Nat} (h : W1.grownBy wr (some B)) (h1 : wr.drew.grownBy w1 (some B)) : W1.grownBy w1 (some B) :=
  ⟨h1.os.trans h.os, h1.tape.trans h.tape, h1.output.trans h.output, Nat.le_trans h.size h1.size, fun i hi hne => (h1.block i (Nat.lt_of_lt_of_le hi h.size) hne).trans (h.block i hi hne)⟩

theorem cso {w : World} {a b : Addr} {v : Value} (h : a ≠ b) : (w.setCell a v).cell? b = w.cell? b := World.cell?_setCell_other w a b v h
theorem css {w : World} {a : Addr} {v u : Value} (h : w.cell? a = some u) : (w.setCell a v).cell? a = some v := World.cell?_setCell_same w a v h
theorem set3 {w : World} {b : Nat} {u0 u1 u2 : Value} (h0 : w.cell? ⟨b, 0, none⟩ = some u0) (h1 : w.cell? ⟨b, 1, none⟩ = some u1) (h2 : w.cell? ⟨b, 2, none⟩ = some u2) (v0 v1 v2 : Value) :
    (((w.setCell ⟨b, 0, none⟩ v0).setCell ⟨b, 1, none⟩ v1).setCell ⟨b, 2, none⟩ v2).cell? ⟨b, 0, none⟩ = some v0 ∧ (((w.setCell ⟨b, 0, none⟩ v0).setCell ⟨b, 1, none⟩ v1).setCell ⟨b, 2, none⟩ v2).cell? ⟨b, 1, none⟩ = some v1 ∧
    (((w.setCell ⟨b, 0, none⟩ v0).setCell ⟨b, 1, none⟩ v1).setCell ⟨b, 2, none⟩ v2).cell? ⟨b, 2, none⟩ = some v2 := by
  refine ⟨?_, ?_, ?_⟩
  · rw [cso (by simp), cso (by simp), css h0]
  · rw [cso (by simp), css (u := u1)]; rw [cso (by simp)]; exact h1
  · rw [css (u := u2)]; rw [cso (by simp), cso (by simp)]; exact h2

set_option maxHeartbeats 400000 in
theorem build_any (read scan : Int) (a : Option Addr) (len cap : Nat) (zs : List Int) (a' : Option Addr) (len' cap' : Nat) (zs' : List Int) (w : World) (hl : len ≤ 1024) (hr : Rd w a len zs) (hr' : Rd w a' len' zs')
    (hwz : ∀ j : Nat, (Lit.int .i64 (zs[j]?.getD 0)).wf = true) (hwz' : ∀ j : Nat, (Lit.int .i64 (zs'[j]?.getD 0)).wf = true) (hl' : len' ≤ maxLen) :
    Calls Yba.prog 5 #[.int .i64 read, .int .i64 scan, .slice a len cap, .slice a' len' cap'] w fun e w' => e = .returned (.agg #[.int .i64 read, .int .i64 scan, .map (some (w.heap.size + 1))]) ∧ Tab w w' (w.heap.size + 1) zs len := by
  have hmm := run_makeMap_hint
  have hll : (len : Int) ≤ 1024 := by omega
  unfold maxLen at hl'
  go_enter Yba.func5, Yba.ntmps5
  go_wp2
  obtain ⟨W1, hW1⟩ : ∃ W1, W1 = ((w.alloc (Obj.cells #[.int .i64 0, .int .i64 0, .map none] 26)).alloc (Obj.map #[] 0)).alloc (Obj.cells #[.int .i64 read, .int .i64 scan, .map (some (w.heap.size + 1))] 26) := ⟨_, rfl⟩
  obtain ⟨hs0, hst⟩ := tab_start hW1
  rw [← hW1]
  go_loopw [10] (fun i wr => ∃ k : Nat, k ≤ len ∧ i = .int .i64 k ∧ St W1 wr (w.heap.size + 1) zs k) (fun i _ => len - (intOf i).toNat)
  case atStart => exact ⟨0, Nat.zero_le _, rfl, hst⟩
  case round =>
    obtain ⟨k, hk, rfl, hS⟩ := hrel
    clear hst hmm
    obtain ⟨D, hown, hkeys, hg⟩ := hS
    obtain ⟨hsz, hBw, hc0, hf0, hc2⟩ := hs0
    have d0 : wr.cell? ⟨w.heap.size + 1 + 1, 0, none⟩ = some (.int .i64 read) := kept_cell hg (hc2 0 _ rfl) (by omega)
    have d1 : wr.cell? ⟨w.heap.size + 1 + 1, 1, none⟩ = some (.int .i64 scan) := kept_cell hg (hc2 1 _ rfl) (by omega)
    have d2 : wr.cell? ⟨w.heap.size + 1 + 1, 2, none⟩ = some (.map (some (w.heap.size + 1))) := kept_cell hg (hc2 2 _ rfl) (by omega)
    by_cases hlt : k < len
    · have hlt' : (k : Int) < (len : Int) := by omega
      obtain ⟨ba, off, rfl, hba, hc⟩ := hr.2 (by omega)
      have hck : wr.cell? ⟨ba, off + k, none⟩ = some (.int .i64 (zs[k]?.getD 0)) := kept_cell hg ((hBw.cell (p := ⟨ba, off + k, none⟩) hba).trans (hc k hlt)) (by omega)
      have hwk := hwz k
      by_cases hlt2 : k < len'
      · have hlt2' : (k : Int) < (len' : Int) := by omega
        obtain ⟨bb, off', rfl, hbb, hcc⟩ := hr'.2 (by omega)
        have hck' : wr.cell? ⟨bb, off' + k, none⟩ = some (.int .i64 (zs'[k]?.getD 0)) := kept_cell hg ((hBw.cell (p := ⟨bb, off' + k, none⟩) hbb).trans (hcc k hlt2)) (by omega)
        have hwk' := hwz' k
        go_wp2
        go_still_tail 7, mixed
        refine wpList_mapUpdate_own _ rfl _ _ _ 24 rfl 2 3 law Yba.underlying24 _ (w.heap.size + 1) k D rfl hown.drew (by unfold maxLen; omega) _ _ _ rfl rfl (keyOf_int_mk Yba.underlying2 hwk) _ [] (plainElem_int Yba.underlying3 hwk') ?_
        intro w1 hown1 hg1
        go_wp2
        go_roundw
        case rel => exact ⟨k + 1, by omega, by go_num, _, hown1, keys_put hkeys hown.isMap _, grown_step hg hg1⟩
        case measure => simp [intOf]; omega
      · have hlt2' : ¬ (k : Int) < (len' : Int) := by omega
        go_wp2
        go_still_tail 7, mixed
        refine wpList_mapUpdate_own _ rfl _ _ _ 24 rfl 2 3 law Yba.underlying24 _ (w.heap.size + 1) k D rfl hown.drew (by unfold maxLen; omega) _ _ _ rfl rfl (keyOf_int_mk Yba.underlying2 hwk) _ [] (plainElem_int Yba.underlying3 (by decide)) ?_
        intro w1 hown1 hg1
        go_wp2
        go_roundw
        case rel => exact ⟨k + 1, by omega, by go_num, _, hown1, keys_put hkeys hown.isMap _, grown_step hg hg1⟩
        case measure => simp [intOf]; omega
    · have hlt' : ¬ (k : Int) < (len : Int) := by omega
      have r0 : wr.cell? ⟨w.heap.size, 0, none⟩ = some (.int .i64 0) := kept_cell hg (hc0 0 _ rfl) (by omega)
      have r1 : wr.cell? ⟨w.heap.size, 1, none⟩ = some (.int .i64 0) := kept_cell hg (hc0 1 _ rfl) (by omega)
      have r2 : wr.cell? ⟨w.heap.size, 2, none⟩ = some (.map none) := kept_cell hg (hc0 2 _ rfl) (by omega)
      have f0 : wr.frozen? ⟨w.heap.size, 0, none⟩ = false := (kept_frozen hg (hc0 0 _ rfl) (by omega)).trans (hf0 0)
      have f1 : wr.frozen? ⟨w.heap.size, 1, none⟩ = false := (kept_frozen hg (hc0 1 _ rfl) (by omega)).trans (hf0 1)
      have f2 : wr.frozen? ⟨w.heap.size, 2, none⟩ = false := (kept_frozen hg (hc0 2 _ rfl) (by omega)).trans (hf0 2)
      go_wp2
      obtain ⟨q0, q1, q2⟩ := set3 r0 r1 r2 (.int .i64 read) (.int .i64 scan) (.map (some (w.heap.size + 1)))
      obtain rfl : k = len := by omega
      refine bodyPost_ret (v := .agg #[.int .i64 read, .int .i64 scan, .map (some (w.heap.size + 1))]) (by simp [results, Yba.results5, go_sem, q0, q1, q2]) rfl ⟨rfl, D, ((hown.setCell (by simp) _).setCell (by simp) _).setCell (by simp) _, hkeys, ?_⟩
      exact (((hBw.grown hg hBw.size (fun j hj => by cases hj; omega)).setCell (p := ⟨w.heap.size, 0, none⟩) (Nat.le_refl _) _).setCell (p := ⟨w.heap.size, 1, none⟩) (Nat.le_refl _) _).setCell (p := ⟨w.heap.size, 2, none⟩) (Nat.le_refl _) _

/-- what needed answers -/
def Need (D : DataW Unit) (scan m : Int) : Prop :=
  (Maps.size D = 0 ∧ m = 9223372036854775807) ∨ (Maps.size D ≠ 0 ∧ m ≤ scan ∧ (m = scan ∨ Maps.has D (.int .i64 m) = true) ∧ ∀ x : Int, Maps.has D (.int .i64 x) = true → m ≤ x)

/-- what has been seen is no lower -/
def Low (D : DataW Unit) (scan m : Int) (left : Lit → Bool) : Prop :=
  m ≤ scan ∧ (m = scan ∨ Maps.has D (.int .i64 m) = true) ∧ ∀ x : Int, Maps.has D (.int .i64 x) = true → left (.int .i64 x) = false → m ≤ x
theorem low_start (D : DataW Unit) (scan : Int) : Low D scan scan (Maps.has D) := ⟨Int.le_refl _, Or.inl rfl, fun x h1 h2 => by rw [h1] at h2; cases h2⟩
theorem low_step {D : DataW Unit} {scan m x m' : Int} {left : Lit → Bool} (h : Low D scan m left) (hx : Maps.has D (.int .i64 x) = true) (hm : m' = min m x) : Low D scan m' (fun z => left z && !z.sameKey (.int .i64 x)) := by
  obtain ⟨h1, h2, h3⟩ := h
  refine ⟨by omega, ?_, fun y hy hl => ?_⟩
  · by_cases e : m ≤ x
    · rw [show m' = m by omega]; exact h2
    · rw [show m' = x by omega]; exact Or.inr hx
  · by_cases e : y = x
    · omega
    · have hne : (Lit.int .i64 y).sameKey (.int .i64 x) = false := Maps.sameKey_ne (fun e1 => e (by injection e1))
      have : left (.int .i64 y) = false := by simpa [hne] using hl
      have := h3 y hy this
      omega
theorem low_end {D : DataW Unit} {scan m : Int} {left : Lit → Bool} (h : Low D scan m left) (hz : Maps.size D ≠ 0) (hl : ∀ kl, left kl = false) : Need D scan m :=
  Or.inr ⟨hz, h.1, h.2.1, fun x hx => h.2.2 x hx (hl _)⟩

set_option maxHeartbeats 400000 in
theorem needed_any (read scan : Int) (b n : Nat) (D : DataW Unit) (w : World) (hown : w.ownsMap Yba.prog 2 (plainElem Yba.prog 3) b n D) :
    Calls Yba.prog 6 #[.agg #[.int .i64 read, .int .i64 scan, .map (some b)]] w fun e w' => (∃ m : Int, e = .returned (.int .i64 m) ∧ Need D scan m) ∧ Below w.heap.size w w' := by
  have hblt := hown.lt
  by_cases hz : Maps.size D = 0
  · have hz' : ((Maps.size D : Int) == 0) = true := by rw [hz]; rfl
    go_enter Yba.func6, Yba.ntmps6
    go_wp2_with (first | (at_len; refine wpList_len_own _ rfl _ 24 rfl 2 3 Yba.underlying24 _ b n D rfl (hown.alloc _) ?_) | go_in)
    go_ret
    exact ⟨⟨_, rfl, Or.inl ⟨hz, rfl⟩⟩, (Below.refl _ _).alloc (Nat.le_refl _) _⟩
  · have hz' : ((Maps.size D : Int) == 0) = false := by rw [beq_eq_false_iff_ne]; omega
    go_enter Yba.func6, Yba.ntmps6
    go_wp2_with (first | (at_len; refine wpList_len_own _ rfl _ 24 rfl 2 3 Yba.underlying24 _ b n D rfl (hown.alloc _) ?_) | (at_range; refine wpList_range_own _ rfl _ 24 rfl 2 3 law Yba.underlying24 _ b n D rfl (hown.alloc _) ?_; intro w0 hrg0 hg0 hs0) | go_in)
    go_frame
    have e1 : (w.alloc (Obj.cells #[.int .i64 read, .int .i64 scan, .map (some b)] 26)).heap.size = w.heap.size + 1 := by simp
    rw [e1] at hrg0 hs0 ⊢
    have hB0 : Below w.heap.size w w0 := ((Below.refl _ w).alloc (Nat.le_refl _) _).grown hg0 (by simp) (fun k hk => by cases hk)
    clear hz' hs0 hg0 hown
    go_loopw [3] (fun nd wr => ∃ (m : Int) (left : Lit → Bool) (cnt : Nat), nd = .int .i64 m ∧ wr.ranges Yba.prog 2 (plainElem Yba.prog 3) b (w.heap.size + 1) n D left cnt ∧ Low D scan m left ∧ Below w.heap.size w wr) (fun _ wr => wr.rangeLeft b (w.heap.size + 1))
    case atStart => exact ⟨scan, _, _, rfl, hrg0, low_start D scan, hB0⟩
    case round =>
      obtain ⟨m, left, cnt, rfl, hrg, hlow, hB⟩ := hrel
      clear hrg0 hB0
      go_wp2_with (first | (at_next; refine wpList_next_ranges_ii _ rfl _ rfl 2 3 .i64 .i64 law Yba.underlying2 Yba.underlying3 b (w.heap.size + 1) n D left cnt rfl hrg ?_ ?_) | go_in)
      · intro _ hl0
        go_wp2
        go_ret
        exact ⟨⟨_, rfl, low_end hlow hz hl0⟩, hB⟩
      · intro x c w1 cnt1 hwx hwc hlx hat hrg1 hlt hg1 hs1 hen
        have hx := has_true_of_atKey hat
        have hB1 : Below w.heap.size w w1 := hB.grown hg1 (by have := hB.size; omega) (fun k hk => by cases hk; omega)
        by_cases hmx : m ≤ x
        all_goals
          go_wp2
          go_roundw
          case rel => exact ⟨_, _, _, rfl, hrg1, low_step hlow hx (by omega), hB1⟩
          case measure => rw [hrg1.left_eq, hrg.left_eq]; exact hlt

end Go.Proofs.Ybulkvds
