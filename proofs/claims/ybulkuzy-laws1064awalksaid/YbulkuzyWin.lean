import Derived.Test.YbulkuzyMatch
namespace Go.Proofs.Ybulkuzy
open Go.RowKit
theorem info31 : (Yba.prog.info? 31).map (fun i => (i.zero, i.size, i.bytes)) = some (some (.pointer none), 1, 8) := by kernel_rfl
theorem info23 : (Yba.prog.info? 23).map (fun i => (i.zero, i.size, i.bytes)) = some (some (.int .u64 0), 1, 8) := by kernel_rfl
theorem info42 : (Yba.prog.info? 42).map (fun i => (i.size, i.bytes)) = some (14, 160) := by kernel_rfl
theorem info42z : ∃ z i, Yba.prog.info? 42 = some i ∧ i.zero = some z ∧ i.size = 14 ∧ i.bytes = 160 := by
  have h : (Yba.prog.info? 42).map (fun i => (i.zero.isSome, i.size, i.bytes)) = some (true, 14, 160) := by kernel_rfl
  cases hi : Yba.prog.info? 42 with
  | none => rw [hi] at h; cases h
  | some i =>
    rw [hi] at h
    simp only [Option.map_some, Option.some.injEq, Prod.mk.injEq] at h
    obtain ⟨z, hz⟩ := Option.isSome_iff_exists.1 h.1
    exact ⟨z, i, rfl, hz, h.2.1, h.2.2⟩

/-- the hs row's cells -/
def hsCells (z : Value) : Array Value := madeCells z.cells (64 * 14)

/-- bit i of the mask, as the walk writes it -/
def bt (mask : Int) (i : Nat) : Bool := (bits BinOp.and IntKind.u64 (mask / 2 ^ i) 1 == 1)

/-- the place of position i in the slots -/
def pos (next : Int) (i : Nat) : Nat := ((next + i) % 64).toNat
theorem pos_lt (next : Int) (i : Nat) : pos next i < 64 := by unfold pos; omega
theorem pos_inj {next : Int} {i j : Nat} (hi : i < 64) (hj : j < 64) (h : pos next i = pos next j) : i = j := by unfold pos at h; omega

/-- WHAT THE SLOTS HOLD when the positions below k have been laid: row B + 1, the packets in row B -/
def Slots (w : World) (B : Nat) (next mask : Int) (k : Nat) : Prop :=
  ∀ i, i < 64 → w.cell? ⟨B + 1, pos next i, none⟩ = some (.pointer (if i < k ∧ bt mask i = true then some ⟨B, i * 14, none⟩ else none)) ∧ w.frozen? ⟨B + 1, pos next i, none⟩ = false

theorem slots_start (w : World) (next mask : Int) (o : Obj) : Slots ((w.alloc o).alloc (.cells (madeCells #[.pointer none] 64) 31)) w.heap.size next mask 0 := by
  intro i hi
  have hp := pos_lt next i
  have hs : (w.alloc o).heap.size = w.heap.size + 1 := by simp
  constructor
  · rw [World.cell?_alloc_at _ _ _ _ hs.symm]
    simp [madeCells, hp, Nat.mod_one]
  · rw [World.frozen?_alloc_at _ _ _ _ hs.symm]

theorem slots_set {w : World} {B : Nat} {next mask : Int} {k : Nat} (h : Slots w B next mask k) (hk : k < 64) (hb : bt mask k = true) :
    Slots (w.setCell ⟨B + 1, pos next k, none⟩ (.pointer (some ⟨B, k * 14, none⟩))) B next mask (k + 1) := by
  intro i hi
  refine ⟨?_, by rw [World.frozen?_setCell]; exact (h i hi).2⟩
  by_cases e : i = k
  · subst e
    rw [css (h i hi).1, if_pos ⟨by omega, hb⟩]
  · rw [cso (fun e1 => e (pos_inj hi hk (by injection e1 with _ e2; exact e2.symm))), (h i hi).1]
    have : (i < k ∧ bt mask i = true) ↔ (i < k + 1 ∧ bt mask i = true) := ⟨fun ⟨a, b⟩ => ⟨by omega, b⟩, fun ⟨a, b⟩ => ⟨by omega, b⟩⟩
    simp only [this]

theorem slots_skip {w : World} {B : Nat} {next mask : Int} {k : Nat} (h : Slots w B next mask k) (hb : bt mask k = false) : Slots w B next mask (k + 1) := by
  intro i hi
  refine ⟨?_, (h i hi).2⟩
  rw [(h i hi).1]
  by_cases e : i = k
  · subst e; simp [hb]
  · have : (i < k ∧ bt mask i = true) ↔ (i < k + 1 ∧ bt mask i = true) := ⟨fun ⟨a, b⟩ => ⟨by omega, b⟩, fun ⟨a, b⟩ => ⟨by omega, b⟩⟩
    simp only [this]

/-- how many bits below k are set -/
def cnt (mask : Int) : Nat → Nat
  | 0 => 0
  | k + 1 => cnt mask k + if bt mask k then 1 else 0
theorem cnt_le (mask : Int) : ∀ k, cnt mask k ≤ k
  | 0 => Nat.le_refl _
  | k + 1 => by have := cnt_le mask k; rw [cnt]; split <;> omega

/-- THE WINDOW AS IT IS BUILT -/
def Win (w w' : World) (next mask : Int) (n : Nat) : Prop :=
  Below w.heap.size w w' ∧ w'.heap.size = w.heap.size + 4 ∧ w'.cell? ⟨w.heap.size + 3, 7, none⟩ = some (.int .u16 next) ∧ w'.cell? ⟨w.heap.size + 3, 8, none⟩ = some (.int .u16 (IntKind.u16.wrap (next + n))) ∧
  w'.cell? ⟨w.heap.size + 3, 9, none⟩ = some (.slice (some ⟨w.heap.size + 1, 0, none⟩) 64 64) ∧ w'.cell? ⟨w.heap.size + 3, 10, none⟩ = some (.int .i64 (cnt mask (n + 1))) ∧ Slots w' w.heap.size next mask (n + 1)

theorem slots_kept {w w' : World} {B : Nat} {next mask : Int} {k : Nat} (h : Slots w B next mask k) (hc : ∀ i, w'.cell? ⟨B + 1, i, none⟩ = w.cell? ⟨B + 1, i, none⟩) (hf : ∀ i, w'.frozen? ⟨B + 1, i, none⟩ = w.frozen? ⟨B + 1, i, none⟩) : Slots w' B next mask k :=
  fun i hi => ⟨by rw [hc]; exact (h i hi).1, by rw [hf]; exact (h i hi).2⟩

theorem win_made {w wr : World} {next mask : Int} {n : Nat} (hS : Slots wr w.heap.size next mask (n + 1)) (hB : Below w.heap.size w wr) (hsz : wr.heap.size = w.heap.size + 2) (o : Obj) :
    Win w ((wr.alloc o).alloc (Obj.cells #[.int .i64 0, .int .i64 0, .int .i64 0, .int .i64 0, .bool true, .int .i64 0, .int .u16 63, .int .u16 next, .int .u16 (IntKind.u16.wrap (next + n)),
      .slice (some ⟨w.heap.size + 1, 0, none⟩) 64 64, .int .i64 (cnt mask (n + 1)), .int .i64 0, .bool false, .slice (some ⟨w.heap.size + 2, 0, none⟩) 1 1, .pointer none, .bool false, .slice none 0 0, .slice none 0 0, .slice none 0 0] 48)) next mask n := by
  have h3 : w.heap.size + 3 = (wr.alloc o).heap.size := by simp [hsz]
  refine ⟨(hB.alloc (by omega) _).alloc (by simp; omega) _, by simp [hsz], ?_, ?_, ?_, ?_, ?_⟩
  · rw [World.cell?_alloc_at _ _ _ _ h3]; rfl
  · rw [World.cell?_alloc_at _ _ _ _ h3]; rfl
  · rw [World.cell?_alloc_at _ _ _ _ h3]; rfl
  · rw [World.cell?_alloc_at _ _ _ _ h3]; rfl
  · refine slots_kept hS (fun i => ?_) (fun i => ?_)
    · rw [World.cell?_alloc_past _ _ _ (by simp; omega), World.cell?_alloc_past _ _ _ (by omega)]
    · rw [World.frozen?_alloc_past _ _ _ (by simp; omega), World.frozen?_alloc_past _ _ _ (by omega)]

set_option maxHeartbeats 400000 in
theorem wbuild_any (next mask : Int) (n : Nat) (w : World) (hn : n ≤ 63) (h0 : 0 ≤ next ∧ next ≤ 65535) :
    Calls Yba.prog 7 #[.int .u16 next, .int .i64 n, .int .u64 mask] w fun e w' => e = .returned (.tuple #[.pointer (some ⟨w.heap.size + 3, 0, none⟩), .slice (some ⟨w.heap.size, 0, none⟩) 64 64]) ∧ Win w w' next mask n := by
  obtain ⟨z, i0, hi, hz0, hz1, hz2⟩ := info42z
  obtain ⟨i1, hi1, hy0, hy1, hy2⟩ := info_parts info31
  obtain ⟨i2, hi2, hx0, hx1, hx2⟩ := info_parts info23
  have hmk := fun w : World => run_make (P := Yba.prog) w 25 42 i0 _ Yba.underlying25 hi hz0 .i64 .i64 64 64 (by omega) (by omega) (by rw [hz2]; omega) (by omega)
  have hmk1 := fun w : World => run_make (P := Yba.prog) w 44 31 i1 _ Yba.underlying44 hi1 hy0 .i64 .i64 64 64 (by omega) (by omega) (by rw [hy2]; omega) (by omega)
  have hmk2 := fun w : World => run_make (P := Yba.prog) w 45 23 i2 _ Yba.underlying45 hi2 hx0 .i64 .i64 1 1 (by omega) (by omega) (by rw [hx2]; omega) (by omega)
  rw [hz1] at hmk
  rw [hy1] at hmk1
  rw [hx1] at hmk2
  simp only [Int.reduceToNat] at hmk hmk1 hmk2
  change ∀ w : World, _ = Result.ok _ (w.alloc (Obj.cells (hsCells z) 42)) at hmk
  have hn' : (n : Int) ≤ 63 := by omega
  have hst := slots_start w next mask (Obj.cells (hsCells z) 42)
  go_enter Yba.func7, Yba.ntmps7
  go_wp2
  go_loopw [10, 11] (fun h i wr => ∃ (k : Nat), k ≤ n + 1 ∧ i = .int .i64 k ∧ h = .int .i64 (cnt mask k) ∧ Slots wr w.heap.size next mask k ∧ Below w.heap.size w wr ∧ wr.heap.size = w.heap.size + 2) (fun _ i _ => n + 1 - (intOf i).toNat)
  case atStart => exact ⟨0, Nat.zero_le _, rfl, rfl, hst, ((Below.refl _ _).alloc (Nat.le_refl _) _).alloc (by simp) _, by simp⟩
  case round =>
    obtain ⟨k, hk, rfl, rfl, hS, hB, hsz⟩ := hrel
    clear hst hmk hmk1
    have hcl := cnt_le mask k
    by_cases hlt : k ≤ n
    · have hlt' : (k : Int) ≤ (n : Int) := by omega
      have ⟨hck, hfk⟩ := hS k (by omega)
      change wr.cell? ⟨w.heap.size + 1, ((next + (k : Int)) % 64).toNat, none⟩ = _ at hck
      change wr.frozen? ⟨w.heap.size + 1, ((next + (k : Int)) % 64).toNat, none⟩ = _ at hfk
      have hbk : (bits BinOp.and IntKind.u64 (mask / 2 ^ k) 1 == 1) = bt mask k := rfl
      cases hb : bt mask k with
      | true =>
        go_wp2
        go_roundw
        case rel => exact ⟨k + 1, by omega, by go_num, by rw [cnt, hb]; go_num, slots_set hS (by omega) hb, hB.setCell (p := ⟨w.heap.size + 1, pos next k, none⟩) (by simp) _, by simp [hsz]⟩
        case measure => simp [intOf]; omega
      | false =>
        go_wp2
        go_roundw
        case rel => exact ⟨k + 1, by omega, by go_num, by rw [cnt, hb]; go_num, slots_skip hS hb, hB, hsz⟩
        case measure => simp [intOf]; omega
    · have hlt' : ¬ (k : Int) ≤ (n : Int) := by omega
      go_wp2
      go_ret2
      obtain rfl : k = n + 1 := by omega
      exact ⟨rfl, win_made hS hB hsz _⟩
end Go.Proofs.Ybulkuzy
