import Derived.Test.YbulkuzyRows
import Derived.WalkKit
import Derived.WalkSpells
import Derived.WalkLawsBesides
import Derived.Deep.QuietTactic
import Derived.BigQuiet
namespace Go.Proofs.Ybulkuzy
open Go.RowKit

theorem info63 : (Yba.prog.info? 63).map (fun i => (i.zero, i.size, i.bytes)) = some (some (.agg #[.int .u16 0, .int .i16 0]), 2, 4) := by kernel_rfl

theorem cso {w : World} {a b : Addr} {v : Value} (h : a ≠ b) : (w.setCell a v).cell? b = w.cell? b := World.cell?_setCell_other w a b v h
theorem css {w : World} {a : Addr} {v u : Value} (h : w.cell? a = some u) : (w.setCell a v).cell? a = some v := World.cell?_setCell_same w a v h

/-- a made row: each cell is one of the zero's cells -/
theorem made_cell (w : World) (z : Array Value) (n : Nat) (t : TypeId) (j : Nat) (hj : j < n) : (w.alloc (.cells (madeCells z n) t)).cell? ⟨w.heap.size, j, none⟩ = some (z[j % z.size]!) := by
  simp [madeCells, hj]
theorem made_frozen (w : World) (z : Array Value) (n : Nat) (t : TypeId) (j : Nat) : (w.alloc (.cells (madeCells z n) t)).frozen? ⟨w.heap.size, j, none⟩ = false := by
  simp

/-- WHAT THE WALK KNOWS OF THE SLICE: where it has an element it has an address. -/
def Rd (w : World) (a : Option Addr) (len : Nat) (zs : List Int) : Prop :=
  len ≤ zs.length ∧ (0 < len → ∃ b off, a = some ⟨b, off, none⟩ ∧ b < w.heap.size ∧ ∀ i, i < len → w.cell? ⟨b, off + i, none⟩ = some (.int .u16 (zs[i]?.getD 0)))

/-- What the build's loop has laid: the first k packets of block B. -/
def Laid (w : World) (B n k : Nat) (zs : List Int) : Prop :=
  (∀ j, j < k → w.cell? ⟨B, j * 2, none⟩ = some (.int .u16 (zs[j]?.getD 0)) ∧ ∃ d, w.cell? ⟨B, j * 2 + 1, none⟩ = some (.int .i16 d)) ∧
  (∀ j, j < n * 2 → ∃ v, w.cell? ⟨B, j, none⟩ = some v) ∧ (∀ j, w.frozen? ⟨B, j, none⟩ = false)

theorem laid_start (w : World) (n : Nat) (zs : List Int) (z : Array Value) (t : TypeId) : Laid (w.alloc (.cells (madeCells z (n * 2)) t)) w.heap.size n 0 zs :=
  ⟨fun j hj => absurd hj (Nat.not_lt_zero j), fun j hj => ⟨_, made_cell w z _ t j hj⟩, fun j => made_frozen w z _ t j⟩

theorem laid_step {w : World} {B n k : Nat} {zs : List Int} (h : Laid w B n k zs) (hk : k < n) (d : Int) :
    Laid ((w.setCell ⟨B, k * 2, none⟩ (.int .u16 (zs[k]?.getD 0))).setCell ⟨B, k * 2 + 1, none⟩ (.int .i16 d)) B n (k + 1) zs := by
  obtain ⟨h1, h2, h3⟩ := h
  obtain ⟨v0, hv0⟩ := h2 (k * 2) (by omega)
  obtain ⟨v1, hv1⟩ := h2 (k * 2 + 1) (by omega)
  have ne01 : (⟨B, k * 2, none⟩ : Addr) ≠ ⟨B, k * 2 + 1, none⟩ := by simp
  have oth : ∀ j u0 u1, j ≠ k * 2 → j ≠ k * 2 + 1 → ((w.setCell ⟨B, k * 2, none⟩ u0).setCell ⟨B, k * 2 + 1, none⟩ u1).cell? ⟨B, j, none⟩ = w.cell? ⟨B, j, none⟩ := fun j u0 u1 e0 e1 => by
    rw [cso (fun e => e1 (by injection e with _ e2; exact e2.symm)), cso (fun e => e0 (by injection e with _ e2; exact e2.symm))]
  have c0 : ((w.setCell ⟨B, k * 2, none⟩ (.int .u16 (zs[k]?.getD 0))).setCell ⟨B, k * 2 + 1, none⟩ (.int .i16 d)).cell? ⟨B, k * 2, none⟩ = some (.int .u16 (zs[k]?.getD 0)) := by
    rw [cso (by simp), css hv0]
  have c1 : ((w.setCell ⟨B, k * 2, none⟩ (.int .u16 (zs[k]?.getD 0))).setCell ⟨B, k * 2 + 1, none⟩ (.int .i16 d)).cell? ⟨B, k * 2 + 1, none⟩ = some (.int .i16 d) := by
    rw [css (u := v1)]
    rw [cso ne01]; exact hv1
  refine ⟨fun j hj => ?_, fun j hj => ?_, fun j => by simp [h3]⟩
  · by_cases e : j = k
    · subst e; exact ⟨c0, d, c1⟩
    · obtain ⟨g1, d', g2⟩ := h1 j (by omega)
      exact ⟨by rw [oth _ _ _ (by omega) (by omega)]; exact g1, d', by rw [oth _ _ _ (by omega) (by omega)]; exact g2⟩
  · by_cases e0 : j = k * 2
    · subst e0; exact ⟨_, c0⟩
    · by_cases e1 : j = k * 2 + 1
      · subst e1; exact ⟨_, c1⟩
      · rw [oth _ _ _ e0 e1]; exact h2 j hj

/-- the message built: its seven cells, its packets -/
def Made (w w' : World) (base count : Int) (len : Nat) (zs : List Int) : Prop :=
  Below w.heap.size w w' ∧ w'.heap.size = w.heap.size + 2 ∧ w'.cell? ⟨w.heap.size + 1, 2, none⟩ = some (.int .u16 base) ∧ w'.cell? ⟨w.heap.size + 1, 3, none⟩ = some (.int .u16 count) ∧
  w'.cell? ⟨w.heap.size + 1, 6, none⟩ = some (.slice (some ⟨w.heap.size, 0, none⟩) len len) ∧
  ∀ j, j < len → w'.cell? ⟨w.heap.size, j * 2, none⟩ = some (.int .u16 (zs[j]?.getD 0)) ∧ ∃ d, w'.cell? ⟨w.heap.size, j * 2 + 1, none⟩ = some (.int .i16 d)

theorem made_ptr {w wr : World} {len : Nat} {zs : List Int} (hL : Laid wr w.heap.size len len zs) (hB : Below w.heap.size w wr) (hsz : wr.heap.size = w.heap.size + 1) (base count : Int) :
    Made w (wr.alloc (Obj.cells #[.int .u32 0, .int .u32 0, .int .u16 base, .int .u16 count, .int .i32 0, .int .u8 0, .slice (some ⟨w.heap.size, 0, none⟩) len len] 65)) base count len zs := by
  refine ⟨hB.alloc (by omega) _, by simp [hsz], ?_, ?_, ?_, fun j hj => ?_⟩
  · rw [World.cell?_alloc_at _ _ _ _ hsz.symm]; rfl
  · rw [World.cell?_alloc_at _ _ _ _ hsz.symm]; rfl
  · rw [World.cell?_alloc_at _ _ _ _ hsz.symm]; rfl
  · obtain ⟨g1, d, g2⟩ := hL.1 j hj
    exact ⟨by rw [World.cell?_alloc_past _ _ _ (by omega)]; exact g1, d, by rw [World.cell?_alloc_past _ _ _ (by omega)]; exact g2⟩

set_option maxHeartbeats 400000 in
theorem build_any (base count : Int) (a : Option Addr) (len cap : Nat) (zs : List Int) (w : World) (hl : len ≤ 1024) (hr : Rd w a len zs) :
    Calls Yba.prog 11 #[.int .u16 base, .int .u16 count, .slice a len cap] w fun e w' => e = .returned (.pointer (some ⟨w.heap.size + 1, 0, none⟩)) ∧ Made w w' base count len zs := by
  obtain ⟨i0, hi, hz0, hz1, hz2⟩ := info_parts info63
  have hmk := run_make (P := Yba.prog) w 60 63 i0 _ Yba.underlying60 hi hz0 .i64 .i64 len len (by omega) (by omega) (by rw [hz2]; omega) (by omega)
  rw [hz1] at hmk
  simp only [Int.toNat_natCast] at hmk
  have hll : (len : Int) ≤ 1024 := by omega
  have hst := laid_start w len zs #[Value.int IntKind.u16 0, Value.int IntKind.i16 0] 63
  go_enter Yba.func11, Yba.ntmps11
  go_wp2
  go_loopw [15] (fun i wr => ∃ k : Nat, k ≤ len ∧ i = .int .i64 k ∧ Laid wr w.heap.size len k zs ∧ Below w.heap.size w wr ∧ wr.heap.size = w.heap.size + 1) (fun i _ => len - (intOf i).toNat)
  case atStart => exact ⟨0, Nat.zero_le _, rfl, hst, (Below.refl _ _).alloc (Nat.le_refl _) _, by simp⟩
  case round =>
    obtain ⟨k, hk, rfl, hL, hB, hsz⟩ := hrel
    clear hmk hst
    by_cases hlt : k < len
    · obtain ⟨b, off, rfl, hb, hc⟩ := hr.2 (by omega)
      have hck : wr.cell? ⟨b, off + k, none⟩ = some (.int .u16 (zs[k]?.getD 0)) := (hB.cell (p := ⟨b, off + k, none⟩) hb).trans (hc k hlt)
      have hlt' : (k : Int) < (len : Int) := by omega
      obtain ⟨v0, hv0⟩ := hL.2.1 (k * 2) (by omega)
      obtain ⟨v1, hv1⟩ := hL.2.1 (k * 2 + 1) (by omega)
      have f0 := hL.2.2 (k * 2)
      have f1 := hL.2.2 (k * 2 + 1)
      go_wp2
      go_roundw
      case rel => exact ⟨k + 1, by omega, by go_num, laid_step hL hlt _, (hB.setCell (p := ⟨w.heap.size, k * 2, none⟩) (Nat.le_refl _) _).setCell (p := ⟨w.heap.size, k * 2 + 1, none⟩) (Nat.le_refl _) _, by simp [hsz]⟩
      case measure => simp [intOf]; omega
    · have hlt' : ¬ (k : Int) < (len : Int) := by omega
      go_wp2
      go_ret
      obtain rfl : k = len := by omega
      exact ⟨rfl, made_ptr hL hB hsz base count⟩

/-- a place: the offset from the base, mod 65536, as the walk writes it -/
def plc (base : Int) (zs : List Int) (i : Nat) : Int := IntKind.u16.wrap (zs[i]?.getD 0 - base)
theorem plc_bd (base : Int) (zs : List Int) (i : Nat) : 0 ≤ plc base zs i ∧ plc base zs i ≤ 65535 := by
  unfold plc; rw [IntKind.wrap_u16]; omega

/-- what receivedInOrder says -/
def ordFrom (base count : Int) (zs : List Int) : Nat → Nat → Int → Bool
  | 0, _, _ => true
  | m + 1, k, next => if plc base zs k < next ∨ count ≤ plc base zs k then false else ordFrom base count zs m (k + 1) (plc base zs k + 1)

theorem ord_stop {base count : Int} {zs : List Int} {len k : Nat} {nx : Int} (hk : k < len) (h : plc base zs k < nx ∨ count ≤ plc base zs k) : ordFrom base count zs (len - k) k nx = false := by
  obtain ⟨m, hm⟩ : ∃ m, len - k = m + 1 := ⟨len - k - 1, by omega⟩
  rw [hm, ordFrom, if_pos h]
theorem ord_go {base count : Int} {zs : List Int} {len k : Nat} {nx : Int} (hk : k < len) (h1 : nx ≤ plc base zs k) (h2 : plc base zs k < count) :
    ordFrom base count zs (len - k) k nx = ordFrom base count zs (len - (k + 1)) (k + 1) (plc base zs k + 1) := by
  obtain ⟨m, hm⟩ : ∃ m, len - k = m + 1 := ⟨len - k - 1, by omega⟩
  rw [hm, ordFrom, if_neg (by omega), show len - (k + 1) = m by omega]

theorem cell_lt {w : World} {a : Addr} {v : Value} (h : w.cell? a = some v) : a.block < w.heap.size := World.block_lt_of_cell? w a h
theorem ret_bool {a b : Bool} (h : a = b) : Ending.returned (.bool a) = .returned (.bool b) := by rw [h]

set_option maxHeartbeats 400000 in
theorem order_any (base count : Int) (len : Nat) (zs : List Int) (w w0 : World) (hl : len ≤ 1024) (hw : Made w0 w base count len zs) (hcn : 0 ≤ count ∧ count ≤ 65535) (hzs : ∀ j : Nat, 0 ≤ zs[j]?.getD 0 ∧ zs[j]?.getD 0 ≤ 65535) :
    Calls Yba.prog 12 #[.pointer (some ⟨w0.heap.size + 1, 0, none⟩)] w fun e w' => e = .returned (.bool (ordFrom base count zs len 0 0)) ∧ Below w.heap.size w w' := by
  obtain ⟨hB, hsz0, c2, c3, c6, hcs⟩ := hw
  have hsz : w0.heap.size + 1 < w.heap.size := by omega
  clear hsz0 hB
  go_enter Yba.func12, Yba.ntmps12
  go_wp2
  go_loopw [3, 12] (fun n i wr => ∃ (k : Nat) (nx : Int), k ≤ len ∧ i = .int .i64 k ∧ n = .int .i64 nx ∧ 0 ≤ nx ∧ nx ≤ 65536 ∧ ordFrom base count zs (len - k) k nx = ordFrom base count zs len 0 0 ∧ Below w.heap.size w wr) (fun _ i _ => len - (intOf i).toNat)
  case atStart => exact ⟨0, 0, Nat.zero_le _, rfl, rfl, by omega, by omega, rfl, Below.refl _ _⟩
  case round =>
    obtain ⟨k, nx, hk, rfl, rfl, hn0, hn1, hor, hB'⟩ := hrel
    have C2 : wr.cell? ⟨w0.heap.size + 1, 2, none⟩ = some (.int .u16 base) := (hB'.cell (p := ⟨w0.heap.size + 1, 2, none⟩) hsz).trans c2
    have C3 : wr.cell? ⟨w0.heap.size + 1, 3, none⟩ = some (.int .u16 count) := (hB'.cell (p := ⟨w0.heap.size + 1, 3, none⟩) hsz).trans c3
    have HO : Hid (ordFrom base count zs (len - k) k nx = ordFrom base count zs len 0 0) := hor
    clear c2 c3 c6 hor
    by_cases hlt : k < len
    · obtain ⟨g1, d, g2⟩ := hcs k hlt
      have G1 : wr.cell? ⟨w0.heap.size, k * 2, none⟩ = some (.int .u16 (zs[k]?.getD 0)) := (hB'.cell (p := ⟨w0.heap.size, k * 2, none⟩) (by simp; omega)).trans g1
      have G2 : wr.cell? ⟨w0.heap.size, k * 2 + 1, none⟩ = some (.int .i16 d) := (hB'.cell (p := ⟨w0.heap.size, k * 2 + 1, none⟩) (by simp; omega)).trans g2
      have hlt' : (k : Int) < (len : Int) := by omega
      have hz := hzs k
      have hs : w0.heap.size + 1 < wr.heap.size := by have := hB'.size; omega
      have hp : IntKind.u16.wrap (zs[k]?.getD 0 - base) = plc base zs k := rfl
      have hpb := plc_bd base zs k
      clear g1 g2 hcs
      go_wp2
      go_quiet (fail)
      go_wp2
      · go_ret
        have h : plc base zs k < nx ∨ count ≤ plc base zs k := by assumption
        exact ⟨ret_bool (by rw [← HO.out, ord_stop hlt h]), below_drewN (hB'.alloc hB'.size _) _⟩
      · go_roundw
        case rel =>
          have h : nx ≤ plc base zs k ∧ plc base zs k < count := by assumption
          exact ⟨k + 1, plc base zs k + 1, by omega, by go_num, rfl, by omega, by omega, by rw [← HO.out, ← ord_go hlt h.1 h.2], below_drewN (hB'.alloc hB'.size _) _⟩
        case measure => simp [intOf]; omega
      · go_ret
        have h : plc base zs k < nx := by assumption
        exact ⟨ret_bool (by rw [← HO.out, ord_stop hlt (Or.inl h)]), below_drewN (hB'.alloc hB'.size _) _⟩
    · have hlt' : ¬ (k : Int) < (len : Int) := by omega
      go_wp2
      go_ret
      exact ⟨ret_bool (by rw [← HO.out, show len - k = 0 by omega]; rfl), hB'⟩


/-! the plain law -/
def Good (base count : Int) (zs : List Int) (len k : Nat) : Prop := ∀ a, a < k → plc base zs a < count ∧ ∀ c, a < c → c < len → plc base zs a < plc base zs c

theorem ord_iff (base count : Int) (zs : List Int) : ∀ (m k : Nat) (nx : Int), ordFrom base count zs m k nx = true ↔
    ∀ a, k ≤ a → a < k + m → nx ≤ plc base zs a ∧ plc base zs a < count ∧ ∀ c, a < c → c < k + m → plc base zs a < plc base zs c
  | 0, k, nx => by simp only [ordFrom, true_iff]; intro a h1 h2; omega
  | m + 1, k, nx => by
    rw [ordFrom]
    by_cases h : plc base zs k < nx ∨ count ≤ plc base zs k
    · rw [if_pos h]
      constructor
      · intro e; cases e
      · intro H; have := H k (Nat.le_refl _) (by omega); omega
    · rw [if_neg h, ord_iff base count zs m (k + 1) (plc base zs k + 1)]
      constructor
      · intro H a h1 h2
        by_cases e : a = k
        · subst e
          exact ⟨by omega, by omega, fun c h3 h4 => by have := (H c (by omega) (by omega)).1; omega⟩
        · obtain ⟨g1, g2, g3⟩ := H a (by omega) (by omega)
          exact ⟨by omega, g2, fun c h3 h4 => g3 c h3 (by omega)⟩
      · intro H a h1 h2
        obtain ⟨g1, g2, g3⟩ := H a (by omega) (by omega)
        exact ⟨by have := (H k (Nat.le_refl _) (by omega)).2.2 a (by omega) (by omega); omega, g2, fun c h3 h4 => g3 c h3 (by omega)⟩

theorem ord_good (base count : Int) (zs : List Int) (len : Nat) : ordFrom base count zs len 0 0 = true ↔ Good base count zs len len := by
  rw [ord_iff]
  constructor
  · intro H a h
    obtain ⟨_, g2, g3⟩ := H a (Nat.zero_le _) (by omega)
    exact ⟨g2, fun c h1 h2 => g3 c h1 (by omega)⟩
  · intro H a _ h
    obtain ⟨g2, g3⟩ := H a (by omega)
    exact ⟨(plc_bd base zs a).1, g2, fun c h1 h2 => g3 c h1 (by omega)⟩

theorem good_step {base count : Int} {zs : List Int} {len k : Nat} : Good base count zs len (k + 1) ↔ Good base count zs len k ∧ plc base zs k < count ∧ ∀ c, k < c → c < len → plc base zs k < plc base zs c := by
  constructor
  · intro H
    exact ⟨fun a h => H a (by omega), (H k (by omega)).1, (H k (by omega)).2⟩
  · rintro ⟨H, h1, h2⟩ a h
    by_cases e : a = k
    · subst e; exact ⟨h1, h2⟩
    · exact H a (by omega)

theorem inner_no {base count : Int} {zs : List Int} {len k : Nat} (h : count ≤ plc base zs k) : (false = true ↔ Good base count zs len k ∧ plc base zs k < count ∧ ∀ c, k < c → c < k + 1 → plc base zs k < plc base zs c) := by
  constructor
  · intro e; cases e
  · rintro ⟨_, h2, _⟩; omega
theorem inner_yes {base count : Int} {zs : List Int} {len k : Nat} {b : Bool} (hb : b = true ↔ Good base count zs len k) (h : plc base zs k < count) : (b = true ↔ Good base count zs len k ∧ plc base zs k < count ∧ ∀ c, k < c → c < k + 1 → plc base zs k < plc base zs c) := by
  rw [hb]
  exact ⟨fun H => ⟨H, h, fun c h1 h2 => by omega⟩, fun H => H.1⟩
theorem inner_stop {base count : Int} {zs : List Int} {len k m : Nat} (hm : k < m) (h : plc base zs m ≤ plc base zs k) : (false = true ↔ Good base count zs len k ∧ plc base zs k < count ∧ ∀ c, k < c → c < m + 1 → plc base zs k < plc base zs c) := by
  constructor
  · intro e; cases e
  · rintro ⟨_, _, h3⟩; have := h3 m hm (by omega); omega
theorem inner_go {base count : Int} {zs : List Int} {len k m : Nat} {b : Bool} (hb : b = true ↔ Good base count zs len k ∧ plc base zs k < count ∧ ∀ c, k < c → c < m → plc base zs k < plc base zs c) (h : plc base zs k < plc base zs m) :
    (b = true ↔ Good base count zs len k ∧ plc base zs k < count ∧ ∀ c, k < c → c < m + 1 → plc base zs k < plc base zs c) := by
  rw [hb]
  refine ⟨fun ⟨h1, h2, h3⟩ => ⟨h1, h2, fun c g1 g2 => ?_⟩, fun ⟨h1, h2, h3⟩ => ⟨h1, h2, fun c g1 g2 => h3 c g1 (by omega)⟩⟩
  by_cases e : c = m
  · subst e; exact h
  · exact h3 c g1 (by omega)
theorem inner_end {base count : Int} {zs : List Int} {len k m : Nat} {b : Bool} (hb : b = true ↔ Good base count zs len k ∧ plc base zs k < count ∧ ∀ c, k < c → c < m → plc base zs k < plc base zs c) (h : m = len) : (b = true ↔ Good base count zs len (k + 1)) := by
  rw [hb, good_step, h]

theorem beq_of_iff {a b : Bool} {p : Prop} (h1 : a = true ↔ p) (h2 : b = true ↔ p) : (a == b) = true := by
  cases a <;> cases b <;> simp_all

set_option maxHeartbeats 1000000 in
theorem law_any (base count : Int) (a : Option Addr) (len cap : Nat) (zs : List Int) (w : World) (hr : Rd w a len zs) (hcn : 0 ≤ count ∧ count ≤ 65535) (hzs : ∀ j : Nat, 0 ≤ zs[j]?.getD 0 ∧ zs[j]?.getD 0 ≤ 65535) (hl : len ≤ 1024) :
    Calls Yba.prog 5 #[.int .u16 base, .int .u16 count, .slice a len cap] w fun e w' => e = .returned (.bool true) ∧ Below w.heap.size w w' := by
  have hll : (len : Int) ≤ 1024 := by omega
  have hl' : ¬ (1024 : Int) < (len : Int) := by omega
  go_enter Yba.func5, Yba.ntmps5
  go_wp2_with (go_at_call 11; refine (build_any _ _ _ _ _ zs _ hl hr).mono ?_; rintro e w1 ⟨rfl, hM⟩)
  go_loop [8, 9] (fun wv i => ∃ (k : Nat) (b : Bool), k ≤ len ∧ i = .int .i64 k ∧ wv = .bool b ∧ (b = true ↔ Good base count zs len k)) (fun _ i => len - (intOf i).toNat)
  case atStart => exact ⟨0, true, Nat.zero_le _, rfl, rfl, by simp [Good]⟩
  case round =>
    obtain ⟨k, b, hk, rfl, rfl, hb⟩ := hrel
    have HB : Hid (b = true ↔ Good base count zs len k) := hb
    clear hb
    by_cases hlt : k < len
    · have hlt' : (k : Int) < (len : Int) := by omega
      obtain ⟨ba, off, rfl, hba, hc⟩ := hr.2 (by omega)
      have hcx : ∀ i, i < len → w1.cell? ⟨ba, off + i, none⟩ = some (.int .u16 (zs[i]?.getD 0)) := fun i hi => (hM.1.cell (p := ⟨ba, off + i, none⟩) hba).trans (hc i hi)
      have hck := hcx k hlt
      have hp : IntKind.u16.wrap (zs[k]?.getD 0 - base) = plc base zs k := rfl
      have hpb := plc_bd base zs k
      obtain ⟨hpb0, hpb1⟩ := hpb
      by_cases hcp : count ≤ plc base zs k
      all_goals
        go_wp2
        go_loop [8, 11] (fun wv j => ∃ (m : Nat) (b : Bool), k + 1 ≤ m ∧ m ≤ len ∧ j = .int .i64 m ∧ wv = .bool b ∧ (b = true ↔ Good base count zs len k ∧ plc base zs k < count ∧ ∀ c, k < c → c < m → plc base zs k < plc base zs c)) (fun _ j => len - (intOf j).toNat)
        case atStart => exact ⟨k + 1, _, Nat.le_refl _, by omega, by go_num, rfl, by first | exact inner_no hcp | exact inner_yes HB.out (by omega)⟩
        case round =>
          obtain ⟨m, b', hm1, hm2, rfl, rfl, hb'⟩ := hrel
          have HB' : Hid (b' = true ↔ Good base count zs len k ∧ plc base zs k < count ∧ ∀ c, k < c → c < m → plc base zs k < plc base zs c) := hb'
          clear hb'
          by_cases hlm : m < len
          · have hlm' : (m : Int) < (len : Int) := by omega
            have hcm := hcx m hlm
            have hpm : IntKind.u16.wrap (zs[m]?.getD 0 - base) = plc base zs m := rfl
            have hpbm := plc_bd base zs m
            by_cases hle : plc base zs m ≤ plc base zs k
            · go_wp2
              go_round
              case rel => exact ⟨m + 1, _, by omega, by omega, by go_num, rfl, inner_stop (by omega) hle⟩
              case measure => simp [intOf]; omega
            · go_wp2
              go_round
              case rel => exact ⟨m + 1, _, by omega, by omega, by go_num, rfl, inner_go HB'.out (by omega)⟩
              case measure => simp [intOf]; omega
          · have hlm' : ¬ (m : Int) < (len : Int) := by omega
            go_wp2
            go_round
            case rel => exact ⟨k + 1, _, by omega, by go_num, rfl, inner_end HB'.out (by omega)⟩
            case measure => simp [intOf]; omega
    · have hlt' : ¬ (k : Int) < (len : Int) := by omega
      go_wp2_with (go_at_call 12; refine (order_any base count len zs _ _ hl hM hcn hzs).mono ?_; rintro e w2 ⟨rfl, hB2⟩)
      go_ret
      obtain rfl : k = len := by omega
      exact ⟨ret_bool (beq_of_iff (ord_good _ _ _ _) HB.out), hM.1.trans (hB2.mono (by have := hM.1.size; omega))⟩

end Go.Proofs.Ybulkuzy
