import Derived.Test.YbulkvdsTab
namespace Go.Proofs.Ybulkvds
open Go.RowKit
open Go.Maps

theorem size_zero {w : World} {b n : Nat} {D : DataW Unit} {zs : List Int} (h : w.ownsMap Yba.prog 2 (plainElem Yba.prog 3) b n D) (hk : Go.Proofs.Ybulkvds.Keys D zs 0) : Maps.size D = 0 := by
  obtain ⟨es, rfl, _, hkl⟩ := h.entries law
  cases es with
  | nil => rfl
  | cons p r =>
    have : Maps.has (DataW.map (p :: r)) p.1 = true := by
      rw [Maps.has_eq, List.any_cons, WideAt.sameKey_self (hkl p (by simp))]; rfl
    obtain ⟨j, hj, _⟩ := (hk p.1).1 this
    omega
theorem size_pos {D : DataW Unit} {kl : Lit} (h : Maps.has D kl = true) : Maps.size D ≠ 0 := by
  cases D <;> try (cases h; done)
  rename_i es
  cases es with
  | nil => cases h
  | cons p r => rw [Maps.size_eq]; simp

/-- what needed answers, in the keys' own words -/
theorem need_keys {w : World} {b n len : Nat} {D : DataW Unit} {zs : List Int} {scan m : Int} (h : w.ownsMap Yba.prog 2 (plainElem Yba.prog 3) b n D) (hk : Go.Proofs.Ybulkvds.Keys D zs len) (hn : Need D scan m) :
    (len = 0 ∧ m = 9223372036854775807) ∨ (0 < len ∧ m ≤ scan ∧ (m = scan ∨ ∃ j, j < len ∧ m = zs[j]?.getD 0) ∧ ∀ j, j < len → m ≤ zs[j]?.getD 0) := by
  rcases Nat.eq_zero_or_pos len with e | e
  · subst e
    rcases hn with ⟨_, hm⟩ | ⟨hz, _⟩
    · exact Or.inl ⟨rfl, hm⟩
    · exact absurd (size_zero h hk) hz
  · rcases hn with ⟨hz, _⟩ | ⟨_, h1, h2, h3⟩
    · exact absurd hz (size_pos ((hk _).2 ⟨0, e, rfl⟩))
    · refine Or.inr ⟨e, h1, h2.imp id (fun hh => ?_), fun j hj => h3 _ ((hk _).2 ⟨j, hj, rfl⟩)⟩
      obtain ⟨j, hj, ej⟩ := (hk _).1 hh
      exact ⟨j, hj, by injection ej⟩

theorem ret_bool {a b : Bool} (h : a = b) : Ending.returned (.bool a) = .returned (.bool b) := by rw [h]

/-- the law's own minimum over the first k -/
def MinTo (scan v : Int) (zs : List Int) (k : Nat) : Prop := v ≤ scan ∧ (v = scan ∨ ∃ j, j < k ∧ v = zs[j]?.getD 0) ∧ ∀ j, j < k → v ≤ zs[j]?.getD 0
theorem min_start (scan : Int) (zs : List Int) : MinTo scan scan zs 0 := ⟨Int.le_refl _, Or.inl rfl, fun j hj => absurd hj (Nat.not_lt_zero j)⟩
theorem min_less {scan v : Int} {zs : List Int} {k : Nat} (h : MinTo scan v zs k) (hv : zs[k]?.getD 0 < v) : MinTo scan (zs[k]?.getD 0) zs (k + 1) :=
  ⟨by have := h.1; omega, Or.inr ⟨k, by omega, rfl⟩, fun j hj => by
    by_cases e : j = k
    · subst e; omega
    · have := h.2.2 j (by omega); omega⟩
theorem min_more {scan v : Int} {zs : List Int} {k : Nat} (h : MinTo scan v zs k) (hv : v ≤ zs[k]?.getD 0) : MinTo scan v zs (k + 1) :=
  ⟨h.1, h.2.1.imp id (fun ⟨j, h1, h2⟩ => ⟨j, by omega, h2⟩), fun j hj => by
    by_cases e : j = k
    · subst e; exact hv
    · exact h.2.2 j (by omega)⟩
theorem min_eq {scan v m : Int} {zs : List Int} {k : Nat} (h : MinTo scan v zs k) (h' : MinTo scan m zs k) : m = v := by
  obtain ⟨a1, a2, a3⟩ := h
  obtain ⟨b1, b2, b3⟩ := h'
  have l1 : m ≤ v := by
    rcases a2 with e | ⟨j, hj, e⟩
    · omega
    · have := b3 j hj; omega
  have l2 : v ≤ m := by
    rcases b2 with e | ⟨j, hj, e⟩
    · omega
    · have := a3 j hj; omega
  omega

set_option maxHeartbeats 400000 in
theorem exact_any (read scan : Int) (a : Option Addr) (len cap : Nat) (zs : List Int) (a' : Option Addr) (len' cap' : Nat) (zs' : List Int) (w : World) (hl : len ≤ 1024) (hr : Rd w a len zs) (hr' : Rd w a' len' zs')
    (hwz : ∀ j : Nat, (Lit.int .i64 (zs[j]?.getD 0)).wf = true) (hwz' : ∀ j : Nat, (Lit.int .i64 (zs'[j]?.getD 0)).wf = true) (hl' : len' ≤ maxLen) :
    Calls Yba.prog 3 #[.int .i64 read, .int .i64 scan, .slice a len cap, .slice a' len' cap'] w fun e w' => e = .returned (.bool true) ∧ Below w.heap.size w w' := by
  have hll : (len : Int) ≤ 1024 := by omega
  have hnl : ¬ (1024 : Int) < (len : Int) := by omega
  go_enter Yba.func3, Yba.ntmps3
  go_wp2_with fail
  refine (build_any read scan a len cap zs a' len' cap' zs' w hl hr hr' hwz hwz' hl').mono ?_
  rintro e w1 ⟨rfl, D, hown, hkeys, hB⟩
  go_wp2_with fail
  refine (needed_any read scan _ _ D _ (hown.alloc _)).mono ?_
  rintro e w2 ⟨⟨m, rfl, hneed⟩, hB2⟩
  have hB3 : Below w.heap.size w w2 := (hB.alloc hB.size _).trans (hB2.mono (by have := hB.size; simp; omega))
  have hN := need_keys hown hkeys hneed
  clear hown hkeys hneed hB2
  rcases hN with ⟨h0, hm⟩ | ⟨h0, hmn⟩
  · subst hm
    have h0' : ((len : Int) == 0) = true := by rw [h0]; rfl
    go_wp2_with fail
    go_ret
    exact ⟨rfl, hB3⟩
  · have h0' : ((len : Int) == 0) = false := by rw [beq_eq_false_iff_ne]; omega
    have HM : Hid (MinTo scan m zs len) := hmn
    clear hmn
    go_wp2_with fail
    go_loop [11, 12] (fun v i => ∃ (k : Nat) (x : Int), k ≤ len ∧ i = .int .i64 k ∧ v = .int .i64 x ∧ MinTo scan x zs k) (fun _ i => len - (intOf i).toNat)
    case atStart => exact ⟨0, scan, Nat.zero_le _, rfl, rfl, min_start scan zs⟩
    case round =>
      obtain ⟨k, x, hk, rfl, rfl, hx⟩ := hrel
      have HX : Hid (MinTo scan x zs k) := hx
      clear hx
      by_cases hlt : k < len
      · have hlt' : (k : Int) < (len : Int) := by omega
        obtain ⟨ba, off, rfl, hba, hc⟩ := hr.2 (by omega)
        have hck : w2.cell? ⟨ba, off + k, none⟩ = some (.int .i64 (zs[k]?.getD 0)) := (hB3.cell (p := ⟨ba, off + k, none⟩) hba).trans (hc k hlt)
        by_cases hv : zs[k]?.getD 0 < x
        · go_wp2_with fail
          go_round
          case rel => exact ⟨k + 1, _, by omega, by go_num, rfl, min_less HX.out hv⟩
          case measure => simp [intOf]; omega
        · go_wp2_with fail
          go_round
          case rel => exact ⟨k + 1, _, by omega, by go_num, rfl, min_more HX.out (by omega)⟩
          case measure => simp [intOf]; omega
      · have hlt' : ¬ (k : Int) < (len : Int) := by omega
        go_wp2_with fail
        go_ret
        obtain rfl : k = len := by omega
        exact ⟨ret_bool (by rw [min_eq HX.out HM.out]; simp), hB3⟩

theorem owns_below {w w' : World} {b n B : Nat} {D : DataW Unit} (h : w.ownsMap Yba.prog 2 (plainElem Yba.prog 3) b n D) (hB : Below B w w') (hb : b < B) : w'.ownsMap Yba.prog 2 (plainElem Yba.prog 3) b n D := by
  obtain ⟨es, clock, h1, h2⟩ := h
  exact ⟨es, clock, (hB.block b hb).trans h1, h2⟩

/-- 'attained' after k rounds -/
def Att (scan m : Int) (zs : List Int) (k : Nat) (t : Bool) : Prop := t = true ↔ (m = scan ∨ ∃ j, j < k ∧ m = zs[j]?.getD 0)
theorem att_start (scan m : Int) (zs : List Int) : Att scan m zs 0 (m == scan) := by
  unfold Att; rw [beq_iff_eq]
  exact ⟨Or.inl, fun h => h.elim id (fun ⟨j, hj, _⟩ => absurd hj (Nat.not_lt_zero j))⟩
theorem att_hit {scan m : Int} {zs : List Int} {k : Nat} (h : m = zs[k]?.getD 0) : Att scan m zs (k + 1) true := ⟨fun _ => Or.inr ⟨k, by omega, h⟩, fun _ => rfl⟩
theorem att_miss {scan m : Int} {zs : List Int} {k : Nat} {t : Bool} (ht : Att scan m zs k t) (h : m ≠ zs[k]?.getD 0) : Att scan m zs (k + 1) t := by
  unfold Att at *
  rw [ht]
  constructor
  · exact Or.imp id (fun ⟨j, h1, h2⟩ => ⟨j, by omega, h2⟩)
  · refine Or.imp id (fun ⟨j, h1, h2⟩ => ⟨j, ?_, h2⟩)
    by_cases e : j = k
    · subst e; exact absurd h2 h
    · omega
theorem att_end {scan m : Int} {zs : List Int} {k : Nat} {t : Bool} (ht : Att scan m zs k t) (h : MinTo scan m zs k) : t = true := ht.2 h.2.1

set_option maxHeartbeats 400000 in
theorem bound_any (read scan : Int) (a : Option Addr) (len cap : Nat) (zs : List Int) (w : World) (hl : len ≤ 1024) (hr : Rd w a len zs)
    (hwz : ∀ j : Nat, (Lit.int .i64 (zs[j]?.getD 0)).wf = true) :
    Calls Yba.prog 4 #[.int .i64 read, .int .i64 scan, .slice a len cap] w fun e w' => e = .returned (.bool true) ∧ Below w.heap.size w w' := by
  have hll : (len : Int) ≤ 1024 := by omega
  have hnl : ¬ (1024 : Int) < (len : Int) := by omega
  go_enter Yba.func4, Yba.ntmps4
  go_wp2_with fail
  refine (build_any read scan a len cap zs none 0 0 [] w hl hr ⟨Nat.zero_le _, fun h => absurd h (Nat.lt_irrefl _)⟩ hwz (fun j => by simp; decide) (Nat.zero_le _)).mono ?_
  rintro e w1 ⟨rfl, D, hown, hkeys, hB⟩
  go_wp2_with fail
  refine (needed_any read scan _ _ D _ (hown.alloc _)).mono ?_
  rintro e w2 ⟨⟨m, rfl, hneed⟩, hB2⟩
  have hB3 : Below w.heap.size w w2 := (hB.alloc hB.size _).trans (hB2.mono (by have := hB.size; simp; omega))
  have hN := need_keys hown hkeys hneed
  have hsz := hown.size_le
  have hown2 := owns_below (hown.alloc _) hB2 (by have := hown.lt; simp; omega)
  have hc2 : w2.cell? ⟨w1.heap.size, 2, none⟩ = some (.map (some (w.heap.size + 1))) := (hB2.cell (p := ⟨w1.heap.size, 2, none⟩) (by simp)).trans (by rw [World.cell?_alloc_at _ _ _ _ rfl]; rfl)
  clear hown hkeys hneed hB2
  rcases hN with ⟨h0, hm⟩ | ⟨h0, hmn⟩
  · subst hm
    have h0' : ((len : Int) == 0) = true := by rw [h0]; rfl
    go_wp2_with fail
    go_ret
    exact ⟨rfl, hB3⟩
  · have h0' : ((len : Int) == 0) = false := by rw [beq_eq_false_iff_ne]; omega
    have HM : Hid (MinTo scan m zs len) := hmn
    have hms : ¬ scan < m := by have := hmn.1; omega
    clear hmn
    go_wp2_with fail
    go_loop [9, 10] (fun v i => ∃ (k : Nat) (t : Bool), k ≤ len ∧ i = .int .i64 k ∧ v = .bool t ∧ Att scan m zs k t) (fun _ i => len - (intOf i).toNat)
    case atStart => exact ⟨0, _, Nat.zero_le _, rfl, rfl, att_start scan m zs⟩
    case round =>
      obtain ⟨k, t, hk, rfl, rfl, hx⟩ := hrel
      have HX : Hid (Att scan m zs k t) := hx
      clear hx
      by_cases hlt : k < len
      · have hlt' : (k : Int) < (len : Int) := by omega
        obtain ⟨ba, off, rfl, hba, hc⟩ := hr.2 (by omega)
        have hck : w2.cell? ⟨ba, off + k, none⟩ = some (.int .i64 (zs[k]?.getD 0)) := (hB3.cell (p := ⟨ba, off + k, none⟩) hba).trans (hc k hlt)
        have hmk : ¬ zs[k]?.getD 0 < m := by have := HM.out.2.2 k hlt; omega
        by_cases hv : m = zs[k]?.getD 0
        · have hv' : (m == zs[k]?.getD 0) = true := by rw [beq_iff_eq]; exact hv
          have HV : Hid (m = zs[k]?.getD 0) := hv
          clear hv
          go_wp2_with fail
          go_round
          case rel => exact ⟨k + 1, _, by omega, by go_num, rfl, att_hit HV.out⟩
          case measure => simp [intOf]; omega
        · have hv' : (m == zs[k]?.getD 0) = false := by rw [beq_eq_false_iff_ne]; exact hv
          go_wp2_with fail
          go_round
          case rel => exact ⟨k + 1, _, by omega, by go_num, rfl, att_miss HX.out hv⟩
          case measure => simp [intOf]; omega
      · have hlt' : ¬ (k : Int) < (len : Int) := by omega
        have hkl : k = len := by omega
        have ht : t = true := att_end HX.out (hkl ▸ HM.out)
        subst ht
        clear hkl
        have hsz' : (Maps.size D : Int) ≤ (len : Int) := by omega
        have hlen := hown2.len (t := 24) (e := 3) Yba.underlying24
        go_wp2_with fail
        go_ret
        exact ⟨rfl, hB3⟩
end Go.Proofs.Ybulkvds
