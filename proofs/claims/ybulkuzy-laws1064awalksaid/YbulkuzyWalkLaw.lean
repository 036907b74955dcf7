import Derived.Test.YbulkuzyPlaces
namespace Go.Proofs.Ybulkuzy
open Go.RowKit

theorem places_call (p : Option Addr) (w : World) : Calls Yba.prog 8 #[.pointer p] w fun e w' => e = .returned (.func (.func 13) #[] #[.pointer (some ⟨w.heap.size, 0, none⟩)]) ∧ w' = w.alloc (.cells #[.pointer p] 24) := by
  go_enter Yba.func8, Yba.ntmps8
  go_wp2
  go_ret
  exact ⟨rfl, rfl⟩

/-- the first four boxes -/
def W0 (w : World) (next mask lim : Int) (n : Nat) : World := (((w.alloc (Obj.cells #[.int .u16 next] 22)).alloc (Obj.cells #[.int .u64 mask] 23)).alloc (Obj.cells #[.int .i64 n] 3)).alloc (Obj.cells #[.int .i64 lim] 3)
theorem W0_size (w : World) (next mask lim : Int) (n : Nat) : (W0 w next mask lim n).heap.size = w.heap.size + 4 := by simp [W0]
theorem W0_0 (w : World) (next mask lim : Int) (n : Nat) : (W0 w next mask lim n).cell? ⟨w.heap.size, 0, none⟩ = some (.int .u16 next) := by
  unfold W0; rw [World.cell?_alloc_past _ _ _ (by simp; omega), World.cell?_alloc_past _ _ _ (by simp; omega), World.cell?_alloc_past _ _ _ (by simp), World.cell?_alloc_at _ _ _ _ rfl]; rfl
theorem W0_1 (w : World) (next mask lim : Int) (n : Nat) : (W0 w next mask lim n).cell? ⟨w.heap.size + 1, 0, none⟩ = some (.int .u64 mask) := by
  unfold W0; rw [World.cell?_alloc_past _ _ _ (by simp), World.cell?_alloc_past _ _ _ (by simp), World.cell?_alloc_at _ _ _ _ (by simp)]; rfl
theorem W0_2 (w : World) (next mask lim : Int) (n : Nat) : (W0 w next mask lim n).cell? ⟨w.heap.size + 2, 0, none⟩ = some (.int .i64 n) := by
  unfold W0; rw [World.cell?_alloc_past _ _ _ (by simp), World.cell?_alloc_at _ _ _ _ (by simp)]; rfl
theorem W0_3 (w : World) (next mask lim : Int) (n : Nat) : (W0 w next mask lim n).cell? ⟨w.heap.size + 3, 0, none⟩ = some (.int .i64 lim) := by
  unfold W0; rw [World.cell?_alloc_at _ _ _ _ (by simp)]; rfl

/-- the four boxes behind the build -/
def W4 (w1 : World) (B : Nat) : World := (((w1.alloc (Obj.cells #[.slice (some ⟨B + 4, 0, none⟩) 64 64] 25)).alloc (Obj.cells #[.int .i64 0] 3)).alloc (Obj.cells #[.bool true] 4)).alloc (Obj.cells #[.pointer (some ⟨B + 7, 0, none⟩)] 24)

theorem W4_old (w1 : World) (B b o : Nat) (h : b < w1.heap.size) : (W4 w1 B).cell? ⟨b, o, none⟩ = w1.cell? ⟨b, o, none⟩ := by
  unfold W4; rw [World.cell?_alloc_past _ _ _ (by simp; omega), World.cell?_alloc_past _ _ _ (by simp; omega), World.cell?_alloc_past _ _ _ (by simp; omega), World.cell?_alloc_past _ _ _ h]
theorem W4_oldf (w1 : World) (B b o : Nat) (h : b < w1.heap.size) : (W4 w1 B).frozen? ⟨b, o, none⟩ = w1.frozen? ⟨b, o, none⟩ := by
  unfold W4; rw [World.frozen?_alloc_past _ _ _ (by simp; omega), World.frozen?_alloc_past _ _ _ (by simp; omega), World.frozen?_alloc_past _ _ _ (by simp; omega), World.frozen?_alloc_past _ _ _ h]
theorem W4_h (w1 : World) (B : Nat) : (W4 w1 B).cell? ⟨w1.heap.size, 0, none⟩ = some (.slice (some ⟨B + 4, 0, none⟩) 64 64) := by
  unfold W4; rw [World.cell?_alloc_past _ _ _ (by simp; omega), World.cell?_alloc_past _ _ _ (by simp; omega), World.cell?_alloc_past _ _ _ (by simp), World.cell?_alloc_at _ _ _ _ rfl]; rfl
theorem W4_c (w1 : World) (B : Nat) : (W4 w1 B).cell? ⟨w1.heap.size + 1, 0, none⟩ = some (.int .i64 0) := by
  unfold W4; rw [World.cell?_alloc_past _ _ _ (by simp), World.cell?_alloc_past _ _ _ (by simp), World.cell?_alloc_at _ _ _ _ (by simp)]; rfl
theorem W4_cf (w1 : World) (B : Nat) : (W4 w1 B).frozen? ⟨w1.heap.size + 1, 0, none⟩ = false := by
  unfold W4; rw [World.frozen?_alloc_past _ _ _ (by simp), World.frozen?_alloc_past _ _ _ (by simp), World.frozen?_alloc_at _ _ _ _ (by simp)]
theorem W4_k (w1 : World) (B : Nat) : (W4 w1 B).cell? ⟨w1.heap.size + 2, 0, none⟩ = some (.bool true) := by
  unfold W4; rw [World.cell?_alloc_past _ _ _ (by simp), World.cell?_alloc_at _ _ _ _ (by simp)]; rfl
theorem W4_w (w1 : World) (B : Nat) : (W4 w1 B).cell? ⟨w1.heap.size + 3, 0, none⟩ = some (.pointer (some ⟨B + 7, 0, none⟩)) := by
  unfold W4; rw [World.cell?_alloc_at _ _ _ _ (by simp)]; rfl

theorem caps_mk {w w1 : World} {next mask lim : Int} {n : Nat} (hW : Win (W0 w next mask lim n) w1 next mask n) :
    w1.heap.size = w.heap.size + 8 ∧ Caps (W4 w1 w.heap.size) next mask lim n (w.heap.size + 9) (w.heap.size + 2) w.heap.size (w.heap.size + 1) (w.heap.size + 8) (w.heap.size + 3) (w.heap.size + 4) (w.heap.size + 7) (w.heap.size + 11) ∧
      Turned (W4 w1 w.heap.size) (W4 w1 w.heap.size) (w.heap.size + 9) 0 ∧ (W4 w1 w.heap.size).cell? ⟨w.heap.size + 10, 0, none⟩ = some (.bool true) ∧ Below w.heap.size w (W4 w1 w.heap.size) := by
  obtain ⟨hB, hs, h7, h8, h9, h10, hS⟩ := hW
  rw [W0_size] at hB hs h7 h8 h9 h10 hS
  have hs1 : w1.heap.size = w.heap.size + 8 := by omega
  have e8 : w.heap.size + 8 = w1.heap.size := by omega
  have e9 : w.heap.size + 9 = w1.heap.size + 1 := by omega
  have e10 : w.heap.size + 10 = w1.heap.size + 2 := by omega
  have e11 : w.heap.size + 11 = w1.heap.size + 3 := by omega
  refine ⟨hs1, ?_, ?_, by rw [e10]; exact W4_k _ _, ?_⟩
  · constructor
    · rw [W4_old _ _ _ _ (by omega), hB.cell (p := ⟨w.heap.size + 2, 0, none⟩) (by simp)]; exact W0_2 ..
    · rw [W4_old _ _ _ _ (by omega), hB.cell (p := ⟨w.heap.size, 0, none⟩) (by simp)]; exact W0_0 ..
    · rw [W4_old _ _ _ _ (by omega), hB.cell (p := ⟨w.heap.size + 1, 0, none⟩) (by simp)]; exact W0_1 ..
    · rw [e8]; exact W4_h ..
    · rw [W4_old _ _ _ _ (by omega), hB.cell (p := ⟨w.heap.size + 3, 0, none⟩) (by simp)]; exact W0_3 ..
    · rw [e11]; exact W4_w ..
    · rw [W4_old _ _ _ _ (by omega)]; exact h7
    · rw [W4_old _ _ _ _ (by omega)]; exact h8
    · rw [W4_old _ _ _ _ (by omega)]; exact h9
    · rw [W4_old _ _ _ _ (by omega)]; exact h10
    · exact slots_kept hS (fun i => W4_old _ _ _ _ (by omega)) (fun i => W4_oldf _ _ _ _ (by omega))
    all_goals omega
  · rw [e9]
    exact ⟨⟨rfl, rfl, rfl, Nat.le_refl _, fun _ _ _ => rfl⟩, W4_c _ _, W4_cf _ _⟩
  · unfold W4
    refine (((Below.alloc ?_ (by omega) _).alloc (by simp; omega) _).alloc (by simp; omega) _).alloc (by simp; omega) _
    refine Below.trans ?_ (hB.mono (by omega))
    unfold W0
    exact ((((Below.refl _ _).alloc (Nat.le_refl _) _).alloc (by simp) _).alloc (by simp; omega) _).alloc (by simp; omega) _

set_option maxHeartbeats 1000000 in
theorem walk_any (next span mask stop : Int) (w : World) (h0 : 0 ≤ next ∧ next ≤ 65535) (h1 : 0 ≤ span ∧ span ≤ 255) (h3 : 0 ≤ stop ∧ stop ≤ 255) :
    Calls Yba.prog 3 #[.int .u16 next, .int .u8 span, .int .u64 mask, .int .u8 stop] w fun e w' => e = .returned (.bool true) ∧ Below w.heap.size w w' := by
  obtain ⟨n, hn⟩ : ∃ n : Nat, span % 64 = n := ⟨(span % 64).toNat, by omega⟩
  have hn63 : n ≤ 63 := by omega
  have hn63' : (n : Int) ≤ 63 := by omega
  obtain ⟨l, hl⟩ : ∃ l : Int, stop % ((n : Int) + 2) = l := ⟨_, rfl⟩
  have hl0 : 0 ≤ l := hl ▸ Int.emod_nonneg _ (by omega)
  have hl1 : l < n + 2 := hl ▸ Int.emod_lt_of_pos _ (by omega)
  go_enter Yba.func3, Yba.ntmps3
  go_wp2_with fail
  refine (wbuild_any next mask n (W0 w next mask (l + 1) n) hn63 h0).mono ?_
  rintro e w1 ⟨rfl, hW⟩
  obtain ⟨hs1, hC, hT, hk, hB⟩ := caps_mk hW
  rw [W0_size]
  clear hW
  go_wp2_with (first | (go_at_call 8; refine (places_call _ _).mono ?_; rintro e w2 ⟨rfl, rfl⟩) | fail)
  simp only [Nat.add_assoc, Nat.reduceAdd]
  refine (places_any next mask (l + 1) n (w.heap.size + 9) (w.heap.size + 2) (w.heap.size + 10) w.heap.size (w.heap.size + 1) (w.heap.size + 8) (w.heap.size + 3) (w.heap.size + 4) (w.heap.size + 7) (w.heap.size + 11) (W4 w1 w.heap.size) hn63 h0 ⟨by omega, by omega⟩ hC hT).mono ?_
  rintro e w3 ⟨rfl, c, hT3, hc⟩
  have hC3 := hC.kept hT3.1
  have cn3 := hC3.cn
  have cl3 := hC3.cl
  have ch3 := hC3.w10
  have ck3 := kept_cell hT3.1 hk (by omega)
  have cc3 := hT3.2.1
  have HC : Hid ((c : Int) = if cnt mask (n + 1) = 0 then 0 else calls (l + 1) n) := hc
  have hB3 : Below w.heap.size w w3 := hB.grown hT3.1 hB.size (fun k hk => by cases hk; omega)
  clear hC3 hc hC hT hT3 hk hB
  by_cases hz : cnt mask (n + 1) = 0
  · have hz' : decide ((0 : Int) < (cnt mask (n + 1) : Int)) = false := by rw [hz]; rfl
    have hc0 : c = 0 := by have := HC.out; rw [if_pos hz] at this; omega
    subst hc0
    go_wp2_with fail
    go_ret
    exact ⟨rfl, hB3⟩
  · have hz' : (0 : Int) < (cnt mask (n + 1) : Int) := by omega
    have hcc : (c : Int) = calls (l + 1) n := by have := HC.out; rw [if_neg hz] at this; exact this
    clear HC
    unfold calls at hcc
    by_cases hm : l ≤ (n : Int)
    · have hcl : (c : Int) = l + 1 := by omega
      clear hcc
      go_wp2_with fail
      all_goals
        go_ret
        refine ⟨ret_bool ?_, hB3⟩
        first | rfl | (simp; omega)
    · have hcl : (c : Int) = n + 1 := by omega
      clear hcc
      go_wp2_with fail
      all_goals
        go_ret
        refine ⟨ret_bool ?_, hB3⟩
        first | rfl | (simp; omega)
end Go.Proofs.Ybulkuzy
