/-
  WALK: wire.DecodeFetchRequest (17) at a well-formed payload.
-/
import Derived.Test.YbulkuzkFmtRead
import Derived.Deep.CutRange
import Derived.OwnWalk
namespace Go.Proofs.YbulkuzkFmt
open Go.RowKit

/-- the spans' cells; their bytes -/
def spc (S : List (Nat × Nat)) : List Value := S.flatMap fun s => [.int .u64 s.1, .int .u64 s.2]
def enc (S : List (Nat × Nat)) : List UInt8 := S.flatMap fun s => Lib.beBytes 8 s.1 ++ Lib.beBytes 8 s.2
theorem spc_append (S : List (Nat × Nat)) (s : Nat × Nat) : spc (S ++ [s]) = spc S ++ [.int .u64 s.1, .int .u64 s.2] := by simp [spc]
theorem spc_length (S : List (Nat × Nat)) : (spc S).length = S.length * 2 := by
  induction S with
  | nil => rfl
  | cons s S ih => simp only [spc, List.flatMap_cons, List.length_append, List.length_cons, List.length_nil] at *; omega
theorem spc_get : ∀ (S : List (Nat × Nat)) (k : Nat) (s : Nat × Nat), S[k]? = some s → (spc S)[k * 2]? = some (.int .u64 s.1) ∧ (spc S)[k * 2 + 1]? = some (.int .u64 s.2)
  | [], k, s, h => by simp at h
  | t :: S, 0, s, h => by simp at h; subst h; simp [spc]
  | t :: S, k + 1, s, h => by
    have := spc_get S k s (by simpa using h)
    have e : spc (t :: S) = [.int .u64 t.1, .int .u64 t.2] ++ spc S := rfl
    rw [e, show (k + 1) * 2 = k * 2 + 1 + 1 by omega]
    simpa using this
theorem enc_length (S : List (Nat × Nat)) : (enc S).length = S.length * 16 := by
  induction S with
  | nil => rfl
  | cons s S ih => simp only [enc, List.flatMap_cons, List.length_append, Lib.beBytes_length, List.length_cons] at *; omega
theorem enc_drop {S : List (Nat × Nat)} {k : Nat} {s : Nat × Nat} (h : S[k]? = some s) : enc (S.drop k) = Lib.beBytes 8 s.1 ++ (Lib.beBytes 8 s.2 ++ enc (S.drop (k + 1))) := by
  obtain ⟨hk, e⟩ := List.getElem?_eq_some_iff.1 h
  rw [List.drop_eq_getElem_cons hk, e]
  simp [enc, List.append_assoc]

/-- the spans ascend, with a gap between any two -/
def Asc (S : List (Nat × Nat)) : Prop := ∀ (k : Nat) s, S[k]? = some s → 1 ≤ s.1 ∧ s.1 ≤ s.2 ∧ s.2 < 18446744073709551616 ∧ ∀ p, 0 < k → S[k - 1]? = some p → p.2 + 1 < s.1

/-- the request's bytes -/
def payload (mc : Nat) (S : List (Nat × Nat)) : List UInt8 := Lib.beBytes 8 mc ++ (Lib.beBytes 2 S.length ++ enc S)

theorem info66 : (Ybaf.prog.info? 66).map (fun i => (i.zero, i.size, i.bytes)) = some (some (.agg #[.int .u64 0, .int .u64 0]), 2, 16) := by kernel_rfl

theorem ownsRow_lo {w : World} {base : Nat} {e : TypeId} {size : Nat} {v : Value} {n : Nat} {xs : List Value} (h : w.ownsRow base e size v n xs) : ∀ k, v.ownBlock = some k → base ≤ k := by
  intro k hk
  rcases h.2 with ⟨rfl, _⟩ | ⟨g, cap, cur, rfl, hb, _⟩
  · cases hk
  · cases hk; exact hb

theorem Box.kept {w w' : World} {b : Nat} {c : Array Value} {t : TypeId} {row : Option Nat} (h : Box w b c t) (hg : w.grownBy w' row) (hb : some b ≠ row) : Box w' b c t := (hg.block b h.lt hb).trans h
theorem ownsRow_mono {w w' : World} {base : Nat} {e : TypeId} {size : Nat} {v : Value} {n : Nat} {xs : List Value} (h : w.ownsRow base e size v n xs) {row : Option Nat} (hg : w.grownBy w' row) (hr : ∀ b, row = some b → b < base) : w'.ownsRow base e size v n xs := by
  refine h.kept hg ?_
  cases hob : v.ownBlock with
  | none => exact .inl rfl
  | some g => exact .inr (fun e => by have := hr g e.symm; have := ownsRow_lo h g hob; omega)
theorem ownsRow_form {w : World} {base : Nat} {e : TypeId} {size : Nat} {v : Value} {n : Nat} {xs : List Value} (h : w.ownsRow base e size v n xs) : ∃ a cap, v = .slice a n cap := by
  rcases h.2 with ⟨rfl, rfl⟩ | ⟨g, cap, cur, rfl, _⟩
  · exact ⟨_, _, rfl⟩
  · exact ⟨_, _, rfl⟩
theorem take_span {L : List (Nat × Nat)} {k : Nat} {r : Nat × Nat} (h : L[k]? = some r) : L.take (k + 1) = L.take k ++ [r] := by
  rw [List.take_add_one, h]; rfl
theorem cell_two (w : World) (a b : Int) : ∀ j u, [Value.int .u64 a, .int .u64 b][j]? = some u → (w.alloc (.cells #[.int .u64 a, .int .u64 b] 66)).cell? ((⟨w.heap.size, 0, none⟩ : Addr).add j) = some u := by
  intro j u hj
  match j, hj with
  | 0, hj => simp at hj; subst hj; simp [Addr.add]
  | 1, hj => simp at hj; subst hj; simp [Addr.add]

/-- a world that has grown out of w: below B nothing has turned -/
structure Ext (B : Nat) (w : World) where
  wd : World
  ok : Below B w wd

theorem wp_region_ext {id : Nat} {Q : Exit → Act → World → Prop} {a : Act} {w : World} {l : List Oper} (B : Nat) (hB : Region.lexB .any l.toArray = true)
    (h : wpQuiet Ybaf.prog l.toArray (fun w' => ∃ x : Ext B w, w' = x.wd) (fun a' => ∀ w', (∃ x : Ext B w, w' = x.wd) → Q .normal a' w') l a) : (Code.region id l.toArray true).wp Ybaf.prog Q a w :=
  wp_region_quiet (C := fun w' => ∃ x : Ext B w, w' = x.wd) mixed hB ⟨⟨w.drew, (Below.refl _ _).drew⟩, rfl⟩ (by simpa using h)
theorem ext_cell {B : Nat} {w : World} {b o : Nat} {v : Value} (h : w.cell? ⟨b, o, none⟩ = some v) (hb : b < B) (x : Ext B w) : x.wd.cell? ⟨b, o, none⟩ = some v := (x.ok.cell (p := ⟨b, o, none⟩) hb).trans h

theorem ownsRow_le {w : World} {base base' size n : Nat} {e : TypeId} {v : Value} {xs : List Value} (h : w.ownsRow base e size v n xs) (hb : base' ≤ base) : w.ownsRow base' e size v n xs :=
  ⟨h.1, h.2.imp id fun ⟨g, cap, cur, h1, h2, h3⟩ => ⟨g, cap, cur, h1, Nat.le_trans hb h2, h3⟩⟩
/-- an own row's cells -/
theorem ownsRow_cell {w : World} {base : Nat} {e : TypeId} {size : Nat} {v : Value} {n : Nat} {xs : List Value} (h : w.ownsRow base e size v n xs) (hn : 0 < n) : ∃ g cap, v = .slice (some ⟨g, 0, none⟩) n cap ∧ ∀ (j : Nat) u, xs[j]? = some u → w.cell? ⟨g, j, none⟩ = some u := by
  rcases h.2 with ⟨rfl, rfl⟩ | ⟨g, cap, cur, rfl, _⟩
  · omega
  · refine ⟨g, cap, rfl, fun j u hj => ?_⟩
    have hk' : j < xs.length := (List.getElem?_eq_some_iff.1 hj).1
    have hx := h.1
    rw [h.cellAt _ (by omega)]
    exact hj

/-- the call hands back the request: MaxContent mc, Held a slice that owns S -/
def DecPost (mc : Nat) (S : List (Nat × Nat)) (w w' : World) (e : Ending) : Prop := ∃ v, e = .returned (.tuple #[.agg #[.int .u64 mc, v], .nilIface]) ∧ w'.ownsRow w.heap.size 66 2 v S.length (spc S)

set_option maxRecDepth 100000 in
set_option maxHeartbeats 2000000 in
theorem dec_any (g o c mc : Nat) (S : List (Nat × Nat)) (w : World) (hb : Bts w g o (payload mc S)) (hmc : mc < 18446744073709551616) (hS : S.length ≤ 1024) (hA : Asc S) (hc : (payload mc S).length ≤ c) (hc' : c ≤ 1000000) (hg : g < w.heap.size) :
    Calls Ybaf.prog 17 #[.slice (some ⟨g, o, none⟩) (payload mc S).length c] w fun e w' => DecPost mc S w w' e ∧ Below w.heap.size w w' := by
  have hA0 := (Below.refl w.heap.size w).alloc (Nat.le_refl _) (Obj.cells #[.int .u64 0, .slice none 0 0] 54)
  have bQ := Box.new w #[.int .u64 0, .slice none 0 0] 54
  have hk := newReader_any g o c _ (w.alloc (Obj.cells #[.int .u64 0, .slice none 0 0] 54)) (hb.below hA0 hg) hc hc' (by simp; omega)
  clear hb
  generalize hpl : (payload mc S).length = pl at *
  go_enter Ybaf.func17, Ybaf.ntmps17
  go_wp2_with fail
  refine hk.mono ?_
  clear hk
  rintro e w1 ⟨rfl, hR, hb1⟩
  have hsz : (w.alloc (Obj.cells #[.int .u64 0, .slice none 0 0] 54)).heap.size = w.heap.size + 1 := by simp
  rw [hsz] at hR hb1 ⊢
  have bQ := bQ.below hb1 (by omega)
  have hB1 := hA0.trans (hb1.mono (by omega))
  clear hA0 hb1 hsz
  have hk := uint64_any (w.heap.size + 1) mc _ w1 hmc hR
  clear hR
  go_wp2_with fail
  refine hk.mono ?_
  clear hk
  rintro e w2 ⟨rfl, hR, hg2⟩
  have bQ := bQ.kept hg2 (by simp)
  have hB2 := hB1.grown hg2 hB1.size (fun j hj => by cases hj; omega)
  clear hB1 hg2
  have hqr : w.heap.size + 1 < w2.heap.size := by obtain ⟨_, _, _, h1, _⟩ := hR; exact h1.lt
  have hA2 := (Below.refl w2.heap.size w2).alloc (Nat.le_refl _) (Obj.cells #[.int .u64 mc, .slice none 0 0] 54)
  have bZ := bQ.mono hA2
  have bQ := Box.new w2 #[.int .u64 (mc : Int), .slice none 0 0] 54
  have hR := hR.mono hA2
  have hB3 := hB2.trans (hA2.mono hB2.size)
  have hk := uint16_any (w.heap.size + 1) S.length _ _ (by omega) hR
  clear hR hA2
  go_wp2_with fail
  refine hk.mono ?_
  clear hk
  rintro e w3 ⟨rfl, hR, hg3⟩
  have bZ := bZ.kept hg3 (by simp)
  have bQ := bQ.kept hg3 (by simp; omega)
  have hB4 := hB3.grown hg3 hB3.size (fun j hj => by cases hj; omega)
  clear hB3 hg3 hB2
  generalize w2.heap.size = qb at *
  have hqb := bQ.lt
  have hS' : (S.length : Int) ≤ 1024 := by omega
  have hmin : min (S.length : Int) 1025 = (S.length : Int) := by omega
  obtain ⟨i0, hi, hz0, hz1, hz2⟩ := info_parts info66
  go_wp2_with fail
  generalize hBd : w3.heap.size = Bs at *
  go_loopw [18] (fun i wr => ∃ (k : Nat) (v : Value), k ≤ S.length ∧ i = .int .i64 k ∧ Rd wr (w.heap.size + 1) (enc (S.drop k)) ∧ Box wr qb #[.int .u64 (mc : Int), v] 54 ∧ Box wr w.heap.size #[.int .u64 0, .slice none 0 0] 54 ∧ wr.ownsRow Bs 66 2 v k (spc (S.take k)) ∧ Below w.heap.size w wr ∧ Bs ≤ wr.heap.size) (fun i _ => S.length - (intOf i).toNat)
  case atStart => exact ⟨0, _, Nat.zero_le _, rfl, hR, bQ, bZ, World.ownsRow_nil _ _ _ _, hB4, by omega⟩
  case round =>
    obtain ⟨k, v, hk, rfl, hR, bQ, bZ, hrow, hB, hbs⟩ := hrel
    clear hB4 hBd
    by_cases hlt : k < S.length
    · have hlt' : (k : Int) < (S.length : Int) := by omega
      obtain ⟨⟨lo, hi'⟩, hs⟩ : ∃ s, S[k]? = some s := ⟨S[k], by simp⟩
      obtain ⟨h1, h2, h3, h4⟩ := hA k _ hs
      rw [enc_drop hs] at hR
      dsimp only at h1 h2 h3 h4 hR
      have HT : Hid (S.take (k + 1) = S.take k ++ [(lo, hi')]) := take_span hs
      have hk1 := uint64_any (w.heap.size + 1) lo _ wr (by omega) hR
      clear hR
      go_wp2_with fail
      refine hk1.mono ?_
      clear hk1
      rintro e w4 ⟨rfl, hR, hg4⟩
      have bQ := bQ.kept hg4 (by simp; omega)
      have bZ := bZ.kept hg4 (by simp)
      have hrow := ownsRow_mono hrow hg4 (fun b e => by cases e; omega)
      have hB := hB.grown hg4 hB.size (fun j hj => by cases hj; omega)
      have hbs := Nat.le_trans hbs hg4.size
      clear hg4
      have hk1 := uint64_any (w.heap.size + 1) hi' _ w4 (by omega) hR
      clear hR
      go_wp2_with fail
      refine hk1.mono ?_
      clear hk1
      rintro e w5 ⟨rfl, hR, hg5⟩
      have bQ := bQ.kept hg5 (by simp; omega)
      have bZ := bZ.kept hg5 (by simp)
      have hrow := ownsRow_mono hrow hg5 (fun b e => by cases e; omega)
      have hB := hB.grown hg5 hB.size (fun j hj => by cases hj; omega)
      have hbs := Nat.le_trans hbs hg5.size
      clear hg5
      have hA5 := (Below.refl w5.heap.size w5).alloc (Nat.le_refl _) (Obj.cells #[.int .u64 (lo : Int), .int .u64 (hi' : Int)] 66)
      have bQ := bQ.mono hA5
      have bZ := bZ.mono hA5
      have bS := Box.new w5 #[.int .u64 (lo : Int), .int .u64 (hi' : Int)] 66
      have hrow := ownsRow_mono hrow (below_grown hA5 none) (fun b e => by cases e)
      have hR := hR.mono hA5
      have hB := hB.trans (hA5.mono hB.size)
      have hsbq : qb < w5.heap.size := by omega
      have hbs5 := hbs
      have hbs := Nat.le_trans hbs hA5.size
      have hk1 := short_any _ _ _ hR
      clear hA5
      go_wp2_with fail
      refine hk1.mono ?_
      clear hk1
      rintro e w6 ⟨rfl, rfl⟩
      generalize w5.alloc (Obj.cells #[.int .u64 (lo : Int), .int .u64 (hi' : Int)] 66) = W at *
      generalize w5.heap.size = sb at *
      obtain ⟨av, cv, rfl⟩ := ownsRow_form hrow
      have s0 := bS.cell 0
      have s1 := bS.cell 1
      have q1 := bQ.cell 1
      have hsl := bS.lt
      have hql := bQ.lt
      simp at s0 s1 q1
      go_upto_region 8 with fail
      have d1 : decide ((lo : Int) < 1) = false := decide_eq_false (by omega)
      have d2 : decide (hi' < lo) = false := decide_eq_false (by omega)
      have f0 := fun y : Ext W.heap.size W => ext_cell s0 hsl y
      have f1 := fun y : Ext W.heap.size W => ext_cell s1 hsl y
      have f2 := fun y : Ext W.heap.size W => ext_cell q1 hql y
      have hne : Nonempty (Ext W.heap.size W) := ⟨⟨_, Below.refl _ _⟩⟩
      go_cut [57] from 19 to 74 (fun s57 wx => s57 = .bool false ∧ ∃ y : Ext W.heap.size W, wx = y.wd)
      case first =>
        clear hR bQ bZ bS hB s0 s1 q1
        by_cases e : k = 0
        · clear hrow h4 hA
          subst e
          refine wp_region_ext W.heap.size (by kernel_rfl) ?_
          repeat (go_big_quiet_step (fail))
          refine wpQuiet_nil ?_
          rintro _ ⟨y, rfl⟩
          clear f0 f1 f2 hne
          go_wp2_with fail
          go_meet
          case rel => exact ⟨rfl, y, rfl⟩
        · obtain ⟨⟨pl0, ph0⟩, hp⟩ : ∃ s, S[k - 1]? = some s := ⟨S[k - 1], by simp⟩
          have h4 := h4 _ (by omega) hp
          dsimp only at h4
          have d3 : decide (0 < k) = true := decide_eq_true (by omega)
          have e0 : 0 < k := by omega
          obtain ⟨gv, cap', ev, hcell⟩ := ownsRow_cell hrow (by omega)
          cases ev
          have hpt : (S.take k)[k - 1]? = some (pl0, ph0) := by rw [List.getElem?_take_of_lt (by omega)]; exact hp
          have l1 := hcell _ _ (spc_get _ _ _ hpt).2
          have hgl := cell_lt l1
          have f3 := fun y : Ext W.heap.size W => ext_cell l1 hgl y
          have d4 : decide ((lo : Int) - 1 ≤ (ph0 : Int)) = false := decide_eq_false (by omega)
          have d5 : ¬ ((lo : Int) - 1 ≤ (ph0 : Int)) := by omega
          have hlo1 : (1 : Int) ≤ (lo : Int) := by omega
          have hlo2 : (lo : Int) ≤ 18446744073709551615 := by omega
          clear hcell hpt hp hrow hA
          have ek : ((k : Int) - 1) = ((k - 1 : Nat) : Int) := by omega
          have hk1 : ((k - 1 : Nat) : Int) < (k : Int) := by omega
          refine wp_region_ext W.heap.size (by kernel_rfl) ?_
          repeat (go_big_quiet_step (fail))
          refine wpQuiet_nil ?_
          rintro _ ⟨y, rfl⟩
          clear f0 f1 f2 f3 hne
          go_wp2_with fail
          go_meet
          case rel => exact ⟨rfl, y, rfl⟩
      case rest =>
      obtain ⟨hs57, y, hwc⟩ := hcut
      subst hs57 hwc
      clear f0 f1 f2 hne s0 s1 q1 hsl hql d1 d2
      have bQ := bQ.mono y.ok
      have bZ := bZ.mono y.ok
      have bS := bS.mono y.ok
      have hrow := ownsRow_mono hrow (below_grown y.ok none) (fun b e => by cases e)
      have hR := hR.mono y.ok
      have hB := hB.trans (y.ok.mono hB.size)
      have hbs : Bs ≤ y.wd.heap.size := by have := bS.lt; omega
      generalize y.wd = W6 at *
      have s0 := bS.cell 0
      have s1 := bS.cell 1
      have q1 := bQ.cell 1
      have hsl := bS.lt
      have hql := bQ.lt
      simp at s0 s1 q1
      have hBs : qb < Bs := by omega
      go_wp2_with (first | (at_builtin; refine wpList_append_own _ rfl _ _ 49 rfl Bs 66 i0 _ 2 16 Ybaf.underlying49 hi hz0 hz1 hz2 rfl (by decide) _ _ _ rfl (hrow.alloc _) ⟨W6.heap.size, 0, none⟩ 1 1 [.int .u64 (lo : Int), .int .u64 (hi' : Int)] rfl rfl (cell_two _ _ _) (by simp [Value.oneCell']) (by unfold maxLen; omega) (by omega) (by simp; omega) ?_; intro v' w7 hown7 hg7 _; obtain ⟨av', cv', rfl⟩ := ownsRow_form hown7; have bQ7 := (bQ.mono ((Below.refl _ _).alloc (Nat.le_refl _) (Obj.cells #[.int .u64 (lo : Int), .int .u64 (hi' : Int)] 66))).kept hg7 (fun e => by have := ownsRow_lo hrow _ e.symm; omega); have t1 := bQ7.cell 1; have tf := bQ7.frozen; have tl := bQ7.lt; simp at t1; clear q1) | go_in)
      have hA6 := (Below.refl W6.heap.size W6).alloc (Nat.le_refl _) (Obj.cells #[.int .u64 (lo : Int), .int .u64 (hi' : Int)] 66)
      have hrb : w.heap.size + 1 < Bs := by omega
      have hR7 : Rd w7 (w.heap.size + 1) (enc (S.drop (k + 1))) := (hR.mono hA6).kept hg7 (fun b e => by have := ownsRow_lo hrow _ e; omega)
      have bZ7 := (bZ.mono hA6).kept hg7 (fun e => by have := ownsRow_lo hrow _ e.symm; omega)
      have hB7 : Below w.heap.size w w7 := (hB.trans (hA6.mono hB.size)).grown hg7 (by have := hB.size; simp; omega) (fun j hj => by have := ownsRow_lo hrow _ hj; omega)
      have hb7 : Bs ≤ w7.heap.size := by have := hg7.size; simp at this; omega
      have hset := grown_setCell w7 qb 1 (.slice av' (k + 1) cv')
      go_roundw
      case rel => exact ⟨k + 1, _, by omega, by go_num, hR7.kept hset (fun b e => by cases e; omega), by have := bQ7.set 1 (.slice av' (k + 1) cv'); simpa using this, bZ7.kept hset (by simp; omega), by rw [HT.out, spc_append]; exact ownsRow_mono hown7 hset (fun b e => by cases e; omega), hB7.setCell (by have := hB.size; simp; omega) _, by simpa using hb7⟩
      case measure => simp [intOf]; omega
    · have hlt' : ¬ (k : Int) < (S.length : Int) := by omega
      obtain rfl : k = S.length := by omega
      rw [List.take_length] at hrow
      rw [List.drop_length] at hR
      have hks := short_any _ _ _ hR
      have hkr := rest_any _ _ _ hR
      rw [show (enc ([] : List (Nat × Nat))).length = 0 from rfl] at hkr
      obtain ⟨av, cv, rfl⟩ := ownsRow_form hrow
      have q0 := bQ.cell 0
      have q1 := bQ.cell 1
      have z0 := bZ.cell 0
      have z1 := bZ.cell 1
      have zf := bZ.frozen
      have zl := bZ.lt
      have hql := bQ.lt
      simp at q0 q1 z0 z1
      go_wp2_with fail
      refine hks.mono ?_
      clear hks
      rintro e w6 ⟨rfl, rfl⟩
      go_wp2_with fail
      refine hkr.mono ?_
      clear hkr
      rintro e w7 ⟨⟨ar, cr, rfl⟩, rfl⟩
      go_wp2_with fail
      have y0 : ((w7.setCell ⟨w.heap.size, 0, none⟩ (.int .u64 (mc : Int))).setCell ⟨w.heap.size, 1, none⟩ (.slice av S.length cv)).cell? ⟨w.heap.size, 0, none⟩ = some (.int .u64 (mc : Int)) := by rw [cso (by simp)]; exact css z0
      have y1 : ((w7.setCell ⟨w.heap.size, 0, none⟩ (.int .u64 (mc : Int))).setCell ⟨w.heap.size, 1, none⟩ (.slice av S.length cv)).cell? ⟨w.heap.size, 1, none⟩ = some (.slice av S.length cv) := css (by rw [cso (by simp)]; exact z1)
      have hB9 : Below w.heap.size w ((w7.setCell ⟨w.heap.size, 0, none⟩ (.int .u64 (mc : Int))).setCell ⟨w.heap.size, 1, none⟩ (.slice av S.length cv)) := (hB.setCell (by simp) _).setCell (by simp) _
      have hrow9 := ownsRow_mono (ownsRow_mono hrow (grown_setCell w7 w.heap.size 0 (.int .u64 (mc : Int))) (fun b e => by cases e; omega)) (grown_setCell _ w.heap.size 1 (.slice av S.length cv)) (fun b e => by cases e; omega)
      exact bodyPost_ret (v := .tuple #[.agg #[.int .u64 (mc : Int), .slice av S.length cv], .nilIface]) (by simp [results, Ybaf.results17, go_sem, y0, y1]) rfl ⟨⟨_, rfl, ownsRow_le hrow9 (by omega)⟩, hB9⟩
end Go.Proofs.YbulkuzkFmt
