/-
  WALKS OVER SLICES OF REQUESTERS: zzs1062chas (10), slices.Index, slices.Contains (36, 31; at ints 35, 29), zzs1062ccands (9).
-/
import Derived.Test.YbulkuywGrp
namespace Go.Proofs.Ybulkuyw
open Go.RowKit

/-- is r among L? -/
def hasR (L : List (Int × Int)) (r : Int × Int) : Bool := L.any fun x => x.1 == r.1 && x.2 == r.2
theorem hasR_iff (L : List (Int × Int)) (r : Int × Int) : hasR L r = true ↔ r ∈ L := by
  unfold hasR
  rw [List.any_eq_true]
  constructor
  · rintro ⟨x, hx, h⟩
    simp at h
    have : x = r := Prod.ext h.1 h.2
    rw [← this]; exact hx
  · intro h; exact ⟨r, h, by simp⟩

theorem hasR_drop {L : List (Int × Int)} {k : Nat} {r q : Int × Int} (h : L[k]? = some r) : hasR (L.drop k) q = ((r.1 == q.1 && r.2 == q.2) || hasR (L.drop (k + 1)) q) := by
  have hk := (List.getElem?_eq_some_iff.1 h).1
  rw [List.drop_eq_getElem_cons hk]
  have : L[k] = r := by simpa [hk] using h
  rw [this]
  simp [hasR]

set_option maxHeartbeats 400000 in
theorem has_any (v : Value) (L : List (Int × Int)) (m c : Int) (w : World) (h : Reqs w v L) (hl : L.length ≤ 1000000) :
    Calls Yba.prog 10 #[v, rv m c] w fun e w' => e = .returned (.bool (hasR L (m, c))) ∧ Below w.heap.size w w' := by
  obtain ⟨a, cap, rfl, _, hc⟩ := h
  have hll : (L.length : Int) ≤ 1000000 := by omega
  unfold rv
  go_enter Yba.func10, Yba.ntmps10
  go_wp2
  go_loopw [9] (fun i wr => ∃ k : Nat, k ≤ L.length ∧ i = .int .i64 k ∧ hasR (L.drop k) (m, c) = hasR L (m, c) ∧ Below w.heap.size w wr ∧ wr.cell? ⟨w.heap.size, 0, none⟩ = some (.int .i64 m) ∧ wr.cell? ⟨w.heap.size, 1, none⟩ = some (.int .u64 c)) (fun i _ => L.length - (intOf i).toNat)
  case atStart => exact ⟨0, Nat.zero_le _, rfl, rfl, (Below.refl _ _).alloc (Nat.le_refl _) _, by simp, by simp⟩
  case round =>
    obtain ⟨k, hk, rfl, hd, hB, d0, d1⟩ := hrel
    have HD : Hid (hasR (L.drop k) (m, c) = hasR L (m, c)) := hd
    clear hd
    by_cases hlt : k < L.length
    · have hlt' : (k : Int) < (L.length : Int) := by omega
      obtain ⟨r, hr⟩ : ∃ r, L[k]? = some r := ⟨L[k], by simp⟩
      obtain ⟨b, off, rfl, c0, c1⟩ := hc k r hr
      have hb : b < w.heap.size := cell_lt c0
      have c0' : wr.cell? ⟨b, off + k * 2, none⟩ = some (.int .i64 r.1) := (hB.cell (p := ⟨b, _, none⟩) hb).trans c0
      have c1' : wr.cell? ⟨b, off + k * 2 + 1, none⟩ = some (.int .u64 r.2) := (hB.cell (p := ⟨b, _, none⟩) hb).trans c1
      have hbw : b < wr.heap.size := cell_lt c0'
      have hww : w.heap.size < wr.heap.size := cell_lt d0
      have HR : Hid (L[k]? = some r) := hr
      clear c0 c1 hc hr
      have HB : Hid (Below w.heap.size w wr) := hB
      go_wp2
      · go_ret
        refine ⟨ret_bool ?_, hB.alloc hB.size _⟩
        rw [← HD.out, hasR_drop HR.out]
        simp [*]
      all_goals
        go_roundw
        case rel =>
          refine ⟨k + 1, by omega, by go_num, ?_, hB.alloc hB.size _, ?_, ?_⟩
          · rw [← HD.out, hasR_drop HR.out]
            simp [*]
          · rw [World.cell?_alloc_past _ _ _ hww]; exact d0
          · rw [World.cell?_alloc_past _ _ _ hww]; exact d1
        case measure => simp [intOf]; omega
    · have hlt' : ¬ (k : Int) < (L.length : Int) := by omega
      clear hc
      go_wp2
      go_ret
      exact ⟨ret_bool (by rw [← HD.out, List.drop_of_length_le (by omega)]; rfl), hB⟩

/-- what an Index answers -/
def IdxPost (b : Bool) (e : Ending) : Prop := ∃ x : Int, e = .returned (.int .i64 x) ∧ (0 ≤ x ↔ b = true) ∧ -1 ≤ x ∧ x ≤ 9223372036854775807

set_option maxHeartbeats 400000 in
theorem index_any (v : Value) (L : List (Int × Int)) (m c : Int) (w : World) (h : Reqs w v L) (hl : L.length ≤ 1000000) :
    Calls Yba.prog 36 #[v, rv m c] w fun e w' => IdxPost (hasR L (m, c)) e ∧ Below w.heap.size w w' := by
  obtain ⟨a, cap, rfl, _, hc⟩ := h
  have hll : (L.length : Int) ≤ 1000000 := by omega
  unfold rv
  go_enter Yba.func36, Yba.ntmps36
  go_wp2
  go_loopw [8] (fun i wr => ∃ k : Nat, k ≤ L.length ∧ i = .int .i64 k ∧ hasR (L.drop k) (m, c) = hasR L (m, c) ∧ Below w.heap.size w wr ∧ wr.cell? ⟨w.heap.size, 0, none⟩ = some (.int .i64 m) ∧ wr.cell? ⟨w.heap.size, 1, none⟩ = some (.int .u64 c)) (fun i _ => L.length - (intOf i).toNat)
  case atStart => exact ⟨0, Nat.zero_le _, rfl, rfl, (Below.refl _ _).alloc (Nat.le_refl _) _, by simp, by simp⟩
  case round =>
    obtain ⟨k, hk, rfl, hd, hB, d0, d1⟩ := hrel
    have HD : Hid (hasR (L.drop k) (m, c) = hasR L (m, c)) := hd
    clear hd
    by_cases hlt : k < L.length
    · have hlt' : (k : Int) < (L.length : Int) := by omega
      obtain ⟨r, hr⟩ : ∃ r, L[k]? = some r := ⟨L[k], by simp⟩
      obtain ⟨b, off, rfl, c0, c1⟩ := hc k r hr
      have hb : b < w.heap.size := cell_lt c0
      have c0' : wr.cell? ⟨b, off + k * 2, none⟩ = some (.int .i64 r.1) := (hB.cell (p := ⟨b, _, none⟩) hb).trans c0
      have c1' : wr.cell? ⟨b, off + k * 2 + 1, none⟩ = some (.int .u64 r.2) := (hB.cell (p := ⟨b, _, none⟩) hb).trans c1
      have hbw : b < wr.heap.size := cell_lt c0'
      have hww : w.heap.size < wr.heap.size := cell_lt d0
      have hst := hasR_drop (q := (m, c)) hr
      have HS : Hid (hasR (L.drop k) (m, c) = ((r.1 == m && r.2 == c) || hasR (L.drop (k + 1)) (m, c))) := hst
      clear c0 c1 hc hr hst
      obtain ⟨r1, r2⟩ := r
      simp only at c0' c1' HS
      by_cases e1 : m = r1
      · subst e1
        by_cases e2 : c = r2
        · subst e2
          go_wp2
          go_quiet (fail)
          go_wp2
          go_ret
          exact ⟨⟨_, rfl, ⟨fun _ => by rw [← HD.out, HS.out]; simp, fun _ => by omega⟩, by omega, by omega⟩, below_drewN hB _⟩
        · go_wp2
          go_quiet (fail)
          go_wp2
          go_roundw
          case rel => exact ⟨k + 1, by omega, by go_num, by rw [← HD.out, HS.out]; simp [Ne.symm e2], below_drewN hB _, d0, d1⟩
          case measure => simp [intOf]; omega
      · go_wp2
        go_quiet (fail)
        go_wp2
        go_roundw
        case rel => exact ⟨k + 1, by omega, by go_num, by rw [← HD.out, HS.out]; simp [Ne.symm e1], below_drewN hB _, d0, d1⟩
        case measure => simp [intOf]; omega
    · have hlt' : ¬ (k : Int) < (L.length : Int) := by omega
      clear hc
      go_wp2
      go_ret
      refine ⟨⟨_, rfl, ⟨fun h => by omega, fun h => ?_⟩, by omega, by omega⟩, hB⟩
      rw [← HD.out, List.drop_of_length_le (by omega)] at h
      cases h

set_option maxHeartbeats 400000 in
theorem contains_any (v : Value) (L : List (Int × Int)) (m c : Int) (w : World) (h : Reqs w v L) (hl : L.length ≤ 1000000) :
    Calls Yba.prog 31 #[v, rv m c] w fun e w' => e = .returned (.bool (hasR L (m, c))) ∧ Below w.heap.size w w' := by
  have hc := fun o => index_any v L m c (w.alloc o) (h.mono ((Below.refl _ _).alloc (Nat.le_refl _) _)) hl
  unfold rv at *
  go_enter Yba.func31, Yba.ntmps31
  go_wp2_with fail
  refine (hc _).mono ?_
  rintro e w1 ⟨⟨x, rfl, hx, _, _⟩, hb⟩
  clear hc h
  have hb1 : Below w.heap.size w w1 := ((Below.refl _ _).alloc (Nat.le_refl _) _).trans (hb.mono (by simp))
  have HX : Hid (0 ≤ x ↔ hasR L (m, c) = true) := hx
  clear hx hb
  go_wp2
  go_ret
  refine ⟨ret_bool ?_, hb1⟩
  have := HX.out
  cases hh : hasR L (m, c)
  · rw [hh] at this; simp at this; simp; omega
  · rw [hh] at this; simp at this; simp; omega

/-- the ids' slice: 0, .., n-1 -/
def Ids (w : World) (g n : Nat) : Prop := ∀ j, j < n → w.cell? ⟨g, j, none⟩ = some (.int .i64 (j : Int))

/-- is x a member's id? -/
def memB (n : Nat) (x : Int) : Bool := decide (0 ≤ x ∧ x < (n : Int))

set_option maxHeartbeats 400000 in
theorem indexI_any (g n cap : Nat) (x : Int) (w : World) (h : Ids w g n) (hn : n ≤ 6) :
    Calls Yba.prog 35 #[.slice (some ⟨g, 0, none⟩) n cap, .int .i64 x] w fun e w' => IdxPost (memB n x) e ∧ w' = w := by
  have hn' : (n : Int) ≤ 6 := by omega
  go_enter Yba.func35, Yba.ntmps35
  go_wp2
  go_loop [8] (fun i => ∃ k : Nat, k ≤ n ∧ i = .int .i64 k ∧ ¬ (0 ≤ x ∧ x < (k : Int))) (fun i => n - (intOf i).toNat)
  case atStart => exact ⟨0, Nat.zero_le _, rfl, by omega⟩
  case round =>
    obtain ⟨k, hk, rfl, hx⟩ := hrel
    have HX : Hid (¬ (0 ≤ x ∧ x < (k : Int))) := hx
    clear hx
    by_cases hlt : k < n
    · have hlt' : (k : Int) < (n : Int) := by omega
      have hc := h k hlt
      clear h
      by_cases e : x = (k : Int)
      · have e' : (x == (k : Int)) = true := by rw [beq_iff_eq]; exact e
        have HE : Hid (x = (k : Int)) := e
        clear e
        go_wp2
        go_ret
        exact ⟨⟨_, rfl, ⟨fun _ => by have := HE.out; simp [memB]; omega, fun _ => by omega⟩, by omega, by omega⟩, rfl⟩
      · have e' : (x == (k : Int)) = false := by rw [beq_eq_false_iff_ne]; exact e
        go_wp2
        go_round
        case rel => exact ⟨k + 1, by omega, by go_num, by have := HX.out; omega⟩
        case measure => simp [intOf]; omega
    · have hlt' : ¬ (k : Int) < (n : Int) := by omega
      clear h
      go_wp2
      go_ret
      refine ⟨⟨_, rfl, ⟨fun h => by omega, fun h => ?_⟩, by omega, by omega⟩, rfl⟩
      have h1 := HX.out
      simp [memB] at h
      omega

set_option maxHeartbeats 400000 in
theorem containsI_any (g n cap : Nat) (x : Int) (w : World) (h : Ids w g n) (hn : n ≤ 6) :
    Calls Yba.prog 29 #[.slice (some ⟨g, 0, none⟩) n cap, .int .i64 x] w fun e w' => e = .returned (.bool (memB n x)) ∧ w' = w := by
  have hc := indexI_any g n cap x w h hn
  go_enter Yba.func29, Yba.ntmps29
  go_wp2_with fail
  refine hc.mono ?_
  rintro e w1 ⟨⟨y, rfl, hx, _, _⟩, rfl⟩
  clear hc h
  have HX : Hid (0 ≤ y ↔ memB n x = true) := hx
  clear hx
  go_wp2
  go_ret
  refine ⟨ret_bool ?_, rfl⟩
  have := HX.out
  cases hh : memB n x
  · rw [hh] at this; simp at this; simp; omega
  · rw [hh] at this; simp at this; simp; omega

/-! ### the candidates -/
def candF (ps : List PV) (me : Nat) (si : Int) (i : Nat) : Option (Int × Int) := if i = me then some ((me : Int), si) else if (peerAt ps i).hd = true then some ((i : Int), (peerAt ps i).lt) else none
def candTo (ps : List PV) (me : Nat) (si : Int) (k : Nat) : List (Int × Int) := (List.range k).filterMap (candF ps me si)
theorem candTo_succ (ps : List PV) (me : Nat) (si : Int) (k : Nat) : candTo ps me si (k + 1) = candTo ps me si k ++ (candF ps me si k).toList := by
  unfold candTo
  rw [List.range_succ, List.filterMap_append]
  cases h : candF ps me si k <;> simp [h]
theorem candTo_len (ps : List PV) (me : Nat) (si : Int) (k : Nat) : (candTo ps me si k).length ≤ k := by
  unfold candTo
  exact Nat.le_trans (List.length_filterMap_le _ _) (by simp)

/-- the call hands back a slice of these Requesters -/
def RetReqs (w' : World) (L : List (Int × Int)) (e : Ending) : Prop := ∃ v, e = .returned v ∧ Reqs w' v L

/-- the group's box -/
def gbox (N S si st : Int) (a : Option Addr) (len cap : Nat) : Array Value := #[.int .u8 N, .int .u8 S, .int .u64 si, .int .i64 st, .slice a len cap]
/-- a box of an array that is written out lies in w -/
def Box (w : World) (b : Nat) (c : Array Value) (t : TypeId) : Prop := w.heap[b]? = some (.cells c t (0, 0))
theorem Box.cell {w : World} {b : Nat} {c : Array Value} {t : TypeId} (h : Box w b c t) (j : Nat) : w.cell? ⟨b, j, none⟩ = c[j]? := by unfold Box at h; simp [World.cell?, h]
theorem Box.frozen {w : World} {b : Nat} {c : Array Value} {t : TypeId} (h : Box w b c t) (j : Nat) : w.frozen? ⟨b, j, none⟩ = false := by unfold Box at h; simp [World.frozen?, h]
theorem Box.new (w : World) (c : Array Value) (t : TypeId) : Box (w.alloc (.cells c t)) w.heap.size c t := (MapKept.heap_alloc w _).1
theorem Box.lt {w : World} {b : Nat} {c : Array Value} {t : TypeId} (h : Box w b c t) : b < w.heap.size := (Array.getElem?_eq_some_iff.1 h).1
theorem Box.mono {w w' : World} {b : Nat} {c : Array Value} {t : TypeId} (h : Box w b c t) (hw : Below w.heap.size w w') : Box w' b c t := (hw.block b h.lt).trans h
theorem Box.below {w w' : World} {b B : Nat} {c : Array Value} {t : TypeId} (h : Box w b c t) (hw : Below B w w') (hb : b < B) : Box w' b c t := (hw.block b hb).trans h
theorem Box.kept {w w' : World} {b : Nat} {c : Array Value} {t : TypeId} {row : Option Nat} (h : Box w b c t) (hg : w.grownBy w' row) (hb : some b ≠ row) : Box w' b c t := (hg.block b h.lt hb).trans h

set_option maxHeartbeats 1000000 in
theorem cands_aux {a : Option Addr} {len : Nat} {ps : List PV} (N S si st : Int) (cap n me : Nat) (hn : 1 ≤ n ∧ n ≤ 6) (w : World) (h : Grp w.heap.size w a len ps)
    (hc : ∀ o, Calls Yba.prog 11 #[.agg #[.int .u8 N, .int .u8 S, .int .u64 si, .int .i64 st, .slice a len cap]] (w.alloc o) fun e w' => e = .returned (.tuple #[.int .i64 (n : Int), rv (me : Int) si]) ∧ Below (w.alloc o).heap.size (w.alloc o) w') :
    Calls Yba.prog 9 #[.agg #[.int .u8 N, .int .u8 S, .int .u64 si, .int .i64 st, .slice a len cap]] w fun e w' => RetReqs w' (candTo ps me si n) e ∧ Below w.heap.size w w' := by
  obtain ⟨i0, hi, hz0, hz1, hz2⟩ := info_parts info30
  go_enter Yba.func9, Yba.ntmps9
  go_wp2_with fail
  refine (hc _).mono ?_
  clear hc
  rintro e w1 ⟨rfl, hb⟩
  have bG := (Box.new w (gbox N S si st a len cap) 25).mono hb
  have hb1 : Below w.heap.size w w1 := ((Below.refl _ _).alloc (Nat.le_refl _) _).trans (hb.mono (by simp))
  unfold rv
  clear hb
  go_wp2
  have bG1 := bG.mono ((Below.refl _ _).alloc (Nat.le_refl _) (Obj.cells #[.int .i64 me, .int .u64 si] 30))
  have bS1 := Box.new w1 #[.int .i64 me, .int .u64 si] 30
  have hb2 := hb1.alloc hb1.size (Obj.cells #[.int .i64 me, .int .u64 si] 30)
  generalize w1.alloc (Obj.cells #[.int .i64 me, .int .u64 si] 30) = W1 at *
  generalize w1.heap.size = s0 at *
  clear bG hb1
  have hW := hb2.size
  go_loopw [5, 6] (fun v i wr => ∃ k : Nat, k ≤ n ∧ i = .int .i64 k ∧ wr.ownsRow W1.heap.size 30 2 v (candTo ps me si k).length (rcells (candTo ps me si k)) ∧ Below W1.heap.size W1 wr) (fun _ i _ => n - (intOf i).toNat)
  case atStart => exact ⟨0, Nat.zero_le _, rfl, World.ownsRow_nil _ _ _ _, Below.refl _ _⟩
  case round =>
    obtain ⟨k, hk, rfl, hrow, hB⟩ := hrel
    have bG := bG1.mono hB
    have bS := bS1.mono hB
    have s00 := bS.cell 0
    have s01 := bS.cell 1
    have hsl := bS.lt
    have g0 := bG.cell 0
    have g1 := bG.cell 1
    have g2 := bG.cell 2
    have g3 := bG.cell 3
    have g4 := bG.cell 4
    have hgl := bG.lt
    have hkl := candTo_len ps me si k
    have HC : Hid (candTo ps me si (k + 1) = candTo ps me si k ++ (candF ps me si k).toList) := candTo_succ ps me si k
    clear bG bS
    simp [gbox] at s00 s01 g0 g1 g2 g3 g4
    by_cases hlt : k < n
    · have hlt' : (k : Int) < (n : Int) := by omega
      by_cases e : k = me
      · have e' : ((k : Int) == (me : Int)) = true := by rw [beq_iff_eq]; omega
        have HE : Hid (candTo ps me si (k + 1) = candTo ps me si k ++ [((me : Int), si)]) := by
          show _ = _
          rw [HC.out]; simp [candF, e]
        clear HC e
        go_wp2_with (first | (at_builtin; refine wpList_append_own _ rfl _ _ 35 rfl W1.heap.size 30 i0 _ 2 16 Yba.underlying35 hi hz0 hz1 hz2 rfl (by decide) _ _ _ rfl (hrow.alloc _) ⟨wr.heap.size, 0, none⟩ 1 1 [.int .i64 me, .int .u64 si] rfl rfl (cell_two_req _ _ _) (by simp [Value.oneCell']) (by unfold maxLen; omega) (by omega) (by have := hB.size; simp; omega) ?_; intro v' w3 hown3 hg3 _) | go_in)
        have hB3 : Below W1.heap.size W1 w3 := (hB.alloc hB.size _).grown hg3 (by have := hB.size; simp; omega) (ownsRow_lo hrow)
        clear hrow hg3
        go_wp2
        go_roundw
        case rel => exact ⟨k + 1, by omega, by go_num, by rw [HE.out, rcells_append]; simpa using hown3, hB3⟩
        case measure => simp [intOf]; omega
      · have e' : ((k : Int) == (me : Int)) = false := by rw [beq_eq_false_iff_ne]; omega
        have hB0 : Below w.heap.size w wr := hb2.trans (hB.mono hW)
        have hcall := peer_any N S si st cap (k : Int) (by omega) wr (h.below hB0)
        rw [Int.toNat_natCast] at hcall
        have hcf : candF ps me si k = if (peerAt ps k).hd = true then some ((k : Int), (peerAt ps k).lt) else none := by simp [candF, e]
        rw [hcf] at HC
        generalize peerAt ps k = p at *
        clear h hcf
        cases hhd : p.hd with
        | true =>
          have HE : Hid (candTo ps me si (k + 1) = candTo ps me si k ++ [((k : Int), p.lt)]) := by
            show _ = _
            rw [HC.out]; simp [hhd]
          clear HC e
          go_wp2_with fail
          refine hcall.mono ?_
          clear hcall
          rintro e w2 ⟨rfl, hb3⟩
          unfold pval
          rw [hhd]
          have hrow2 := ownsRow_mono hrow hb3
          have hB2 := hB.trans (hb3.mono hB.size)
          go_wp2_with (first | (at_builtin; refine wpList_append_own _ rfl _ _ 35 rfl W1.heap.size 30 i0 _ 2 16 Yba.underlying35 hi hz0 hz1 hz2 rfl (by decide) _ _ _ rfl ((hrow2.alloc _).alloc _) ⟨w2.heap.size + 1, 0, none⟩ 1 1 [.int .i64 k, .int .u64 p.lt] rfl rfl ?c1 ?c2 ?c3 ?c4 ?c5 ?_) | go_in)
          case c1 => have := cell_two_req (w2.alloc (Obj.cells #[.bool true, .int .u64 p.lt, .bool p.kn, .slice p.va p.vl p.vc, .int .u64 p.si, .int .i64 p.sa] 41)) k p.lt; simpa using this
          case c2 => simp [Value.oneCell']
          case c3 => unfold maxLen; omega
          case c4 => omega
          case c5 => have := hB2.size; simp; omega
          intro v' w3 hown3 hg3 _
          have hB3 : Below W1.heap.size W1 w3 := ((hB2.alloc hB2.size _).alloc (by have := hB2.size; simp; omega) _).grown hg3 (by have := hB2.size; simp; omega) (ownsRow_lo hrow2)
          clear hrow hg3 hrow2
          go_wp2
          go_roundw
          case rel => exact ⟨k + 1, by omega, by go_num, by rw [HE.out, rcells_append]; simpa using hown3, hB3⟩
          case measure => simp [intOf]; omega
        | false =>
          have HE : Hid (candTo ps me si (k + 1) = candTo ps me si k) := by
            show _ = _
            rw [HC.out]; simp [hhd]
          clear HC e
          go_wp2_with fail
          refine hcall.mono ?_
          clear hcall
          rintro e w2 ⟨rfl, hb3⟩
          unfold pval
          rw [hhd]
          have hrow2 := ownsRow_mono hrow hb3
          have hB2 := hB.trans (hb3.mono hB.size)
          go_wp2
          go_roundw
          case rel => exact ⟨k + 1, by omega, by go_num, by rw [HE.out]; exact hrow2.alloc _, hB2.alloc hB2.size _⟩
          case measure => simp [intOf]; omega
    · have hlt' : ¬ (k : Int) < (n : Int) := by omega
      go_wp2
      go_ret
      obtain rfl : k = n := by omega
      have hq := reqs_of_own hrow
      exact ⟨⟨_, rfl, hq⟩, hb2.trans (hB.mono hW)⟩
theorem cands_any {a : Option Addr} {len : Nat} {ps : List PV} (N S si st : Int) (cap : Nat) (hN : 0 ≤ N ∧ N ≤ 255) (hS : 0 ≤ S ∧ S ≤ 255) (w : World) (h : Grp w.heap.size w a len ps) :
    Calls Yba.prog 9 #[.agg #[.int .u8 N, .int .u8 S, .int .u64 si, .int .i64 st, .slice a len cap]] w fun e w' => RetReqs w' (candTo ps (meOf N S) si (nOf N)) e ∧ Below w.heap.size w w' :=
  cands_aux N S si st cap (nOf N) (meOf N S) (nOf_bd N) w h (fun o => self_any N S si st a len cap hN hS (w.alloc o))
end Go.Proofs.Ybulkuyw
