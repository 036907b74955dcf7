/-
  THE LAW's OWN FUNCTIONS OVER THE GROUP: zzs1062cpeer (13), zzs1062cself (11), zzs1062cfits (5), zzs1062clatest (18), zzs1062cvouches (14).
-/
import Derived.Test.YbulkuywBase
namespace Go.Proofs.Ybulkuyw
open Go.RowKit

/-- a peer as the group's memory holds it; 'vs': its vouches, (member, incarnation) -/
structure PV where
  hd : Bool
  lt : Int
  kn : Bool
  va : Option Addr
  vl : Nat
  vc : Nat
  si : Int
  sa : Int
  vs : List (Int × Int)
def zeroPV : PV := ⟨false, 0, false, none, 0, 0, 0, 0, []⟩
def pval (p : PV) : Value := .agg #[.bool p.hd, .int .u64 p.lt, .bool p.kn, .slice p.va p.vl p.vc, .int .u64 p.si, .int .i64 p.sa]
def peerAt (ps : List PV) (i : Nat) : PV := ps[i]?.getD zeroPV

/-- u64, i64: the bounds -/
def U64 (x : Int) : Prop := 0 ≤ x ∧ x ≤ 18446744073709551615
def I64 (x : Int) : Prop := -9223372036854775808 ≤ x ∧ x ≤ 9223372036854775807

/-- WHAT THE WALKS KNOW OF THE GROUP's PEERS: they lie below B -/
structure Grp (B : Nat) (w : World) (a : Option Addr) (len : Nat) (ps : List PV) : Prop where
  hlen : ps.length = len
  small : len ≤ maxLen
  cs : ∀ (i : Nat) p, ps[i]? = some p → ∃ b off, a = some ⟨b, off, none⟩ ∧ b < B ∧ w.cell? ⟨b, off + i * 6, none⟩ = some (.bool p.hd) ∧ w.cell? ⟨b, off + i * 6 + 1, none⟩ = some (.int .u64 p.lt) ∧ w.cell? ⟨b, off + i * 6 + 2, none⟩ = some (.bool p.kn) ∧
    w.cell? ⟨b, off + i * 6 + 3, none⟩ = some (.slice p.va p.vl p.vc) ∧ w.cell? ⟨b, off + i * 6 + 4, none⟩ = some (.int .u64 p.si) ∧ w.cell? ⟨b, off + i * 6 + 5, none⟩ = some (.int .i64 p.sa)
  vs : ∀ p ∈ ps, p.vs.length = p.vl ∧ p.vl ≤ maxLen ∧ ∀ (k : Nat) m c, p.vs[k]? = some (m, c) → -128 ≤ m ∧ m ≤ 127 ∧ U64 c ∧ ∃ b off, p.va = some ⟨b, off, none⟩ ∧ b < B ∧ w.cell? ⟨b, off + k * 2, none⟩ = some (.int .i8 m) ∧ w.cell? ⟨b, off + k * 2 + 1, none⟩ = some (.int .u64 c)
  wf : ∀ p ∈ ps, U64 p.lt ∧ U64 p.si ∧ I64 p.sa

theorem Grp.below {B : Nat} {w w' : World} {a : Option Addr} {len : Nat} {ps : List PV} (h : Grp B w a len ps) (hB : Below B w w') : Grp B w' a len ps where
  hlen := h.hlen
  small := h.small
  cs := fun i p hp => by
    obtain ⟨b, off, e, hb, c0, c1, c2, c3, c4, c5⟩ := h.cs i p hp
    exact ⟨b, off, e, hb, (hB.cell (p := ⟨b, _, none⟩) hb).trans c0, (hB.cell (p := ⟨b, _, none⟩) hb).trans c1, (hB.cell (p := ⟨b, _, none⟩) hb).trans c2, (hB.cell (p := ⟨b, _, none⟩) hb).trans c3, (hB.cell (p := ⟨b, _, none⟩) hb).trans c4, (hB.cell (p := ⟨b, _, none⟩) hb).trans c5⟩
  vs := fun p hp => by
    obtain ⟨h1, h1', h2⟩ := h.vs p hp
    refine ⟨h1, h1', fun k m c hk => ?_⟩
    obtain ⟨g1, g2, g3, b, off, e, hb, c0, c1⟩ := h2 k m c hk
    exact ⟨g1, g2, g3, b, off, e, hb, (hB.cell (p := ⟨b, _, none⟩) hb).trans c0, (hB.cell (p := ⟨b, _, none⟩) hb).trans c1⟩
  wf := h.wf

theorem peerAt_wf {B : Nat} {w : World} {a : Option Addr} {len : Nat} {ps : List PV} (h : Grp B w a len ps) (i : Nat) : U64 (peerAt ps i).lt ∧ U64 (peerAt ps i).si ∧ I64 (peerAt ps i).sa := by
  unfold peerAt
  cases hp : ps[i]? with
  | none => simp [zeroPV, U64, I64]
  | some p => simpa using h.wf p (List.mem_of_getElem? hp)

set_option maxHeartbeats 400000 in
theorem peer_any {B : Nat} {a : Option Addr} {len : Nat} {ps : List PV} (N S si st : Int) (cap : Nat) (x : Int) (hx : 0 ≤ x) (w : World) (h : Grp B w a len ps) :
    Calls Yba.prog 13 #[.agg #[.int .u8 N, .int .u8 S, .int .u64 si, .int .i64 st, .slice a len cap], .int .i64 x] w fun e w' => e = .returned (pval (peerAt ps x.toNat)) ∧ Below w.heap.size w w' := by
  by_cases hlt : x < (len : Int)
  · obtain ⟨i, rfl⟩ := Int.eq_ofNat_of_zero_le hx
    have hi : i < ps.length := by rw [h.hlen]; omega
    obtain ⟨p, hp⟩ : ∃ p, ps[i]? = some p := ⟨ps[i], by simp [hi]⟩
    have hpa : peerAt ps (Int.toNat (i : Int)) = p := by simp [peerAt, hp]
    obtain ⟨b, off, rfl, hb, c0, c1, c2, c3, c4, c5⟩ := h.cs i p hp
    have hbw : b < w.heap.size := cell_lt c0
    rw [hpa]
    clear hpa hp h
    go_enter Yba.func13, Yba.ntmps13
    go_wp2
    exact bodyPost_ret (v := pval p) (by simp [results, Yba.results13, go_sem, pval]) rfl ⟨rfl, ((Below.refl _ _).alloc (Nat.le_refl _) _).alloc (by simp) _⟩
  · have hpa : peerAt ps x.toNat = zeroPV := by
      unfold peerAt
      rw [List.getElem?_eq_none (by rw [h.hlen]; omega)]
      rfl
    rw [hpa]
    clear hpa h
    go_enter Yba.func13, Yba.ntmps13
    go_wp2
    exact bodyPost_ret (v := pval zeroPV) (by simp [results, Yba.results13, go_sem, pval, zeroPV]) rfl ⟨rfl, ((Below.refl _ _).alloc (Nat.le_refl _) _).alloc (by simp) _⟩

/-- how many members; which is one's own -/
def nOf (N : Int) : Nat := (N % 6 + 1).toNat
def meOf (N S : Int) : Nat := (S % (nOf N : Int)).toNat
theorem nOf_bd (N : Int) : 1 ≤ nOf N ∧ nOf N ≤ 6 := by unfold nOf; omega
theorem nOf_int (N : Int) : (nOf N : Int) = N % 6 + 1 := by unfold nOf; omega
theorem meOf_lt (N S : Int) : meOf N S < nOf N := by
  unfold meOf
  have h1 := nOf_bd N
  have h2 := Int.emod_lt_of_pos S (show (0 : Int) < (nOf N : Int) by omega)
  have h3 := Int.emod_nonneg S (show (nOf N : Int) ≠ 0 by omega)
  omega
theorem meOf_int (N S : Int) : (meOf N S : Int) = S % (nOf N : Int) := by
  unfold meOf
  have h1 := nOf_bd N
  have h3 := Int.emod_nonneg S (show (nOf N : Int) ≠ 0 by omega)
  omega

set_option maxHeartbeats 400000 in
set_option maxRecDepth 20000 in
theorem self_any (N S si st : Int) (a : Option Addr) (len cap : Nat) (hN : 0 ≤ N ∧ N ≤ 255) (hS : 0 ≤ S ∧ S ≤ 255) (w : World) :
    Calls Yba.prog 11 #[.agg #[.int .u8 N, .int .u8 S, .int .u64 si, .int .i64 st, .slice a len cap]] w fun e w' => e = .returned (.tuple #[.int .i64 (nOf N : Int), rv (meOf N S : Int) si]) ∧ Below w.heap.size w w' := by
  have e1 := nOf_int N
  have e2 := meOf_int N S
  have b1 := nOf_bd N
  have hr : N % 6 + 1 = (nOf N : Int) := e1.symm
  have hq : S % (nOf N : Int) = (meOf N S : Int) := e2.symm
  have hz : (((nOf N : Nat) : Int) == 0) = false := by rw [beq_eq_false_iff_ne]; omega
  have hp : (0 : Int) < (nOf N : Int) := by omega
  have hp6 : (nOf N : Int) ≤ 6 := by omega
  clear e1 e2 b1
  go_enter Yba.func11, Yba.ntmps11
  go_wp2
  go_region
  go_wp2
  exact bodyPost_ret (v := .tuple #[.int .i64 (nOf N : Int), rv (meOf N S : Int) si]) (by simp [results, Yba.results11, go_sem, rv]) rfl ⟨rfl, (((Below.refl _ _).alloc (Nat.le_refl _) _).alloc (by simp) _).drew⟩

theorem field41_1 (v0 v1 v2 v3 v4 v5 : Value) (w : World) : (Instr.field 41 (.agg #[v0, v1, v2, v3, v4, v5]) 1).run Yba.prog w = .ok v1 w := by kernel_rfl

/-- the newest incarnation that is known of member m -/
def latOf (ps : List PV) (n me : Nat) (m : Int) : Int := if m < 0 ∨ (n : Int) ≤ m ∨ m = (me : Int) then 0 else (peerAt ps m.toNat).lt

set_option maxHeartbeats 400000 in
theorem latest_any {B : Nat} {a : Option Addr} {len : Nat} {ps : List PV} (N S si st : Int) (cap : Nat) (n me : Nat) (m : Int) (w : World) (h : Grp B w a len ps) (hB : B ≤ w.heap.size) :
    Calls Yba.prog 18 #[.agg #[.int .u8 N, .int .u8 S, .int .u64 si, .int .i64 st, .slice a len cap], .int .i64 (n : Int), .int .i64 (me : Int), .int .i64 m] w fun e w' => e = .returned (.int .u64 (latOf ps n me m)) ∧ Below w.heap.size w w' := by
  unfold latOf
  by_cases h1 : m < 0
  · rw [if_pos (Or.inl h1)]
    go_enter Yba.func18, Yba.ntmps18
    go_wp2
    go_ret
    exact ⟨rfl, (Below.refl _ _).alloc (Nat.le_refl _) _⟩
  · by_cases h2 : (n : Int) ≤ m
    · rw [if_pos (Or.inr (Or.inl h2))]
      go_enter Yba.func18, Yba.ntmps18
      go_wp2
      go_ret
      exact ⟨rfl, (Below.refl _ _).alloc (Nat.le_refl _) _⟩
    · by_cases h3 : m = (me : Int)
      · rw [if_pos (Or.inr (Or.inr h3))]
        have h3' : (m == (me : Int)) = true := by rw [beq_iff_eq]; exact h3
        clear h3
        go_enter Yba.func18, Yba.ntmps18
        go_wp2
        go_ret
        exact ⟨rfl, (Below.refl _ _).alloc (Nat.le_refl _) _⟩
      · rw [if_neg (by omega)]
        have h3' : (m == (me : Int)) = false := by rw [beq_eq_false_iff_ne]; exact h3
        have hfld := field41_1
        have hc := fun o => peer_any N S si st cap m (by omega) (w.alloc o) (h.below ((Below.refl _ _).alloc hB _))
        generalize peerAt ps m.toNat = p at *
        clear h
        go_enter Yba.func18, Yba.ntmps18
        go_wp2_with fail
        refine (hc _).mono ?_
        clear hc
        rintro e w1 ⟨rfl, hb⟩
        unfold pval
        go_wp2
        go_ret
        exact ⟨rfl, ((Below.refl _ _).alloc (Nat.le_refl _) _).trans (hb.mono (by simp))⟩

/-- what a peer says it vouches for -/
def vchs (p : PV) : List (Int × Int) := if p.kn = true then p.vs else []

/-- WHAT THE WALKS KNOW OF ONE PEER's VOUCHES -/
structure Vch (B : Nat) (w : World) (p : PV) : Prop where
  hlen : p.vs.length = p.vl
  small : p.vl ≤ 256
  cs : ∀ (k : Nat) r, p.vs[k]? = some r → -128 ≤ r.1 ∧ r.1 ≤ 127 ∧ U64 r.2 ∧ ∃ b off, p.va = some ⟨b, off, none⟩ ∧ b < B ∧ w.cell? ⟨b, off + k * 2, none⟩ = some (.int .i8 r.1) ∧ w.cell? ⟨b, off + k * 2 + 1, none⟩ = some (.int .u64 r.2)
theorem Grp.vch {B : Nat} {w : World} {a : Option Addr} {len : Nat} {ps : List PV} (h : Grp B w a len ps) (hf : ∀ p ∈ ps, p.vl ≤ 256) (i : Nat) : Vch B w (peerAt ps i) := by
  unfold peerAt
  cases hp : ps[i]? with
  | none => exact ⟨rfl, by simp [zeroPV], fun k r hk => by simp [zeroPV] at hk⟩
  | some p =>
    have hm := List.mem_of_getElem? hp
    obtain ⟨h1, _, h2⟩ := h.vs p hm
    exact ⟨h1, hf p hm, fun k r hk => h2 k r.1 r.2 hk⟩
theorem Vch.below {B : Nat} {w w' : World} {p : PV} (h : Vch B w p) (hB : Below B w w') : Vch B w' p where
  hlen := h.hlen
  small := h.small
  cs := fun k r hk => by
    obtain ⟨g1, g2, g3, b, off, e, hb, c0, c1⟩ := h.cs k r hk
    exact ⟨g1, g2, g3, b, off, e, hb, (hB.cell (p := ⟨b, _, none⟩) hb).trans c0, (hB.cell (p := ⟨b, _, none⟩) hb).trans c1⟩

theorem take_req {L : List (Int × Int)} {k : Nat} {r : Int × Int} (h : L[k]? = some r) : L.take (k + 1) = L.take k ++ [r] := by
  rw [List.take_add_one, h]; rfl

set_option maxHeartbeats 1000000 in
theorem vouch_any {B : Nat} {a : Option Addr} {len : Nat} {ps : List PV} (N S si st : Int) (cap : Nat) (x : Int) (hx : 0 ≤ x) (w : World) (h : Grp B w a len ps) (hB : B ≤ w.heap.size) (hf : ∀ p ∈ ps, p.vl ≤ 256) :
    Calls Yba.prog 14 #[.agg #[.int .u8 N, .int .u8 S, .int .u64 si, .int .i64 st, .slice a len cap], .int .i64 x] w fun e w' => (∃ v, e = .returned (.tuple #[v, .bool (peerAt ps x.toNat).kn]) ∧ Reqs w' v (vchs (peerAt ps x.toNat))) ∧ Below w.heap.size w w' := by
  have hc := fun o => peer_any N S si st cap x hx (w.alloc o) (h.below ((Below.refl _ _).alloc hB _))
  have hV := h.vch hf x.toNat
  generalize peerAt ps x.toNat = p at *
  clear h hf
  obtain ⟨i0, hi, hz0, hz1, hz2⟩ := info_parts info30
  cases hkn : p.kn with
  | false =>
    have hv0 : vchs p = [] := by simp [vchs, hkn]
    rw [hv0]
    go_enter Yba.func14, Yba.ntmps14
    go_wp2_with fail
    refine (hc _).mono ?_
    rintro e w1 ⟨rfl, hb⟩
    unfold pval
    rw [hkn]
    have hb1 : Below w.heap.size w w1 := ((Below.refl _ _).alloc (Nat.le_refl _) _).trans (hb.mono (by simp))
    clear hc
    go_wp2
    go_ret2
    exact ⟨⟨_, rfl, reqs_nil _⟩, hb1.alloc hb1.size _⟩
  | true =>
    have hv0 : vchs p = p.vs := by simp [vchs, hkn]
    rw [hv0]
    go_enter Yba.func14, Yba.ntmps14
    go_wp2_with fail
    refine (hc _).mono ?_
    rintro e w1 ⟨rfl, hb⟩
    unfold pval
    rw [hkn]
    have hb1 : Below w.heap.size w w1 := ((Below.refl _ _).alloc (Nat.le_refl _) _).trans (hb.mono (by simp))
    have hlen := hV.hlen
    have hsm := hV.small
    have hsm' : (p.vl : Int) ≤ 256 := by omega
    clear hc hb
    have hbox : ∀ w2, (w1.alloc (Obj.cells #[.bool p.hd, .int .u64 p.lt, .bool true, .slice p.va p.vl p.vc, .int .u64 p.si, .int .i64 p.sa] 41)).grownBy w2 none → w2.cell? ⟨w1.heap.size, 3, none⟩ = some (.slice p.va p.vl p.vc) ∧ w1.heap.size < w2.heap.size ∧ Below w.heap.size w w2 := fun w2 hg => by
      have hs := hg.size
      simp only [World.size_alloc] at hs
      refine ⟨(World.cell?_of_block (w := w1.alloc _) (hg.block w1.heap.size (by simp) (by simp))).trans (by simp), by omega, (hb1.alloc hb1.size _).grown hg (by have := hb1.size; simp; omega) (fun k hk => by cases hk)⟩
    go_wp2_with (first | (at_make; refine wpList_make_own _ rfl _ _ 35 rfl w.heap.size 30 i0 _ 2 Yba.underlying35 hi hz0 hz1 .i64 .i64 _ p.vl rfl rfl rfl (by rw [hz2]; omega) (by unfold maxLen; omega) (by have := hb1.size; simp; omega) ?_; intro w2 hown hg2; obtain ⟨c3, hs2, hb2⟩ := hbox w2 hg2; clear hbox hg2) | go_in)
    go_loopw [7, 23] (fun v i wr => ∃ k : Nat, k ≤ p.vl ∧ i = .int .i64 k ∧ wr.ownsRow w.heap.size 30 2 v k (rcells (p.vs.take k)) ∧ Below w.heap.size w wr) (fun _ i _ => p.vl - (intOf i).toNat)
    case atStart => exact ⟨0, Nat.zero_le _, rfl, by simpa [rcells] using hown, hb2⟩
    case round =>
      obtain ⟨k, hk, rfl, hrow, hB'⟩ := hrel
      clear hown hb2 c3 hs2
      by_cases hlt : k < p.vl
      · have hlt' : (k : Int) < (p.vl : Int) := by omega
        obtain ⟨r, hr⟩ : ∃ r, p.vs[k]? = some r := ⟨p.vs[k]'(by omega), by simp⟩
        obtain ⟨g1, g2, g3, b, off, hva, hb, c0, c1⟩ := hV.cs k r hr
        have c0' : wr.cell? ⟨b, off + k * 2, none⟩ = some (.int .i8 r.1) := (hB'.cell (p := ⟨b, _, none⟩) (by simp; omega)).trans c0
        have c1' : wr.cell? ⟨b, off + k * 2 + 1, none⟩ = some (.int .u64 r.2) := (hB'.cell (p := ⟨b, _, none⟩) (by simp; omega)).trans c1
        have hbw : b < wr.heap.size := cell_lt c0'
        have htk := take_req hr
        have HT : Hid (p.vs.take (k + 1) = p.vs.take k ++ [r]) := htk
        clear htk c0 c1 hV hr
        rw [hva]
        clear hva
        have hkl : (p.vs.take k).length = k := by rw [List.length_take]; omega
        go_wp2_with (first | (at_builtin; refine wpList_append_own _ rfl _ _ 35 rfl w.heap.size 30 i0 _ 2 16 Yba.underlying35 hi hz0 hz1 hz2 rfl (by decide) _ _ _ rfl ((hrow.alloc _).alloc _) ⟨wr.heap.size + 1, 0, none⟩ 1 1 [.int .i64 r.1, .int .u64 r.2] rfl rfl ?c1 ?c2 ?c3 ?c4 ?c5 ?_) | go_in)
        case c1 => have := cell_two_req (wr.alloc (Obj.cells #[.int .i8 r.1, .int .u64 r.2] 73)) r.1 r.2; simpa using this
        case c2 => simp [Value.oneCell']
        case c3 => unfold maxLen; omega
        case c4 => omega
        case c5 => have := hB'.size; simp; omega
        intro v' w3 hown3 hg3 _
        have hB3 : Below w.heap.size w w3 := ((hB'.alloc hB'.size _).alloc (by have := hB'.size; simp; omega) _).grown hg3 (by have := hB'.size; simp; omega) (ownsRow_lo hrow)
        clear hrow hg3
        go_wp2
        go_roundw
        case rel => exact ⟨k + 1, by omega, by go_num, by rw [HT.out, rcells_append]; exact hown3, hB3⟩
        case measure => simp [intOf]; omega
      · have hlt' : ¬ (k : Int) < (p.vl : Int) := by omega
        go_wp2
        go_ret2
        obtain rfl : k = p.vl := by omega
        have e : p.vs.take p.vl = p.vs := by rw [← hlen]; exact List.take_length
        rw [e, ← hlen] at hrow
        exact ⟨⟨_, rfl, reqs_of_own hrow⟩, hB'⟩

/-- what fits answers -/
def FitsPost (ps : List PV) (e : Ending) : Prop := ∃ b, e = .returned (.bool b) ∧ (b = true → ∀ p ∈ ps, p.vl ≤ 256)

set_option maxHeartbeats 400000 in
theorem fits_any {a : Option Addr} {len : Nat} {ps : List PV} (N S si st : Int) (cap : Nat) (w : World) (h : Grp w.heap.size w a len ps) :
    Calls Yba.prog 5 #[.agg #[.int .u8 N, .int .u8 S, .int .u64 si, .int .i64 st, .slice a len cap]] w fun e w' => FitsPost ps e ∧ Below w.heap.size w w' := by
  have hlen := h.hlen
  by_cases hl : 256 < (len : Int)
  · go_enter Yba.func5, Yba.ntmps5
    go_wp2
    go_ret
    exact ⟨⟨_, rfl, fun h => by cases h⟩, (Below.refl _ _).alloc (Nat.le_refl _) _⟩
  · go_enter Yba.func5, Yba.ntmps5
    go_wp2
    go_loop [3] (fun i => ∃ k : Nat, k ≤ len ∧ i = .int .i64 k ∧ ∀ (j : Nat) p, j < k → ps[j]? = some p → p.vl ≤ 256) (fun i => len - (intOf i).toNat)
    case atStart => exact ⟨0, Nat.zero_le _, rfl, fun j p hj => absurd hj (Nat.not_lt_zero j)⟩
    case round =>
      obtain ⟨k, hk, rfl, hall⟩ := hrel
      have HA : Hid (∀ (j : Nat) p, j < k → ps[j]? = some p → p.vl ≤ 256) := hall
      clear hall
      by_cases hlt : k < len
      · have hlt' : (k : Int) < (len : Int) := by omega
        obtain ⟨p, hp⟩ : ∃ p, ps[k]? = some p := ⟨ps[k]'(by omega), by simp⟩
        obtain ⟨b, off, rfl, hb, c0, c1, c2, c3, c4, c5⟩ := h.cs k p hp
        have HP : Hid (ps[k]? = some p) := hp
        clear hp h c0 c1 c2 c4 c5
        by_cases hv : (256 : Int) < (p.vl : Int)
        · go_wp2
          go_ret
          exact ⟨⟨_, rfl, fun h => by cases h⟩, (Below.refl _ _).alloc (Nat.le_refl _) _⟩
        · go_wp2
          go_round
          case rel =>
            refine ⟨k + 1, by omega, by go_num, fun j q hj hq => ?_⟩
            by_cases e : j = k
            · subst e
              rw [HP.out] at hq
              cases hq
              omega
            · exact HA.out j q (by omega) hq
          case measure => simp [intOf]; omega
      · have hlt' : ¬ (k : Int) < (len : Int) := by omega
        clear h
        go_wp2
        go_ret
        refine ⟨⟨_, rfl, fun _ p hp => ?_⟩, (Below.refl _ _).alloc (Nat.le_refl _) _⟩
        obtain ⟨j, hj⟩ := List.getElem?_of_mem hp
        exact HA.out j p (by have := (List.getElem?_eq_some_iff.1 hj).1; omega) hj
end Go.Proofs.Ybulkuyw
