/-
  THE GROUP THAT CAME IN: the struct by value, its slice of peers, each peer's slice of vouches: opened to what the walks ask ('Grp').
-/
import Derived.Test.YbulkuywGrp
import Derived.Deep.SlicePairs
import Derived.Lib.SmallJoins
import Derived.OpenShut
namespace Go.Proofs.Ybulkuyw
open Go.RowKit Go.Deep Go.ChangeShapes Go.WideShapes Go.ChangeAt

theorem plain_addr {w : World} {a : Addr} {v : Value} (h : w.cell? a = some v) : ∃ b off, a = ⟨b, off, none⟩ ∧ b < w.heap.size := by
  have hl := cell_lt h
  obtain ⟨b, off, sp⟩ := a
  cases sp with
  | none => exact ⟨b, off, rfl, hl⟩
  | some s => exfalso; revert h; simp only [World.cell?]; split <;> simp
theorem add_plain (b off n : Nat) : (⟨b, off, none⟩ : Addr).add n = ⟨b, off + n, none⟩ := by
  unfold Addr.add; split
  · rename_i h; subst h; rfl
  · rfl

theorem range_get {α : Type} {q : Nat → α} {len k : Nat} {r : α} (h : ((List.range len).map q)[k]? = some r) : k < len ∧ q k = r := by
  obtain ⟨hk, e⟩ := List.getElem?_eq_some_iff.1 h
  simp at hk e
  exact ⟨hk, e⟩

set_option maxRecDepth 100000
section
variable {H : Type} {enc : TypeId × Value → H} {w : World} {base : Nat} {spare : Nat → Bool} {held : Bool}

/-- one peer's vouches -/
def VsIn (w : World) (p : PV) : Prop := p.vs.length = p.vl ∧ p.vl ≤ maxLen ∧ ∀ (k : Nat) m c, p.vs[k]? = some (m, c) → -128 ≤ m ∧ m ≤ 127 ∧ U64 c ∧ ∃ b off, p.va = some ⟨b, off, none⟩ ∧ b < w.heap.size ∧ w.cell? ⟨b, off + k * 2, none⟩ = some (.int .i8 m) ∧ w.cell? ⟨b, off + k * 2 + 1, none⟩ = some (.int .u64 c)

theorem vs_open {fuel : Nat} {cs : List Value} {x : DataW H × List MemPlace} (h : DataW.trod enc Yba.prog w base spare held fuel 39 cs = some x) :
    ∃ (va : Option Addr) (vl vc : Nat) (vs : List (Int × Int)), cs = [.slice va vl vc] ∧ ∀ hd lt kn si sa, VsIn w ⟨hd, lt, kn, va, vl, vc, si, sa, vs⟩ := by
  rcases open_slice_pairs Yba.underlying39 Yba.underlying73 (by kernel_rfl) rfl rfl (by kernel_rfl) (by kernel_rfl) h with ⟨rfl, _⟩ | ⟨a, len, cap, m, n, V0, V1, D0, D1, P0, P1, rfl, _, hl, hm, hmm, _, hx⟩
  · exact ⟨none, 0, 0, [], rfl, fun _ _ _ _ _ => ⟨rfl, Nat.zero_le _, fun k m c hk => by simp at hk⟩⟩
  · have hlm : len ≤ m := by rw [hmm]; split <;> omega
    obtain ⟨q, hq⟩ := choose_lt (n := len) (α := Int × Int) (p := fun i r => (-128 ≤ r.1 ∧ r.1 ≤ 127) ∧ U64 r.2 ∧ w.cell? (a.add (i * 2)) = some (.int .i8 r.1) ∧ w.cell? (a.add (i * 2 + 1)) = some (.int .u64 r.2)) (fun i hi => by
      obtain ⟨c0, c1, t0, t1⟩ := hx i (by omega)
      obtain ⟨n0, e0, _, w0⟩ := DataW.trod_int (show Yba.prog.underlying 71 = some (.int .i8) by kernel_rfl) t0
      obtain ⟨n1, e1, _, w1⟩ := DataW.trod_int Yba.underlying22 t1
      simp only [List.cons.injEq, and_true] at e0 e1
      rw [e0] at c0; rw [e1] at c1
      exact ⟨(n0, n1), bounds_i8 w0, bounds_u64 w1, c0, c1⟩)
    refine ⟨some a, len, cap, (List.range len).map q, rfl, fun _ _ _ _ _ => ⟨by simp, by show len ≤ maxLen; omega, fun k m c hk => ?_⟩⟩
    obtain ⟨hkl, eq⟩ := range_get hk
    have h0 := (hq 0 (by omega)).2.2.1
    have hk2 := hq k hkl
    rw [eq] at hk2
    obtain ⟨b, off, rfl, hb⟩ := plain_addr (a := a) (by simpa [Addr.add] using h0)
    rw [add_plain, add_plain] at hk2
    exact ⟨hk2.1.1, hk2.1.2, hk2.2.1, b, off, rfl, hb, hk2.2.2.1, hk2.2.2.2⟩

theorem peer_open {fuel : Nat} {cs : List Value} {x : DataW H × List MemPlace} (hl : cs.length = 6) (h : DataW.trod enc Yba.prog w base spare held fuel 41 cs = some x) :
    ∃ p : PV, cs = [.bool p.hd, .int .u64 p.lt, .bool p.kn, .slice p.va p.vl p.vc, .int .u64 p.si, .int .i64 p.sa] ∧ VsIn w p ∧ U64 p.lt ∧ U64 p.si ∧ I64 p.sa := by
  obtain ⟨xs, n, _, _, _, hxl, hf⟩ := DataW.trod_struct Yba.underlying41 h
  match cs, hl, xs, hxl with
  | [c0, c1, c2, c3, c4, c5], _, [y0, y1, y2, y3, y4, y5], _ =>
    have k4 : Yba.prog.cellsOf 4 = 1 := by kernel_rfl
    have k22 : Yba.prog.cellsOf 22 = 1 := by kernel_rfl
    have k39 : Yba.prog.cellsOf 39 = 1 := by kernel_rfl
    have k2 : Yba.prog.cellsOf 2 = 1 := by kernel_rfl
    have g0 := hf 0 _ rfl
    have g1 := hf 1 _ rfl
    have g2 := hf 2 _ rfl
    have g3 := hf 3 _ rfl
    have g4 := hf 4 _ rfl
    have g5 := hf 5 _ rfl
    simp [k4, k22, k39, k2] at g0 g1 g2 g3 g4 g5
    obtain ⟨hd, e0, _⟩ := DataW.trod_bool Yba.underlying4 g0
    obtain ⟨lt, e1, _, w1⟩ := DataW.trod_int Yba.underlying22 g1
    obtain ⟨kn, e2, _⟩ := DataW.trod_bool Yba.underlying4 g2
    obtain ⟨va, vl, vc, vs, e3, hv⟩ := vs_open g3
    obtain ⟨si, e4, _, w4⟩ := DataW.trod_int Yba.underlying22 g4
    obtain ⟨sa, e5, _, w5⟩ := DataW.trod_int Yba.underlying2 g5
    simp only [List.cons.injEq, and_true] at e0 e1 e2 e3 e4 e5
    subst e0 e1 e2 e3 e4 e5
    exact ⟨⟨hd, lt, kn, va, vl, vc, si, sa, vs⟩, rfl, hv _ _ _ _ _, bounds_u64 w1, bounds_u64 w4, bounds_i64 w5⟩

theorem grp_open {fuel : Nat} {cs : List Value} {x : DataW H × List MemPlace} (h : DataW.trod enc Yba.prog w base spare held fuel 23 cs = some x) :
    ∃ (a : Option Addr) (len cap : Nat) (ps : List PV), cs = [.slice a len cap] ∧ Grp w.heap.size w a len ps := by
  rcases open_slice Yba.underlying23 h with ⟨rfl, _⟩ | ⟨a, len, cap, m, n, D, Pl, rfl, _, hl, hm, hmm, _, hx⟩
  · exact ⟨none, 0, 0, [], rfl, rfl, Nat.zero_le _, fun i p hp => by simp at hp, fun p hp => by simp at hp, fun p hp => by simp at hp⟩
  · have hlm : len ≤ m := by rw [hmm]; split <;> omega
    have k41 : Yba.prog.cellsOf 41 = 6 := by kernel_rfl
    rw [k41] at hx
    have hI : Inhabited PV := ⟨zeroPV⟩
    obtain ⟨q, hq⟩ := choose_lt (n := len) (α := PV) (p := fun i p => (VsIn w p ∧ U64 p.lt ∧ U64 p.si ∧ I64 p.sa) ∧ w.cell? (a.add (i * 6 + 0)) = some (.bool p.hd) ∧ w.cell? (a.add (i * 6 + 1)) = some (.int .u64 p.lt) ∧ w.cell? (a.add (i * 6 + 2)) = some (.bool p.kn) ∧
        w.cell? (a.add (i * 6 + 3)) = some (.slice p.va p.vl p.vc) ∧ w.cell? (a.add (i * 6 + 4)) = some (.int .u64 p.si) ∧ w.cell? (a.add (i * 6 + 5)) = some (.int .i64 p.sa)) (fun i hi => by
      obtain ⟨cs', h1, h2⟩ := hx i (by omega)
      obtain ⟨_, hlen, hcell⟩ := World.cells?_some h1
      obtain ⟨p, rfl, hv, hw⟩ := peer_open hlen h2
      have e0 := hcell 0 (by omega)
      have e1 := hcell 1 (by omega)
      have e2 := hcell 2 (by omega)
      have e3 := hcell 3 (by omega)
      have e4 := hcell 4 (by omega)
      have e5 := hcell 5 (by omega)
      rw [add_add] at e0 e1 e2 e3 e4 e5
      exact ⟨p, ⟨hv, hw⟩, e0, e1, e2, e3, e4, e5⟩)
    refine ⟨some a, len, cap, (List.range len).map q, rfl, by simp, by omega, fun i p hp => ?_, fun p hp => ?_, fun p hp => ?_⟩
    · obtain ⟨hil, rfl⟩ := range_get hp
      have h0 := (hq 0 (by omega)).2.1
      have hi2 := (hq i hil).2
      obtain ⟨b, off, rfl, hb⟩ := plain_addr (a := a) (by simpa [Addr.add] using h0)
      simp only [add_plain] at hi2
      exact ⟨b, off, rfl, hb, hi2⟩
    · obtain ⟨i, hi, rfl⟩ := List.mem_map.1 hp
      exact (hq i (List.mem_range.1 hi)).1.1
    · obtain ⟨i, hi, rfl⟩ := List.mem_map.1 hp
      exact (hq i (List.mem_range.1 hi)).1.2

/-- THE GROUP BY VALUE -/
theorem group_open {r : Reach} {b0 : Nat} {v : Value} {d : DataW H} {p : List MemPlace} (hv : Value.okWide Yba.prog w r b0 25 v) (h : DataW.Trod enc Yba.prog w base spare held 25 v d p) :
    ∃ (N S si st : Int) (a : Option Addr) (len cap : Nat) (ps : List PV), v = .agg #[.int .u8 N, .int .u8 S, .int .u64 si, .int .i64 st, .slice a len cap] ∧ (0 ≤ N ∧ N ≤ 255) ∧ (0 ≤ S ∧ S ≤ 255) ∧ U64 si ∧ I64 st ∧ Grp w.heap.size w a len ps := by
  obtain ⟨cs, rfl, hsz⟩ := okWide_struct Yba.underlying25 hv
  have k25 : Yba.prog.cellsOf 25 = 5 := by kernel_rfl
  obtain ⟨l⟩ := cs
  rw [k25] at hsz
  obtain ⟨fuel, hf⟩ := h
  obtain ⟨xs, n, _, _, _, hxl, hf⟩ := DataW.trod_struct Yba.underlying25 hf
  match l, hsz, xs, hxl with
  | [c0, c1, c2, c3, c4], _, [y0, y1, y2, y3, y4], _ =>
    have k5 : Yba.prog.cellsOf 5 = 1 := by kernel_rfl
    have k22 : Yba.prog.cellsOf 22 = 1 := by kernel_rfl
    have k2 : Yba.prog.cellsOf 2 = 1 := by kernel_rfl
    have k23 : Yba.prog.cellsOf 23 = 1 := by kernel_rfl
    have g0 := hf 0 _ rfl
    have g1 := hf 1 _ rfl
    have g2 := hf 2 _ rfl
    have g3 := hf 3 _ rfl
    have g4 := hf 4 _ rfl
    simp [Value.cells, k5, k22, k2, k23] at g0 g1 g2 g3 g4
    obtain ⟨N, e0, _, w0⟩ := DataW.trod_int (show Yba.prog.underlying 5 = some (.int .u8) by kernel_rfl) g0
    obtain ⟨S, e1, _, w1⟩ := DataW.trod_int (show Yba.prog.underlying 5 = some (.int .u8) by kernel_rfl) g1
    obtain ⟨si, e2, _, w2⟩ := DataW.trod_int Yba.underlying22 g2
    obtain ⟨st, e3, _, w3⟩ := DataW.trod_int Yba.underlying2 g3
    obtain ⟨a, len, cap, ps, e4, hG⟩ := grp_open g4
    simp only [List.cons.injEq, and_true] at e0 e1 e2 e3 e4
    subst e0 e1 e2 e3 e4
    exact ⟨N, S, si, st, a, len, cap, ps, rfl, bounds_u8 w0, bounds_u8 w1, bounds_u64 w2, bounds_i64 w3, hG⟩
end
end Go.Proofs.Ybulkuyw
