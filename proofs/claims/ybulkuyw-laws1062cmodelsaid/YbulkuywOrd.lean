/-
  WALK: orderer (7).
-/
import Derived.Test.YbulkuywHall
namespace Go.Proofs.Ybulkuyw
open Go.RowKit

/-- nobody in U stands against it -/
def hallP (U : Int → Option Int) (bad : Int → Int → Bool) : Prop := ∀ x c, U x = some c → bad x c = false
/-- r is the first of L that is good, or L's head where none is -/
def IsOrd (L : List (Int × Int)) (good : Int × Int → Prop) (r : Int × Int) : Prop :=
  (∃ k : Nat, L[k]? = some r ∧ good r ∧ ∀ j : Nat, j < k → ∀ q, L[j]? = some q → ¬ good q) ∨ ((∀ j : Nat, j < L.length → ∀ q, L[j]? = some q → ¬ good q) ∧ L[0]? = some r)
/-- the call hands back such a one -/
def OrdRet (L : List (Int × Int)) (good : Int × Int → Prop) (e : Ending) : Prop := ∃ r, e = .returned (rv r.1 r.2) ∧ IsOrd L good r
/-- none of the first k is good -/
def NoneTo (L : List (Int × Int)) (good : Int × Int → Prop) (k : Nat) : Prop := ∀ j : Nat, j < k → ∀ q, L[j]? = some q → ¬ good q
theorem NoneTo.step {L : List (Int × Int)} {good : Int × Int → Prop} {k : Nat} (h : NoneTo L good k) {r : Int × Int} (hr : L[k]? = some r) (hg : ¬ good r) : NoneTo L good (k + 1) := fun j hj q hq => by
  by_cases e : j = k
  · subst e; rw [hr] at hq; cases hq; exact hg
  · exact h j (by omega) q hq

theorem candTo_pos {ps : List PV} {me : Nat} {si : Int} {n : Nat} (h : me < n) : 0 < (candTo ps me si n).length := by
  have : ((me : Int), si) ∈ candTo ps me si n := List.mem_filterMap.2 ⟨me, List.mem_range.2 h, by simp [candF]⟩
  exact List.length_pos_of_mem this

/-- the orderer's test, for this detector -/
def goodO (ps : List PV) (n me : Nat) (si st now : Int) (kp : Bool) (r : Int × Int) : Prop := hallP (upC ps n me si noU (candTo ps me si n)) (badB ps n me si st now kp r.1 r.2)

set_option maxRecDepth 100000 in
set_option maxHeartbeats 2000000 in
theorem ord_any {d n me : Nat} {si st : Int} {ps : List PV} {g cap : Nat} {m : Nat → Nat} (now : Int) (kp : Bool) (w : World) (h : DetN w d n me si st ps g cap m) (hn : n ≤ 6) (hme : me < n) (hps : LtOk ps) (hvs : VsWf ps) (hsi : U64 si) :
    Calls Yba.prog 7 #[.pointer (some ⟨d, 0, none⟩), .int .i64 now, .bool kp] w fun e w' => OrdRet (candTo ps me si n) (goodO ps n me si st now kp) e ∧ Below w.heap.size w w' := by
  have hv : VsOk ps := fun i => (hvs i).1
  have hcv := fun o => vouched_any (w.alloc o) (h.mono ((Below.refl _ _).alloc (Nat.le_refl _) o)) hn hps
  have hup := fun (wr : World) (hB : Below w.heap.size w wr) => up_any wr (h.mono hB) hn hps hvs hsi
  have hco := candTo_ok (ps := ps) (me := me) (k := n) hps hsi hn
  have hL6 := candTo_len ps me si n
  have hL0 := candTo_pos (ps := ps) (si := si) hme
  have hall := fun (b nb : Nat) (U : Int → Option Int) (rm rc : Int) (wr : World) (hB : Below w.heap.size w wr) (hrm : I64 rm) (hU : Um wr b nb U) => hall_any b nb U rm rc now kp wr (h.mono hB) hn hps hv hrm hU
  have HG : Hid (∀ r, goodO ps n me si st now kp r ↔ hallP (upC ps n me si noU (candTo ps me si n)) (badB ps n me si st now kp r.1 r.2)) := fun _ => Iff.rfl
  clear h
  generalize goodO ps n me si st now kp = good at *
  generalize upC ps n me si noU (candTo ps me si n) = U at *
  generalize candTo ps me si n = L at *
  have hll : (L.length : Int) ≤ 6 := by omega
  go_enter Yba.func7, Yba.ntmps7
  go_wp2_with fail
  refine (hcv _).mono ?_
  clear hcv
  rintro e w1 ⟨⟨v0, rfl, hq⟩, hb⟩
  have bz := (Box.new w #[.int .i64 0, .int .u64 0] 30).mono hb
  have hB1 : Below w.heap.size w w1 := ((Below.refl _ _).alloc (Nat.le_refl _) _).trans (hb.mono (by simp))
  clear hb
  go_wp2_with fail
  refine (hup _ hB1).mono ?_
  clear hup
  rintro e w2 ⟨⟨b, nb, rfl, hU, hlo⟩, hb⟩
  have bz := bz.mono hb
  have hq := hq.mono hb
  have hB2 := hB1.trans (hb.mono hB1.size)
  clear hb hB1
  obtain ⟨a0, cap0, hv0, hl0, hcq⟩ := id hq
  subst hv0
  clear hcq
  go_wp2_with fail
  go_loopw [17] (fun i wr => ∃ k : Nat, k ≤ L.length ∧ i = .int .i64 k ∧ Um wr b nb U ∧ Reqs wr (.slice a0 L.length cap0) L ∧ Box wr w.heap.size #[.int .i64 0, .int .u64 0] 30 ∧ Hid (NoneTo L good k) ∧ Below w.heap.size w wr) (fun i _ => L.length - (intOf i).toNat)
  case atStart => exact ⟨0, Nat.zero_le _, rfl, hU, hq, bz, (fun j hj => by omega), hB2⟩
  case round =>
    obtain ⟨k, hk, rfl, hU, hq, bz, HN, hB⟩ := hrel
    clear hB2
    by_cases hlt : k < L.length
    · have hlt' : (k : Int) < (L.length : Int) := by omega
      obtain ⟨r, hr⟩ : ∃ r, L[k]? = some r := ⟨L[k], by simp⟩
      have hrw := hco.get hr
      have HR : Hid (L[k]? = some r) := hr
      have HGr : Hid (good r ↔ hallP U (badB ps n me si st now kp r.1 r.2)) := HG.out r
      obtain ⟨br, offr, capr, ev, c0, c1⟩ := hq.at hr
      cases ev
      have hbw := cell_lt c0
      clear hr HG
      have hA := (Below.refl wr.heap.size wr).alloc (Nat.le_refl _) (Obj.cells #[.int .i64 r.1, .int .u64 r.2] 30)
      have hBA := hB.trans (hA.mono hB.size)
      have hUA := hU.below hA (by obtain ⟨f, h1, _⟩ := hU; exact h1.lt)
      have hqA := hq.mono hA
      have bzA := bz.mono hA
      have bR := Box.new wr #[.int .i64 r.1, .int .u64 r.2] 30
      have hc := hall b nb U r.1 r.2 _ hBA hrw.1 hUA
      unfold rv at hc
      clear hU hq bz hB hA hall
      go_wp2_with fail
      refine hc.mono ?_
      clear hc
      rintro e w3 ⟨⟨bb, rfl, hbb⟩, hb3⟩
      have HBB : Hid (bb = true ↔ good r) := by show _ ↔ _; rw [HGr.out]; exact hbb
      clear hbb
      have hB3 := hBA.trans (hb3.mono hBA.size)
      have bz := bzA.mono hb3
      have bR := bR.mono hb3
      have hUA := hUA.below hb3 (by obtain ⟨f, h1, _⟩ := hUA; exact h1.lt)
      have hqA := hqA.mono hb3
      clear hb3 hBA bzA
      cases bb with
      | false =>
        clear bR
        go_wp2_with fail
        go_roundw
        case rel => exact ⟨k + 1, by omega, by go_num, hUA, hqA, bz, HN.out.step HR.out (fun hg => absurd (HBB.out.2 hg) (by simp)), hB3⟩
        case measure => simp [intOf]; omega
      | true =>
        have z0 := bz.cell 0
        have z1 := bz.cell 1
        have zf := bz.frozen
        have zl := bz.lt
        have r0 := bR.cell 0
        have r1 := bR.cell 1
        simp at z0 z1 r0 r1
        go_wp2_with fail
        have y0 : ((w3.setCell ⟨w.heap.size, 0, none⟩ (.int .i64 r.1)).setCell ⟨w.heap.size, 1, none⟩ (.int .u64 r.2)).cell? ⟨w.heap.size, 0, none⟩ = some (.int .i64 r.1) := by rw [cso (by simp)]; exact css z0
        have y1 : ((w3.setCell ⟨w.heap.size, 0, none⟩ (.int .i64 r.1)).setCell ⟨w.heap.size, 1, none⟩ (.int .u64 r.2)).cell? ⟨w.heap.size, 1, none⟩ = some (.int .u64 r.2) := css (by rw [cso (by simp)]; exact z1)
        have hB4 : Below w.heap.size w ((w3.setCell ⟨w.heap.size, 0, none⟩ (.int .i64 r.1)).setCell ⟨w.heap.size, 1, none⟩ (.int .u64 r.2)) := (hB3.setCell (by simp) _).setCell (by simp) _
        exact bodyPost_ret (v := rv r.1 r.2) (by simp [results, Yba.results7, go_sem, rv, y0, y1]) rfl ⟨⟨r, rfl, .inl ⟨k, HR.out, by first | exact HBB.out.1 trivial | exact HBB.out.1 rfl, HN.out⟩⟩, hB4⟩
    · have hlt' : ¬ (k : Int) < (L.length : Int) := by omega
      obtain ⟨r, hr⟩ : ∃ r, L[0]? = some r := ⟨L[0], by simp⟩
      obtain rfl : k = L.length := by omega
      have HR : Hid (L[0]? = some r) := hr
      obtain ⟨br, offr, capr, ev, c0, c1⟩ := hq.at hr
      cases ev
      simp only [Nat.zero_mul, Nat.add_zero] at c0 c1
      have hbw := cell_lt c0
      have z0 := bz.cell 0
      have z1 := bz.cell 1
      have zf := bz.frozen
      have zl := bz.lt
      simp at z0 z1
      have hL0' : (0 : Int) < (L.length : Int) := by omega
      clear hr HG hall
      go_wp2_with fail
      have y0 : ((wr.setCell ⟨w.heap.size, 0, none⟩ (.int .i64 r.1)).setCell ⟨w.heap.size, 1, none⟩ (.int .u64 r.2)).cell? ⟨w.heap.size, 0, none⟩ = some (.int .i64 r.1) := by rw [cso (by simp)]; exact css z0
      have y1 : ((wr.setCell ⟨w.heap.size, 0, none⟩ (.int .i64 r.1)).setCell ⟨w.heap.size, 1, none⟩ (.int .u64 r.2)).cell? ⟨w.heap.size, 1, none⟩ = some (.int .u64 r.2) := css (by rw [cso (by simp)]; exact z1)
      have hB4 : Below w.heap.size w ((wr.setCell ⟨w.heap.size, 0, none⟩ (.int .i64 r.1)).setCell ⟨w.heap.size, 1, none⟩ (.int .u64 r.2)) := (hB.setCell (by simp) _).setCell (by simp) _
      exact bodyPost_ret (v := rv r.1 r.2) (by simp [results, Yba.results7, go_sem, rv, y0, y1]) rfl ⟨⟨r, rfl, .inr ⟨HN.out, HR.out⟩⟩, hB4⟩
end Go.Proofs.Ybulkuyw
