/-
  WALK: up (16).
-/
import Derived.Test.YbulkuywCur
namespace Go.Proofs.Ybulkuyw
open Go.RowKit

/-- an element of the map of incarnations -/
def okS : Value → Bool | .int .u64 _ => true | _ => false

/-- the member's incarnation raised to r's -/
def upd (U : Int → Option Int) (r : Int × Int) : Int → Option Int := fun x => if x = r.1 then some (max ((U r.1).getD 0) r.2) else U x
/-- .. by each of L that may be up, where b -/
def upV (ps : List PV) (n me : Nat) (b : Bool) (U : Int → Option Int) (L : List (Int × Int)) : Int → Option Int := L.foldl (fun U v => if (b && curB ps n me v.1 v.2) = true then upd U v else U) U
/-- .. by each candidate of L and by what it vouches for -/
def upC (ps : List PV) (n me : Nat) (si : Int) (U : Int → Option Int) (L : List (Int × Int)) : Int → Option Int :=
  L.foldl (fun U r => upV ps n me (vok ps n me si r.1 r.2) (upd U r) (vof ps n me si r.1 r.2)) U
def noU : Int → Option Int := fun _ => none

theorem upV_take {ps : List PV} {n me : Nat} {b : Bool} {U : Int → Option Int} {L : List (Int × Int)} {k : Nat} {r : Int × Int} (h : L[k]? = some r) :
    upV ps n me b U (L.take (k + 1)) = if (b && curB ps n me r.1 r.2) = true then upd (upV ps n me b U (L.take k)) r else upV ps n me b U (L.take k) := by
  rw [take_req h]; simp [upV, List.foldl_append]
theorem upC_take {ps : List PV} {n me : Nat} {si : Int} {U : Int → Option Int} {L : List (Int × Int)} {k : Nat} {r : Int × Int} (h : L[k]? = some r) :
    upC ps n me si U (L.take (k + 1)) = upV ps n me (vok ps n me si r.1 r.2) (upd (upC ps n me si U (L.take k)) r) (vof ps n me si r.1 r.2) := by
  rw [take_req h]; simp [upC, List.foldl_append]

/-- the map at block b holds U -/
def Um (w : World) (b n : Nat) (U : Int → Option Int) : Prop := ∃ f, Mp w 3 okS b n f ∧ ∀ x : Int, f (.int .i64 x) = (U x).map (Value.int .u64)

theorem Um.below {w w' : World} {b n B : Nat} {U : Int → Option Int} (h : Um w b n U) (hB : Below B w w') (hb : b < B) : Um w' b n U := by
  obtain ⟨f, h1, h2⟩ := h
  exact ⟨f, h1.below hB hb, h2⟩
theorem Um.mono {w : World} {b n n' : Nat} {U : Int → Option Int} (h : Um w b n U) (hn : n ≤ n') : Um w b n' U := by
  obtain ⟨f, h1, h2⟩ := h
  exact ⟨f, h1.mono hn, h2⟩

theorem f_upd {f : Lit → Option Value} {U : Int → Option Int} (hf : ∀ x : Int, f (.int .i64 x) = (U x).map (Value.int .u64)) (r : Int × Int) :
    ∀ x : Int, setAt f (.int .i64 r.1) (.int .u64 (max ((U r.1).getD 0) r.2)) (.int .i64 x) = (upd U r x).map (Value.int .u64) := fun x => by
  unfold setAt upd
  by_cases e : x = r.1
  · subst e; rw [if_pos (lit_eq _), if_pos rfl]; rfl
  · rw [if_neg (by rw [lit_ne e]; simp), if_neg e]; exact hf x

/-- short lists of fit numbers -/
def ReqOk (L : List (Int × Int)) : Prop := L.length ≤ 256 ∧ ∀ r ∈ L, I64 r.1 ∧ U64 r.2
def VsWf (ps : List PV) : Prop := ∀ i, ReqOk (peerAt ps i).vs

theorem candTo_mem {ps : List PV} {me : Nat} {si : Int} {k : Nat} {r : Int × Int} (h : r ∈ candTo ps me si k) : ∃ i, i < k ∧ r.1 = (i : Int) ∧ ((i = me ∧ r.2 = si) ∨ (i ≠ me ∧ (peerAt ps i).hd = true ∧ r.2 = (peerAt ps i).lt)) := by
  unfold candTo at h
  obtain ⟨i, hi, he⟩ := List.mem_filterMap.1 h
  have hik := List.mem_range.1 hi
  unfold candF at he
  split at he
  · rename_i e; cases he; exact ⟨i, hik, by simp [e], .inl ⟨e, rfl⟩⟩
  · rename_i e
    split at he
    · rename_i hd; cases he; exact ⟨i, hik, rfl, .inr ⟨e, hd, rfl⟩⟩
    · cases he

theorem candTo_ok {ps : List PV} {me : Nat} {si : Int} {k : Nat} (hps : LtOk ps) (hsi : U64 si) (hk : k ≤ 6) : ReqOk (candTo ps me si k) := by
  refine ⟨by have := candTo_len ps me si k; omega, fun r hr => ?_⟩
  obtain ⟨i, hi, h1, h2⟩ := candTo_mem hr
  refine ⟨by rw [h1]; exact i64_small (by omega) (by omega), ?_⟩
  rcases h2 with ⟨_, h2⟩ | ⟨_, _, h2⟩
  · rw [h2]; exact hsi
  · rw [h2]; exact hps i

theorem vof_ok {ps : List PV} {n me : Nat} {si : Int} (hps : LtOk ps) (hvs : VsWf ps) (hsi : U64 si) (hn : n ≤ 6) (mm cc : Int) : ReqOk (vof ps n me si mm cc) := by
  unfold vof
  split
  · exact candTo_ok hps hsi hn
  · split
    · exact hvs _
    · exact ⟨by simp, by simp⟩

theorem ReqOk.get {L : List (Int × Int)} (h : ReqOk L) {k : Nat} {r : Int × Int} (hr : L[k]? = some r) : I64 r.1 ∧ U64 r.2 := h.2 r (List.mem_of_getElem? hr)

/-- the call hands back the map of those that are up -/
def UpRet (w w' : World) (U : Int → Option Int) (e : Ending) : Prop := ∃ b n, e = .returned (.map (some b)) ∧ Um w' b n U ∧ w.heap.size ≤ b

theorem Reqs.at {w : World} {v : Value} {L : List (Int × Int)} (h : Reqs w v L) {k : Nat} {r : Int × Int} (hr : L[k]? = some r) : ∃ b off cap, v = .slice (some ⟨b, off, none⟩) L.length cap ∧ w.cell? ⟨b, off + k * 2, none⟩ = some (.int .i64 r.1) ∧ w.cell? ⟨b, off + k * 2 + 1, none⟩ = some (.int .u64 r.2) := by
  obtain ⟨a, cap, rfl, _, hc⟩ := h
  obtain ⟨b, off, rfl, c0, c1⟩ := hc k r hr
  exact ⟨b, off, cap, rfl, c0, c1⟩

set_option maxRecDepth 100000 in
set_option maxHeartbeats 2000000 in
theorem up_any {d n me : Nat} {si st : Int} {ps : List PV} {g cap : Nat} {m : Nat → Nat} (w : World) (h : DetN w d n me si st ps g cap m) (hn : n ≤ 6) (hps : LtOk ps) (hvs : VsWf ps) (hsi : U64 si) :
    Calls Yba.prog 16 #[.pointer (some ⟨d, 0, none⟩)] w fun e w' => UpRet w w' (upC ps n me si noU (candTo ps me si n)) e ∧ Below w.heap.size w w' := by
  have hcv := fun o => vouched_any (w.alloc o) (h.mono ((Below.refl _ _).alloc (Nat.le_refl _) o)) hn hps
  have hco := candTo_ok (ps := ps) (me := me) (k := n) hps hsi hn
  have hvo := fun mm cc => vof_ok (n := n) (me := me) hps hvs hsi hn mm cc
  have hL6 := candTo_len ps me si n
  have hvof := fun (wr : World) (hB : Below w.heap.size w wr) (mm cc : Int) (hmm : I64 mm) => vouchesOf_any mm cc wr (h.mono hB) hn hps hmm
  have hcur := fun (wr : World) (hB : Below w.heap.size w wr) (mm cc : Int) (hmm : I64 mm) (hcc : U64 cc) => current_any mm cc wr (h.mono hB) hn hmm hcc
  clear h
  generalize candTo ps me si n = L at *
  have hll : (L.length : Int) ≤ 6 := by omega
  have hmm := @run_makeMap
  have hmk := mp_made w 3 okS
  go_enter Yba.func16, Yba.ntmps16
  go_wp2_with fail
  refine (hcv _).mono ?_
  clear hcv hmm
  rintro e w2 ⟨⟨v0, rfl, hq⟩, hb⟩
  obtain ⟨a0, cap0, hv0, hl0, hcq⟩ := id hq
  subst hv0
  clear hcq
  have hU0 : Um w2 w.heap.size 0 noU := ⟨_, hmk.below hb (by simp), fun _ => rfl⟩
  have hB0 : Below w.heap.size w w2 := ((Below.refl _ _).alloc (Nat.le_refl _) _).trans (hb.mono (by simp))
  clear hmk hb
  go_wp2_with fail
  go_loopw [14] (fun i wr => ∃ k : Nat, k ≤ L.length ∧ i = .int .i64 k ∧ Um wr w.heap.size (k * 1000) (upC ps n me si noU (L.take k)) ∧ Reqs wr (.slice a0 L.length cap0) L ∧ Below w.heap.size w wr) (fun i _ => L.length - (intOf i).toNat)
  case atStart => exact ⟨0, Nat.zero_le _, rfl, hU0, hq, hB0⟩
  case round =>
    obtain ⟨k, hk, rfl, hU, hq, hB⟩ := hrel
    clear hU0 hB0
    by_cases hlt : k < L.length
    · have hlt' : (k : Int) < (L.length : Int) := by omega
      obtain ⟨r, hr⟩ : ∃ r, L[k]? = some r := ⟨L[k], by simp⟩
      have hrw := hco.get hr
      have HT : Hid (upC ps n me si noU (L.take (k + 1)) = upV ps n me (vok ps n me si r.1 r.2) (upd (upC ps n me si noU (L.take k)) r) (vof ps n me si r.1 r.2)) := upC_take hr
      obtain ⟨br, offr, capr, ev, c0, c1⟩ := hq.at hr
      cases ev
      have hbw : br < wr.heap.size := cell_lt c0
      clear hr
      generalize upC ps n me si noU (L.take k) = U at *
      obtain ⟨f, hm, hf⟩ := hU
      have hkey := Maps.keyOf_int_mk (P := Yba.prog) Yba.underlying3 ((wfI r.1).2 hrw.1)
      have hmA := hm.alloc (Obj.cells #[.int .i64 r.1, .int .u64 r.2] 30)
      have hlook := hmA.look kInt Yba.underlying51 (z22 _) rfl hkey false
      have hv : lookVal false (f (.int .i64 r.1)) (.int .u64 0) = .int .u64 ((U r.1).getD 0) := by
        rw [hf r.1]; cases U r.1 <;> rfl
      rw [hv] at hlook
      have HF : Hid (∀ x : Int, f (.int .i64 x) = (U x).map (Value.int .u64)) := hf
      clear hf hv hm
      have hsz := hB.size
      go_wp2_with (first | (at_mapUpdate; refine wpList_store_mp _ rfl _ _ _ 51 rfl 3 22 kInt Yba.underlying51 w.heap.size (k * 1000) f rfl hmA (by unfold maxLen; omega) _ _ _ rfl rfl hkey rfl ?_; intro W1 hst hg1; have bR := (Box.new wr #[.int .i64 r.1, .int .u64 r.2] 30).kept' hg1 hmA.nocell rfl; have r0 := bR.cell 0; have r1 := bR.cell 1; have hrl := bR.lt; simp at r0 r1; clear bR hlook))
      have hU1 : Um W1 w.heap.size (k * 1000 + 1) (upd U r) := ⟨_, hst, f_upd HF.out r⟩
      have hB1 : Below w.heap.size w W1 := (hB.alloc hB.size _).grown hg1 (by simp; omega) (fun j hj => by cases hj; exact Nat.le_refl _)
      have hq1 := (hq.mono ((Below.refl _ _).alloc (Nat.le_refl _) (Obj.cells #[.int .i64 r.1, .int .u64 r.2] 30))).kept hg1 (fun b e o => by cases e; exact hmA.nocell o)
      clear hst hg1 HF hmA hkey hq hB
      have hc := hvof W1 hB1 r.1 r.2 hrw.1
      have hMo := hvo r.1 r.2
      unfold rv at hc
      generalize vof ps n me si r.1 r.2 = M at *
      generalize vok ps n me si r.1 r.2 = bk at *
      generalize upd U r = U1 at *
      refine hc.mono ?_
      clear hc hvof
      rintro e W2 ⟨⟨v1, rfl, hqM⟩, hb2⟩
      obtain ⟨a1, cap1, hv1, hl1, hcq1⟩ := id hqM
      subst hv1
      clear hcq1
      have hU2 := hU1.below hb2 (by have := hB1.size; have := cell_lt r0; omega)
      have hB2 := hB1.trans (hb2.mono hB1.size)
      have hq2 := hq1.mono hb2
      clear hU1 hB1 hq1 hb2 r0 r1 hrl c0 c1 hbw
      have hMl := hMo.1
      have hml : (M.length : Int) ≤ 256 := by omega
      go_wp2_with fail
      go_loopw [36] (fun i wr => ∃ j : Nat, j ≤ M.length ∧ i = .int .i64 j ∧ Um wr w.heap.size (k * 1000 + 1 + j) (upV ps n me bk U1 (M.take j)) ∧ Reqs wr (.slice (some ⟨br, offr, none⟩) L.length cap0) L ∧ Reqs wr (.slice a1 M.length cap1) M ∧ Below w.heap.size w wr) (fun i _ => M.length - (intOf i).toNat)
      case atStart => exact ⟨0, Nat.zero_le _, rfl, hU2, hq2, hqM, hB2⟩
      case round =>
        obtain ⟨j, hj, rfl, hU, hqL, hqM, hB⟩ := hrel
        clear hU2 hB2 hq2
        by_cases hltj : j < M.length
        · have hltj' : (j : Int) < (M.length : Int) := by omega
          obtain ⟨q, hq⟩ : ∃ r, M[j]? = some r := ⟨M[j], by simp⟩
          have hqw := hMo.get hq
          have HV : Hid (upV ps n me bk U1 (M.take (j + 1)) = if (bk && curB ps n me q.1 q.2) = true then upd (upV ps n me bk U1 (M.take j)) q else upV ps n me bk U1 (M.take j)) := upV_take hq
          obtain ⟨br1, offr1, capr1, ev, c0, c1⟩ := hqM.at hq
          cases ev
          have hbw := cell_lt c0
          have hsz := hB.size
          clear hq
          generalize upV ps n me bk U1 (M.take j) = U2 at *
          have bB := (hB.alloc hB.size (Obj.cells #[.int .i64 q.1, .int .u64 q.2] 30))
          have hc := hcur (wr.alloc (Obj.cells #[.int .i64 q.1, .int .u64 q.2] 30)) bB q.1 q.2 hqw.1 hqw.2
          unfold rv at hc
          have hA := (Below.refl wr.heap.size wr).alloc (Nat.le_refl _) (Obj.cells #[.int .i64 q.1, .int .u64 q.2] 30)
          have hU := hU.below hA (by obtain ⟨f, h1, _⟩ := hU; exact h1.lt)
          have hqL := hqL.mono hA
          have hqM := hqM.mono hA
          clear hA
          cases bk with
          | false =>
            simp only [Bool.false_and, Bool.false_eq_true, if_false] at HV
            clear hc hcur
            go_wp2_with fail
            go_roundw
            case rel => exact ⟨j + 1, by omega, by go_num, by rw [HV.out]; exact hU.mono (by omega), hqL, hqM, bB⟩
            case measure => simp [intOf]; omega
          | true =>
            rw [Bool.true_and] at HV
            clear hcur
            generalize curB ps n me q.1 q.2 = bc at *
            cases bc with
            | false =>
              simp only [Bool.false_eq_true, if_false] at HV
              go_wp2_with fail
              refine hc.mono ?_
              clear hc
              rintro e W3 ⟨rfl, hb3⟩
              go_wp2_with fail
              go_roundw
              case rel => exact ⟨j + 1, by omega, by go_num, by rw [HV.out]; exact (hU.mono (by omega)).below hb3 (by obtain ⟨f, h1, _⟩ := hU; exact h1.lt), hqL.mono hb3, hqM.mono hb3, bB.trans (hb3.mono bB.size)⟩
              case measure => simp [intOf]; omega
            | true =>
              simp only [if_true] at HV
              go_wp2_with fail
              refine hc.mono ?_
              clear hc
              rintro e W3 ⟨rfl, hb3⟩
              have bR := (Box.new wr #[.int .i64 q.1, .int .u64 q.2] 30).mono hb3
              have r0 := bR.cell 0
              have r1 := bR.cell 1
              have hrl := bR.lt
              simp at r0 r1
              obtain ⟨f, hm, hf⟩ := hU.below hb3 (by obtain ⟨f, h1, _⟩ := hU; exact h1.lt)
              have hqL := hqL.mono hb3
              have hqM := hqM.mono hb3
              have bB := bB.trans (hb3.mono bB.size)
              have hkey := Maps.keyOf_int_mk (P := Yba.prog) Yba.underlying3 ((wfI q.1).2 hqw.1)
              have hlook := hm.look kInt Yba.underlying51 (z22 _) rfl hkey false
              have hv : lookVal false (f (.int .i64 q.1)) (.int .u64 0) = .int .u64 ((U2 q.1).getD 0) := by
                rw [hf q.1]; cases U2 q.1 <;> rfl
              rw [hv] at hlook
              have HF : Hid (∀ x : Int, f (.int .i64 x) = (U2 x).map (Value.int .u64)) := hf
              clear hf hv hb3 bR hU
              go_wp2_with (first | (at_mapUpdate; refine wpList_store_mp _ rfl _ _ _ 51 rfl 3 22 kInt Yba.underlying51 w.heap.size (k * 1000 + 1 + j) f rfl hm (by unfold maxLen; omega) _ _ _ rfl rfl hkey rfl ?_; intro W4 hst hg4; clear hlook r0 r1))
              have hU4 : Um W4 w.heap.size (k * 1000 + 1 + j + 1) (upd U2 q) := ⟨_, hst, f_upd HF.out q⟩
              have hB4 : Below w.heap.size w W4 := bB.grown hg4 bB.size (fun j hj => by cases hj; exact Nat.le_refl _)
              have hqL4 := hqL.kept hg4 (fun b e o => by cases e; exact hm.nocell o)
              have hqM4 := hqM.kept hg4 (fun b e o => by cases e; exact hm.nocell o)
              clear hst hg4 HF hm hkey hqL hqM bB
              go_roundw
              case rel => exact ⟨j + 1, by omega, by go_num, by rw [HV.out]; exact hU4, hqL4, hqM4, hB4⟩
              case measure => simp [intOf]; omega
        · have hltj' : ¬ (j : Int) < (M.length : Int) := by omega
          obtain rfl : j = M.length := by omega
          rw [List.take_length] at hU
          clear hcur
          go_wp2_with fail
          go_roundw
          case rel => exact ⟨k + 1, by omega, by go_num, by rw [HT.out]; exact hU.mono (by omega), hqL, hB⟩
          case measure => simp [intOf]; omega
    · have hlt' : ¬ (k : Int) < (L.length : Int) := by omega
      go_wp2
      go_ret
      obtain rfl : k = L.length := by omega
      rw [List.take_length] at hU
      exact ⟨⟨_, _, rfl, hU, Nat.le_refl _⟩, hB⟩
end Go.Proofs.Ybulkuyw
