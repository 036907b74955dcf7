/-
  WALK: zzs1062cmodel (8).
-/
import Derived.Test.YbulkuywArr
import Derived.Deep.CutRange
namespace Go.Proofs.Ybulkuyw
open Go.RowKit
set_option linter.unusedSimpArgs false

theorem info4 : (Yba.prog.info? 4).map (fun i => (i.zero, i.size, i.bytes)) = some (some (.bool false), 1, 1) := by kernel_rfl
theorem info22 : (Yba.prog.info? 22).map (fun i => (i.zero, i.size, i.bytes)) = some (some (.int .u64 0), 1, 8) := by kernel_rfl

theorem field41_5 (v0 v1 v2 v3 v4 v5 : Value) (w : World) : (Instr.field 41 (.agg #[v0, v1, v2, v3, v4, v5]) 5).run Yba.prog w = .ok v5 w := by kernel_rfl
theorem upV_false (ps : List PV) (n me : Nat) (U : Int → Option Int) : ∀ L : List (Int × Int), upV ps n me false U L = U
  | [] => rfl
  | r :: L => by have := upV_false ps n me U L; unfold upV at *; simpa using this

/-- WHAT STANDS BEHIND THE MODEL's FIRST LINES: the group's box, the result's, self's; the candidates -/
structure Pre (w W : World) (gb rb sb : Nat) (N S si st : Int) (a : Option Addr) (len cap n me : Nat) (ps : List PV) (v : Value) : Prop where
  g : Box W gb (gbox N S si st a len cap) 25
  r : Box W rb #[.int .i64 0, .int .u64 0] 30
  s : Box W sb #[.int .i64 (me : Int), .int .u64 si] 30
  c : Reqs W v (candTo ps me si n)
  b : Below w.heap.size w W
  gr : Grp W.heap.size W a len ps
  rlo : w.heap.size ≤ rb

set_option maxRecDepth 100000 in
set_option maxHeartbeats 4000000 in
theorem model_any {a : Option Addr} {len : Nat} {ps : List PV} (N S si st : Int) (cap : Nat) (now : Int) (kp : Bool) (hN : 0 ≤ N ∧ N ≤ 255) (hS : 0 ≤ S ∧ S ≤ 255) (hsi : U64 si) (w : World) (h : Grp w.heap.size w a len ps) (hf : ∀ p ∈ ps, p.vl ≤ 256) :
    Calls Yba.prog 8 #[.agg #[.int .u8 N, .int .u8 S, .int .u64 si, .int .i64 st, .slice a len cap], .int .i64 now, .bool kp] w fun e w' => OrdRet (candTo ps (meOf N S) si (nOf N)) (goodO ps (nOf N) (meOf N S) si st now kp) e ∧ Below w.heap.size w w' := by
  have hself := fun (wr : World) => self_any N S si st a len cap hN hS wr
  have hcands := fun (wr : World) (hB : Below w.heap.size w wr) => cands_any N S si st cap hN hS wr (h.next hB)
  have hltO := h.ltOk
  have hvw := h.vsWf hf
  have hn := (nOf_bd N).2
  have hme := meOf_lt N S
  generalize nOf N = n at *
  generalize meOf N S = me at *
  have hco := candTo_ok (ps := ps) (me := me) (k := n) hltO hsi hn
  have hL6 := candTo_len ps me si n
  have hL0 := candTo_pos (ps := ps) (si := si) hme
  have hmkB := run_make_row' (P := Yba.prog) 64 4 (.bool false) 1 Yba.underlying64 info4 rfl .i64 .i64 n (by omega) (by omega)
  have hmkU := run_make_row' (P := Yba.prog) 65 22 (.int .u64 0) 8 Yba.underlying65 info22 rfl .i64 .i64 n (by omega) (by omega)
  have hA := ((Below.refl w.heap.size w).alloc (Nat.le_refl _) (Obj.cells (gbox N S si st a len cap) 25)).alloc (by simp) (Obj.cells #[.int .i64 0, .int .u64 0] 30)
  have bG := (Box.new w (gbox N S si st a len cap) 25).mono ((Below.refl _ _).alloc (Nat.le_refl _) (Obj.cells #[.int .i64 0, .int .u64 0] 30))
  have bZ := Box.new (w.alloc (Obj.cells (gbox N S si st a len cap) 25)) #[.int .i64 0, .int .u64 0] 30
  have g0 := bG.cell 0
  have g1 := bG.cell 1
  have g2 := bG.cell 2
  have g3 := bG.cell 3
  have g4 := bG.cell 4
  simp [gbox] at g0 g1 g2 g3 g4
  have hk := hself ((w.alloc (Obj.cells (gbox N S si st a len cap) 25)).alloc (Obj.cells #[.int .i64 0, .int .u64 0] 30))
  clear hself
  unfold rv at hk
  go_enter Yba.func8, Yba.ntmps8
  go_wp2_with fail
  refine hk.mono ?_
  clear hk g0 g1 g2 g3 g4
  rintro e w1 ⟨rfl, hb1⟩
  have bG := bG.mono hb1
  have bZ := bZ.mono hb1
  have hB1 := hA.trans (hb1.mono (by simp; omega))
  clear hA hb1
  have hA1 := (Below.refl w1.heap.size w1).alloc (Nat.le_refl _) (Obj.cells #[.int .i64 (me : Int), .int .u64 si] 30)
  have bG := bG.mono hA1
  have bZ := bZ.mono hA1
  have bS := Box.new w1 #[.int .i64 (me : Int), .int .u64 si] 30
  have hB2 := hB1.trans (hA1.mono hB1.size)
  have hk := hcands _ hB2
  clear hA1 hB1 hcands
  have g0 := bG.cell 0
  have g1 := bG.cell 1
  have g2 := bG.cell 2
  have g3 := bG.cell 3
  have g4 := bG.cell 4
  simp [gbox] at g0 g1 g2 g3 g4
  go_wp2_with fail
  refine hk.mono ?_
  clear hk g0 g1 g2 g3 g4
  rintro e w2 ⟨⟨v, rfl, hq⟩, hb2⟩
  have hP : Pre w w2 w.heap.size (w.alloc (Obj.cells (gbox N S si st a len cap) 25)).heap.size w1.heap.size N S si st a len cap n me ps v := ⟨bG.mono hb2, bZ.mono hb2, bS.mono hb2, hq, hB2.trans (hb2.mono hB2.size), h.next (hB2.trans (hb2.mono hB2.size)), by simp⟩
  have hsz : (w.alloc (Obj.cells (gbox N S si st a len cap) 25)).heap.size = w.heap.size + 1 := by simp
  rw [hsz] at hP
  clear bG bZ bS hB2 hb2 hsz h hq
  have hLi : ∀ (k : Nat) r, (candTo ps me si n)[k]? = some r → ∃ i : Nat, i < n ∧ r.1 = (i : Int) ∧ U64 r.2 ∧ (i = me → r.2 = si) := fun k r hr => by
    obtain ⟨i, hi, h1, h2⟩ := candTo_mem (List.mem_of_getElem? hr)
    refine ⟨i, hi, h1, (hco.get hr).2, fun e => ?_⟩
    rcases h2 with ⟨_, h2⟩ | ⟨h2, _⟩
    · exact h2
    · exact absurd e h2
  have HG : Hid (∀ r, goodO ps n me si st now kp r ↔ ∀ k : Nat, k < n → ∀ c, upC ps n me si noU (candTo ps me si n) (k : Int) = some c → badB ps n me si st now kp r.1 r.2 (k : Int) c = false) := good_iff
  have hvS := vof_self ps n me si
  have hPc := hP.c
  have hAr0 : Ar ((w2.alloc (Obj.cells (madeCells #[Value.bool false] n) 4)).alloc (Obj.cells (madeCells #[Value.int .u64 0] n) 22)) w2.heap.size (w2.heap.size + 1) n (fun _ => false) (fun _ => 0) :=
    ⟨(World.rowIs_made w2 (.bool false) n 4).alloc _, by have := World.rowIs_made (w2.alloc (Obj.cells (madeCells #[Value.bool false] n) 4)) (.int .u64 0) n 22; simpa using this, by omega⟩
  have hB0 : Below w2.heap.size w2 ((w2.alloc (Obj.cells (madeCells #[Value.bool false] n) 4)).alloc (Obj.cells (madeCells #[Value.int .u64 0] n) 22)) := ((Below.refl _ _).alloc (Nat.le_refl _) _).alloc (by simp) _
  generalize hgd : goodO ps n me si st now kp = good at *
  generalize hLd : candTo ps me si n = L at *
  have HGD : Hid (goodO ps n me si st now kp = good) := hgd
  have HLD : Hid (candTo ps me si n = L) := hLd
  clear hgd hLd
  obtain ⟨a0, cap0, hv0, hl0, hcq⟩ := id hPc
  subst hv0
  clear hcq hl0
  have hll : (L.length : Int) ≤ 6 := by omega
  have hvch := fun (wr : World) (hB : Below w2.heap.size w2 wr) (i : Nat) => vouch_any N S si st cap (i : Int) (by omega) wr (hP.gr.below hB) hB.size hf
  have hlat := fun (wr : World) (hB : Below w2.heap.size w2 wr) (m : Int) => latest_any N S si st cap n me m wr (hP.gr.below hB) hB.size
  have hpeer := fun (wr : World) (hB : Below w2.heap.size w2 wr) (i : Nat) => peer_any N S si st cap (i : Int) (by omega) wr (hP.gr.below hB)
  go_wp2_with fail
  clear hmkB hmkU
  generalize hpb : w2.heap.size = pb at *
  go_loopw [41] (fun i wr => ∃ (k : Nat) (P : Nat → Bool) (I : Nat → Int), k ≤ L.length ∧ i = .int .i64 k ∧ Ar wr pb (pb + 1) n P I ∧ Hid (Rel n P I (upC ps n me si noU (L.take k))) ∧ Below pb w2 wr) (fun i _ => L.length - (intOf i).toNat)
  case atStart => exact ⟨0, _, _, Nat.zero_le _, rfl, hAr0, Rel.start n, hB0⟩
  case round =>
    obtain ⟨k, P, I, hk, rfl, hAr, HRel, hB⟩ := hrel
    clear hAr0 hB0
    by_cases hlt : k < L.length
    · clear HG
      have hlt' : (k : Int) < (L.length : Int) := by omega
      obtain ⟨r, hr⟩ : ∃ r, L[k]? = some r := ⟨L[k], by simp⟩
      obtain ⟨i, hin, hri, hru, hrm⟩ := hLi k r hr
      have HT : Hid (upC ps n me si noU (L.take (k + 1)) = upV ps n me (vok ps n me si r.1 r.2) (upd (upC ps n me si noU (L.take k)) r) (vof ps n me si r.1 r.2)) := upC_take hr
      have hq1 := hPc.mono (hpb ▸ hB : Below w2.heap.size w2 wr)
      obtain ⟨br, offr, capr, ev, c0, c1⟩ := hq1.at hr
      cases ev
      obtain ⟨rm, rc⟩ := r
      dsimp only at hri hru hrm HT c0 c1
      subst hri
      have hin' : (i : Int) < (n : Int) := by omega
      have hbw := cell_lt c0
      have hrl := hAr.p.lt
      have hil := hAr.i.lt
      have p0 := hAr.p.cell hin
      have pf := hAr.p.frozen i
      have hbs : pb ≤ wr.heap.size := by have := hB.size; omega
      clear hr
      go_upto_region 9 with fail
      have hAr1 := (hAr.setP i true).mono ((Below.refl _ _).alloc (Nat.le_refl _) (Obj.cells #[.int .i64 (i : Int), .int .u64 rc] 30))
      have hB1 : Below pb w2 ((wr.setCell ⟨pb, i, none⟩ (.bool true)).alloc (Obj.cells #[.int .i64 (i : Int), .int .u64 rc] 30)) := (hB.setCell (p := ⟨pb, i, none⟩) (Nat.le_refl _) (.bool true)).alloc (by simp; exact hbs) _
      have bR : Box ((wr.setCell ⟨pb, i, none⟩ (.bool true)).alloc (Obj.cells #[.int .i64 (i : Int), .int .u64 rc] 30)) wr.heap.size #[.int .i64 (i : Int), .int .u64 rc] 30 := by
        have := Box.new (wr.setCell ⟨pb, i, none⟩ (.bool true)) #[.int .i64 (i : Int), .int .u64 rc] 30
        simpa using this
      have HRel1 : Hid ((I i < rc → Rel n (fun k => if k = i then true else P k) (fun k => if k = i then rc else I k) (upd (upC ps n me si noU (L.take k)) ((i : Int), rc))) ∧ (¬ I i < rc → Rel n (fun k => if k = i then true else P k) I (upd (upC ps n me si noU (L.take k)) ((i : Int), rc)))) := ⟨HRel.out.more hin, HRel.out.same hin⟩
      generalize (wr.setCell ⟨pb, i, none⟩ (.bool true)).alloc (Obj.cells #[.int .i64 (i : Int), .int .u64 rc] 30) = W1 at *
      generalize hrb : wr.heap.size = rbx at *
      have hrx : pb + 1 < rbx := hil
      clear hAr HRel hB c0 c1 hbw hrl hil p0 pf hrb hq1
      generalize upd (upC ps n me si noU (L.take k)) ((i : Int), rc) = U1 at *
      have hrbl := bR.lt
      have r0 := bR.cell 0
      have r1 := bR.cell 1
      have i0 := hAr1.i.cell hin
      have i1 := hAr1.i.frozen i
      have hil := hAr1.i.lt
      simp at r0 r1
      obtain ⟨bgt, hbgt⟩ : ∃ b, decide (I i < rc) = b := ⟨_, rfl⟩
      go_quiet (fail)
      go_upto_if 56 with fail
      go_cut [] from 42 to 122 (fun wx => ∃ (P : Nat → Bool) (I : Nat → Int), Ar wx pb (pb + 1) n P I ∧ Hid (Rel n P I U1) ∧ Below pb w2 wx ∧ Box wx rbx #[.int .i64 (i : Int), .int .u64 rc] 30)
      case first =>
        cases bgt with
        | true =>
          go_wp2_with fail
          go_meet
          case rel => exact ⟨_, _, (hAr1.drewN _).setI i rc, HRel1.out.1 (by have := of_decide_eq_true hbgt; omega), (below_drewN hB1 _).setCell (by simp) _, (Below.heap_setCell _ _ _ _ (by simp; omega)).trans bR⟩
        | false =>
          go_wp2_with fail
          go_meet
          case rel => exact ⟨_, _, hAr1.drewN _, HRel1.out.2 (by have := of_decide_eq_false hbgt; omega), below_drewN hB1 _, bR⟩
      case rest =>
      clear hAr1 hB1 bR HRel1 r0 r1 i0 i1 hil hbgt hrbl
      obtain ⟨P, I, hAr, HRel, hB, bR⟩ := hcut
      have hB' : Below w2.heap.size w2 wc := hpb ▸ hB
      have bS := hP.s.mono hB'
      have bG := hP.g.mono hB'
      have r0 := bR.cell 0
      have r1 := bR.cell 1
      have s0 := bS.cell 0
      have s1 := bS.cell 1
      have g0 := bG.cell 0
      have g1 := bG.cell 1
      have g2 := bG.cell 2
      have g3 := bG.cell 3
      have g4 := bG.cell 4
      simp [gbox] at r0 r1 s0 s1 g0 g1 g2 g3 g4
      have hqL := hPc.mono hB'
      have hkv := hvch wc hB i
      have hMo : ReqOk (vof ps n me si (i : Int) rc) := vof_ok hltO hvw hsi hn _ _
      have HM : Hid (i ≠ me → vof ps n me si (i : Int) rc = vchs (peerAt ps i) ∧ vok ps n me si (i : Int) rc = (peerAt ps i).kn) := fun hne => vof_peer hin hne rc
      have HS : Hid (i = me → vof ps n me si (i : Int) rc = L ∧ vok ps n me si (i : Int) rc = true) := fun he => by rw [hrm he, he]; exact hvS
      generalize vof ps n me si (i : Int) rc = M at *
      generalize vok ps n me si (i : Int) rc = bk at *
      rw [Int.toNat_natCast] at hkv
      obtain ⟨bs, hbs'⟩ : ∃ b, decide (i = me) = b := ⟨_, rfl⟩
      have HBS : Hid (decide (i = me) = bs) := hbs'
      clear hbs'
      go_upto_region 13 with fail
      go_cut [65] from 42 to 122 (fun s65 wx => s65 = .bool bs ∧ wx = wc)
      case first =>
        by_cases e : i = me
        · have e2 := hrm e
          have e3 := HBS.out
          rw [decide_eq_true e] at e3
          subst e e2 e3
          go_wp2_with fail
          go_meet
          case rel => exact ⟨rfl, rfl⟩
        · have e' : ¬ (i : Int) = (me : Int) := by omega
          have e3 := HBS.out
          rw [decide_eq_false e] at e3
          subst e3
          go_wp2_with fail
          go_meet
          case rel => exact ⟨rfl, rfl⟩
      case rest =>
      obtain ⟨hs65, hwc⟩ := hcut
      subst hs65 hwc
      rename World => wc
      go_upto_if 65 with fail
      go_cut [14, 15] from 42 to 122 (fun s14 s15 wx => ∃ (a1 : Option Addr) (cap1 : Nat), s14 = .slice a1 M.length cap1 ∧ s15 = .bool bk ∧ Reqs wx (.slice a1 M.length cap1) M ∧ Ar wx pb (pb + 1) n P I ∧ Below pb w2 wx)
      case first =>
        cases bs with
        | true =>
          have e := of_decide_eq_true HBS.out
          obtain ⟨e3, e4⟩ := HS.out e
          subst e3 e4
          clear hkv HS HM hrm HBS e
          go_wp2_with fail
          go_meet
          case rel => exact ⟨_, _, rfl, rfl, hqL, hAr, hB⟩
        | false =>
          have e := of_decide_eq_false HBS.out
          obtain ⟨e3, e4⟩ := HM.out e
          subst e3 e4
          clear HS HM hrm HBS e
          go_wp2_with fail
          refine hkv.mono ?_
          clear hkv
          rintro e w4 ⟨⟨v1, rfl, hq4⟩, hb4⟩
          obtain ⟨a1, cap1, hv1, hl1, hcq1⟩ := id hq4
          subst hv1
          clear hcq1
          go_wp2_with fail
          go_meet
          case rel => exact ⟨_, _, rfl, rfl, hq4, hAr.mono hb4, hB.trans (hb4.mono (by have := hB'.size; omega))⟩
      case rest =>
      clear hAr hB bR r0 r1 s0 s1 g0 g1 g2 g3 g4 hkv hqL HM HS
      obtain ⟨a1, cap1, hs14, hs15, hqM, hAr, hB⟩ := hcut
      subst hs14 hs15
      rename World => wd
      clear hB' bS bG
      have hMl := hMo.1
      have hml : (M.length : Int) ≤ 256 := by omega
      cases bk with
      | false =>
        rw [upV_false] at HT
        go_wp2_with fail
        go_roundw
        case rel => exact ⟨k + 1, P, I, by omega, by go_num, hAr, by rw [HT.out]; exact HRel, hB⟩
        case measure => simp [intOf]; omega
      | true =>
        go_wp2_with fail
        go_loopw [78] (fun i wr => ∃ (j : Nat) (P : Nat → Bool) (I : Nat → Int), j ≤ M.length ∧ i = .int .i64 j ∧ Ar wr pb (pb + 1) n P I ∧ Hid (Rel n P I (upV ps n me true U1 (M.take j))) ∧ Reqs wr (.slice a1 M.length cap1) M ∧ Below pb w2 wr) (fun i _ => M.length - (intOf i).toNat)
        case atStart => exact ⟨0, P, I, Nat.zero_le _, rfl, hAr, HRel, hqM, hB⟩
        case round =>
          obtain ⟨j, P, I, hj, rfl, hAr, HRel, hqM, hB⟩ := hrel
          by_cases hltj : j < M.length
          · have hltj' : (j : Int) < (M.length : Int) := by omega
            obtain ⟨⟨qm, qc⟩, hq⟩ : ∃ r, M[j]? = some r := ⟨M[j], by simp⟩
            have hqw := hMo.get hq
            have HV : Hid (upV ps n me true U1 (M.take (j + 1)) = if (true && curB ps n me qm qc) = true then upd (upV ps n me true U1 (M.take j)) (qm, qc) else upV ps n me true U1 (M.take j)) := upV_take hq
            obtain ⟨br1, offr1, capr1, ev, c0, c1⟩ := hqM.at hq
            cases ev
            dsimp only at hqw c0 c1
            have hbw := cell_lt c0
            have hbs : pb ≤ wr.heap.size := by have := hB.size; omega
            clear hq
            rw [Bool.true_and] at HV
            generalize upV ps n me true U1 (M.take j) = U2 at *
            have hA := (Below.refl wr.heap.size wr).alloc (Nat.le_refl _) (Obj.cells #[.int .i64 qm, .int .u64 qc] 30)
            have hBA := hB.trans (hA.mono hbs)
            have hBA' : Below w2.heap.size w2 (wr.alloc (Obj.cells #[.int .i64 qm, .int .u64 qc] 30)) := hpb ▸ hBA
            have bQ := Box.new wr #[.int .i64 qm, .int .u64 qc] 30
            have bS := hP.s.mono hBA'
            have bG := hP.g.mono hBA'
            have hArA := hAr.mono hA
            have hqA := hqM.mono hA
            go_upto_region 20 with fail
            have hW : wr.heap.size < (wr.alloc (Obj.cells #[.int .i64 qm, .int .u64 qc] 30)).heap.size := by simp
            have hQb : pb + 1 < wr.heap.size := hAr.i.lt
            clear hAr hqM hB hA c0 c1 hbw
            generalize wr.alloc (Obj.cells #[.int .i64 qm, .int .u64 qc] 30) = W at *
            generalize hqb : wr.heap.size = qb at *
            have q0 := bQ.cell 0
            have q1 := bQ.cell 1
            have s0 := bS.cell 0
            have g0 := bG.cell 0
            have g1 := bG.cell 1
            have g2 := bG.cell 2
            have g3 := bG.cell 3
            have g4 := bG.cell 4
            simp [gbox] at q0 q1 s0 g0 g1 g2 g3 g4
            have f0 := fun y : Ext W.heap.size W => ext_cell q0 hW y
            have f1 := fun y : Ext W.heap.size W => ext_cell q1 hW y
            have f2 := fun y : Ext W.heap.size W => ext_cell s0 bS.lt y
            have f3 := fun y : Ext W.heap.size W => ext_cell g0 bG.lt y
            have f4 := fun y : Ext W.heap.size W => ext_cell g1 bG.lt y
            have f5 := fun y : Ext W.heap.size W => ext_cell g2 bG.lt y
            have f6 := fun y : Ext W.heap.size W => ext_cell g3 bG.lt y
            have f7 := fun y : Ext W.heap.size W => ext_cell g4 bG.lt y
            have hne : Nonempty (Ext W.heap.size W) := ⟨⟨_, Below.refl _ _⟩⟩
            have hWs := hBA'.size
            have hc18 : ∀ y : Ext W.heap.size W, Calls Yba.prog 18 #[.agg #[.int .u8 N, .int .u8 S, .int .u64 si, .int .i64 st, .slice a len cap], .int .i64 (n : Int), .int .i64 (me : Int), .int .i64 qm] y.wd fun e w' => e = .returned (.int .u64 (latOf ps n me qm)) ∧ ∃ z : Ext W.heap.size W, w' = z.wd := fun y =>
              ext_call ((hlat y.wd (hBA.trans (y.ok.mono (by omega))) qm).mono fun e w' ⟨h1, h2⟩ => ⟨h1, h2.mono y.ok.size⟩)
            have hBy := fun y : Ext W.heap.size W => hBA.trans (y.ok.mono (by omega : pb ≤ W.heap.size))
            have hAy := fun y : Ext W.heap.size W => hArA.mono y.ok
            have hqy := fun y : Ext W.heap.size W => hqA.mono y.ok
            have hQy := fun y : Ext W.heap.size W => bQ.mono y.ok
            clear q0 q1 s0 g0 g1 g2 g3 g4 bS bG hBA hBA' hArA hqA bQ hlat hpeer hvch
            by_cases k1 : 0 ≤ qm
            · have k1d : decide (0 ≤ qm) = true := decide_eq_true k1
              by_cases k2 : qm < (n : Int)
              · have k2d : decide (qm < (n : Int)) = true := decide_eq_true k2
                rw [show curB ps n me qm qc = decide (latOf ps n me qm ≤ qc) by simp [curB, memB, k1, k2]] at HV
                generalize latOf ps n me qm = lt at *
                by_cases k3 : lt ≤ qc
                · have k3d : decide (lt ≤ qc) = true := decide_eq_true k3
                  rw [if_pos k3d] at HV
                  obtain ⟨i2, rfl⟩ : ∃ i2 : Nat, qm = (i2 : Int) := ⟨qm.toNat, by omega⟩
                  have hin2 : i2 < n := by omega
                  refine wp_region_ext W.heap.size (by kernel_rfl) ?_
                  repeat (go_big_quiet_step (first | (go_at_call 18; exact hc18 _)))
                  refine wpQuiet_nil ?_
                  rintro _ ⟨y, rfl⟩
                  clear f0 f1 f2 f3 f4 f5 f6 f7 hne hc18
                  have hAr := hAy y
                  have hq1 := hqy y
                  have bQ := hQy y
                  have hB := hBy y
                  clear hAy hqy hQy hBy
                  generalize y.wd = W5 at *
                  have q0 := bQ.cell 0
                  have q1 := bQ.cell 1
                  have hQl := bQ.lt
                  simp at q0 q1
                  have p0 := hAr.p.cell hin2
                  have pf := hAr.p.frozen i2
                  have hrl := hAr.p.lt
                  go_upto_region 22 with fail
                  have hAr1 := hAr.setP i2 true
                  have hq2 := hq1.setP hAr i2 (.bool true)
                  have hB1 : Below pb w2 (W5.setCell ⟨pb, i2, none⟩ (.bool true)) := hB.setCell (p := ⟨pb, i2, none⟩) (Nat.le_refl _) (.bool true)
                  have bQ1 : Box (W5.setCell ⟨pb, i2, none⟩ (.bool true)) qb #[.int .i64 (i2 : Int), .int .u64 qc] 30 := (Below.heap_setCell _ _ _ _ (by simp; omega)).trans bQ
                  generalize W5.setCell ⟨pb, i2, none⟩ (.bool true) = W6 at *
                  clear q0 q1 hQl p0 pf hrl hAr hq1 hB bQ
                  have q0 := bQ1.cell 0
                  have q1 := bQ1.cell 1
                  have hQl := bQ1.lt
                  have i0 := hAr1.i.cell hin2
                  have i1 := hAr1.i.frozen i2
                  have hil := hAr1.i.lt
                  simp at q0 q1
                  by_cases k4 : I i2 < qc
                  · have k4d : decide (I i2 < qc) = true := decide_eq_true k4
                    have HR2 : Hid (Rel n (fun k => if k = i2 then true else P k) (fun k => if k = i2 then qc else I k) (upd U2 ((i2 : Int), qc))) := HRel.out.more hin2 k4
                    go_quiet (fail)
                    go_wp2_with fail
                    go_roundw
                    case rel => exact ⟨j + 1, _, _, by omega, by go_num, (hAr1.drewN _).setI i2 qc, by rw [HV.out]; exact HR2, (hq2.mono (below_drewN' _ _)).setI (hAr1.drewN _) _ _, (below_drewN hB1 _).setCell (by simp) _⟩
                    case measure => simp [intOf]; omega
                  · have k4d : decide (I i2 < qc) = false := decide_eq_false k4
                    have HR2 : Hid (Rel n (fun k => if k = i2 then true else P k) I (upd U2 ((i2 : Int), qc))) := HRel.out.same hin2 k4
                    go_quiet (fail)
                    go_wp2_with fail
                    go_roundw
                    case rel => exact ⟨j + 1, _, _, by omega, by go_num, hAr1.drewN _, by rw [HV.out]; exact HR2, hq2.mono (below_drewN' _ _), below_drewN hB1 _⟩
                    case measure => simp [intOf]; omega
                · have k3d : decide (lt ≤ qc) = false := decide_eq_false k3
                  rw [k3d] at HV
                  simp only [Bool.false_eq_true, if_false] at HV
                  refine wp_region_ext W.heap.size (by kernel_rfl) ?_
                  repeat (go_big_quiet_step (first | (go_at_call 18; exact hc18 _)))
                  refine wpQuiet_nil ?_
                  rintro _ ⟨y, rfl⟩
                  clear f0 f1 f2 f3 f4 f5 f6 f7 hne hc18
                  go_wp2_with fail
                  go_roundw
                  case rel => exact ⟨j + 1, P, I, by omega, by go_num, hAy y, by rw [HV.out]; exact HRel, hqy y, hBy y⟩
                  case measure => simp [intOf]; omega
              · have k2d : decide (qm < (n : Int)) = false := decide_eq_false k2
                rw [show curB ps n me qm qc = false by simp [curB, memB]; omega] at HV
                simp only [Bool.false_eq_true, if_false] at HV
                refine wp_region_ext W.heap.size (by kernel_rfl) ?_
                repeat (go_big_quiet_step (first | (go_at_call 18; exact hc18 _)))
                refine wpQuiet_nil ?_
                rintro _ ⟨y, rfl⟩
                clear f0 f1 f2 f3 f4 f5 f6 f7 hne hc18
                go_wp2_with fail
                go_roundw
                case rel => exact ⟨j + 1, P, I, by omega, by go_num, hAy y, by rw [HV.out]; exact HRel, hqy y, hBy y⟩
                case measure => simp [intOf]; omega
            · have k1d : decide (0 ≤ qm) = false := decide_eq_false k1
              rw [show curB ps n me qm qc = false by simp [curB, memB]; omega] at HV
              simp only [Bool.false_eq_true, if_false] at HV
              refine wp_region_ext W.heap.size (by kernel_rfl) ?_
              repeat (go_big_quiet_step (first | (go_at_call 18; exact hc18 _)))
              refine wpQuiet_nil ?_
              rintro _ ⟨y, rfl⟩
              clear f0 f1 f2 f3 f4 f5 f6 f7 hne hc18
              go_wp2_with fail
              go_roundw
              case rel => exact ⟨j + 1, P, I, by omega, by go_num, hAy y, by rw [HV.out]; exact HRel, hqy y, hBy y⟩
              case measure => simp [intOf]; omega
          · have hltj' : ¬ (j : Int) < (M.length : Int) := by omega
            obtain rfl : j = M.length := by omega
            rw [List.take_length] at HRel
            clear hlat hpeer hvch
            go_wp2_with fail
            go_roundw
            case rel => exact ⟨k + 1, P, I, by omega, by go_num, hAr, by rw [HT.out]; exact HRel, hB⟩
            case measure => simp [intOf]; omega
    · have hlt' : ¬ (k : Int) < (L.length : Int) := by omega
      obtain rfl : k = L.length := by omega
      rw [List.take_length] at HRel
      generalize upC ps n me si noU L = U at *
      clear hk hlat
      go_wp2_with fail
      go_loopw [125] (fun i wr => ∃ (k : Nat), k ≤ L.length ∧ i = .int .i64 k ∧ Ar wr pb (pb + 1) n P I ∧ Hid (NoneTo L good k) ∧ Below pb w2 wr) (fun i _ => L.length - (intOf i).toNat)
      case atStart => exact ⟨0, Nat.zero_le _, rfl, hAr, (fun j hj => by omega), hB⟩
      case round =>
        clear hAr hB
        obtain ⟨k, hk, rfl, hAr, HN, hB⟩ := hrel
        by_cases hlt2 : k < L.length
        · have hlt2' : (k : Int) < (L.length : Int) := by omega
          obtain ⟨⟨rm, rc⟩, hr⟩ : ∃ r, L[k]? = some r := ⟨L[k], by simp⟩
          obtain ⟨i, hin, hri, hru, hrm⟩ := hLi k _ hr
          have hq1 := hPc.mono (hpb ▸ hB : Below w2.heap.size w2 wr)
          obtain ⟨br, offr, capr, ev, c0, c1⟩ := hq1.at hr
          cases ev
          dsimp only at hri hru hrm c0 c1
          subst hri
          have hin' : (i : Int) < (n : Int) := by omega
          have hbw := cell_lt c0
          have hbs : pb ≤ wr.heap.size := by have := hB.size; omega
          have HR : Hid (L[k]? = some ((i : Int), rc)) := hr
          have HGr : Hid (good ((i : Int), rc) ↔ ∀ k : Nat, k < n → ∀ c, U (k : Int) = some c → badB ps n me si st now kp (i : Int) rc (k : Int) c = false) := HG.out _
          have HBD : Hid (∀ x c, badB ps n me si st now kp (i : Int) rc x c = (!hearsB ps n me si (i : Int) rc x c && (decide ((i : Int) = (me : Int) ∧ rc = si) || kp || setB ps n me si st now x c))) := fun _ _ => rfl
          clear hr HG
          generalize badB ps n me si st now kp (i : Int) rc = bad at *
          have hA := (Below.refl wr.heap.size wr).alloc (Nat.le_refl _) (Obj.cells #[.int .i64 (i : Int), .int .u64 rc] 30)
          have hArA := hAr.mono hA
          have hBA := hB.trans (hA.mono hbs)
          have bR := Box.new wr #[.int .i64 (i : Int), .int .u64 rc] 30
          have hrx := hAr.i.lt
          go_wp2_with fail
          clear hA hAr hB hq1 c0 c1 hbw
          generalize wr.alloc (Obj.cells #[.int .i64 (i : Int), .int .u64 rc] 30) = wA at *
          generalize wr.heap.size = rbx at *
          go_loopw [20, 21] (fun s20 s21 wq => ∃ (j : Nat), j ≤ n ∧ s20 = .bool true ∧ s21 = .int .i64 j ∧ Ar wq pb (pb + 1) n P I ∧ Box wq rbx #[.int .i64 (i : Int), .int .u64 rc] 30 ∧ Hid (∀ k : Nat, k < j → ∀ c, U (k : Int) = some c → bad (k : Int) c = false) ∧ Below pb w2 wq) (fun _ s21 _ => n - (intOf s21).toNat)
          case atStart => exact ⟨0, Nat.zero_le _, rfl, rfl, hArA, bR, (fun j hj => by omega), hBA⟩
          case round =>
            clear hArA hBA bR
            obtain ⟨j, hj, rfl, rfl, hAr, bR, HS, hB⟩ := hrel
            have hB' : Below w2.heap.size w2 wr := hpb ▸ hB
            by_cases hltj : j < n
            · have hltj' : (j : Int) < (n : Int) := by omega
              have hRj := HRel.out j hltj
              have p0 := hAr.p.cell hltj
              have i0 := hAr.i.cell hltj
              have hpl := hAr.p.lt
              have hil := hAr.i.lt
              have hj6 : (j : Int) ≤ 6 := by omega
              cases hPj : P j with
              | false =>
                rw [hPj] at p0 hRj
                have HS1 : Hid (∀ k : Nat, k < j + 1 → ∀ c, U (k : Int) = some c → bad (k : Int) c = false) := fun k hk c hc => by
                  by_cases e : k = j
                  · subst e; rw [hc] at hRj; simp at hRj
                  · exact HS.out k (by omega) c hc
                clear hRj hpeer hvch
                go_wp2_with fail
                go_roundw
                case rel => exact ⟨j + 1, by omega, rfl, by go_num, hAr, bR, HS1, hB⟩
                case measure => simp [intOf]; omega
              | true =>
                rw [hPj] at p0 hRj
                obtain ⟨c', hc'⟩ := Option.isSome_iff_exists.1 hRj.1.symm
                have hIc : I j = c' := by rw [hRj.2, hc']; rfl
                rw [hIc] at i0
                have HUj : Hid (U (j : Int) = some c') := hc'
                clear hRj hc' hIc hPj
                have HBj : Hid (bad (j : Int) c' = (!hearsB ps n me si (i : Int) rc (j : Int) c' && (decide ((i : Int) = (me : Int) ∧ rc = si) || kp || setB ps n me si st now (j : Int) c'))) := HBD.out _ _
                have HS1 : Hid (bad (j : Int) c' = false → ∀ k : Nat, k < j + 1 → ∀ c, U (k : Int) = some c → bad (k : Int) c = false) := fun hb k hk c hc => by
                  by_cases e : k = j
                  · subst e; rw [HUj.out] at hc; cases hc; exact hb
                  · exact HS.out k (by omega) c hc
                have HN1 : Hid (bad (j : Int) c' = true → ¬ good ((i : Int), rc)) := fun hb hg => by
                  have := HGr.out.1 hg j hltj c' HUj.out
                  rw [hb] at this; cases this
                generalize bad (j : Int) c' = bad1 at *
                have hA := (Below.refl wr.heap.size wr).alloc (Nat.le_refl _) (Obj.cells #[.int .i64 (j : Int), .int .u64 c'] 30)
                have hbs : pb ≤ wr.heap.size := by have := hB.size; omega
                have hArA := hAr.mono hA
                have hBA := hB.trans (hA.mono hbs)
                have bRA := bR.mono hA
                have bO := Box.new wr #[.int .i64 (j : Int), .int .u64 c'] 30
                have hkv := hvch _ hBA i
                have hkp := fun (wx : World) (hBx : Below pb w2 wx) => hpeer wx hBx j
                have hhas := fun (v : Value) (M : List (Int × Int)) (wx : World) (hx : Reqs wx v M) (hl : M.length ≤ 1000000) => has_any v M (j : Int) c' wx hx hl
                clear hvch hpeer
                have HH1 : Hid (i = me → hearsB ps n me si (i : Int) rc (j : Int) c' = hasR L ((j : Int), c')) := fun he => by
                  unfold hearsB; rw [hrm he, he, hvS.1, hvS.2]; simp
                have HH2 : Hid (i ≠ me → hearsB ps n me si (i : Int) rc (j : Int) c' = (!(peerAt ps i).kn || hasR (vchs (peerAt ps i)) ((j : Int), c'))) := fun hne => by
                  obtain ⟨e1, e2⟩ := vof_peer (ps := ps) (si := si) hin hne rc
                  unfold hearsB; rw [e1, e2]
                have HSS : Hid (setB ps n me si st now (j : Int) c' = decide (3000000000 ≤ wrap64 (now - (if decide (j = me ∧ c' = si) = true then st else (peerAt ps j).sa)))) := by
                  show _ = _
                  unfold setB
                  have e1 : ((j : Int) = (me : Int) ∧ c' = si) ↔ (decide (j = me ∧ c' = si) = true) := by rw [decide_eq_true_iff]; constructor <;> (intro h; exact ⟨by omega, h.2⟩)
                  rw [if_pos (show 0 ≤ (j : Int) ∧ (j : Int) < (n : Int) by omega), Int.toNat_natCast]
                  simp only [e1]
                generalize hearsB ps n me si (i : Int) rc (j : Int) c' = hh at *
                generalize setB ps n me si st now (j : Int) c' = ss at *
                have hVl := (hvw i).1
                go_upto_region 36 with fail
                clear hAr hB hB' bR hA p0 i0 hpl hil
                have hW : wr.heap.size < (wr.alloc (Obj.cells #[.int .i64 (j : Int), .int .u64 c'] 30)).heap.size := by simp
                generalize wr.alloc (Obj.cells #[.int .i64 (j : Int), .int .u64 c'] 30) = W at *
                generalize wr.heap.size = ob at *
                have hBA' : Below w2.heap.size w2 W := hpb ▸ hBA
                have bS := hP.s.mono hBA'
                have bG := hP.g.mono hBA'
                have r0 := bRA.cell 0
                have r1 := bRA.cell 1
                have s0 := bS.cell 0
                have s1 := bS.cell 1
                simp at r0 r1 s0 s1
                obtain ⟨bs, hbs'⟩ : ∃ b, decide (i = me) = b := ⟨_, rfl⟩
                have HBS : Hid (decide (i = me) = bs) := hbs'
                clear hbs'
                go_cut [147] from 129 to 190 (fun s147 wx => s147 = .bool bs ∧ wx = W)
                case first =>
                  by_cases e : i = me
                  · have e2 := hrm e
                    have e3 := HBS.out
                    rw [decide_eq_true e] at e3
                    subst e e2 e3
                    go_wp2_with fail
                    go_meet
                    case rel => exact ⟨rfl, rfl⟩
                  · have e' : ¬ (i : Int) = (me : Int) := by omega
                    have e3 := HBS.out
                    rw [decide_eq_false e] at e3
                    subst e3
                    go_wp2_with fail
                    go_meet
                    case rel => exact ⟨rfl, rfl⟩
                case rest =>
                obtain ⟨hs147, hwc⟩ := hcut
                subst hs147 hwc
                rename World => W
                have o0 := bO.cell 0
                have o1 := bO.cell 1
                have g0 := bG.cell 0
                have g1 := bG.cell 1
                have g2 := bG.cell 2
                have g3 := bG.cell 3
                have g4 := bG.cell 4
                simp [gbox] at o0 o1 g0 g1 g2 g3 g4
                rw [Int.toNat_natCast] at hkv
                go_upto_if 147 with fail
                go_cut [23] from 129 to 190 (fun s23 wx => s23 = .bool hh ∧ Below W.heap.size W wx)
                case first =>
                  cases bs with
                  | true =>
                    have e := of_decide_eq_true HBS.out
                    have e3 := HH1.out e
                    have hc := hhas _ L W (hPc.mono hBA') (by omega)
                    rw [← e3] at hc
                    unfold rv at hc
                    clear hkv HH1 HH2 hrm HBS hhas e3 e
                    go_wp2_with fail
                    refine hc.mono ?_
                    clear hc
                    rintro e w4 ⟨rfl, hb4⟩
                    go_wp2_with fail
                    go_meet
                    case rel => exact ⟨rfl, hb4⟩
                  | false =>
                    have e := of_decide_eq_false HBS.out
                    have HE3 : Hid (hh = (!(peerAt ps i).kn || hasR (vchs (peerAt ps i)) ((j : Int), c'))) := HH2.out e
                    have hvl : (vchs (peerAt ps i)).length ≤ 1000000 := by unfold vchs; split <;> first | omega | simp
                    clear HH1 HH2 hrm HBS e
                    generalize vchs (peerAt ps i) = M at *
                    generalize (peerAt ps i).kn = bk at *
                    go_wp2_with fail
                    refine hkv.mono ?_
                    clear hkv
                    rintro e w4 ⟨⟨v1, rfl, hq4⟩, hb4⟩
                    cases bk with
                    | false =>
                      clear hhas
                      go_wp2_with fail
                      go_meet
                      case rel => exact ⟨by rw [HE3.out]; rfl, hb4⟩
                    | true =>
                      have hc := hhas v1 M w4 hq4 hvl
                      have o0 := (bO.mono hb4).cell 0
                      have o1 := (bO.mono hb4).cell 1
                      simp at o0 o1
                      unfold rv at hc
                      clear hhas
                      go_wp2_with fail
                      refine hc.mono ?_
                      clear hc
                      rintro e w5 ⟨rfl, hb5⟩
                      go_wp2_with fail
                      go_meet
                      case rel => exact ⟨by rw [HE3.out]; rfl, hb4.trans (hb5.mono hb4.size)⟩
                case rest =>
                obtain ⟨hs23, hbc⟩ := hcut
                subst hs23
                have hBc := hBA.trans (hbc.mono (by have := hBA'.size; omega : pb ≤ W.heap.size))
                have hArc := hArA.mono hbc
                have bRc := bRA.mono hbc
                have bOc := bO.mono hbc
                have bSc := bS.mono hbc
                have bGc := bG.mono hbc
                have hk2 := hkp wc hBc
                rw [Int.toNat_natCast] at hk2
                unfold pval at hk2
                clear hkp hkv hhas HH1 HH2 hbc hBA hBA' hArA bRA bO bS bG o0 o1 g0 g1 g2 g3 g4 r0 r1 s0 s1 hW
                have g0 := bGc.cell 0
                have g1 := bGc.cell 1
                have g2 := bGc.cell 2
                have g3 := bGc.cell 3
                have g4 := bGc.cell 4
                simp [gbox] at g0 g1 g2 g3 g4
                have hfld := field41_5
                go_wp2_with fail
                refine hk2.mono ?_
                clear hk2 g0 g1 g2 g3 g4
                rintro e W5 ⟨rfl, hb5⟩
                have hB5 := hBc.trans (hb5.mono (by have := hBc.size; omega : pb ≤ wc.heap.size))
                have hAr5 := hArc.mono hb5
                have bR5 := bRc.mono hb5
                have bO5 := bOc.mono hb5
                have bS5 := bSc.mono hb5
                have bG5 := bGc.mono hb5
                clear hb5 hBc hArc bRc bOc bSc bGc
                generalize (peerAt ps j).sa = sa at *
                go_upto_region 41 with fail
                have o0 := bO5.cell 0
                have o1 := bO5.cell 1
                have s0 := bS5.cell 0
                have s1 := bS5.cell 1
                simp at o0 o1 s0 s1
                clear hfld
                obtain ⟨bo, hbo⟩ : ∃ b, decide (j = me ∧ c' = si) = b := ⟨_, rfl⟩
                rw [hbo] at HSS
                have HBO : Hid (decide (j = me ∧ c' = si) = bo) := hbo
                clear hbo
                go_cut [171] from 129 to 190 (fun s171 wx => s171 = .bool bo ∧ wx = W5)
                case first =>
                  by_cases e1 : j = me
                  · by_cases e2 : c' = si
                    · have e3 := HBO.out
                      rw [decide_eq_true ⟨e1, e2⟩] at e3
                      subst e1 e2 e3
                      go_wp2_with fail
                      go_meet
                      case rel => exact ⟨rfl, rfl⟩
                    · have e3 := HBO.out
                      rw [decide_eq_false (fun x => e2 x.2)] at e3
                      subst e1 e3
                      go_wp2_with fail
                      go_meet
                      case rel => exact ⟨rfl, rfl⟩
                  · have e' : ¬ (j : Int) = (me : Int) := by omega
                    have e3 := HBO.out
                    rw [decide_eq_false (fun x => e1 x.1)] at e3
                    subst e3
                    go_wp2_with fail
                    go_meet
                    case rel => exact ⟨rfl, rfl⟩
                case rest =>
                obtain ⟨hs171, hwc⟩ := hcut
                subst hs171 hwc
                rename World => W5
                clear o0 o1 HBO
                have g3 := bG5.cell 3
                simp [gbox] at g3
                go_upto_if 171 with fail
                go_cut [26] from 129 to 190 (fun s26 wx => s26 = .int .i64 (if bo = true then st else sa) ∧ wx = W5)
                case first =>
                  cases bo with
                  | true =>
                    go_wp2_with fail
                    go_meet
                    case rel => exact ⟨rfl, rfl⟩
                  | false =>
                    go_wp2_with fail
                    go_meet
                    case rel => exact ⟨rfl, rfl⟩
                case rest =>
                obtain ⟨hs26, hwc⟩ := hcut
                subst hs26 hwc
                rename World => W5
                generalize (if bo = true then st else sa) = since at *
                go_upto_region 44 with fail
                rw [← HSS.out]
                clear HSS g3
                have r0 := bR5.cell 0
                have r1 := bR5.cell 1
                simp at r0 r1
                go_cut [190] from 129 to 190 (fun s190 wx => s190 = .bool bad1 ∧ wx = W5)
                case first =>
                  cases hh with
                  | true =>
                    go_wp2_with fail
                    go_meet
                    case rel => exact ⟨by rw [HBj.out]; simp [], rfl⟩
                  | false =>
                    by_cases e : i = me
                    · have e2 := hrm e
                      subst e e2
                      go_wp2_with fail
                      go_meet
                      case rel => exact ⟨by rw [HBj.out]; simp [], rfl⟩
                    · have e' : ¬ (i : Int) = (me : Int) := by omega
                      have HE : Hid (¬ (i : Int) = (me : Int)) := e'
                      clear hrm
                      cases kp with
                      | true =>
                        go_wp2_with fail
                        go_meet
                        case rel => exact ⟨by rw [HBj.out]; simp [HE.out], rfl⟩
                      | false =>
                        cases ss with
                        | true =>
                          go_wp2_with fail
                          go_meet
                          case rel => exact ⟨by rw [HBj.out]; simp [HE.out], rfl⟩
                        | false =>
                          go_wp2_with fail
                          go_meet
                          case rel => exact ⟨by rw [HBj.out]; simp [HE.out], rfl⟩
                case rest =>
                obtain ⟨hs190, hwc⟩ := hcut
                subst hs190 hwc
                rename World => W5
                cases bad1 with
                | false =>
                  go_wp2_with fail
                  go_roundw
                  case rel => exact ⟨j + 1, by omega, rfl, by go_num, hAr5, bR5, HS1.out rfl, hB5⟩
                  case measure => simp [intOf]; omega
                | true =>
                  go_wp2_with fail
                  go_roundw
                  case rel => exact ⟨k + 1, by omega, by go_num, hAr5, HN.out.step HR.out (HN1.out rfl), hB5⟩
                  case measure => simp [intOf]; omega
            · have hltj' : ¬ (j : Int) < (n : Int) := by omega
              obtain rfl : j = n := by omega
              have bZ := hP.r.mono hB'
              have z0 := bZ.cell 0
              have z1 := bZ.cell 1
              have zf := bZ.frozen
              have zl := bZ.lt
              have r0 := bR.cell 0
              have r1 := bR.cell 1
              simp at z0 z1 r0 r1
              clear hvch hpeer
              go_wp2_with fail
              have y0 : ((wr.setCell ⟨w.heap.size + 1, 0, none⟩ (.int .i64 (i : Int))).setCell ⟨w.heap.size + 1, 1, none⟩ (.int .u64 rc)).cell? ⟨w.heap.size + 1, 0, none⟩ = some (.int .i64 (i : Int)) := by rw [cso (by simp)]; exact css z0
              have y1 : ((wr.setCell ⟨w.heap.size + 1, 0, none⟩ (.int .i64 (i : Int))).setCell ⟨w.heap.size + 1, 1, none⟩ (.int .u64 rc)).cell? ⟨w.heap.size + 1, 1, none⟩ = some (.int .u64 rc) := css (by rw [cso (by simp)]; exact z1)
              have hB4 : Below w.heap.size w ((wr.setCell ⟨w.heap.size + 1, 0, none⟩ (.int .i64 (i : Int))).setCell ⟨w.heap.size + 1, 1, none⟩ (.int .u64 rc)) := ((hP.b.trans (hB'.mono hP.b.size)).setCell (by simp) _).setCell (by simp) _
              exact bodyPost_ret (v := rv (i : Int) rc) (by simp [results, Yba.results8, go_sem, rv, y0, y1]) rfl ⟨by rw [HLD.out, HGD.out]; exact ⟨((i : Int), rc), rfl, .inl ⟨k, HR.out, HGr.out.2 HS.out, HN.out⟩⟩, hB4⟩
        · have hlt2' : ¬ (k : Int) < (L.length : Int) := by omega
          obtain rfl : k = L.length := by omega
          have hB' : Below w2.heap.size w2 wr := hpb ▸ hB
          obtain ⟨⟨rm, rc⟩, hr⟩ : ∃ r, L[0]? = some r := ⟨L[0], by simp⟩
          have HR : Hid (L[0]? = some (rm, rc)) := hr
          have hq1 := hPc.mono hB'
          obtain ⟨br, offr, capr, ev, c0, c1⟩ := hq1.at hr
          cases ev
          simp only [Nat.zero_mul, Nat.add_zero] at c0 c1
          have hbw := cell_lt c0
          have bZ := hP.r.mono hB'
          have z0 := bZ.cell 0
          have z1 := bZ.cell 1
          have zf := bZ.frozen
          have zl := bZ.lt
          simp at z0 z1
          have hL0' : (0 : Int) < (L.length : Int) := by omega
          clear hr HG hvch hpeer
          go_wp2_with fail
          have y0 : ((wr.setCell ⟨w.heap.size + 1, 0, none⟩ (.int .i64 rm)).setCell ⟨w.heap.size + 1, 1, none⟩ (.int .u64 rc)).cell? ⟨w.heap.size + 1, 0, none⟩ = some (.int .i64 rm) := by rw [cso (by simp)]; exact css z0
          have y1 : ((wr.setCell ⟨w.heap.size + 1, 0, none⟩ (.int .i64 rm)).setCell ⟨w.heap.size + 1, 1, none⟩ (.int .u64 rc)).cell? ⟨w.heap.size + 1, 1, none⟩ = some (.int .u64 rc) := css (by rw [cso (by simp)]; exact z1)
          have hB4 : Below w.heap.size w ((wr.setCell ⟨w.heap.size + 1, 0, none⟩ (.int .i64 rm)).setCell ⟨w.heap.size + 1, 1, none⟩ (.int .u64 rc)) := ((hP.b.trans (hB'.mono hP.b.size)).setCell (by simp) _).setCell (by simp) _
          exact bodyPost_ret (v := rv rm rc) (by simp [results, Yba.results8, go_sem, rv, y0, y1]) rfl ⟨by rw [HLD.out, HGD.out]; exact ⟨(rm, rc), rfl, .inr ⟨HN.out, HR.out⟩⟩, hB4⟩
end Go.Proofs.Ybulkuyw
