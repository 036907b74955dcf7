/-
  WALK: zzs1062cbuild (function 6): the group's detector.
-/
import Derived.Test.YbulkuywDet
namespace Go.Proofs.Ybulkuyw
open Go.RowKit

/-- the ids' row in the making: n-1, .., 0 -/
def Rowd (w : World) (I n k : Nat) : Prop :=
  (∀ j, j < k → w.cell? ⟨I, j, none⟩ = some (.int .i64 ((n : Int) - 1 - j))) ∧ (∀ j, j < n → ∃ v, w.cell? ⟨I, j, none⟩ = some v) ∧ ∀ j, w.frozen? ⟨I, j, none⟩ = false
theorem rowd_start (w : World) (n : Nat) : Rowd (w.alloc (.cells (madeCells #[.int .i64 0] n) 3)) w.heap.size n 0 := by
  refine ⟨fun j hj => absurd hj (Nat.not_lt_zero j), fun j hj => ?_, fun j => by simp⟩
  exact ⟨.int .i64 0, by simp [madeCells, hj, Nat.mod_one]⟩
theorem rowd_step {w : World} {I n k : Nat} (h : Rowd w I n k) (hk : k < n) : Rowd (w.setCell ⟨I, k, none⟩ (.int .i64 ((n : Int) - 1 - k))) I n (k + 1) := by
  obtain ⟨h1, h2, h3⟩ := h
  obtain ⟨v, hv⟩ := h2 k hk
  refine ⟨fun j hj => ?_, fun j hj => ?_, fun j => by simp [h3]⟩
  · by_cases e : j = k
    · subst e; exact css hv
    · rw [cso (fun e1 => e (by injection e1 with _ e2; exact e2.symm))]; exact h1 j (by omega)
  · by_cases e : j = k
    · subst e; exact ⟨_, css hv⟩
    · rw [cso (fun e1 => e (by injection e1 with _ e2; exact e2.symm))]; exact h2 j hj

theorem info3b : (Yba.prog.info? 3).map (fun i => (i.zero, i.size, i.bytes)) = some (some (.int .i64 0), 1, 8) := by kernel_rfl

/-- what build hands back -/
def Built (w' : World) (n me : Nat) (si st : Int) (ps : List PV) (e : Ending) : Prop :=
  ∃ d g cap m, e = .returned (.pointer (some ⟨d, 0, none⟩)) ∧ Det w' d n me si st ps g cap m n n n n

/-- THE ROUND's STATE: the detector with its maps filled up to ks, kt, kh, kv; the two boxes -/
structure RSt (w wr : World) (gb : Array Value) (ps : List PV) (n me d g capd s0 : Nat) (si st : Int) (m : Nat → Nat) (ks kt kh kv : Nat) : Prop where
  det : Det wr d n me si st ps g capd m ks kt kh kv
  bG : Box wr w.heap.size gb 25
  bS : Box wr s0 #[.int .i64 me, .int .u64 si] 30
  bel : Below w.heap.size w wr
  mlo : ∀ j, j < 11 → w.heap.size ≤ m j
theorem RSt.mono {w wr wr' : World} {gb : Array Value} {ps : List PV} {n me d g capd s0 : Nat} {si st : Int} {m : Nat → Nat} {ks kt kh kv : Nat} (h : RSt w wr gb ps n me d g capd s0 si st m ks kt kh kv) (hw : Below wr.heap.size wr wr') : RSt w wr' gb ps n me d g capd s0 si st m ks kt kh kv :=
  ⟨h.det.mono hw, h.bG.mono hw, h.bS.mono hw, h.bel.trans (hw.mono h.bel.size), h.mlo⟩
theorem Box.kept' {w w' : World} {b mb : Nat} {c : Array Value} {t : TypeId} {v : Value} (h : Box w b c t) (hg : w.grownBy w' (some mb)) (hn : ∀ o, w.cell? ⟨mb, o, none⟩ = none) (hv : c[0]? = some v) : Box w' b c t :=
  h.kept hg (fun e => by have h1 := h.cell 0; injection e with e; rw [e, hn 0, hv] at h1; cases h1)
theorem RSt.store {w wr wr' : World} {gb : Array Value} {ps : List PV} {n me d g capd s0 : Nat} {si st : Int} {m : Nat → Nat} {ks kt kh kv ks' kt' kh' kv' j : Nat} (h : RSt w wr gb ps n me d g capd s0 si st m ks kt kh kv) (hg : wr.grownBy wr' (some (m j))) (hj : j < 11)
    (hn : ∀ o, wr.cell? ⟨m j, o, none⟩ = none) (hm : Mps wr' n me ps m ks' kt' kh' kv') {v : Value} (hgb : gb[0]? = some v) : RSt w wr' gb ps n me d g capd s0 si st m ks' kt' kh' kv' :=
  ⟨h.det.store hg hn hm, h.bG.kept' hg hn hgb, h.bS.kept' hg hn rfl, h.bel.grown hg h.bel.size (fun k hk => by injection hk with hk; rw [← hk]; exact h.mlo j hj), h.mlo⟩
theorem grown_drew {w w' : World} {r : Option Nat} (h : w.drew.grownBy w' r) : w.grownBy w' r := ⟨h.os, h.tape, h.output, h.size, h.block⟩
theorem Mp.drew {w : World} {k : TypeId} {ok : Value → Bool} {b n : Nat} {f : Lit → Option Value} (h : Mp w k ok b n f) : Mp w.drew k ok b n f := h.block rfl

/-- a peer's box -/
def pbox (p : PV) : Array Value := #[.bool p.hd, .int .u64 p.lt, .bool p.kn, .slice p.va p.vl p.vc, .int .u64 p.si, .int .i64 p.sa]

set_option maxRecDepth 100000 in
set_option maxHeartbeats 2000000 in
theorem build_aux {a : Option Addr} {len : Nat} {ps : List PV} (N S si st : Int) (cap n me : Nat) (hn : 1 ≤ n ∧ n ≤ 6) (w : World) (h : Grp w.heap.size w a len ps) (hf : ∀ p ∈ ps, p.vl ≤ 256)
    (hc : ∀ o, Calls Yba.prog 11 #[.agg #[.int .u8 N, .int .u8 S, .int .u64 si, .int .i64 st, .slice a len cap]] (w.alloc o) fun e w' => e = .returned (.tuple #[.int .i64 (n : Int), rv (me : Int) si]) ∧ Below (w.alloc o).heap.size (w.alloc o) w') :
    Calls Yba.prog 6 #[.agg #[.int .u8 N, .int .u8 S, .int .u64 si, .int .i64 st, .slice a len cap]] w fun e w' => Built w' n me si st ps e ∧ Below w.heap.size w w' := by
  obtain ⟨i0, hi, hz0, hz1, hz2⟩ := info_parts info3b
  have hmk := fun w : World => run_make (P := Yba.prog) w 44 3 i0 _ Yba.underlying44 hi hz0 .i64 .i64 (n : Int) (n : Int) (by omega) (by omega) (by rw [hz2]; omega) (by omega)
  rw [hz1] at hmk
  simp only [Int.toNat_natCast] at hmk
  have hn6 : (n : Int) ≤ 6 := by omega
  go_enter Yba.func6, Yba.ntmps6
  go_wp2_with fail
  refine (hc _).mono ?_
  clear hc
  rintro e w1 ⟨rfl, hb⟩
  have bG := (Box.new w (gbox N S si st a len cap) 25).mono hb
  have hb1 : Below w.heap.size w w1 := ((Below.refl _ _).alloc (Nat.le_refl _) _).trans (hb.mono (by simp))
  unfold rv
  clear hb
  go_wp2
  have bG1 := bG.mono ((Below.refl _ _).alloc (Nat.le_refl _) (Obj.cells #[.int .i64 me, .int .u64 si] 30))
  have bS1 := Box.new w1 #[.int .i64 me, .int .u64 si] 30
  have hb2 := hb1.alloc hb1.size (Obj.cells #[.int .i64 me, .int .u64 si] 30)
  have hr1 := rowd_start (w1.alloc (Obj.cells #[.int .i64 me, .int .u64 si] 30)) n
  have hr2 : Rowd ((w1.alloc (Obj.cells #[.int .i64 me, .int .u64 si] 30)).alloc (Obj.cells (madeCells #[.int .i64 0] n) 3)) (w1.heap.size + 1) n 0 := by simpa using hr1
  have hs2 : ((w1.alloc (Obj.cells #[.int .i64 me, .int .u64 si] 30)).alloc (Obj.cells (madeCells #[.int .i64 0] n) 3)).heap.size = w1.heap.size + 2 := by simp
  have bG2 := bG1.mono ((Below.refl _ _).alloc (Nat.le_refl _) (Obj.cells (madeCells #[.int .i64 0] n) 3))
  have bS2 := bS1.mono ((Below.refl _ _).alloc (Nat.le_refl _) (Obj.cells (madeCells #[.int .i64 0] n) 3))
  have hb3 := hb2.alloc hb2.size (Obj.cells (madeCells #[.int .i64 0] n) 3)
  clear hr1 bG1 bS1 bG hmk hb2
  generalize (w1.alloc (Obj.cells #[.int .i64 me, .int .u64 si] 30)).alloc (Obj.cells (madeCells #[.int .i64 0] n) 3) = W2 at *
  have hb1s := hb1.size
  clear hb1
  generalize w1.heap.size = s0 at *
  go_loopw [6] (fun i wr => ∃ k : Nat, k ≤ n ∧ i = .int .i64 k ∧ Rowd wr (s0 + 1) n k ∧ Below (s0 + 1) W2 wr ∧ wr.heap.size = s0 + 2) (fun i _ => n - (intOf i).toNat)
  case atStart => exact ⟨0, Nat.zero_le _, rfl, hr2, Below.refl _ _, hs2⟩
  case round =>
    obtain ⟨k, hk, rfl, hR, hB, hsz⟩ := hrel
    have HZ : Hid (wr.heap.size = s0 + 2) := hsz
    have HZ2 : Hid (W2.heap.size = s0 + 2) := hs2
    clear hsz hs2 hr2
    by_cases hlt : k < n
    · have hlt' : (k : Int) < (n : Int) := by omega
      obtain ⟨v, hv⟩ := hR.2.1 k hlt
      have hfz := hR.2.2 k
      go_wp2
      go_roundw
      case rel => exact ⟨k + 1, by omega, by go_num, rowd_step hR hlt, hB.setCell (p := ⟨s0 + 1, k, none⟩) (Nat.le_refl _) _, by simp [HZ.out]⟩
      case measure => simp [intOf]; omega
    · have hlt' : ¬ (k : Int) < (n : Int) := by omega
      obtain rfl : k = n := by omega
      have bG := bG2.below hB (by omega)
      have bS := bS2.below hB (by omega)
      have hb4 : Below w.heap.size w wr := hb3.trans (hB.mono (by omega))
      have hnd := newDet_any (me : Int) si st (s0 + 1) 0 k k wr hn.1 hn.2 (by have := HZ.out; omega) (fun j hj => by rw [Nat.zero_add]; exact hR.1 j hj)
      have g3 := bG.cell 3
      have s00 := bS.cell 0
      have s01 := bS.cell 1
      simp [gbox] at g3 s00 s01
      clear bG2 bS2 hB hb3 hR
      go_wp2_with fail
      refine hnd.mono ?_
      clear hnd
      rintro e w2 ⟨d, rfl, g, capd, m, hd, hcells, hok, hb5⟩
      have hR0 : RSt w w2 (gbox N S si st a len cap) ps k me d g capd s0 si st m 0 0 0 0 :=
        ⟨⟨hcells, hok.ids, mps_start hok ps⟩, bG.mono hb5, bS.mono hb5, hb4.trans (hb5.mono hb4.size), fun j hj => Nat.le_trans hb4.size (hok.mlo j hj)⟩
      clear hok hcells bG bS hb5 hb4 g3 s00 s01
      go_wp2_with fail
      go_loopw [8] (fun i wr => ∃ j : Nat, j ≤ k ∧ i = .int .i64 j ∧ RSt w wr (gbox N S si st a len cap) ps k me d g capd s0 si st m j j j j) (fun i _ => k - (intOf i).toNat)
      case atStart => exact ⟨0, Nat.zero_le _, rfl, hR0⟩
      case round =>
        obtain ⟨j, hj, rfl, hR⟩ := hrel
        clear hR0
        by_cases hlt : j < k
        · have hlt' : (j : Int) < (k : Int) := by omega
          have hcall := peer_any N S si st cap (j : Int) (by omega) wr (h.below hR.bel)
          rw [Int.toNat_natCast] at hcall
          have g0 := hR.bG.cell 0
          have g1 := hR.bG.cell 1
          have g2 := hR.bG.cell 2
          have g3 := hR.bG.cell 3
          have g4 := hR.bG.cell 4
          simp [gbox] at g0 g1 g2 g3 g4
          go_wp2_with fail
          refine hcall.mono ?_
          clear hcall
          rintro e w3 ⟨rfl, hb⟩
          have hRw := hR.mono hb
          unfold pval
          generalize hp : peerAt ps j = p at *
          have Hp : Hid (peerAt ps j = p) := hp
          clear hp hR hb g0 g1 g2 g3 g4
          have hR1 := hRw.mono ((Below.refl _ _).alloc (Nat.le_refl _) (Obj.cells (pbox p) 41))
          have bP1 := Box.new w3 (pbox p) 41
          go_wp2_with fail
          rw [show (Obj.cells #[Value.bool p.hd, .int .u64 p.lt, .bool p.kn, .slice p.va p.vl p.vc, .int .u64 p.si, .int .i64 p.sa] 41) = Obj.cells (pbox p) 41 from rfl]
          generalize w3.alloc (Obj.cells (pbox p) 41) = W3 at *
          clear hRw
          generalize w3.heap.size = pb at *
          have d14 := hR1.det.box.cell 14
          have p4 := bP1.cell 4
          have p5 := bP1.cell 5
          obtain ⟨fs, hms, hfs⟩ := hR1.det.mps.seen
          simp [detC, pbox] at d14 p4 p5
          have HF : Hid (∀ x : Int, fs (.int .i64 x) = if 0 ≤ x ∧ x < (j : Int) then some (.agg #[.int .u64 (peerAt ps x.toNat).si, .int .i64 (peerAt ps x.toNat).sa]) else none) := hfs
          clear hfs
          go_still_tail 10, mixed
          refine wpList_store_mp _ rfl _ _ _ 56 rfl 3 48 kInt Yba.underlying56 (m 10) j fs rfl hms.drew (by unfold maxLen; omega) _ _ _ rfl rfl (Maps.keyOf_int_mk Yba.underlying3 ((wfI _).2 (i64_small (by omega) (by omega)))) rfl ?_
          intro W4 hst hg4
          have hR2 := hR1.store (grown_drew hg4) (j := 10) (by omega) hms.nocell (hR1.det.mps.store_seen (grown_drew hg4) (by rw [Hp.out]; exact hst) HF.out) rfl
          have bP2 := bP1.kept' (grown_drew hg4) hms.nocell rfl
          clear hst hg4 hms HF bP1 hR1 d14 p4 p5
          have s00 := hR2.bS.cell 0
          simp at s00
          by_cases e : j = me
          · have e' : ((j : Int) == (me : Int)) = true := by rw [beq_iff_eq]; omega
            have HE : Hid (j = me) := e
            clear e
            go_wp2_with fail
            go_roundw
            case rel => exact ⟨j + 1, by omega, by go_num, ⟨hR2.det.box, hR2.det.ids, ((hR2.det.mps.skip_latest HE.out).skip_heard (Or.inl HE.out)).skip_vouch (Or.inl HE.out)⟩, hR2.bG, hR2.bS, hR2.bel, hR2.mlo⟩
            case measure => simp [intOf]; omega
          · have e' : ((j : Int) == (me : Int)) = false := by rw [beq_eq_false_iff_ne]; omega
            have HE : Hid (j ≠ me) := e
            clear e
            go_wp2_with fail
            have d8 := hR2.det.box.cell 8
            have p1 := bP2.cell 1
            obtain ⟨ft, hmt, hft⟩ := hR2.det.mps.latest
            simp [detC, pbox] at d8 p1
            have HF : Hid (∀ x : Int, ft (.int .i64 x) = if 0 ≤ x ∧ x < (j : Int) ∧ x ≠ (me : Int) then some (.int .u64 (peerAt ps x.toNat).lt) else none) := hft
            clear hft s00
            go_still_tail 7, mixed
            refine wpList_store_mp _ rfl _ _ _ 51 rfl 3 22 kInt Yba.underlying51 (m 4) j ft rfl hmt.drew (by unfold maxLen; omega) _ _ _ rfl rfl (Maps.keyOf_int_mk Yba.underlying3 ((wfI _).2 (i64_small (by omega) (by omega)))) rfl ?_
            intro W5 hst hg5
            have hR3 := hR2.store (grown_drew hg5) (j := 4) (by omega) hmt.nocell (hR2.det.mps.store_latest (grown_drew hg5) HE.out (by rw [Hp.out]; exact hst) HF.out) rfl
            have bP3 := bP2.kept' (grown_drew hg5) hmt.nocell rfl
            clear hst hg5 hmt HF bP2 hR2 d8 p1
            have p0 := bP3.cell 0
            simp [pbox] at p0
            have hpw := peerAt_wf h j
            rw [Hp.out] at hpw
            cases hhd : p.hd
            case' true =>
              rw [hhd] at p0
              go_wp2_with fail
              have d4 := hR3.det.box.cell 4
              have p1 := bP3.cell 1
              obtain ⟨fh, hmh, hfh⟩ := hR3.det.mps.heard
              simp [detC, pbox] at d4 p1
              have HF : Hid (∀ mm cc, I64 mm → U64 cc → (fh (kl mm cc)).isSome = heardB ps me j mm cc) := hfh
              clear hfh p0
              go_still_tail 8, mixed
              refine wpList_store_mp _ rfl _ _ _ 49 rfl 30 32 kReq Yba.underlying49 (m 0) j fh rfl hmh.drew (by unfold maxLen; omega) _ _ _ rfl rfl (kl_eq ((wfI _).2 (i64_small (by omega) (by omega))) ((wfU _).2 hpw.1)) rfl ?_
              intro W6 hst hg6
              have hR4 := hR3.store (grown_drew hg6) (j := 0) (by omega) hmh.nocell (hR3.det.mps.store_heard (grown_drew hg6) HE.out (by rw [Hp.out]; exact hhd) (i64_small (by omega) (by omega)) (by rw [Hp.out]; exact hpw.1) (by rw [Hp.out]; exact hst) HF.out) rfl
              have bP4 := bP3.kept' (grown_drew hg6) hmh.nocell rfl
              clear hst hg6 hmh HF bP3 hR3 d4 p1
            case' false =>
              rw [hhd] at p0
              have hR4 : RSt w W5 (gbox N S si st a len cap) ps k me d g capd s0 si st m (j + 1) (j + 1) (j + 1) j := ⟨⟨hR3.det.box, hR3.det.ids, hR3.det.mps.skip_heard (Or.inr (by rw [Hp.out]; exact hhd))⟩, hR3.bG, hR3.bS, hR3.bel, hR3.mlo⟩
              have bP4 := bP3
              clear bP3 hR3
              rename World => W6
            all_goals
              have hcall := vouch_any N S si st cap (j : Int) (by omega) W6 (h.below hR4.bel) hR4.bel.size hf
              rw [Int.toNat_natCast, Hp.out] at hcall
              have g0 := hR4.bG.cell 0
              have g1 := hR4.bG.cell 1
              have g2 := hR4.bG.cell 2
              have g3 := hR4.bG.cell 3
              have g4 := hR4.bG.cell 4
              simp [gbox] at g0 g1 g2 g3 g4
              go_wp2_with fail
              refine hcall.mono ?_
              clear hcall g0 g1 g2 g3 g4
              rintro e W7 ⟨⟨v, rfl, hrq⟩, hb7⟩
              have hR5 := hR4.mono hb7
              clear hR4 hb7 bP4
              cases hkn : p.kn
              · go_wp2_with fail
                go_roundw
                case rel => exact ⟨j + 1, by omega, by go_num, ⟨hR5.det.box, hR5.det.ids, hR5.det.mps.skip_vouch (Or.inr (by rw [Hp.out]; exact hkn))⟩, hR5.bG, hR5.bS, hR5.bel, hR5.mlo⟩
                case measure => simp [intOf]; omega
              · have hvs : vchs p = p.vs := by simp [vchs, hkn]
                rw [hvs] at hrq
                clear hvs
                have d13 := hR5.det.box.cell 13
                obtain ⟨fv, hmv, hfv⟩ := hR5.det.mps.vouching
                simp [detC] at d13
                have HF : Hid (∀ x : Int, (knownB ps me j x = false → fv (.int .i64 x) = none) ∧ (knownB ps me j x = true → ∃ v, fv (.int .i64 x) = some v ∧ Reqs W7 v (peerAt ps x.toNat).vs)) := hfv
                clear hfv
                go_wp2_with (first | (at_mapUpdate; refine wpList_store_mp _ rfl _ _ _ 55 rfl 3 35 kInt Yba.underlying55 (m 9) j fv rfl hmv (by unfold maxLen; omega) _ _ _ rfl rfl (Maps.keyOf_int_mk Yba.underlying3 ((wfI _).2 (i64_small (by omega) (by omega)))) rfl ?_; intro W8 hst hg8) | go_in)
                have hR6 := hR5.store hg8 (j := 9) (by omega) hmv.nocell (hR5.det.mps.store_vouch hg8 HE.out (by rw [Hp.out]; exact hkn) (by rw [Hp.out]; exact hrq) hmv hst HF.out) rfl
                clear hst hg8 hmv HF hR5 d13 hrq
                go_wp2_with fail
                go_roundw
                case rel => exact ⟨j + 1, by omega, by go_num, hR6⟩
                case measure => simp [intOf]; omega
        · have hlt' : ¬ (j : Int) < (k : Int) := by omega
          go_wp2_with fail
          go_ret
          obtain rfl : j = k := by omega
          exact ⟨⟨d, g, capd, m, rfl, hR.det⟩, hR.bel⟩

theorem build_any {a : Option Addr} {len : Nat} {ps : List PV} (N S si st : Int) (cap : Nat) (hN : 0 ≤ N ∧ N ≤ 255) (hS : 0 ≤ S ∧ S ≤ 255) (w : World) (h : Grp w.heap.size w a len ps) (hf : ∀ p ∈ ps, p.vl ≤ 256) :
    Calls Yba.prog 6 #[.agg #[.int .u8 N, .int .u8 S, .int .u64 si, .int .i64 st, .slice a len cap]] w fun e w' => Built w' (nOf N) (meOf N S) si st ps e ∧ Below w.heap.size w w' :=
  build_aux N S si st cap (nOf N) (meOf N S) (nOf_bd N) w h hf (fun o => self_any N S si st a len cap hN hS (w.alloc o))
end Go.Proofs.Ybulkuyw
