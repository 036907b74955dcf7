/-
  WALKS: the detector's methods that read it: vouches (21), vouched (15), vouchesOf (22), declared (30), current (23), hears (24), settled (25).
-/
import Derived.Test.YbulkuywBuild
namespace Go.Proofs.Ybulkuyw
open Go.RowKit

/-- the detector, whole -/
abbrev DetN (w : World) (d n me : Nat) (si st : Int) (ps : List PV) (g cap : Nat) (m : Nat → Nat) : Prop := Det w d n me si st ps g cap m n n n n

theorem ext_cell {B : Nat} {w : World} {b o : Nat} {v : Value} (h : w.cell? ⟨b, o, none⟩ = some v) (hb : b < B) (x : Ext B w) : x.wd.cell? ⟨b, o, none⟩ = some v := (x.ok.cell (p := ⟨b, o, none⟩) hb).trans h

set_option maxRecDepth 100000 in
set_option maxHeartbeats 400000 in
theorem vouches_any {d n me : Nat} {si st : Int} {ps : List PV} {g cap : Nat} {m : Nat → Nat} (mm cc : Int) (w : World) (h : DetN w d n me si st ps g cap m) (hmm : I64 mm) (hcc : U64 cc) :
    Calls Yba.prog 21 #[.pointer (some ⟨d, 0, none⟩), rv mm cc] w fun e w' => e = .returned (.bool (heardB ps me n mm cc)) ∧ Below w.heap.size w w' := by
  obtain ⟨fh, hmh, hfh⟩ := h.mps.heard
  have hdl := h.box.lt
  have hml := hmh.lt
  have d4 := h.box.cell 4
  simp [detC] at d4
  have hlook : ∀ x : World, Below w.heap.size w x → (Instr.lookup 49 (.map (some (m 0))) (.agg #[.int .i64 mm, .int .u64 cc]) true).run Yba.prog x = .ok (.tuple #[(fh (kl mm cc)).getD (.int .i64 0), .bool (heardB ps me n mm cc)]) x := fun x hx => by
    rw [← hfh mm cc hmm hcc]
    exact (hmh.below hx hml).look kReq Yba.underlying49 (z32 _) rfl (kl_eq ((wfI _).2 hmm) ((wfU _).2 hcc)) true
  have hw1 : Below w.heap.size w (w.alloc (Obj.cells #[.int .i64 mm, .int .u64 cc] 30)) := (Below.refl _ _).alloc (Nat.le_refl _) _
  unfold rv
  clear hfh
  go_enter Yba.func21, Yba.ntmps21
  go_wp2
  refine wp_region_ext (w.heap.size + 1) (by kernel_rfl) ?_
  have e4 : ∀ x : Ext (w.heap.size + 1) (w.alloc (Obj.cells #[.int .i64 mm, .int .u64 cc] 30)), x.wd.cell? ⟨d, 4, none⟩ = some (.map (some (m 0))) := fun x => ext_cell ((hw1.cell (p := ⟨d, 4, none⟩) hdl).trans d4) (by omega) x
  have e0 : ∀ x : Ext (w.heap.size + 1) (w.alloc (Obj.cells #[.int .i64 mm, .int .u64 cc] 30)), x.wd.cell? ⟨w.heap.size, 0, none⟩ = some (.int .i64 mm) := fun x => ext_cell (by simp) (by omega) x
  have e1 : ∀ x : Ext (w.heap.size + 1) (w.alloc (Obj.cells #[.int .i64 mm, .int .u64 cc] 30)), x.wd.cell? ⟨w.heap.size, 1, none⟩ = some (.int .u64 cc) := fun x => ext_cell (by simp) (by omega) x
  have el : ∀ x : Ext (w.heap.size + 1) (w.alloc (Obj.cells #[.int .i64 mm, .int .u64 cc] 30)), (Instr.lookup 49 (.map (some (m 0))) (.agg #[.int .i64 mm, .int .u64 cc]) true).run Yba.prog x.wd = .ok (.tuple #[(fh (kl mm cc)).getD (.int .i64 0), .bool (heardB ps me n mm cc)]) x.wd := fun x => hlook x.wd (hw1.trans (x.ok.mono (by omega)))
  clear hlook d4
  have hne : Nonempty (Ext (w.heap.size + 1) (w.alloc (Obj.cells #[.int .i64 mm, .int .u64 cc] 30))) := ⟨⟨_, Below.refl _ _⟩⟩
  repeat (go_big_quiet_step (fail))
  refine wpQuiet_nil ?_
  rintro _ ⟨x, rfl⟩
  have hB := hw1.trans (x.ok.mono (by omega))
  clear el e0 e1 e4 hne
  go_wp2
  go_ret
  exact ⟨rfl, hB⟩

theorem heardB_self {ps : List PV} {me n k : Nat} (hk : k < n) (hne : k ≠ me) : heardB ps me n (k : Int) (peerAt ps k).lt = (peerAt ps k).hd := by
  unfold heardB
  rw [Int.toNat_natCast]
  cases h : (peerAt ps k).hd
  · simp
  · simp; omega

/-- all the peers' newest incarnations are u64s -/
def LtOk (ps : List PV) : Prop := ∀ i, U64 (peerAt ps i).lt

set_option maxHeartbeats 1000000 in
theorem vouched_any {d n me : Nat} {si st : Int} {ps : List PV} {g cap : Nat} {m : Nat → Nat} (w : World) (h : DetN w d n me si st ps g cap m) (hn : n ≤ 6) (hps : LtOk ps) :
    Calls Yba.prog 15 #[.pointer (some ⟨d, 0, none⟩)] w fun e w' => RetReqs w' (candTo ps me si n) e ∧ Below w.heap.size w w' := by
  obtain ⟨i0, hi, hz0, hz1, hz2⟩ := info_parts info30
  have hn6 : (n : Int) ≤ 6 := by omega
  have d2 := h.box.cell 2
  simp [detC] at d2
  go_enter Yba.func15, Yba.ntmps15
  go_wp2
  go_loopw [3, 12] (fun v i wr => ∃ k : Nat, k ≤ n ∧ i = .int .i64 k ∧ wr.ownsRow w.heap.size 30 2 v (candTo ps me si k).length (rcells (candTo ps me si k)) ∧ Below w.heap.size w wr) (fun _ i _ => n - (intOf i).toNat)
  case atStart => exact ⟨0, Nat.zero_le _, rfl, World.ownsRow_nil _ _ _ _, Below.refl _ _⟩
  case round =>
    obtain ⟨k, hk, rfl, hrow, hB⟩ := hrel
    clear d2
    have hD := h.mono hB
    have d0 := hD.box.cell 0
    have d1 := hD.box.cell 1
    have d8 := hD.box.cell 8
    have hdl := hD.box.lt
    simp [detC] at d0 d1 d8
    have hkl := candTo_len ps me si k
    have HC : Hid (candTo ps me si (k + 1) = candTo ps me si k ++ (candF ps me si k).toList) := candTo_succ ps me si k
    by_cases hlt : k < n
    · have hlt' : (k : Int) < (n : Int) := by omega
      have hid := hD.ids k hlt
      obtain ⟨ft, hmt, hft⟩ := hD.mps.latest
      have hftk := hft (k : Int)
      have hkey := Maps.keyOf_int_mk (P := Yba.prog) Yba.underlying3 ((wfI (k : Int)).2 (i64_small (by omega) (by omega)))
      by_cases e : k = me
      · have e' : ((k : Int) == (me : Int)) = true := by rw [beq_iff_eq]; omega
        have HE : Hid (candTo ps me si (k + 1) = candTo ps me si k ++ [((me : Int), si)]) := by
          show _ = _
          rw [HC.out]; simp [candF, e]
        have hv : lookVal false (ft (.int .i64 (k : Int))) (.int .u64 0) = .int .u64 0 := by
          rw [hftk, if_neg (by omega)]; rfl
        have hlook := hmt.look kInt Yba.underlying51 (z22 _) rfl hkey false
        rw [hv] at hlook
        clear HC e hft hftk hv hkey hmt h hD
        go_wp2_with (first | (at_builtin; refine wpList_append_own _ rfl _ _ 35 rfl w.heap.size 30 i0 _ 2 16 Yba.underlying35 hi hz0 hz1 hz2 rfl (by decide) _ _ _ rfl ((hrow.alloc _).alloc _) ⟨wr.heap.size + 1, 0, none⟩ 1 1 [.int .i64 me, .int .u64 si] rfl rfl ?c1 ?c2 ?c3 ?c4 ?c5 ?_) | go_in)
        case c1 => have := cell_two_req (wr.alloc (Obj.cells #[.int .i64 k, .int .u64 0] 30)) me si; simpa using this
        case c2 => simp [Value.oneCell']
        case c3 => unfold maxLen; omega
        case c4 => omega
        case c5 => have := hB.size; simp; omega
        intro v' w3 hown3 hg3 _
        have hB3 : Below w.heap.size w w3 := ((hB.alloc hB.size _).alloc (by have := hB.size; simp; omega) _).grown hg3 (by have := hB.size; simp; omega) (ownsRow_lo hrow)
        clear hrow hg3
        go_wp2
        go_roundw
        case rel => exact ⟨k + 1, by omega, by go_num, by rw [HE.out, rcells_append]; simpa using hown3, hB3⟩
        case measure => simp [intOf]; omega
      · have e' : ((k : Int) == (me : Int)) = false := by rw [beq_eq_false_iff_ne]; omega
        have hv : lookVal false (ft (.int .i64 (k : Int))) (.int .u64 0) = .int .u64 (peerAt ps k).lt := by
          rw [hftk, if_pos (by omega), Int.toNat_natCast]; rfl
        have hlook := hmt.look kInt Yba.underlying51 (z22 _) rfl hkey false
        rw [hv] at hlook
        have hcall := fun o => vouches_any (k : Int) (peerAt ps k).lt (wr.alloc o) (hD.mono ((Below.refl _ _).alloc (Nat.le_refl _) o)) (i64_small (by omega) (by omega)) (hps k)
        rw [heardB_self hlt e] at hcall
        have hcf : candF ps me si k = if (peerAt ps k).hd = true then some ((k : Int), (peerAt ps k).lt) else none := by simp [candF, e]
        rw [hcf] at HC
        generalize peerAt ps k = p at *
        clear hcf e hft hftk hv hkey hmt h hD
        unfold rv at hcall
        cases hhd : p.hd with
        | true =>
          have HE : Hid (candTo ps me si (k + 1) = candTo ps me si k ++ [((k : Int), p.lt)]) := by
            show _ = _
            rw [HC.out]; simp [hhd]
          rw [hhd] at hcall
          clear HC
          go_wp2_with fail
          refine (hcall _).mono ?_
          clear hcall
          rintro e w2 ⟨rfl, hb2⟩
          have bR := (Box.new wr #[.int .i64 k, .int .u64 p.lt] 30).mono hb2
          have r0 := bR.cell 0
          have r1 := bR.cell 1
          have hrl := bR.lt
          simp at r0 r1
          have hB2 : Below w.heap.size w w2 := (hB.alloc hB.size _).trans (hb2.mono (by have := hB.size; simp; omega))
          have hrow2 := ownsRow_mono (hrow.alloc _) hb2
          clear hrow bR hb2 hlook d0 d1 d8
          go_wp2_with (first | (at_builtin; refine wpList_append_own _ rfl _ _ 35 rfl w.heap.size 30 i0 _ 2 16 Yba.underlying35 hi hz0 hz1 hz2 rfl (by decide) _ _ _ rfl (hrow2.alloc _) ⟨w2.heap.size, 0, none⟩ 1 1 [.int .i64 k, .int .u64 p.lt] rfl rfl (cell_two_req _ _ _) (by simp [Value.oneCell']) (by unfold maxLen; omega) (by omega) (by have := hB2.size; simp; omega) ?_; intro v' w3 hown3 hg3 _) | go_in)
          have hB3 : Below w.heap.size w w3 := (hB2.alloc hB2.size _).grown hg3 (by have := hB2.size; simp; omega) (ownsRow_lo hrow2)
          clear hrow2 hg3
          go_wp2
          go_roundw
          case rel => exact ⟨k + 1, by omega, by go_num, by rw [HE.out, rcells_append]; simpa using hown3, hB3⟩
          case measure => simp [intOf]; omega
        | false =>
          have HE : Hid (candTo ps me si (k + 1) = candTo ps me si k) := by
            show _ = _
            rw [HC.out]; simp [hhd]
          rw [hhd] at hcall
          clear HC
          go_wp2_with fail
          refine (hcall _).mono ?_
          clear hcall
          rintro e w2 ⟨rfl, hb2⟩
          have hB2 : Below w.heap.size w w2 := (hB.alloc hB.size _).trans (hb2.mono (by have := hB.size; simp; omega))
          have hrow2 := ownsRow_mono (hrow.alloc _) hb2
          clear hrow hb2 hlook d0 d1 d8
          go_wp2
          go_roundw
          case rel => exact ⟨k + 1, by omega, by go_num, by rw [HE.out]; exact hrow2, hB2⟩
          case measure => simp [intOf]; omega
    · have hlt' : ¬ (k : Int) < (n : Int) := by omega
      clear h hD
      go_wp2
      go_ret
      obtain rfl : k = n := by omega
      have hq := reqs_of_own hrow
      exact ⟨⟨_, rfl, hq⟩, hB⟩

/-- what (mm, cc) vouches for, and whether that is known -/
def vof (ps : List PV) (n me : Nat) (si mm cc : Int) : List (Int × Int) := if mm = (me : Int) ∧ cc = si then candTo ps me si n else if knownB ps me n mm = true then (peerAt ps mm.toNat).vs else []
def vok (ps : List PV) (n me : Nat) (si mm cc : Int) : Bool := if mm = (me : Int) ∧ cc = si then true else knownB ps me n mm
/-- the call hands back a slice of these Requesters, and this Bool -/
def RetReqs2 (w' : World) (L : List (Int × Int)) (b : Bool) (e : Ending) : Prop := ∃ v, e = .returned (.tuple #[v, .bool b]) ∧ Reqs w' v L

theorem below_drewN' (w : World) (k : Nat) : Below w.heap.size w (w.drewN k) := below_drewN (Below.refl _ _) k

theorem look_vouch {w : World} {d n me : Nat} {si st : Int} {ps : List PV} {g cap : Nat} {m : Nat → Nat} (h : DetN w d n me si st ps g cap m) {mm : Int} (hmm : I64 mm) :
    ∃ v, (∀ (o : Obj) (k : Nat), (Instr.lookup 55 (.map (some (m 9))) (.int .i64 mm) true).run Yba.prog ((w.alloc o).drewN k) = .ok (.tuple #[v, .bool (knownB ps me n mm)]) ((w.alloc o).drewN k)) ∧ Reqs w v (if knownB ps me n mm = true then (peerAt ps mm.toNat).vs else []) := by
  obtain ⟨fv, hmv, hfv⟩ := h.mps.vouching
  have hkey := Maps.keyOf_int_mk (P := Yba.prog) Yba.underlying3 ((wfI mm).2 hmm)
  have hrun := fun (o : Obj) (k : Nat) => (hmv.below (((Below.refl _ _).alloc (Nat.le_refl _) o).trans ((below_drewN' (w.alloc o) k).mono (by simp))) hmv.lt).look kInt Yba.underlying55 (z35 _) rfl hkey true
  cases hk : knownB ps me n mm with
  | false =>
    refine ⟨.slice none 0 0, fun o k => ?_, reqs_nil w⟩
    rw [hrun o k, (hfv mm).1 hk]; rfl
  | true =>
    obtain ⟨v, h1, h2⟩ := (hfv mm).2 hk
    refine ⟨v, fun o k => ?_, by rw [if_pos rfl]; exact h2⟩
    rw [hrun o k, h1]; rfl

set_option maxRecDepth 100000 in
set_option maxHeartbeats 1000000 in
theorem vouchesOf_any {d n me : Nat} {si st : Int} {ps : List PV} {g cap : Nat} {m : Nat → Nat} (mm cc : Int) (w : World) (h : DetN w d n me si st ps g cap m) (hn : n ≤ 6) (hps : LtOk ps) (hmm : I64 mm) :
    Calls Yba.prog 22 #[.pointer (some ⟨d, 0, none⟩), rv mm cc] w fun e w' => RetReqs2 w' (vof ps n me si mm cc) (vok ps n me si mm cc) e ∧ Below w.heap.size w w' := by
  have hdl := h.box.lt
  have d0 := h.box.cell 0
  have d1 := h.box.cell 1
  have d13 := h.box.cell 13
  simp [detC] at d0 d1 d13
  have hself := fun (o : Obj) (k : Nat) => vouched_any ((w.alloc o).drewN k) (h.mono (((Below.refl _ _).alloc (Nat.le_refl _) o).trans ((below_drewN' _ k).mono (by simp)))) hn hps
  by_cases e1 : mm = (me : Int)
  · by_cases e2 : cc = si
    · rw [show vof ps n me si mm cc = candTo ps me si n by simp [vof, e1, e2], show vok ps n me si mm cc = true by simp [vok, e1, e2]]
      subst e1 e2
      unfold rv
      clear h d13
      go_enter Yba.func22, Yba.ntmps22
      go_wp2
      go_quiet (fail)
      go_wp2_with fail
      refine (hself _ _).mono ?_
      rintro e w2 ⟨⟨v, rfl, hq⟩, hb⟩
      clear hself
      have hB : Below w.heap.size w w2 := (((Below.refl _ _).alloc (Nat.le_refl _) _).trans ((below_drewN' _ _).mono (by simp))).trans (hb.mono (by simp))
      go_wp2
      go_ret2
      exact ⟨⟨v, rfl, hq⟩, hB⟩
    · have hne : ¬ (mm = (me : Int) ∧ cc = si) := fun x => e2 x.2
      rw [show vof ps n me si mm cc = if knownB ps me n mm = true then (peerAt ps mm.toNat).vs else [] by simp only [vof, if_neg hne], show vok ps n me si mm cc = knownB ps me n mm by simp only [vok, if_neg hne]]
      obtain ⟨v, hlook, hq⟩ := look_vouch h hmm
      have hqk := fun o k => hq.mono (((Below.refl _ _).alloc (Nat.le_refl _) o).trans ((below_drewN' (w.alloc o) k).mono (by simp)))
      generalize knownB ps me n mm = b at *
      generalize (if b = true then (peerAt ps mm.toNat).vs else []) = L at *
      subst e1
      unfold rv
      clear h hself hq hne
      go_enter Yba.func22, Yba.ntmps22
      go_wp2
      go_quiet (fail)
      go_wp2
      go_quiet (fail)
      go_wp2
      go_ret2
      have hq2 := hqk (Obj.cells #[.int .i64 me, .int .u64 cc] 30) 0
      exact ⟨⟨v, rfl, hq2⟩, below_drewN (below_drewN ((Below.refl _ _).alloc (Nat.le_refl _) _) _) _⟩
  · have hne : ¬ (mm = (me : Int) ∧ cc = si) := fun x => e1 x.1
    rw [show vof ps n me si mm cc = if knownB ps me n mm = true then (peerAt ps mm.toNat).vs else [] by simp only [vof, if_neg hne], show vok ps n me si mm cc = knownB ps me n mm by simp only [vok, if_neg hne]]
    obtain ⟨v, hlook, hq⟩ := look_vouch h hmm
    have hqk := fun o k => hq.mono (((Below.refl _ _).alloc (Nat.le_refl _) o).trans ((below_drewN' (w.alloc o) k).mono (by simp)))
    generalize knownB ps me n mm = b at *
    generalize (if b = true then (peerAt ps mm.toNat).vs else []) = L at *
    unfold rv
    clear h hself hq hne
    go_enter Yba.func22, Yba.ntmps22
    go_wp2
    go_quiet (fail)
    go_wp2
    go_quiet (fail)
    go_wp2
    go_ret2
    have hq2 := hqk (Obj.cells #[.int .i64 mm, .int .u64 cc] 30) 0
    exact ⟨⟨v, rfl, hq2⟩, below_drewN (below_drewN ((Below.refl _ _).alloc (Nat.le_refl _) _) _) _⟩
end Go.Proofs.Ybulkuyw
