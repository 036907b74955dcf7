/-
  WALKS: declared (30), current (23), hears (24), settled (25).
-/
import Derived.Test.YbulkuywRead
namespace Go.Proofs.Ybulkuyw
open Go.RowKit

set_option maxRecDepth 100000 in
set_option maxHeartbeats 400000 in
theorem declared_any {d n me : Nat} {si st : Int} {ps : List PV} {g cap : Nat} {m : Nat → Nat} (mm cc : Int) (w : World) (h : DetN w d n me si st ps g cap m) (hmm : I64 mm) (hcc : U64 cc) :
    Calls Yba.prog 30 #[.pointer (some ⟨d, 0, none⟩), rv mm cc] w fun e w' => e = .returned (.bool false) ∧ Below w.heap.size w w' := by
  have hmc := h.mps.crashed
  have hdl := h.box.lt
  have d10 := h.box.cell 10
  simp [detC] at d10
  have hkey := kl_eq ((wfI mm).2 hmm) ((wfU cc).2 hcc)
  have hlook : ∀ (o : Obj) (k : Nat), (Instr.lookup 50 (.map (some (m 6))) (rv mm cc) false).run Yba.prog ((w.alloc o).drewN k) = .ok (.bool false) ((w.alloc o).drewN k) := fun o k =>
    (hmc.below (((Below.refl _ _).alloc (Nat.le_refl _) o).trans ((below_drewN' (w.alloc o) k).mono (by simp))) hmc.lt).look kReq Yba.underlying50 (z4 _) rfl hkey false
  unfold rv at *
  clear h hkey
  go_enter Yba.func30, Yba.ntmps30
  go_wp2
  go_quiet (fail)
  go_wp2
  go_ret
  exact ⟨rfl, below_drewN ((Below.refl _ _).alloc (Nat.le_refl _) _) _⟩

/-- may this be the start of its member that is up? -/
def curB (ps : List PV) (n me : Nat) (mm cc : Int) : Bool := memB n mm && decide (latOf ps n me mm ≤ cc)

theorem look_latest {w : World} {d n me : Nat} {si st : Int} {ps : List PV} {g cap : Nat} {m : Nat → Nat} (h : DetN w d n me si st ps g cap m) {mm : Int} (hmm : I64 mm) {x : World} (hx : Below w.heap.size w x) :
    (Instr.lookup 51 (.map (some (m 4))) (.int .i64 mm) false).run Yba.prog x = .ok (.int .u64 (latOf ps n me mm)) x := by
  obtain ⟨ft, hmt, hft⟩ := h.mps.latest
  have hkey := Maps.keyOf_int_mk (P := Yba.prog) Yba.underlying3 ((wfI mm).2 hmm)
  have hr := (hmt.below hx hmt.lt).look kInt Yba.underlying51 (z22 _) rfl hkey false
  rw [hr, hft mm]
  by_cases e : 0 ≤ mm ∧ mm < (n : Int) ∧ mm ≠ (me : Int)
  · rw [if_pos e]
    have : latOf ps n me mm = (peerAt ps mm.toNat).lt := by unfold latOf; rw [if_neg (by omega)]
    rw [this]; rfl
  · rw [if_neg e]
    have : latOf ps n me mm = 0 := by unfold latOf; rw [if_pos (by omega)]
    rw [this]; rfl

set_option maxRecDepth 100000 in
set_option maxHeartbeats 1000000 in
theorem current_any {d n me : Nat} {si st : Int} {ps : List PV} {g cap : Nat} {m : Nat → Nat} (mm cc : Int) (w : World) (h : DetN w d n me si st ps g cap m) (hn : n ≤ 6) (hmm : I64 mm) (hcc : U64 cc) :
    Calls Yba.prog 23 #[.pointer (some ⟨d, 0, none⟩), rv mm cc] w fun e w' => e = .returned (.bool (curB ps n me mm cc)) ∧ Below w.heap.size w w' := by
  have hdl := h.box.lt
  have d2 := h.box.cell 2
  have d8 := h.box.cell 8
  simp [detC] at d2 d8
  have hw1 : Below w.heap.size w (w.alloc (Obj.cells #[.int .i64 mm, .int .u64 cc] 30)) := (Below.refl _ _).alloc (Nat.le_refl _) _
  have e2 : ∀ x : Ext (w.heap.size + 1) (w.alloc (Obj.cells #[.int .i64 mm, .int .u64 cc] 30)), x.wd.cell? ⟨d, 2, none⟩ = some (.slice (some ⟨g, 0, none⟩) n cap) := fun x => ext_cell ((hw1.cell (p := ⟨d, 2, none⟩) hdl).trans d2) (by omega) x
  have e8 : ∀ x : Ext (w.heap.size + 1) (w.alloc (Obj.cells #[.int .i64 mm, .int .u64 cc] 30)), x.wd.cell? ⟨d, 8, none⟩ = some (.map (some (m 4))) := fun x => ext_cell ((hw1.cell (p := ⟨d, 8, none⟩) hdl).trans d8) (by omega) x
  have e0 : ∀ x : Ext (w.heap.size + 1) (w.alloc (Obj.cells #[.int .i64 mm, .int .u64 cc] 30)), x.wd.cell? ⟨w.heap.size, 0, none⟩ = some (.int .i64 mm) := fun x => ext_cell (by simp) (by omega) x
  have e1 : ∀ x : Ext (w.heap.size + 1) (w.alloc (Obj.cells #[.int .i64 mm, .int .u64 cc] 30)), x.wd.cell? ⟨w.heap.size, 1, none⟩ = some (.int .u64 cc) := fun x => ext_cell (by simp) (by omega) x
  have hxw : ∀ x : Ext (w.heap.size + 1) (w.alloc (Obj.cells #[.int .i64 mm, .int .u64 cc] 30)), Below w.heap.size w x.wd := fun x => hw1.trans (x.ok.mono (by omega))
  have el : ∀ x : Ext (w.heap.size + 1) (w.alloc (Obj.cells #[.int .i64 mm, .int .u64 cc] 30)), (Instr.lookup 51 (.map (some (m 4))) (.int .i64 mm) false).run Yba.prog x.wd = .ok (.int .u64 (latOf ps n me mm)) x.wd := fun x => look_latest h hmm (hxw x)
  have hne : Nonempty (Ext (w.heap.size + 1) (w.alloc (Obj.cells #[.int .i64 mm, .int .u64 cc] 30))) := ⟨⟨_, Below.refl _ _⟩⟩
  have hc29 : ∀ x : Ext (w.heap.size + 1) (w.alloc (Obj.cells #[.int .i64 mm, .int .u64 cc] 30)), Calls Yba.prog 29 #[.slice (some ⟨g, 0, none⟩) n cap, .int .i64 mm] x.wd fun e w' => e = .returned (.bool (memB n mm)) ∧ ∃ y : Ext (w.heap.size + 1) (w.alloc (Obj.cells #[.int .i64 mm, .int .u64 cc] 30)), w' = y.wd := fun x =>
    ext_call ((containsI_any g n cap mm x.wd (fun j hj => cell_mono (hxw x) (h.ids j hj)) hn).mono fun e w' ⟨h1, h2⟩ => ⟨h1, h2 ▸ Below.refl _ _⟩)
  have hc30 : ∀ x : Ext (w.heap.size + 1) (w.alloc (Obj.cells #[.int .i64 mm, .int .u64 cc] 30)), Calls Yba.prog 30 #[.pointer (some ⟨d, 0, none⟩), rv mm cc] x.wd fun e w' => e = .returned (.bool false) ∧ ∃ y : Ext (w.heap.size + 1) (w.alloc (Obj.cells #[.int .i64 mm, .int .u64 cc] 30)), w' = y.wd := fun x =>
    ext_call ((declared_any mm cc x.wd (h.mono (hxw x)) hmm hcc).mono fun e w' ⟨h1, h2⟩ => ⟨h1, h2.mono (by have := x.ok.size; simp at this; omega)⟩)
  unfold rv at *
  clear h d2 d8
  unfold curB
  cases hm : memB n mm with
  | false =>
    rw [hm] at hc29
    go_enter Yba.func23, Yba.ntmps23
    go_wp2
    refine wp_region_ext (w.heap.size + 1) (by kernel_rfl) ?_
    repeat (go_big_quiet_step (first | (go_at_call 29; exact hc29 _) | (go_at_call 30; exact hc30 _)))
    refine wpQuiet_nil ?_
    rintro _ ⟨x, rfl⟩
    have hB := hxw x
    clear el e0 e1 e2 e8 hne hc29 hc30 hxw
    go_wp2
    go_ret
    exact ⟨rfl, hB⟩
  | true =>
    rw [hm] at hc29
    generalize latOf ps n me mm = lt at *
    by_cases hle : lt ≤ cc
    · rw [show decide (lt ≤ cc) = true from decide_eq_true hle]
      go_enter Yba.func23, Yba.ntmps23
      go_wp2
      refine wp_region_ext (w.heap.size + 1) (by kernel_rfl) ?_
      repeat (go_big_quiet_step (first | (go_at_call 29; exact hc29 _) | (go_at_call 30; exact hc30 _)))
      refine wpQuiet_nil ?_
      rintro _ ⟨x, rfl⟩
      have hB := hxw x
      clear el e0 e1 e2 e8 hne hc29 hc30 hxw
      go_wp2
      go_ret
      exact ⟨rfl, hB⟩
    · have hdf : decide (lt ≤ cc) = false := decide_eq_false hle
      rw [hdf]
      go_enter Yba.func23, Yba.ntmps23
      go_wp2
      refine wp_region_ext (w.heap.size + 1) (by kernel_rfl) ?_
      repeat (go_big_quiet_step (first | (go_at_call 29; exact hc29 _) | (go_at_call 30; exact hc30 _)))
      refine wpQuiet_nil ?_
      rintro _ ⟨x, rfl⟩
      have hB := hxw x
      clear el e0 e1 e2 e8 hne hc29 hc30 hxw
      go_wp2
      go_ret
      exact ⟨rfl, hB⟩

/-- does (mm, cc) vouch for (om, oc)? -/
def hearsB (ps : List PV) (n me : Nat) (si mm cc om oc : Int) : Bool := !(vok ps n me si mm cc) || hasR (vof ps n me si mm cc) (om, oc)

/-- every list of vouches is short -/
def VsOk (ps : List PV) : Prop := ∀ i, (peerAt ps i).vs.length ≤ 256

theorem vof_len {ps : List PV} (hv : VsOk ps) (n me : Nat) (si mm cc : Int) (hn : n ≤ 6) : (vof ps n me si mm cc).length ≤ 1000000 := by
  unfold vof
  split
  · have := candTo_len ps me si n; omega
  · split
    · have := hv mm.toNat; omega
    · simp

set_option maxHeartbeats 1000000 in
theorem hears_any {d n me : Nat} {si st : Int} {ps : List PV} {g cap : Nat} {m : Nat → Nat} (mm cc om oc : Int) (w : World) (h : DetN w d n me si st ps g cap m) (hn : n ≤ 6) (hps : LtOk ps) (hv : VsOk ps) (hmm : I64 mm) :
    Calls Yba.prog 24 #[.pointer (some ⟨d, 0, none⟩), rv mm cc, rv om oc] w fun e w' => e = .returned (.bool (hearsB ps n me si mm cc om oc)) ∧ Below w.heap.size w w' := by
  have hlen := vof_len hv n me si mm cc hn
  have hcall := fun o o' => vouchesOf_any mm cc ((w.alloc o).alloc o') (h.mono (((Below.refl _ _).alloc (Nat.le_refl _) o).alloc (by simp) o')) hn hps hmm
  unfold hearsB
  generalize vof ps n me si mm cc = L at *
  generalize vok ps n me si mm cc = b at *
  have hcon := fun (v : Value) (x : World) (hq : Reqs x v L) => contains_any v L om oc x hq hlen
  clear h
  unfold rv at *
  cases b with
  | false =>
    go_enter Yba.func24, Yba.ntmps24
    go_wp2_with fail
    refine (hcall _ _).mono ?_
    clear hcall
    rintro e w2 ⟨⟨v, rfl, hq⟩, hb⟩
    have hB : Below w.heap.size w w2 := (((Below.refl _ _).alloc (Nat.le_refl _) _).alloc (by simp) _).trans (hb.mono (by simp; omega))
    clear hb
    go_wp2_with fail
    go_ret
    exact ⟨rfl, hB⟩
  | true =>
    go_enter Yba.func24, Yba.ntmps24
    go_wp2_with fail
    refine (hcall _ _).mono ?_
    clear hcall
    rintro e w2 ⟨⟨v, rfl, hq⟩, hb⟩
    have hB : Below w.heap.size w w2 := (((Below.refl _ _).alloc (Nat.le_refl _) _).alloc (by simp) _).trans (hb.mono (by simp; omega))
    have hc2 := hcon v w2 hq
    have bO := (Box.new (w.alloc (Obj.cells #[.int .i64 mm, .int .u64 cc] 30)) #[.int .i64 om, .int .u64 oc] 30).mono hb
    have o0 := bO.cell 0
    have o1 := bO.cell 1
    simp at o0 o1
    clear hb hcon bO hq
    go_wp2_with fail
    refine hc2.mono ?_
    clear hc2
    rintro e w3 ⟨rfl, hb3⟩
    have hB3 := hB.trans (hb3.mono hB.size)
    go_wp2_with fail
    go_ret
    exact ⟨ret_bool (by simp), hB3⟩

/-- has (om, oc) been known for long enough? -/
def setB (ps : List PV) (n me : Nat) (si st now om oc : Int) : Bool := decide (3000000000 ≤ wrap64 (now - (if om = (me : Int) ∧ oc = si then st else if 0 ≤ om ∧ om < (n : Int) then (peerAt ps om.toNat).sa else 0)))

theorem field48_1 (v0 v1 : Value) (w : World) : (Instr.field 48 (.agg #[v0, v1]) 1).run Yba.prog w = .ok v1 w := by kernel_rfl

theorem look_seen {w : World} {d n me : Nat} {si st : Int} {ps : List PV} {g cap : Nat} {m : Nat → Nat} (h : DetN w d n me si st ps g cap m) {om : Int} (hom : I64 om) :
    ∃ s, ∀ (o : Obj) (k : Nat), (Instr.lookup 56 (.map (some (m 10))) (.int .i64 om) false).run Yba.prog ((w.alloc o).drewN k) = .ok (.agg #[.int .u64 s, .int .i64 (if 0 ≤ om ∧ om < (n : Int) then (peerAt ps om.toNat).sa else 0)]) ((w.alloc o).drewN k) := by
  obtain ⟨ft, hmt, hft⟩ := h.mps.seen
  have hkey := Maps.keyOf_int_mk (P := Yba.prog) Yba.underlying3 ((wfI om).2 hom)
  have hr := fun (o : Obj) (k : Nat) => (hmt.below (((Below.refl _ _).alloc (Nat.le_refl _) o).trans ((below_drewN' (w.alloc o) k).mono (by simp))) hmt.lt).look kInt Yba.underlying56 (z48 _) rfl hkey false
  by_cases e : 0 ≤ om ∧ om < (n : Int)
  · refine ⟨(peerAt ps om.toNat).si, fun o k => ?_⟩
    rw [hr o k, hft om, if_pos e, if_pos e]; rfl
  · refine ⟨0, fun o k => ?_⟩
    rw [hr o k, hft om, if_neg e, if_neg e]; rfl

set_option maxRecDepth 100000 in
set_option maxHeartbeats 1000000 in
theorem settled_any {d n me : Nat} {si st : Int} {ps : List PV} {g cap : Nat} {m : Nat → Nat} (om oc now : Int) (w : World) (h : DetN w d n me si st ps g cap m) (hom : I64 om) :
    Calls Yba.prog 25 #[.pointer (some ⟨d, 0, none⟩), rv om oc, .int .i64 now] w fun e w' => e = .returned (.bool (setB ps n me si st now om oc)) ∧ Below w.heap.size w w' := by
  have hdl := h.box.lt
  have d0 := h.box.cell 0
  have d1 := h.box.cell 1
  have d3 := h.box.cell 3
  have d14 := h.box.cell 14
  simp [detC] at d0 d1 d3 d14
  obtain ⟨s, hlook⟩ := look_seen h hom
  have hfld := field48_1
  unfold setB
  generalize (if 0 ≤ om ∧ om < (n : Int) then (peerAt ps om.toNat).sa else 0) = sa at *
  unfold rv
  clear h
  by_cases e1 : om = (me : Int)
  · by_cases e2 : oc = si
    · rw [if_pos ⟨e1, e2⟩]
      subst e1 e2
      go_enter Yba.func25, Yba.ntmps25
      go_wp2
      go_quiet (fail)
      go_wp2
      go_quiet (fail)
      go_wp2
      go_ret
      exact ⟨rfl, below_drewN ((Below.refl _ _).alloc (Nat.le_refl _) _) _⟩
    · rw [if_neg (fun x => e2 x.2)]
      subst e1
      go_enter Yba.func25, Yba.ntmps25
      go_wp2
      go_quiet (fail)
      go_wp2
      go_quiet (fail)
      go_wp2
      go_ret
      exact ⟨rfl, below_drewN ((Below.refl _ _).alloc (Nat.le_refl _) _) _⟩
  · rw [if_neg (fun x => e1 x.1)]
    go_enter Yba.func25, Yba.ntmps25
    go_wp2
    go_quiet (fail)
    go_wp2
    go_quiet (fail)
    go_wp2
    go_ret
    exact ⟨rfl, below_drewN ((Below.refl _ _).alloc (Nat.le_refl _) _) _⟩
end Go.Proofs.Ybulkuyw
