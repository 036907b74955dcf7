/-
  WALK: hearsAll (17).
-/
import Derived.Test.YbulkuywUp
import Derived.Maps.RangeWalk
namespace Go.Proofs.Ybulkuyw
open Go.RowKit

/-- (x, c), which is up, stands against (rm, rc) -/
def badB (ps : List PV) (n me : Nat) (si st now : Int) (kp : Bool) (rm rc x c : Int) : Bool := !hearsB ps n me si rm rc x c && (decide (rm = (me : Int) ∧ rc = si) || kp || setB ps n me si st now x c)
def HallRet (U : Int → Option Int) (bad : Int → Int → Bool) (e : Ending) : Prop := ∃ b, e = .returned (.bool b) ∧ (b = true ↔ ∀ x c, U x = some c → bad x c = false)

theorem below_grown {w w' : World} (h : Below w.heap.size w w') : w.grownBy w' none := ⟨h.os, h.tape, h.output, h.size, fun i hi _ => h.block i hi⟩

/-- what is known of those that are no longer to come -/
def Seen (U : Int → Option Int) (bad : Int → Int → Bool) (left : Lit → Bool) : Prop := ∀ x c, U x = some c → left (.int .i64 x) = false → bad x c = false

theorem Seen.step {U : Int → Option Int} {bad : Int → Int → Bool} {left : Lit → Bool} (h : Seen U bad left) {x c : Int} (hx : U x = some c) (hb : bad x c = false) : Seen U bad (fun z => left z && !z.sameKey (.int .i64 x)) := fun y c' hy hl => by
  by_cases e : y = x
  · subst e; rw [hx] at hy; cases hy; exact hb
  · simp [lit_ne e] at hl; exact h y c' hy hl

theorem ret_bad {U : Int → Option Int} {bad : Int → Int → Bool} {x c : Int} (hx : U x = some c) (hb : bad x c = true) : HallRet U bad (.returned (.bool false)) :=
  ⟨false, rfl, by simp, fun h => absurd (h x c hx) (by rw [hb]; simp)⟩

theorem okS_inv {v : Value} {y : DataW Value × List MemPlace} (h : tokP okS v = some y) : ∃ c, v = Value.int .u64 c := by
  obtain ⟨h1, _⟩ := tokP_inv h
  unfold okS at h1
  split at h1
  · exact ⟨_, rfl⟩
  · cases h1

set_option maxRecDepth 100000 in
set_option maxHeartbeats 2000000 in
theorem hall_any {d n me : Nat} {si st : Int} {ps : List PV} {g cap : Nat} {m : Nat → Nat} (b nb : Nat) (U : Int → Option Int) (rm rc now : Int) (kp : Bool) (w : World) (h : DetN w d n me si st ps g cap m) (hn : n ≤ 6) (hps : LtOk ps) (hv : VsOk ps) (hrm : I64 rm) (hU : Um w b nb U) :
    Calls Yba.prog 17 #[.pointer (some ⟨d, 0, none⟩), rv rm rc, .map (some b), .int .i64 now, .bool kp] w fun e w' => HallRet U (badB ps n me si st now kp rm rc) e ∧ Below w.heap.size w w' := by
  obtain ⟨f, ⟨D, hown, hD⟩, hf⟩ := hU
  have hbl := hown.lt
  have hDU : ∀ x c, U x = some c → Maps.has D (.int .i64 x) = true := fun x c hx => ((hD (.int .i64 x)).2 (.int .u64 c) (by rw [hf, hx]; rfl)).1
  have hUD : ∀ x c, Maps.has D (.int .i64 x) = true → (∀ zd, D.atKey (.int .i64 x) zd = .held (.int .u64 c)) → U x = some c := fun x c h1 h2 => by
    cases hx : U x with
    | none => have := (hD (.int .i64 x)).1 (by rw [hf, hx]; rfl); rw [h1] at this; cases this
    | some c' =>
      have h3 := ((hD (.int .i64 x)).2 (.int .u64 c') (by rw [hf, hx]; rfl)).2 (.held (.int .u64 c))
      rw [h2] at h3
      have := held_inj h3
      injection this with _ this
      rw [this]
  have hb0 := Box.new w #[.int .i64 rm, .int .u64 rc] 30
  have e1 : (w.alloc (Obj.cells #[.int .i64 rm, .int .u64 rc] 30)).heap.size = w.heap.size + 1 := by simp
  have HS0 : Hid (Seen U (badB ps n me si st now kp rm rc) (Maps.has D)) := fun x c hx hl => absurd hl (by rw [hDU x c hx]; simp)
  have hdl := h.box.lt
  have HBD : Hid (∀ x c, badB ps n me si st now kp rm rc x c = (!hearsB ps n me si rm rc x c && (decide (rm = (me : Int) ∧ rc = si) || kp || setB ps n me si st now x c))) := fun _ _ => rfl
  generalize badB ps n me si st now kp rm rc = bad at *
  clear hf hD hDU
  unfold rv
  go_enter Yba.func17, Yba.ntmps17
  go_wp2_with (first
    | (at_range; refine wpList_range_own _ rfl _ 51 rfl 3 22 kInt Yba.underlying51 _ b nb _ rfl (hown.alloc _) ?_; intro w0 hrg0 hg0 hs0))
  go_frame
  rw [e1] at hrg0 hs0 ⊢
  go_loopw [16] (fun _ wr => ∃ (left : Lit → Bool) (cnt : Nat), wr.ranges Yba.prog 3 (tokP okS) b (w.heap.size + 1) nb D left cnt ∧ Hid (Seen U bad left) ∧ Box wr w.heap.size #[.int .i64 rm, .int .u64 rc] 30 ∧ Below w.heap.size w wr)
    (fun _ wr => wr.rangeLeft b (w.heap.size + 1))
  case atStart => exact ⟨_, _, hrg0, HS0, hb0.kept hg0 (by simp), ((Below.refl _ _).alloc (Nat.le_refl _) _).grown hg0 (by simp) (fun j hj => by cases hj)⟩
  case round =>
    obtain ⟨left, cnt, hrg, HS, hbx, hB⟩ := hrel
    clear hrg0 hg0 hs0 HS0 hb0 hown
    go_wp2_with (first
      | (at_next; refine wpList_next_ranges _ rfl _ rfl 3 kInt (tokP okS) (Value.int .i64) (Value.int .u64) (fun key kl hkey => by obtain ⟨x, rfl, _⟩ := Maps.keyOf_int_inv Yba.underlying3 hkey; exact ⟨x, rfl⟩) (fun v y hv => okS_inv hv) b (w.heap.size + 1) nb _ _ _ rfl hrg ?_ ?_))
    · intro hc0 hl0
      clear h hUD
      go_wp2
      go_ret
      exact ⟨⟨true, rfl, by simp; exact fun x c hx => HS.out x c hx (hl0 _)⟩, hB⟩
    · intro x c kl y1 y2 w1 cnt1 hkey hlx hvy hat hrg1 hlt hg1 hs1 hen
      obtain ⟨x', ex, rfl, hwx⟩ := Maps.keyOf_int_inv Yba.underlying3 hkey
      cases ex
      obtain ⟨_, ey⟩ := tokP_inv hvy
      cases ey
      have hux := hUD x c (Maps.has_true_of_atKey hat) hat
      have hxI := (wfI x).1 hwx
      have hm0 : wr.rangeLeft b (w.heap.size + 1) = cnt := hrg.left_eq
      have hB1 : Below w.heap.size w w1 := hB.grown hg1 hB.size (fun j hj => by cases hj; omega)
      have hbx1 := hbx.kept hg1 (by simp)
      have HSx : Hid (bad x c = false → Seen U bad (fun z => left z && !z.sameKey (.int .i64 x))) := fun hb => HS.out.step hux hb
      have HRx : Hid (bad x c = true → HallRet U bad (.returned (.bool false))) := fun hb => ret_bad hux hb
      have Hbx : Hid (bad x c = (!hearsB ps n me si rm rc x c && (decide (rm = (me : Int) ∧ rc = si) || kp || setB ps n me si st now x c))) := HBD.out x c
      generalize bad x c = bad1 at *
      have hsz := hB1.size
      have hA1 := (Below.refl w1.heap.size w1).alloc (Nat.le_refl _) (Obj.cells #[.int .i64 x, .int .u64 c] 30)
      have hrg2 := hrg1.alloc (Obj.cells #[.int .i64 x, .int .u64 c] 30)
      have hbo := Box.new w1 #[.int .i64 x, .int .u64 c] 30
      have hbx2 := hbx1.mono hA1
      have hB2 := hB1.trans (hA1.mono hsz)
      have hol : w1.heap.size < (w1.alloc (Obj.cells #[.int .i64 x, .int .u64 c] 30)).heap.size := by simp
      clear HS hbx hB hg1 hrg1 hbx1 hB1 hA1 hrg hat hkey hvy hux hUD hlx hs1
      go_wp2_with fail
      generalize (w1.alloc (Obj.cells #[.int .i64 x, .int .u64 c] 30)) = W at *
      generalize w1.heap.size = ob at *
      have hDW := h.mono hB2
      have d0 := hDW.box.cell 0
      have d1 := hDW.box.cell 1
      have o0 := hbo.cell 0
      have o1 := hbo.cell 1
      have b0 := hbx2.cell 0
      have b1 := hbx2.cell 1
      simp [detC] at d0 d1 o0 o1 b0 b1
      have hc24 : ∀ y : Ext W.heap.size W, Calls Yba.prog 24 #[.pointer (some ⟨d, 0, none⟩), rv rm rc, rv x c] y.wd fun e w' => e = .returned (.bool (hearsB ps n me si rm rc x c)) ∧ ∃ z : Ext W.heap.size W, w' = z.wd := fun y =>
        ext_call ((hears_any rm rc x c y.wd (hDW.mono y.ok) hn hps hv hrm).mono fun e w' ⟨h1, h2⟩ => ⟨h1, h2.mono y.ok.size⟩)
      have hc25 : ∀ y : Ext W.heap.size W, Calls Yba.prog 25 #[.pointer (some ⟨d, 0, none⟩), rv x c, .int .i64 now] y.wd fun e w' => e = .returned (.bool (setB ps n me si st now x c)) ∧ ∃ z : Ext W.heap.size W, w' = z.wd := fun y =>
        ext_call ((settled_any x c now y.wd (hDW.mono y.ok) hxI).mono fun e w' ⟨h1, h2⟩ => ⟨h1, h2.mono y.ok.size⟩)
      have hdW := hDW.box.lt
      have hbW := hbx2.lt
      have f0 := fun y : Ext W.heap.size W => ext_cell d0 hdW y
      have f1 := fun y : Ext W.heap.size W => ext_cell d1 hdW y
      have f2 := fun y : Ext W.heap.size W => ext_cell o0 hol y
      have f3 := fun y : Ext W.heap.size W => ext_cell o1 hol y
      have f4 := fun y : Ext W.heap.size W => ext_cell b0 hbW y
      have f5 := fun y : Ext W.heap.size W => ext_cell b1 hbW y
      have hne : Nonempty (Ext W.heap.size W) := ⟨⟨_, Below.refl _ _⟩⟩
      have hBy := fun y : Ext W.heap.size W => hB2.trans (y.ok.mono hB2.size)
      have hrgy := fun y : Ext W.heap.size W => hrg2.kept (below_grown y.ok) (by simp) (by simp)
      have hbxy := fun y : Ext W.heap.size W => hbx2.mono y.ok
      clear hDW d0 d1 o0 o1 b0 b1 hdW hbW hol hB2 hrg2 hbo hbx2 h HBD
      unfold rv at *
      generalize hearsB ps n me si rm rc x c = hh at *
      generalize setB ps n me si st now x c = ss at *
      cases hh with
      | true =>
        refine wp_region_ext W.heap.size (by kernel_rfl) ?_
        repeat (go_big_quiet_step (first | (go_at_call 24; exact hc24 _) | (go_at_call 25; exact hc25 _)))
        refine wpQuiet_nil ?_
        rintro _ ⟨y, rfl⟩
        clear f0 f1 f2 f3 f4 f5 hne hc24 hc25
        go_wp2_with fail
        go_roundw
        case rel => exact ⟨_, cnt1, hrgy y, HSx.out (by rw [Hbx.out]; rfl), hbxy y, hBy y⟩
        case measure => rw [(hrgy y).left_eq, hm0]; exact hlt
      | false =>
        by_cases e1 : rm = (me : Int)
        · by_cases e2 : rc = si
          · have HE : Hid (rm = (me : Int) ∧ rc = si) := ⟨e1, e2⟩
            subst e1 e2
            refine wp_region_ext W.heap.size (by kernel_rfl) ?_
            repeat (go_big_quiet_step (first | (go_at_call 24; exact hc24 _) | (go_at_call 25; exact hc25 _)))
            refine wpQuiet_nil ?_
            rintro _ ⟨y, rfl⟩
            clear f0 f1 f2 f3 f4 f5 hne hc24 hc25
            go_wp2_with fail
            go_ret
            exact ⟨HRx.out (by rw [Hbx.out]; simp []), hBy y⟩
          · have HE : Hid (¬ rc = si) := e2
            subst e1
            cases kp with
            | true =>
              refine wp_region_ext W.heap.size (by kernel_rfl) ?_
              repeat (go_big_quiet_step (first | (go_at_call 24; exact hc24 _) | (go_at_call 25; exact hc25 _)))
              refine wpQuiet_nil ?_
              rintro _ ⟨y, rfl⟩
              clear f0 f1 f2 f3 f4 f5 hne hc24 hc25
              go_wp2_with fail
              go_ret
              exact ⟨HRx.out (by rw [Hbx.out]; simp [HE.out]), hBy y⟩
            | false =>
              cases ss with
              | true =>
                refine wp_region_ext W.heap.size (by kernel_rfl) ?_
                repeat (go_big_quiet_step (first | (go_at_call 24; exact hc24 _) | (go_at_call 25; exact hc25 _)))
                refine wpQuiet_nil ?_
                rintro _ ⟨y, rfl⟩
                clear f0 f1 f2 f3 f4 f5 hne hc24 hc25
                go_wp2_with fail
                go_ret
                exact ⟨HRx.out (by rw [Hbx.out]; simp [HE.out]), hBy y⟩
              | false =>
                refine wp_region_ext W.heap.size (by kernel_rfl) ?_
                repeat (go_big_quiet_step (first | (go_at_call 24; exact hc24 _) | (go_at_call 25; exact hc25 _)))
                refine wpQuiet_nil ?_
                rintro _ ⟨y, rfl⟩
                clear f0 f1 f2 f3 f4 f5 hne hc24 hc25
                go_wp2_with fail
                go_roundw
                case rel => exact ⟨_, cnt1, hrgy y, HSx.out (by rw [Hbx.out]; simp [HE.out]), hbxy y, hBy y⟩
                case measure => rw [(hrgy y).left_eq, hm0]; exact hlt
        · have HE : Hid (¬ rm = (me : Int)) := e1
          cases kp with
          | true =>
            refine wp_region_ext W.heap.size (by kernel_rfl) ?_
            repeat (go_big_quiet_step (first | (go_at_call 24; exact hc24 _) | (go_at_call 25; exact hc25 _)))
            refine wpQuiet_nil ?_
            rintro _ ⟨y, rfl⟩
            clear f0 f1 f2 f3 f4 f5 hne hc24 hc25
            go_wp2_with fail
            go_ret
            exact ⟨HRx.out (by rw [Hbx.out]; simp [HE.out]), hBy y⟩
          | false =>
            cases ss with
            | true =>
              refine wp_region_ext W.heap.size (by kernel_rfl) ?_
              repeat (go_big_quiet_step (first | (go_at_call 24; exact hc24 _) | (go_at_call 25; exact hc25 _)))
              refine wpQuiet_nil ?_
              rintro _ ⟨y, rfl⟩
              clear f0 f1 f2 f3 f4 f5 hne hc24 hc25
              go_wp2_with fail
              go_ret
              exact ⟨HRx.out (by rw [Hbx.out]; simp [HE.out]), hBy y⟩
            | false =>
              refine wp_region_ext W.heap.size (by kernel_rfl) ?_
              repeat (go_big_quiet_step (first | (go_at_call 24; exact hc24 _) | (go_at_call 25; exact hc25 _)))
              refine wpQuiet_nil ?_
              rintro _ ⟨y, rfl⟩
              clear f0 f1 f2 f3 f4 f5 hne hc24 hc25
              go_wp2_with fail
              go_roundw
              case rel => exact ⟨_, cnt1, hrgy y, HSx.out (by rw [Hbx.out]; simp [HE.out]), hbxy y, hBy y⟩
              case measure => rw [(hrgy y).left_eq, hm0]; exact hlt
end Go.Proofs.Ybulkuyw
