/-
  WALK: LawS1062CModel (3).
-/
import Derived.Test.YbulkuywModel
namespace Go.Proofs.Ybulkuyw
open Go.RowKit

theorem ord_exists {L : List (Int × Int)} (good : Int × Int → Prop) (h : 0 < L.length) : ∃ r, IsOrd L good r := by
  have key : ∀ k, k ≤ L.length → NoneTo L good k ∨ ∃ r, IsOrd L good r := by
    intro k
    induction k with
    | zero => intro _; exact .inl (fun j hj => by omega)
    | succ k ih =>
      intro hk
      rcases ih (by omega) with hN | hr
      · have he : L[k]? = some L[k] := List.getElem?_eq_getElem (by omega)
        by_cases hg : good L[k]
        · exact .inr ⟨L[k], .inl ⟨k, he, hg, hN⟩⟩
        · exact .inl (hN.step he hg)
      · exact .inr hr
  rcases key L.length (Nat.le_refl _) with hN | hr
  · exact ⟨L[0], .inr ⟨hN, List.getElem?_eq_getElem h⟩⟩
  · exact hr

theorem OrdRet.at {L : List (Int × Int)} {good : Int × Int → Prop} {e : Ending} {r : Int × Int} (h : OrdRet L good e) (hr : IsOrd L good r) : e = .returned (rv r.1 r.2) := by
  obtain ⟨q, he, hq⟩ := h
  rw [he, IsOrd.unique hq hr]

set_option maxRecDepth 100000 in
set_option maxHeartbeats 2000000 in
theorem modelLaw_any {a : Option Addr} {len : Nat} {ps : List PV} (N S si st : Int) (cap : Nat) (now : Int) (kp : Bool) (hN : 0 ≤ N ∧ N ≤ 255) (hS : 0 ≤ S ∧ S ≤ 255) (hsi : U64 si) (w : World) (h : Grp w.heap.size w a len ps) :
    Calls Yba.prog 3 #[.agg #[.int .u8 N, .int .u8 S, .int .u64 si, .int .i64 st, .slice a len cap], .int .i64 now, .bool kp] w fun e w' => e = .returned (.bool true) ∧ Below w.heap.size w w' := by
  have hA := (Below.refl w.heap.size w).alloc (Nat.le_refl _) (Obj.cells (gbox N S si st a len cap) 25)
  have bG := Box.new w (gbox N S si st a len cap) 25
  have hfits := fits_any N S si st cap _ (h.next hA)
  have hbuild := fun (wr : World) (hB : Below w.heap.size w wr) (hf : ∀ p ∈ ps, p.vl ≤ 256) => build_any N S si st cap hN hS wr (h.next hB) hf
  have hmodel := fun (wr : World) (hB : Below w.heap.size w wr) (hf : ∀ p ∈ ps, p.vl ≤ 256) => model_any N S si st cap now kp hN hS hsi wr (h.next hB) hf
  have hlt := h.ltOk
  have hvw := h.vsWf
  have hn := (nOf_bd N).2
  have hme := meOf_lt N S
  clear h
  generalize nOf N = n at *
  generalize meOf N S = me at *
  obtain ⟨r, hr⟩ := ord_exists (goodO ps n me si st now kp) (candTo_pos (ps := ps) (si := si) hme)
  have g0 := bG.cell 0
  have g1 := bG.cell 1
  have g2 := bG.cell 2
  have g3 := bG.cell 3
  have g4 := bG.cell 4
  simp [gbox] at g0 g1 g2 g3 g4
  go_enter Yba.func3, Yba.ntmps3
  go_wp2_with fail
  refine hfits.mono ?_
  clear hfits
  rintro e w2 ⟨⟨b, rfl, hb⟩, hB2⟩
  have bG := bG.mono hB2
  have hB2 := hA.trans (hB2.mono (by simp))
  clear hA g0 g1 g2 g3 g4
  cases b with
  | false =>
    clear hbuild hmodel
    go_wp2_with fail
    go_ret
    exact ⟨rfl, hB2⟩
  | true =>
    have hf := hb rfl
    have hvw := hvw hf
    have hbuild := hbuild w2 hB2 hf
    have hmodel := fun (wr : World) (hB : Below w.heap.size w wr) => hmodel wr hB hf
    have g0 := bG.cell 0
    have g1 := bG.cell 1
    have g2 := bG.cell 2
    have g3 := bG.cell 3
    have g4 := bG.cell 4
    simp [gbox] at g0 g1 g2 g3 g4
    clear hb
    go_wp2_with fail
    refine hbuild.mono ?_
    clear hbuild g0 g1 g2 g3 g4
    rintro e w3 ⟨⟨d, g, dcap, m, rfl, hD⟩, hb3⟩
    have bG := bG.mono hb3
    have hB3 := hB2.trans (hb3.mono hB2.size)
    clear hb3 hB2
    have g0 := bG.cell 0
    have g1 := bG.cell 1
    have g2 := bG.cell 2
    have g3 := bG.cell 3
    have g4 := bG.cell 4
    simp [gbox] at g0 g1 g2 g3 g4
    have f3 := fun y : Ext w3.heap.size w3 => ext_cell g0 bG.lt y
    have f4 := fun y : Ext w3.heap.size w3 => ext_cell g1 bG.lt y
    have f5 := fun y : Ext w3.heap.size w3 => ext_cell g2 bG.lt y
    have f6 := fun y : Ext w3.heap.size w3 => ext_cell g3 bG.lt y
    have f7 := fun y : Ext w3.heap.size w3 => ext_cell g4 bG.lt y
    have hne : Nonempty (Ext w3.heap.size w3) := ⟨⟨_, Below.refl _ _⟩⟩
    have hc7 : ∀ y : Ext w3.heap.size w3, Calls Yba.prog 7 #[.pointer (some ⟨d, 0, none⟩), .int .i64 now, .bool kp] y.wd fun e w' => e = .returned (rv r.1 r.2) ∧ ∃ z : Ext w3.heap.size w3, w' = z.wd := fun y =>
      ext_call ((ord_any now kp y.wd (hD.mono y.ok) hn hme hlt hvw hsi).mono fun e w' ⟨h1, h2⟩ => ⟨h1.at hr, h2.mono y.ok.size⟩)
    have hc8 : ∀ y : Ext w3.heap.size w3, Calls Yba.prog 8 #[.agg #[.int .u8 N, .int .u8 S, .int .u64 si, .int .i64 st, .slice a len cap], .int .i64 now, .bool kp] y.wd fun e w' => e = .returned (rv r.1 r.2) ∧ ∃ z : Ext w3.heap.size w3, w' = z.wd := fun y =>
      ext_call ((hmodel y.wd (hB3.trans (y.ok.mono hB3.size))).mono fun e w' ⟨h1, h2⟩ => ⟨h1.at hr, h2.mono y.ok.size⟩)
    have hBy := fun y : Ext w3.heap.size w3 => hB3.trans (y.ok.mono hB3.size)
    clear g0 g1 g2 g3 g4 bG hB3 hmodel hD hr
    unfold rv at hc7 hc8
    go_wp2_with fail
    refine wp_region_ext w3.heap.size (by kernel_rfl) ?_
    repeat (go_big_quiet_step (first | (go_at_call 7; exact hc7 _) | (go_at_call 8; exact hc8 _)))
    refine wpQuiet_nil ?_
    rintro _ ⟨y, rfl⟩
    clear f3 f4 f5 f6 f7 hne hc7 hc8
    go_wp2_with fail
    go_ret
    exact ⟨rfl, hBy y⟩
end Go.Proofs.Ybulkuyw
