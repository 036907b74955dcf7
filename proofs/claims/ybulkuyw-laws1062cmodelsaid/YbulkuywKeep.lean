/-
  WALK: LawS1062CKeepingLater (4), and its plain law.
-/
import Derived.Test.YbulkuywOrd
namespace Go.Proofs.Ybulkuyw
open Go.RowKit

theorem candTo_asc (ps : List PV) (me : Nat) (si : Int) : ∀ k, (candTo ps me si k).Pairwise (fun p q => p.1 < q.1)
  | 0 => by simp [candTo]
  | k + 1 => by
    rw [candTo_succ]
    refine List.pairwise_append.2 ⟨candTo_asc ps me si k, by cases candF ps me si k <;> simp, fun p hp q hq => ?_⟩
    obtain ⟨i, hi, h1, _⟩ := candTo_mem hp
    have hk : q.1 = (k : Int) := by
      unfold candF at hq
      split at hq
      · rename_i e; simp at hq; rw [hq]; simp [e]
      · split at hq
        · simp at hq; rw [hq]
        · simp at hq
    rw [h1, hk]; omega

theorem keep_plain {L : List (Int × Int)} {good1 good2 : Int × Int → Prop} {a b : Int × Int} (asc : L.Pairwise (fun p q => p.1 < q.1)) (imp : ∀ q, good2 q → good1 q) (ha : IsOrd L good1 a) (hb : IsOrd L good2 b) :
    b = a ∨ L[0]? = some b ∨ a.1 < b.1 := by
  rcases hb with ⟨kb, hb, gb, nb⟩ | ⟨_, hb⟩
  · rcases ha with ⟨ka, ha, ga, na⟩ | ⟨na, _⟩
    · rcases Nat.lt_trichotomy ka kb with h | h | h
      · obtain ⟨h1, e1⟩ := List.getElem?_eq_some_iff.1 ha
        obtain ⟨h2, e2⟩ := List.getElem?_eq_some_iff.1 hb
        have := List.pairwise_iff_getElem.1 asc ka kb h1 h2 h
        rw [e1, e2] at this
        exact .inr (.inr this)
      · subst h; rw [ha] at hb; cases hb; exact .inl rfl
      · exact absurd (imp b gb) (na kb h b hb)
    · obtain ⟨h2, _⟩ := List.getElem?_eq_some_iff.1 hb
      exact absurd (imp b gb) (na kb h2 b hb)
  · exact .inr (.inl hb)

theorem IsOrd.mem {L : List (Int × Int)} {good : Int × Int → Prop} {r : Int × Int} (h : IsOrd L good r) : r ∈ L := by
  rcases h with ⟨k, h, _⟩ | ⟨_, h⟩ <;> exact List.mem_of_getElem? h

theorem good_keep {ps : List PV} {n me : Nat} {si st now : Int} (q : Int × Int) (h : goodO ps n me si st now true q) : goodO ps n me si st now false q := fun x c hx => by
  have := h x c hx
  unfold badB at *
  cases hh : hearsB ps n me si q.1 q.2 x c
  · rw [hh] at this; simp at this
  · simp

theorem Grp.grow {B B' : Nat} {w : World} {a : Option Addr} {len : Nat} {ps : List PV} (h : Grp B w a len ps) (hB : B ≤ B') : Grp B' w a len ps where
  hlen := h.hlen
  small := h.small
  cs := fun i p hp => by
    obtain ⟨b, off, e, hb, c⟩ := h.cs i p hp
    exact ⟨b, off, e, by omega, c⟩
  vs := fun p hp => by
    obtain ⟨h1, h1', h2⟩ := h.vs p hp
    refine ⟨h1, h1', fun k m c hk => ?_⟩
    obtain ⟨g1, g2, g3, b, off, e, hb, c⟩ := h2 k m c hk
    exact ⟨g1, g2, g3, b, off, e, by omega, c⟩
  wf := h.wf
theorem Grp.next {w w' : World} {a : Option Addr} {len : Nat} {ps : List PV} (h : Grp w.heap.size w a len ps) (hB : Below w.heap.size w w') : Grp w'.heap.size w' a len ps := (h.below hB).grow hB.size

theorem Grp.ltOk {B : Nat} {w : World} {a : Option Addr} {len : Nat} {ps : List PV} (h : Grp B w a len ps) : LtOk ps := fun i => (peerAt_wf h i).1
theorem Grp.vsWf {B : Nat} {w : World} {a : Option Addr} {len : Nat} {ps : List PV} (h : Grp B w a len ps) (hf : ∀ p ∈ ps, p.vl ≤ 256) : VsWf ps := fun i => by
  have hV := h.vch hf i
  refine ⟨by rw [hV.hlen]; exact hV.small, fun r hr => ?_⟩
  obtain ⟨k, hk, e⟩ := List.getElem_of_mem hr
  obtain ⟨g1, g2, g3, _⟩ := hV.cs k r (by rw [List.getElem?_eq_getElem hk, e])
  exact ⟨by unfold I64; omega, g3⟩

set_option maxRecDepth 100000 in
set_option maxHeartbeats 2000000 in
theorem keep_any {a : Option Addr} {len : Nat} {ps : List PV} (N S si st : Int) (cap : Nat) (now : Int) (hN : 0 ≤ N ∧ N ≤ 255) (hS : 0 ≤ S ∧ S ≤ 255) (hsi : U64 si) (w : World) (h : Grp w.heap.size w a len ps) :
    Calls Yba.prog 4 #[.agg #[.int .u8 N, .int .u8 S, .int .u64 si, .int .i64 st, .slice a len cap], .int .i64 now] w fun e w' => e = .returned (.bool true) ∧ Below w.heap.size w w' := by
  have hA := (Below.refl w.heap.size w).alloc (Nat.le_refl _) (Obj.cells (gbox N S si st a len cap) 25)
  have bG := Box.new w (gbox N S si st a len cap) 25
  have hfits := fits_any N S si st cap _ (h.next hA)
  have hbuild := fun (wr : World) (hB : Below w.heap.size w wr) (hf : ∀ p ∈ ps, p.vl ≤ 256) => build_any N S si st cap hN hS wr (h.next hB) hf
  have hcands := fun (wr : World) (hB : Below w.heap.size w wr) => cands_any N S si st cap hN hS wr (h.next hB)
  have hlt := h.ltOk
  have hvw := h.vsWf
  have hn := (nOf_bd N).2
  have hme := meOf_lt N S
  clear h
  generalize nOf N = n at *
  generalize meOf N S = me at *
  have hco := candTo_ok (ps := ps) (me := me) (k := n) hlt hsi hn
  have hL6 := candTo_len ps me si n
  have hL0 := candTo_pos (ps := ps) (si := si) hme
  have HAsc : Hid ((candTo ps me si n).Pairwise (fun p q => p.1 < q.1)) := candTo_asc ps me si n
  have g0 := bG.cell 0
  have g1 := bG.cell 1
  have g2 := bG.cell 2
  have g3 := bG.cell 3
  have g4 := bG.cell 4
  simp [gbox] at g0 g1 g2 g3 g4
  go_enter Yba.func4, Yba.ntmps4
  go_wp2_with fail
  refine hfits.mono ?_
  clear hfits
  rintro e w2 ⟨⟨b, rfl, hb⟩, hB2⟩
  have bG := bG.mono hB2
  have hB2 := hA.trans (hB2.mono (by simp))
  clear hA g0 g1 g2 g3 g4
  cases b with
  | false =>
    clear hbuild hcands
    go_wp2_with fail
    go_ret
    exact ⟨rfl, hB2⟩
  | true =>
    have hf := hb rfl
    have hvw := hvw hf
    have hbuild := hbuild w2 hB2 hf
    have g0 := bG.cell 0
    have g1 := bG.cell 1
    have g2 := bG.cell 2
    have g3 := bG.cell 3
    have g4 := bG.cell 4
    simp [gbox] at g0 g1 g2 g3 g4
    clear hb
    go_wp2_with fail
    refine hbuild.mono ?_
    clear hbuild g0 g1 g2 g3 g4
    rintro e w3 ⟨⟨d, g, dcap, m, rfl, hD⟩, hb3⟩
    have bG := bG.mono hb3
    have hB3 := hB2.trans (hb3.mono hB2.size)
    have hcands := hcands w3 hB3
    have g0 := bG.cell 0
    have g1 := bG.cell 1
    have g2 := bG.cell 2
    have g3 := bG.cell 3
    have g4 := bG.cell 4
    simp [gbox] at g0 g1 g2 g3 g4
    clear hb3 hB2
    go_wp2_with fail
    refine hcands.mono ?_
    clear hcands g0 g1 g2 g3 g4 bG
    rintro e w4 ⟨⟨v, rfl, hq⟩, hb4⟩
    have hD := hD.mono hb4
    have hB4 := hB3.trans (hb4.mono hB3.size)
    have ho := ord_any now false w4 hD hn hme hlt hvw hsi
    clear hb4 hB3
    go_wp2_with fail
    refine ho.mono ?_
    clear ho
    rintro e w5 ⟨⟨ra, rfl, hra⟩, hb5⟩
    have hA5 := (Below.refl w5.heap.size w5).alloc (Nat.le_refl _) (Obj.cells #[.int .i64 ra.1, .int .u64 ra.2] 30)
    have hb5 := hb5.trans (hA5.mono hb5.size)
    have bA := Box.new w5 #[.int .i64 ra.1, .int .u64 ra.2] 30
    have hD := hD.mono hb5
    have hq := hq.mono hb5
    have hB5 := hB4.trans (hb5.mono hB4.size)
    have ho := ord_any now true _ hD hn hme hlt hvw hsi
    have hal := bA.lt
    clear hb5 hB4 hA5
    unfold rv
    go_wp2_with fail
    refine ho.mono ?_
    clear ho
    rintro e w6 ⟨⟨rb, rfl, hrb⟩, hb6⟩
    have hA6 := (Below.refl w6.heap.size w6).alloc (Nat.le_refl _) (Obj.cells #[.int .i64 rb.1, .int .u64 rb.2] 30)
    have hb6 := hb6.trans (hA6.mono hb6.size)
    have bA := bA.mono hb6
    have bB := Box.new w6 #[.int .i64 rb.1, .int .u64 rb.2] 30
    have hq := hq.mono hb6
    have hB6 := hB5.trans (hb6.mono hB5.size)
    have hmA := (hasR_iff _ _).2 hra.mem
    have hmB := (hasR_iff _ _).2 hrb.mem
    have HP := keep_plain HAsc.out good_keep hra hrb
    clear hb6 hB5 hA6 hD hra hrb HAsc
    generalize candTo ps me si n = L at *
    have hhas := fun (x : World) (r : Int × Int) (hx : Reqs x v L) => has_any v L r.1 r.2 x hx (by omega)
    have hc := hhas _ ra hq
    rw [show hasR L (ra.1, ra.2) = true from hmA] at hc
    have a0 := bA.cell 0
    have a1 := bA.cell 1
    have b0 := bB.cell 0
    have b1 := bB.cell 1
    simp at a0 a1 b0 b1
    unfold rv at *
    go_wp2_with fail
    refine hc.mono ?_
    clear hc
    rintro e w7 ⟨rfl, hb7⟩
    have bA := bA.mono hb7
    have bB := bB.mono hb7
    have hq := hq.mono hb7
    have hB7 := hB6.trans (hb7.mono hB6.size)
    have hc := hhas _ rb hq
    rw [show hasR L (rb.1, rb.2) = true from hmB] at hc
    clear hhas hb7 hB6 a0 a1 b0 b1 hal
    have a0 := bA.cell 0
    have a1 := bA.cell 1
    have b0 := bB.cell 0
    have b1 := bB.cell 1
    simp at a0 a1 b0 b1
    go_wp2_with fail
    refine hc.mono ?_
    clear hc
    rintro e w8 ⟨rfl, hb8⟩
    have bA := bA.mono hb8
    have bB := bB.mono hb8
    have hq := hq.mono hb8
    have hB8 := hB7.trans (hb8.mono hB7.size)
    clear hb8 hB7 a0 a1 b0 b1
    have a0 := bA.cell 0
    have a1 := bA.cell 1
    have b0 := bB.cell 0
    have b1 := bB.cell 1
    simp at a0 a1 b0 b1
    obtain ⟨q, hq0⟩ : ∃ r, L[0]? = some r := ⟨L[0], by simp⟩
    obtain ⟨br, offr, capr, ev, c0, c1⟩ := hq.at hq0
    subst ev
    simp only [Nat.zero_mul, Nat.add_zero] at c0 c1
    have hL0' : (0 : Int) < (L.length : Int) := by omega
    rw [hq0] at HP
    clear hq hq0
    go_wp2_with fail
    obtain ⟨am, ac⟩ := ra
    obtain ⟨bm, bc⟩ := rb
    obtain ⟨qm, qc⟩ := q
    have HP' : (bm = am ∧ bc = ac) ∨ (qm = bm ∧ qc = bc) ∨ am < bm := by simpa using HP
    dsimp only at *
    clear HP hmA hmB hco
    by_cases e1 : bm = am
    · by_cases e2 : bc = ac
      · subst e1 e2
        go_quiet (fail)
        go_wp2_with fail
        go_ret
        exact ⟨rfl, below_drewN hB8 _⟩
      · have HP2 : qm = bm ∧ qc = bc := by
          rcases HP' with h | h | h
          · exact absurd h.2 e2
          · exact h
          · omega
        obtain ⟨rfl, rfl⟩ := HP2
        subst e1
        go_quiet (fail)
        go_wp2_with fail
        go_ret
        exact ⟨rfl, below_drewN hB8 _⟩
    · by_cases e3 : qm = bm
      · by_cases e4 : qc = bc
        · subst e3 e4
          go_quiet (fail)
          go_wp2_with fail
          go_ret
          exact ⟨rfl, below_drewN hB8 _⟩
        · have hlt : am < bm := by
            rcases HP' with h | h | h
            · exact absurd h.1 e1
            · exact absurd h.2 e4
            · exact h
          subst e3
          have e4 : ¬ bc = qc := fun e => e4 e.symm
          go_quiet (fail)
          go_wp2_with fail
          go_ret
          exact ⟨rfl, below_drewN hB8 _⟩
      · have hlt : am < bm := by
          rcases HP' with h | h | h
          · exact absurd h.1 e1
          · exact absurd h.1 e3
          · exact h
        have e3 : ¬ bm = qm := fun e => e3 e.symm
        go_quiet (fail)
        go_wp2_with fail
        go_ret
        exact ⟨rfl, below_drewN hB8 _⟩
end Go.Proofs.Ybulkuyw
