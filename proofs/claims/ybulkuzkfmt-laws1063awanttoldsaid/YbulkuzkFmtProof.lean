/-
  THE CARD 'Rows.LawS1063AWantToldSaid': the row's step, lifted, and the builder's one call. After the guide's Derived/Test/Guard{Proofs, Told}.lean and PortSeven.lean.
-/
import Derived.Test.YbulkuzkFmtLaw
import Derived.Test.YbulkuzkFmtTie
import Derived.Test.YbulkuzkFmtCards
import Derived.WalkKit
import Derived.ProofKit
import Derived.OpenShut
import Derived.ChangeOld
import Derived.ChangeVars
import Derived.Below
import Derived.RowKitTokens
import Derived.Stop.JoinedAt
import Derived.Stop.JoinedTold
import Derived.Stop.LaidErr
import Derived.SevenTiedAt
namespace Go.Proofs.YbulkuzkFmt.lawS1063AWant
open Go.ChangeShapes Go.WideShapes Go.ChangeAt Go.RowKit Go.Kit
open Go.Extern.Stop Go.Stop Go.Extern
set_option linter.unusedVariables false

/-! ### the walk, at whatever came in -/
def IsRow (k : IntKind) (w : World) (a : Option Addr) (len cap : Nat) (zs : List Int) : Prop :=
  (a = none ∧ len = 0 ∧ cap = 0 ∧ zs = []) ∨
  ∃ x, a = some x ∧ len ≤ cap ∧ cap ≤ maxLen ∧ zs.length = cap ∧ (∀ i, i < zs.length → w.cell? (x.add i) = some (.int k (zs.getD i 0))) ∧ ∀ n ∈ zs, (Lit.int k n).wf = true

set_option maxRecDepth 100000 in
theorem walk (full : Bool) (F : Interp) (m : Int) (a : Option Addr) (len cap : Nat) (zs : List Int) (te : TypeId) (pe : Value) (a1 : Addr) (s1 : ByteArray) (w : World) (hF : F.answers w.tape) (w0 : (Lit.int .u64 m).wf = true) (w2 : IsRow .u16 w a len cap zs)
    (hE : w.cell? ⟨2, 0, none⟩ = some (.iface te pe)) (hP : w.cell? ⟨1, 0, none⟩ = some (.iface 99 (.pointer (some a1)))) (hs : w.cell? a1 = some (.string s1)) :
    Calls Ybaf.prog 3 #[.int .u64 m, .slice a len cap, .bool full] w fun e w' => e = .returned (.bool true) ∧ Below w.heap.size w w' := by
  by_cases hlen : len ≤ 1024
  · have hm : 0 ≤ m ∧ m ≤ 18446744073709551615 := by simpa [Lit.wf, IntKind.min, IntKind.max, IntKind.signed, IntKind.bits] using w0
    obtain ⟨mc, rfl⟩ : ∃ mc : Nat, m = mc := ⟨m.toNat, by omega⟩
    have hu : ∀ {x : Int}, (Lit.int .u16 x).wf = true → 0 ≤ x ∧ x ≤ 65535 := fun {x} h => by simpa [Lit.wf, IntKind.min, IntKind.max, IntKind.signed, IntKind.bits] using h
    have key : ∃ xs : List Nat, xs.length = len ∧ (∀ x ∈ xs, x < 65536) ∧ Sp16 w a xs := by
      rcases w2 with ⟨rfl, rfl, rfl, rfl⟩ | ⟨x, rfl, h1, h2, h3, h4, h5⟩
      · exact ⟨[], rfl, by simp, fun h => absurd h (Nat.lt_irrefl _)⟩
      · refine ⟨(zs.take len).map Int.toNat, by simp; omega, ?_, ?_⟩
        · intro y hy
          obtain ⟨z, hz, rfl⟩ := List.mem_map.1 hy
          have := hu (h5 z (List.mem_of_mem_take hz))
          omega
        · intro hpos
          have hpos' : 0 < len := by simp at hpos; omega
          have h0 := h4 0 (by omega)
          obtain ⟨b, off, sp⟩ := x
          obtain rfl : sp = none := by
            cases sp with
            | none => rfl
            | some s => exfalso; revert h0; simp only [World.cell?, Addr.add]; split <;> simp
          refine ⟨b, off, rfl, cell_lt h0, fun i hi => ?_⟩
          have hi' : i < len := by simp at hi; omega
          have hc := h4 i (by omega)
          have hz : i < zs.length := by omega
          have hb := hu (h5 (zs[i]'hz) (List.getElem_mem _))
          have e1 : zs.getD i 0 = zs[i] := by simp [List.getD, hz]
          have e2 : (((zs.take len).map Int.toNat).getD i 0 : Nat) = (zs[i]).toNat := by
            simp [List.getD, hz, hi']
          rw [e2, Int.toNat_of_nonneg hb.1, ← e1]
          by_cases hi0 : i = 0
          · subst hi0; simpa [Addr.add] using hc
          · simpa [Addr.add, hi0] using hc
    obtain ⟨xs, rfl, hx, hsp⟩ := key
    exact law_any full F mc xs a cap te pe a1 s1 w hF (by omega) hx hlen hsp hE hP hs
  · have hl' : (1024 : Int) < (len : Int) := by omega
    go_enter Ybaf.func3, Ybaf.ntmps3
    go_wp2
    go_ret
    exact ⟨rfl, Below.refl _ _⟩

/-! ### closed facts -/
theorem gE : Ybaf.prog.globalNamed "io.EOF" = some 2 := by kernel_rfl
theorem gP : Ybaf.prog.globalNamed "example.com/tocsin/tocsin/wire.ErrProtocol" = some 1 := by kernel_rfl
theorem gEType : (Ybaf.prog.globals[2]?).map (·.type) = some 56 := by kernel_rfl
theorem gPType : (Ybaf.prog.globals[1]?).map (·.type) = some 56 := by kernel_rfl
theorem cells101 : Ybaf.prog.cellsOf 101 = 1 := by kernel_rfl
theorem cells9 : Ybaf.prog.cellsOf 9 = 1 := by kernel_rfl
theorem star : "*" ++ "errors.errorString" = "*errors.errorString" := by decide
theorem row99 (u : TypeId) (h : Ybaf.prog.typeName? 3 u = some "*errors.errorString") : u = 99 :=
  typeName_ptr_named (nm := "errors.errorString") (by rw [star]; kernel_rfl) (by kernel_rfl) (by decide) u (by rw [star]; exact h)
theorem var_of_block {P : Program} {w w' : World} {n : String} {g : Nat} (hg : P.globalNamed n = some g) (hb : w'.heap[g]? = w.heap[g]?) : w'.var? P n = w.var? P n := by
  simp [World.var?, hg, hb]

/-! ### one start that fits: the two sentinels as their initialisers lay them -/
def laidWorldOf (P : Program) (low : Nat) (os : Os) : World :=
  let w0 := World.holding P os ⟨#[.cells #[.string ⟨#[69, 79, 70]⟩] 101, .cells #[.string ⟨#[110, 111, 116, 32, 116, 104, 101, 32, 116, 111, 99, 115, 105, 110, 32, 112, 114, 111, 116, 111, 99, 111, 108]⟩] 101], #[], []⟩
  let put (h : Array Obj) (g : Nat) (cs : Array Value) : Array Obj := h.modify g fun
    | .cells _ t frozen => .cells cs t frozen
    | o => o
  { w0 with heap := put (put w0.heap 2 #[.iface 99 (.pointer (some ⟨low, 0, none⟩))]) 1 #[.iface 99 (.pointer (some ⟨low + 1, 0, none⟩))] }
theorem laid_met (os : Os) (args : Array Value) : laidMet Ybaf.prog Rows.lawS1063AWantRow.laid ((laidWorldOf Ybaf.prog (World.holding Ybaf.prog default ⟨#[], #[], []⟩).heap.size os).forCall (fun _ _ => 0) ⟨#[], args, []⟩).memory :=
  laidMet_of_run (ps := [.cell 2 0, .cell (World.holding Ybaf.prog default ⟨#[], #[], []⟩).heap.size 0, .cell 1 0, .cell ((World.holding Ybaf.prog default ⟨#[], #[], []⟩).heap.size + 1) 0]) 8 (by kernel_rfl) (by kernel_rfl) (by kernel_rfl)

set_option maxRecDepth 100000 in
theorem lifted (os : Os) (started : os.Started) (H : Type) (enc : TypeId × Value → H) :
    ReturnsInTold none {} Ybaf.checked os 3 .any Input.okWide ((OpenSpec.ofChange Rows.lawS1063AWantSpec).preRow enc Ybaf.prog Ybaf.f3 [] false Rows.lawS1063AWantRow.laid) (fun F => ((OpenSpec.ofChange Rows.lawS1063AWantSpec).at F).post enc Ybaf.prog Ybaf.f3 false Rows.lawS1063AWantRow.fresh Rows.lawS1063AWantRow.handsOn Rows.lawS1063AWantRow.again) (aloneAtReturn Ybaf.prog) nothingAlways := by
  refine returnsInTold_of_row (C := Ybaf.checked) (s := OpenSpec.ofChange Rows.lawS1063AWantSpec) (by kernel_rfl) own started (by kernel_rfl) Ybaf.func3
    (OpenSpec.witness_stopped_at (enc := enc) (C := Ybaf.checked) false (laidWorldOf Ybaf.prog (World.holding Ybaf.prog default ⟨#[], #[], []⟩).heap.size os) #[.int .u64 0, .slice none 0 0, .bool false] rfl (by kernel_rfl) (by kernel_rfl) (by kernel_rfl)
      (OpenSpec.preRow_of_B rfl 8 (by kernel_rfl) (by kernel_rfl) (laid_met os _))) ?_
  intro F W base args ds gs before _ hF hval0 hW _ _ _ hL _
  have hval : ∀ (j : Nat) t v, Ybaf.f3.params[j]? = some t → args[j]? = some v → Value.okWide Ybaf.prog W .any base t v := hval0
  have hW' := hW
  obtain ⟨p, q, hA0, hV0, rfl, hfz, hnd⟩ := hW
  have hA : DataW.TrodAll enc Ybaf.prog W 0 (fun _ => true) true Ybaf.f3.params.toList args.toList ds p := hA0
  have hV : DataW.TrodVars enc Ybaf.prog W (fun _ => true) ["example.com/tocsin/tocsin/wire.ErrProtocol"] gs q := hV0
  rw [Ybaf.params3] at hA hval
  obtain ⟨v0, vs0, d0, ds0, p0, q0, hargs, rfl, rfl, h0, r0⟩ := trodAll_cons hA
  obtain ⟨v1, vs1, d1, ds1, p1, q1, rfl, rfl, rfl, h1, r1⟩ := trodAll_cons r0
  obtain ⟨v2, vs2, d2, ds2, p2, q2, rfl, rfl, rfl, h2, r2⟩ := trodAll_cons r1
  obtain ⟨rfl, rfl, rfl⟩ := trodAll_nil r2
  obtain rfl : args = #[v0, v1, v2] := by cases args; simp_all
  obtain ⟨m, rfl, rfl, rfl, w0⟩ := open_int Ybaf.underlying22 (hval 0 22 v0 rfl rfl) h0
  obtain ⟨aS, lenS, capS, rfl⟩ := okWide_slice Ybaf.underlying23 (hval 1 23 v1 rfl rfl)
  obtain ⟨full, rfl, rfl, rfl⟩ := open_bool Ybaf.underlying4 (hval 2 4 v2 rfl rfl) h2
  have k1 := h1
  have lt1 : ∀ x ∈ p1, x.block < W.heap.size := by obtain ⟨m, hm⟩ := k1; exact DataW.trod_lt m _ _ _ hm
  obtain ⟨zS, wS⟩ : ∃ zs, IsRow .u16 W aS lenS capS zs := by
    obtain ⟨fuel, hf⟩ := h1
    rcases open_ints Ybaf.underlying23 Ybaf.underlying30 (by kernel_rfl) hf with ⟨hcs, _⟩ | ⟨x, l, c, zs, hcs, _, hl, hm, hz, _, hcell, hwz⟩
    · simp [Value.cells] at hcs
      obtain ⟨rfl, rfl, rfl⟩ := hcs
      exact ⟨[], .inl ⟨rfl, rfl, rfl, rfl⟩⟩
    · simp [Value.cells] at hcs
      obtain ⟨rfl, rfl, rfl⟩ := hcs
      exact ⟨zs, .inr ⟨_, rfl, hl, hm, by simpa using hz, hcell, hwz⟩⟩
  have hL' : laidMet Ybaf.prog Rows.lawS1063AWantRow.laid W := hL
  obtain ⟨aE, sE, hvE, hcE, hsE, hzE⟩ := laid_sentinel hL' gE gEType Ybaf.underlying56 row99 Ybaf.underlying99 Ybaf.underlying101 rfl rfl Ybaf.underlying9 cells101 cells9
  obtain ⟨aP, sP, hvP, hcP, hsP, hzP⟩ := laid_sentinel hL'.tail gP gPType Ybaf.underlying56 row99 Ybaf.underlying99 Ybaf.underlying101 rfl rfl Ybaf.underlying9 cells101 cells9
  obtain ⟨rfl, rfl⟩ := hV.unique (vars_read1 enc gP gPType Ybaf.underlying56 hvP trivial _)
  clear hA0 hV0 hval0
  have hgE : W.cell? ⟨2, 0, none⟩ = some (.iface 99 (.pointer (some aE))) := by simpa using World.var?_cell gE hvE 0
  have hgP : W.cell? ⟨1, 0, none⟩ = some (.iface 99 (.pointer (some aP))) := by simpa using World.var?_cell gP hvP 0
  refine (walk full F.told m aS lenS capS zS 99 _ aP sP W hF w0 wS hgE hgP hcP).mono fun e W' ⟨he, bel⟩ => ?_
  subst he
  have hvP' : W'.var? Ybaf.prog "example.com/tocsin/tocsin/wire.ErrProtocol" = some #[.iface 99 (.pointer (some aP))] := (var_of_block gP (bel.block 1 (cell_lt hgP))).trans hvP
  exact ⟨_, rfl, _, _, _, [], _, [.cell 1 0], hW', trodAll_mk1 (shut_bool Ybaf.underlying4 _), (trodAll_cons_mk (shut_int Ybaf.underlying22 w0) (trodAll_cons_mk (Below.trod laidOut (by kernel_rfl) (of_decide_eq_true (by kernel_rfl)) k1 bel lt1) (trodAll_cons_mk (shut_bool Ybaf.underlying4 _) trodAll_mk0))), vars_read1 enc gP gPType Ybaf.underlying56 hvP' trivial _, bel.frame _, fun h => by cases h⟩

theorem laidOut' : laidOutB Ybaf.pinned.checked.prog = true := by kernel_rfl
theorem stops : Ybaf.pinned.checked.prog.stops = ["fmt.errorf"] := by kernel_rfl
theorem stopKnobs : Ybaf.pinned.checked.prog.stopKnobs = [] := by kernel_rfl
theorem quiet (os : Os) : Stop.quiet Ybaf.pinned.checked.prog os := by
  intro k hk
  rw [stopKnobs] at hk
  cases hk

/-- THE STATEMENT -/
theorem proved : Rows.LawS1063AWantToldSaid :=
  Claim7.holds_of_told_tied_any_at .later 3 Ybaf.f3 "fmt.errorf" [] [] _ _ _ _ _ (by kernel_rfl) rfl rfl rfl laidOut' (by kernel_rfl) rfl ⟨rfl, rfl, rfl, rfl, rfl, rfl, rfl⟩ rfl rfl (by kernel_rfl) (by kernel_rfl) Ybaf.func3 (by kernel_rfl)
    (of_decide_eq_true (by kernel_rfl)) (by unfold Func.isWrapper; first | (rw [if_pos (by decide +kernel)]; kernel_rfl) | (rw [if_neg (by decide +kernel)]; exact ⟨rfl, rfl⟩)) stops.symm rfl stopKnobs.symm (by kernel_rfl)
    (by kernel_rfl) (by kernel_rfl) (by kernel_rfl) (by kernel_rfl) (by kernel_rfl) (by kernel_rfl) (by kernel_rfl) (by kernel_rfl) (by kernel_rfl) rfl (by kernel_rfl) rfl rfl
    rfl rfl
    rfl (by kernel_rfl) (by kernel_rfl) (by kernel_rfl) (by decide) (by kernel_rfl) lawS1063AWant_row_tie
    (OpenClaim.moreEntering_of (by kernel_rfl) (by kernel_rfl) (by kernel_rfl) (by kernel_rfl) (by kernel_rfl) (by kernel_rfl) (by kernel_rfl) (by kernel_rfl) (by kernel_rfl) (by kernel_rfl))
    ⟨_, WideRow.started_initial, quiet _⟩
    (fun os started _ H enc _ => lifted os started H enc)
end Go.Proofs.YbulkuzkFmt.lawS1063AWant
