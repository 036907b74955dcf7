/-
  THE DETECTOR AS THE LAW BUILDS IT, AND AS IT IS READ: one word for its block, its ids and its five maps.
-/
import Derived.Test.YbulkuywSl
import Derived.Test.YbulkuywNew
namespace Go.Proofs.Ybulkuyw
open Go.RowKit
open Go.Maps (Keyed IsMap)

def okA : Value → Bool := fun _ => true
def okU : Value → Bool | .int .u64 c => (Lit.int .u64 c).wf | _ => false

theorem wfI (x : Int) : (Lit.int .i64 x).wf = true ↔ I64 x := by
  have e1 : IntKind.i64.min = -9223372036854775808 := by decide
  have e2 : IntKind.i64.max = 9223372036854775807 := by decide
  unfold I64; simp [Lit.wf, e1, e2]
theorem wfU (x : Int) : (Lit.int .u64 x).wf = true ↔ U64 x := by
  have e1 : IntKind.u64.min = 0 := by decide
  have e2 : IntKind.u64.max = 18446744073709551615 := by decide
  unfold U64; simp [Lit.wf, e1, e2]

theorem z32 (w : World) : (zeroValue 32).run Yba.prog w = .ok (.int .i64 0) w := by kernel_rfl
theorem z22 (w : World) : (zeroValue 22).run Yba.prog w = .ok (.int .u64 0) w := by kernel_rfl
theorem z4 (w : World) : (zeroValue 4).run Yba.prog w = .ok (.bool false) w := by kernel_rfl
theorem z35 (w : World) : (zeroValue 35).run Yba.prog w = .ok (.slice none 0 0) w := by kernel_rfl
theorem z48 (w : World) : (zeroValue 48).run Yba.prog w = .ok (.agg #[.int .u64 0, .int .i64 0]) w := by kernel_rfl

/-- has this one been heard (among the members below k)? -/
def heardB (ps : List PV) (me k : Nat) (mm cc : Int) : Bool := decide (0 ≤ mm ∧ mm < (k : Int) ∧ mm ≠ (me : Int) ∧ (peerAt ps mm.toNat).hd = true ∧ cc = (peerAt ps mm.toNat).lt)
/-- is there word of what x vouches for? -/
def knownB (ps : List PV) (me k : Nat) (x : Int) : Bool := decide (0 ≤ x ∧ x < (k : Int) ∧ x ≠ (me : Int) ∧ (peerAt ps x.toNat).kn = true)

/-- the five maps -/
structure Mps (w : World) (n me : Nat) (ps : List PV) (m : Nat → Nat) (ks kt kh kv : Nat) : Prop where
  inj : ∀ i j, i < 11 → j < 11 → m i = m j → i = j
  heard : ∃ f, Mp w 30 okA (m 0) kh f ∧ ∀ mm cc, I64 mm → U64 cc → (f (kl mm cc)).isSome = heardB ps me kh mm cc
  latest : ∃ f, Mp w 3 okA (m 4) kt f ∧ ∀ x : Int, f (.int .i64 x) = if 0 ≤ x ∧ x < (kt : Int) ∧ x ≠ (me : Int) then some (.int .u64 (peerAt ps x.toNat).lt) else none
  crashed : Mp w 30 okA (m 6) 0 (fun _ => none)
  vouching : ∃ f, Mp w 3 okA (m 9) kv f ∧ ∀ x : Int, (knownB ps me kv x = false → f (.int .i64 x) = none) ∧ (knownB ps me kv x = true → ∃ v, f (.int .i64 x) = some v ∧ Reqs w v (peerAt ps x.toNat).vs)
  seen : ∃ f, Mp w 3 okA (m 10) ks f ∧ ∀ x : Int, f (.int .i64 x) = if 0 ≤ x ∧ x < (ks : Int) then some (.agg #[.int .u64 (peerAt ps x.toNat).si, .int .i64 (peerAt ps x.toNat).sa]) else none

theorem Mps.mono {w w' : World} {n me : Nat} {ps : List PV} {m : Nat → Nat} {ks kt kh kv : Nat} (h : Mps w n me ps m ks kt kh kv) (hw : Below w.heap.size w w') : Mps w' n me ps m ks kt kh kv where
  inj := h.inj
  heard := by obtain ⟨f, h1, h2⟩ := h.heard; exact ⟨f, h1.below hw h1.lt, h2⟩
  latest := by obtain ⟨f, h1, h2⟩ := h.latest; exact ⟨f, h1.below hw h1.lt, h2⟩
  crashed := h.crashed.below hw h.crashed.lt
  vouching := by
    obtain ⟨f, h1, h2⟩ := h.vouching
    exact ⟨f, h1.below hw h1.lt, fun x => ⟨(h2 x).1, fun hx => by obtain ⟨v, g1, g2⟩ := (h2 x).2 hx; exact ⟨v, g1, g2.mono hw⟩⟩⟩
  seen := by obtain ⟨f, h1, h2⟩ := h.seen; exact ⟨f, h1.below hw h1.lt, h2⟩

theorem Mp.nocell {w : World} {k : TypeId} {ok : Value → Bool} {b n : Nat} {f : Lit → Option Value} (h : Mp w k ok b n f) (o : Nat) : w.cell? ⟨b, o, none⟩ = none := by
  obtain ⟨D, ⟨es, clock, hb, _⟩, _⟩ := h
  simp [World.cell?, hb]

theorem i64_small {x : Int} (h1 : 0 ≤ x) (h2 : x ≤ 1000) : I64 x := by unfold I64; omega

/-- .. behind a store into one of them: the others -/
theorem Mps.kept_vouch {w w' : World} {n me : Nat} {ps : List PV} {m : Nat → Nat} {ks kt kh kv j : Nat} (h : Mps w n me ps m ks kt kh kv) (hg : w.grownBy w' (some (m j))) (hm : ∀ o, w.cell? ⟨m j, o, none⟩ = none) (hj : j < 11) (hne : j ≠ 9) :
    ∃ f, Mp w' 3 okA (m 9) kv f ∧ ∀ x : Int, (knownB ps me kv x = false → f (.int .i64 x) = none) ∧ (knownB ps me kv x = true → ∃ v, f (.int .i64 x) = some v ∧ Reqs w' v (peerAt ps x.toNat).vs) := by
  obtain ⟨f, h1, h2⟩ := h.vouching
  refine ⟨f, h1.kept hg (fun e => hne (h.inj j 9 hj (by omega) (by injection e with e; exact e.symm))), fun x => ⟨(h2 x).1, fun hx => ?_⟩⟩
  obtain ⟨v, g1, g2⟩ := (h2 x).2 hx
  exact ⟨v, g1, g2.kept hg (fun b e o => by cases e; exact hm o)⟩

theorem lit_ne {x y : Int} (h : x ≠ y) : (Lit.int .i64 x).sameKey (.int .i64 y) = false := Maps.sameKey_ne (fun e => h (by injection e))
theorem lit_eq (x : Int) : (Lit.int .i64 x).sameKey (.int .i64 x) = true := WideAt.sameKey_self trivial

theorem Mps.store_seen {w w' : World} {n me : Nat} {ps : List PV} {m : Nat → Nat} {k kt kh kv : Nat} (h : Mps w n me ps m k kt kh kv) (hg : w.grownBy w' (some (m 10)))
    {f : Lit → Option Value} (hs : Mp w' 3 okA (m 10) (k + 1) (setAt f (.int .i64 (k : Int)) (.agg #[.int .u64 (peerAt ps k).si, .int .i64 (peerAt ps k).sa])))
    (hf : ∀ x : Int, f (.int .i64 x) = if 0 ≤ x ∧ x < (k : Int) then some (.agg #[.int .u64 (peerAt ps x.toNat).si, .int .i64 (peerAt ps x.toNat).sa]) else none) : Mps w' n me ps m (k + 1) kt kh kv where
  inj := h.inj
  heard := by obtain ⟨f, h1, h2⟩ := h.heard; exact ⟨f, h1.kept hg (fun e => by have := h.inj 0 10 (by omega) (by omega) (by injection e); omega), h2⟩
  latest := by obtain ⟨f, h1, h2⟩ := h.latest; exact ⟨f, h1.kept hg (fun e => by have := h.inj 4 10 (by omega) (by omega) (by injection e); omega), h2⟩
  crashed := h.crashed.kept hg (fun e => by have := h.inj 6 10 (by omega) (by omega) (by injection e); omega)
  vouching := h.kept_vouch hg (by obtain ⟨f, h1, _⟩ := h.seen; exact h1.nocell) (by omega) (by omega)
  seen := by
    refine ⟨_, hs, fun x => ?_⟩
    unfold setAt
    by_cases e : x = (k : Int)
    · subst e; rw [if_pos (lit_eq _), if_pos (by omega), Int.toNat_natCast]
    · rw [lit_ne e, if_neg (by simp), hf x]
      have : (0 ≤ x ∧ x < (k : Int)) ↔ (0 ≤ x ∧ x < ((k + 1 : Nat) : Int)) := by omega
      simp only [this]

theorem Mps.store_latest {w w' : World} {n me : Nat} {ps : List PV} {m : Nat → Nat} {ks k kh kv : Nat} (h : Mps w n me ps m ks k kh kv) (hg : w.grownBy w' (some (m 4))) (hme : k ≠ me)
    {f : Lit → Option Value} (hs : Mp w' 3 okA (m 4) (k + 1) (setAt f (.int .i64 (k : Int)) (.int .u64 (peerAt ps k).lt)))
    (hf : ∀ x : Int, f (.int .i64 x) = if 0 ≤ x ∧ x < (k : Int) ∧ x ≠ (me : Int) then some (.int .u64 (peerAt ps x.toNat).lt) else none) : Mps w' n me ps m ks (k + 1) kh kv where
  inj := h.inj
  heard := by obtain ⟨f, h1, h2⟩ := h.heard; exact ⟨f, h1.kept hg (fun e => by have := h.inj 0 4 (by omega) (by omega) (by injection e); omega), h2⟩
  latest := by
    refine ⟨_, hs, fun x => ?_⟩
    unfold setAt
    by_cases e : x = (k : Int)
    · subst e; rw [if_pos (lit_eq _), if_pos (by omega), Int.toNat_natCast]
    · rw [lit_ne e, if_neg (by simp), hf x]
      have : (0 ≤ x ∧ x < (k : Int) ∧ x ≠ (me : Int)) ↔ (0 ≤ x ∧ x < ((k + 1 : Nat) : Int) ∧ x ≠ (me : Int)) := by omega
      simp only [this]
  crashed := h.crashed.kept hg (fun e => by have := h.inj 6 4 (by omega) (by omega) (by injection e); omega)
  vouching := h.kept_vouch hg (by obtain ⟨f, h1, _⟩ := h.latest; exact h1.nocell) (by omega) (by omega)
  seen := by obtain ⟨f, h1, h2⟩ := h.seen; exact ⟨f, h1.kept hg (fun e => by have := h.inj 10 4 (by omega) (by omega) (by injection e); omega), h2⟩

theorem Mps.skip_latest {w : World} {n me : Nat} {ps : List PV} {m : Nat → Nat} {ks k kh kv : Nat} (h : Mps w n me ps m ks k kh kv) (hme : k = me) : Mps w n me ps m ks (k + 1) kh kv where
  inj := h.inj
  heard := h.heard
  latest := by
    obtain ⟨f, h1, h2⟩ := h.latest
    refine ⟨f, h1.mono (by omega), fun x => ?_⟩
    rw [h2 x]
    have : (0 ≤ x ∧ x < (k : Int) ∧ x ≠ (me : Int)) ↔ (0 ≤ x ∧ x < ((k + 1 : Nat) : Int) ∧ x ≠ (me : Int)) := by omega
    simp only [this]
  crashed := h.crashed
  vouching := h.vouching
  seen := h.seen

theorem heardB_skip {ps : List PV} {me k : Nat} (h : k = me ∨ (peerAt ps k).hd = false) (mm cc : Int) : heardB ps me k mm cc = heardB ps me (k + 1) mm cc := by
  unfold heardB
  apply decide_eq_decide.2
  constructor
  · rintro ⟨h1, h2, h3⟩; exact ⟨h1, by omega, h3⟩
  · rintro ⟨h1, h2, h3, h4, h5⟩
    refine ⟨h1, ?_, h3, h4, h5⟩
    apply Classical.byContradiction
    intro hn
    have e : mm = (k : Int) := by omega
    subst e
    rw [Int.toNat_natCast] at h4
    rcases h with h | h
    · omega
    · rw [h] at h4; cases h4
theorem Mps.skip_heard {w : World} {n me : Nat} {ps : List PV} {m : Nat → Nat} {ks kt k kv : Nat} (h : Mps w n me ps m ks kt k kv) (hme : k = me ∨ (peerAt ps k).hd = false) : Mps w n me ps m ks kt (k + 1) kv where
  inj := h.inj
  heard := by
    obtain ⟨f, h1, h2⟩ := h.heard
    exact ⟨f, h1.mono (by omega), fun mm cc g1 g2 => (h2 mm cc g1 g2).trans (heardB_skip hme mm cc)⟩
  latest := h.latest
  crashed := h.crashed
  vouching := h.vouching
  seen := h.seen

theorem Mps.store_heard {w w' : World} {n me : Nat} {ps : List PV} {m : Nat → Nat} {ks kt k kv : Nat} (h : Mps w n me ps m ks kt k kv) (hg : w.grownBy w' (some (m 0))) (hme : k ≠ me) (hhd : (peerAt ps k).hd = true) (hkk : I64 (k : Int)) (hlt : U64 (peerAt ps k).lt)
    {f : Lit → Option Value} (hs : Mp w' 30 okA (m 0) (k + 1) (setAt f (kl (k : Int) (peerAt ps k).lt) (.int .i64 0)))
    (hf : ∀ mm cc, I64 mm → U64 cc → (f (kl mm cc)).isSome = heardB ps me k mm cc) : Mps w' n me ps m ks kt (k + 1) kv where
  inj := h.inj
  heard := by
    refine ⟨_, hs, fun mm cc g1 g2 => ?_⟩
    unfold setAt
    by_cases e : mm = (k : Int) ∧ cc = (peerAt ps k).lt
    · obtain ⟨rfl, rfl⟩ := e
      rw [if_pos (WideAt.sameKey_self (kReq.key (kl_eq ((wfI _).2 g1) ((wfU _).2 g2))))]
      have : heardB ps me (k + 1) (k : Int) (peerAt ps k).lt = true := by
        unfold heardB
        simp [hhd]
        omega
      rw [this]; rfl
    · have hne : kl mm cc ≠ kl (k : Int) (peerAt ps k).lt := fun e1 => e (kl_inj ((wfI _).2 g1) ((wfU _).2 g2) ((wfI _).2 hkk) ((wfU _).2 hlt) e1)
      rw [Maps.sameKey_ne hne, if_neg (by simp), hf mm cc g1 g2]
      unfold heardB
      apply decide_eq_decide.2
      constructor
      · rintro ⟨h1, h2, h3⟩; exact ⟨h1, by omega, h3⟩
      · rintro ⟨h1, h2, h3, h4, h5⟩
        refine ⟨h1, ?_, h3, h4, h5⟩
        apply Classical.byContradiction
        intro hn
        have e2 : mm = (k : Int) := by omega
        subst e2
        rw [Int.toNat_natCast] at h5
        exact e ⟨rfl, h5⟩
  latest := by obtain ⟨f, h1, h2⟩ := h.latest; exact ⟨f, h1.kept hg (fun e => by have := h.inj 4 0 (by omega) (by omega) (by injection e); omega), h2⟩
  crashed := h.crashed.kept hg (fun e => by have := h.inj 6 0 (by omega) (by omega) (by injection e); omega)
  vouching := h.kept_vouch hg (by obtain ⟨f, h1, _⟩ := h.heard; exact h1.nocell) (by omega) (by omega)
  seen := by obtain ⟨f, h1, h2⟩ := h.seen; exact ⟨f, h1.kept hg (fun e => by have := h.inj 10 0 (by omega) (by omega) (by injection e); omega), h2⟩

theorem knownB_skip {ps : List PV} {me k : Nat} (h : k = me ∨ (peerAt ps k).kn = false) (x : Int) : knownB ps me k x = knownB ps me (k + 1) x := by
  unfold knownB
  apply decide_eq_decide.2
  constructor
  · rintro ⟨h1, h2, h3⟩; exact ⟨h1, by omega, h3⟩
  · rintro ⟨h1, h2, h3, h4⟩
    refine ⟨h1, ?_, h3, h4⟩
    apply Classical.byContradiction
    intro hn
    have e : x = (k : Int) := by omega
    subst e
    rw [Int.toNat_natCast] at h4
    rcases h with h | h
    · omega
    · rw [h] at h4; cases h4
theorem Mps.skip_vouch {w : World} {n me : Nat} {ps : List PV} {m : Nat → Nat} {ks kt kh k : Nat} (h : Mps w n me ps m ks kt kh k) (hme : k = me ∨ (peerAt ps k).kn = false) : Mps w n me ps m ks kt kh (k + 1) where
  inj := h.inj
  heard := h.heard
  latest := h.latest
  crashed := h.crashed
  vouching := by
    obtain ⟨f, h1, h2⟩ := h.vouching
    refine ⟨f, h1.mono (by omega), fun x => ?_⟩
    rw [← knownB_skip hme x]
    exact h2 x
  seen := h.seen

theorem Mps.store_vouch {w w' : World} {n me : Nat} {ps : List PV} {m : Nat → Nat} {ks kt kh k : Nat} (h : Mps w n me ps m ks kt kh k) (hg : w.grownBy w' (some (m 9))) (hme : k ≠ me) (hkn : (peerAt ps k).kn = true) {v : Value} (hv : Reqs w v (peerAt ps k).vs)
    {f : Lit → Option Value} (hm9 : Mp w 3 okA (m 9) k f) (hs : Mp w' 3 okA (m 9) (k + 1) (setAt f (.int .i64 (k : Int)) v))
    (hf : ∀ x : Int, (knownB ps me k x = false → f (.int .i64 x) = none) ∧ (knownB ps me k x = true → ∃ v, f (.int .i64 x) = some v ∧ Reqs w v (peerAt ps x.toNat).vs)) : Mps w' n me ps m ks kt kh (k + 1) where
  inj := h.inj
  heard := by obtain ⟨f, h1, h2⟩ := h.heard; exact ⟨f, h1.kept hg (fun e => by have := h.inj 0 9 (by omega) (by omega) (by injection e); omega), h2⟩
  latest := by obtain ⟨f, h1, h2⟩ := h.latest; exact ⟨f, h1.kept hg (fun e => by have := h.inj 4 9 (by omega) (by omega) (by injection e); omega), h2⟩
  crashed := h.crashed.kept hg (fun e => by have := h.inj 6 9 (by omega) (by omega) (by injection e); omega)
  vouching := by
    have hkeep : ∀ {u : Value} {L : List (Int × Int)}, Reqs w u L → Reqs w' u L := fun hu => hu.kept hg (fun b e o => by cases e; exact hm9.nocell o)
    refine ⟨_, hs, fun x => ?_⟩
    unfold setAt
    by_cases e : x = (k : Int)
    · subst e
      rw [if_pos (lit_eq _), Int.toNat_natCast]
      have : knownB ps me (k + 1) (k : Int) = true := by unfold knownB; simp [hkn]; omega
      rw [this]
      exact ⟨fun h => (by cases h), fun _ => ⟨v, rfl, hkeep hv⟩⟩
    · rw [lit_ne e, if_neg (by simp)]
      have : knownB ps me (k + 1) x = knownB ps me k x := by unfold knownB; apply decide_eq_decide.2; constructor <;> (rintro ⟨h1, h2, h3⟩; exact ⟨h1, by omega, h3⟩)
      rw [this]
      refine ⟨(hf x).1, fun hx => ?_⟩
      obtain ⟨u, g1, g2⟩ := (hf x).2 hx
      exact ⟨u, g1, hkeep g2⟩
  seen := by obtain ⟨f, h1, h2⟩ := h.seen; exact ⟨f, h1.kept hg (fun e => by have := h.inj 10 9 (by omega) (by omega) (by injection e); omega), h2⟩

/-- as it is new -/
theorem mps_start {B n g me : Nat} {m : Nat → Nat} {w : World} (h : DetOk B n g m w) (ps : List PV) : Mps w n me ps m 0 0 0 0 where
  inj := h.inj
  heard := ⟨_, mp_of_block 30 okA (h.mp 0 (by omega)), fun mm cc _ _ => by unfold heardB; simp; omega⟩
  latest := ⟨_, mp_of_block 3 okA (h.mp 4 (by omega)), fun x => by rw [if_neg (by omega)]⟩
  crashed := mp_of_block 30 okA (h.mp 6 (by omega))
  vouching := ⟨_, mp_of_block 3 okA (h.mp 9 (by omega)), fun x => ⟨fun _ => rfl, fun hx => by unfold knownB at hx; simp at hx; omega⟩⟩
  seen := ⟨_, mp_of_block 3 okA (h.mp 10 (by omega)), fun x => by rw [if_neg (by omega)]⟩

/-- THE DETECTOR -/
structure Det (w : World) (d n me : Nat) (si st : Int) (ps : List PV) (g cap : Nat) (m : Nat → Nat) (ks kt kh kv : Nat) : Prop where
  box : Box w d (detC me si st n g cap m) 58
  ids : Ids w g n
  mps : Mps w n me ps m ks kt kh kv
theorem Det.mono {w w' : World} {d n me : Nat} {si st : Int} {ps : List PV} {g cap : Nat} {m : Nat → Nat} {ks kt kh kv : Nat} (h : Det w d n me si st ps g cap m ks kt kh kv) (hw : Below w.heap.size w w') : Det w' d n me si st ps g cap m ks kt kh kv :=
  ⟨h.box.mono hw, fun j hj => cell_mono hw (h.ids j hj), h.mps.mono hw⟩
theorem Det.store {w w' : World} {d n me : Nat} {si st : Int} {ps : List PV} {g cap : Nat} {m : Nat → Nat} {ks kt kh kv ks' kt' kh' kv' b : Nat} (h : Det w d n me si st ps g cap m ks kt kh kv) (hg : w.grownBy w' (some b)) (hb : ∀ o, w.cell? ⟨b, o, none⟩ = none)
    (hm : Mps w' n me ps m ks' kt' kh' kv') : Det w' d n me si st ps g cap m ks' kt' kh' kv' where
  box := h.box.kept hg (fun e => by have h1 := h.box.cell 0; injection e with e; rw [e, hb 0] at h1; simp [detC] at h1)
  ids := fun j hj => by
    have h1 := h.ids j hj
    have hne : some g ≠ some b := fun e => by injection e with e; rw [e, hb j] at h1; cases h1
    exact (World.cell?_of_block (w := w) (hg.block g (cell_lt h1) hne)).trans h1
  mps := hm
end Go.Proofs.Ybulkuyw
