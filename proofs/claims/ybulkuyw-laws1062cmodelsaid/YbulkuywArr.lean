/-
  PLAIN: the two arrays of the model (present, inc) and the map of those that are up say one thing; and the small laws of the model's walk.
-/
import Derived.Test.YbulkuywOrd
import Derived.Test.YbulkuywKeep
import Derived.Deep.OwnRows
namespace Go.Proofs.Ybulkuyw
open Go.RowKit

/-- THE TWO ARRAYS -/
structure Ar (w : World) (pb ib n : Nat) (P : Nat → Bool) (I : Nat → Int) : Prop where
  p : w.rowIs pb 4 n (fun k => .bool (P k))
  i : w.rowIs ib 22 n (fun k => .int .u64 (I k))
  ne : pb ≠ ib

theorem Ar.mono {w w' : World} {pb ib n : Nat} {P : Nat → Bool} {I : Nat → Int} (h : Ar w pb ib n P I) (hw : Below w.heap.size w w') : Ar w' pb ib n P I :=
  ⟨h.p.of_block (hw.block _ h.p.lt), h.i.of_block (hw.block _ h.i.lt), h.ne⟩
theorem Ar.drewN {w : World} {pb ib n : Nat} {P : Nat → Bool} {I : Nat → Int} (h : Ar w pb ib n P I) (q : Nat) : Ar (w.drewN q) pb ib n P I := h.mono (below_drewN' w q)
theorem Ar.setP {w : World} {pb ib n : Nat} {P : Nat → Bool} {I : Nat → Int} (h : Ar w pb ib n P I) (m : Nat) (b : Bool) : Ar (w.setCell ⟨pb, m, none⟩ (.bool b)) pb ib n (fun k => if k = m then b else P k) I :=
  ⟨(h.p.set m _).congr (fun k _ => by by_cases e : k = m <;> simp [e]), h.i.setOther (fun e => h.ne e.symm) _, h.ne⟩
theorem Ar.setI {w : World} {pb ib n : Nat} {P : Nat → Bool} {I : Nat → Int} (h : Ar w pb ib n P I) (m : Nat) (c : Int) : Ar (w.setCell ⟨ib, m, none⟩ (.int .u64 c)) pb ib n P (fun k => if k = m then c else I k) :=
  ⟨h.p.setOther h.ne _, (h.i.set m _).congr (fun k _ => by by_cases e : k = m <;> simp [e]), h.ne⟩

theorem Reqs.setRow {w : World} {v : Value} {L : List (Int × Int)} (h : Reqs w v L) {b n : Nat} {t : TypeId} {f : Nat → Value} (hr : w.rowIs b t n f) (hf : ∀ k m, f k ≠ .int .i64 m) (j : Nat) (u : Value) : Reqs (w.setCell ⟨b, j, none⟩ u) v L := by
  obtain ⟨a, cap, e, hm, hc⟩ := h
  refine ⟨a, cap, e, hm, fun k r hk => ?_⟩
  obtain ⟨b', off, e1, c0, c1⟩ := hc k r hk
  have hne : b' ≠ b := fun e => by
    subst e
    obtain ⟨cs, hb, hn, hcs⟩ := hr
    simp only [World.cell?, hb] at c0
    by_cases hlt : off + k * 2 < n
    · rw [hcs _ hlt] at c0; exact hf _ _ (Option.some.inj c0)
    · rw [Array.getElem?_eq_none (by omega)] at c0; cases c0
  exact ⟨b', off, e1, by rw [cso (fun e => hne (congrArg Addr.block e).symm)]; exact c0, by rw [cso (fun e => hne (congrArg Addr.block e).symm)]; exact c1⟩
theorem Reqs.setP {w : World} {v : Value} {L : List (Int × Int)} (h : Reqs w v L) {pb ib n : Nat} {P : Nat → Bool} {I : Nat → Int} (ha : Ar w pb ib n P I) (j : Nat) (u : Value) : Reqs (w.setCell ⟨pb, j, none⟩ u) v L := h.setRow ha.p (fun _ _ => by simp) j u
theorem Reqs.setI {w : World} {v : Value} {L : List (Int × Int)} (h : Reqs w v L) {pb ib n : Nat} {P : Nat → Bool} {I : Nat → Int} (ha : Ar w pb ib n P I) (j : Nat) (u : Value) : Reqs (w.setCell ⟨ib, j, none⟩ u) v L := h.setRow ha.i (fun _ _ => by simp) j u

/-- the arrays say what U says -/
def Rel (n : Nat) (P : Nat → Bool) (I : Nat → Int) (U : Int → Option Int) : Prop := ∀ k, k < n → P k = (U (k : Int)).isSome ∧ I k = (U (k : Int)).getD 0
theorem Rel.start (n : Nat) : Rel n (fun _ => false) (fun _ => 0) noU := fun _ _ => ⟨rfl, rfl⟩
theorem Rel.more {n : Nat} {P : Nat → Bool} {I : Nat → Int} {U : Int → Option Int} (h : Rel n P I U) {m : Nat} (hm : m < n) {c : Int} (hc : I m < c) : Rel n (fun k => if k = m then true else P k) (fun k => if k = m then c else I k) (upd U ((m : Int), c)) := fun k hk => by
  unfold upd
  by_cases e : k = m
  · subst e
    have := (h k hm).2
    simp only [if_true, Option.isSome_some, Option.getD_some, true_and]
    omega
  · have : ¬ (k : Int) = (m : Int) := by omega
    simp only [e, this, if_false]
    exact h k hk
theorem Rel.same {n : Nat} {P : Nat → Bool} {I : Nat → Int} {U : Int → Option Int} (h : Rel n P I U) {m : Nat} (hm : m < n) {c : Int} (hc : ¬ I m < c) : Rel n (fun k => if k = m then true else P k) I (upd U ((m : Int), c)) := fun k hk => by
  unfold upd
  by_cases e : k = m
  · subst e
    have := (h k hm).2
    simp only [if_true, Option.isSome_some, Option.getD_some, true_and]
    omega
  · have : ¬ (k : Int) = (m : Int) := by omega
    simp only [e, this, if_false]
    exact h k hk

theorem vof_self (ps : List PV) (n me : Nat) (si : Int) : vof ps n me si (me : Int) si = candTo ps me si n ∧ vok ps n me si (me : Int) si = true := by simp [vof, vok]
theorem vof_peer {ps : List PV} {n me : Nat} {si : Int} {i : Nat} (hi : i < n) (hne : i ≠ me) (c : Int) : vof ps n me si (i : Int) c = vchs (peerAt ps i) ∧ vok ps n me si (i : Int) c = (peerAt ps i).kn := by
  have h1 : ¬ ((i : Int) = (me : Int) ∧ c = si) := fun h => hne (by omega)
  have h2 : knownB ps me n (i : Int) = (peerAt ps i).kn := by
    unfold knownB
    rw [Int.toNat_natCast]
    cases (peerAt ps i).kn
    · simp
    · simp; omega
  constructor
  · simp only [vof, if_neg h1, h2, Int.toNat_natCast, vchs]
  · simp only [vok, if_neg h1, h2]

/-! ### who is up is a member -/
def UDom (n : Nat) (U : Int → Option Int) : Prop := ∀ x c, U x = some c → 0 ≤ x ∧ x < (n : Int)
theorem UDom.upd {n : Nat} {U : Int → Option Int} (h : UDom n U) {r : Int × Int} (hr : 0 ≤ r.1 ∧ r.1 < (n : Int)) : UDom n (upd U r) := fun x c hx => by
  unfold Ybulkuyw.upd at hx
  split at hx
  · rename_i e; rw [e]; exact hr
  · exact h x c hx
theorem UDom.upV {ps : List PV} {n me : Nat} {b : Bool} : ∀ (L : List (Int × Int)) {U : Int → Option Int}, UDom n U → UDom n (upV ps n me b U L)
  | [], _, h => h
  | r :: L, U, h => by
    unfold Ybulkuyw.upV
    rw [List.foldl_cons]
    refine UDom.upV (ps := ps) (me := me) (b := b) L ?_
    split
    · rename_i hc
      refine h.upd ?_
      simp [curB, memB] at hc
      exact ⟨hc.2.1.1, hc.2.1.2⟩
    · exact h
theorem UDom.upC {ps : List PV} {n me : Nat} {si : Int} : ∀ (L : List (Int × Int)) {U : Int → Option Int}, (∀ r ∈ L, 0 ≤ r.1 ∧ r.1 < (n : Int)) → UDom n U → UDom n (upC ps n me si U L)
  | [], _, _, h => h
  | r :: L, U, hL, h => by
    unfold Ybulkuyw.upC
    rw [List.foldl_cons]
    exact UDom.upC L (fun q hq => hL q (List.mem_cons_of_mem _ hq)) (UDom.upV _ (h.upd (hL r (List.mem_cons_self ..))))

theorem up_dom (ps : List PV) (n me : Nat) (si : Int) : UDom n (upC ps n me si noU (candTo ps me si n)) :=
  UDom.upC _ (fun r hr => by obtain ⟨i, hi, h1, _⟩ := candTo_mem hr; omega) (fun x c h => by cases h)

theorem good_iff {ps : List PV} {n me : Nat} {si st now : Int} {kp : Bool} (r : Int × Int) : goodO ps n me si st now kp r ↔ ∀ k : Nat, k < n → ∀ c, upC ps n me si noU (candTo ps me si n) (k : Int) = some c → badB ps n me si st now kp r.1 r.2 (k : Int) c = false := by
  constructor
  · intro h k _ c hc; exact h _ c hc
  · intro h x c hx
    have hd := up_dom ps n me si x c hx
    have := h x.toNat (by omega) c (by rw [Int.toNat_of_nonneg hd.1]; exact hx)
    rw [Int.toNat_of_nonneg hd.1] at this
    exact this

theorem IsOrd.unique {L : List (Int × Int)} {good : Int × Int → Prop} {a b : Int × Int} (ha : IsOrd L good a) (hb : IsOrd L good b) : a = b := by
  rcases ha with ⟨ka, ha, ga, na⟩ | ⟨na, ha⟩
  · rcases hb with ⟨kb, hb, gb, nb⟩ | ⟨nb, hb⟩
    · rcases Nat.lt_trichotomy ka kb with h | h | h
      · exact absurd ga (nb ka h a ha)
      · subst h; rw [ha] at hb; cases hb; rfl
      · exact absurd gb (na kb h b hb)
    · obtain ⟨h2, _⟩ := List.getElem?_eq_some_iff.1 ha
      exact absurd ga (nb ka h2 a ha)
  · rcases hb with ⟨kb, hb, gb, nb⟩ | ⟨nb, hb⟩
    · obtain ⟨h2, _⟩ := List.getElem?_eq_some_iff.1 hb
      exact absurd gb (na kb h2 b hb)
    · rw [ha] at hb; cases hb; rfl
end Go.Proofs.Ybulkuyw
