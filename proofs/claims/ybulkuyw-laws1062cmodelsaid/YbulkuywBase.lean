/-
  BASE: small laws on worlds; A MAP BY WHAT IT HOLDS AT EACH KEY ('mp'), over the kit's 'ownsMap' with each element read as a token of itself.
-/
import Derived.Test.YbulkuywRows
import Derived.WalkKit
import Derived.WalkSpells
import Derived.WalkLawsBesides
import Derived.Deep.QuietTactic
import Derived.BigQuiet
import Derived.StillTailTactics
import Derived.Maps.RangeWalk
import Derived.DeepKeys4
namespace Go.Proofs.Ybulkuyw
open Go.RowKit
open Go.Maps (Keyed IsMap)

theorem cso {w : World} {a b : Addr} {v : Value} (h : a ≠ b) : (w.setCell a v).cell? b = w.cell? b := World.cell?_setCell_other w a b v h
theorem css {w : World} {a : Addr} {v u : Value} (h : w.cell? a = some u) : (w.setCell a v).cell? a = some v := World.cell?_setCell_same w a v h
theorem cell_lt {w : World} {a : Addr} {v : Value} (h : w.cell? a = some v) : a.block < w.heap.size := World.block_lt_of_cell? w a h
theorem ret_bool {a b : Bool} (h : a = b) : Ending.returned (.bool a) = .returned (.bool b) := by rw [h]
theorem mixed : Yba.prog.follows .mixedOrders = true := by kernel_rfl
theorem own : ownKnob Yba.prog.godebug = none := by kernel_rfl
theorem laidOut : laidOutB Yba.prog = true := by kernel_rfl

/-! ### keys -/
theorem kInt : Keyed Yba.prog 3 := Maps.int_keyed Yba.underlying3
theorem row30 : 30 < Yba.prog.types.size := of_decide_eq_true (by kernel_rfl)
theorem kReq : Keyed Yba.prog 30 := Keyed.of_law (deep_law_laid laidOut (m := 2) (by omega) row30 (by kernel_rfl) (by kernel_rfl))
/-- a Requester's value -/
def rv (m c : Int) : Value := .agg #[.int .i64 m, .int .u64 c]
/-- what it reads as, as a key -/
def kl (m c : Int) : Lit := .string (keyBytes [.int .i64 m, .int .u64 c])
theorem cells30 : Yba.prog.cellsOf 30 = 2 := by kernel_rfl
theorem cells3 : Yba.prog.cellsOf 3 = 1 := by kernel_rfl
theorem cells22 : Yba.prog.cellsOf 22 = 1 := by kernel_rfl
theorem keyLits30 {m c : Int} (hm : (Lit.int .i64 m).wf = true) (hc : (Lit.int .u64 c).wf = true) (d : Nat) : Yba.prog.keyLits (d + 2) 30 [.int .i64 m, .int .u64 c] = some [.int .i64 m, .int .u64 c] := by
  simp [Program.keyLits, Yba.underlying30, cells30, Yba.underlying3, Yba.underlying22, cells3, cells22, hm, hc]
theorem kl_eq {m c : Int} (hm : (Lit.int .i64 m).wf = true) (hc : (Lit.int .u64 c).wf = true) : keyOf Yba.prog 30 (rv m c) = some (kl m c) := by
  have hs : Yba.prog.types.size + 1 = 131 + 2 := by kernel_rfl
  have hk : Yba.prog.keyType 30 = true := by kernel_rfl
  unfold keyOf
  rw [hs, Yba.underlying30]
  have hf : (rv m c).formed Yba.prog 30 = true := by simp [rv, Value.formed, Yba.underlying30, cells30]
  have hcs : (rv m c).cells.toList = [.int .i64 m, .int .u64 c] := rfl
  simp only [hk, hf, Bool.and_self, if_true, hcs, keyLits30 hm hc, Option.map_some]
  rfl
theorem kl_inj {m c m' c' : Int} (hm : (Lit.int .i64 m).wf = true) (hc : (Lit.int .u64 c).wf = true) (hm' : (Lit.int .i64 m').wf = true) (hc' : (Lit.int .u64 c').wf = true) (h : kl m c = kl m' c') : m = m' ∧ c = c' := by
  have h1 := kl_eq hm hc
  have h2 := kl_eq hm' hc'
  rw [h] at h1
  have := kReq.inj h1 h2
  simp [rv] at this
  exact this

/-! ### a map by what it holds at each key -/
/-- an element read as a token of itself, where it is of the kind that is wanted -/
def tokP (ok : Value → Bool) (v : Value) : Option (DataW Value × List MemPlace) := if ok v = true then some (.held v, []) else none
theorem tokP_mk {ok : Value → Bool} {v : Value} (h : ok v = true) : tokP ok v = some (.held v, []) := by simp [tokP, h]
theorem tokP_inv {ok : Value → Bool} {v : Value} {z : DataW Value × List MemPlace} (h : tokP ok v = some z) : ok v = true ∧ z = (.held v, []) := by
  unfold tokP at h
  split at h
  · rename_i hv; cases h; exact ⟨hv, rfl⟩
  · cases h

/-- BLOCK b OF w IS A MAP OF AT MOST n ENTRIES THAT HOLDS f. -/
def Mp (w : World) (k : TypeId) (ok : Value → Bool) (b n : Nat) (f : Lit → Option Value) : Prop :=
  ∃ D : DataW Value, w.ownsMap Yba.prog k (tokP ok) b n D ∧ ∀ kl, (f kl = none → Maps.has D kl = false) ∧ ∀ v, f kl = some v → Maps.has D kl = true ∧ ∀ zd, D.atKey kl zd = .held v

theorem mp_made (w : World) (k : TypeId) (ok : Value → Bool) : Mp (w.alloc (.map #[] 0)) k ok w.heap.size 0 (fun _ => none) :=
  ⟨.map [], World.ownsMap_made _ _ _ _, fun kl => ⟨fun _ => rfl, fun v h => by cases h⟩⟩
theorem mp_of_block {w : World} {b : Nat} (k : TypeId) (ok : Value → Bool) (h : w.heap[b]? = some (.map #[] 0)) : Mp w k ok b 0 (fun _ => none) :=
  ⟨.map [], ⟨#[], 0, h, ⟨by simp, MapKept.stamped_empty 0, by simp⟩, Nat.le_refl _, rfl⟩, fun kl => ⟨fun _ => rfl, fun v h => by cases h⟩⟩
theorem Mp.lt {w : World} {k : TypeId} {ok : Value → Bool} {b n : Nat} {f : Lit → Option Value} (h : Mp w k ok b n f) : b < w.heap.size := by
  obtain ⟨D, h, _⟩ := h; exact h.lt
theorem Mp.block {w w' : World} {k : TypeId} {ok : Value → Bool} {b n : Nat} {f : Lit → Option Value} (h : Mp w k ok b n f) (e : w'.heap[b]? = w.heap[b]?) : Mp w' k ok b n f := by
  obtain ⟨D, ⟨es, clock, h1, h2⟩, hf⟩ := h
  exact ⟨D, ⟨es, clock, e.trans h1, h2⟩, hf⟩
theorem Mp.below {w w' : World} {k : TypeId} {ok : Value → Bool} {b n B : Nat} {f : Lit → Option Value} (h : Mp w k ok b n f) (hB : Below B w w') (hb : b < B) : Mp w' k ok b n f := h.block (hB.block b hb)
theorem Mp.kept {w w' : World} {k : TypeId} {ok : Value → Bool} {b n : Nat} {f : Lit → Option Value} {row : Option Nat} (h : Mp w k ok b n f) (hg : w.grownBy w' row) (hne : some b ≠ row) : Mp w' k ok b n f := h.block (hg.block b h.lt hne)
theorem Mp.alloc {w : World} {k : TypeId} {ok : Value → Bool} {b n : Nat} {f : Lit → Option Value} (h : Mp w k ok b n f) (o : Obj) : Mp (w.alloc o) k ok b n f := h.kept (World.grownBy_alloc w o none) (by simp)
theorem Mp.mono {w : World} {k : TypeId} {ok : Value → Bool} {b n n' : Nat} {f : Lit → Option Value} (h : Mp w k ok b n f) (hn : n ≤ n') : Mp w k ok b n' f := by
  obtain ⟨D, h, hf⟩ := h; exact ⟨D, h.mono hn, hf⟩
theorem Mp.setCell {w : World} {k : TypeId} {ok : Value → Bool} {b n : Nat} {f : Lit → Option Value} (h : Mp w k ok b n f) {a : Addr} (ha : b ≠ a.block) (u : Value) : Mp (w.setCell a u) k ok b n f := h.block (Below.heap_setCell _ _ _ _ ha)

theorem held_inj {a b : Value} (h : (DataW.held a : DataW Value) = .held b) : a = b := DataW.held.inj h

/-- what a look-up hands back -/
def lookVal (c : Bool) (o : Option Value) (z : Value) : Value := if c then .tuple #[o.getD z, .bool o.isSome] else o.getD z

/-- a look-up: the world does not turn -/
theorem Mp.look {w : World} {k : TypeId} {ok : Value → Bool} {b n : Nat} {f : Lit → Option Value} (h : Mp w k ok b n f) (K : Keyed Yba.prog k) {t e : TypeId} (ht : Yba.prog.underlying t = some (.map k e)) {z : Value} (hz : (zeroValue e).run Yba.prog w = .ok z w) (hok : ok z = true)
    {key : Value} {kl : Lit} (hkey : keyOf Yba.prog k key = some kl) (c : Bool) : (Instr.lookup t (.map (some b)) key c).run Yba.prog w = .ok (lookVal c (f kl) z) w := by
  obtain ⟨D, hown, hf⟩ := h
  have key2 : ∀ v ps, tokP ok v = some (D.atKey kl (.held z), ps) → v = (f kl).getD z := fun v ps hv => by
    obtain ⟨_, e1⟩ := tokP_inv hv
    have e2 : D.atKey kl (.held z) = .held v := congrArg Prod.fst e1
    cases hfk : f kl with
    | none =>
      rw [Maps.atKey_of_not_has ((hf kl).1 hfk)] at e2
      exact (held_inj e2).symm
    | some u =>
      rw [((hf kl).2 u hfk).2] at e2
      exact (held_inj e2).symm
  cases c with
  | false =>
    obtain ⟨v, ps, hrun, hv⟩ := hown.lookup K ht hz (tokP_mk hok) hkey
    rw [key2 v ps hv] at hrun
    exact hrun
  | true =>
    obtain ⟨v, ps, hrun, hv⟩ := hown.look_ok K ht hz (tokP_mk hok) hkey
    rw [key2 v ps hv] at hrun
    have hh : Maps.has D kl = (f kl).isSome := by
      cases hfk : f kl with
      | none => exact (hf kl).1 hfk
      | some u => exact ((hf kl).2 u hfk).1
    rw [hh] at hrun
    exact hrun

/-- the map's content behind a store -/
def setAt (f : Lit → Option Value) (kl : Lit) (v : Value) : Lit → Option Value := fun x => if x.sameKey kl = true then some v else f x

theorem mp_put {D : DataW Value} {f : Lit → Option Value} {kl : Lit} {v : Value} (hD : IsMap D) (hk : WideAt.IsKeyLit kl) (hf : ∀ kl, (f kl = none → Maps.has D kl = false) ∧ ∀ v, f kl = some v → Maps.has D kl = true ∧ ∀ zd, D.atKey kl zd = .held v) :
    ∀ x, (setAt f kl v x = none → Maps.has (D.put kl (.held v)) x = false) ∧ ∀ u, setAt f kl v x = some u → Maps.has (D.put kl (.held v)) x = true ∧ ∀ zd, (D.put kl (.held v)).atKey x zd = .held u := fun x => by
  unfold setAt
  by_cases e : x = kl
  · subst e
    rw [if_pos (WideAt.sameKey_self hk)]
    refine ⟨fun h => (by cases h), fun u hu => ?_⟩
    cases hu
    exact ⟨Maps.has_put_same hD hk _, fun zd => Maps.atKey_put_same hD hk _ zd⟩
  · rw [if_neg (fun h => e (WideAt.sameKey_eq h))]
    refine ⟨fun h => by rw [Maps.has_put_other e]; exact (hf x).1 h, fun u hu => ?_⟩
    obtain ⟨h1, h2⟩ := (hf x).2 u hu
    exact ⟨by rw [Maps.has_put_other e]; exact h1, fun zd => by rw [Maps.atKey_put_other e]; exact h2 zd⟩

/-- 'm[k] = v' at the operation -/
theorem wpList_store_mp (w : World) {ops : Array Oper} {rest : List Oper} {o : Oper} {a : Act} {Q : Exit → Act → World → Prop}
    (hg : o.guard = none) (m x v : Operand) (t : TypeId) (hop : o.op = Op.mapUpdate t m x v)
    (k e : TypeId) (K : Keyed Yba.prog k) (ht : Yba.prog.underlying t = some (.map k e)) {ok : Value → Bool} (b n : Nat) (f : Lit → Option Value)
    (hm : a.eval m = .map (some b)) (h : Mp w k ok b n f) (hn : n < maxLen) (key val : Value) (kl : Lit) (hx : a.eval x = key) (hv : a.eval v = val) (hkey : keyOf Yba.prog k key = some kl)
    (hok : ok val = true)
    (hK : ∀ w', Mp w' k ok b (n + 1) (setAt f kl val) → w.grownBy w' (some b) → wpList Yba.prog ops Q rest (a.put o.dst undef) w') :
    wpList Yba.prog ops Q (o :: rest) a w := by
  obtain ⟨D, hown, hf⟩ := h
  refine wpList_mapUpdate_own w hg m x v t hop k e K ht (tokP ok) b n D hm hown hn key val kl hx hv hkey (.held val) [] (tokP_mk hok) ?_
  intro w' hown' hgrow
  exact hK w' ⟨_, hown', mp_put hown.isMap (K.key hkey) hf⟩ hgrow

/-- 'm[k]' at the operation -/
theorem wpList_look_mp (w : World) {ops : Array Oper} {rest : List Oper} {o : Oper} {a : Act} {Q : Exit → Act → World → Prop}
    (hg : o.guard = none) (m x : Operand) (t : TypeId) (c : Bool) (hop : o.op = Op.lookup t m x c)
    (k e : TypeId) (K : Keyed Yba.prog k) (ht : Yba.prog.underlying t = some (.map k e)) {z : Value} (hz : (zeroValue e).run Yba.prog w = .ok z w) {ok : Value → Bool} (hok : ok z = true) (b n : Nat) (f : Lit → Option Value)
    (hm : a.eval m = .map (some b)) (h : Mp w k ok b n f) (key : Value) (kl : Lit) (hx : a.eval x = key) (hkey : keyOf Yba.prog k key = some kl)
    (hK : wpList Yba.prog ops Q rest (a.put o.dst (lookVal c (f kl) z)) w) :
    wpList Yba.prog ops Q (o :: rest) a w := by
  refine wpList_plain hg fun K' hK' => ?_
  unfold Oper.wp
  simp [execOp, hop, hm, hx, h.look K ht hz hok hkey c, Result.andThen]
  exact hK' _ _ hK

/-! ### a region that draws its order, whose operations read old memory and whose calls only lay new memory -/
/-- a world that has grown out of w: below B nothing has turned -/
structure Ext (B : Nat) (w : World) where
  wd : World
  ok : Below B w wd

theorem wp_region_ext {id : Nat} {Q : Exit → Act → World → Prop} {a : Act} {w : World} {l : List Oper} (B : Nat) (hB : Region.lexB .any l.toArray = true)
    (h : wpQuiet Yba.prog l.toArray (fun w' => ∃ x : Ext B w, w' = x.wd) (fun a' => ∀ w', (∃ x : Ext B w, w' = x.wd) → Q .normal a' w') l a) : (Code.region id l.toArray true).wp Yba.prog Q a w :=
  wp_region_quiet (C := fun w' => ∃ x : Ext B w, w' = x.wd) mixed hB ⟨⟨w.drew, (Below.refl _ _).drew⟩, rfl⟩ (by simpa using h)

/-- a callee's contract met there -/
theorem ext_call {B : Nat} {w : World} {f : FuncId} {args : Array Value} {x : Ext B w} {v : Value} (h : Calls Yba.prog f args x.wd fun e w' => e = .returned v ∧ Below B x.wd w') :
    Calls Yba.prog f args x.wd fun e w'' => e = .returned v ∧ ∃ y : Ext B w, w'' = y.wd :=
  h.mono fun _ w'' ⟨he, hb⟩ => ⟨he, ⟨w'', x.ok.trans hb⟩, rfl⟩

/-! ### slices of Requesters -/
/-- the cells of a list of Requesters -/
def rcells (L : List (Int × Int)) : List Value := L.flatMap fun r => [.int .i64 r.1, .int .u64 r.2]
theorem rcells_length (L : List (Int × Int)) : (rcells L).length = L.length * 2 := by
  induction L with
  | nil => rfl
  | cons x r ih => simp [rcells] at *; omega
theorem rcells_append (L : List (Int × Int)) (r : Int × Int) : rcells (L ++ [r]) = rcells L ++ [.int .i64 r.1, .int .u64 r.2] := by simp [rcells]
theorem rcells_get : ∀ (L : List (Int × Int)) (k : Nat) (r : Int × Int), L[k]? = some r → (rcells L)[k * 2]? = some (.int .i64 r.1) ∧ (rcells L)[k * 2 + 1]? = some (.int .u64 r.2)
  | [], k, r, h => by simp at h
  | x :: l, 0, r, h => by simp at h; subst h; simp [rcells]
  | x :: l, k + 1, r, h => by
    have := rcells_get l k r (by simpa using h)
    have e : rcells (x :: l) = .int .i64 x.1 :: .int .u64 x.2 :: rcells l := by simp [rcells]
    rw [e, show (k + 1) * 2 = k * 2 + 1 + 1 by omega]
    simpa using this

/-- THE SLICE VALUE v HOLDS THE REQUESTERS L -/
def Reqs (w : World) (v : Value) (L : List (Int × Int)) : Prop :=
  ∃ a cap, v = .slice a L.length cap ∧ L.length ≤ maxLen ∧ ∀ (k : Nat) r, L[k]? = some r → ∃ b off, a = some ⟨b, off, none⟩ ∧ w.cell? ⟨b, off + k * 2, none⟩ = some (.int .i64 r.1) ∧ w.cell? ⟨b, off + k * 2 + 1, none⟩ = some (.int .u64 r.2)

theorem Reqs.mono {w w' : World} {v : Value} {L : List (Int × Int)} (h : Reqs w v L) (hw : Below w.heap.size w w') : Reqs w' v L := by
  obtain ⟨a, cap, e, hm, hc⟩ := h
  refine ⟨a, cap, e, hm, fun k r hk => ?_⟩
  obtain ⟨b, off, e1, c0, c1⟩ := hc k r hk
  exact ⟨b, off, e1, (hw.cell (cell_lt c0)).trans c0, (hw.cell (cell_lt c1)).trans c1⟩
theorem Reqs.kept {w w' : World} {v : Value} {L : List (Int × Int)} {row : Option Nat} (h : Reqs w v L) (hg : w.grownBy w' row) (hr : ∀ b, row = some b → ∀ o, w.cell? ⟨b, o, none⟩ = none) : Reqs w' v L := by
  obtain ⟨a, cap, e, hm, hc⟩ := h
  refine ⟨a, cap, e, hm, fun k r hk => ?_⟩
  obtain ⟨b, off, e1, c0, c1⟩ := hc k r hk
  have hb : some b ≠ row := fun e2 => by rw [hr b e2.symm] at c0; cases c0
  have := hg.block b (cell_lt c0) hb
  exact ⟨b, off, e1, (World.cell?_of_block (w := w) this).trans c0, (World.cell?_of_block (w := w) this).trans c1⟩
theorem reqs_nil (w : World) : Reqs w (.slice none 0 0) [] := ⟨none, 0, rfl, Nat.zero_le _, fun k r h => by simp at h⟩

theorem ownsRow_len {w : World} {base : Nat} {e : TypeId} {size : Nat} {v : Value} {n : Nat} {xs : List Value} (h : w.ownsRow base e size v n xs) : n ≤ maxLen := by
  rcases h.2 with ⟨_, h0⟩ | ⟨g, cap, cur, _, _, _, h1, h2, _⟩ <;> omega
theorem ownsRow_lo {w : World} {base : Nat} {e : TypeId} {size : Nat} {v : Value} {n : Nat} {xs : List Value} (h : w.ownsRow base e size v n xs) : ∀ k, v.ownBlock = some k → base ≤ k := by
  intro k hk
  rcases h.2 with ⟨rfl, _⟩ | ⟨g, cap, cur, rfl, h1, _⟩
  · cases hk
  · simp [Value.ownBlock] at hk; omega
theorem ownsRow_mono {w w' : World} {base : Nat} {e : TypeId} {size : Nat} {v : Value} {n : Nat} {xs : List Value} (h : w.ownsRow base e size v n xs) (hw : Below w.heap.size w w') : w'.ownsRow base e size v n xs := by
  obtain ⟨h1, h2⟩ := h
  refine ⟨h1, h2.imp id ?_⟩
  rintro ⟨g, cap, cur, h3, h4, h5, h6⟩
  exact ⟨g, cap, cur, h3, h4, (hw.block g (Array.getElem?_eq_some_iff.1 h5).1).trans h5, h6⟩
/-- what the call's own slice holds -/
theorem reqs_of_own {w : World} {base : Nat} {v : Value} {L : List (Int × Int)} (h : w.ownsRow base 30 2 v L.length (rcells L)) : Reqs w v L := by
  have hm := ownsRow_len h
  rcases h.2 with ⟨rfl, h0⟩ | ⟨g, cap, cur, rfl, _⟩
  · exact ⟨none, 0, by rw [h0], hm, fun k r hk => by
      have : L = [] := List.length_eq_zero_iff.1 h0
      rw [this] at hk; simp at hk⟩
  · refine ⟨some ⟨g, 0, none⟩, cap, rfl, hm, fun k r hk => ⟨g, 0, rfl, ?_, ?_⟩⟩
    · have hk' : k < L.length := (List.getElem?_eq_some_iff.1 hk).1
      rw [Nat.zero_add, h.cellAt _ (by omega)]
      exact (rcells_get L k r hk).1
    · have hk' : k < L.length := (List.getElem?_eq_some_iff.1 hk).1
      rw [Nat.zero_add, h.cellAt _ (by omega)]
      exact (rcells_get L k r hk).2

/-- 'append(s, r)': r is laid in a block of its own first -/
theorem cell_two_req (w : World) (m c : Int) : ∀ j u, [Value.int .i64 m, .int .u64 c][j]? = some u → (w.alloc (.cells #[.int .i64 m, .int .u64 c] 30)).cell? ((⟨w.heap.size, 0, none⟩ : Addr).add j) = some u := by
  intro j u hj
  match j, hj with
  | 0, hj => simp at hj; subst hj; simp [Addr.add]
  | 1, hj => simp at hj; subst hj; simp [Addr.add]
  | j + 2, hj => simp at hj
theorem info30 : (Yba.prog.info? 30).map (fun i => (i.zero, i.size, i.bytes)) = some (some (.agg #[.int .i64 0, .int .u64 0]), 2, 16) := by kernel_rfl

/-! ### any order, by an invariant -/
theorem wpAny_inv {P : Program} {ops : Array Oper} {Q : Exit → Act → World → Prop} (I : Array Bool → Act → World → Prop)
    (hsz : ∀ L a w, I L a w → L.size = ops.size)
    (hstep : ∀ L a w i, I L a w → i ∈ Region.ready .any ops L → wpOp P ops Q i (I (L.setIfInBounds i true)) a w)
    (hend : ∀ L a w, I L a w → Region.ready .any ops L = [] → Q .normal a w) :
    ∀ (fuel : Nat) (L : Array Bool) (a : Act) (w : World), L.toList.count false ≤ fuel → I L a w → wpAny P .any ops Q fuel L a w
  | 0, L, a, w, hc, hI => by
    have h0 : Region.ready .any ops L = [] := by
      cases hr : Region.ready .any ops L with
      | nil => rfl
      | cons i r =>
        have hi : i ∈ Region.ready .any ops L := by rw [hr]; simp
        obtain ⟨h1, o, ho, _⟩ := mem_ready.1 hi
        have hlt : i < L.size := by rw [hsz L a w hI]; exact (Array.getElem?_eq_some_iff.1 ho).1
        have h2 : L[i] = false := by simpa [hlt] using h1
        have : 0 < L.toList.count false := List.count_pos_iff.2 (by rw [← h2]; exact List.mem_iff_getElem.2 ⟨i, by simpa using hlt, by simp⟩)
        omega
    exact ⟨h0, hend L a w hI h0⟩
  | fuel + 1, L, a, w, hc, hI => by
    refine ⟨hend L a w hI, fun i hi => ?_⟩
    obtain ⟨h1, o, ho, _⟩ := mem_ready.1 hi
    have hlt : i < L.size := by rw [hsz L a w hI]; exact (Array.getElem?_eq_some_iff.1 ho).1
    have h2 : L[i] = false := by simpa [hlt] using h1
    have hc' : (L.setIfInBounds i true).toList.count false ≤ fuel := by
      have e : (L.setIfInBounds i true).toList = L.toList.set i true := by simp
      rw [e, List.count_set (by simpa using hlt)]
      have : 0 < L.toList.count false := List.count_pos_iff.2 (by rw [← h2]; exact List.mem_iff_getElem.2 ⟨i, by simpa using hlt, by simp⟩)
      have e2 : L.toList[i]'(by simpa using hlt) = false := by simpa using h2
      rw [e2]
      simp only [beq_self_eq_true, if_true]
      have e3 : (true == false) = false := rfl
      rw [e3]
      simp only [Bool.false_eq_true, if_false]
      omega
    exact wpOp_mono (fun a' w' h => wpAny_inv I hsz hstep hend fuel _ a' w' hc' h) (hstep L a w i hI hi)

theorem wp_region_inv {ops : Array Oper} {id : Nat} {Q : Exit → Act → World → Prop} {a : Act} {w : World} (I : Array Bool → Act → World → Prop)
    (hsz : ∀ L a w, I L a w → L.size = ops.size)
    (h0 : I (Array.replicate ops.size false) a w.drew)
    (hstep : ∀ L a w i, I L a w → i ∈ Region.ready .any ops L → wpOp Yba.prog ops Q i (I (L.setIfInBounds i true)) a w)
    (hend : ∀ L a w, I L a w → Region.ready .any ops L = [] → Q .normal a w) : (Code.region id ops true).wp Yba.prog Q a w :=
  wp_region_any mixed (wpAny_inv I hsz hstep hend ops.size _ a w.drew (by simp) h0)
end Go.Proofs.Ybulkuyw
