/-
  The seat's base: the laws of the walk for values of many cells; a region that draws its order, walked in ONE order that the prover names.
-/
import Derived.Test.Qxb6612879aRows
import Derived.WalkKit
import Derived.WalkSpells
import Derived.WalkLawsBesides
import Derived.Deep.QuietTactic
import Derived.BigQuiet
import Derived.OrdersHeld
import Derived.ChangeKeysEq
namespace Go.Proofs.Qxb6612879a
open Go.RowKit

/-! ### One order for a region that draws -/
section
variable {P : Program} {ops : Array Oper} {Q : Exit → Act → World → Prop} {S : World → Prop}

/-- The order 'ord' serves: a plain operation (false) may be taken first; an effect (true) is the only one that may come up. -/
def ordB (ops : Array Oper) : List (Nat × Bool) → Array Bool → Bool
  | [], listed => (Region.ready .any ops listed).isEmpty
  | (k, true) :: r, listed => (Region.ready .any ops listed == [k]) && ordB ops r (listed.setIfInBounds k true)
  | (k, false) :: r, listed => (Region.ready .any ops listed).contains k && Region.free .any ops listed k && ordB ops r (listed.setIfInBounds k true)

/-- The walk along that order. -/
def wpOrd (P : Program) (ops : Array Oper) (Q : Exit → Act → World → Prop) (S : World → Prop) : List (Nat × Bool) → Act → World → Prop
  | [], a, w => Q .normal a w
  | (k, true) :: r, a, w => wpOp P ops Q k (fun a' w' => S w' ∧ wpOrd P ops Q S r a' w') a w
  | (k, false) :: r, a, w => S w ∧ ∃ o v, ops[k]? = some o ∧ YieldsIf P ops S o v a ∧ wpOrd P ops Q S r (a.put o.dst v) w

/-- A panic does not look at the frame. -/
def PanicOK (Q : Exit → Act → World → Prop) : Prop := ∀ c (a : Act) w d v, Q (.panic c) (a.put d v) w → Q (.panic c) a w

theorem wpAnyH_of_ord (hs : Region.noSelect ops = true) (hQ : PanicOK Q) : ∀ (ord : List (Nat × Bool)) (listed : Array Bool) (a : Act) (w : World),
    ordB ops ord listed = true → wpOrd P ops Q S ord a w → wpAnyH P .any ops Q S ord.length listed a w
  | [], _, _, _, hB, h => ⟨by simpa [ordB] using hB, h⟩
  | (k, true) :: r, listed, a, w, hB, h => by
    simp only [ordB, Bool.and_eq_true, beq_iff_eq] at hB
    refine wpAnyH_all (rs := [k]) hB.1 (by simp) fun i hi => ?_
    have hik : i = k := by simpa using hi
    subst hik
    exact wpOp_mono (fun a' w' h' => ⟨h'.1, wpAnyH_of_ord hs hQ r _ a' w' hB.2 h'.2⟩) h
  | (k, false) :: r, listed, a, w, hB, h => by
    simp only [ordB, Bool.and_eq_true] at hB
    obtain ⟨hS, o, v, ho, hy, hr⟩ := h
    exact wpAnyH_take ho hs hB.1.2 hB.1.1 (fun c a w h => hQ c a w o.dst v h) hy hS (wpAnyH_of_ord hs hQ r _ _ _ hB.2 hr)

theorem wp_region_ord {id : Nat} {a : Act} {w : World} {l : List Oper} (S : World → Prop) (ord : List (Nat × Bool)) (hm : P.follows .mixedOrders = true) (hs : Region.noSelect l.toArray = true) (hQ : PanicOK Q)
    (hB : ordB l.toArray ord (Array.replicate l.toArray.size false) = true) (hl : ord.length = l.toArray.size)
    (h : wpOrd P l.toArray Q S ord a w.drew) : (Code.region id l.toArray true).wp P Q a w :=
  wp_region_held (S := S) hm (by have := wpAnyH_of_ord hs hQ ord _ a _ hB h; rw [hl] at this; exact this)

variable {k : Nat} {r : List (Nat × Bool)} {a : Act} {w : World}

theorem put_lit (l : List Value) (ds : List Deferred) (n : Nat) (v : Value) : (⟨l.toArray, ds⟩ : Act).put (some n) v = ⟨(l.set n v).toArray, ds⟩ := by
  simp [Act.put]
theorem ord_val {o : Oper} {l : List Value} {ds : List Deferred} (n : Nat) (ho : ops[k]? = some o) (hd : o.dst = some n) (hw : Region.wanted o (yielded ops l.toArray) = true) (hS : S w) (v : Value) (hv : ∀ w, S w → (execOp (Act.eval ⟨l.toArray, ds⟩) o).run P w = .ok (.value v) w)
    (h : wpOrd P ops Q S r ⟨(l.set n v).toArray, ds⟩ w) : wpOrd P ops Q S ((k, false) :: r) ⟨l.toArray, ds⟩ w := ⟨hS, o, v, ho, .inl ⟨hw, hv⟩, by rw [hd, put_lit]; exact h⟩
theorem ord_skip {o : Oper} {l : List Value} {ds : List Deferred} (n : Nat) (ho : ops[k]? = some o) (hd : o.dst = some n) (hw : Region.wanted o (yielded ops l.toArray) = false) (hS : S w)
    (h : wpOrd P ops Q S r ⟨(l.set n undef).toArray, ds⟩ w) : wpOrd P ops Q S ((k, false) :: r) ⟨l.toArray, ds⟩ w := ⟨hS, o, undef, ho, .inr ⟨hw, rfl⟩, by rw [hd, put_lit]; exact h⟩
theorem ord_eff {o : Oper} (ho : ops[k]? = some o) (hw : Region.wanted o (yielded ops a.tmps) = true)
    (h : o.wp P a w (fun a' w' => S w' ∧ wpOrd P ops Q S r a' w') Q) : wpOrd P ops Q S ((k, true) :: r) a w := by
  unfold wpOrd wpOp
  simp only [ho, hw, if_true]
  exact .inl h
theorem ord_eff_skip {o : Oper} {l : List Value} {ds : List Deferred} (n : Nat) (ho : ops[k]? = some o) (hd : o.dst = some n) (hw : Region.wanted o (yielded ops l.toArray) = false) (hS : S w)
    (h : wpOrd P ops Q S r ⟨(l.set n undef).toArray, ds⟩ w) : wpOrd P ops Q S ((k, true) :: r) ⟨l.toArray, ds⟩ w := by
  unfold wpOrd wpOp
  simp only [ho, hw, Bool.false_eq_true, if_false]
  rw [hd, put_lit]
  exact ⟨hS, h⟩
theorem ord_done (h : Q .normal a w) : wpOrd P ops Q S [] a w := h
theorem ord_call {o : Oper} {l : List Value} {ds : List Deferred} (n : Nat) (ho : ops[k]? = some o) (hd : o.dst = some n) (hw : Region.wanted o (yielded ops l.toArray) = true) (f : FuncId) (args : Array Value) (he : (execOp (Act.eval ⟨l.toArray, ds⟩) o).run P w = .ok (.enter f args) w)
    {R : Ending → World → Prop} (hc : Calls P f args w R) (h : ∀ e w', R e w' → ∃ v, e = .returned v ∧ S w' ∧ wpOrd P ops Q S r ⟨(l.set n v).toArray, ds⟩ w') : wpOrd P ops Q S ((k, true) :: r) ⟨l.toArray, ds⟩ w := by
  refine ord_eff ho hw ?_
  unfold Oper.wp
  rw [he]
  refine hc.mono fun e w' hR => ?_
  obtain ⟨v, rfl, h1, h2⟩ := h e w' hR
  rw [← put_lit, ← hd] at h2
  exact ⟨h1, h2⟩
end

/-! ### .. whose last operation, a store, waits for all the others -/
section
variable {P : Program} {ops : Array Oper} {Q : Exit → Act → World → Prop} {S : World → Prop} {m : Nat} {L : Act → World → Prop}

/-- Number m waits for number i. -/
def waitsB (ops : Array Oper) (m i : Nat) : Bool := match ops[m]? with | some o => o.after.any fun e => Region.binds .any e && e.on == i | none => false
theorem waitsB_spec {i : Nat} {listed : Array Bool} (h : waitsB ops m i = true) (hun : listed.getD i true = false) : m ∉ Region.ready .any ops listed := by
  intro hm
  obtain ⟨_, o, ho, hall⟩ := mem_ready.1 hm
  unfold waitsB at h
  rw [ho] at h
  obtain ⟨e, he, hb⟩ := Array.any_eq_true'.1 h
  simp only [Bool.and_eq_true, beq_iff_eq] at hb
  have h1 := hall e he hb.1
  rw [hb.2] at h1
  rcases Nat.lt_or_ge i listed.size with h' | h'
  · simp [h'] at hun h1; rw [hun] at h1; cases h1
  · simp [Array.getElem?_eq_none h'] at h1

def wpAnyT (P : Program) (ops : Array Oper) (Q : Exit → Act → World → Prop) (S : World → Prop) (m : Nat) (L : Act → World → Prop) : Nat → Array Bool → Act → World → Prop
  | 0, listed, a, w => Region.ready .any ops listed = [m] ∧ Region.ready .any ops (listed.setIfInBounds m true) = [] ∧ L a w
  | f + 1, listed, a, w => Region.ready .any ops listed ≠ [] ∧ ∀ i ∈ Region.ready .any ops listed, i ≠ m ∧ wpOp P ops Q i (fun a' w' => S w' ∧ wpAnyT P ops Q S m L f (listed.setIfInBounds i true) a' w') a w

theorem wpAny_of_T (hL : ∀ a w, L a w → wpOp P ops Q m (fun a' w' => Q .normal a' w') a w) : ∀ (f : Nat) (listed : Array Bool) (a : Act) (w : World), wpAnyT P ops Q S m L f listed a w → wpAny P .any ops Q (f + 1) listed a w
  | 0, listed, a, w, h => by
    refine ⟨fun h0 => (by rw [h.1] at h0; cases h0), fun i hi => ?_⟩
    rw [h.1] at hi
    have him : i = m := by simpa using hi
    subst him
    exact wpOp_mono (fun a' w' h' => ⟨h.2.1, h'⟩) (hL a w h.2.2)
  | f + 1, listed, a, w, h => ⟨fun h0 => absurd h0 h.1, fun i hi => wpOp_mono (fun a' w' h' => wpAny_of_T hL f _ a' w' h'.2) (h.2 i hi).2⟩

theorem wpAnyT_first {i : Nat} {oi : Oper} {v : Value} (hi : ops[i]? = some oi) (hsel : ∀ (j : Nat) (o : Oper) cs b, ops[j]? = some o → o.op ≠ .select cs b) (hQ : ∀ c a w, Q (.panic c) (a.put oi.dst v) w → Q (.panic c) a w) (him : i ≠ m) (hwait : waitsB ops m i = true) :
    ∀ (f : Nat) (listed : Array Bool) (a : Act) (w : World),
      (∀ j oj, ops[j]? = some oj → j ≠ i → listed.getD j true = false → (∀ e ∈ oj.after, Region.binds .any e = true → e.on ≠ i) → oi.apart ops oj = true) →
      i ∈ Region.ready .any ops listed → YieldsIf P ops S oi v a → S w →
      wpAnyT P ops Q S m L f (listed.setIfInBounds i true) (a.put oi.dst v) w → wpAnyT P ops Q S m L (f + 1) listed a w := by
  intro f
  induction f with
  | zero =>
    intro listed a w _ hr hy hS H
    refine ⟨fun h => (by rw [h] at hr; cases hr), fun j hj => ?_⟩
    by_cases hji : j = i
    · subst hji; exact ⟨him, hy.wpOp hi hS ⟨hS, H⟩⟩
    · have h1 := ready_mono hj hji
      rw [H.1] at h1
      have hjm : j = m := by simpa using h1
      subst hjm
      exact absurd hj (waitsB_spec hwait (mem_ready.1 hr).1)
  | succ f ih =>
    intro listed a w hfree hr hy hS H
    refine ⟨fun h => (by rw [h] at hr; cases hr), fun j hj => ?_⟩
    by_cases hji : j = i
    · subst hji; exact ⟨him, hy.wpOp hi hS ⟨hS, H⟩⟩
    · obtain ⟨hjm, h1⟩ := H.2 j (ready_mono hj hji)
      refine ⟨hjm, ?_⟩
      obtain ⟨hjun, oj, hoj, hall⟩ := mem_ready.1 hj
      have hnot : ∀ e ∈ oj.after, Region.binds .any e = true → e.on ≠ i := fun e he hb heq => by
        have h1 := hall e he hb
        have h0 := (mem_ready.1 hr).1
        rw [heq] at h1
        rcases Nat.lt_or_ge i listed.size with h' | h'
        · simp [h'] at h0 h1; rw [h0] at h1; cases h1
        · simp [Array.getElem?_eq_none h'] at h1
      have h2 := wpOp_putIf hoj (hfree j oj hoj hji hjun hnot) (fun cs b => hsel i oi cs b hi) (fun cs b => hsel j oj cs b hoj) hQ hy h1
      have hfree' : ∀ k ok, ops[k]? = some ok → k ≠ i → (listed.setIfInBounds j true).getD k true = false →
          (∀ e ∈ ok.after, Region.binds .any e = true → e.on ≠ i) → oi.apart ops ok = true := fun k ok hk hki hun hno => by
        refine hfree k ok hk hki ?_ hno
        by_cases hjk : j = k
        · subst hjk; exact hjun
        · rw [getD_set_ne true hjk] at hun; exact hun
      refine wpOp_mono (fun a' w' h3 => ⟨h3.2.1, ih (listed.setIfInBounds j true) a' w' hfree' (ready_mono hr (Ne.symm hji)) h3.1 h3.2.1 ?_⟩) h2
      rw [Array.setIfInBounds_comm _ _ hji]
      exact h3.2.2

/-- The order serves: all but number m, which comes last. -/
def ordTB (ops : Array Oper) (m : Nat) : List (Nat × Bool) → Array Bool → Bool
  | [], listed => (Region.ready .any ops listed == [m]) && (Region.ready .any ops (listed.setIfInBounds m true)).isEmpty
  | (k, true) :: r, listed => (k != m) && (Region.ready .any ops listed == [k]) && ordTB ops m r (listed.setIfInBounds k true)
  | (k, false) :: r, listed => (k != m) && waitsB ops m k && (Region.ready .any ops listed).contains k && Region.free .any ops listed k && ordTB ops m r (listed.setIfInBounds k true)

theorem wpAnyT_of_ord (hs : Region.noSelect ops = true) (hQ : PanicOK Q) : ∀ (ord : List (Nat × Bool)) (listed : Array Bool) (a : Act) (w : World),
    ordTB ops m ord listed = true → wpOrd P ops (fun e a w => match e with | .normal => L a w | e => Q e a w) S ord a w → wpAnyT P ops Q S m L ord.length listed a w
  | [], _, _, _, hB, h => by
    simp only [ordTB, Bool.and_eq_true, beq_iff_eq, List.isEmpty_iff] at hB
    exact ⟨hB.1, hB.2, h⟩
  | (k, true) :: r, listed, a, w, hB, h => by
    simp only [ordTB, Bool.and_eq_true, beq_iff_eq, bne_iff_ne] at hB
    refine ⟨fun h0 => (by rw [hB.1.2] at h0; cases h0), fun i hi => ?_⟩
    rw [hB.1.2] at hi
    have hik : i = k := by simpa using hi
    subst hik
    refine ⟨hB.1.1, ?_⟩
    have h2 := wpOp_mono (K' := fun a' w' => S w' ∧ wpAnyT P ops Q S m L r.length (listed.setIfInBounds i true) a' w') (fun a' w' h' => ⟨h'.1, wpAnyT_of_ord hs hQ r _ a' w' hB.2 h'.2⟩) h
    unfold wpOp at h2 ⊢
    split
    · rename_i ho; rw [ho] at h2; exact h2
    · rename_i o ho
      rw [ho] at h2
      simp only at h2
      split
      · rename_i hw
        rw [if_pos hw] at h2
        rcases h2 with h2 | ⟨h3, a0, w0, h4⟩
        · left
          unfold Oper.wp at h2 ⊢
          generalize (execOp a.eval o).run P w = res at *
          cases res with
          | ok n w' =>
            cases n <;> simp only [Oper.upon] at h2 ⊢ <;> first
              | exact h2
              | exact Calls.mono h2 (fun e w'' he => by
                  cases e with
                  | outgrown => obtain ⟨a0, w0, h4⟩ := he; exact ⟨a0, w0, h4⟩
                  | _ => exact he)
          | halt x w' => cases x <;> simp only [Oper.upon] at h2 ⊢ <;> exact h2
        · exact .inr ⟨h3, a0, w0, h4⟩
      · rename_i hw
        rw [if_neg hw] at h2
        exact h2
  | (k, false) :: r, listed, a, w, hB, h => by
    simp only [ordTB, Bool.and_eq_true, bne_iff_ne] at hB
    obtain ⟨hS, o, v, ho, hy, hr⟩ := h
    exact wpAnyT_first ho (Region.noSelect_spec hs) (fun c a w h => hQ c a w o.dst v h) hB.1.1.1.1 hB.1.1.1.2 r.length listed a w (Region.free_spec ho hB.1.2) (by simpa using hB.1.1.2) hy hS (wpAnyT_of_ord hs hQ r _ _ _ hB.2 hr)

theorem wp_region_ordT {id : Nat} {a : Act} {w : World} {l : List Oper} (S : World → Prop) (m : Nat) (ord : List (Nat × Bool)) (hm : P.follows .mixedOrders = true) (hs : Region.noSelect l.toArray = true) (hQ : PanicOK Q)
    (hB : ordTB l.toArray m ord (Array.replicate l.toArray.size false) = true) (hl : ord.length + 1 = l.toArray.size)
    (h : wpOrd P l.toArray (fun e a w => match e with | .normal => wpOp P l.toArray Q m (fun a' w' => Q .normal a' w') a w | e => Q e a w) S ord a w.drew) : (Code.region id l.toArray true).wp P Q a w :=
  wp_region_any hm (by
    have h1 := wpAnyT_of_ord (L := fun a w => wpOp P l.toArray Q m (fun a' w' => Q .normal a' w') a w) hs hQ ord _ a _ hB h
    have := wpAny_of_T (fun a w h => h) _ _ _ _ h1
    rw [hl] at this
    exact this)

theorem last_run {k : Nat} {l : List Value} {ds : List Deferred} {w w' : World} {o : Oper} (ho : ops[k]? = some o) (hd : o.dst = none) (hw : Region.wanted o (yielded ops l.toArray) = true) (he : (execOp (Act.eval ⟨l.toArray, ds⟩) o).run P w = .ok .skip w')
    (h : Q .normal ⟨l.toArray, ds⟩ w') : wpOp P ops Q k (fun a' w' => Q .normal a' w') ⟨l.toArray, ds⟩ w := by
  unfold wpOp
  simp only [ho, hw, if_true]
  left
  unfold Oper.wp
  rw [he]
  simp only [Oper.upon, hd, Act.put]
  exact h
theorem ord_effv {k n : Nat} {r : List (Nat × Bool)} {l : List Value} {ds : List Deferred} {w w' : World} {o : Oper} (v : Value) (ho : ops[k]? = some o) (hd : o.dst = some n) (hw : Region.wanted o (yielded ops l.toArray) = true) (he : (execOp (Act.eval ⟨l.toArray, ds⟩) o).run P w = .ok (.value v) w')
    (hS : S w') (h : wpOrd P ops Q S r ⟨(l.set n v).toArray, ds⟩ w') : wpOrd P ops Q S ((k, true) :: r) ⟨l.toArray, ds⟩ w := by
  refine ord_eff ho hw ?_
  unfold Oper.wp
  rw [he]
  simp only [Oper.upon, hd, put_lit]
  exact ⟨hS, h⟩
end

/-! ### Values of many cells -/
/-- The cells 'cs' lie at offset 'o' of block 'b'. -/
def HasA (w : World) (b o : Nat) (cs : Array Value) : Prop := ∀ j, j < cs.size → w.cell? ⟨b, o + j, none⟩ = cs[j]?

theorem HasA.drew {w : World} {b o : Nat} {cs : Array Value} (h : HasA w b o cs) : HasA w.drew b o cs := h
theorem HasA.drewN {w : World} {b o n : Nat} {cs : Array Value} (h : HasA w b o cs) : HasA (w.drewN n) b o cs := h
theorem HasA.below {w w' : World} {B b o : Nat} {cs : Array Value} (h : HasA w b o cs) (hb : Below B w w') (hlt : b < B) : HasA w' b o cs :=
  fun j hj => (hb.cell (p := ⟨b, o + j, none⟩) hlt).trans (h j hj)
theorem HasA.of_block {w : World} {b : Nat} {cs : Array Value} {t : TypeId} {fr : Nat × Nat} (h : w.heap[b]? = some (.cells cs t fr)) : HasA w b 0 cs := by
  intro j _
  rw [Nat.zero_add]
  exact cell_of_row w b j cs t fr h

theorem run_loadVar_at {P : Program} (w : World) (ty : TypeId) (b o : Nat) (cs : Array Value) (hagg : (isAgg ty).run P w = .ok true w) (hsz : (sizeOf ty).run P w = .ok cs.size w) (h : HasA w b o cs) :
    (loadVar ty ⟨b, o, none⟩).run P w = .ok (.agg cs) w := by
  have hl : (loadCells ⟨b, o, none⟩ cs.toList.length).run P w = .ok cs.toList.toArray w :=
    run_loadCells_list (P := P) w ⟨b, o, none⟩ cs.toList (fun j v hv => by
      have hj : j < cs.size := by
        have := (List.getElem?_eq_some_iff.1 hv).1
        simpa using this
      rw [Addr.add_lit, h j hj]
      simpa using hv)
  simp only [Array.length_toList, Array.toArray_toList] at hl
  simp [loadVar, Sem.run_bind, hagg, hsz, hl]

theorem exec_load_at {P : Program} {ρ : Operand → Value} (w : World) {o : Oper} (ty : TypeId) (x : Operand) (ho : o.op = .load ty x) (b off : Nat) (hx : ρ x = .pointer (some ⟨b, off, none⟩)) (cs : Array Value)
    (hagg : (isAgg ty).run P w = .ok true w) (hsz : (sizeOf ty).run P w = .ok cs.size w) (h : HasA w b off cs) : (execOp ρ o).run P w = .ok (.value (.agg cs)) w := by
  unfold execOp
  simp only [ho, hx, Instr.loadAt, Instr.sureAddr, Sem.run_bind, Sem.run_pure, Result.andThen_ok, run_loadVar_at w ty b off cs hagg hsz h]

theorem wpList_ld {P : Program} {ops : Array Oper} {Q : Exit → Act → World → Prop} {rest : List Oper} {a : Act} {w : World} {o : Oper} (hgd : o.guard = none) (ty : TypeId) (x : Operand) (ho : o.op = .load ty x) (b off : Nat)
    (hx : a.eval x = .pointer (some ⟨b, off, none⟩)) (cs : Array Value) (hagg : (isAgg ty).run P w = .ok true w) (hsz : (sizeOf ty).run P w = .ok cs.size w) (h : HasA w b off cs)
    (hk : wpList P ops Q rest (a.put o.dst (.agg cs)) w) : wpList P ops Q (o :: rest) a w :=
  wpList_plain hgd fun _ hK => by
    unfold Oper.wp
    rw [exec_load_at w ty x ho b off hx cs hagg hsz h]
    exact hK _ _ hk

theorem wpList_val {P : Program} {ops : Array Oper} {Q : Exit → Act → World → Prop} {rest : List Oper} {a : Act} {w : World} {o : Oper} (hgd : o.guard = none) (v : Value) (hv : (execOp a.eval o).run P w = .ok (.value v) w)
    (hk : wpList P ops Q rest (a.put o.dst v) w) : wpList P ops Q (o :: rest) a w :=
  wpList_plain hgd fun _ hK => by
    unfold Oper.wp
    rw [hv]
    exact hK _ _ hk

/-- The cells of a row of bytes. -/
def keyA (l : List Int) : Array Value := (l.map (Value.int .u8)).toArray
theorem keyA_size (l : List Int) : (keyA l).size = l.length := by simp [keyA]
theorem exec_idx {P : Program} {ρ : Operand → Value} (w : World) {o : Oper} (t e : TypeId) (sz : Nat) (x ix : Operand) (ho : o.op = .indexAddr t x ix) (b off len cap i : Nat)
    (ht : P.underlying t = some (.slice e)) (hz : (sizeOf e).run P w = .ok sz w) (hx : ρ x = .slice (some ⟨b, off, none⟩) len cap) (hi : ρ ix = .int .i64 (i : Int)) (hlt : i < len) :
    (execOp ρ o).run P w = .ok (.value (.pointer (some ⟨b, off + i * sz, none⟩))) w := by
  unfold execOp
  have h1 : (0 : Int) ≤ (i : Int) ∧ (i : Int) < (len : Int) := by omega
  simp only [ho, hx, hi, Instr.indexAt, asIntOf, Sem.run_bind, Sem.run_pure, Result.andThen_ok, run_underlying ht, h1, hz, if_true, and_self, Int.toNat_natCast, Addr.add_lit]
theorem exec_bin {P : Program} {ρ : Operand → Value} (w : World) {o : Oper} (op : BinOp) (t ty : TypeId) (x y : Operand) (ho : o.op = .binOp op t x y ty) (k : IntKind) (i : Int) (v2 v : Value) (hx : ρ x = .int k i) (hy : ρ y = v2)
    (hv : (binOp op t (.int k i) v2).run P w = .ok v w) : (execOp ρ o).run P w = .ok (.value v) w := by
  unfold execOp
  simp only [ho, hx, hy, Sem.run_bind, eqGuard_at_int, Sem.run_pure, Result.andThen_ok, hv]
theorem run_gtr {P : Program} (w : World) (t : TypeId) (k : IntKind) (i j : Int) : (binOp .gtr t (.int k i) (.int k j)).run P w = .ok (.bool (decide (j < i))) w := by
  simp [binOp, Op.intCmp]
theorem run_eqi {P : Program} (w : World) (t : TypeId) (k : IntKind) (i j : Int) : (binOp .eql t (.int k i) (.int k j)).run P w = .ok (.bool (i == j)) w := by
  simp [binOp, Op.intCmp]
theorem wrap_ok (i : Int) (h1 : -9223372036854775808 ≤ i) (h2 : i < 9223372036854775808) : IntKind.i64.wrap i = i := by rw [IntKind.wrap_i64]; omega
theorem run_subi {P : Program} (w : World) (t : TypeId) (i j : Int) (h1 : -9223372036854775808 ≤ i - j) (h2 : i - j < 9223372036854775808) : (binOp .sub t (.int .i64 i) (.int .i64 j)).run P w = .ok (.int .i64 (i - j)) w := by
  simp [binOp, Op.intArith, wrap_ok _ h1 h2]
theorem run_addi {P : Program} (w : World) (t : TypeId) (i j : Int) (h1 : -9223372036854775808 ≤ i + j) (h2 : i + j < 9223372036854775808) : (binOp .add t (.int .i64 i) (.int .i64 j)).run P w = .ok (.int .i64 (i + j)) w := by
  simp [binOp, Op.intArith, wrap_ok _ h1 h2]
theorem exec_call {P : Program} {ρ : Operand → Value} (w : World) {o : Oper} (f : FuncId) (args : List Operand) (ats : Array TypeId) (ho : o.op = .call { callee := .value (.func f), args := args.toArray, argTypes := ats }) (hρ : ρ (.func f) = .func (.func f) #[] #[])
    (vs : List Value) (hv : args.map ρ = vs) (hc : ∀ (us : Array Value) w, (callFunc f us).run P w = .ok (.enter f us) w) : (execOp ρ o).run P w = .ok (.enter f vs.toArray) w := by
  unfold execOp
  simp only [ho, resolve, hρ, Deferred.ofValue, Sem.run_bind, Sem.run_pure, Result.andThen_ok, invoke, List.map_toArray, hv, hc, Array.empty_append, Array.append_empty]
theorem exec_not {P : Program} {ρ : Operand → Value} (w : World) {o : Oper} (t : TypeId) (x : Operand) (ho : o.op = .unOp .not t x) (b : Bool) (hx : ρ x = .bool b) : (execOp ρ o).run P w = .ok (.value (.bool (!b))) w := by
  unfold execOp
  simp only [ho, hx, Op.unary, Sem.run_bind, Sem.run_pure, Result.andThen_ok]
theorem exec_pick {P : Program} {ρ : Operand → Value} (w : World) {o : Oper} (c x y : Operand) (ho : o.op = .pick c x y) (b : Bool) (hc : ρ c = .bool b) (v : Value) (hv : (if b then ρ x else ρ y) = v) : (execOp ρ o).run P w = .ok (.value v) w := by
  unfold execOp
  simp only [ho, hc, asBool, Sem.run_bind, Sem.run_pure, Result.andThen_ok, hv]
theorem below_dN {B : Nat} {a w : World} (h : Below B a w) (n : Nat) : Below B a (w.drewN n) := ⟨h.os, h.tape, h.output, h.size, h.block⟩
theorem vint {k : IntKind} {a b : Int} (h : a = b) : Value.int k a = .int k b := by rw [h]
theorem ret_int {k : IntKind} {a b : Int} (h : a = b) : Ending.returned (.int k a) = .returned (.int k b) := by rw [h]
def splice (cells : Array Value) (off : Nat) (vs : Array Value) : Array Value := (cells.toList.take off ++ vs.toList ++ cells.toList.drop (off + vs.size)).toArray
theorem foldl_set (off : Nat) : ∀ (vs : List Value) (k : Nat) (cells : Array Value) (i : Nat),
    ((vs.zipIdx k).foldl (fun (cs : Array Value) (p : Value × Nat) => cs.setIfInBounds (off + p.2) p.1) cells)[i]? = if off + k ≤ i ∧ i < off + k + vs.length ∧ i < cells.size then vs[i - (off + k)]? else cells[i]?
  | [], k, cells, i => by simp; omega
  | v :: vs, k, cells, i => by
    rw [List.zipIdx_cons, List.foldl_cons, foldl_set off vs (k + 1)]
    simp only [Array.size_setIfInBounds, Array.getElem?_setIfInBounds, List.length_cons]
    by_cases h1 : i = off + k
    · subst h1
      by_cases h2 : off + k < cells.size
      · simp [h2]; omega
      · simp [h2]
    · by_cases h3 : off + (k + 1) ≤ i ∧ i < off + (k + 1) + vs.length ∧ i < cells.size
      · rw [if_pos h3, if_pos (by omega), show i - (off + k) = (i - (off + (k + 1))) + 1 by omega, List.getElem?_cons_succ]
      · rw [if_neg h3, if_neg (by omega), if_neg (by omega)]
theorem exec_build {P : Program} {ρ : Operand → Value} (w : World) {o : Oper} (t : TypeId) (parts : List (Nat × Operand)) (ho : o.op = .build t parts.toArray) (vs : List (Nat × Value)) (hv : parts.map (fun p => (p.1, ρ p.2)) = vs) (v : Value)
    (hr : (Instr.build t vs.toArray).run P w = .ok v w) : (execOp ρ o).run P w = .ok (.value v) w := by
  unfold execOp
  simp only [ho, List.map_toArray, hv, Sem.run_bind, hr, Result.andThen_ok, Sem.run_pure]
theorem exec_bslice {P : Program} {ρ : Operand → Value} (w w' : World) {o : Oper} (t : TypeId) (n : Nat) (parts : List (Nat × Operand)) (ho : o.op = .buildSlice t n parts.toArray) (vs : List (Nat × Value)) (hv : parts.map (fun p => (p.1, ρ p.2)) = vs) (v : Value)
    (hr : (Instr.buildSlice t n vs.toArray).run P w = .ok v w') : (execOp ρ o).run P w = .ok (.value v) w' := by
  unfold execOp
  simp only [ho, List.map_toArray, hv, Sem.run_bind, hr, Result.andThen_ok, Sem.run_pure]
theorem exec_store1 {P : Program} {ρ : Operand → Value} (w : World) {o : Oper} (t : TypeId) (x y : Operand) (ho : o.op = .store t x y) (ad : Addr) (v u : Value) (hx : ρ x = .pointer (some ad)) (hy : ρ y = v) (hz : (sizeOf t).run P w = .ok 1 w) (hc1 : v.cells = #[v]) (h1 : v.oneCell' = true)
    (hc : w.cell? ad = some u) (hf : w.frozen? ad = false) : (execOp ρ o).run P w = .ok .skip (w.setCell ad v) := by
  have hst : (store ad v).run P w = .ok () (w.setCell ad v) := by
    cases v <;> simp_all [store, Sem.run, Value.oneCell']
  unfold execOp
  simp only [ho, hx, hy, Instr.storeAt, Instr.sureAddr, storeVar, hc1, Sem.run_bind, Sem.run_pure, Result.andThen_ok, hz]
  simp [storeCells, hst, Addr.add]
theorem exec_append {P : Program} {ρ : Operand → Value} (w w' : World) {o : Oper} (t : TypeId) (x y : Operand) (ho : o.op = .call { callee := .builtin .append, args := #[x, y], argTypes := #[t, t] }) (vx vy : Value) (hx : ρ x = vx) (hy : ρ y = vy) (v : Value)
    (hr : (Builtin.append_ #[t, t] o.type #[vx, vy]).run P w = .ok v w') : (execOp ρ o).run P w = .ok (.value v) w' := by
  unfold execOp
  simp only [ho, resolve, invoke, builtin, Sem.run_bind, Sem.run_pure, Result.andThen_ok, List.map_toArray, List.map_cons, List.map_nil, hx, hy, hr]
theorem exec_load1 {P : Program} {ρ : Operand → Value} (w : World) {o : Oper} (t : TypeId) (x : Operand) (ho : o.op = .load t x) (ad : Addr) (v : Value) (hx : ρ x = .pointer (some ad)) (ha : (isAgg t).run P w = .ok false w) (hc : w.cell? ad = some v) :
    (execOp ρ o).run P w = .ok (.value v) w := by
  unfold execOp
  simp [ho, hx, Instr.loadAt, Instr.sureAddr, loadVar, ha, hc]
theorem exec_nilck {P : Program} {ρ : Operand → Value} (w : World) {o : Oper} (x : Operand) (ho : o.op = .nilCheck x) (ad : Addr) (hx : ρ x = .pointer (some ad)) : (execOp ρ o).run P w = .ok (.value (.pointer (some ad))) w := by
  unfold execOp
  simp [ho, hx]
theorem exec_field {ρ : Operand → Value} (w : World) {o : Oper} (t : TypeId) (x : Operand) (f : Nat) (ho : o.op = .fieldAddr t x f) (ad : Addr) (hx : ρ x = .pointer (some ad)) (v : Value) (hr : (Instr.fieldAt t (.pointer (some ad)) f).run Try.prog w = .ok v w) : (execOp ρ o).run Try.prog w = .ok (.value v) w := by
  unfold execOp
  simp [ho, hx, hr]
/-- A mark at which the walk stands still. -/
structure Stopped (p : Prop) : Prop where
  out : p
theorem go_on {p : Prop} (h : p) : Stopped p := ⟨h⟩

section
variable {P : Program} {ops : Array Oper} {Q : Exit → Act → World → Prop} {rest : List Oper} {a : Act} {w w' : World} {dst : Option Tmp} {ty : TypeId} {pos : String} {after : Array Edge} {l : List Value} {ds : List Deferred} {op : Op}
theorem stop_load (t : TypeId) {x : Operand} (h : Stopped (wpList P ops Q (⟨dst, .load t x, ty, pos, after, none⟩ :: rest) a w)) : wpList P ops Q (⟨dst, .load t x, ty, pos, after, none⟩ :: rest) a w := h.out
theorem stop_alloc (t : TypeId) (h : Stopped (wpList P ops Q (⟨dst, .alloc t, ty, pos, after, none⟩ :: rest) a w)) : wpList P ops Q (⟨dst, .alloc t, ty, pos, after, none⟩ :: rest) a w := h.out
theorem stop_idx (t : TypeId) {x y : Operand} (h : Stopped (wpList P ops Q (⟨dst, .indexAddr t x y, ty, pos, after, none⟩ :: rest) a w)) : wpList P ops Q (⟨dst, .indexAddr t x y, ty, pos, after, none⟩ :: rest) a w := h.out
theorem stop_field (t : TypeId) {x : Operand} {n : Nat} (h : Stopped (wpList P ops Q (⟨dst, .fieldAddr t x n, ty, pos, after, none⟩ :: rest) a w)) : wpList P ops Q (⟨dst, .fieldAddr t x n, ty, pos, after, none⟩ :: rest) a w := h.out
theorem stop_make (t : TypeId) {x y : Operand} (h : Stopped (wpList P ops Q (⟨dst, .makeSlice t x y, ty, pos, after, none⟩ :: rest) a w)) : wpList P ops Q (⟨dst, .makeSlice t x y, ty, pos, after, none⟩ :: rest) a w := h.out
theorem lst_val {n : Nat} (v : Value) (hv : (execOp (Act.eval ⟨l.toArray, ds⟩) ⟨some n, op, ty, pos, after, none⟩).run P w = .ok (.value v) w') (hk : wpList P ops Q rest ⟨(l.set n v).toArray, ds⟩ w') :
    wpList P ops Q (⟨some n, op, ty, pos, after, none⟩ :: rest) ⟨l.toArray, ds⟩ w :=
  wpList_plain rfl fun _ hK => by
    unfold Oper.wp
    rw [hv]
    refine hK _ _ ?_
    rw [put_lit]
    exact hk
theorem lst_sk (hv : (execOp (Act.eval ⟨l.toArray, ds⟩) ⟨none, op, ty, pos, after, none⟩).run P w = .ok .skip w') (hk : wpList P ops Q rest ⟨l.toArray, ds⟩ w') :
    wpList P ops Q (⟨none, op, ty, pos, after, none⟩ :: rest) ⟨l.toArray, ds⟩ w :=
  wpList_plain rfl fun _ hK => by
    unfold Oper.wp
    rw [hv]
    exact hK _ _ hk
end

theorem exec_alloc {P : Program} {ρ : Operand → Value} (w : World) {o : Oper} (t : TypeId) (ho : o.op = .alloc t) (z : Array Value) (hz : (zeroValue t).run P w = .ok (.agg z) w) :
    (execOp ρ o).run P w = .ok (.value (.pointer (some ⟨w.heap.size, 0, none⟩))) (w.alloc (.cells z t)) := by
  unfold execOp
  simp [ho, Instr.alloc, hz, newVar, newRow, Value.cells]

theorem exec_storeA {P : Program} {ρ : Operand → Value} (w : World) {o : Oper} (t : TypeId) (x y : Operand) (ho : o.op = .store t x y) (b off : Nat) (cs : Array Value) (hx : ρ x = .pointer (some ⟨b, off, none⟩)) (hy : ρ y = .agg cs) (hz : (sizeOf t).run P w = .ok cs.size w)
    (cur : Array Value) (e : TypeId) (hg : w.heap[b]? = some (.cells cur e (0, 0))) (hf : off + cs.size ≤ cur.size) (h1 : ∀ u ∈ cs.toList, u.oneCell' = true) : (execOp ρ o).run P w = .ok .skip (w.setRow b (splice cur off cs)) := by
  have hst := run_storeCells_at P b off e cs.toList 0 cur w hg (by simpa using hf) h1
  simp only [Nat.add_zero, Array.length_toList] at hst
  unfold execOp
  simp [ho, hx, hy, Instr.storeAt, Instr.sureAddr, storeVar, Value.cells, hz, hst, splice]

theorem splice_all (cur cs : Array Value) (h : cur.size = cs.size) : splice cur 0 cs = cs := by
  unfold splice
  rw [List.drop_of_length_le (by simp [h])]
  simp
theorem below_setRow' {B : Nat} {a w : World} (h : Below B a w) {g : Nat} (hg : B ≤ g) (cs : Array Value) : Below B a (w.setRow g cs) :=
  h.trans ⟨rfl, rfl, rfl, by simp, fun k hk => setRow_other w g k cs (by omega)⟩
theorem splice_size (cur cs : Array Value) (off : Nat) (hf : off + cs.size ≤ cur.size) : (splice cur off cs).size = cur.size := by
  simp [splice]; omega
theorem exec_make {P : Program} {ρ : Operand → Value} (w w' : World) {o : Oper} (t : TypeId) (x y : Operand) (ho : o.op = .makeSlice t x y) (vx vy v : Value) (hx : ρ x = vx) (hy : ρ y = vy) (hr : (Instr.makeSlice t vx vy).run P w = .ok v w') : (execOp ρ o).run P w = .ok (.value v) w' := by
  unfold execOp
  simp [ho, hx, hy, hr]
theorem exec_slice {P : Program} {ρ : Operand → Value} (w : World) {o : Oper} (t : TypeId) (x : Operand) (lo hi mx : Option Operand) (ho : o.op = .slice t x lo hi mx) (v u : Value) (hx : ρ x = v) (vlo vhi : Option Value) (hlo : lo.map ρ = vlo) (hhi : hi.map ρ = vhi) (hmx : mx = none)
    (hr : (Instr.sliceAt t v vlo vhi none).run P w = .ok u w) : (execOp ρ o).run P w = .ok (.value u) w := by
  subst hmx
  unfold execOp
  simp [ho, hx, hlo, hhi, hr]
theorem exec_len {P : Program} {ρ : Operand → Value} (w : World) {o : Oper} (t e : TypeId) (x : Operand) (ho : o.op = .call { callee := .builtin .len, args := #[x], argTypes := #[t] }) (ht : P.underlying t = some (.slice e)) (ao : Option Addr) (n cap : Nat) (hx : ρ x = .slice ao n cap) :
    (execOp ρ o).run P w = .ok (.value (.int .i64 (n : Int))) w := by
  have he : P.elem t = e := by simp [Program.elem, ht]
  unfold execOp
  simp only [ho, resolve, invoke, builtin, Sem.run_bind, Sem.run_pure, Result.andThen_ok, List.map_toArray, List.map_cons, List.map_nil, hx, run_len_slice (P := P) _ _ _ _ _ _ (by rw [he]; exact ht)]
  rfl
theorem run_lti {P : Program} (w : World) (t : TypeId) (k : IntKind) (i j : Int) : (binOp .lss t (.int k i) (.int k j)).run P w = .ok (.bool (decide (i < j))) w := by
  simp [binOp, Op.intCmp]
theorem run_gei {P : Program} (w : World) (t : TypeId) (k : IntKind) (i j : Int) : (binOp .geq t (.int k i) (.int k j)).run P w = .ok (.bool (decide (j ≤ i))) w := by
  simp [binOp, Op.intCmp]
end Go.Proofs.Qxb6612879a
