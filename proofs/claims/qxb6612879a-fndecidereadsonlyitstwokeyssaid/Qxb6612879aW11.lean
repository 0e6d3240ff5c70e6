/-
  A region that draws its order, with one effect (number z: the variable's block is made) that may come at any time, and a last store (number m).
-/
import Derived.Test.Qxb6612879aW10
namespace Go.Proofs.Qxb6612879a
open Go.RowKit

section
variable {P : Program} {ops : Array Oper} {Q : Exit → Act → World → Prop} {S : World → Prop} {m : Nat} {L : Act → World → Prop}

theorem wpOp_of_match {i : Nat} {a : Act} {w : World} {K K' : Act → World → Prop} (hK : ∀ a w, K a w → K' a w) (h : wpOp P ops (fun e a w => match e with | .normal => L a w | e => Q e a w) i K a w) : wpOp P ops Q i K' a w := by
  have h2 := wpOp_mono (K' := K') hK h
  unfold wpOp at h2 ⊢
  split
  · rename_i ho; rw [ho] at h2; exact h2
  · rename_i o ho
    rw [ho] at h2
    simp only at h2
    split
    · rename_i hw
      rw [if_pos hw] at h2
      rcases h2 with h2 | ⟨h3, a0, w0, h4⟩
      · left
        unfold Oper.wp at h2 ⊢
        generalize (execOp a.eval o).run P w = res at *
        cases res with
        | ok n w' =>
          cases n <;> simp only [Oper.upon] at h2 ⊢ <;> first
            | exact h2
            | exact Calls.mono h2 (fun e w'' he => by
                cases e with
                | outgrown => obtain ⟨a0, w0, h4⟩ := he; exact ⟨a0, w0, h4⟩
                | _ => exact he)
        | halt x w' => cases x <;> simp only [Oper.upon] at h2 ⊢ <;> exact h2
      · exact .inr ⟨h3, a0, w0, h4⟩
    · rename_i hw
      rw [if_neg hw] at h2
      exact h2

/-- The order serves, with number z anywhere among the effects. -/
def ordZB (ops : Array Oper) (m z : Nat) : List (Nat × Bool) → Array Bool → Bool
  | [], listed => (z != m) && (Region.ready .any ops listed == [z]) && ordTB ops m [] (listed.setIfInBounds z true)
  | (k, true) :: r, listed => (k != m) && (z != m) && !(Region.ready .any ops listed).isEmpty && (Region.ready .any ops listed).all (fun j => j == k || j == z) && ordZB ops m z r (listed.setIfInBounds k true) && ordTB ops m ((k, true) :: r) (listed.setIfInBounds z true)
  | (k, false) :: r, listed => (k != m) && waitsB ops m k && (Region.ready .any ops listed).contains k && Region.free .any ops listed k && ordZB ops m z r (listed.setIfInBounds k true)

def wpOrdZ (P : Program) (ops : Array Oper) (Q : Exit → Act → World → Prop) (S : World → Prop) (z : Nat) : List (Nat × Bool) → Act → World → Prop
  | [], a, w => wpOp P ops Q z (fun a' w' => S w' ∧ wpOrd P ops Q S [] a' w') a w
  | (k, true) :: r, a, w => wpOp P ops Q k (fun a' w' => S w' ∧ wpOrdZ P ops Q S z r a' w') a w ∧ wpOp P ops Q z (fun a' w' => S w' ∧ wpOrd P ops Q S ((k, true) :: r) a' w') a w
  | (k, false) :: r, a, w => S w ∧ ∃ o v, ops[k]? = some o ∧ YieldsIf P ops S o v a ∧ wpOrdZ P ops Q S z r (a.put o.dst v) w

theorem wpAnyT_of_ordZ {z : Nat} (hs : Region.noSelect ops = true) (hQ : PanicOK Q) : ∀ (ord : List (Nat × Bool)) (listed : Array Bool) (a : Act) (w : World),
    ordZB ops m z ord listed = true → wpOrdZ P ops (fun e a w => match e with | .normal => L a w | e => Q e a w) S z ord a w → wpAnyT P ops Q S m L (ord.length + 1) listed a w
  | [], listed, a, w, hB, h => by
    simp only [ordZB, Bool.and_eq_true, beq_iff_eq, bne_iff_ne] at hB
    refine ⟨fun h0 => (by rw [hB.1.2] at h0; cases h0), fun i hi => ?_⟩
    rw [hB.1.2] at hi
    have hik : i = z := by simpa using hi
    subst hik
    exact ⟨hB.1.1, wpOp_of_match (fun a' w' h' => ⟨h'.1, wpAnyT_of_ord hs hQ [] _ a' w' hB.2 h'.2⟩) h⟩
  | (k, true) :: r, listed, a, w, hB, h => by
    simp only [ordZB, Bool.and_eq_true, bne_iff_ne, Bool.not_eq_true', List.all_eq_true, Bool.or_eq_true, beq_iff_eq] at hB
    obtain ⟨⟨⟨⟨⟨hkm, hzm⟩, hne⟩, hall⟩, hB1⟩, hB2⟩ := hB
    refine ⟨fun h0 => (by rw [h0] at hne; simp at hne), fun i hi => ?_⟩
    rcases hall i hi with rfl | rfl
    · exact ⟨hkm, wpOp_of_match (fun a' w' h' => ⟨h'.1, wpAnyT_of_ordZ hs hQ r _ a' w' hB1 h'.2⟩) h.1⟩
    · exact ⟨hzm, wpOp_of_match (fun a' w' h' => ⟨h'.1, wpAnyT_of_ord hs hQ ((k, true) :: r) _ a' w' hB2 h'.2⟩) h.2⟩
  | (k, false) :: r, listed, a, w, hB, h => by
    simp only [ordZB, Bool.and_eq_true, bne_iff_ne] at hB
    obtain ⟨hS, o, v, ho, hy, hr⟩ := h
    exact wpAnyT_first ho (Region.noSelect_spec hs) (fun c a w h => hQ c a w o.dst v h) hB.1.1.1.1 hB.1.1.1.2 (r.length + 1) listed a w (Region.free_spec ho hB.1.2) (by simpa using hB.1.1.2) hy hS (wpAnyT_of_ordZ hs hQ r _ _ _ hB.2 hr)

theorem wp_region_ordZ {id : Nat} {a : Act} {w : World} {l : List Oper} (S : World → Prop) (m z : Nat) (ord : List (Nat × Bool)) (hm : P.follows .mixedOrders = true) (hs : Region.noSelect l.toArray = true) (hQ : PanicOK Q)
    (hB : ordZB l.toArray m z ord (Array.replicate l.toArray.size false) = true) (hl : ord.length + 2 = l.toArray.size)
    (h : wpOrdZ P l.toArray (fun e a w => match e with | .normal => wpOp P l.toArray Q m (fun a' w' => Q .normal a' w') a w | e => Q e a w) S z ord a w.drew) : (Code.region id l.toArray true).wp P Q a w :=
  wp_region_any hm (by
    have h1 := wpAnyT_of_ordZ (L := fun a w => wpOp P l.toArray Q m (fun a' w' => Q .normal a' w') a w) hs hQ ord _ a _ hB h
    have := wpAny_of_T (fun a w h => h) _ _ _ _ h1
    rw [show ord.length + 1 + 1 = ord.length + 2 from rfl, hl] at this
    exact this)

variable {z k : Nat} {r : List (Nat × Bool)} {w : World}
theorem ordZ_val {o : Oper} {l : List Value} {ds : List Deferred} (n : Nat) (ho : ops[k]? = some o) (hd : o.dst = some n) (hw : Region.wanted o (yielded ops l.toArray) = true) (hS : S w) (v : Value) (hv : ∀ w, S w → (execOp (Act.eval ⟨l.toArray, ds⟩) o).run P w = .ok (.value v) w)
    (h : wpOrdZ P ops Q S z r ⟨(l.set n v).toArray, ds⟩ w) : wpOrdZ P ops Q S z ((k, false) :: r) ⟨l.toArray, ds⟩ w := ⟨hS, o, v, ho, .inl ⟨hw, hv⟩, by rw [hd, put_lit]; exact h⟩
theorem op_call {o : Oper} {l : List Value} {ds : List Deferred} {K : Act → World → Prop} (n : Nat) (ho : ops[k]? = some o) (hd : o.dst = some n) (hw : Region.wanted o (yielded ops l.toArray) = true) (f : FuncId) (args : Array Value) (he : (execOp (Act.eval ⟨l.toArray, ds⟩) o).run P w = .ok (.enter f args) w)
    {R : Ending → World → Prop} (hc : Calls P f args w R) (h : ∀ e w', R e w' → ∃ v, e = .returned v ∧ S w' ∧ K ⟨(l.set n v).toArray, ds⟩ w') : wpOp P ops Q k (fun a' w' => S w' ∧ K a' w') ⟨l.toArray, ds⟩ w := by
  unfold wpOp
  simp only [ho, hw, if_true]
  refine .inl ?_
  unfold Oper.wp
  rw [he]
  refine hc.mono fun e w' hR => ?_
  obtain ⟨v, rfl, h1, h2⟩ := h e w' hR
  rw [← put_lit, ← hd] at h2
  exact ⟨h1, h2⟩
theorem op_val {n : Nat} {l : List Value} {ds : List Deferred} {w' : World} {o : Oper} {K : Act → World → Prop} (v : Value) (ho : ops[k]? = some o) (hd : o.dst = some n) (hw : Region.wanted o (yielded ops l.toArray) = true) (he : (execOp (Act.eval ⟨l.toArray, ds⟩) o).run P w = .ok (.value v) w')
    (hS : S w') (h : K ⟨(l.set n v).toArray, ds⟩ w') : wpOp P ops Q k (fun a' w' => S w' ∧ K a' w') ⟨l.toArray, ds⟩ w := by
  unfold wpOp
  simp only [ho, hw, if_true]
  refine .inl ?_
  unfold Oper.wp
  rw [he]
  simp only [Oper.upon, hd, put_lit]
  exact ⟨hS, h⟩

/-- One end for all orders. -/
theorem one_end {C : Code} {l : List Value} {ds : List Deferred} (F : List Value → Nat → Nat → List Value) (R : Nat → World → Prop) (hQ : PanicOK Q) (hK : ∀ b mb wn, R b wn → Q .normal ⟨(F l b mb).toArray, ds⟩ wn)
    (h : ∀ Q' : Exit → Act → World → Prop, PanicOK Q' → (∀ b mb wn, R b wn → Q' .normal ⟨(F l b mb).toArray, ds⟩ wn) → C.wp P Q' ⟨l.toArray, ds⟩ w) : C.wp P Q ⟨l.toArray, ds⟩ w := h Q hQ hK
end
theorem St.fresh {w0 w : World} {L : List (Nat × Array Value × TypeId)} (h : St w0 L w) (z : Array Value) (t : TypeId) : St w0 ((w.heap.size, z, t) :: L) (w.alloc (.cells z t)) := by
  have h1 := h.alloc z t
  have hn : (w.alloc (.cells z t)).heap[w.heap.size]? = some (.cells z t (0, 0)) := heap_alloc_new w _
  refine ⟨h1.below, List.Pairwise.cons (fun p hp => (h.vars p hp).2.1) h.ord, fun p hp => ?_⟩
  rcases List.mem_cons.1 hp with rfl | hp
  · exact ⟨h.below.size, (Array.getElem?_eq_some_iff.1 hn).1, hn⟩
  · exact h1.vars p hp
theorem St.tail {w0 w : World} {p : Nat × Array Value × TypeId} {L : List (Nat × Array Value × TypeId)} (h : St w0 (p :: L) w) : St w0 L w := ⟨h.below, (List.pairwise_cons.1 h.ord).2, fun x hx => h.vars x (List.mem_cons_of_mem _ hx)⟩
end Go.Proofs.Qxb6612879a
