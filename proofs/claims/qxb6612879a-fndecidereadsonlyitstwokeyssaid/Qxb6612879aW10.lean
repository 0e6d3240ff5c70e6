/-
  The laws' own variables: which blocks hold what; small steps of the walk.
-/
import Derived.Test.Qxb6612879aW9
namespace Go.Proofs.Qxb6612879a
open Go.RowKit

/-- Behind the start w0: nothing old has turned, and the blocks of L hold what L says, the newest first. -/
structure St (w0 : World) (L : List (Nat × Array Value × TypeId)) (w : World) : Prop where
  below : Below w0.heap.size w0 w
  ord : L.Pairwise fun p q => q.1 < p.1
  vars : ∀ p ∈ L, w0.heap.size ≤ p.1 ∧ p.1 < w.heap.size ∧ w.heap[p.1]? = some (.cells p.2.1 p.2.2 (0, 0))

theorem St.nil {w0 w : World} (h : Below w0.heap.size w0 w) : St w0 [] w := ⟨h, List.Pairwise.nil, fun p hp => by simp at hp⟩
theorem St.step {w0 w w' : World} {L : List (Nat × Array Value × TypeId)} (h : St w0 L w) (hb : Below w.heap.size w w') : St w0 L w' :=
  ⟨h.below.trans (hb.mono h.below.size), h.ord, fun p hp => by
    obtain ⟨h1, h2, h3⟩ := h.vars p hp
    exact ⟨h1, Nat.lt_of_lt_of_le h2 hb.size, (hb.block p.1 h2).trans h3⟩⟩
theorem St.get {w0 w : World} {L : List (Nat × Array Value × TypeId)} (h : St w0 L w) {b : Nat} {cs : Array Value} {t : TypeId} (hm : (b, cs, t) ∈ L) : w.heap[b]? = some (.cells cs t (0, 0)) := (h.vars _ hm).2.2
theorem St.has {w0 w : World} {L : List (Nat × Array Value × TypeId)} (h : St w0 L w) {b : Nat} {cs : Array Value} {t : TypeId} (hm : (b, cs, t) ∈ L) : HasA w b 0 cs := HasA.of_block (h.get hm)
theorem St.alloc {w0 w : World} {L : List (Nat × Array Value × TypeId)} (h : St w0 L w) (z : Array Value) (t : TypeId) : St w0 L (w.alloc (.cells z t)) := h.step ((Below.refl _ _).alloc (Nat.le_refl _) _)
theorem St.new {w0 w : World} {L : List (Nat × Array Value × TypeId)} (h : St w0 L w) (z cs : Array Value) (t : TypeId) : St w0 ((w.heap.size, cs, t) :: L) ((w.alloc (.cells z t)).setRow w.heap.size cs) := by
  have hb : Below w.heap.size w ((w.alloc (.cells z t)).setRow w.heap.size cs) := below_setRow' ((Below.refl _ _).alloc (Nat.le_refl _) _) (Nat.le_refl _) _
  have h1 := h.step hb
  have hn : ((w.alloc (.cells z t)).setRow w.heap.size cs).heap[w.heap.size]? = some (.cells cs t (0, 0)) := setRow_heap _ _ _ _ t _ (heap_alloc_new w _)
  refine ⟨h1.below, List.Pairwise.cons (fun p hp => (h.vars p hp).2.1) h.ord, fun p hp => ?_⟩
  rcases List.mem_cons.1 hp with rfl | hp
  · exact ⟨h.below.size, (Array.getElem?_eq_some_iff.1 hn).1, hn⟩
  · exact h1.vars p hp
theorem St.set {w0 w : World} {L : List (Nat × Array Value × TypeId)} {b : Nat} {cs : Array Value} {t : TypeId} (h : St w0 ((b, cs, t) :: L) w) (cs' : Array Value) : St w0 ((b, cs', t) :: L) (w.setRow b cs') := by
  obtain ⟨h1, h2, h3⟩ := h.vars (b, cs, t) (by simp)
  have hn : (w.setRow b cs').heap[b]? = some (.cells cs' t (0, 0)) := setRow_heap w b cs cs' t _ h3
  have ho := List.pairwise_cons.1 h.ord
  refine ⟨below_setRow' h.below h1 _, List.pairwise_cons.2 ⟨ho.1, ho.2⟩, fun p hp => ?_⟩
  rcases List.mem_cons.1 hp with rfl | hp
  · exact ⟨h1, (Array.getElem?_eq_some_iff.1 hn).1, hn⟩
  · obtain ⟨g1, g2, g3⟩ := h.vars p (List.mem_cons_of_mem _ hp)
    have hlt := ho.1 p hp
    have : (w.setRow b cs').heap[p.1]? = w.heap[p.1]? := setRow_other w b p.1 cs' (by simp at hlt; omega)
    exact ⟨g1, by have := (Array.getElem?_eq_some_iff.1 (this.trans g3)).1; exact this, this.trans g3⟩

theorem St.cell {w0 w : World} {L : List (Nat × Array Value × TypeId)} {b o : Nat} {v : Value} {cs : Array Value} {t : TypeId} (h : St w0 ((b, cs, t) :: L) w) (cs' : Array Value) (hn : (w.setCell ⟨b, o, none⟩ v).heap[b]? = some (.cells cs' t (0, 0))) : St w0 ((b, cs', t) :: L) (w.setCell ⟨b, o, none⟩ v) := by
  obtain ⟨h1, h2, h3⟩ := h.vars (b, cs, t) (by simp)
  have ho := List.pairwise_cons.1 h.ord
  refine ⟨h.below.setCell h1 _, List.pairwise_cons.2 ⟨ho.1, ho.2⟩, fun p hp => ?_⟩
  rcases List.mem_cons.1 hp with rfl | hp
  · exact ⟨h1, (Array.getElem?_eq_some_iff.1 hn).1, hn⟩
  · obtain ⟨g1, g2, g3⟩ := h.vars p (List.mem_cons_of_mem _ hp)
    have hlt := ho.1 p hp
    have : (w.setCell ⟨b, o, none⟩ v).heap[p.1]? = w.heap[p.1]? := heap_setCell_other _ _ _ _ (by simp at hlt ⊢; omega)
    exact ⟨g1, by have := (Array.getElem?_eq_some_iff.1 (this.trans g3)).1; exact this, this.trans g3⟩
theorem St.spot {w0 w : World} {L : List (Nat × Array Value × TypeId)} (h : St w0 L w) {b : Nat} {cs : Array Value} {t : TypeId} (hm : (b, cs, t) ∈ L) (o : Nat) : w.cell? ⟨b, o, none⟩ = cs[o]? := cell_of_row w b o cs t (0, 0) (h.get hm)
theorem St.soft {w0 w : World} {L : List (Nat × Array Value × TypeId)} (h : St w0 L w) {b : Nat} {cs : Array Value} {t : TypeId} (hm : (b, cs, t) ∈ L) (o : Nat) : w.frozen? ⟨b, o, none⟩ = false := frozen_of_row w b o cs t (h.get hm)
theorem St.drew {w0 w : World} {L : List (Nat × Array Value × TypeId)} (h : St w0 L w) : St w0 L w.drew := h.step (Below.refl _ _).drew

theorem qryA_one (e d i p q : Int) : ∀ u ∈ (qryA e d i p q).toList, u.oneCell' = true := fun u hu => by
  simp [qryA] at hu
  rcases hu with rfl | rfl | rfl | rfl | rfl <;> rfl
theorem run_zero29 (w : World) : (zeroValue 29).run Try.prog w = .ok (.agg (qryA 0 0 0 0 0)) w := by kernel_rfl
theorem run_zero30 (w : World) : (zeroValue 30).run Try.prog w = .ok (.agg (keyA [0, 0, 0, 0, 0, 0, 0, 0])) w := by kernel_rfl
theorem run_build29 (w : World) (e d i p q : Int) : (Instr.build 29 #[(0, .int .u16 e), (1, .int .u8 d), (2, .int .u32 i), (3, .int .u8 p), (4, .int .u16 q)]).run Try.prog w = .ok (.agg (qryA e d i p q)) w := by
  simp [Instr.build, qryA, go_sem]
theorem splice_ident (e d i p q : Int) : splice (qryA e d i p q) 2 #[.int .u32 0] = qryA e d 0 p q := rfl
theorem splice_endp (e d i p q o : Int) : splice (qryA e d i p q) 0 #[.int .u16 o] = qryA o d i p q := rfl
theorem keyL_len (d i p q : Int) : (keyL d i p q).length = 8 := rfl

section
variable {P : Program} {ops : Array Oper} {Q : Exit → Act → World → Prop} {S : World → Prop}
theorem ord_effs {k : Nat} {r : List (Nat × Bool)} {l : List Value} {ds : List Deferred} {w w' : World} {o : Oper} (ho : ops[k]? = some o) (hd : o.dst = none) (hw : Region.wanted o (yielded ops l.toArray) = true) (he : (execOp (Act.eval ⟨l.toArray, ds⟩) o).run P w = .ok .skip w')
    (hS : S w') (h : wpOrd P ops Q S r ⟨l.toArray, ds⟩ w') : wpOrd P ops Q S ((k, true) :: r) ⟨l.toArray, ds⟩ w := by
  refine ord_eff ho hw ?_
  unfold Oper.wp
  rw [he]
  simp only [Oper.upon, hd, Act.put]
  exact ⟨hS, h⟩
end

/-! ### Plain: what the two laws ask of decideM -/
theorem decide_zero (m : List Row) (d p q : Int) : decideM m d 0 p q = (getM m (keyL d 0 p q)).getD deny := by
  unfold decideM
  simp
theorem decide_general (T : List Row) (d p q : Int) : decideM (mapT false (keyL d 0 p q) T) d 0 p q = (lastRow T (keyL d 0 p q)).getD deny := by
  rw [decide_zero, getM_mapT, if_neg (by simp)]
theorem decide_skip0 (T : List Row) (d p q : Int) : decideM (mapT true (keyL d 0 p q) T) d 0 p q = deny := by
  rw [decide_zero, getM_mapT, if_pos ⟨rfl, rfl⟩]
  rfl
theorem decide_skip (T : List Row) (d i p q : Int) (hi : 0 ≤ i) (hi1 : i < 4294967296) (h0 : ¬ i = 0) : decideM (mapT true (keyL d 0 p q) T) d i p q = (lastRow T (keyL d i p q)).getD deny := by
  unfold decideM
  simp only [getM_mapT, and_true, if_true, if_neg h0]
  rw [if_neg (fun h => h0 (keyL_inj d i p q hi hi1 h.2))]
/-- The two keys' rows joined. -/
def joinA (s g : Option Ans) : Ans := match g with
  | some ga => (match s with | none => ga | some sa => if sa.v = 1 ∧ ga.v = 0 then ga else sa)
  | none => s.getD deny
theorem decide_join (m : List Row) (d i p q : Int) (h0 : ¬ i = 0) : decideM m d i p q = joinA (getM m (keyL d i p q)) (getM m (keyL d 0 p q)) := by
  unfold decideM joinA
  simp only [if_neg h0]
  generalize getM m (keyL d i p q) = s
  generalize getM m (keyL d 0 p q) = g
  cases g with
  | none => rfl
  | some ga =>
    cases s with
    | none => rfl
    | some sa =>
      simp only
      split <;> rfl
theorem decide_whole (T : List Row) (k : List Int) (d i p q : Int) (h0 : ¬ i = 0) : decideM (mapT false k T) d i p q = joinA (lastRow T (keyL d i p q)) (lastRow T (keyL d 0 p q)) := by
  rw [decide_join _ d i p q h0, getM_mapT, getM_mapT, if_neg (by simp), if_neg (by simp)]
end Go.Proofs.Qxb6612879a
