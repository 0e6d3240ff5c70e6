/-
  Plain laws and small steps for the law of the two keys.
-/
import Derived.Test.Qxb6612879aW11
namespace Go.Proofs.Qxb6612879a
open Go.RowKit

theorem St.join {w0 wk w : World} {L L' : List (Nat × Array Value × TypeId)} (h : St w0 L wk) (h' : St wk L' w) : St w0 (L' ++ L) w := by
  have h1 := h.step h'.below
  refine ⟨h1.below, List.pairwise_append.2 ⟨h'.ord, h.ord, fun p hp q hq => ?_⟩, fun p hp => ?_⟩
  · exact Nat.lt_of_lt_of_le (h.vars q hq).2.1 (h'.vars p hp).1
  · rcases List.mem_append.1 hp with hp | hp
    · obtain ⟨g1, g2, g3⟩ := h'.vars p hp
      exact ⟨Nat.le_trans h.below.size g1, g2, g3⟩
    · exact h1.vars p hp
theorem St.grown {w0 w w' : World} {L : List (Nat × Array Value × TypeId)} {mb : Nat} (h : St w0 L w) (hg : w.grownBy w' (some mb)) (hlt : ∀ x ∈ L, x.1 < mb) (hm : w0.heap.size ≤ mb) : St w0 L w' := by
  obtain ⟨h1, h2, h3, h4, h5⟩ := hg
  refine ⟨h.below.trans ⟨h1, h2, h3, h4, fun k hk => h5 k (Nat.lt_of_lt_of_le hk h.below.size) (by simp; omega)⟩, h.ord, fun p hp => ?_⟩
  obtain ⟨g1, g2, g3⟩ := h.vars p hp
  have := hlt p hp
  exact ⟨g1, Nat.lt_of_lt_of_le g2 h4, (h5 p.1 g2 (by simp; omega)).trans g3⟩
theorem St.all_lt {w0 w : World} {L : List (Nat × Array Value × TypeId)} (h : St w0 L w) : ∀ x ∈ L, x.1 < w.heap.size := fun x hx => (h.vars x hx).2.1

/-- The small map. -/
def smallM (k0 kI : List Int) (g s : Option Ans) : List Row :=
  let m0 : List Row := match g with | none => [] | some a => putM [] k0 a
  match s with | none => m0 | some a => putM m0 kI a
theorem small_get (T : List Row) (k0 kI : List Int) (g s : Option Ans) (hg : lastRow T k0 = g) (hs : lastRow T kI = s) : getM (smallM k0 kI g s) k0 = g ∧ getM (smallM k0 kI g s) kI = s := by
  by_cases e : kI = k0
  · subst e
    have : g = s := hg.symm.trans hs
    subst this
    cases g <;> simp [smallM, getM_putM, getM]
  · have e' : ¬ k0 = kI := fun h => e h.symm
    cases g <;> cases s <;> simp [smallM, getM_putM, getM, e, e']
theorem decide_congr (m m' : List Row) (d i p q : Int) (h0 : getM m (keyL d 0 p q) = getM m' (keyL d 0 p q)) (hI : getM m (keyL d i p q) = getM m' (keyL d i p q)) : decideM m d i p q = decideM m' d i p q := by
  unfold decideM
  rw [h0, hI]
theorem decide_small (T : List Row) (k : List Int) (d i p q : Int) (g s : Option Ans) (hg : lastRow T (keyL d 0 p q) = g) (hs : lastRow T (keyL d i p q) = s) :
    decideM (mapT false k T) d i p q = decideM (smallM (keyL d 0 p q) (keyL d i p q) g s) d i p q := by
  obtain ⟨h1, h2⟩ := small_get T _ _ g s hg hs
  refine decide_congr _ _ d i p q ?_ ?_
  · rw [getM_mapT, if_neg (by simp), h1, hg]
  · rw [getM_mapT, if_neg (by simp), h2, hs]
theorem decide_zero' (T : List Row) (k : List Int) (d i p q : Int) (h0 : i = 0) : decideM (mapT false k T) d i p q = (lastRow T (keyL d i p q)).getD deny := by
  subst h0
  rw [decide_zero, getM_mapT, if_neg (by simp)]
theorem two_none (T : List Row) (k : List Int) (d i p q : Int) (hg : lastRow T (keyL d 0 p q) = none) (hs : lastRow T (keyL d i p q) = none) : decideM (mapT false k T) d i p q = deny := by
  by_cases h0 : i = 0
  · rw [decide_zero' T k d i p q h0, hs]; rfl
  · rw [decide_whole T k d i p q h0, hg, hs]; rfl
theorem two_s (T : List Row) (k : List Int) (d i p q : Int) (r : Ans) (hg : lastRow T (keyL d 0 p q) = none) (hs : lastRow T (keyL d i p q) = some r) : decideM (mapT false k T) d i p q = r := by
  by_cases h0 : i = 0
  · rw [decide_zero' T k d i p q h0, hs]; rfl
  · rw [decide_whole T k d i p q h0, hg, hs]; rfl
theorem two_g (T : List Row) (k : List Int) (d i p q : Int) (r : Ans) (hg : lastRow T (keyL d 0 p q) = some r) (hs : lastRow T (keyL d i p q) = none) : decideM (mapT false k T) d i p q = r := by
  by_cases h0 : i = 0
  · subst h0
    rw [hg] at hs
    cases hs
  · rw [decide_whole T k d i p q h0, hg, hs]; rfl
theorem two_both (T : List Row) (k : List Int) (d i p q : Int) (r s : Ans) (hg : lastRow T (keyL d 0 p q) = some r) (hs : lastRow T (keyL d i p q) = some s) (hne : ¬ decideM (mapT false k T) d i p q = s) : decideM (mapT false k T) d i p q = r := by
  by_cases h0 : i = 0
  · exact absurd (by rw [decide_zero' T k d i p q h0, hs]; rfl) hne
  · rw [decide_whole T k d i p q h0, hg, hs] at hne ⊢
    simp only [joinA] at hne ⊢
    by_cases h : s.v = 1 ∧ r.v = 0
    · rw [if_pos h]
    · rw [if_neg h] at hne
      exact absurd rfl hne
end Go.Proofs.Qxb6612879a
