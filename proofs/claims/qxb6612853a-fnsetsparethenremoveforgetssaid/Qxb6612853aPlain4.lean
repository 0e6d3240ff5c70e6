/-
  Plain mathematics of the spares: setting one spare per band keeps the latest per band. No Go in sight.
-/
import Derived.Test.Qxb6612853aW12
import Derived.Test.Qxb6612853aL7
namespace Go.Proofs.Qxb6612853a

/-- The first place of b among the first k of bs, -1 if there is none. -/
def firstF (bs : List Nat) (b : Nat) : Nat → Int
  | 0 => -1
  | k + 1 => if firstF bs b k < 0 ∧ at0 bs k = b then (k : Int) else firstF bs b k

theorem take_snoc_mem (bs : List Nat) (k b : Nat) (h : k < bs.length) : b ∈ bs.take (k + 1) ↔ b ∈ bs.take k ∨ at0 bs k = b := by
  rw [take_snoc0 _ _ h, List.mem_append, List.mem_singleton]
  constructor
  · rintro (h | h)
    · exact .inl h
    · exact .inr h.symm
  · rintro (h | h)
    · exact .inl h
    · exact .inr h.symm

theorem firstF_neg (bs : List Nat) (b : Nat) : ∀ k, k ≤ bs.length → (firstF bs b k < 0 ↔ ¬ b ∈ bs.take k)
  | 0, _ => by simp [firstF]
  | k + 1, h => by
    have ih := firstF_neg bs b k (by omega)
    rw [take_snoc_mem _ _ _ (by omega), firstF]
    by_cases h1 : firstF bs b k < 0
    · by_cases h2 : at0 bs k = b
      · rw [if_pos ⟨h1, h2⟩]
        constructor
        · intro h; omega
        · intro h; exact absurd (.inr h2) h
      · rw [if_neg (fun h => h2 h.2)]
        constructor
        · intro _ hc; rcases hc with hc | hc
          · exact (ih.1 h1) hc
          · exact h2 hc
        · intro _; exact h1
    · rw [if_neg (fun h => h1 h.1)]
      constructor
      · intro h; exact absurd h h1
      · intro hc; exact absurd (.inl (Decidable.byContradiction fun hn => h1 (ih.2 hn))) hc
theorem firstF_lt (bs : List Nat) (b : Nat) : ∀ k, firstF bs b k < (k : Int)
  | 0 => by simp [firstF]
  | k + 1 => by
    have := firstF_lt bs b k
    rw [firstF]
    split <;> omega
theorem firstF_stable (bs : List Nat) (b k : Nat) (h : 0 ≤ firstF bs b k) : ∀ d, firstF bs b (k + d) = firstF bs b k
  | 0 => rfl
  | d + 1 => by
    have ih := firstF_stable bs b k h d
    rw [show k + (d + 1) = (k + d) + 1 from rfl, firstF, ih, if_neg (fun hc => by omega)]
theorem firstF_is (bs : List Nat) (i n : Nat) (hi : i < n) (hn : n ≤ bs.length) : firstF bs (at0 bs i) n = (i : Int) ↔ ¬ at0 bs i ∈ bs.take i := by
  have hneg := firstF_neg bs (at0 bs i) i (by omega)
  have hlt := firstF_lt bs (at0 bs i) i
  constructor
  · intro h hm
    have h0 : 0 ≤ firstF bs (at0 bs i) i := by
      have : ¬ firstF bs (at0 bs i) i < 0 := fun hc => hneg.1 hc hm
      omega
    have := firstF_stable bs (at0 bs i) i h0 (n - i)
    rw [show i + (n - i) = n by omega] at this
    omega
  · intro hm
    have h1 : firstF bs (at0 bs i) (i + 1) = (i : Int) := by rw [firstF, if_pos ⟨hneg.2 hm, rfl⟩]
    have := firstF_stable bs (at0 bs i) (i + 1) (by omega) (n - (i + 1))
    rw [show i + 1 + (n - (i + 1)) = n by omega] at this
    omega

theorem lastIx_spec (bs : List Nat) (x : Nat) : ∀ k, k ≤ bs.length → x ∈ bs.take k → lastIx (bs.take k) x < k ∧ at0 bs (lastIx (bs.take k) x) = x
  | 0, _, h => by simp at h
  | k + 1, h, hm => by
    rw [take_snoc0 _ _ (by omega), lastIx_snoc]
    by_cases e : at0 bs k = x
    · rw [if_pos e, List.length_take, Nat.min_eq_left (by omega)]
      exact ⟨by omega, e⟩
    · rw [if_neg e]
      have := lastIx_spec bs x k (by omega) (((take_snoc_mem bs k x (by omega)).1 hm).resolve_right e)
      exact ⟨by omega, this.2⟩

theorem first_ex (bs : List Nat) (x : Nat) : ∀ k, k ≤ bs.length → x ∈ bs.take k → ∃ i, i < k ∧ at0 bs i = x ∧ ¬ x ∈ bs.take i
  | 0, _, h => by simp at h
  | k + 1, h, hm => by
    by_cases hk : x ∈ bs.take k
    · obtain ⟨i, h1, h2⟩ := first_ex bs x k (by omega) hk
      exact ⟨i, by omega, h2⟩
    · exact ⟨k, by omega, ((take_snoc_mem bs k x (by omega)).1 hm).resolve_left hk, hk⟩

/-- The places where a band shows first. -/
def firsts (bs : List Nat) (k : Nat) : List Nat := (List.range k).filter fun i => !decide (at0 bs i ∈ bs.take i)
theorem firsts_succ (bs : List Nat) (k : Nat) : firsts bs (k + 1) = firsts bs k ++ (if at0 bs k ∈ bs.take k then [] else [k]) := by
  unfold firsts
  rw [List.range_succ, List.filter_append]
  by_cases h : at0 bs k ∈ bs.take k <;> simp [h]
theorem firsts_mem (bs : List Nat) (k i : Nat) : i ∈ firsts bs k ↔ i < k ∧ ¬ at0 bs i ∈ bs.take i := by
  simp [firsts]
theorem at_mem_take (bs : List Nat) (i k : Nat) (h : i < k) (hk : k ≤ bs.length) : at0 bs i ∈ bs.take k := by
  rw [at0_lt (by omega)]
  exact List.mem_take_iff_getElem.2 ⟨i, by omega, rfl⟩
theorem firsts_pair (bs : List Nat) : ∀ k, k ≤ bs.length → (firsts bs k).Pairwise (fun i j => at0 bs i ≠ at0 bs j) := by
  intro k hk
  have h0 : (List.range k).Pairwise (fun i j => i < j ∧ j < k) := by
    rw [List.pairwise_iff_getElem]
    intro i j hi hj hij
    simp at hi hj
    simp
    omega
  unfold firsts
  rw [List.pairwise_filter]
  refine h0.imp ?_
  rintro i j ⟨h1, h2⟩ _ hj e
  have hj' : ¬ at0 bs j ∈ bs.take j := by simpa using hj
  exact hj' (e ▸ at_mem_take bs i j h1 (by omega))

theorem setS_map (self l : List Nat) (b : Nat) (f : Nat → List Nat) (β : Nat → Nat) : ∀ (is : List Nat), (∀ i ∈ is, lead self (f i) = β i) → is.Pairwise (fun i j => β i ≠ β j) →
    setS self (is.map f) l b = if ∃ i ∈ is, β i = b then is.map (fun i => if β i = b then l else f i) else is.map f ++ [l]
  | [], _, _ => by simp [setS]
  | i :: r, h, hp => by
    have hi := h i (by simp)
    have ih := setS_map self l b f β r (fun j hj => h j (by simp [hj])) (List.pairwise_cons.1 hp).2
    have hne := (List.pairwise_cons.1 hp).1
    simp only [List.map_cons, setS, hi]
    by_cases e : β i = b
    · rw [if_pos e, if_pos ⟨i, by simp, e⟩, if_pos e]
      congr 1
      refine List.map_congr_left fun j hj => ?_
      rw [if_neg (fun hc => hne j hj (e.trans hc.symm))]
    · rw [if_neg e, ih]
      by_cases he : ∃ j ∈ r, β j = b
      · obtain ⟨j, hj, hjb⟩ := he
        rw [if_pos ⟨j, hj, hjb⟩, if_pos ⟨j, by simp [hj], hjb⟩, if_neg e]
      · rw [if_neg he, if_neg (fun ⟨j, hj, hjb⟩ => by
          rcases List.mem_cons.1 hj with rfl | hj
          · exact e hjb
          · exact he ⟨j, hj, hjb⟩)]
        rfl

/-- What the table holds after k spares are set. -/
def sparesOf (self : List Nat) (ids : List (List Nat)) : Nat → List (List Nat)
  | 0 => []
  | k + 1 => setS self (sparesOf self ids k) (ids.getD k []) (lead self (ids.getD k []))

/-- The latest per band, in the order of the bands' first show. -/
def latestK (self : List Nat) (ids : List (List Nat)) (k : Nat) : List (List Nat) := (firsts (bandsOf self ids) k).map fun i => ids.getD (lastIx ((bandsOf self ids).take k) (at0 (bandsOf self ids) i)) []

theorem sparesOf_eq (self : List Nat) (ids : List (List Nat)) : ∀ k, k ≤ ids.length → sparesOf self ids k = latestK self ids k := by
  intro k
  induction k with
  | zero => intro _; rfl
  | succ k ih =>
    intro hk
    have hbl := bandsOf_len self ids
    have hx := bandsOf_at self ids k (by omega)
    rw [sparesOf, ih (by omega), latestK, ← hx]
    generalize hbs : bandsOf self ids = bs at *
    have hlead : ∀ i ∈ firsts bs k, lead self (ids.getD (lastIx (bs.take k) (at0 bs i)) []) = at0 bs i := fun i hi => by
      have hm := at_mem_take bs i k ((firsts_mem bs k i).1 hi).1 (by omega)
      have hl := lastIx_spec bs (at0 bs i) k (by omega) hm
      have hb := bandsOf_at self ids (lastIx (bs.take k) (at0 bs i)) (by omega)
      rw [hbs] at hb
      rw [← hb, hl.2]
    rw [setS_map self _ (at0 bs k) _ (at0 bs) (firsts bs k) hlead (firsts_pair bs k (by omega)), latestK, hbs, firsts_succ]
    have hlast : ∀ b, lastIx (bs.take (k + 1)) b = if at0 bs k = b then k else lastIx (bs.take k) b := fun b => by
      rw [take_snoc0 _ _ (by omega), lastIx_snoc, List.length_take, Nat.min_eq_left (by omega)]
    by_cases hm : at0 bs k ∈ bs.take k
    · obtain ⟨i, hi, hib, hin⟩ := first_ex bs (at0 bs k) k (by omega) hm
      rw [if_pos ⟨i, (firsts_mem bs k i).2 ⟨hi, by rw [hib]; exact hin⟩, hib⟩, if_pos hm, List.append_nil]
      refine List.map_congr_left fun j _ => ?_
      rw [hlast]
      by_cases e : at0 bs j = at0 bs k
      · rw [if_pos e, if_pos e.symm]
      · rw [if_neg e, if_neg (fun h => e h.symm)]
    · have hno : ¬ ∃ i ∈ firsts bs k, at0 bs i = at0 bs k := fun ⟨i, hi, e⟩ => hm (e ▸ at_mem_take bs i k ((firsts_mem bs k i).1 hi).1 (by omega))
      rw [if_neg hno, if_neg hm, List.map_append]
      congr 1
      · refine List.map_congr_left fun j hj => ?_
        rw [hlast, if_neg (fun h => hno ⟨j, hj, h.symm⟩)]
      · simp [hlast]

theorem latestK_len (self : List Nat) (ids : List (List Nat)) (k : Nat) : (latestK self ids k).length ≤ k := by
  unfold latestK firsts
  rw [List.length_map]
  exact Nat.le_trans (List.length_filter_le _ _) (by simp)
theorem allID_iff (sps : List (List Nat)) : AllID sps ↔ ∀ x ∈ sps, IsID x := by
  constructor
  · intro h x hx
    obtain ⟨i, hi, rfl⟩ := List.mem_iff_getElem.1 hx
    have := h i hi
    simpa [List.getD, hi] using this
  · intro h i hi
    have : sps.getD i [] = sps[i] := by simp [List.getD, hi]
    rw [this]
    exact h _ (List.getElem_mem hi)
theorem setS_id (self : List Nat) (sps : List (List Nat)) (h : AllID sps) (l : List Nat) (hl : IsID l) (b : Nat) : AllID (setS self sps l b) := by
  rw [allID_iff] at h ⊢
  induction sps with
  | nil => intro x hx; simp [setS] at hx; rw [hx]; exact hl
  | cons y r ih =>
    intro x hx
    rw [setS] at hx
    by_cases e : lead self y = b
    · rw [if_pos e] at hx
      rcases List.mem_cons.1 hx with rfl | hx
      · exact hl
      · exact h x (by simp [hx])
    · rw [if_neg e] at hx
      rcases List.mem_cons.1 hx with rfl | hx
      · exact h _ (by simp)
      · exact ih (fun z hz => h z (by simp [hz])) x hx
theorem sparesOf_id (self : List Nat) (ids : List (List Nat)) (h : AllID ids) : ∀ k, k ≤ ids.length → AllID (sparesOf self ids k)
  | 0, _ => fun i hi => absurd hi (Nat.not_lt_zero _)
  | k + 1, hk => setS_id self _ (sparesOf_id self ids h k (by omega)) _ (h k (by omega)) _

/-- The latest per band, as the model gathers it: after k of the ids are looked at. -/
def gathK (self : List Nat) (ids : List (List Nat)) (k : Nat) : List (List Nat) := (firsts (bandsOf self ids) k).map fun i => ids.getD (lastIx (bandsOf self ids) (at0 (bandsOf self ids) i)) []
theorem gathK_all (self : List Nat) (ids : List (List Nat)) : gathK self ids ids.length = latestK self ids ids.length := by
  unfold gathK latestK
  rw [List.take_of_length_le (by rw [bandsOf_len]; omega)]
theorem gathK_succ (self : List Nat) (ids : List (List Nat)) (k : Nat) : gathK self ids (k + 1) = gathK self ids k ++ (if at0 (bandsOf self ids) k ∈ (bandsOf self ids).take k then [] else [ids.getD (lastIx (bandsOf self ids) (at0 (bandsOf self ids) k)) []]) := by
  unfold gathK
  rw [firsts_succ, List.map_append]
  split <;> simp
theorem gathK_len (self : List Nat) (ids : List (List Nat)) (k : Nat) : (gathK self ids k).length ≤ k := by
  unfold gathK firsts
  rw [List.length_map]
  exact Nat.le_trans (List.length_filter_le _ _) (by simp)
end Go.Proofs.Qxb6612853a
