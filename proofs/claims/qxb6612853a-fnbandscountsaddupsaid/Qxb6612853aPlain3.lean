/-
  More on the counting model of the bands: the counts add up; what the greatest count's place is. No Go in sight.
-/
import Derived.Test.Qxb6612853aPlain2
namespace Go.Proofs.Qxb6612853a

/-- The counts of the bands -1, 0, .., c - 2 added up. -/
def sumC (l : List Nat) : Nat → Nat
  | 0 => 0
  | c + 1 => sumC l c + cntI l ((c : Int) - 1)

theorem cntI_cons (x : Nat) (l : List Nat) (b : Int) : cntI (x :: l) b = cntI l b + if (x : Int) = b then 1 else 0 := by
  unfold cntI
  by_cases hb : 0 ≤ b
  · rw [if_pos hb, if_pos hb, List.count_cons]
    by_cases e : (x : Int) = b
    · have : x = b.toNat := by omega
      rw [if_pos e, this]; simp
    · have : (x == b.toNat) = false := by simp; omega
      rw [if_neg e, this]; simp
  · rw [if_neg hb, if_neg hb, if_neg (by omega)]

theorem sumC_cons (x : Nat) (l : List Nat) (c : Nat) : sumC (x :: l) c = sumC l c + if x + 1 < c then 1 else 0 := by
  induction c with
  | zero => simp [sumC]
  | succ c ih =>
    simp only [sumC, ih, cntI_cons]
    by_cases h1 : x + 1 < c
    · rw [if_pos h1, if_neg (by omega), if_pos (by omega)]; omega
    · by_cases h2 : x + 1 = c
      · rw [if_neg h1, if_pos (by omega), if_pos (by omega)]; omega
      · rw [if_neg h1, if_neg (by omega), if_neg (by omega)]; omega

theorem sumC_all (l : List Nat) (h : ∀ y ∈ l, y ≤ 256) : sumC l 259 = l.length := by
  induction l with
  | nil =>
    have : ∀ c, sumC [] c = 0 := by
      intro c
      induction c with
      | zero => rfl
      | succ c ih => simp only [sumC, ih, cntI]; split <;> simp
    rw [this]; rfl
  | cons x xs ih =>
    have hx := h x (by simp)
    rw [sumC_cons, ih (fun y hy => h y (by simp [hy])), if_pos (by omega), List.length_cons]

theorem sumC_le (l : List Nat) (h : ∀ y ∈ l, y ≤ 256) (c : Nat) : sumC l c ≤ l.length := by
  induction l with
  | nil =>
    have : ∀ c, sumC [] c = 0 := by
      intro c
      induction c with
      | zero => rfl
      | succ c ih => simp only [sumC, ih, cntI]; split <;> simp
    rw [this]; exact Nat.zero_le _
  | cons x xs ih =>
    have := ih (fun y hy => h y (by simp [hy]))
    rw [sumC_cons, List.length_cons]
    split <;> omega

/-- What the counting model finds after k bands. -/
def Good (l : List Nat) (k : Nat) (m : Nat × Nat) : Prop :=
  (∀ b, 256 < b + k → b ≤ 256 → l.count b ≤ m.1) ∧
  (m = (0, 0) ∨ ∃ x, 256 < x + k ∧ x ≤ 256 ∧ 0 < m.1 ∧ l.count x = m.1 ∧ m.2 = lastIx l x ∧ ∀ b, b < x → 256 < b + k → l.count b < m.1)

theorem good_step (l : List Nat) (k : Nat) (hk : k ≤ 256) (m : Nat × Nat) (h : Good l k m) : Good l (k + 1) (stepM l m (256 - k)) := by
  obtain ⟨h1, h2⟩ := h
  unfold stepM
  by_cases hc : 0 < l.count (256 - k) ∧ m.1 ≤ l.count (256 - k)
  · rw [if_pos hc]
    refine ⟨fun b hb hb2 => ?_, .inr ⟨256 - k, by omega, by omega, hc.1, rfl, rfl, fun b hb hb2 => ?_⟩⟩
    · by_cases e : b = 256 - k
      · subst e; exact Nat.le_refl _
      · exact Nat.le_trans (h1 b (by omega) hb2) hc.2
    · omega
  · rw [if_neg hc]
    have hlt : l.count (256 - k) = 0 ∨ l.count (256 - k) < m.1 := by
      by_cases h0 : 0 < l.count (256 - k)
      · exact .inr (Classical.byContradiction fun hn => hc ⟨h0, by omega⟩)
      · exact .inl (by omega)
    refine ⟨fun b hb hb2 => ?_, ?_⟩
    · by_cases e : b = 256 - k
      · subst e; omega
      · exact h1 b (by omega) hb2
    · rcases h2 with h2 | ⟨x, hx1, hx2, hx3, hx4, hx5, hx6⟩
      · exact .inl h2
      · refine .inr ⟨x, by omega, hx2, hx3, hx4, hx5, fun b hb hb2 => ?_⟩
        by_cases e : b = 256 - k
        · subst e; omega
        · exact hx6 b hb (by omega)

theorem good_all (l : List Nat) : ∀ k, k ≤ 257 → Good l k (Mk l k) := by
  intro k
  induction k with
  | zero => intro _; exact ⟨fun b h1 h2 => absurd h1 (by omega), .inl rfl⟩
  | succ k ih => intro h; exact good_step l k (by omega) _ (ih (by omega))

theorem lastIx_take (bs : List Nat) : ∀ k, k ≤ bs.length → ∀ x, x ∈ bs.take k → lastIx (bs.take k) x < k ∧ at0 bs (lastIx (bs.take k) x) = x ∧ ∀ j, lastIx (bs.take k) x < j → j < k → at0 bs j ≠ x := by
  intro k
  induction k with
  | zero => intro _ x hx; simp at hx
  | succ k ih =>
    intro hk x hx
    have hsn : bs.take (k + 1) = bs.take k ++ [at0 bs k] := by rw [List.take_succ_eq_append_getElem (by omega), at0_lt (by omega)]
    rw [hsn] at hx ⊢
    rw [lastIx_snoc]
    have hl : (bs.take k).length = k := by simp; omega
    by_cases e : at0 bs k = x
    · rw [if_pos e, hl]
      exact ⟨by omega, e, fun j h1 h2 => absurd h1 (by omega)⟩
    · rw [if_neg e]
      have hm : x ∈ bs.take k := by
        rcases List.mem_append.1 hx with h | h
        · exact h
        · simp at h; exact absurd h.symm e
      obtain ⟨h1, h2, h3⟩ := ih (by omega) x hm
      refine ⟨by omega, h2, fun j hj1 hj2 => ?_⟩
      by_cases ej : j = k
      · subst ej; exact e
      · exact h3 j hj1 (by omega)

/-- What the greatest count's place is. -/
theorem M_spec (bs : List Nat) (h256 : ∀ y ∈ bs, y ≤ 256) (h0 : 0 < bs.length) :
    1 ≤ (M bs).1 ∧ (M bs).2 < bs.length ∧ bs.count (at0 bs (M bs).2) = (M bs).1 ∧ ((M bs).2 + 1 < bs.length → at0 bs ((M bs).2 + 1) ≠ at0 bs (M bs).2) ∧ ∀ b, b < at0 bs (M bs).2 → bs.count b ≠ (M bs).1 := by
  have hg := good_all bs 257 (Nat.le_refl _)
  change Good bs 257 (M bs) at hg
  obtain ⟨h1, h2⟩ := hg
  have hpos : 0 < (M bs).1 := by
    have hm : bs[0] ∈ bs := List.getElem_mem _
    have := h1 bs[0] (by omega) (h256 _ hm)
    have hc : 0 < bs.count bs[0] := List.count_pos_iff.2 hm
    omega
  rcases h2 with h2 | ⟨x, _, hx2, hx3, hx4, hx5, hx6⟩
  · rw [h2] at hpos; exact absurd hpos (Nat.lt_irrefl _)
  · have hm : x ∈ bs := List.count_pos_iff.1 (by omega)
    have ht : bs.take bs.length = bs := List.take_of_length_le (Nat.le_refl _)
    have := lastIx_take bs bs.length (Nat.le_refl _) x (by rw [ht]; exact hm)
    rw [ht, ← hx5] at this
    obtain ⟨g1, g2, g3⟩ := this
    refine ⟨hpos, g1, by rw [g2]; exact hx4, fun h => by rw [g2]; exact g3 _ (by omega) h, fun b hb => ?_⟩
    rw [g2] at hb
    have := hx6 b hb (by omega)
    omega

theorem cntI_le_M (bs : List Nat) (h256 : ∀ y ∈ bs, y ≤ 256) (band : Int) : cntI bs band ≤ (M bs).1 := by
  have hg := (good_all bs 257 (Nat.le_refl _)).1
  change ∀ b, 256 < b + 257 → b ≤ 256 → bs.count b ≤ (M bs).1 at hg
  unfold cntI
  split
  · by_cases hb : band.toNat ≤ 256
    · exact hg _ (by omega) hb
    · have : bs.count band.toNat = 0 := by
        rw [List.count_eq_zero]
        intro hm
        have := h256 _ hm
        omega
      omega
  · exact Nat.zero_le _

theorem cntI_out (bs : List Nat) (h255 : ∀ y ∈ bs, y ≤ 255) (band : Int) (h : band < 0 ∨ 255 < band) : cntI bs band = 0 := by
  unfold cntI
  split
  · rw [List.count_eq_zero]
    intro hm
    have := h255 _ hm
    omega
  · rfl

theorem cntI_nat (bs : List Nat) (b : Nat) : cntI bs (b : Int) = bs.count b := by
  unfold cntI
  rw [if_pos (by omega)]
  simp

end Go.Proofs.Qxb6612853a
