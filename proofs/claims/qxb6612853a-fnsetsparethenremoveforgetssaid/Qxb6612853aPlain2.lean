/-
  Plain mathematics of the bands: what the scan over runs finds, and what counting finds. No Go in sight.
-/
import Derived.Test.Qxb6612853aPlain
namespace Go.Proofs.Qxb6612853a

def at0 (l : List Nat) (i : Nat) : Nat := l.getD i 0
theorem at0_lt {l : List Nat} {i : Nat} (h : i < l.length) : at0 l i = l[i] := by simp [at0, List.getD, h]

/-- The last place of b in l, 0 if there is none. -/
def lastFrom (b : Nat) : Nat → Nat → List Nat → Nat
  | _, acc, [] => acc
  | i, acc, x :: xs => lastFrom b (i + 1) (if x = b then i else acc) xs
def lastIx (l : List Nat) (b : Nat) : Nat := lastFrom b 0 0 l

theorem lastFrom_snoc (b : Nat) (l : List Nat) (x : Nat) : ∀ i acc, lastFrom b i acc (l ++ [x]) = if x = b then i + l.length else lastFrom b i acc l := by
  induction l with
  | nil => intro i acc; simp [lastFrom]
  | cons y ys ih =>
    intro i acc
    simp only [List.cons_append, lastFrom, ih, List.length_cons]
    split <;> omega
theorem lastIx_snoc (l : List Nat) (x b : Nat) : lastIx (l ++ [x]) b = if x = b then l.length else lastIx l b := by
  simp [lastIx, lastFrom_snoc]
theorem lastIx_rep (l : List Nat) (x n b : Nat) : lastIx (l ++ List.replicate n x) b = if x = b ∧ 0 < n then l.length + n - 1 else lastIx l b := by
  induction n with
  | zero => simp
  | succ n ih =>
    rw [List.replicate_succ', ← List.append_assoc, lastIx_snoc, ih]
    by_cases h : x = b
    · simp [h]
    · simp [h]

def stepM (l : List Nat) (acc : Nat × Nat) (b : Nat) : Nat × Nat := if 0 < l.count b ∧ acc.1 ≤ l.count b then (l.count b, lastIx l b) else acc
/-- The counting model after k bands, from 256 down. -/
def Mk (l : List Nat) : Nat → Nat × Nat
  | 0 => (0, 0)
  | k + 1 => stepM l (Mk l k) (256 - k)
def M (l : List Nat) : Nat × Nat := Mk l 257

theorem Mk_const (l : List Nat) (k : Nat) (h : ∀ b, b + k ≤ 256 → l.count b = 0) : ∀ j, k ≤ j → j ≤ 257 → Mk l j = Mk l k := by
  intro j
  induction j with
  | zero => intro h1 _; have : k = 0 := by omega
            subst this; rfl
  | succ j ih =>
    intro h1 h2
    by_cases e : k = j + 1
    · subst e; rfl
    · rw [Mk, stepM, h (256 - j) (by omega), ih (by omega) (by omega)]
      simp

theorem count_rep (l : List Nat) (x n b : Nat) : (l ++ List.replicate n x).count b = l.count b + if x = b then n else 0 := by
  rw [List.count_append, List.count_replicate]
  by_cases h : x = b <;> simp [h]

theorem count_zero_of {l : List Nat} {b : Nat} (h : ∀ y ∈ l, b < y) : l.count b = 0 := by
  rw [List.count_eq_zero]
  intro hm
  exact Nat.lt_irrefl _ (h b hm)

theorem M_run (l : List Nat) (x n : Nat) (hn : 0 < n) (hx : x ≤ 256) (hl : ∀ y ∈ l, x < y) :
    M (l ++ List.replicate n x) = if (M l).1 ≤ n then (n, l.length + n - 1) else M l := by
  have hz : ∀ b, b ≤ x → l.count b = 0 := fun b hb => count_zero_of fun y hy => Nat.lt_of_le_of_lt hb (hl y hy)
  have same : ∀ k, k + x ≤ 256 → Mk (l ++ List.replicate n x) k = Mk l k := by
    intro k
    induction k with
    | zero => intro _; rfl
    | succ k ih =>
      intro hk
      have hne : ¬ x = 256 - k := by omega
      rw [Mk, Mk, ih (by omega), stepM, stepM, count_rep, lastIx_rep]
      simp [hne]
  have e1 : M l = Mk l (256 - x) := Mk_const l (256 - x) (fun b hb => hz b (by omega)) 257 (by omega) (by omega)
  have e2 : M (l ++ List.replicate n x) = Mk (l ++ List.replicate n x) (256 - x + 1) := by
    refine Mk_const _ _ (fun b hb => ?_) 257 (by omega) (by omega)
    rw [count_rep, hz b (by omega), if_neg (by omega)]
  have hc : (l ++ List.replicate n x).count x = n := by rw [count_rep, hz x (Nat.le_refl _)]; simp
  have hla : lastIx (l ++ List.replicate n x) x = l.length + n - 1 := by rw [lastIx_rep]; simp [hn]
  rw [e2, Mk, same (256 - x) (by omega), show 256 - (256 - x) = x by omega, stepM, hc, hla, ← e1]
  simp [hn]

/-- How many of l are the given band. -/
def cntI (l : List Nat) (band : Int) : Nat := if 0 ≤ band then l.count band.toNat else 0

theorem cntI_run (l : List Nat) (x n : Nat) (band : Int) (hl : ∀ y ∈ l, x < y) : cntI (l ++ List.replicate n x) band = if (x : Int) = band then n else cntI l band := by
  unfold cntI
  by_cases hb : 0 ≤ band
  · rw [if_pos hb, if_pos hb, count_rep]
    by_cases e : (x : Int) = band
    · have e' : x = band.toNat := by omega
      rw [if_pos e, ← e', if_pos rfl, count_zero_of hl]; omega
    · rw [if_neg e, if_neg (by omega)]; omega
  · rw [if_neg hb, if_neg hb, if_neg (by omega)]

/-- The bands stand in descending order. -/
def Desc (bs : List Nat) : Prop := ∀ i, i + 1 < bs.length → at0 bs (i + 1) ≤ at0 bs i
theorem Desc.le {bs : List Nat} (h : Desc bs) : ∀ j i, i ≤ j → j < bs.length → at0 bs j ≤ at0 bs i := by
  intro j
  induction j with
  | zero => intro i hi _; have : i = 0 := by omega
            subst this; exact Nat.le_refl _
  | succ j ih =>
    intro i hi hj
    by_cases e : i = j + 1
    · subst e; exact Nat.le_refl _
    · exact Nat.le_trans (h j hj) (ih i (by omega) (by omega))

theorem take_run (bs : List Nat) (s e : Nat) (hse : s ≤ e) (he : e < bs.length) (hr : ∀ j, s ≤ j → j ≤ e → at0 bs j = at0 bs s) :
    bs.take (e + 1) = bs.take s ++ List.replicate (e - s + 1) (at0 bs s) := by
  apply List.ext_getElem?
  intro i
  rw [List.getElem?_append]
  have hl : (bs.take s).length = s := by simp; omega
  rw [hl]
  by_cases h1 : i < s
  · rw [if_pos h1, List.getElem?_take, List.getElem?_take, if_pos h1, if_pos (by omega)]
  · rw [if_neg h1, List.getElem?_take, List.getElem?_replicate]
    by_cases h2 : i ≤ e
    · rw [if_pos (by omega), if_pos (by omega), ← hr i (by omega) h2, at0_lt (show i < bs.length by omega), List.getElem?_eq_getElem]
    · rw [if_neg (by omega), if_neg (by omega)]

/-- A run begins at s. -/
def CutAt (bs : List Nat) (s : Nat) : Prop := s < bs.length → ∀ i, i < s → at0 bs s < at0 bs i

theorem mem_take_at {bs : List Nat} {s y : Nat} (h : y ∈ bs.take s) : ∃ i, i < s ∧ i < bs.length ∧ at0 bs i = y := by
  obtain ⟨i, hi, rfl⟩ := List.mem_iff_getElem.1 h
  have h1 : i < s ∧ i < bs.length := by simp at hi; omega
  exact ⟨i, h1.1, h1.2, by rw [at0_lt h1.2]; simp⟩

theorem scan_step (bs : List Nat) (s e : Nat) (band : Int) (hse : s ≤ e) (he : e < bs.length) (hcut : CutAt bs s) (hr : ∀ j, s ≤ j → j ≤ e → at0 bs j = at0 bs s) (h256 : at0 bs s ≤ 256) :
    M (bs.take (e + 1)) = (if (M (bs.take s)).1 ≤ e - s + 1 then (e - s + 1, e) else M (bs.take s)) ∧
    cntI (bs.take (e + 1)) band = (if ((at0 bs s : Nat) : Int) = band then e - s + 1 else cntI (bs.take s) band) := by
  have hlt : ∀ y ∈ bs.take s, at0 bs s < y := fun y hy => by
    obtain ⟨i, hi, _, rfl⟩ := mem_take_at hy
    exact hcut (by omega) i hi
  have hl : (bs.take s).length = s := by simp; omega
  rw [take_run bs s e hse he hr]
  refine ⟨?_, cntI_run _ _ _ _ hlt⟩
  rw [M_run _ _ _ (by omega) h256 hlt, hl]
  congr 1
  congr 1
  omega

theorem cut_next (bs : List Nat) (s e : Nat) (hd : Desc bs) (hse : s ≤ e) (hne : e + 1 < bs.length → at0 bs (e + 1) ≠ at0 bs s) (hr : ∀ j, s ≤ j → j ≤ e → at0 bs j = at0 bs s) : CutAt bs (e + 1) := by
  intro hlt i hi
  have h1 := hne hlt
  have h2 := hd.le (e + 1) s (by omega) hlt
  by_cases his : i < s
  · have := hd.le s i (by omega) (by omega)
    omega
  · rw [hr i (by omega) (by omega)]; omega

theorem M_le_len (l : List Nat) : ∀ k, (Mk l k).1 ≤ l.length ∧ (Mk l k).2 ≤ l.length := by
  have hlast : ∀ b, lastIx l b ≤ l.length := by
    intro b
    have key : ∀ (l : List Nat) i acc, acc ≤ i → lastFrom b i acc l ≤ i + l.length := by
      intro l
      induction l with
      | nil => intro i acc h; simp [lastFrom]; exact h
      | cons x xs ih =>
        intro i acc h
        have := ih (i + 1) (if x = b then i else acc) (by split <;> omega)
        simp only [lastFrom, List.length_cons]
        omega
    have := key l 0 0 (Nat.le_refl _)
    simpa [lastIx] using this
  intro k
  induction k with
  | zero => simp [Mk]
  | succ k ih =>
    simp only [Mk, stepM]
    split
    · exact ⟨List.count_le_length, hlast _⟩
    · exact ih

end Go.Proofs.Qxb6612853a
