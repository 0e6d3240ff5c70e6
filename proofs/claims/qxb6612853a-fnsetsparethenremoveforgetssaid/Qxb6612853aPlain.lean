/-
  Plain mathematics for the seat b6612853a: identities as lists of bytes, XOR distance, leading bits. No Go in sight.
-/
namespace Go.Proofs.Qxb6612853a

/-- An identity: 32 bytes. -/
def IsID (l : List Nat) : Prop := l.length = 32 ∧ ∀ x ∈ l, x < 256

theorem IsID.lt {l : List Nat} (h : IsID l) (i : Nat) : l.getD i 0 < 256 := by
  by_cases hi : i < l.length
  · have : l.getD i 0 = l[i] := by simp [List.getD, hi]
    rw [this]; exact h.2 _ (List.getElem_mem hi)
  · have : l.getD i 0 = 0 := by simp [List.getD, Nat.le_of_not_lt hi]
    omega

/-- The XOR of two identities, byte by byte. -/
def xorL (a b : List Nat) : List Nat := List.zipWith (fun x y => x ^^^ y) a b

theorem xorL_len {a b : List Nat} (ha : IsID a) (hb : IsID b) : (xorL a b).length = 32 := by
  simp [xorL, ha.1, hb.1]

theorem xorL_get {a b : List Nat} (ha : IsID a) (hb : IsID b) (i : Nat) (hi : i < 32) : (xorL a b).getD i 0 = a.getD i 0 ^^^ b.getD i 0 := by
  have h1 := ha.1
  have h2 := hb.1
  simp [xorL, List.getD, List.getElem?_zipWith, show i < a.length by omega, show i < b.length by omega]

theorem xor_lt (a b : Nat) (ha : a < 256) (hb : b < 256) : a ^^^ b < 256 := Nat.xor_lt_two_pow (n := 8) ha hb

theorem xor_comm' (a b : Nat) : a ^^^ b = b ^^^ a := Nat.xor_comm a b

theorem xorL_lt {a b : List Nat} (ha : IsID a) (hb : IsID b) : ∀ x ∈ xorL a b, x < 256 := by
  intro x hx
  obtain ⟨i, hi, rfl⟩ := List.mem_iff_getElem.1 hx
  have hi' : i < 32 := by rw [xorL_len ha hb] at hi; exact hi
  have := xorL_get ha hb i hi'
  have e : (xorL a b).getD i 0 = (xorL a b)[i] := by simp [List.getD, hi]
  rw [← e, this]
  exact xor_lt _ _ (ha.lt i) (hb.lt i)

theorem xorL_comm (a b : List Nat) : xorL a b = xorL b a := by
  induction a generalizing b with
  | nil => cases b <;> simp [xorL]
  | cons x xs ih =>
    cases b with
    | nil => simp [xorL]
    | cons y ys => simp only [xorL, List.zipWith_cons_cons, Nat.xor_comm x y]; exact congrArg _ (ih ys)

/-- Leading zero bits of a byte. -/
def clz8 (x : Nat) : Nat :=
  if 128 ≤ x then 0 else if 64 ≤ x then 1 else if 32 ≤ x then 2 else if 16 ≤ x then 3 else if 8 ≤ x then 4 else if 4 ≤ x then 5 else if 2 ≤ x then 6 else if 1 ≤ x then 7 else 8

theorem clz8_le (x : Nat) : clz8 x ≤ 8 := by unfold clz8; (repeat' split) <;> omega
theorem clz8_pos {x : Nat} (h : 0 < x) : clz8 x ≤ 7 := by unfold clz8; (repeat' split) <;> omega
theorem clz8_big {x : Nat} (h : 128 ≤ x) : clz8 x = 0 := by unfold clz8; rw [if_pos h]
theorem clz8_succ : ∀ x, x < 128 → clz8 (x + 1) ≤ clz8 x := by decide
theorem clz8_mono {x y : Nat} (h : x ≤ y) : clz8 y ≤ clz8 x := by
  induction y with
  | zero => have : x = 0 := by omega
            subst this; exact Nat.le_refl _
  | succ y ih =>
    by_cases e : x = y + 1
    · subst e; exact Nat.le_refl _
    · have h1 := ih (by omega)
      by_cases hy : y < 128
      · exact Nat.le_trans (clz8_succ y hy) h1
      · rw [clz8_big (by omega)]; exact Nat.zero_le _
theorem clz8_dbl' : ∀ x, x < 128 → 0 < x → clz8 (2 * x) + 1 = clz8 x := by decide
theorem clz8_dbl {x : Nat} (h0 : 0 < x) (h : x < 128) : clz8 (2 * x) + 1 = clz8 x := clz8_dbl' x h h0

/-- Leading zero bits of a row of bytes. -/
def leadK : List Nat → Nat
  | [] => 0
  | x :: xs => if x = 0 then 8 + leadK xs else clz8 x

/-- The number of leading bits that two identities share. -/
def lead (a b : List Nat) : Nat := leadK (xorL a b)

theorem leadK_le (l : List Nat) : leadK l ≤ 8 * l.length := by
  induction l with
  | nil => simp [leadK]
  | cons x xs ih =>
    have := clz8_le x
    simp only [leadK, List.length_cons]
    split <;> omega

theorem lead_le {a b : List Nat} (ha : IsID a) (hb : IsID b) : lead a b ≤ 256 := by
  have := leadK_le (xorL a b)
  rw [xorL_len ha hb] at this
  exact this

theorem leadK_drop (l : List Nat) (i : Nat) (hi : i ≤ l.length) (h : ∀ j, j < i → l.getD j 0 = 0) : leadK l = 8 * i + leadK (l.drop i) := by
  induction i generalizing l with
  | zero => simp
  | succ i ih =>
    cases l with
    | nil => simp at hi
    | cons x xs =>
      have h0 : x = 0 := by simpa using h 0 (by omega)
      have ih' := ih xs (by simpa using hi) (fun j hj => by simpa using h (j + 1) (by omega))
      simp only [leadK, h0, if_true, List.drop_succ_cons, ih']
      omega

theorem leadK_hit (l : List Nat) (i : Nat) (hi : i < l.length) (h : ∀ j, j < i → l.getD j 0 = 0) (hx : l.getD i 0 ≠ 0) : leadK l = 8 * i + clz8 (l.getD i 0) := by
  rw [leadK_drop l i (by omega) h, List.drop_eq_getElem_cons hi]
  have e : l.getD i 0 = l[i] := by simp [List.getD, hi]
  rw [e] at hx ⊢
  simp [leadK, hx]

theorem leadK_all (l : List Nat) (h : ∀ j, j < l.length → l.getD j 0 = 0) : leadK l = 8 * l.length := by
  rw [leadK_drop l l.length (Nat.le_refl _) h]
  simp [leadK]

/-- Lexicographic order of rows of bytes. -/
def lexLt : List Nat → List Nat → Bool
  | x :: xs, y :: ys => if x = y then lexLt xs ys else decide (x < y)
  | _, _ => false

/-- 'a is strictly nearer than b to self'. -/
def nearer (self a b : List Nat) : Bool := lexLt (xorL a self) (xorL b self)

theorem lexLt_hit (k l : List Nat) (i : Nat) (hk : i < k.length) (hl : i < l.length) (h : ∀ j, j < i → k.getD j 0 = l.getD j 0) (hx : k.getD i 0 ≠ l.getD i 0) :
    lexLt k l = decide (k.getD i 0 < l.getD i 0) := by
  induction i generalizing k l with
  | zero =>
    cases k with
    | nil => simp at hk
    | cons x xs =>
      cases l with
      | nil => simp at hl
      | cons y ys =>
        simp at hx
        simp [lexLt, hx]
  | succ i ih =>
    cases k with
    | nil => simp at hk
    | cons x xs =>
      cases l with
      | nil => simp at hl
      | cons y ys =>
        have h0 : x = y := by simpa using h 0 (by omega)
        have := ih xs ys (by simpa using hk) (by simpa using hl) (fun j hj => by simpa using h (j + 1) (by omega)) (by simpa using hx)
        simp [lexLt, h0, this]

theorem lexLt_same (k l : List Nat) (h : ∀ j, k.getD j 0 = l.getD j 0) (hlen : k.length = l.length) : lexLt k l = false := by
  induction k generalizing l with
  | nil => cases l <;> simp [lexLt]
  | cons x xs ih =>
    cases l with
    | nil => simp [lexLt]
    | cons y ys =>
      have h0 : x = y := by simpa using h 0
      simp [lexLt, h0, ih ys (fun j => by simpa using h (j + 1)) (by simpa using hlen)]

theorem lexLt_lead {k l : List Nat} (h : lexLt k l = true) (hlen : k.length = l.length) : leadK l ≤ leadK k := by
  induction k generalizing l with
  | nil => cases l <;> simp [lexLt] at h
  | cons x xs ih =>
    cases l with
    | nil => simp [lexLt] at h
    | cons y ys =>
      simp only [lexLt] at h
      split at h
      · rename_i e
        subst e
        have := ih h (by simpa using hlen)
        simp only [leadK]
        split <;> omega
      · rename_i e
        have hlt : x < y := by simpa using h
        simp only [leadK]
        have hy : y ≠ 0 := by omega
        simp only [hy, if_false]
        split
        · have := clz8_pos (show 0 < y by omega); omega
        · exact clz8_mono (by omega)

theorem nearer_lead {self a b : List Nat} (hs : IsID self) (ha : IsID a) (hb : IsID b) (h : nearer self a b = true) : lead self b ≤ lead self a := by
  unfold lead
  rw [xorL_comm self b, xorL_comm self a]
  exact lexLt_lead h (by rw [xorL_len ha hs, xorL_len hb hs])

theorem xor_zero_iff (x y : Nat) : x ^^^ y = 0 ↔ x = y := by
  constructor
  · intro h
    have : x ^^^ (x ^^^ y) = x ^^^ 0 := by rw [h]
    rw [← Nat.xor_assoc, Nat.xor_self, Nat.zero_xor, Nat.xor_zero] at this
    exact this.symm
  · rintro rfl; exact Nat.xor_self x

theorem lead_lt {a b : List Nat} (ha : IsID a) (hb : IsID b) (hne : a ≠ b) : lead a b < 256 := by
  have hz : ∃ i, i < 32 ∧ (xorL a b).getD i 0 ≠ 0 := by
    apply Classical.byContradiction
    intro hno
    apply hne
    apply List.ext_getElem?
    intro i
    by_cases hi : i < 32
    · have h0 : (xorL a b).getD i 0 = 0 := by
        apply Classical.byContradiction
        intro hc
        exact hno ⟨i, hi, hc⟩
      rw [xorL_get ha hb i hi, xor_zero_iff] at h0
      have h1 := ha.1
      have h2 := hb.1
      simp only [List.getD, List.getElem?_eq_getElem (show i < a.length by omega), List.getElem?_eq_getElem (show i < b.length by omega), Option.getD_some] at h0 ⊢
      rw [h0]
    · have h1 := ha.1
      have h2 := hb.1
      rw [List.getElem?_eq_none (by omega), List.getElem?_eq_none (by omega)]
  have key : ∀ n i, i = n → i < 32 → (xorL a b).getD i 0 ≠ 0 → lead a b < 256 := by
    intro n
    induction n using Nat.strongRecOn with
    | _ n ih =>
      intro i hin hi hx
      by_cases hall : ∀ j, j < i → (xorL a b).getD j 0 = 0
      · have := leadK_hit (xorL a b) i (by rw [xorL_len ha hb]; exact hi) hall hx
        have h7 := clz8_pos (Nat.pos_of_ne_zero hx)
        unfold lead
        omega
      · have ⟨j, hj⟩ : ∃ j, ¬ (j < i → (xorL a b).getD j 0 = 0) := Classical.byContradiction fun hc => hall fun j => Classical.byContradiction fun hcc => hc ⟨j, hcc⟩
        have hji : j < i := Classical.byContradiction fun hc => hj fun hcc => absurd hcc hc
        exact ih j (by omega) j rfl (by omega) (fun hc => hj fun _ => hc)
  obtain ⟨i, hi, hx⟩ := hz
  exact key i i rfl hi hx

/-- 'no id is self and the ids stand in strictly ascending distance from self'. -/
def SortedAway (self : List Nat) (ids : List (List Nat)) : Prop :=
  (∀ i, i < ids.length → ids.getD i [] ≠ self) ∧ (∀ i, i + 1 < ids.length → nearer self (ids.getD i []) (ids.getD (i + 1) []) = true)

end Go.Proofs.Qxb6612853a
