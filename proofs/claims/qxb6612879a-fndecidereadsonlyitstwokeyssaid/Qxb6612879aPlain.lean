/-
  Plain: the table as a list of keys and answers; its map; its last row of a key; what the laws ask.
-/
import Derived.Test.Qxb6612879aW4
namespace Go.Proofs.Qxb6612879a
open Go.RowKit

abbrev Row := List Int × Ans
def row0 : Row := ([], zeroAns)

/-- The last row of a key. -/
def lastRow : List Row → List Int → Option Ans
  | [], _ => none
  | x :: r, k => match lastRow r k with
    | some a => some a
    | none => if x.1 = k then some x.2 else none

theorem lastRow_miss (k : List Int) : ∀ (T : List Row), (∀ j, j < T.length → (T.getD j row0).1 ≠ k) → lastRow T k = none
  | [], _ => rfl
  | y :: r, hall => by
    have h1 := lastRow_miss k r (fun j hlt => by have := hall (j + 1) (by simpa using hlt); simpa using this)
    have h0 := hall 0 (by simp)
    have h0' : ¬ y.1 = k := by simpa using h0
    simp [lastRow, h1, h0']

theorem lastRow_hit (k : List Int) : ∀ (T : List Row) (q : Nat), q < T.length → (T.getD q row0).1 = k → (∀ j, q < j → j < T.length → (T.getD j row0).1 ≠ k) → lastRow T k = some (T.getD q row0).2
  | [], q, h, _, _ => absurd h (Nat.not_lt_zero _)
  | x :: r, 0, _, hk, hj => by
    have hn : lastRow r k = none := lastRow_miss k r fun j hlt => by
      have := hj (j + 1) (by omega) (by simpa using hlt)
      simpa using this
    have hk' : x.1 = k := by simpa using hk
    simp [lastRow, hn, hk']
  | x :: r, q + 1, h, hk, hj => by
    have h1 := lastRow_hit k r q (by simpa using h) (by simpa using hk) (fun j h1 h2 => by
      have := hj (j + 1) (by omega) (by simpa using h2)
      simpa using this)
    simp only [lastRow, h1]
    simp
/-- One row laid into the map. -/
def step (skip : Bool) (sk : List Int) (m : List Row) (x : Row) : List Row := if skip = true ∧ x.1 = sk then m else putM m x.1 x.2
/-- The table as a map. -/
def mapT (skip : Bool) (sk : List Int) (T : List Row) : List Row := T.foldl (step skip sk) []

theorem getM_fold (skip : Bool) (sk k : List Int) : ∀ (T : List Row) (m : List Row), getM (T.foldl (step skip sk) m) k =
    if skip = true ∧ k = sk then getM m k else match lastRow T k with | some a => some a | none => getM m k
  | [], m => by simp [lastRow]
  | x :: r, m => by
    rw [List.foldl_cons, getM_fold skip sk k r (step skip sk m x)]
    by_cases hs : skip = true ∧ k = sk
    · rw [if_pos hs, if_pos hs]
      unfold step
      by_cases h : skip = true ∧ x.1 = sk
      · rw [if_pos h]
      · rw [if_neg h, getM_putM, if_neg (fun e => h ⟨hs.1, e.trans hs.2⟩)]
    · rw [if_neg hs, if_neg hs]
      simp only [lastRow]
      cases lastRow r k with
      | some a => rfl
      | none =>
        simp only
        unfold step
        by_cases h : x.1 = k
        · rw [if_pos h, if_neg (fun e => hs ⟨e.1, h.symm.trans e.2⟩), getM_putM, if_pos h]
        · rw [if_neg h]
          by_cases h2 : skip = true ∧ x.1 = sk
          · rw [if_pos h2]
          · rw [if_neg h2, getM_putM, if_neg h]
theorem getM_mapT (skip : Bool) (sk k : List Int) (T : List Row) : getM (mapT skip sk T) k = if skip = true ∧ k = sk then none else lastRow T k := by
  unfold mapT
  rw [getM_fold]
  split
  · rfl
  · cases lastRow T k <;> rfl
theorem mapT_take (skip : Bool) (sk : List Int) (T : List Row) (i : Nat) (hi : i < T.length) : mapT skip sk (T.take (i + 1)) = step skip sk (mapT skip sk (T.take i)) (T.getD i row0) := by
  unfold mapT
  rw [List.take_add_one, List.foldl_append]
  simp [hi]

theorem keyL_inj (d i p q : Int) (hi : 0 ≤ i) (hi1 : i < 4294967296) (h : keyL d i p q = keyL d 0 p q) : i = 0 := by
  simp only [keyL, List.cons.injEq] at h
  omega

/-- All rows' keys are eight bytes. -/
def T8 (T : List Row) : Prop := ∀ i, i < T.length → (T.getD i row0).1.length = 8
/-- The table's rows in memory. -/
def RowsAt (w : World) (ao : Option Addr) (T : List Row) : Prop := 0 < T.length → ∃ b off, ao = some ⟨b, off, none⟩ ∧ b < w.heap.size ∧ ∀ i, i < T.length → HasA w b (off + i * 19) (rowA (T.getD i row0).1 (T.getD i row0).2)
theorem RowsAt.below {w w' : World} {B : Nat} {ao : Option Addr} {T : List Row} (h : RowsAt w ao T) (hb : Below B w w') (hB : w.heap.size ≤ B) : RowsAt w' ao T := fun h0 => by
  obtain ⟨b, off, e, hlt, hc⟩ := h h0
  exact ⟨b, off, e, Nat.lt_of_lt_of_le hlt hb.size, fun i hi => (hc i hi).below hb (by omega)⟩
end Go.Proofs.Qxb6612879a
