/-
  toRule, toAnswer; the lookup's closure; Decide; ZZDecideMap.
-/
import Derived.Test.Qxb6612879aW2
namespace Go.Proofs.Qxb6612879a
open Go.RowKit

/-- A rule's cells, as the laws lay them and as the program does. -/
def ruleA (a : Ans) : Array Value := #[.int .u8 a.d, .int .u32 a.i, .int .u8 a.p, .int .u8 a.k, .int .u16 a.lo, .int .u16 a.hi, .int .u8 a.rv, .int .u16 a.rp]
/-- A row of the table. -/
def rowA (k : List Int) (a : Ans) : Array Value := keyA k ++ ansA a

set_option maxHeartbeats 1000000 in
theorem toRule_c (a : Ans) (w : World) : Calls Try.prog 14 #[.agg (ruleA a)] w fun e w' => e = .returned (.agg (ruleA a)) ∧ Below w.heap.size w w' := by
  unfold ruleA
  go_enter Try.func14, Try.ntmps14
  go_wp2_with fail
  exact bodyPost_ret (results_cell_row Try.results14 _ _ (w.heap.size + 1) 37 _ (0, 0) _ rfl (heap_alloc2_new w _ _) Try.underlying37 rfl (by kernel_rfl)) rfl ⟨rfl, ((Below.refl _ _).alloc (Nat.le_refl _) _).alloc (by simp) _⟩

theorem run_build39 (w : World) (a : Ans) : (Instr.build 39 #[(0, .int .u8 a.v), (1, .int .u16 a.pp), (2, .agg (ruleA a)), (3, .bool a.df)]).run Try.prog w = .ok (.agg (ansA a)) w := by
  simp [Instr.build, ruleA, ansA, go_sem]
theorem rowA_get {k : List Int} (hk : k.length = 8) (a : Ans) (j : Nat) : (rowA k a)[8 + j]? = (ansA a)[j]? := by
  have h8 : (keyA k).size = 8 := by rw [keyA_size]; exact hk
  unfold rowA
  rw [Array.getElem?_append_right (by omega), h8, Nat.add_sub_cancel_left]
theorem rowA_key {w : World} {b o : Nat} {k : List Int} {a : Ans} (h : HasA w b o (rowA k a)) : HasA w b o (keyA k) := fun j hj => by
  rw [h j (by unfold rowA; rw [Array.size_append]; omega)]
  unfold rowA
  rw [Array.getElem?_append_left hj]
theorem rowA_size {k : List Int} (hk : k.length = 8) (a : Ans) : (rowA k a).size = 19 := by
  unfold rowA
  rw [Array.size_append, keyA_size, hk]
  rfl

set_option maxHeartbeats 1000000 in
theorem toAnswer_c (k : List Int) (hk : k.length = 8) (a : Ans) (w : World) : Calls Try.prog 10 #[.agg (rowA k a)] w fun e w' => e = .returned (.agg (ansA a)) ∧ Below w.heap.size w w' := by
  go_enter Try.func10, Try.ntmps10
  go_wp2_with (refine stop_alloc 39 ?_)
  refine go_on ?_
  refine lst_val _ (exec_alloc _ 39 rfl _ (run_zero39 _)) ?_
  simp only [List.set_cons_succ, List.set_cons_zero]
  go_wp2_with fail
  obtain ⟨w1, hw1⟩ : ∃ x, x = (w.alloc (Obj.cells (rowA k a) 48)).alloc (Obj.cells (ansA zeroAns) 39) := ⟨_, rfl⟩
  have hs1 : (w.alloc (Obj.cells (rowA k a) 48)).heap.size = w.heap.size + 1 := by simp
  rw [hs1, ← hw1]
  have hr : w1.heap[w.heap.size]? = some (.cells (rowA k a) 48 (0, 0)) := by rw [hw1]; exact heap_alloc2_old w _ _
  have hz : w1.heap[w.heap.size + 1]? = some (.cells (ansA zeroAns) 39 (0, 0)) := by rw [hw1]; exact heap_alloc2_new w _ _
  have hb1 : Below w.heap.size w w1 := by rw [hw1]; exact ((Below.refl _ _).alloc (Nat.le_refl _) _).alloc (by simp) _
  have hsz : w1.heap.size = w.heap.size + 2 := by rw [hw1]; simp
  clear hw1 hs1
  have hcell : ∀ j, j < 11 → w1.cell? ⟨w.heap.size, 8 + j, none⟩ = (ansA a)[j]? := fun j _ => by
    rw [cell_of_row w1 w.heap.size (8 + j) _ 48 (0, 0) hr, rowA_get hk]
  have hrule : HasA w1 w.heap.size 10 (ruleA a) := fun j hj => by
    have h8 : j < 8 := hj
    have := hcell (2 + j) (by omega)
    rw [show 8 + (2 + j) = 10 + j by omega] at this
    rw [this]
    have : j = 0 ∨ j = 1 ∨ j = 2 ∨ j = 3 ∨ j = 4 ∨ j = 5 ∨ j = 6 ∨ j = 7 := by omega
    rcases this with rfl | rfl | rfl | rfl | rfl | rfl | rfl | rfl <;> rfl
  refine wp_region_ordT (fun w' => Below w1.heap.size w1 w') 10 [(0, false), (1, false), (2, false), (3, false), (4, false), (5, false), (7, false), (8, false), (6, true), (9, false)] (by kernel_rfl) (by kernel_rfl)
    (fun _ _ _ d _ h => by cases d <;> exact h) (by kernel_rfl) rfl ?_
  have hB : Below w1.heap.size w1 w1.drew := (Below.refl _ _).drew
  refine ord_val 3 rfl rfl rfl hB (.pointer (some ⟨w.heap.size, 8, none⟩)) (fun wx _ => exec_field wx 48 _ 1 rfl ⟨w.heap.size, 0, none⟩ rfl _ (by simp [go_sem])) ?_
  simp only [List.set_cons_succ, List.set_cons_zero]
  refine ord_val 4 rfl rfl rfl hB (.int .u8 a.v) (fun wx hw => exec_load1 wx 5 _ rfl ⟨w.heap.size, 8, none⟩ _ rfl (Try.isAgg5 wx) ((hw.cell (by show w.heap.size < _; omega)).trans (hcell 0 (by omega)))) ?_
  simp only [List.set_cons_succ, List.set_cons_zero]
  refine ord_val 5 rfl rfl rfl hB (.pointer (some ⟨w.heap.size, 9, none⟩)) (fun wx _ => exec_field wx 48 _ 2 rfl ⟨w.heap.size, 0, none⟩ rfl _ (by simp [go_sem])) ?_
  simp only [List.set_cons_succ, List.set_cons_zero]
  refine ord_val 6 rfl rfl rfl hB (.int .u16 a.pp) (fun wx hw => exec_load1 wx 22 _ rfl ⟨w.heap.size, 9, none⟩ _ rfl (Try.isAgg22 wx) ((hw.cell (by show w.heap.size < _; omega)).trans (hcell 1 (by omega)))) ?_
  simp only [List.set_cons_succ, List.set_cons_zero]
  refine ord_val 7 rfl rfl rfl hB (.pointer (some ⟨w.heap.size, 10, none⟩)) (fun wx _ => exec_field wx 48 _ 3 rfl ⟨w.heap.size, 0, none⟩ rfl _ (by simp [go_sem])) ?_
  simp only [List.set_cons_succ, List.set_cons_zero]
  refine ord_val 8 rfl rfl rfl hB (.agg (ruleA a)) (fun wx hw => exec_load_at wx 46 _ rfl w.heap.size 10 rfl (ruleA a) (Try.isAgg46 wx) (Try.sizeOf46 wx) (hrule.below hw (by omega))) ?_
  simp only [List.set_cons_succ, List.set_cons_zero]
  refine ord_val 10 rfl rfl rfl hB (.pointer (some ⟨w.heap.size, 18, none⟩)) (fun wx _ => exec_field wx 48 _ 4 rfl ⟨w.heap.size, 0, none⟩ rfl _ (by simp [go_sem])) ?_
  simp only [List.set_cons_succ, List.set_cons_zero]
  refine ord_val 11 rfl rfl rfl hB (.bool a.df) (fun wx hw => exec_load1 wx 4 _ rfl ⟨w.heap.size, 18, none⟩ _ rfl (Try.isAgg4 wx) ((hw.cell (by show w.heap.size < _; omega)).trans (hcell 10 (by omega)))) ?_
  simp only [List.set_cons_succ, List.set_cons_zero]
  refine ord_call 9 rfl rfl rfl 14 #[.agg (ruleA a)] (exec_call _ 14 _ _ rfl rfl _ rfl Try.call14) (toRule_c a _) ?_
  rintro e w2 ⟨rfl, hb2⟩
  have hB2 : Below w1.heap.size w1 w2 := hB.trans (hb2.mono hB.size)
  refine ⟨_, rfl, hB2, ?_⟩
  simp only [List.set_cons_succ, List.set_cons_zero]
  refine ord_val 12 rfl rfl rfl hB2 (.agg (ansA a)) (fun wx _ => exec_build wx 39 _ rfl [(0, .int .u8 a.v), (1, .int .u16 a.pp), (2, .agg (ruleA a)), (3, .bool a.df)] (by simp [Act.eval]) _ (run_build39 wx a)) ?_
  simp only [List.set_cons_succ, List.set_cons_zero]
  refine ord_done ?_
  have hz2 : w2.heap[w.heap.size + 1]? = some (.cells (ansA zeroAns) 39 (0, 0)) := (hB2.block _ (by omega)).trans hz
  refine last_run rfl rfl rfl (exec_storeA w2 39 _ _ rfl (w.heap.size + 1) 0 (ansA a) rfl rfl (Try.sizeOf39 _) _ 39 hz2 (Nat.le_refl _) (ansA_one a)) ?_
  rw [splice_all (ansA zeroAns) (ansA a) rfl]
  have h5 : (w2.setRow (w.heap.size + 1) (ansA a)).heap[w.heap.size + 1]? = some (.cells (ansA a) 39 (0, 0)) := setRow_heap w2 _ _ _ 39 _ hz2
  have HB5 : Hid (Below w.heap.size w (w2.setRow (w.heap.size + 1) (ansA a))) := below_setRow' (hb1.trans (hB2.mono (by omega))) (by omega) _
  generalize w2.setRow (w.heap.size + 1) (ansA a) = w5 at *
  have H5 : Hid (w5.heap[w.heap.size + 1]? = some (.cells (ansA a) 39 (0, 0))) := h5
  clear h5 hz2 hB hB2 hb2 hcell hrule hr hz hb1
  go_wp2_with fail
  exact bodyPost_ret (results_cell_row Try.results10 _ _ (w.heap.size + 1) 39 (ansA a) (0, 0) _ rfl H5.out Try.underlying39 rfl (by kernel_rfl)) rfl ⟨rfl, HB5.out⟩
end Go.Proofs.Qxb6612879a
