/-
  Peers, entries and tables as cells; what 'build' makes of them.
-/
import Derived.Test.Qxb6612853aW1
namespace Go.Proofs.Qxb6612853a
open Go.RowKit

/-- A peer's cells: an identity and the zero address. -/
def peerA (l : List Nat) : Array Value := idA l ++ #[.string ⟨#[]⟩, .string ⟨#[]⟩]
/-- An entry's cells. -/
def entA (l : List Nat) (b : Nat) : Array Value := peerA l ++ #[.int .i64 (b : Int), .int .u64 0]
/-- A table's cells. -/
def tblA (self : List Nat) (size : Int) (ent sp : Value) : Array Value := peerA self ++ #[.int .i64 size, .pointer none, ent, .int .i64 0, .int .u64 0, sp]
theorem peerA_size {l : List Nat} (h : IsID l) : (peerA l).size = 34 := by simp [peerA, idA_size, h.1]
theorem entA_size {l : List Nat} (h : IsID l) (b : Nat) : (entA l b).size = 36 := by simp [entA, peerA_size h]
theorem tblA_size {l : List Nat} (h : IsID l) (s : Int) (e p : Value) : (tblA l s e p).size = 40 := by simp [tblA, peerA_size h]

/-- The cells 'vs' laid over 'cells' from 'off' on. -/
def splice (cells : Array Value) (off : Nat) (vs : Array Value) : Array Value := (cells.toList.take off ++ vs.toList ++ cells.toList.drop (off + vs.size)).toArray

theorem foldl_set (off : Nat) : ∀ (vs : List Value) (k : Nat) (cells : Array Value) (i : Nat),
    ((vs.zipIdx k).foldl (fun (cs : Array Value) (p : Value × Nat) => cs.setIfInBounds (off + p.2) p.1) cells)[i]? = if off + k ≤ i ∧ i < off + k + vs.length ∧ i < cells.size then vs[i - (off + k)]? else cells[i]?
  | [], k, cells, i => by simp; omega
  | v :: vs, k, cells, i => by
    rw [List.zipIdx_cons, List.foldl_cons, foldl_set off vs (k + 1)]
    simp only [Array.size_setIfInBounds, Array.getElem?_setIfInBounds, List.length_cons]
    by_cases h1 : i = off + k
    · subst h1
      by_cases h2 : off + k < cells.size
      · simp [h2]; omega
      · simp [h2]
    · by_cases h3 : off + (k + 1) ≤ i ∧ i < off + (k + 1) + vs.length ∧ i < cells.size
      · rw [if_pos h3, if_pos (by omega), show i - (off + k) = (i - (off + (k + 1))) + 1 by omega, List.getElem?_cons_succ]
      · rw [if_neg h3, if_neg (by omega), if_neg (by omega)]

theorem splice_eq (cells : Array Value) (off : Nat) (vs : Array Value) (h : off + vs.size ≤ cells.size) :
    vs.zipIdx.foldl (fun (cs : Array Value) (p : Value × Nat) => cs.setIfInBounds (off + p.2) p.1) cells = splice cells off vs := by
  apply Array.ext_getElem?
  intro i
  rw [← Array.foldl_toList, Array.toList_zipIdx, foldl_set off vs.toList 0 cells i]
  simp only [splice, Nat.add_zero, Array.length_toList, List.getElem?_toArray, List.append_assoc]
  by_cases h1 : i < off
  · rw [if_neg (by omega), List.getElem?_append_left (by simp; omega), List.getElem?_take, if_pos h1]; simp
  · rw [List.getElem?_append_right (by simp; omega)]
    have e : (cells.toList.take off).length = off := by simp; omega
    rw [e]
    by_cases h2 : i < off + vs.size
    · rw [if_pos (by omega), List.getElem?_append_left (by simp; omega)]
    · rw [if_neg (by omega), List.getElem?_append_right (by simp; omega), List.getElem?_drop]
      simp only [Array.length_toList, Array.getElem?_toList]
      congr 1
      omega

theorem fill_nil (place : Nat → Option (Nat × Nat)) (cells : Array Value) : Instr.fill place cells [] = some cells := rfl
theorem fill_step (place : Nat → Option (Nat × Nat)) (cells : Array Value) (i : Nat) (v : Value) (rest : List (Nat × Value)) (off size : Nat) (hp : place i = some (off, size)) (hs : v.cells.size = size) (hf : off + size ≤ cells.size) :
    Instr.fill place cells ((i, v) :: rest) = Instr.fill place (splice cells off v.cells) rest := by
  have hc : ¬ ((v.cells.size ≠ size || off + v.cells.size > cells.size) = true) := by simp [hs]; omega
  conv => lhs; unfold Instr.fill
  simp only [hp]
  rw [if_neg hc, ← splice_eq cells off v.cells (by omega)]

theorem run_build32 (w : World) (l : List Nat) (hl : IsID l) : (Instr.build 32 #[(0, .agg (idA l))]).run Try.prog w = .ok (.agg (peerA l)) w := by
  have hs := idA_size l
  rw [hl.1] at hs
  simp [Instr.build]
  rw [fill_step _ _ 0 (.agg (idA l)) [] 0 32 rfl hs (by simp [Value.cells]), fill_nil]
  simp only [Sem.run_pure, Value.cells]
  congr 2
  simp [splice, hs, peerA]

theorem run_build74 (w : World) (l : List Nat) (hl : IsID l) (b : Nat) : (Instr.build 74 #[(0, .agg (peerA l)), (1, .int .i64 (b : Int))]).run Try.prog w = .ok (.agg (entA l b)) w := by
  have hs := peerA_size hl
  simp [Instr.build]
  rw [fill_step _ _ 0 (.agg (peerA l)) _ 0 34 rfl hs (by simp [Value.cells]), fill_step _ _ 1 (.int .i64 b) [] 34 1 rfl rfl (by simp [splice, Value.cells, hs]), fill_nil]
  simp only [Sem.run_pure, Value.cells]
  congr 2
  have hL : (peerA l).toList.length = 34 := by simp [hs]
  have d35 : (peerA l).toList.drop 35 = [] := List.drop_of_length_le (by omega)
  simp [splice, hs, entA, List.drop_append, hL, d35]

theorem run_build64 (w : World) (l : List Nat) (hl : IsID l) (n : Int) : (Instr.build 64 #[(0, .agg (peerA l)), (1, .int .i64 n), (2, .pointer none)]).run Try.prog w = .ok (.agg (tblA l n (.slice none 0 0) (.slice none 0 0))) w := by
  have hs := peerA_size hl
  simp [Instr.build]
  rw [fill_step _ _ 0 (.agg (peerA l)) _ 0 34 rfl hs (by simp [Value.cells]), fill_step _ _ 1 (.int .i64 n) _ 34 1 rfl rfl (by simp [splice, Value.cells, hs]), fill_step _ _ 2 (.pointer none) [] 35 1 rfl rfl (by simp [splice, Value.cells, hs]), fill_nil]
  simp only [Sem.run_pure, Value.cells]
  congr 2
  have hL : (peerA l).toList.length = 34 := by simp [hs]
  have d35 : (peerA l).toList.drop 35 = [] := List.drop_of_length_le (by omega)
  have d36 : (peerA l).toList.drop 36 = [] := List.drop_of_length_le (by omega)
  have t35 : (peerA l).toList.take 35 = (peerA l).toList := List.take_of_length_le (by omega)
  simp [splice, hs, tblA, List.drop_append, List.take_append, hL, d35, d36, t35]

theorem exec_build {P : Program} {ρ : Operand → Value} (w : World) {o : Oper} (t : TypeId) (parts : List (Nat × Operand)) (ho : o.op = .build t parts.toArray) (vs : List (Nat × Value)) (hv : parts.map (fun p => (p.1, ρ p.2)) = vs) (v : Value)
    (hr : (Instr.build t vs.toArray).run P w = .ok v w) : (execOp ρ o).run P w = .ok (.value v) w := by
  unfold execOp
  simp only [ho, List.map_toArray, hv, Sem.run_bind, hr, Result.andThen_ok, Sem.run_pure]

theorem wpList_bld {P : Program} {ops : Array Oper} {Q : Exit → Act → World → Prop} {rest : List Oper} {a : Act} {w : World} {dst : Option Tmp} {ty : TypeId} {pos : String} {after : Array Edge} (t : TypeId) (parts : List (Nat × Operand)) (vs : List (Nat × Value)) (v : Value)
    (hv : parts.map (fun p => (p.1, a.eval p.2)) = vs) (hr : (Instr.build t vs.toArray).run P w = .ok v w) (hk : wpList P ops Q rest (a.put dst v) w) : wpList P ops Q (⟨dst, .build t parts.toArray, ty, pos, after, none⟩ :: rest) a w :=
  wpList_val rfl v (exec_build w t parts rfl vs hv v hr) hk
/-- A new table lies at the head of a block of its own. -/
def IsTbl (w : World) (tb : Nat) (self : List Nat) (size : Int) (ent sp : Value) : Prop := w.heap[tb]? = some (.cells (tblA self size ent sp) 64 (0, 0))

set_option maxHeartbeats 400000 in
theorem newTable_c (self : List Nat) (hs : IsID self) (size : Int) (h1 : 1 ≤ size) (w : World) :
    Calls Try.prog 12 #[.agg (peerA self), .int .i64 size, .pointer none] w fun e w' => ∃ tb, e = .returned (.pointer (some ⟨tb, 0, none⟩)) ∧ w.heap.size ≤ tb ∧ IsTbl w' tb self size (.slice none 0 0) (.slice none 0 0) ∧ Below w.heap.size w w' := by
  have h2 : ¬ size < 1 := by omega
  go_enter Try.func12, Try.ntmps12
  go_wp2_with (first
    | (refine wpList_ld rfl 32 _ rfl w.heap.size 0 rfl (peerA self) (Try.isAgg32 _) (by rw [peerA_size hs]; exact Try.sizeOf32 _) (HasA.of_block (heap_alloc_new w _)) ?_)
    | (refine wpList_bld 64 _ [(0, .agg (peerA self)), (1, .int .i64 size), (2, .pointer none)] _ (by simp [Act.eval]) (run_build64 _ self hs size) ?_))
  go_ret
  refine ⟨w.heap.size + 1, rfl, by omega, heap_alloc2_new w _ _, ((Below.refl _ _).alloc (Nat.le_refl _) _).alloc (by simp) _⟩
end Go.Proofs.Qxb6612853a
