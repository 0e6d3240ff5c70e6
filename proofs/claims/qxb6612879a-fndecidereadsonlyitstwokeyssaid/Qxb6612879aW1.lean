/-
  keyOf, PutUint32, PutUint16, makeKey, Key.
-/
import Derived.Test.Qxb6612879aBase
namespace Go.Proofs.Qxb6612879a
open Go.RowKit

section
variable {P : Program} {ops : Array Oper} {Q : Exit → Act → World → Prop} {rest : List Oper} {a : Act} {w : World} {dst : Option Tmp} {ty : TypeId} {pos : String} {after : Array Edge}
theorem stop_store (t : TypeId) {x y : Operand} (h : Stopped (wpList P ops Q (⟨dst, .store t x y, ty, pos, after, none⟩ :: rest) a w)) : wpList P ops Q (⟨dst, .store t x y, ty, pos, after, none⟩ :: rest) a w := h.out
theorem stop_update (t : TypeId) {x y z : Operand} (h : Stopped (wpList P ops Q (⟨dst, .mapUpdate t x y z, ty, pos, after, none⟩ :: rest) a w)) : wpList P ops Q (⟨dst, .mapUpdate t x y z, ty, pos, after, none⟩ :: rest) a w := h.out
theorem stop_lookup (t : TypeId) {x y : Operand} {b : Bool} (h : Stopped (wpList P ops Q (⟨dst, .lookup t x y b, ty, pos, after, none⟩ :: rest) a w)) : wpList P ops Q (⟨dst, .lookup t x y b, ty, pos, after, none⟩ :: rest) a w := h.out
theorem stop_binop (op : BinOp) (t : TypeId) {x y : Operand} {t2 : TypeId} (h : Stopped (wpList P ops Q (⟨dst, .binOp op t x y t2, ty, pos, after, none⟩ :: rest) a w)) : wpList P ops Q (⟨dst, .binOp op t x y t2, ty, pos, after, none⟩ :: rest) a w := h.out
theorem stop_build (t : TypeId) {x : Array (Nat × Operand)} (h : Stopped (wpList P ops Q (⟨dst, .build t x, ty, pos, after, none⟩ :: rest) a w)) : wpList P ops Q (⟨dst, .build t x, ty, pos, after, none⟩ :: rest) a w := h.out
end
theorem keyA_one (l : List Int) : ∀ u ∈ (keyA l).toList, u.oneCell' = true := fun u hu => by
  simp [keyA] at hu
  obtain ⟨x, _, rfl⟩ := hu
  rfl

/-- The key of a query, as the documents lay it. -/
def keyL (d i p q : Int) : List Int := [d, i / 16777216, i / 65536 % 256, i / 256 % 256, i % 256, p, q / 256, q % 256]

set_option maxHeartbeats 1000000 in
theorem keyOf_c (d i p q : Int) (hi : 0 ≤ i) (hi1 : i < 4294967296) (hq : 0 ≤ q) (hq1 : q < 65536) (w : World) :
    Calls Try.prog 6 #[.int .u8 d, .int .u32 i, .int .u8 p, .int .u16 q] w fun e w' => e = .returned (.agg (keyA (keyL d i p q))) ∧ Below w.heap.size w w' := by
  go_enter Try.func6, Try.ntmps6
  go_wp2_with fail
  exact bodyPost_ret (results_cell_row Try.results6 _ _ w.heap.size 30 _ (0, 0) _ rfl (heap_alloc2_old w _ _) Try.underlying30 rfl (by kernel_rfl)) rfl ⟨rfl, ((Below.refl _ _).alloc (Nat.le_refl _) _).alloc (by simp) _⟩

set_option maxHeartbeats 1000000 in
theorem put32_c (c0 c1 c2 c3 c4 c5 c6 c7 : Value) (x : Int) (hx : 0 ≤ x) (hx1 : x < 4294967296) (b : Nat) (w : World) (h : w.heap[b]? = some (.cells #[c0, c1, c2, c3, c4, c5, c6, c7] 50 (0, 0))) :
    Calls Try.prog 17 #[.agg #[], .slice (some ⟨b, 1, none⟩) 7 7, .int .u32 x] w fun e w' => e = .returned (.tuple #[]) ∧
      w'.heap[b]? = some (.cells #[c0, .int .u8 (x / 16777216), .int .u8 (x / 65536 % 256), .int .u8 (x / 256 % 256), .int .u8 (x % 256), c5, c6, c7] 50 (0, 0)) ∧ Below b w w' := by
  have hlt : b < w.heap.size := (Array.getElem?_eq_some_iff.1 h).1
  obtain ⟨w1, hw1⟩ : ∃ y, y = w.alloc (.cells #[] 61) := ⟨_, rfl⟩
  have h1 : w1.heap[b]? = some (.cells #[c0, c1, c2, c3, c4, c5, c6, c7] 50 (0, 0)) := by
    rw [hw1]
    have := (((Below.refl w.heap.size w).alloc (Nat.le_refl _) (.cells #[] 61)).block b hlt).trans h
    exact this
  have hb : Below b w w1 := by rw [hw1]; exact (Below.refl _ _).alloc (by omega) _
  have g1 : w1.cell? ⟨b, 1, none⟩ = some c1 := cell_of_row w1 b 1 _ 50 (0, 0) h1
  have g2 : w1.cell? ⟨b, 2, none⟩ = some c2 := cell_of_row w1 b 2 _ 50 (0, 0) h1
  have g3 : w1.cell? ⟨b, 3, none⟩ = some c3 := cell_of_row w1 b 3 _ 50 (0, 0) h1
  have g4 : w1.cell? ⟨b, 4, none⟩ = some c4 := cell_of_row w1 b 4 _ 50 (0, 0) h1
  have f : ∀ i, w1.frozen? ⟨b, i, none⟩ = false := fun i => frozen_of_row w1 b i _ 50 h1
  have H1 : Hid (w1.heap[b]? = some (.cells #[c0, c1, c2, c3, c4, c5, c6, c7] 50 (0, 0))) := h1
  have HB : Hid (Below b w w1) := hb
  clear h1 hb h
  go_enter Try.func17, Try.ntmps17
  go_wp2_with (refine stop_idx 63 ?_)
  rw [← hw1]
  have f1 := f 1
  have f2 := f 2
  have f3 := f 3
  have f4 := f 4
  clear hw1 f
  refine go_on ?_
  go_wp2_with fail
  go_end0
  have e1 : (w1.setCell ⟨b, 1, none⟩ (.int .u8 (x / 16777216))).heap[b]? = some (.cells #[c0, .int .u8 (x / 16777216), c2, c3, c4, c5, c6, c7] 50 (0, 0)) := heap_setCell_same w1 b 1 _ 50 _ H1.out
  have e2 := heap_setCell_same _ b 2 _ 50 (.int .u8 (x / 65536 % 256)) e1
  have e3 := heap_setCell_same _ b 3 _ 50 (.int .u8 (x / 256 % 256)) e2
  have e4 := heap_setCell_same _ b 4 _ 50 (.int .u8 (x % 256)) e3
  exact ⟨rfl, e4, (((HB.out.setCell (Nat.le_refl _) _).setCell (Nat.le_refl _) _).setCell (Nat.le_refl _) _).setCell (Nat.le_refl _) _⟩

set_option maxHeartbeats 1000000 in
theorem put16_c (c0 c1 c2 c3 c4 c5 c6 c7 : Value) (x : Int) (hx : 0 ≤ x) (hx1 : x < 65536) (b : Nat) (w : World) (h : w.heap[b]? = some (.cells #[c0, c1, c2, c3, c4, c5, c6, c7] 50 (0, 0))) :
    Calls Try.prog 18 #[.agg #[], .slice (some ⟨b, 6, none⟩) 2 2, .int .u16 x] w fun e w' => e = .returned (.tuple #[]) ∧
      w'.heap[b]? = some (.cells #[c0, c1, c2, c3, c4, c5, .int .u8 (x / 256), .int .u8 (x % 256)] 50 (0, 0)) ∧ Below b w w' := by
  have hlt : b < w.heap.size := (Array.getElem?_eq_some_iff.1 h).1
  obtain ⟨w1, hw1⟩ : ∃ y, y = w.alloc (.cells #[] 61) := ⟨_, rfl⟩
  have h1 : w1.heap[b]? = some (.cells #[c0, c1, c2, c3, c4, c5, c6, c7] 50 (0, 0)) := by
    rw [hw1]
    have := (((Below.refl w.heap.size w).alloc (Nat.le_refl _) (.cells #[] 61)).block b hlt).trans h
    exact this
  have hb : Below b w w1 := by rw [hw1]; exact (Below.refl _ _).alloc (by omega) _
  have g6 : w1.cell? ⟨b, 6, none⟩ = some c6 := cell_of_row w1 b 6 _ 50 (0, 0) h1
  have g7 : w1.cell? ⟨b, 7, none⟩ = some c7 := cell_of_row w1 b 7 _ 50 (0, 0) h1
  have f : ∀ i, w1.frozen? ⟨b, i, none⟩ = false := fun i => frozen_of_row w1 b i _ 50 h1
  have H1 : Hid (w1.heap[b]? = some (.cells #[c0, c1, c2, c3, c4, c5, c6, c7] 50 (0, 0))) := h1
  have HB : Hid (Below b w w1) := hb
  clear h1 hb h
  go_enter Try.func18, Try.ntmps18
  go_wp2_with (refine stop_idx 63 ?_)
  rw [← hw1]
  have f6 := f 6
  have f7 := f 7
  clear hw1 f
  refine go_on ?_
  go_wp2_with fail
  go_end0
  have e1 := heap_setCell_same w1 b 6 _ 50 (.int .u8 (x / 256)) H1.out
  have e2 := heap_setCell_same _ b 7 _ 50 (.int .u8 (x % 256)) e1
  exact ⟨rfl, e2, (HB.out.setCell (Nat.le_refl _) _).setCell (Nat.le_refl _) _⟩

theorem run_sl50 (w : World) (b k : Nat) (hk : k = 1 ∨ k = 6) : (Instr.sliceAt 50 (.pointer (some ⟨b, 0, none⟩)) (some (.int .i64 (k : Int))) none none).run Try.prog w = .ok (.slice (some ⟨b, k, none⟩) (8 - k) (8 - k)) w := by
  rcases hk with rfl | rfl <;> simp [go_sem]

set_option maxHeartbeats 1000000 in
theorem makeKey_c (d i p q : Int) (hi : 0 ≤ i) (hi1 : i < 4294967296) (hq : 0 ≤ q) (hq1 : q < 65536) (w : World) :
    Calls Try.prog 16 #[.int .u8 d, .int .u32 i, .agg #[.int .u8 p, .int .u16 q, .int .i64 24]] w fun e w' => e = .returned (.agg (keyA (keyL d i p q))) ∧ Below w.heap.size w w' := by
  go_enter Try.func16, Try.ntmps16
  go_wp2_with fail
  obtain ⟨w1, hw1⟩ : ∃ x, x = ((w.alloc (Obj.cells #[Value.int IntKind.u8 p, Value.int IntKind.u16 q, Value.int IntKind.i64 24] 59)).alloc (Obj.cells #[Value.int IntKind.u8 0, Value.int IntKind.u8 0, Value.int IntKind.u8 0, Value.int IntKind.u8 0, Value.int IntKind.u8 0, Value.int IntKind.u8 0, Value.int IntKind.u8 0, Value.int IntKind.u8 0] 50)).alloc (Obj.cells #[Value.int IntKind.u8 d, Value.int IntKind.u8 0, Value.int IntKind.u8 0, Value.int IntKind.u8 0, Value.int IntKind.u8 0, Value.int IntKind.u8 0, Value.int IntKind.u8 0, Value.int IntKind.u8 0] 50) := ⟨_, rfl⟩
  rw [← hw1]
  have hp0 : w1.heap[w.heap.size]? = some (.cells #[.int .u8 p, .int .u16 q, .int .i64 24] 59 (0, 0)) := by
    rw [hw1]
    exact (((Below.refl _ _).alloc (Nat.le_refl _) _).block w.heap.size (by simp; omega)).trans (heap_alloc2_old w _ _)
  have hk1 : w1.heap[w.heap.size + 1]? = some (.cells (keyA [0, 0, 0, 0, 0, 0, 0, 0]) 50 (0, 0)) := by
    rw [hw1]
    exact (((Below.refl _ _).alloc (Nat.le_refl _) _).block (w.heap.size + 1) (by simp)).trans (heap_alloc2_new w _ _)
  have hk2 : w1.heap[w.heap.size + 1 + 1]? = some (.cells #[.int .u8 d, .int .u8 0, .int .u8 0, .int .u8 0, .int .u8 0, .int .u8 0, .int .u8 0, .int .u8 0] 50 (0, 0)) := by
    rw [hw1]
    have := heap_alloc_new ((w.alloc (Obj.cells #[Value.int IntKind.u8 p, Value.int IntKind.u16 q, Value.int IntKind.i64 24] 59)).alloc (Obj.cells #[Value.int IntKind.u8 0, Value.int IntKind.u8 0, Value.int IntKind.u8 0, Value.int IntKind.u8 0, Value.int IntKind.u8 0, Value.int IntKind.u8 0, Value.int IntKind.u8 0, Value.int IntKind.u8 0] 50)) (Obj.cells #[Value.int IntKind.u8 d, Value.int IntKind.u8 0, Value.int IntKind.u8 0, Value.int IntKind.u8 0, Value.int IntKind.u8 0, Value.int IntKind.u8 0, Value.int IntKind.u8 0, Value.int IntKind.u8 0] 50)
    simpa using this
  have hb1 : Below w.heap.size w w1 := by
    rw [hw1]
    exact (((Below.refl _ _).alloc (Nat.le_refl _) _).alloc (by simp) _).alloc (by simp; omega) _
  clear hw1
  obtain ⟨B, hB⟩ : ∃ B, B = w.heap.size := ⟨_, rfl⟩
  rw [← hB] at hp0 hk1 hk2 ⊢
  have HBE : Hid (B = w.heap.size) := hB
  clear hB
  refine wp_region_ord (fun _ => True) [(0, false), (1, false), (2, false), (3, true)] (by kernel_rfl) (by kernel_rfl)
    (fun _ _ _ d _ h => by cases d <;> exact h) (by kernel_rfl) rfl ?_
  refine ord_val 10 rfl rfl rfl trivial (.agg #[]) (fun wx _ => exec_load_at wx 61 (.global 0) rfl _ _ rfl #[] (Try.isAgg61 wx) (Try.sizeOf61 wx) (fun j hj => absurd hj (Nat.not_lt_zero _))) ?_
  simp only [List.set_cons_succ, List.set_cons_zero]
  refine ord_val 11 rfl rfl rfl trivial (.slice (some ⟨B + 1 + 1, 1, none⟩) 7 7) (fun wx _ => exec_slice wx 50 (.tmp 7) (some (.const (.int .i64 1))) none none rfl _ _ rfl (some (.int .i64 1)) none rfl rfl rfl (run_sl50 wx (B + 1 + 1) 1 (.inl rfl))) ?_
  simp only [List.set_cons_succ, List.set_cons_zero]
  refine ord_val 12 rfl rfl rfl trivial (.int .u32 i) (fun _ _ => rfl) ?_
  simp only [List.set_cons_succ, List.set_cons_zero]
  refine ord_call 13 rfl rfl rfl 17 #[.agg #[], .slice (some ⟨B + 1 + 1, 1, none⟩) 7 7, .int .u32 i] (exec_call _ 17 _ _ rfl rfl _ rfl Try.call17) (put32_c _ _ _ _ _ _ _ _ i hi hi1 (B + 1 + 1) _ hk2) ?_
  rintro e w2 ⟨rfl, h2, hb2⟩
  refine ⟨_, rfl, trivial, ?_⟩
  simp only [List.set_cons_succ, List.set_cons_zero]
  refine ord_done ?_
  have hp2 : w2.heap[B]? = some (.cells #[.int .u8 p, .int .u16 q, .int .i64 24] 59 (0, 0)) := (hb2.block B (by omega)).trans hp0
  have hk21 : w2.heap[B + 1]? = some (.cells (keyA [0, 0, 0, 0, 0, 0, 0, 0]) 50 (0, 0)) := (hb2.block (B + 1) (by omega)).trans hk1
  have HB2 : Hid (Below w.heap.size w w2) := hb1.trans ((Below.refl _ _).drew.trans (hb2.mono (by have := HBE.out; omega)))
  have HP2 : Hid (w2.heap[B]? = some (.cells #[.int .u8 p, .int .u16 q, .int .i64 24] 59 (0, 0))) := hp2
  have HK21 : Hid (w2.heap[B + 1]? = some (.cells (keyA [0, 0, 0, 0, 0, 0, 0, 0]) 50 (0, 0))) := hk21
  have H2 : Hid (w2.heap[B + 1 + 1]? = some (.cells #[.int .u8 d, .int .u8 (i / 16777216), .int .u8 (i / 65536 % 256), .int .u8 (i / 256 % 256), .int .u8 (i % 256), .int .u8 0, .int .u8 0, .int .u8 0] 50 (0, 0))) := h2
  have c0 : w2.cell? ⟨B, 0, none⟩ = some (.int .u8 p) := cell_of_row w2 B 0 _ 59 (0, 0) hp2
  have c5 : w2.cell? ⟨B + 1 + 1, 5, none⟩ = some (.int .u8 0) := cell_of_row w2 (B + 1 + 1) 5 _ 50 (0, 0) h2
  have f5 : w2.frozen? ⟨B + 1 + 1, 5, none⟩ = false := frozen_of_row w2 (B + 1 + 1) 5 _ 50 h2
  clear hb2 hp2 hk21 h2 hp0 hk1 hk2 hb1
  go_wp2_with fail
  have h3 := heap_setCell_same w2 (B + 1 + 1) 5 _ 50 (.int .u8 p) H2.out
  obtain ⟨w3, hw3⟩ : ∃ x, x = w2.setCell ⟨B + 1 + 1, 5, none⟩ (.int .u8 p) := ⟨_, rfl⟩
  rw [← hw3] at h3 ⊢
  have hp3 : w3.heap[B]? = some (.cells #[.int .u8 p, .int .u16 q, .int .i64 24] 59 (0, 0)) := by
    rw [hw3, heap_setCell_other _ _ _ _ (by simp; omega)]; exact HP2.out
  have hk3 : w3.heap[B + 1]? = some (.cells (keyA [0, 0, 0, 0, 0, 0, 0, 0]) 50 (0, 0)) := by
    rw [hw3, heap_setCell_other _ _ _ _ (by simp)]; exact HK21.out
  have hb3 : Below w.heap.size w w3 := by rw [hw3]; exact HB2.out.setCell (by show w.heap.size ≤ B + 1 + 1; have := HBE.out; omega) _
  clear hw3 c0 c5 f5
  refine wp_region_ord (fun w' => w'.cell? ⟨B, 1, none⟩ = some (.int .u16 q)) [(0, false), (1, false), (2, false), (3, false), (4, true)] (by kernel_rfl) (by kernel_rfl)
    (fun _ _ _ d _ h => by cases d <;> exact h) (by kernel_rfl) rfl ?_
  have hB : w3.drew.cell? ⟨B, 1, none⟩ = some (.int .u16 q) := cell_of_row w3 B 1 _ 59 (0, 0) hp3
  refine ord_val 17 rfl rfl rfl hB (.agg #[]) (fun wx _ => exec_load_at wx 61 (.global 0) rfl _ _ rfl #[] (Try.isAgg61 wx) (Try.sizeOf61 wx) (fun j hj => absurd hj (Nat.not_lt_zero _))) ?_
  simp only [List.set_cons_succ, List.set_cons_zero]
  refine ord_val 18 rfl rfl rfl hB (.slice (some ⟨B + 1 + 1, 6, none⟩) 2 2) (fun wx _ => exec_slice wx 50 (.tmp 7) (some (.const (.int .i64 6))) none none rfl _ _ rfl (some (.int .i64 6)) none rfl rfl rfl (run_sl50 wx (B + 1 + 1) 6 (.inr rfl))) ?_
  simp only [List.set_cons_succ, List.set_cons_zero]
  refine ord_val 19 rfl rfl rfl hB (.pointer (some ⟨B, 1, none⟩)) (fun wx _ => exec_field wx 59 _ 1 rfl ⟨B, 0, none⟩ rfl _ (by simp [go_sem])) ?_
  simp only [List.set_cons_succ, List.set_cons_zero]
  refine ord_val 20 rfl rfl rfl hB (.int .u16 q) (fun wx hw => exec_load1 wx 22 _ rfl ⟨B, 1, none⟩ _ rfl (Try.isAgg22 wx) hw) ?_
  simp only [List.set_cons_succ, List.set_cons_zero]
  refine ord_call 21 rfl rfl rfl 18 #[.agg #[], .slice (some ⟨B + 1 + 1, 6, none⟩) 2 2, .int .u16 q] (exec_call _ 18 _ _ rfl rfl _ rfl Try.call18) (put16_c _ _ _ _ _ _ _ _ q hq hq1 (B + 1 + 1) _ h3) ?_
  rintro e w4 ⟨rfl, h4, hb4⟩
  refine ⟨_, rfl, (hb4.cell (by show B < B + 1 + 1; omega)).trans hB, ?_⟩
  simp only [List.set_cons_succ, List.set_cons_zero]
  refine ord_done ?_
  have hk4 : w4.heap[B + 1]? = some (.cells (keyA [0, 0, 0, 0, 0, 0, 0, 0]) 50 (0, 0)) := (hb4.block (B + 1) (by omega)).trans hk3
  have HB4 : Hid (Below w.heap.size w w4) := hb3.trans ((Below.refl _ _).drew.trans (hb4.mono (by have := HBE.out; omega)))
  have h4' : w4.heap[B + 1 + 1]? = some (.cells (keyA (keyL d i p q)) 50 (0, 0)) := h4
  have H4 : Hid (w4.heap[B + 1 + 1]? = some (.cells (keyA (keyL d i p q)) 50 (0, 0))) := h4'
  have HK4 : Hid (w4.heap[B + 1]? = some (.cells (keyA [0, 0, 0, 0, 0, 0, 0, 0]) 50 (0, 0))) := hk4
  clear hb4 hk4 h4 h4' h3 hp3 hk3 hb3 hB HP2 HK21 H2 HB2
  have hsz : (keyA (keyL d i p q)).size = 8 := rfl
  go_wp2_with (refine stop_load 50 ?_)
  refine go_on ?_
  refine lst_val _ (exec_load_at w4 50 _ rfl (B + 1 + 1) 0 rfl (keyA (keyL d i p q)) (Try.isAgg50 _) (Try.sizeOf50 _) (HasA.of_block H4.out)) ?_
  simp only [List.set_cons_succ, List.set_cons_zero]
  refine lst_sk (exec_storeA w4 50 _ _ rfl (B + 1) 0 (keyA (keyL d i p q)) rfl rfl (Try.sizeOf50 _) _ 50 HK4.out (by rw [hsz]; exact Nat.le_refl _) (fun u hu => by
    simp [keyA] at hu
    obtain ⟨x, _, rfl⟩ := hu
    rfl)) ?_
  rw [splice_all (keyA [0, 0, 0, 0, 0, 0, 0, 0]) (keyA (keyL d i p q)) rfl]
  have h5 : (w4.setRow (B + 1) (keyA (keyL d i p q))).heap[B + 1]? = some (.cells (keyA (keyL d i p q)) 50 (0, 0)) := setRow_heap w4 _ _ _ 50 _ HK4.out
  have HB5 : Hid (Below w.heap.size w (w4.setRow (B + 1) (keyA (keyL d i p q)))) := below_setRow' HB4.out (by have := HBE.out; omega) _
  generalize w4.setRow (B + 1) (keyA (keyL d i p q)) = w5 at *
  have H5 : Hid (w5.heap[B + 1]? = some (.cells (keyA (keyL d i p q)) 50 (0, 0))) := h5
  clear h5 hsz
  go_wp2_with fail
  exact bodyPost_ret (results_cell_row Try.results16 _ _ (B + 1) 50 (keyA (keyL d i p q)) (0, 0) _ rfl H5.out Try.underlying50 rfl (by kernel_rfl)) rfl ⟨rfl, HB5.out⟩

/-- A query's cells. -/
def qryA (e d i p q : Int) : Array Value := #[.int .u16 e, .int .u8 d, .int .u32 i, .int .u8 p, .int .u16 q]

set_option maxHeartbeats 1000000 in
theorem key_c (e d i p q k : Int) (hk : 0 ≤ k) (hk1 : k < 4294967296) (hq : 0 ≤ q) (hq1 : q < 65536) (w : World) :
    Calls Try.prog 15 #[.agg (qryA e d i p q), .int .u32 k] w fun e w' => e = .returned (.agg (keyA (keyL d k p q))) ∧ Below w.heap.size w w' := by
  unfold qryA
  go_enter Try.func15, Try.ntmps15
  go_wp2_with (refine (makeKey_c d k p q hk hk1 hq hq1 _).mono ?_)
  rintro e2 w2 ⟨rfl, hb⟩
  have h1 : w2.heap[w.heap.size + 1]? = some (.cells (keyA [0, 0, 0, 0, 0, 0, 0, 0]) 50 (0, 0)) := (hb.block (w.heap.size + 1) (by simp)).trans (heap_alloc2_new w _ _)
  have HB : Hid (Below w.heap.size w w2) := (((Below.refl w.heap.size w).alloc (Nat.le_refl _) _).alloc (by simp) _).trans (hb.mono (by simp; omega))
  have H1 : Hid (w2.heap[w.heap.size + 1]? = some (.cells (keyA [0, 0, 0, 0, 0, 0, 0, 0]) 50 (0, 0))) := h1
  clear hb h1
  have hsz : (keyA (keyL d k p q)).size = 8 := rfl
  go_wp2_with (refine stop_store 50 ?_)
  refine go_on ?_
  refine lst_sk (exec_storeA w2 50 _ _ rfl (w.heap.size + 1) 0 (keyA (keyL d k p q)) rfl rfl (Try.sizeOf50 _) _ 50 H1.out (by rw [hsz]; exact Nat.le_refl _) (keyA_one _)) ?_
  rw [splice_all (keyA [0, 0, 0, 0, 0, 0, 0, 0]) (keyA (keyL d k p q)) rfl]
  have h5 : (w2.setRow (w.heap.size + 1) (keyA (keyL d k p q))).heap[w.heap.size + 1]? = some (.cells (keyA (keyL d k p q)) 50 (0, 0)) := setRow_heap w2 _ _ _ 50 _ H1.out
  have HB5 : Hid (Below w.heap.size w (w2.setRow (w.heap.size + 1) (keyA (keyL d k p q)))) := below_setRow' HB.out (by omega) _
  generalize w2.setRow (w.heap.size + 1) (keyA (keyL d k p q)) = w5 at *
  have H5 : Hid (w5.heap[w.heap.size + 1]? = some (.cells (keyA (keyL d k p q)) 50 (0, 0))) := h5
  clear h5 hsz
  go_wp2_with fail
  exact bodyPost_ret (results_cell_row Try.results15 _ _ (w.heap.size + 1) 50 (keyA (keyL d k p q)) (0, 0) _ rfl H5.out Try.underlying50 rfl (by kernel_rfl)) rfl ⟨rfl, HB5.out⟩
end Go.Proofs.Qxb6612879a
