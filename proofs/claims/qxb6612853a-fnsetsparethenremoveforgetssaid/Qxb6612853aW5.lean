/-
  ZZpushEntry, zzBuild.
-/
import Derived.Test.Qxb6612853aW4
namespace Go.Proofs.Qxb6612853a
open Go.RowKit

theorem info74 : (Try.prog.info? 74).map (fun i => (i.size, i.bytes)) = some (36, 80) := by kernel_rfl
theorem zero74 : ∃ i z, Try.prog.info? 74 = some i ∧ i.zero = some z ∧ i.size = 36 ∧ i.bytes = 80 ∧ z.cells.size = 36 := ⟨_, _, rfl, rfl, rfl, rfl, rfl⟩
theorem zero32 : ∃ i z, Try.prog.info? 32 = some i ∧ i.zero = some z ∧ i.size = 34 ∧ i.bytes = 64 ∧ z.cells.size = 34 := ⟨_, _, rfl, rfl, rfl, rfl, rfl⟩

theorem run_buildSlice61 (w : World) (l : List Nat) (hl : IsID l) (b : Nat) : (Instr.buildSlice 61 1 #[(0, .agg (entA l b))]).run Try.prog w = .ok (.slice (some ⟨w.heap.size, 0, none⟩) 1 1) (w.alloc (.cells (entA l b) 74)) := by
  have hs := entA_size hl b
  simp [Instr.buildSlice]
  generalize hz : Array.map _ (Array.range 36) = Z
  have hZ : Z.size = 36 := by rw [← hz]; simp
  rw [fill_step _ _ 0 (.agg (entA l b)) [] 0 36 rfl hs (by omega), fill_nil]
  have e : splice Z 0 (Value.agg (entA l b)).cells = entA l b := by
    simp [splice, Value.cells, hs]
    rw [List.drop_of_length_le (by simp [hZ])]
    simp
  rw [e]
  simp [newRow]

theorem exec_bslice {P : Program} {ρ : Operand → Value} (w w' : World) {o : Oper} (t : TypeId) (n : Nat) (parts : List (Nat × Operand)) (ho : o.op = .buildSlice t n parts.toArray) (vs : List (Nat × Value)) (hv : parts.map (fun p => (p.1, ρ p.2)) = vs) (v : Value)
    (hr : (Instr.buildSlice t n vs.toArray).run P w = .ok v w') : (execOp ρ o).run P w = .ok (.value v) w' := by
  unfold execOp
  simp only [ho, List.map_toArray, hv, Sem.run_bind, hr, Result.andThen_ok, Sem.run_pure]

theorem exec_store1 {P : Program} {ρ : Operand → Value} (w : World) {o : Oper} (t : TypeId) (x y : Operand) (ho : o.op = .store t x y) (ad : Addr) (v u : Value) (hx : ρ x = .pointer (some ad)) (hy : ρ y = v) (hz : (sizeOf t).run P w = .ok 1 w) (hc1 : v.cells = #[v]) (h1 : v.oneCell' = true)
    (hc : w.cell? ad = some u) (hf : w.frozen? ad = false) : (execOp ρ o).run P w = .ok .skip (w.setCell ad v) := by
  have hst : (store ad v).run P w = .ok () (w.setCell ad v) := by
    cases v <;> simp_all [store, Sem.run, Value.oneCell']
  unfold execOp
  simp only [ho, hx, hy, Instr.storeAt, Instr.sureAddr, storeVar, hc1, Sem.run_bind, Sem.run_pure, Result.andThen_ok, hz]
  simp [storeCells, hst, Addr.add]

theorem exec_append {P : Program} {ρ : Operand → Value} (w w' : World) {o : Oper} (t : TypeId) (x y : Operand) (ho : o.op = .call { callee := .builtin .append, args := #[x, y], argTypes := #[t, t] }) (vx vy : Value) (hx : ρ x = vx) (hy : ρ y = vy) (v : Value)
    (hr : (Builtin.append_ #[t, t] o.type #[vx, vy]).run P w = .ok v w') : (execOp ρ o).run P w = .ok (.value v) w' := by
  unfold execOp
  simp only [ho, resolve, invoke, builtin, Sem.run_bind, Sem.run_pure, Result.andThen_ok, List.map_toArray, List.map_cons, List.map_nil, hx, hy, hr]
theorem exec_load1 {P : Program} {ρ : Operand → Value} (w : World) {o : Oper} (t : TypeId) (x : Operand) (ho : o.op = .load t x) (ad : Addr) (v : Value) (hx : ρ x = .pointer (some ad)) (ha : (isAgg t).run P w = .ok false w) (hc : w.cell? ad = some v) :
    (execOp ρ o).run P w = .ok (.value v) w := by
  unfold execOp
  simp [ho, hx, Instr.loadAt, Instr.sureAddr, loadVar, ha, hc]

theorem exec_nilck {P : Program} {ρ : Operand → Value} (w : World) {o : Oper} (x : Operand) (ho : o.op = .nilCheck x) (ad : Addr) (hx : ρ x = .pointer (some ad)) : (execOp ρ o).run P w = .ok (.value (.pointer (some ad))) w := by
  unfold execOp
  simp [ho, hx]

theorem exec_field {ρ : Operand → Value} (w : World) {o : Oper} (t : TypeId) (x : Operand) (f : Nat) (ho : o.op = .fieldAddr t x f) (ad : Addr) (hx : ρ x = .pointer (some ad)) (v : Value) (hr : (Instr.fieldAt t (.pointer (some ad)) f).run Try.prog w = .ok v w) : (execOp ρ o).run Try.prog w = .ok (.value v) w := by
  unfold execOp
  simp [ho, hx, hr]

theorem field64_3 (w : World) (tb : Nat) : (Instr.fieldAt 64 (.pointer (some ⟨tb, 0, none⟩)) 3).run Try.prog w = .ok (.pointer (some ⟨tb, 36, none⟩)) w := by
  simp [go_sem]
theorem field64_6 (w : World) (tb : Nat) : (Instr.fieldAt 64 (.pointer (some ⟨tb, 0, none⟩)) 6).run Try.prog w = .ok (.pointer (some ⟨tb, 39, none⟩)) w := by
  simp [go_sem]

/-- A table whose entries are the cells xs, no spares. -/
def TblE (w : World) (base tb : Nat) (self : List Nat) (size : Int) (n : Nat) (xs : List Value) : Prop :=
  ∃ ent, IsTbl w tb self size ent (.slice none 0 0) ∧ base ≤ tb ∧ w.ownsRow base 74 36 ent n xs

theorem tblA_get {self : List Nat} (hs : IsID self) (size : Int) (ent sp : Value) : (tblA self size ent sp)[36]? = some ent ∧ (tblA self size ent sp)[39]? = some sp := by
  have := peerA_size hs
  simp [tblA, this]
theorem tblA_set {self : List Nat} (hs : IsID self) (size : Int) (ent sp v : Value) : (tblA self size ent sp).setIfInBounds 36 v = tblA self size v sp := by
  have := peerA_size hs
  simp [tblA, this]
theorem tblA_set39 {self : List Nat} (hs : IsID self) (size : Int) (ent sp v : Value) : (tblA self size ent sp).setIfInBounds 39 v = tblA self size ent v := by
  have := peerA_size hs
  simp [tblA, this]


theorem entA_one (l : List Nat) (b : Nat) : ∀ u ∈ (entA l b).toList, u.oneCell' = true := by
  intro u hu
  simp [entA, peerA, idA] at hu
  rcases hu with ⟨n, _, rfl⟩ | rfl | rfl | rfl <;> rfl
theorem peerA_one (l : List Nat) : ∀ u ∈ (peerA l).toList, u.oneCell' = true := by
  intro u hu
  simp [peerA, idA] at hu
  rcases hu with ⟨n, _, rfl⟩ | rfl <;> rfl

theorem IsTbl.cell36 {w : World} {tb : Nat} {self : List Nat} {size : Int} {ent sp : Value} (h : IsTbl w tb self size ent sp) (hs : IsID self) : w.cell? ⟨tb, 36, none⟩ = some ent := by
  rw [cell_of_row w tb 36 _ 64 (0, 0) h]; exact (tblA_get hs size ent sp).1
theorem IsTbl.cell39 {w : World} {tb : Nat} {self : List Nat} {size : Int} {ent sp : Value} (h : IsTbl w tb self size ent sp) (hs : IsID self) : w.cell? ⟨tb, 39, none⟩ = some sp := by
  rw [cell_of_row w tb 39 _ 64 (0, 0) h]; exact (tblA_get hs size ent sp).2
theorem IsTbl.frozen {w : World} {tb i : Nat} {self : List Nat} {size : Int} {ent sp : Value} (h : IsTbl w tb self size ent sp) : w.frozen? ⟨tb, i, none⟩ = false := frozen_of_row w tb i _ 64 h
theorem IsTbl.lt {w : World} {tb : Nat} {self : List Nat} {size : Int} {ent sp : Value} (h : IsTbl w tb self size ent sp) : tb < w.heap.size := (Array.getElem?_eq_some_iff.1 h).1
theorem IsTbl.set36 {w : World} {tb : Nat} {self : List Nat} {size : Int} {ent sp : Value} (h : IsTbl w tb self size ent sp) (hs : IsID self) (v : Value) : IsTbl (w.setCell ⟨tb, 36, none⟩ v) tb self size v sp := by
  unfold IsTbl
  rw [heap_setCell_same w tb 36 _ 64 v h, tblA_set hs]
theorem IsTbl.set39 {w : World} {tb : Nat} {self : List Nat} {size : Int} {ent sp : Value} (h : IsTbl w tb self size ent sp) (hs : IsID self) (v : Value) : IsTbl (w.setCell ⟨tb, 39, none⟩ v) tb self size ent v := by
  unfold IsTbl
  rw [heap_setCell_same w tb 39 _ 64 v h, tblA_set39 hs]
theorem IsTbl.of_block {w w' : World} {tb : Nat} {self : List Nat} {size : Int} {ent sp : Value} (h : IsTbl w tb self size ent sp) (hb : w'.heap[tb]? = w.heap[tb]?) : IsTbl w' tb self size ent sp := by
  unfold IsTbl; rw [hb]; exact h

/-- A row of entries is not the table's own block. -/
theorem own_ne {w : World} {base tb e size : Nat} {self : List Nat} {sz : Int} {ent sp v : Value} {n : Nat} {xs : List Value} (h : IsTbl w tb self sz ent sp) (ho : w.ownsRow base e size v n xs) (he : e ≠ 64) : some tb ≠ v.ownBlock := by
  intro hc
  rcases ho.2 with ⟨rfl, _⟩ | ⟨g, cap, cur, rfl, _, hg, _⟩
  · simp [Value.ownBlock] at hc
  · simp [Value.ownBlock] at hc
    subst hc
    rw [show w.heap[tb]? = _ from h] at hg
    simp at hg
    exact he hg.2.symm
theorem own_cells {w : World} {base e size : Nat} {v : Value} {n : Nat} {xs : List Value} (ho : w.ownsRow base e size v n xs) : v.cells = #[v] ∧ v.oneCell' = true := by
  rcases ho.2 with ⟨rfl, _⟩ | ⟨g, cap, cur, rfl, _⟩ <;> exact ⟨rfl, rfl⟩
theorem own_setCell {w : World} {base e size : Nat} {v : Value} {n : Nat} {xs : List Value} (ho : w.ownsRow base e size v n xs) (ad : Addr) (u : Value) (hne : some ad.block ≠ v.ownBlock) : (w.setCell ad u).ownsRow base e size v n xs := by
  refine ⟨ho.1, ?_⟩
  rcases ho.2 with h | ⟨g, cap, cur, rfl, hb, hg, r⟩
  · exact .inl h
  · refine .inr ⟨g, cap, cur, rfl, hb, ?_, r⟩
    rw [heap_setCell_other w ad g u (fun e => hne (by simp [Value.ownBlock, e]))]
    exact hg

set_option maxHeartbeats 800000 in
theorem push_c (self : List Nat) (hs : IsID self) (size : Int) (base tb n b : Nat) (xs : List Value) (l : List Nat) (hl : IsID l) (w : World) (ht : TblE w base tb self size n xs) (hn : n ≤ 32768) :
    Calls Try.prog 39 #[.pointer (some ⟨tb, 0, none⟩), .agg (idA l), .int .i64 (b : Int)] w fun e w' => e = .returned (.tuple #[]) ∧ TblE w' base tb self size (n + 1) (xs ++ (entA l b).toList) ∧ Below base w w' := by
  obtain ⟨ent, htb, hbt, hown⟩ := ht
  have htlt := htb.lt
  obtain ⟨i0, z0, hi0, hz0, hsz0, hby0, hzs0⟩ := zero74
  have HI : Hid (Try.prog.info? 74 = some i0) := hi0
  have HI1 : Hid (i0.zero = some z0 ∧ i0.size = 36 ∧ i0.bytes = 80 ∧ z0.cells.size = 36) := ⟨hz0, hsz0, hby0, hzs0⟩
  clear hi0 hz0 hsz0 hby0 hzs0
  go_enter Try.func39, Try.ntmps39
  go_wp2_with fail
  obtain ⟨w1, hw1⟩ : ∃ x, x = w.alloc (.cells (idA l) 27) := ⟨_, rfl⟩
  rw [← hw1]
  have hz1 : w1.heap.size = w.heap.size + 1 := by rw [hw1]; simp
  have hidl : HasA w1 w.heap.size 0 (idA l) := by rw [hw1]; exact HasA.of_block (heap_alloc_new w _)
  have hbel : Below w.heap.size w w1 := by rw [hw1]; exact (Below.refl _ _).alloc (Nat.le_refl _) _
  have htb1 : IsTbl w1 tb self size ent (.slice none 0 0) := htb.of_block (hbel.block tb htlt)
  have hown1 : w1.ownsRow base 74 36 ent n xs := by rw [hw1]; exact hown.alloc _
  clear hw1
  refine wp_region_ordT (fun w' => Below w1.heap.size w1 w' ∨ (IsTbl w' tb self size ent (.slice none 0 0) ∧ HasA w' w.heap.size 0 (idA l))) 13 [(0, false), (1, false), (2, false), (3, false), (4, false), (5, false), (6, false), (7, false), (8, false), (9, true), (10, true), (11, true), (12, true)] (by kernel_rfl) (by kernel_rfl)
    (fun _ _ _ d _ h => by cases d <;> exact h) (by kernel_rfl) rfl ?_
  have hSt : ∀ w', (Below w1.heap.size w1 w' ∨ (IsTbl w' tb self size ent (.slice none 0 0) ∧ HasA w' w.heap.size 0 (idA l))) → IsTbl w' tb self size ent (.slice none 0 0) ∧ HasA w' w.heap.size 0 (idA l) := fun w' h => by
    rcases h with h | h
    · exact ⟨htb1.of_block (h.block tb (by omega)), hidl.below h (by omega)⟩
    · exact h
  have hS : Below w1.heap.size w1 w1.drew ∨ (IsTbl w1.drew tb self size ent (.slice none 0 0) ∧ HasA w1.drew w.heap.size 0 (idA l)) := .inl (Below.refl _ _).drew
  refine ord_val 6 rfl rfl rfl hS (.pointer (some ⟨tb, 0, none⟩)) (fun _ _ => rfl) ?_
  simp only [List.set_cons_succ, List.set_cons_zero]
  refine ord_val 7 rfl rfl rfl hS (.pointer (some ⟨tb, 0, none⟩)) (fun _ _ => rfl) ?_
  simp only [List.set_cons_succ, List.set_cons_zero]
  refine ord_val 8 rfl rfl rfl hS (.pointer (some ⟨tb, 0, none⟩)) (fun wx _ => exec_nilck wx _ rfl _ rfl) ?_
  simp only [List.set_cons_succ, List.set_cons_zero]
  refine ord_val 9 rfl rfl rfl hS (.pointer (some ⟨tb, 36, none⟩)) (fun wx _ => exec_field wx 64 _ 3 rfl _ rfl _ (field64_3 wx tb)) ?_
  simp only [List.set_cons_succ, List.set_cons_zero]
  refine ord_val 10 rfl rfl rfl hS ent (fun wx hw => exec_load1 wx 61 _ rfl _ _ rfl (Try.isAgg61 wx) ((hSt wx hw).1.cell36 hs)) ?_
  simp only [List.set_cons_succ, List.set_cons_zero]
  refine ord_val 11 rfl rfl rfl hS (.agg (idA l)) (fun wx hw => exec_load_at wx 27 _ rfl w.heap.size 0 rfl _ (Try.isAgg27 wx) (by rw [idA_size, hl.1]; exact Try.sizeOf27 wx) (hSt wx hw).2) ?_
  simp only [List.set_cons_succ, List.set_cons_zero]
  refine ord_val 12 rfl rfl rfl hS (.agg (peerA l)) (fun wx _ => exec_build wx 32 _ rfl [(0, .agg (idA l))] (by simp [Act.eval]) _ (run_build32 wx l hl)) ?_
  simp only [List.set_cons_succ, List.set_cons_zero]
  refine ord_val 13 rfl rfl rfl hS (.int .i64 (b : Int)) (fun _ _ => rfl) ?_
  simp only [List.set_cons_succ, List.set_cons_zero]
  refine ord_val 14 rfl rfl rfl hS (.agg (entA l b)) (fun wx _ => exec_build wx 74 _ rfl [(0, .agg (peerA l)), (1, .int .i64 (b : Int))] (by simp [Act.eval]) _ (run_build74 wx l hl b)) ?_
  simp only [List.set_cons_succ, List.set_cons_zero]
  refine ord_effv (.slice (some ⟨w1.drew.heap.size, 0, none⟩) 1 1) rfl rfl rfl (exec_bslice w1.drew _ 61 1 _ rfl [(0, .agg (entA l b))] (by simp [Act.eval]) _ (run_buildSlice61 w1.drew l hl b)) (.inl ((Below.refl _ _).drew.alloc (Nat.le_refl _) _)) ?_
  simp only [List.set_cons_succ, List.set_cons_zero]
  have hBw2 : Below w1.heap.size w1 (w1.drew.alloc (.cells (entA l b) 74)) := (Below.refl _ _).drew.alloc (Nat.le_refl _) _
  have hown2 : (w1.drew.alloc (.cells (entA l b) 74)).ownsRow base 74 36 ent n xs := (hown1.drew).alloc _
  have hnew : ∀ j u, (entA l b).toList[j]? = some u → (w1.drew.alloc (.cells (entA l b) 74)).cell? ((⟨w1.drew.heap.size, 0, none⟩ : Addr).add j) = some u := fun j u hu => by
    rw [Addr.add_lit, Nat.zero_add, cell_of_row _ _ j _ 74 (0, 0) (heap_alloc_new w1.drew _)]
    simpa using hu
  obtain ⟨hz0, hsz0, hby0, hzs0⟩ := HI1.out
  obtain ⟨v', w3, hrun, hown3, hgr, _⟩ := run_append_own (P := Try.prog) (w1.drew.alloc (.cells (entA l b) 74)) base 61 61 74 i0 z0 36 80 Try.underlying61 HI.out hz0 hsz0 hby0 hzs0 (by omega) ent n xs hown2 ⟨w1.drew.heap.size, 0, none⟩ 1 1 (entA l b).toList (by simp [entA_size hl b]) hnew (entA_one l b)
    (by unfold maxLen; omega) (by omega) (by simp; omega)
  have hb3 : Below base w w3 := (hbel.mono (by omega)).trans ((hBw2.mono (by omega)).grown hgr (by simp; omega) (fun k hk => (hown2.lt k hk).1))
  have htb2 : IsTbl (w1.drew.alloc (.cells (entA l b) 74)) tb self size ent (.slice none 0 0) := htb1.of_block (hBw2.block tb (by omega))
  have htb3 : IsTbl w3 tb self size ent (.slice none 0 0) := htb2.of_block (hgr.block tb (by simp; omega) (own_ne htb2 hown2 (by omega)))
  have hid3 : HasA w3 w.heap.size 0 (idA l) := fun j hj => by
    have h1 := hidl.below hBw2 (by omega) j hj
    rw [← h1]
    refine World.cell?_of_block (hgr.block w.heap.size (by simp; omega) (fun hc => ?_))
    have := hown.lt w.heap.size
    rcases hown.2 with ⟨rfl, _⟩ | ⟨g, cap, cur, rfl, _, hg, _⟩
    · simp [Value.ownBlock] at hc
    · simp [Value.ownBlock] at hc
      subst hc
      simp at hg
  have hS3 : Below w1.heap.size w1 w3 ∨ (IsTbl w3 tb self size ent (.slice none 0 0) ∧ HasA w3 w.heap.size 0 (idA l)) := .inr ⟨htb3, hid3⟩
  refine ord_effv v' rfl rfl rfl (exec_append _ w3 61 (.tmp 10) (.tmp 15) rfl ent (.slice (some ⟨w1.drew.heap.size, 0, none⟩) 1 1) rfl rfl v' hrun) hS3 ?_
  simp only [List.set_cons_succ, List.set_cons_zero]
  refine ord_effv (.pointer (some ⟨tb, 0, none⟩)) rfl rfl rfl (exec_nilck w3 _ rfl _ rfl) hS3 ?_
  simp only [List.set_cons_succ, List.set_cons_zero]
  refine ord_effv (.pointer (some ⟨tb, 36, none⟩)) rfl rfl rfl (exec_field w3 64 _ 3 rfl _ rfl _ (field64_3 w3 tb)) hS3 ?_
  simp only [List.set_cons_succ, List.set_cons_zero]
  refine ord_done ?_
  refine last_run rfl rfl rfl (exec_store1 w3 61 _ _ rfl ⟨tb, 36, none⟩ v' ent rfl rfl (Try.sizeOf61 w3) (own_cells hown3).1 (own_cells hown3).2 (htb3.cell36 hs) htb3.frozen) ?_
  go_end0
  refine ⟨rfl, ⟨v', htb3.set36 hs v', hbt, own_setCell hown3 _ _ (own_ne htb3 hown3 (by omega))⟩, hb3.setCell (by exact hbt) _⟩
end Go.Proofs.Qxb6612853a
