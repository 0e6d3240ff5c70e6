/-
  The lookup's closure; Decide; ZZDecideMap.
-/
import Derived.Test.Qxb6612879aW3
namespace Go.Proofs.Qxb6612879a
open Go.RowKit

theorem exec_lookup {P : Program} {ρ : Operand → Value} (w : World) {o : Oper} (t : TypeId) (x y : Operand) (c : Bool) (ho : o.op = .lookup t x y c) (vx vy v : Value) (hx : ρ x = vx) (hy : ρ y = vy) (hr : (Instr.lookup t vx vy c).run P w = .ok v w) : (execOp ρ o).run P w = .ok (.value v) w := by
  unfold execOp
  simp [ho, hx, hy, hr]
theorem results_cell_slot {P : Program} {fn : Func} {p u : Tmp} {ty : TypeId} (h : fn.results = #[.cell p ty, .tmp u]) (tmps : Array Value) (w : World) (g : Nat) (t : TypeId) (cs : Array Value) (fr : Nat × Nat) (d : TypeDesc) (v : Value)
    (hp : tmps.getD p undef = .pointer (some ⟨g, 0, none⟩)) (hu2 : tmps.getD u undef = v) (hg : w.heap[g]? = some (.cells cs t fr))
    (hu : P.underlying ty = some d) (hd : (match d with | .struct _ | .array _ _ => true | _ => false) = true) (hi : (P.info? ty).map (·.size) = some cs.size) :
    (results fn tmps).run P w = .ok (.tuple #[.agg cs, v]) w := by
  have hp' : tmps[p]?.getD undef = .pointer (some ⟨g, 0, none⟩) := by simpa using hp
  have hu' : tmps[u]?.getD undef = v := by simpa using hu2
  simp [results, h, hp', hu', asAddr, run_loadVar_row w g t ty cs fr d hg hu hd hi]

set_option maxHeartbeats 1000000 in
theorem closure_c (x : List Int) (hx : x.length = 8) (bx b : Nat) (m : List (List Int × Ans)) (w : World) (hc : w.cell? ⟨bx, 0, none⟩ = some (.map (some b))) (hm : MapAt w b m) :
    Calls Try.prog 13 #[.agg (keyA x), .pointer (some ⟨bx, 0, none⟩)] w fun e w' => e = .returned (.tuple #[.agg (ansA ((getM m x).getD zeroAns)), .bool (getM m x).isSome]) ∧ Below w.heap.size w w' := by
  have hblt := hm.lt
  have hxlt : bx < w.heap.size := block_lt_of_cell hc
  have HM : Hid (MapAt w b m) := hm
  clear hm
  go_enter Try.func13, Try.ntmps13
  go_wp2_with (refine stop_alloc 39 ?_)
  refine go_on ?_
  refine lst_val _ (exec_alloc _ 39 rfl _ (run_zero39 _)) ?_
  simp only [List.set_cons_succ, List.set_cons_zero]
  have hs1 : (w.alloc (Obj.cells (keyA x) 50)).heap.size = w.heap.size + 1 := by simp
  rw [hs1]
  obtain ⟨w1, hw1⟩ : ∃ y, y = (w.alloc (Obj.cells (keyA x) 50)).alloc (Obj.cells (ansA zeroAns) 39) := ⟨_, rfl⟩
  rw [← hw1]
  have hr : w1.heap[w.heap.size]? = some (.cells (keyA x) 50 (0, 0)) := by rw [hw1]; exact heap_alloc2_old w _ _
  have hz : w1.heap[w.heap.size + 1]? = some (.cells (ansA zeroAns) 39 (0, 0)) := by rw [hw1]; exact heap_alloc2_new w _ _
  have hb1 : Below w.heap.size w w1 := by rw [hw1]; exact ((Below.refl _ _).alloc (Nat.le_refl _) _).alloc (by simp) _
  have hsz : w1.heap.size = w.heap.size + 2 := by rw [hw1]; simp
  have HC1 : Hid (w1.cell? ⟨bx, 0, none⟩ = some (.map (some b))) := (hb1.cell hxlt).trans hc
  have HM1 : Hid (MapAt w1 b m) := HM.out.below hb1 hblt
  have HB1 : Hid (Below w.heap.size w w1) := hb1
  have HZ1 : Hid (w1.heap[w.heap.size + 1]? = some (.cells (ansA zeroAns) 39 (0, 0))) := hz
  have HR1 : Hid (w1.heap[w.heap.size]? = some (.cells (keyA x) 50 (0, 0))) := hr
  have HSZ : Hid (w1.heap.size = w.heap.size + 2) := hsz
  clear hw1 hs1 hr hz hb1 hsz hc
  go_wp2_with (refine stop_load 41 ?_)
  refine go_on ?_
  refine lst_val _ (exec_load1 w1 41 _ rfl ⟨bx, 0, none⟩ _ rfl (Try.isAgg41 w1) HC1.out) ?_
  simp only [List.set_cons_succ, List.set_cons_zero]
  refine lst_val _ (exec_load_at w1 50 _ rfl w.heap.size 0 rfl (keyA x) (Try.isAgg50 _) (by rw [keyA_size, hx]; exact Try.sizeOf50 _) (HasA.of_block HR1.out)) ?_
  simp only [List.set_cons_succ, List.set_cons_zero]
  refine lst_val _ (exec_lookup w1 41 (.tmp 8) (.tmp 9) true rfl _ _ _ rfl rfl (run_lookup w1 b m HM1.out x hx)) ?_
  simp only [List.set_cons_succ, List.set_cons_zero]
  generalize hgv : (getM m x).getD zeroAns = av
  generalize hgo : (getM m x).isSome = ok
  have HGV : Hid ((getM m x).getD zeroAns = av) := hgv
  have HGO : Hid ((getM m x).isSome = ok) := hgo
  clear hgv hgo
  go_wp2_with (refine stop_alloc 39 ?_)
  refine go_on ?_
  refine lst_val _ (exec_alloc _ 39 rfl _ (run_zero39 _)) ?_
  simp only [List.set_cons_succ, List.set_cons_zero]
  refine lst_sk (exec_storeA _ 39 _ _ rfl w1.heap.size 0 (ansA av) rfl rfl (Try.sizeOf39 _) _ 39 (heap_alloc_new w1 _) (Nat.le_refl _) (ansA_one av)) ?_
  rw [splice_all (ansA zeroAns) (ansA av) rfl]
  have h3 : ((w1.alloc (.cells (ansA zeroAns) 39)).setRow w1.heap.size (ansA av)).heap[w1.heap.size]? = some (.cells (ansA av) 39 (0, 0)) := setRow_heap _ _ _ _ 39 _ (heap_alloc_new w1 _)
  have hb3 : Below w1.heap.size w1 ((w1.alloc (.cells (ansA zeroAns) 39)).setRow w1.heap.size (ansA av)) := below_setRow' ((Below.refl _ _).alloc (Nat.le_refl _) _) (Nat.le_refl _) _
  generalize (w1.alloc (.cells (ansA zeroAns) 39)).setRow w1.heap.size (ansA av) = w3 at *
  have hz3 : w3.heap[w.heap.size + 1]? = some (.cells (ansA zeroAns) 39 (0, 0)) := (hb3.block _ (by have := HSZ.out; omega)).trans HZ1.out
  have HZ3 : Hid (w3.heap[w.heap.size + 1]? = some (.cells (ansA zeroAns) 39 (0, 0))) := hz3
  have H3 : Hid (w3.heap[w1.heap.size]? = some (.cells (ansA av) 39 (0, 0))) := h3
  have HB3 : Hid (Below w.heap.size w w3) := HB1.out.trans (hb3.mono (by have := HSZ.out; omega))
  clear hz3 h3 hb3
  go_wp2_with (refine stop_load 39 ?_)
  refine go_on ?_
  refine lst_val _ (exec_load_at w3 39 _ rfl w1.heap.size 0 rfl (ansA av) (Try.isAgg39 _) (Try.sizeOf39 _) (HasA.of_block H3.out)) ?_
  simp only [List.set_cons_succ, List.set_cons_zero]
  go_wp2_with (refine stop_store 39 ?_)
  refine go_on ?_
  refine lst_sk (exec_storeA w3 39 _ _ rfl (w.heap.size + 1) 0 (ansA av) rfl rfl (Try.sizeOf39 _) _ 39 HZ3.out (Nat.le_refl _) (ansA_one av)) ?_
  rw [splice_all (ansA zeroAns) (ansA av) rfl]
  have h5 : (w3.setRow (w.heap.size + 1) (ansA av)).heap[w.heap.size + 1]? = some (.cells (ansA av) 39 (0, 0)) := setRow_heap w3 _ _ _ 39 _ HZ3.out
  have HB5 : Hid (Below w.heap.size w (w3.setRow (w.heap.size + 1) (ansA av))) := below_setRow' HB3.out (by omega) _
  generalize w3.setRow (w.heap.size + 1) (ansA av) = w5 at *
  have H5 : Hid (w5.heap[w.heap.size + 1]? = some (.cells (ansA av) 39 (0, 0))) := h5
  clear h5
  go_wp2_with fail
  exact bodyPost_ret (results_cell_slot Try.results13 _ _ (w.heap.size + 1) 39 (ansA av) (0, 0) _ (.bool ok) rfl rfl H5.out Try.underlying39 rfl (by kernel_rfl)) rfl ⟨by rw [HGV.out, HGO.out], HB5.out⟩
end Go.Proofs.Qxb6612879a
