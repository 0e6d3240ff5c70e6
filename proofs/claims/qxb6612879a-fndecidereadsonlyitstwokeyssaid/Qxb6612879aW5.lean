/-
  Decide; ZZDecideMap.
-/
import Derived.Test.Qxb6612879aW4
namespace Go.Proofs.Qxb6612879a
open Go.RowKit

section
variable {P : Program} {ops : Array Oper} {Q : Exit → Act → World → Prop} {rest : List Oper} {a : Act} {w w' : World} {dst : Option Tmp} {ty : TypeId} {pos : String} {after : Array Edge} {l : List Value} {ds : List Deferred} {op : Op} {g : Option (Nat × Bool)}
theorem stop_un (u : UnOp) (t : TypeId) {x : Operand} (h : Stopped (wpList P ops Q (⟨dst, .unOp u t x, ty, pos, after, g⟩ :: rest) a w)) : wpList P ops Q (⟨dst, .unOp u t x, ty, pos, after, g⟩ :: rest) a w := h.out
theorem lst_valg {n : Nat} (v : Value) (hw : Region.wanted ⟨some n, op, ty, pos, after, g⟩ (yielded ops l.toArray) = true) (hv : (execOp (Act.eval ⟨l.toArray, ds⟩) ⟨some n, op, ty, pos, after, g⟩).run P w = .ok (.value v) w') (hk : wpList P ops Q rest ⟨(l.set n v).toArray, ds⟩ w') :
    wpList P ops Q (⟨some n, op, ty, pos, after, g⟩ :: rest) ⟨l.toArray, ds⟩ w :=
  BigFrame.wpList_want hw fun _ hK => by
    unfold Oper.wp
    rw [hv]
    refine hK _ _ ?_
    rw [put_lit]
    exact hk
theorem exec_move {ρ : Operand → Value} (w : World) {o : Oper} (x : Operand) (ho : o.op = .move x) (v : Value) (hx : ρ x = v) : (execOp ρ o).run P w = .ok (.value v) w := by
  unfold execOp
  simp [ho, hx]
theorem lst_skipg {n : Nat} (hw : Region.wanted ⟨some n, op, ty, pos, after, g⟩ (yielded ops l.toArray) = false) (hk : wpList P ops Q rest ⟨(l.set n undef).toArray, ds⟩ w) :
    wpList P ops Q (⟨some n, op, ty, pos, after, g⟩ :: rest) ⟨l.toArray, ds⟩ w :=
  wpList_skip hw (by rw [put_lit]; exact hk)
end

/-- What Decide answers. -/
def decideM (m : List (List Int × Ans)) (d i p q : Int) : Ans :=
  let s := getM m (keyL d i p q)
  let g := getM m (keyL d 0 p q)
  let r : Option Ans := if i = 0 then s else match g with
    | some ga => match s with
      | none => some ga
      | some sa => if sa.v = 1 ∧ ga.v = 0 then some ga else some sa
    | none => s
  r.getD deny

theorem decideM_case (m : List (List Int × Ans)) (d i p q : Int) (hi0 : ¬ i = 0) (sa ga : Ans) (so go : Bool) (h1 : sa = (getM m (keyL d i p q)).getD zeroAns) (h2 : so = (getM m (keyL d i p q)).isSome) (h3 : ga = (getM m (keyL d 0 p q)).getD zeroAns) (h4 : go = (getM m (keyL d 0 p q)).isSome) :
    decideM m d i p q = if go = true ∧ (so = false ∨ (sa.v = 1 ∧ ga.v = 0)) then ga else if so = true then sa else deny := by
  unfold decideM
  subst h1 h2 h3 h4
  generalize getM m (keyL d i p q) = s
  generalize getM m (keyL d 0 p q) = g
  cases g with
  | none => cases s <;> simp [hi0]
  | some x =>
    cases s with
    | none => simp [hi0]
    | some y =>
      by_cases h : y.v = 1 ∧ x.v = 0
      · simp [hi0, h]
      · simp [hi0, h]

theorem run_deny (w : World) : (Instr.build 39 #[(0, .int .u8 0), (3, .bool true)]).run Try.prog w = .ok (.agg (ansA deny)) w := by
  simp [Instr.build, ansA, deny, go_sem]

set_option maxHeartbeats 2000000 in
theorem decide_c (e d i p q : Int) (hi : 0 ≤ i) (hi1 : i < 4294967296) (hq : 0 ≤ q) (hq1 : q < 65536) (bx b : Nat) (m : List (List Int × Ans)) (w : World) (hc : w.cell? ⟨bx, 0, none⟩ = some (.map (some b))) (hm : MapAt w b m) :
    Calls Try.prog 12 #[.agg (qryA e d i p q), .func (.func 13) #[] #[.pointer (some ⟨bx, 0, none⟩)]] w fun e w' => e = .returned (.agg (ansA (decideM m d i p q))) ∧ Below w.heap.size w w' := by
  have hblt := hm.lt
  have hxlt : bx < w.heap.size := block_lt_of_cell hc
  have HCL : Hid (∀ wx, Below w.heap.size w wx → ∀ x : List Int, x.length = 8 → Calls Try.prog 13 #[.agg (keyA x), .pointer (some ⟨bx, 0, none⟩)] wx fun e w' => e = .returned (.tuple #[.agg (ansA ((getM m x).getD zeroAns)), .bool (getM m x).isSome]) ∧ Below wx.heap.size wx w') := fun wx hwx x hx =>
    closure_c x hx bx b m wx ((hwx.cell hxlt).trans hc) (hm.below hwx hblt)
  clear hm hc
  have hkl : ∀ k : Int, (keyL d k p q).length = 8 := fun k => rfl
  go_enter Try.func12, Try.ntmps12
  go_wp2_with (refine stop_alloc 39 ?_)
  refine go_on ?_
  refine lst_val _ (exec_alloc _ 39 rfl _ (run_zero39 _)) ?_
  simp only [List.set_cons_succ, List.set_cons_zero]
  have hs1 : (w.alloc (Obj.cells (qryA e d i p q) 29)).heap.size = w.heap.size + 1 := by simp
  rw [hs1]
  obtain ⟨w1, hw1⟩ : ∃ y, y = (w.alloc (Obj.cells (qryA e d i p q) 29)).alloc (Obj.cells (ansA zeroAns) 39) := ⟨_, rfl⟩
  rw [← hw1]
  have HR1 : Hid (w1.heap[w.heap.size]? = some (.cells (qryA e d i p q) 29 (0, 0))) := by show w1.heap[w.heap.size]? = _; rw [hw1]; exact heap_alloc2_old w _ _
  have HZ1 : Hid (w1.heap[w.heap.size + 1]? = some (.cells (ansA zeroAns) 39 (0, 0))) := by show w1.heap[w.heap.size + 1]? = _; rw [hw1]; exact heap_alloc2_new w _ _
  have HB1 : Hid (Below w.heap.size w w1) := by show Below _ _ _; rw [hw1]; exact ((Below.refl _ _).alloc (Nat.le_refl _) _).alloc (by simp) _
  have HSZ : Hid (w1.heap.size = w.heap.size + 2) := by show w1.heap.size = _; rw [hw1]; simp
  clear hw1 hs1
  go_wp2_with (refine stop_load 29 ?_)
  refine go_on ?_
  refine lst_val _ (exec_load_at w1 29 _ rfl w.heap.size 0 rfl (qryA e d i p q) (Try.isAgg29 _) (Try.sizeOf29 _) (HasA.of_block HR1.out)) ?_
  simp only [List.set_cons_succ, List.set_cons_zero]
  have cI : w1.cell? ⟨w.heap.size, 2, none⟩ = some (.int .u32 i) := cell_of_row w1 w.heap.size 2 _ 29 (0, 0) HR1.out
  go_wp2_with (refine (key_c e d i p q i hi hi1 hq hq1 _).mono ?_)
  rintro e2 w2 ⟨rfl, hb2⟩
  have HB12 : Hid (Below w1.heap.size w1 w2) := hb2
  have HB2 : Hid (Below w.heap.size w w2) := HB1.out.trans (hb2.mono (by have := HSZ.out; omega))
  clear hb2
  go_wp2_with (refine (HCL.out w2 HB2.out _ (hkl i)).mono ?_)
  rintro e3 w3 ⟨rfl, hb3⟩
  have HB3 : Hid (Below w.heap.size w w3) := HB2.out.trans (hb3.mono HB2.out.size)
  have HB13 : Hid (Below w1.heap.size w1 w3) := HB12.out.trans (hb3.mono HB12.out.size)
  clear hb3 HB12 HB2
  obtain ⟨sa, hsa⟩ : ∃ y, y = (getM m (keyL d i p q)).getD zeroAns := ⟨_, rfl⟩
  obtain ⟨so, hso⟩ : ∃ y, y = (getM m (keyL d i p q)).isSome := ⟨_, rfl⟩
  rw [← hsa, ← hso]
  have HSA : Hid (sa = (getM m (keyL d i p q)).getD zeroAns) := hsa
  have HSO : Hid (so = (getM m (keyL d i p q)).isSome) := hso
  clear hsa hso
  go_wp2_with (refine stop_alloc 39 ?_)
  refine go_on ?_
  refine lst_val _ (exec_alloc _ 39 rfl _ (run_zero39 _)) ?_
  simp only [List.set_cons_succ, List.set_cons_zero]
  refine lst_sk (exec_storeA _ 39 _ _ rfl w3.heap.size 0 (ansA sa) rfl rfl (Try.sizeOf39 _) _ 39 (heap_alloc_new w3 _) (Nat.le_refl _) (ansA_one sa)) ?_
  rw [splice_all (ansA zeroAns) (ansA sa) rfl]
  have h4 : ((w3.alloc (.cells (ansA zeroAns) 39)).setRow w3.heap.size (ansA sa)).heap[w3.heap.size]? = some (.cells (ansA sa) 39 (0, 0)) := setRow_heap _ _ _ _ 39 _ (heap_alloc_new w3 _)
  have hb4 : Below w3.heap.size w3 ((w3.alloc (.cells (ansA zeroAns) 39)).setRow w3.heap.size (ansA sa)) := below_setRow' ((Below.refl _ _).alloc (Nat.le_refl _) _) (Nat.le_refl _) _
  generalize (w3.alloc (.cells (ansA zeroAns) 39)).setRow w3.heap.size (ansA sa) = w4 at *
  have HB4 : Hid (Below w.heap.size w w4) := HB3.out.trans (hb4.mono HB3.out.size)
  have HB14 : Hid (Below w1.heap.size w1 w4) := HB13.out.trans (hb4.mono HB13.out.size)
  obtain ⟨b5, hb5⟩ : ∃ y, y = w3.heap.size := ⟨_, rfl⟩
  rw [← hb5] at h4 ⊢
  have hb5lt : b5 < w4.heap.size := (Array.getElem?_eq_some_iff.1 h4).1
  have hb5ge : w1.heap.size ≤ b5 := by rw [hb5]; exact HB13.out.size
  have H4 : Hid (w4.heap[b5]? = some (.cells (ansA sa) 39 (0, 0))) := h4
  have HR4 : Hid (w4.heap[w.heap.size]? = some (.cells (qryA e d i p q) 29 (0, 0))) := (HB14.out.block _ (by have := HSZ.out; omega)).trans HR1.out
  have HZ4 : Hid (w4.heap[w.heap.size + 1]? = some (.cells (ansA zeroAns) 39 (0, 0))) := (HB14.out.block _ (by have := HSZ.out; omega)).trans HZ1.out
  have HGE : Hid (w.heap.size + 2 ≤ b5) := by show w.heap.size + 2 ≤ b5; rw [← HSZ.out]; exact hb5ge
  clear hb4 h4 hb5 cI hb5ge
  have cI4 : w4.cell? ⟨w.heap.size, 2, none⟩ = some (.int .u32 i) := cell_of_row w4 w.heap.size 2 _ 29 (0, 0) HR4.out
  by_cases hi0 : i = 0
  · subst hi0
    cases so with
    | true =>
      have HG : Hid (decideM m d 0 p q = sa) := by
        show decideM m d 0 p q = sa
        unfold decideM
        have h1 := HSO.out
        rw [HSA.out]
        cases hg : getM m (keyL d 0 p q) with
        | none => rw [hg] at h1; cases h1
        | some y => simp
      go_wp2_with (refine stop_load 39 ?_)
      refine go_on ?_
      refine lst_val _ (exec_load_at w4 39 _ rfl b5 0 rfl (ansA sa) (Try.isAgg39 _) (Try.sizeOf39 _) (HasA.of_block H4.out)) ?_
      simp only [List.set_cons_succ, List.set_cons_zero]
      refine lst_sk (exec_storeA w4 39 _ _ rfl (w.heap.size + 1) 0 (ansA sa) rfl rfl (Try.sizeOf39 _) _ 39 HZ4.out (Nat.le_refl _) (ansA_one _)) ?_
      rw [splice_all (ansA zeroAns) (ansA sa) rfl]
      have h9 : (w4.setRow (w.heap.size + 1) (ansA sa)).heap[w.heap.size + 1]? = some (.cells (ansA sa) 39 (0, 0)) := setRow_heap w4 _ _ _ 39 _ HZ4.out
      have HB9 : Hid (Below w.heap.size w (w4.setRow (w.heap.size + 1) (ansA sa))) := below_setRow' HB4.out (by omega) _
      generalize w4.setRow (w.heap.size + 1) (ansA sa) = w9 at *
      have H9 : Hid (w9.heap[w.heap.size + 1]? = some (.cells (ansA sa) 39 (0, 0))) := h9
      clear h9
      go_wp2_with fail
      exact bodyPost_ret (results_cell_row Try.results12 _ _ (w.heap.size + 1) 39 (ansA sa) (0, 0) _ rfl H9.out Try.underlying39 rfl (by kernel_rfl)) rfl ⟨by rw [HG.out], HB9.out⟩
    | false =>
      have HG : Hid (decideM m d 0 p q = deny) := by
        show decideM m d 0 p q = deny
        unfold decideM
        have h1 := HSO.out
        cases hg : getM m (keyL d 0 p q) with
        | none => simp
        | some y => rw [hg] at h1; cases h1
      go_wp2_with (refine stop_build 39 ?_)
      refine go_on ?_
      refine lst_val _ (exec_build w4 39 _ rfl [(0, .int .u8 0), (3, .bool true)] (by simp [Act.eval]) _ (run_deny w4)) ?_
      simp only [List.set_cons_succ, List.set_cons_zero]
      refine lst_sk (exec_storeA w4 39 _ _ rfl (w.heap.size + 1) 0 (ansA deny) rfl rfl (Try.sizeOf39 _) _ 39 HZ4.out (Nat.le_refl _) (ansA_one _)) ?_
      rw [splice_all (ansA zeroAns) (ansA deny) rfl]
      have h9 : (w4.setRow (w.heap.size + 1) (ansA deny)).heap[w.heap.size + 1]? = some (.cells (ansA deny) 39 (0, 0)) := setRow_heap w4 _ _ _ 39 _ HZ4.out
      have HB9 : Hid (Below w.heap.size w (w4.setRow (w.heap.size + 1) (ansA deny))) := below_setRow' HB4.out (by omega) _
      generalize w4.setRow (w.heap.size + 1) (ansA deny) = w9 at *
      have H9 : Hid (w9.heap[w.heap.size + 1]? = some (.cells (ansA deny) 39 (0, 0))) := h9
      clear h9
      go_wp2_with fail
      exact bodyPost_ret (results_cell_row Try.results12 _ _ (w.heap.size + 1) 39 (ansA deny) (0, 0) _ rfl H9.out Try.underlying39 rfl (by kernel_rfl)) rfl ⟨by rw [HG.out], HB9.out⟩
  · have hne : (i != 0) = true := by rw [bne_iff_ne]; exact hi0
    go_wp2_with (refine stop_load 29 ?_)
    refine go_on ?_
    refine lst_val _ (exec_load_at w4 29 _ rfl w.heap.size 0 rfl (qryA e d i p q) (Try.isAgg29 _) (Try.sizeOf29 _) (HasA.of_block HR4.out)) ?_
    simp only [List.set_cons_succ, List.set_cons_zero]
    go_wp2_with (refine (key_c e d i p q 0 (by omega) (by omega) hq hq1 _).mono ?_)
    rintro e5 w5 ⟨rfl, hb5⟩
    have HB45 : Hid (Below w4.heap.size w4 w5) := hb5
    have HB5 : Hid (Below w.heap.size w w5) := HB4.out.trans (hb5.mono HB4.out.size)
    clear hb5
    go_wp2_with (refine (HCL.out w5 HB5.out _ (hkl 0)).mono ?_)
    rintro e6 w6 ⟨rfl, hb6⟩
    have HB6 : Hid (Below w.heap.size w w6) := HB5.out.trans (hb6.mono HB5.out.size)
    have HB46 : Hid (Below w4.heap.size w4 w6) := HB45.out.trans (hb6.mono HB45.out.size)
    clear hb6 HB45 HB5
    obtain ⟨ga, hga⟩ : ∃ y, y = (getM m (keyL d 0 p q)).getD zeroAns := ⟨_, rfl⟩
    obtain ⟨go, hgo⟩ : ∃ y, y = (getM m (keyL d 0 p q)).isSome := ⟨_, rfl⟩
    rw [← hga, ← hgo]
    have HGA : Hid (ga = (getM m (keyL d 0 p q)).getD zeroAns) := hga
    have HGO : Hid (go = (getM m (keyL d 0 p q)).isSome) := hgo
    clear hga hgo
    go_wp2_with (refine stop_alloc 39 ?_)
    refine go_on ?_
    refine lst_val _ (exec_alloc _ 39 rfl _ (run_zero39 _)) ?_
    simp only [List.set_cons_succ, List.set_cons_zero]
    refine lst_sk (exec_storeA _ 39 _ _ rfl w6.heap.size 0 (ansA ga) rfl rfl (Try.sizeOf39 _) _ 39 (heap_alloc_new w6 _) (Nat.le_refl _) (ansA_one ga)) ?_
    rw [splice_all (ansA zeroAns) (ansA ga) rfl]
    have h7 : ((w6.alloc (.cells (ansA zeroAns) 39)).setRow w6.heap.size (ansA ga)).heap[w6.heap.size]? = some (.cells (ansA ga) 39 (0, 0)) := setRow_heap _ _ _ _ 39 _ (heap_alloc_new w6 _)
    have hb7 : Below w6.heap.size w6 ((w6.alloc (.cells (ansA zeroAns) 39)).setRow w6.heap.size (ansA ga)) := below_setRow' ((Below.refl _ _).alloc (Nat.le_refl _) _) (Nat.le_refl _) _
    generalize (w6.alloc (.cells (ansA zeroAns) 39)).setRow w6.heap.size (ansA ga) = w7 at *
    have HB7 : Hid (Below w.heap.size w w7) := HB6.out.trans (hb7.mono HB6.out.size)
    have HB47 : Hid (Below w4.heap.size w4 w7) := HB46.out.trans (hb7.mono HB46.out.size)
    obtain ⟨b7, hb7e⟩ : ∃ y, y = w6.heap.size := ⟨_, rfl⟩
    rw [← hb7e] at h7 ⊢
    have HGE7 : Hid (b5 < b7) := by show b5 < b7; rw [hb7e]; exact Nat.lt_of_lt_of_le hb5lt HB46.out.size
    have H7 : Hid (w7.heap[b7]? = some (.cells (ansA ga) 39 (0, 0))) := h7
    have H57 : Hid (w7.heap[b5]? = some (.cells (ansA sa) 39 (0, 0))) := (HB47.out.block _ hb5lt).trans H4.out
    have HZ7 : Hid (w7.heap[w.heap.size + 1]? = some (.cells (ansA zeroAns) 39 (0, 0))) := (HB47.out.block _ (by have := HGE.out; omega)).trans HZ4.out
    clear h7 hb7 hb7e cI4
    have c5 : w7.cell? ⟨b5, 0, none⟩ = some (.int .u8 sa.v) := cell_of_row w7 b5 0 _ 39 (0, 0) H57.out
    have c7 : w7.cell? ⟨b7, 0, none⟩ = some (.int .u8 ga.v) := cell_of_row w7 b7 0 _ 39 (0, 0) H7.out
    cases go with
    | false =>
      cases so with
      | true =>
        have HG : Hid (decideM m d i p q = sa) := by
          show decideM m d i p q = sa
          rw [decideM_case m d i p q hi0 sa ga _ _ HSA.out HSO.out HGA.out HGO.out]
          simp
        go_wp2_with (refine stop_load 39 ?_)
        refine go_on ?_
        refine lst_val _ (exec_load_at w7 39 _ rfl b5 0 rfl (ansA sa) (Try.isAgg39 _) (Try.sizeOf39 _) (HasA.of_block H57.out)) ?_
        simp only [List.set_cons_succ, List.set_cons_zero]
        refine lst_sk (exec_storeA w7 39 _ _ rfl (w.heap.size + 1) 0 (ansA sa) rfl rfl (Try.sizeOf39 _) _ 39 HZ7.out (Nat.le_refl _) (ansA_one _)) ?_
        rw [splice_all (ansA zeroAns) (ansA sa) rfl]
        have h9 : (w7.setRow (w.heap.size + 1) (ansA sa)).heap[w.heap.size + 1]? = some (.cells (ansA sa) 39 (0, 0)) := setRow_heap w7 _ _ _ 39 _ HZ7.out
        have HB9 : Hid (Below w.heap.size w (w7.setRow (w.heap.size + 1) (ansA sa))) := below_setRow' HB7.out (by omega) _
        generalize w7.setRow (w.heap.size + 1) (ansA sa) = w9 at *
        have H9 : Hid (w9.heap[w.heap.size + 1]? = some (.cells (ansA sa) 39 (0, 0))) := h9
        clear h9
        go_wp2_with fail
        exact bodyPost_ret (results_cell_row Try.results12 _ _ (w.heap.size + 1) 39 (ansA sa) (0, 0) _ rfl H9.out Try.underlying39 rfl (by kernel_rfl)) rfl ⟨by rw [HG.out], HB9.out⟩
      | false =>
        have HG : Hid (decideM m d i p q = deny) := by
          show decideM m d i p q = deny
          rw [decideM_case m d i p q hi0 sa ga _ _ HSA.out HSO.out HGA.out HGO.out]
          simp
        go_wp2_with (refine stop_build 39 ?_)
        refine go_on ?_
        refine lst_val _ (exec_build w7 39 _ rfl [(0, .int .u8 0), (3, .bool true)] (by simp [Act.eval]) _ (run_deny w7)) ?_
        simp only [List.set_cons_succ, List.set_cons_zero]
        refine lst_sk (exec_storeA w7 39 _ _ rfl (w.heap.size + 1) 0 (ansA deny) rfl rfl (Try.sizeOf39 _) _ 39 HZ7.out (Nat.le_refl _) (ansA_one _)) ?_
        rw [splice_all (ansA zeroAns) (ansA deny) rfl]
        have h9 : (w7.setRow (w.heap.size + 1) (ansA deny)).heap[w.heap.size + 1]? = some (.cells (ansA deny) 39 (0, 0)) := setRow_heap w7 _ _ _ 39 _ HZ7.out
        have HB9 : Hid (Below w.heap.size w (w7.setRow (w.heap.size + 1) (ansA deny))) := below_setRow' HB7.out (by omega) _
        generalize w7.setRow (w.heap.size + 1) (ansA deny) = w9 at *
        have H9 : Hid (w9.heap[w.heap.size + 1]? = some (.cells (ansA deny) 39 (0, 0))) := h9
        clear h9
        go_wp2_with fail
        exact bodyPost_ret (results_cell_row Try.results12 _ _ (w.heap.size + 1) 39 (ansA deny) (0, 0) _ rfl H9.out Try.underlying39 rfl (by kernel_rfl)) rfl ⟨by rw [HG.out], HB9.out⟩
    | true =>
      by_cases hs0 : so = false
      · have HG : Hid (decideM m d i p q = ga) := by
          show decideM m d i p q = ga
          rw [decideM_case m d i p q hi0 sa ga _ _ HSA.out HSO.out HGA.out HGO.out, hs0]
          simp
        have HS : Hid (so = false) := hs0
        clear hs0
        go_wp2_with (refine stop_un .not 4 ?_)
        refine go_on ?_
        refine lst_valg (.bool (!so)) rfl (exec_not _ 4 _ rfl so rfl) ?_
        simp only [List.set_cons_succ, List.set_cons_zero]
        obtain ⟨ns, hns⟩ : ∃ ns, ns = !so := ⟨_, rfl⟩
        rw [← hns]
        have hn : ns = true := by rw [hns, HS.out]; rfl
        clear hns
        refine lst_valg (.bool ns) rfl (exec_move _ (.tmp 31) rfl _ rfl) ?_
        simp only [List.set_cons_succ, List.set_cons_zero]
        refine lst_skipg (by show (some ns == some false) = false; rw [hn]; rfl) ?_
        simp only [List.set_cons_succ, List.set_cons_zero]
        refine lst_skipg (by show (some ns == some false) = false; rw [hn]; rfl) ?_
        simp only [List.set_cons_succ, List.set_cons_zero]
        refine lst_skipg (by show (some ns == some false) = false; rw [hn]; rfl) ?_
        simp only [List.set_cons_succ, List.set_cons_zero]
        refine lst_skipg (by show (some ns == some false) = false; rw [hn]; rfl) ?_
        simp only [List.set_cons_succ, List.set_cons_zero]
        refine lst_skipg rfl ?_
        simp only [List.set_cons_succ, List.set_cons_zero]
        refine lst_skipg rfl ?_
        simp only [List.set_cons_succ, List.set_cons_zero]
        refine lst_skipg rfl ?_
        simp only [List.set_cons_succ, List.set_cons_zero]
        refine lst_skipg (by show (some ns == some false) = false; rw [hn]; rfl) ?_
        simp only [List.set_cons_succ, List.set_cons_zero]
        refine lst_valg (.bool ns) rfl (exec_pick _ (.tmp 32) (.const (.bool true)) (.tmp 40) rfl ns rfl _ (by rw [hn]; rfl)) ?_
        simp only [List.set_cons_succ, List.set_cons_zero]
        refine lst_valg (.bool ns) rfl (exec_pick _ (.tmp 29) (.tmp 41) (.const (.bool false)) rfl true rfl _ rfl) ?_
        simp only [List.set_cons_succ, List.set_cons_zero]
        rw [hn]
        clear hn
        go_wp2_with (refine stop_load 39 ?_)
        refine go_on ?_
        refine lst_val _ (exec_load_at w7 39 _ rfl b7 0 rfl (ansA ga) (Try.isAgg39 _) (Try.sizeOf39 _) (HasA.of_block H7.out)) ?_
        simp only [List.set_cons_succ, List.set_cons_zero]
        refine lst_sk (exec_storeA w7 39 _ _ rfl b5 0 (ansA ga) rfl rfl (Try.sizeOf39 _) _ 39 H57.out (Nat.le_refl _) (ansA_one _)) ?_
        rw [splice_all (ansA sa) (ansA ga) rfl]
        have h8 : (w7.setRow b5 (ansA ga)).heap[b5]? = some (.cells (ansA ga) 39 (0, 0)) := setRow_heap w7 _ _ _ 39 _ H57.out
        have hz8 : (w7.setRow b5 (ansA ga)).heap[w.heap.size + 1]? = some (.cells (ansA zeroAns) 39 (0, 0)) := (setRow_other w7 b5 (w.heap.size + 1) (ansA ga) (by have := HGE.out; omega)).trans HZ7.out
        have HB8 : Hid (Below w.heap.size w (w7.setRow b5 (ansA ga))) := below_setRow' HB7.out (by have := HGE.out; omega) _
        generalize w7.setRow b5 (ansA ga) = w8 at *
        have H8 : Hid (w8.heap[b5]? = some (.cells (ansA ga) 39 (0, 0))) := h8
        have HZ8 : Hid (w8.heap[w.heap.size + 1]? = some (.cells (ansA zeroAns) 39 (0, 0))) := hz8
        clear h8 hz8 c5 c7
        go_wp2_with (refine stop_load 39 ?_)
        refine go_on ?_
        refine lst_val _ (exec_load_at w8 39 _ rfl b5 0 rfl (ansA ga) (Try.isAgg39 _) (Try.sizeOf39 _) (HasA.of_block H8.out)) ?_
        simp only [List.set_cons_succ, List.set_cons_zero]
        refine lst_sk (exec_storeA w8 39 _ _ rfl (w.heap.size + 1) 0 (ansA ga) rfl rfl (Try.sizeOf39 _) _ 39 HZ8.out (Nat.le_refl _) (ansA_one _)) ?_
        rw [splice_all (ansA zeroAns) (ansA ga) rfl]
        have h9 : (w8.setRow (w.heap.size + 1) (ansA ga)).heap[w.heap.size + 1]? = some (.cells (ansA ga) 39 (0, 0)) := setRow_heap w8 _ _ _ 39 _ HZ8.out
        have HB9 : Hid (Below w.heap.size w (w8.setRow (w.heap.size + 1) (ansA ga))) := below_setRow' HB8.out (by omega) _
        generalize w8.setRow (w.heap.size + 1) (ansA ga) = w9 at *
        have H9 : Hid (w9.heap[w.heap.size + 1]? = some (.cells (ansA ga) 39 (0, 0))) := h9
        clear h9
        go_wp2_with fail
        exact bodyPost_ret (results_cell_row Try.results12 _ _ (w.heap.size + 1) 39 (ansA ga) (0, 0) _ rfl H9.out Try.underlying39 rfl (by kernel_rfl)) rfl ⟨by rw [HG.out], HB9.out⟩
      · have hs1 : so = true := by cases so with | false => exact absurd rfl hs0 | true => rfl
        subst hs1
        clear hs0
        by_cases hv : sa.v = 1
        · by_cases hg0 : ga.v = 0
          · have hv' : (sa.v == 1) = true := by rw [beq_iff_eq]; exact hv
            have hg' : (ga.v == 0) = true := by rw [beq_iff_eq]; exact hg0
            have HG : Hid (decideM m d i p q = ga) := by
              show decideM m d i p q = ga
              rw [decideM_case m d i p q hi0 sa ga _ _ HSA.out HSO.out HGA.out HGO.out]
              simp [hv, hg0]
            have HV : Hid (sa.v = 1 ∧ ga.v = 0) := ⟨hv, hg0⟩
            clear hv hg0
            go_wp2_with (refine stop_load 39 ?_)
            refine go_on ?_
            refine lst_val _ (exec_load_at w7 39 _ rfl b7 0 rfl (ansA ga) (Try.isAgg39 _) (Try.sizeOf39 _) (HasA.of_block H7.out)) ?_
            simp only [List.set_cons_succ, List.set_cons_zero]
            refine lst_sk (exec_storeA w7 39 _ _ rfl b5 0 (ansA ga) rfl rfl (Try.sizeOf39 _) _ 39 H57.out (Nat.le_refl _) (ansA_one _)) ?_
            rw [splice_all (ansA sa) (ansA ga) rfl]
            have h8 : (w7.setRow b5 (ansA ga)).heap[b5]? = some (.cells (ansA ga) 39 (0, 0)) := setRow_heap w7 _ _ _ 39 _ H57.out
            have hz8 : (w7.setRow b5 (ansA ga)).heap[w.heap.size + 1]? = some (.cells (ansA zeroAns) 39 (0, 0)) := (setRow_other w7 b5 (w.heap.size + 1) (ansA ga) (by have := HGE.out; omega)).trans HZ7.out
            have HB8 : Hid (Below w.heap.size w (w7.setRow b5 (ansA ga))) := below_setRow' HB7.out (by have := HGE.out; omega) _
            generalize w7.setRow b5 (ansA ga) = w8 at *
            have H8 : Hid (w8.heap[b5]? = some (.cells (ansA ga) 39 (0, 0))) := h8
            have HZ8 : Hid (w8.heap[w.heap.size + 1]? = some (.cells (ansA zeroAns) 39 (0, 0))) := hz8
            clear h8 hz8 c5 c7
            go_wp2_with (refine stop_load 39 ?_)
            refine go_on ?_
            refine lst_val _ (exec_load_at w8 39 _ rfl b5 0 rfl (ansA ga) (Try.isAgg39 _) (Try.sizeOf39 _) (HasA.of_block H8.out)) ?_
            simp only [List.set_cons_succ, List.set_cons_zero]
            refine lst_sk (exec_storeA w8 39 _ _ rfl (w.heap.size + 1) 0 (ansA ga) rfl rfl (Try.sizeOf39 _) _ 39 HZ8.out (Nat.le_refl _) (ansA_one _)) ?_
            rw [splice_all (ansA zeroAns) (ansA ga) rfl]
            have h9 : (w8.setRow (w.heap.size + 1) (ansA ga)).heap[w.heap.size + 1]? = some (.cells (ansA ga) 39 (0, 0)) := setRow_heap w8 _ _ _ 39 _ HZ8.out
            have HB9 : Hid (Below w.heap.size w (w8.setRow (w.heap.size + 1) (ansA ga))) := below_setRow' HB8.out (by omega) _
            generalize w8.setRow (w.heap.size + 1) (ansA ga) = w9 at *
            have H9 : Hid (w9.heap[w.heap.size + 1]? = some (.cells (ansA ga) 39 (0, 0))) := h9
            clear h9
            go_wp2_with fail
            exact bodyPost_ret (results_cell_row Try.results12 _ _ (w.heap.size + 1) 39 (ansA ga) (0, 0) _ rfl H9.out Try.underlying39 rfl (by kernel_rfl)) rfl ⟨by rw [HG.out], HB9.out⟩
          · have hv' : (sa.v == 1) = true := by rw [beq_iff_eq]; exact hv
            have hg' : (ga.v == 0) = false := by rw [beq_eq_false_iff_ne]; exact hg0
            have HG : Hid (decideM m d i p q = sa) := by
              show decideM m d i p q = sa
              rw [decideM_case m d i p q hi0 sa ga _ _ HSA.out HSO.out HGA.out HGO.out]
              simp [hg0]
            clear hv hg0
            go_wp2_with (refine stop_load 39 ?_)
            refine go_on ?_
            refine lst_val _ (exec_load_at w7 39 _ rfl b5 0 rfl (ansA sa) (Try.isAgg39 _) (Try.sizeOf39 _) (HasA.of_block H57.out)) ?_
            simp only [List.set_cons_succ, List.set_cons_zero]
            refine lst_sk (exec_storeA w7 39 _ _ rfl (w.heap.size + 1) 0 (ansA sa) rfl rfl (Try.sizeOf39 _) _ 39 HZ7.out (Nat.le_refl _) (ansA_one _)) ?_
            rw [splice_all (ansA zeroAns) (ansA sa) rfl]
            have h9 : (w7.setRow (w.heap.size + 1) (ansA sa)).heap[w.heap.size + 1]? = some (.cells (ansA sa) 39 (0, 0)) := setRow_heap w7 _ _ _ 39 _ HZ7.out
            have HB9 : Hid (Below w.heap.size w (w7.setRow (w.heap.size + 1) (ansA sa))) := below_setRow' HB7.out (by omega) _
            generalize w7.setRow (w.heap.size + 1) (ansA sa) = w9 at *
            have H9 : Hid (w9.heap[w.heap.size + 1]? = some (.cells (ansA sa) 39 (0, 0))) := h9
            clear h9
            go_wp2_with fail
            exact bodyPost_ret (results_cell_row Try.results12 _ _ (w.heap.size + 1) 39 (ansA sa) (0, 0) _ rfl H9.out Try.underlying39 rfl (by kernel_rfl)) rfl ⟨by rw [HG.out], HB9.out⟩
        · have hv' : (sa.v == 1) = false := by rw [beq_eq_false_iff_ne]; exact hv
          have HG : Hid (decideM m d i p q = sa) := by
            show decideM m d i p q = sa
            rw [decideM_case m d i p q hi0 sa ga _ _ HSA.out HSO.out HGA.out HGO.out]
            simp [hv]
          clear hv
          go_wp2_with (refine stop_load 39 ?_)
          refine go_on ?_
          refine lst_val _ (exec_load_at w7 39 _ rfl b5 0 rfl (ansA sa) (Try.isAgg39 _) (Try.sizeOf39 _) (HasA.of_block H57.out)) ?_
          simp only [List.set_cons_succ, List.set_cons_zero]
          refine lst_sk (exec_storeA w7 39 _ _ rfl (w.heap.size + 1) 0 (ansA sa) rfl rfl (Try.sizeOf39 _) _ 39 HZ7.out (Nat.le_refl _) (ansA_one _)) ?_
          rw [splice_all (ansA zeroAns) (ansA sa) rfl]
          have h9 : (w7.setRow (w.heap.size + 1) (ansA sa)).heap[w.heap.size + 1]? = some (.cells (ansA sa) 39 (0, 0)) := setRow_heap w7 _ _ _ 39 _ HZ7.out
          have HB9 : Hid (Below w.heap.size w (w7.setRow (w.heap.size + 1) (ansA sa))) := below_setRow' HB7.out (by omega) _
          generalize w7.setRow (w.heap.size + 1) (ansA sa) = w9 at *
          have H9 : Hid (w9.heap[w.heap.size + 1]? = some (.cells (ansA sa) 39 (0, 0))) := h9
          clear h9
          go_wp2_with fail
          exact bodyPost_ret (results_cell_row Try.results12 _ _ (w.heap.size + 1) 39 (ansA sa) (0, 0) _ rfl H9.out Try.underlying39 rfl (by kernel_rfl)) rfl ⟨by rw [HG.out], HB9.out⟩
end Go.Proofs.Qxb6612879a
