/-
  ZZDecideMap; '==' and '!=' on two answers.
-/
import Derived.Test.Qxb6612879aW5
import Derived.Test.Qxb6612879aW8
namespace Go.Proofs.Qxb6612879a
open Go.RowKit

set_option maxHeartbeats 1000000 in
theorem decideMap_c (e d i p q : Int) (hi : 0 ≤ i) (hi1 : i < 4294967296) (hq : 0 ≤ q) (hq1 : q < 65536) (b : Nat) (m : List (List Int × Ans)) (w : World) (hm : MapAt w b m) :
    Calls Try.prog 7 #[.agg (qryA e d i p q), .map (some b)] w fun e w' => e = .returned (.agg (ansA (decideM m d i p q))) ∧ Below w.heap.size w w' := by
  have hblt := hm.lt
  have HM : Hid (MapAt w b m) := hm
  clear hm
  go_enter Try.func7, Try.ntmps7
  go_wp2_with (refine stop_alloc 39 ?_)
  refine go_on ?_
  refine lst_val _ (exec_alloc _ 39 rfl _ (run_zero39 _)) ?_
  simp only [List.set_cons_succ, List.set_cons_zero]
  obtain ⟨w1, hw1⟩ : ∃ y, y = ((w.alloc (Obj.cells (qryA e d i p q) 29)).alloc (Obj.cells #[.map (some b)] 41)).alloc (Obj.cells (ansA zeroAns) 39) := ⟨_, rfl⟩
  have hs1 : ((w.alloc (Obj.cells (qryA e d i p q) 29)).alloc (Obj.cells #[.map (some b)] 41)).heap.size = w.heap.size + 2 := by simp
  rw [hs1, ← hw1]
  have hr : w1.heap[w.heap.size]? = some (.cells (qryA e d i p q) 29 (0, 0)) := by
    rw [hw1]
    exact (((Below.refl _ _).alloc (Nat.le_refl _) _).block w.heap.size (by simp; omega)).trans (heap_alloc2_old w _ _)
  have hx : w1.heap[w.heap.size + 1]? = some (.cells #[.map (some b)] 41 (0, 0)) := by
    rw [hw1]
    exact (((Below.refl _ _).alloc (Nat.le_refl _) _).block (w.heap.size + 1) (by simp)).trans (heap_alloc2_new w _ _)
  have hz : w1.heap[w.heap.size + 2]? = some (.cells (ansA zeroAns) 39 (0, 0)) := by
    have := heap_alloc_new ((w.alloc (Obj.cells (qryA e d i p q) 29)).alloc (Obj.cells #[.map (some b)] 41)) (Obj.cells (ansA zeroAns) 39)
    rw [hs1] at this
    rw [hw1]
    exact this
  have hb1 : Below w.heap.size w w1 := by
    rw [hw1]
    exact (((Below.refl _ _).alloc (Nat.le_refl _) _).alloc (by simp) _).alloc (by simp; omega) _
  have hsz : w1.heap.size = w.heap.size + 3 := by rw [hw1]; simp
  have HC : Hid (w1.cell? ⟨w.heap.size + 1, 0, none⟩ = some (.map (some b))) := cell_of_row w1 (w.heap.size + 1) 0 _ 41 (0, 0) hx
  have HM1 : Hid (MapAt w1 b m) := HM.out.below hb1 hblt
  have HR : Hid (w1.heap[w.heap.size]? = some (.cells (qryA e d i p q) 29 (0, 0))) := hr
  have HZ : Hid (w1.heap[w.heap.size + 2]? = some (.cells (ansA zeroAns) 39 (0, 0))) := hz
  have HB1 : Hid (Below w.heap.size w w1) := hb1
  have HSZ : Hid (w1.heap.size = w.heap.size + 3) := hsz
  clear hw1 hs1 hr hx hz hb1 hsz
  go_wp2_with (refine stop_load 29 ?_)
  refine go_on ?_
  refine lst_val _ (exec_load_at w1 29 _ rfl w.heap.size 0 rfl (qryA e d i p q) (Try.isAgg29 _) (Try.sizeOf29 _) (HasA.of_block HR.out)) ?_
  simp only [List.set_cons_succ, List.set_cons_zero]
  go_wp2_with (refine (decide_c e d i p q hi hi1 hq hq1 (w.heap.size + 1) b m w1 HC.out HM1.out).mono ?_)
  rintro e2 w2 ⟨rfl, hb2⟩
  have HZ2 : Hid (w2.heap[w.heap.size + 2]? = some (.cells (ansA zeroAns) 39 (0, 0))) := (hb2.block _ (by have := HSZ.out; omega)).trans HZ.out
  have HB2 : Hid (Below w.heap.size w w2) := HB1.out.trans (hb2.mono (by have := HSZ.out; omega))
  clear hb2
  obtain ⟨av, hav⟩ : ∃ x, x = decideM m d i p q := ⟨_, rfl⟩
  rw [← hav]
  have HAV : Hid (av = decideM m d i p q) := hav
  clear hav
  go_wp2_with (refine stop_store 39 ?_)
  refine go_on ?_
  refine lst_sk (exec_storeA w2 39 _ _ rfl (w.heap.size + 2) 0 (ansA av) rfl rfl (Try.sizeOf39 _) _ 39 HZ2.out (Nat.le_refl _) (ansA_one av)) ?_
  rw [splice_all (ansA zeroAns) (ansA av) rfl]
  have h5 : (w2.setRow (w.heap.size + 2) (ansA av)).heap[w.heap.size + 2]? = some (.cells (ansA av) 39 (0, 0)) := setRow_heap w2 _ _ _ 39 _ HZ2.out
  have HB5 : Hid (Below w.heap.size w (w2.setRow (w.heap.size + 2) (ansA av))) := below_setRow' HB2.out (by omega) _
  generalize w2.setRow (w.heap.size + 2) (ansA av) = w5 at *
  have H5 : Hid (w5.heap[w.heap.size + 2]? = some (.cells (ansA av) 39 (0, 0))) := h5
  clear h5
  go_wp2_with fail
  exact bodyPost_ret (results_cell_row Try.results7 _ _ (w.heap.size + 2) 39 (ansA av) (0, 0) _ rfl H5.out Try.underlying39 rfl (by kernel_rfl)) rfl ⟨by rw [← HAV.out], HB5.out⟩

theorem eqFields_cons {P : Program} (w : World) (d : Nat) (xs ys : Array Value) (f : Field) (fs : List Field) (hn : f.name ≠ "_") {a b : Value} {r s : Bool} (h1 : (part f.type xs f.offset).run P w = .ok a w) (h2 : (part f.type ys f.offset).run P w = .ok b w) (h3 : (Op.equalIn d f.type a b).run P w = .ok r w) (h4 : (Op.eqFields d xs ys fs).run P w = .ok s w) :
    (Op.eqFields d xs ys (f :: fs)).run P w = .ok (r && s) w := by
  simp only [Op.eqFields, hn, ne_eq, not_false_eq_true, if_true, Sem.run_bind, h1, h2, h3, Result.andThen_ok]
  cases r <;> simp [h4]
theorem eqFields_nil {P : Program} (w : World) (d : Nat) (xs ys : Array Value) : (Op.eqFields d xs ys []).run P w = .ok true w := by
  simp [Op.eqFields]

def portsA (k lo hi : Int) : Array Value := #[.int .u8 k, .int .u16 lo, .int .u16 hi]
theorem run_eq35 (w : World) (d : Nat) (k lo hi k' lo' hi' : Int) : (Op.equalIn (d + 2) 35 (.agg (portsA k lo hi)) (.agg (portsA k' lo' hi'))).run Try.prog w = .ok ((k == k') && ((lo == lo') && ((hi == hi') && true))) w := by
  have p0 : ∀ k lo hi, (part 33 (portsA k lo hi) 0).run Try.prog w = .ok (.int .u8 k) w := fun k lo hi => by simp [part, portsA, go_sem]
  have p1 : ∀ k lo hi, (part 22 (portsA k lo hi) 1).run Try.prog w = .ok (.int .u16 lo) w := fun k lo hi => by simp [part, portsA, go_sem]
  have p2 : ∀ k lo hi, (part 22 (portsA k lo hi) 2).run Try.prog w = .ok (.int .u16 hi) w := fun k lo hi => by simp [part, portsA, go_sem]
  rw [run_equalIn_struct w (d + 1) 35 _ _ (by simp [Program.fieldsOf]) Try.stoodInHeld35]
  have hf : (Try.prog.fieldsOf 35).toList = [⟨"Kind", 33, 0, false, "", "", 0⟩, ⟨"Lo", 22, 1, false, "", "", 2⟩, ⟨"Hi", 22, 2, false, "", "", 4⟩] := by simp [Program.fieldsOf]
  rw [hf]
  refine eqFields_cons w (d + 1) _ _ _ _ (by decide) (p0 _ _ _) (p0 _ _ _) (run_equalIn_int w d 33 .u8 .u8 _ _ Try.underlying33) ?_
  refine eqFields_cons w (d + 1) _ _ _ _ (by decide) (p1 _ _ _) (p1 _ _ _) (run_equalIn_int w d 22 .u16 .u16 _ _ Try.underlying22) ?_
  refine eqFields_cons w (d + 1) _ _ _ _ (by decide) (p2 _ _ _) (p2 _ _ _) (run_equalIn_int w d 22 .u16 .u16 _ _ Try.underlying22) ?_
  exact eqFields_nil w _ _ _

theorem run_eq37 (w : World) (d : Nat) (a b : Ans) : (Op.equalIn (d + 3) 37 (.agg (ruleA a)) (.agg (ruleA b))).run Try.prog w =
    .ok ((a.d == b.d) && ((a.i == b.i) && ((a.p == b.p) && (((a.k == b.k) && ((a.lo == b.lo) && ((a.hi == b.hi) && true))) && ((a.rv == b.rv) && ((a.rp == b.rp) && true)))))) w := by
  have p0 : ∀ a, (part 26 (ruleA a) 0).run Try.prog w = .ok (.int .u8 a.d) w := fun a => by simp [part, ruleA, go_sem]
  have p1 : ∀ a, (part 23 (ruleA a) 1).run Try.prog w = .ok (.int .u32 a.i) w := fun a => by simp [part, ruleA, go_sem]
  have p2 : ∀ a, (part 27 (ruleA a) 2).run Try.prog w = .ok (.int .u8 a.p) w := fun a => by simp [part, ruleA, go_sem]
  have p3 : ∀ a, (part 35 (ruleA a) 3).run Try.prog w = .ok (.agg (portsA a.k a.lo a.hi)) w := fun a => by simp [part, ruleA, portsA, go_sem]
  have p4 : ∀ a, (part 32 (ruleA a) 6).run Try.prog w = .ok (.int .u8 a.rv) w := fun a => by simp [part, ruleA, go_sem]
  have p5 : ∀ a, (part 22 (ruleA a) 7).run Try.prog w = .ok (.int .u16 a.rp) w := fun a => by simp [part, ruleA, go_sem]
  rw [run_equalIn_struct w (d + 2) 37 _ _ (by simp [Program.fieldsOf]) Try.stoodInHeld37]
  have hf : (Try.prog.fieldsOf 37).toList = [⟨"Direction", 26, 0, false, "", "", 0⟩, ⟨"Identity", 23, 1, false, "", "", 4⟩, ⟨"Proto", 27, 2, false, "", "", 8⟩, ⟨"Ports", 35, 3, false, "", "", 10⟩, ⟨"Verdict", 32, 6, false, "", "", 16⟩, ⟨"ProxyPort", 22, 7, false, "", "", 18⟩] := by simp [Program.fieldsOf]
  rw [hf]
  refine eqFields_cons w (d + 2) _ _ _ _ (by decide) (p0 _) (p0 _) (run_equalIn_int w (d + 1) 26 .u8 .u8 _ _ Try.underlying26) ?_
  refine eqFields_cons w (d + 2) _ _ _ _ (by decide) (p1 _) (p1 _) (run_equalIn_int w (d + 1) 23 .u32 .u32 _ _ Try.underlying23) ?_
  refine eqFields_cons w (d + 2) _ _ _ _ (by decide) (p2 _) (p2 _) (run_equalIn_int w (d + 1) 27 .u8 .u8 _ _ Try.underlying27) ?_
  refine eqFields_cons w (d + 2) _ _ _ _ (by decide) (p3 _) (p3 _) (run_eq35 w d _ _ _ _ _ _) ?_
  refine eqFields_cons w (d + 2) _ _ _ _ (by decide) (p4 _) (p4 _) (run_equalIn_int w (d + 1) 32 .u8 .u8 _ _ Try.underlying32) ?_
  refine eqFields_cons w (d + 2) _ _ _ _ (by decide) (p5 _) (p5 _) (run_equalIn_int w (d + 1) 22 .u16 .u16 _ _ Try.underlying22) ?_
  exact eqFields_nil w _ _ _

theorem run_eq39 (w : World) (d : Nat) (a b : Ans) : (Op.equalIn (d + 4) 39 (.agg (ansA a)) (.agg (ansA b))).run Try.prog w = .ok (decide (a = b)) w := by
  have p0 : ∀ a, (part 32 (ansA a) 0).run Try.prog w = .ok (.int .u8 a.v) w := fun a => by simp [part, ansA, go_sem]
  have p1 : ∀ a, (part 22 (ansA a) 1).run Try.prog w = .ok (.int .u16 a.pp) w := fun a => by simp [part, ansA, go_sem]
  have p2 : ∀ a, (part 37 (ansA a) 2).run Try.prog w = .ok (.agg (ruleA a)) w := fun a => by simp [part, ansA, ruleA, go_sem]
  have p3 : ∀ a, (part 4 (ansA a) 10).run Try.prog w = .ok (.bool a.df) w := fun a => by simp [part, ansA, go_sem]
  rw [run_equalIn_struct w (d + 3) 39 _ _ (by simp [Program.fieldsOf]) Try.stoodInHeld39]
  have hf : (Try.prog.fieldsOf 39).toList = [⟨"Verdict", 32, 0, false, "", "", 0⟩, ⟨"ProxyPort", 22, 1, false, "", "", 2⟩, ⟨"Rule", 37, 2, false, "", "", 4⟩, ⟨"Default", 4, 10, false, "", "", 24⟩] := by simp [Program.fieldsOf]
  rw [hf]
  have h := eqFields_cons w (d + 3) (ansA a) (ansA b) ⟨"Verdict", 32, 0, false, "", "", 0⟩ [⟨"ProxyPort", 22, 1, false, "", "", 2⟩, ⟨"Rule", 37, 2, false, "", "", 4⟩, ⟨"Default", 4, 10, false, "", "", 24⟩] (by decide) (p0 a) (p0 b) (run_equalIn_int w (d + 2) 32 .u8 .u8 _ _ Try.underlying32)
    (eqFields_cons w (d + 3) _ _ _ _ (by decide) (p1 a) (p1 b) (run_equalIn_int w (d + 2) 22 .u16 .u16 _ _ Try.underlying22)
      (eqFields_cons w (d + 3) _ _ _ _ (by decide) (p2 a) (p2 b) (run_eq37 w d a b)
        (eqFields_cons w (d + 3) _ _ _ _ (by decide) (p3 a) (p3 b) (run_equalIn_bool w (d + 2) 4 _ _ Try.underlying4) (eqFields_nil w _ _ _))))
  rw [h]
  congr 1
  obtain ⟨a1, a2, a3, a4, a5, a6, a7, a8, a9, a10, a11⟩ := a
  obtain ⟨b1, b2, b3, b4, b5, b6, b7, b8, b9, b10, b11⟩ := b
  rw [Bool.eq_iff_iff]
  simp only [Bool.and_eq_true, beq_iff_eq, and_true, decide_eq_true_eq, Ans.mk.injEq]
  constructor
  · rintro ⟨h1, h2, ⟨h3, h4, h5, ⟨h6, h7, h8⟩, h9, h10⟩, h11⟩
    exact ⟨h1, h2, h3, h4, h5, h6, h7, h8, h9, h10, h11⟩
  · rintro ⟨h1, h2, h3, h4, h5, h6, h7, h8, h9, h10, h11⟩
    exact ⟨h1, h2, ⟨h3, h4, h5, ⟨h6, h7, h8⟩, h9, h10⟩, h11⟩

theorem exec_eqans {ρ : Operand → Value} (w : World) {o : Oper} (ty : TypeId) (x y : Operand) (ho : o.op = .binOp .eql 39 x y ty) (a b : Ans) (hx : ρ x = .agg (ansA a)) (hy : ρ y = .agg (ansA b)) :
    (execOp ρ o).run Try.prog w = .ok (.value (.bool (decide (a = b)))) w := by
  unfold execOp
  simp only [ho, hx, hy, Sem.run_bind, run_eqGuard_agg w .eql 39 x y _ _ Try.eqGuardType39, Result.andThen_ok, run_eql_struct, run_eq39 w 9996 a b, Sem.run_pure]
theorem exec_neqans {ρ : Operand → Value} (w : World) {o : Oper} (ty : TypeId) (x y : Operand) (ho : o.op = .binOp .neq 39 x y ty) (a b : Ans) (hx : ρ x = .agg (ansA a)) (hy : ρ y = .agg (ansA b)) :
    (execOp ρ o).run Try.prog w = .ok (.value (.bool (!decide (a = b)))) w := by
  unfold execOp
  simp only [ho, hx, hy, Sem.run_bind, run_eqGuard_agg w .neq 39 x y _ _ Try.eqGuardType39, Result.andThen_ok, run_neq_struct, run_eq39 w 9996 a b, Sem.run_pure]
end Go.Proofs.Qxb6612879a
