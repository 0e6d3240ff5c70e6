/-
  tableMap.
-/
import Derived.Test.Qxb6612879aW7
namespace Go.Proofs.Qxb6612879a
open Go.RowKit

theorem exec_update {P : Program} {ρ : Operand → Value} (w w' : World) {o : Oper} (t : TypeId) (x y z : Operand) (ho : o.op = .mapUpdate t x y z) (vx vy vz : Value) (hx : ρ x = vx) (hy : ρ y = vy) (hz : ρ z = vz) (hr : (Instr.mapUpdate t vx vy vz).run P w = .ok () w') : (execOp ρ o).run P w = .ok .skip w' := by
  unfold execOp
  simp [ho, hx, hy, hz, hr]
theorem exec_mkmap {P : Program} {ρ : Operand → Value} (w w' : World) {o : Oper} (t : TypeId) (x : Operand) (ho : o.op = .makeMap t (some x)) (vx v : Value) (hx : ρ x = vx) (hr : (Instr.makeMap t (some vx)).run P w = .ok v w') : (execOp ρ o).run P w = .ok (.value v) w' := by
  unfold execOp
  simp [ho, hx, hr]
section
variable {P : Program} {ops : Array Oper} {Q : Exit → Act → World → Prop} {rest : List Oper} {a : Act} {w : World} {dst : Option Tmp} {ty : TypeId} {pos : String} {after : Array Edge}
theorem stop_mkmap (t : TypeId) {x : Option Operand} (h : Stopped (wpList P ops Q (⟨dst, .makeMap t x, ty, pos, after, none⟩ :: rest) a w)) : wpList P ops Q (⟨dst, .makeMap t x, ty, pos, after, none⟩ :: rest) a w := h.out
end
theorem below_grown {B b : Nat} {w w' : World} (h : w.grownBy w' (some b)) (hb : B ≤ b) (hB : B ≤ w.heap.size) : Below B w w' := by
  obtain ⟨h1, h2, h3, h4, h5⟩ := h
  exact ⟨h1, h2, h3, h4, fun k hk => h5 k (by omega) (by simp; omega)⟩

/-- The loop's relation. -/
def RelM (T : List Row) (len mb : Nat) (skip : Bool) (sk : List Int) (w1 : World) (v : Value) (wx : World) : Prop :=
  ∃ i : Nat, i ≤ len ∧ v = .int .i64 i ∧ MapAt wx mb (mapT skip sk (T.take i)) ∧ Below mb w1 wx

set_option maxRecDepth 20000 in
set_option maxHeartbeats 2000000 in
theorem tableMap_c (T : List Row) (h8 : T8 T) (skip : Bool) (sk : List Int) (hk : sk.length = 8) (ao : Option Addr) (cap : Nat) (w : World) (hat : RowsAt w ao T) (hle : T.length ≤ 4096) :
    Calls Try.prog 8 #[.slice ao T.length cap, .bool skip, .agg (keyA sk)] w fun e w' => e = .returned (.map (some (w.heap.size + 1))) ∧ MapAt w' (w.heap.size + 1) (mapT skip sk T) ∧ Below w.heap.size w w' := by
  obtain ⟨len, hlen⟩ : ∃ n, n = T.length := ⟨_, rfl⟩
  rw [← hlen] at hle ⊢
  have HL : Hid (len = T.length) := hlen
  clear hlen
  obtain ⟨mb, hmb⟩ : ∃ x, x = w.heap.size + 1 := ⟨_, rfl⟩
  rw [← hmb]
  have HMB : Hid (mb = w.heap.size + 1) := hmb
  clear hmb
  go_enter Try.func8, Try.ntmps8
  go_wp2_with (refine stop_mkmap 41 ?_)
  obtain ⟨w1, hw1⟩ : ∃ x, x = w.alloc (.cells (keyA sk) 30) := ⟨_, rfl⟩
  rw [← hw1]
  have hbel : Below w.heap.size w w1 := by rw [hw1]; exact (Below.refl _ _).alloc (Nat.le_refl _) _
  have hkey : HasA w1 w.heap.size 0 (keyA sk) := by rw [hw1]; exact HasA.of_block (heap_alloc_new w _)
  have hz1 : w1.heap.size = w.heap.size + 1 := by rw [hw1]; simp
  have hat1 : RowsAt w1 ao T := hat.below hbel (Nat.le_refl _)
  clear hw1 hat
  rw [← HMB.out] at hz1
  refine go_on ?_
  refine lst_val _ (exec_mkmap w1 _ 41 (.tmp 10) rfl _ _ rfl (run_mkmap w1 _)) ?_
  simp only [List.set_cons_succ, List.set_cons_zero]
  have hm0 : MapAt (w1.alloc (.map #[] 0)) mb [] := by have := mapAt_made w1; rw [hz1] at this; exact this
  have hb0 : Below mb w1 (w1.alloc (.map #[] 0)) := (Below.refl _ _).alloc (Nat.le_of_eq hz1.symm) _
  rw [hz1]
  generalize w1.alloc (.map #[] 0) = w2 at *
  have HZ : Hid (w1.heap.size = mb) := hz1
  have HM0 : Hid (MapAt w2 mb []) := hm0
  have HB0 : Hid (Below mb w1 w2) := hb0
  clear hz1 hm0 hb0
  go_wp2_with fail
  go_loopw [14] (fun v wx => RelM T len mb skip sk w1 v wx) (fun v _ => len - (intOf v).toNat)
  case atStart => exact ⟨0, Nat.zero_le _, rfl, HM0.out, HB0.out⟩
  case round =>
    obtain ⟨i, hi, rfl, hmi, hbi⟩ := hrel
    have HMI : Hid (MapAt wr mb (mapT skip sk (T.take i))) := hmi
    have HW : Hid (Below mb w1 wr) := hbi
    clear hmi hbi
    by_cases hlt : i < len
    · obtain ⟨b, off, rfl, hblt, hcell⟩ := hat1 (by rw [← HL.out]; omega)
      have hblt' : b < mb := by rw [← HZ.out]; exact hblt
      obtain ⟨kk, hkk⟩ : ∃ x, x = (T.getD i row0).1 := ⟨_, rfl⟩
      obtain ⟨aa, haa⟩ : ∃ x, x = (T.getD i row0).2 := ⟨_, rfl⟩
      have hk8 : kk.length = 8 := by rw [hkk]; exact h8 i (by rw [← HL.out]; exact hlt)
      have gr : HasA w1 b (off + i * 19) (rowA kk aa) := by rw [hkk, haa]; exact hcell i (by rw [← HL.out]; exact hlt)
      have gk : HasA w1 b (off + i * 19) (keyA kk) := rowA_key gr
      have hwl : w.heap.size < mb := by rw [HMB.out]; omega
      have HST : Hid (mapT skip sk (T.take (i + 1)) = step skip sk (mapT skip sk (T.take i)) (kk, aa)) := by
        show mapT skip sk (T.take (i + 1)) = _
        rw [mapT_take skip sk T i (by rw [← HL.out]; exact hlt), hkk, haa]
      have hmlt : mb < wr.heap.size := HMI.out.lt
      clear hkk haa hcell
      have hlt' : (i : Int) < (len : Int) := by omega
      have HUP : Hid (∀ wz, Below wr.heap.size wr wz → ∃ w', (Instr.mapUpdate 41 (.map (some mb)) (.agg (keyA kk)) (.agg (ansA aa))).run Try.prog wz = .ok () w' ∧ MapAt w' mb (putM (mapT skip sk (T.take i)) kk aa) ∧ Below mb w1 w') := fun wz hz => by
        obtain ⟨w', h1, h2, h3⟩ := run_update wz mb _ (HMI.out.below hz hmlt) kk hk8 aa
        have h4 : Below mb wr wz := hz.mono (Nat.le_of_lt hmlt)
        exact ⟨w', h1, h2, HW.out.trans (h4.trans (below_grown h3 (Nat.le_refl _) (Nat.le_trans (Nat.le_of_lt hmlt) hz.size)))⟩
      have HMD : Hid (MapAt wr.drew mb (mapT skip sk (T.take i))) := HMI.out
      clear HMI
      cases skip with
      | false =>
        have hst : mapT false sk (T.take (i + 1)) = putM (mapT false sk (T.take i)) kk aa := by rw [HST.out]; unfold step; rw [if_neg (by simp)]
        have HPUT : Hid (mapT false sk (T.take (i + 1)) = putM (mapT false sk (T.take i)) kk aa) := hst
        clear hst HST HMD
        go_wp2_with fail
        refine wp_region_ord (fun w' => Below mb w1 w') [(0, false), (1, false), (2, false), (3, false), (4, false), (5, false), (6, false), (7, false), (8, false), (9, false)] (by kernel_rfl) (by kernel_rfl)
          (fun _ _ _ d _ h => by cases d <;> exact h) (by kernel_rfl) rfl ?_
        have hB : Below mb w1 wr.drew := HW.out.drew
        refine ord_val 17 rfl rfl rfl hB (.bool false) (fun _ _ => rfl) ?_
        simp only [List.set_cons_succ, List.set_cons_zero]
        refine ord_val 18 rfl rfl rfl hB (.bool false) (fun _ _ => rfl) ?_
        simp only [List.set_cons_succ, List.set_cons_zero]
        refine ord_skip 19 rfl rfl rfl hB ?_
        simp only [List.set_cons_succ, List.set_cons_zero]
        refine ord_skip 20 rfl rfl rfl hB ?_
        simp only [List.set_cons_succ, List.set_cons_zero]
        refine ord_skip 21 rfl rfl rfl hB ?_
        simp only [List.set_cons_succ, List.set_cons_zero]
        refine ord_skip 22 rfl rfl rfl hB ?_
        simp only [List.set_cons_succ, List.set_cons_zero]
        refine ord_skip 23 rfl rfl rfl hB ?_
        simp only [List.set_cons_succ, List.set_cons_zero]
        refine ord_skip 24 rfl rfl rfl hB ?_
        simp only [List.set_cons_succ, List.set_cons_zero]
        refine ord_skip 25 rfl rfl rfl hB ?_
        simp only [List.set_cons_succ, List.set_cons_zero]
        refine ord_val 26 rfl rfl rfl hB (.bool false) (fun wx _ => exec_pick wx (.tmp 18) (.tmp 25) (.const (.bool false)) rfl false rfl _ rfl) ?_
        simp only [List.set_cons_succ, List.set_cons_zero]
        refine ord_done ?_
        clear hB gk
        have gk : HasA w1 b (off + i * 19) (keyA kk) := rowA_key gr
        go_wp2_with fail
        refine wp_region_ordT (fun w' => Below mb w1 w') 11 [(0, false), (1, false), (2, false), (3, false), (4, false), (5, false), (6, false), (7, false), (8, false), (9, false), (10, true)] (by kernel_rfl) (by kernel_rfl)
          (fun _ _ _ d _ h => by cases d <;> exact h) (by kernel_rfl) rfl ?_
        have hB : Below mb w1 wr.drew.drew := HW.out.drew.drew
        refine ord_val 27 rfl rfl rfl hB (.map (some mb)) (fun _ _ => rfl) ?_
        simp only [List.set_cons_succ, List.set_cons_zero]
        refine ord_val 28 rfl rfl rfl hB (.slice (some ⟨b, off, none⟩) len cap) (fun _ _ => rfl) ?_
        simp only [List.set_cons_succ, List.set_cons_zero]
        refine ord_val 29 rfl rfl rfl hB (.int .i64 (i : Int)) (fun _ _ => rfl) ?_
        simp only [List.set_cons_succ, List.set_cons_zero]
        refine ord_val 30 rfl rfl rfl hB (.pointer (some ⟨b, off + i * 19, none⟩)) (fun wx _ => exec_idx wx 24 48 19 _ _ rfl b off len cap i Try.underlying24 (Try.sizeOf48 wx) rfl rfl hlt) ?_
        simp only [List.set_cons_succ, List.set_cons_zero]
        refine ord_val 31 rfl rfl rfl hB (.pointer (some ⟨b, off + i * 19, none⟩)) (fun wx _ => exec_field wx 48 _ 0 rfl ⟨b, off + i * 19, none⟩ rfl _ (by simp [go_sem])) ?_
        simp only [List.set_cons_succ, List.set_cons_zero]
        refine ord_val 32 rfl rfl rfl hB (.agg (keyA kk)) (fun wx hw => exec_load_at wx 30 _ rfl b _ rfl _ (Try.isAgg30 wx) (by rw [keyA_size, hk8]; exact Try.sizeOf30 wx) (gk.below hw hblt')) ?_
        simp only [List.set_cons_succ, List.set_cons_zero]
        refine ord_val 33 rfl rfl rfl hB (.slice (some ⟨b, off, none⟩) len cap) (fun _ _ => rfl) ?_
        simp only [List.set_cons_succ, List.set_cons_zero]
        refine ord_val 34 rfl rfl rfl hB (.int .i64 (i : Int)) (fun _ _ => rfl) ?_
        simp only [List.set_cons_succ, List.set_cons_zero]
        refine ord_val 35 rfl rfl rfl hB (.pointer (some ⟨b, off + i * 19, none⟩)) (fun wx _ => exec_idx wx 24 48 19 _ _ rfl b off len cap i Try.underlying24 (Try.sizeOf48 wx) rfl rfl hlt) ?_
        simp only [List.set_cons_succ, List.set_cons_zero]
        refine ord_val 36 rfl rfl rfl hB (.agg (rowA kk aa)) (fun wx hw => exec_load_at wx 48 _ rfl b _ rfl _ (Try.isAgg48 wx) (by rw [rowA_size hk8]; exact Try.sizeOf48 wx) (gr.below hw hblt')) ?_
        simp only [List.set_cons_succ, List.set_cons_zero]
        refine ord_call 37 rfl rfl rfl 10 #[.agg (rowA kk aa)] (exec_call _ 10 _ _ rfl rfl _ rfl Try.call10) (toAnswer_c kk hk8 aa _) ?_
        rintro e wz ⟨rfl, hbz⟩
        have hbz' : Below wr.heap.size wr wz := (Below.refl wr.heap.size wr).drew.drew.trans hbz
        have hBz : Below mb w1 wz := HW.out.trans (hbz'.mono (Nat.le_of_lt hmlt))
        refine ⟨_, rfl, hBz, ?_⟩
        simp only [List.set_cons_succ, List.set_cons_zero]
        refine ord_done ?_
        obtain ⟨w', hr, hm', hb'⟩ := HUP.out wz hbz'
        refine last_run rfl rfl rfl (exec_update wz w' 41 (.tmp 27) (.tmp 32) (.tmp 37) rfl _ _ _ rfl rfl rfl hr) ?_
        rw [← HPUT.out] at hm'
        have HN : Hid (RelM T len mb false sk w1 (.int .i64 ((i + 1 : Nat) : Int)) w') := ⟨i + 1, by omega, rfl, hm', hb'⟩
        clear hB hbz hbz' hBz hr hm' hb' gk gr HPUT HUP
        go_wp2_with fail
        refine ⟨HN.out, ?_⟩
        simp [intOf]; omega
      | true =>
        go_wp2_with fail
        refine wp_region_ord (fun w' => Below mb w1 w') [(0, false), (1, false), (2, false), (3, false), (4, false), (5, false), (6, false), (7, false), (8, false), (9, false)] (by kernel_rfl) (by kernel_rfl)
          (fun _ _ _ d _ h => by cases d <;> exact h) (by kernel_rfl) rfl ?_
        have hB : Below mb w1 wr.drew := HW.out.drew
        refine ord_val 17 rfl rfl rfl hB (.bool true) (fun _ _ => rfl) ?_
        simp only [List.set_cons_succ, List.set_cons_zero]
        refine ord_val 18 rfl rfl rfl hB (.bool true) (fun _ _ => rfl) ?_
        simp only [List.set_cons_succ, List.set_cons_zero]
        refine ord_val 19 rfl rfl rfl hB (.slice (some ⟨b, off, none⟩) len cap) (fun _ _ => rfl) ?_
        simp only [List.set_cons_succ, List.set_cons_zero]
        refine ord_val 20 rfl rfl rfl hB (.int .i64 (i : Int)) (fun _ _ => rfl) ?_
        simp only [List.set_cons_succ, List.set_cons_zero]
        refine ord_val 21 rfl rfl rfl hB (.pointer (some ⟨b, off + i * 19, none⟩)) (fun wx _ => exec_idx wx 24 48 19 _ _ rfl b off len cap i Try.underlying24 (Try.sizeOf48 wx) rfl rfl hlt) ?_
        simp only [List.set_cons_succ, List.set_cons_zero]
        refine ord_val 22 rfl rfl rfl hB (.pointer (some ⟨b, off + i * 19, none⟩)) (fun wx _ => exec_field wx 48 _ 0 rfl ⟨b, off + i * 19, none⟩ rfl _ (by simp [go_sem])) ?_
        simp only [List.set_cons_succ, List.set_cons_zero]
        refine ord_val 23 rfl rfl rfl hB (.agg (keyA kk)) (fun wx hw => exec_load_at wx 30 _ rfl b _ rfl _ (Try.isAgg30 wx) (by rw [keyA_size, hk8]; exact Try.sizeOf30 wx) (gk.below hw hblt')) ?_
        simp only [List.set_cons_succ, List.set_cons_zero]
        refine ord_val 24 rfl rfl rfl hB (.agg (keyA sk)) (fun wx hw => exec_load_at wx 30 _ rfl w.heap.size 0 rfl _ (Try.isAgg30 wx) (by rw [keyA_size, hk]; exact Try.sizeOf30 wx) (hkey.below hw hwl)) ?_
        simp only [List.set_cons_succ, List.set_cons_zero]
        refine ord_val 25 rfl rfl rfl hB (.bool (kk == sk)) (fun wx _ => exec_eqkey wx 30 30 (.tmp 23) (.tmp 24) rfl kk sk hk8 hk Try.underlying30 Try.eqGuardType30 rfl rfl) ?_
        simp only [List.set_cons_succ, List.set_cons_zero]
        refine ord_val 26 rfl rfl rfl hB (.bool (kk == sk)) (fun wx _ => exec_pick wx (.tmp 18) (.tmp 25) (.const (.bool false)) rfl true rfl _ rfl) ?_
        simp only [List.set_cons_succ, List.set_cons_zero]
        refine ord_done ?_
        clear hB
        by_cases hek : kk = sk
        · have hev : (kk == sk) = true := by rw [beq_iff_eq]; exact hek
          rw [hev]
          have HF : Hid (RelM T len mb true sk w1 (.int .i64 ((i + 1 : Nat) : Int)) wr.drew) := ⟨i + 1, by omega, rfl, by
            rw [HST.out]
            unfold step
            rw [if_pos ⟨rfl, hek⟩]
            exact HMD.out, HW.out.drew⟩
          clear hev hek HST HMD
          go_wp2_with fail
          refine ⟨HF.out, ?_⟩
          simp [intOf]; omega
        · have hev : (kk == sk) = false := by rw [beq_eq_false_iff_ne]; exact hek
          rw [hev]
          have hst : mapT true sk (T.take (i + 1)) = putM (mapT true sk (T.take i)) kk aa := by rw [HST.out]; unfold step; rw [if_neg (fun h => hek h.2)]
          have HPUT : Hid (mapT true sk (T.take (i + 1)) = putM (mapT true sk (T.take i)) kk aa) := hst
          clear hst HST HMD hev hek gk
          have gk : HasA w1 b (off + i * 19) (keyA kk) := rowA_key gr
          go_wp2_with fail
          refine wp_region_ordT (fun w' => Below mb w1 w') 11 [(0, false), (1, false), (2, false), (3, false), (4, false), (5, false), (6, false), (7, false), (8, false), (9, false), (10, true)] (by kernel_rfl) (by kernel_rfl)
            (fun _ _ _ d _ h => by cases d <;> exact h) (by kernel_rfl) rfl ?_
          have hB : Below mb w1 wr.drew.drew := HW.out.drew.drew
          refine ord_val 27 rfl rfl rfl hB (.map (some mb)) (fun _ _ => rfl) ?_
          simp only [List.set_cons_succ, List.set_cons_zero]
          refine ord_val 28 rfl rfl rfl hB (.slice (some ⟨b, off, none⟩) len cap) (fun _ _ => rfl) ?_
          simp only [List.set_cons_succ, List.set_cons_zero]
          refine ord_val 29 rfl rfl rfl hB (.int .i64 (i : Int)) (fun _ _ => rfl) ?_
          simp only [List.set_cons_succ, List.set_cons_zero]
          refine ord_val 30 rfl rfl rfl hB (.pointer (some ⟨b, off + i * 19, none⟩)) (fun wx _ => exec_idx wx 24 48 19 _ _ rfl b off len cap i Try.underlying24 (Try.sizeOf48 wx) rfl rfl hlt) ?_
          simp only [List.set_cons_succ, List.set_cons_zero]
          refine ord_val 31 rfl rfl rfl hB (.pointer (some ⟨b, off + i * 19, none⟩)) (fun wx _ => exec_field wx 48 _ 0 rfl ⟨b, off + i * 19, none⟩ rfl _ (by simp [go_sem])) ?_
          simp only [List.set_cons_succ, List.set_cons_zero]
          refine ord_val 32 rfl rfl rfl hB (.agg (keyA kk)) (fun wx hw => exec_load_at wx 30 _ rfl b _ rfl _ (Try.isAgg30 wx) (by rw [keyA_size, hk8]; exact Try.sizeOf30 wx) (gk.below hw hblt')) ?_
          simp only [List.set_cons_succ, List.set_cons_zero]
          refine ord_val 33 rfl rfl rfl hB (.slice (some ⟨b, off, none⟩) len cap) (fun _ _ => rfl) ?_
          simp only [List.set_cons_succ, List.set_cons_zero]
          refine ord_val 34 rfl rfl rfl hB (.int .i64 (i : Int)) (fun _ _ => rfl) ?_
          simp only [List.set_cons_succ, List.set_cons_zero]
          refine ord_val 35 rfl rfl rfl hB (.pointer (some ⟨b, off + i * 19, none⟩)) (fun wx _ => exec_idx wx 24 48 19 _ _ rfl b off len cap i Try.underlying24 (Try.sizeOf48 wx) rfl rfl hlt) ?_
          simp only [List.set_cons_succ, List.set_cons_zero]
          refine ord_val 36 rfl rfl rfl hB (.agg (rowA kk aa)) (fun wx hw => exec_load_at wx 48 _ rfl b _ rfl _ (Try.isAgg48 wx) (by rw [rowA_size hk8]; exact Try.sizeOf48 wx) (gr.below hw hblt')) ?_
          simp only [List.set_cons_succ, List.set_cons_zero]
          refine ord_call 37 rfl rfl rfl 10 #[.agg (rowA kk aa)] (exec_call _ 10 _ _ rfl rfl _ rfl Try.call10) (toAnswer_c kk hk8 aa _) ?_
          rintro e wz ⟨rfl, hbz⟩
          have hbz' : Below wr.heap.size wr wz := (Below.refl wr.heap.size wr).drew.drew.trans hbz
          have hBz : Below mb w1 wz := HW.out.trans (hbz'.mono (Nat.le_of_lt hmlt))
          refine ⟨_, rfl, hBz, ?_⟩
          simp only [List.set_cons_succ, List.set_cons_zero]
          refine ord_done ?_
          obtain ⟨w', hr, hm', hb'⟩ := HUP.out wz hbz'
          refine last_run rfl rfl rfl (exec_update wz w' 41 (.tmp 27) (.tmp 32) (.tmp 37) rfl _ _ _ rfl rfl rfl hr) ?_
          rw [← HPUT.out] at hm'
          have HN : Hid (RelM T len mb true sk w1 (.int .i64 ((i + 1 : Nat) : Int)) w') := ⟨i + 1, by omega, rfl, hm', hb'⟩
          clear hB hbz hbz' hBz hr hm' hb' gk gr HPUT HUP
          go_wp2_with fail
          refine ⟨HN.out, ?_⟩
          simp [intOf]; omega
    · have hil : i = len := by omega
      have HFIN : Hid (MapAt wr mb (mapT skip sk T)) := by
        show MapAt wr mb (mapT skip sk T)
        have := HMI.out
        rw [hil, HL.out, List.take_length] at this
        exact this
      clear HMI hil
      go_wp2_with fail
      go_ret
      exact ⟨rfl, HFIN.out, hbel.trans (HW.out.mono (by rw [HMB.out]; omega))⟩
end Go.Proofs.Qxb6612879a
