/-
  bits.Len8, LeadingZeros8, prefixLen, Band, closer.
-/
import Derived.Test.Qxb6612853aW9
import Derived.Lib.Tables
namespace Go.Proofs.Qxb6612853a
open Go.RowKit

theorem len8_clz : ∀ x : Nat, x < 256 → Lib.len8 (x : Int) = 8 - (clz8 x : Int) := by decide +kernel

set_option maxHeartbeats 1000000 in
theorem len8_c (x : Nat) (hx : x < 256) (w : World) : Calls Try.prog 51 #[.int .u8 (x : Int)] w fun e w' => e = .returned (.int .i64 (8 - (clz8 x : Int))) ∧ w' = w := by
  have h0 : (0 : Int) ≤ x := by omega
  have h1 : (x : Int) ≤ 255 := by omega
  rw [← len8_clz x hx]
  go_enter Try.func51, Try.ntmps51
  go_wp2_with fail
  go_ret
  refine ⟨ret_int ?_, rfl⟩
  have e := len8_clz x hx
  have l := clz8_le x
  rw [e]
  unfold wrap64
  omega

set_option maxHeartbeats 1000000 in
theorem lz8_c (x : Nat) (hx : x < 256) (w : World) : Calls Try.prog 50 #[.int .u8 (x : Int)] w fun e w' => e = .returned (.int .i64 (clz8 x : Int)) ∧ w' = w := by
  have hl := clz8_le x
  go_enter Try.func50, Try.ntmps50
  go_wp2_with (refine (len8_c x hx _).mono ?_)
  rintro e w' ⟨rfl, rfl⟩
  go_wp2_with fail
  go_ret
  exact ⟨ret_int (by omega), rfl⟩

set_option maxHeartbeats 400000 in
theorem prefix_c (a b : List Nat) (ha : IsID a) (hb : IsID b) (w : World) :
    Calls Try.prog 49 #[.agg (idA a), .agg (idA b)] w fun e w' => e = .returned (.int .i64 (lead a b : Nat)) ∧ Below w.heap.size w w' := by
  go_enter Try.func49, Try.ntmps49
  go_wp2_with fail
  obtain ⟨w1, hw1⟩ : ∃ x, x = (w.alloc (.cells (idA a) 27)).alloc (.cells (idA b) 27) := ⟨_, rfl⟩
  rw [← hw1]
  have hca : ∀ i, i < 32 → w1.cell? ⟨w.heap.size, i, none⟩ = some (.int .u8 (byt a i)) := fun i hi => by
    rw [hw1, World.cell?_alloc_past _ _ _ (by simp), World.cell?_alloc_at _ _ _ _ rfl, idA_get _ _ (by rw [ha.1]; exact hi)]
  have hcb : ∀ i, i < 32 → w1.cell? ⟨w.heap.size + 1, i, none⟩ = some (.int .u8 (byt b i)) := fun i hi => by
    rw [hw1, World.cell?_alloc_at _ _ _ _ (by simp), idA_get _ _ (by rw [hb.1]; exact hi)]
  have hbel : Below w.heap.size w w1 := by rw [hw1]; exact ((Below.refl _ _).alloc (Nat.le_refl _) _).alloc (by simp) _
  clear hw1
  go_loopw [7] (fun i wr => ∃ k : Nat, k ≤ 32 ∧ i = .int .i64 k ∧ (∀ j, j < k → (xorL a b).getD j 0 = 0) ∧ ∃ n, wr = w1.drewN n) (fun i _ => 32 - (intOf i).toNat)
  case atStart => exact ⟨0, by omega, rfl, fun j hj => absurd hj (Nat.not_lt_zero _), 0, rfl⟩
  case round =>
    obtain ⟨k, hk, rfl, hz, n, rfl⟩ := hrel
    have HZ : Hid (∀ j, j < k → (xorL a b).getD j 0 = 0) := hz
    clear hz
    by_cases hlt : k < 32
    · have h1 := hca k hlt
      have h2 := hcb k hlt
      have hx := byt_xor ha hb k hlt
      have hx8 : (xorL a b).getD k 0 < 256 := by rw [xorL_get ha hb k hlt]; exact xor_lt _ _ (ha.lt k) (hb.lt k)
      obtain ⟨x, hxe⟩ : ∃ x, x = (xorL a b).getD k 0 := ⟨_, rfl⟩
      rw [← hxe] at hx hx8
      have HX : Hid (x = (xorL a b).getD k 0) := hxe
      clear hxe
      by_cases hx0 : x = 0
      · subst hx0
        have hx' : bits .xor .u8 (byt a k) (byt b k) = 0 := by simpa using hx
        clear hx
        go_wp2_with fail
        go_quiet (fail)
        go_wp2_with fail
        go_roundw
        case rel => exact ⟨k + 1, by omega, by go_num, fun j hj => by
                      by_cases e : j = k
                      · subst e; exact HX.out.symm
                      · exact HZ.out j (by omega), _, rfl⟩
        case measure => simp [intOf]; omega
      · have hne : ((x : Int) != 0) = true := by rw [bne_iff_ne]; omega
        have hl := clz8_le x
        go_wp2_with fail
        go_quiet (fail)
        go_wp2_with (refine (lz8_c x hx8 _).mono ?_)
        rintro e w' ⟨rfl, rfl⟩
        go_wp2_with fail
        go_ret
        refine ⟨ret_int ?_, below_dN hbel _⟩
        have e1 := leadK_hit (xorL a b) k (by rw [xorL_len ha hb]; exact hlt) HZ.out (by rw [← HX.out]; exact hx0)
        rw [← HX.out] at e1
        unfold lead
        omega
    · go_wp2_with fail
      go_ret
      refine ⟨ret_int ?_, below_dN hbel _⟩
      have e1 := leadK_all (xorL a b) (fun j hj => HZ.out j (by rw [xorL_len ha hb] at hj; omega))
      rw [xorL_len ha hb] at e1
      unfold lead
      omega
set_option maxHeartbeats 400000 in
theorem closer_c (self a b : List Nat) (hs : IsID self) (ha : IsID a) (hb : IsID b) (w : World) :
    Calls Try.prog 46 #[.agg (idA self), .agg (idA a), .agg (idA b)] w fun e w' => e = .returned (.bool (nearer self a b)) ∧ Below w.heap.size w w' := by
  go_enter Try.func46, Try.ntmps46
  go_wp2_with fail
  obtain ⟨w1, hw1⟩ : ∃ x, x = ((w.alloc (.cells (idA self) 27)).alloc (.cells (idA a) 27)).alloc (.cells (idA b) 27) := ⟨_, rfl⟩
  rw [← hw1]
  have hcs : ∀ i, i < 32 → w1.cell? ⟨w.heap.size, i, none⟩ = some (.int .u8 (byt self i)) := fun i hi => by
    rw [hw1, World.cell?_alloc_past _ _ _ (by simp; omega), World.cell?_alloc_past _ _ _ (by simp), World.cell?_alloc_at _ _ _ _ rfl, idA_get _ _ (by rw [hs.1]; exact hi)]
  have hca : ∀ i, i < 32 → w1.cell? ⟨w.heap.size + 1, i, none⟩ = some (.int .u8 (byt a i)) := fun i hi => by
    rw [hw1, World.cell?_alloc_past _ _ _ (by simp), World.cell?_alloc_at _ _ _ _ (by simp), idA_get _ _ (by rw [ha.1]; exact hi)]
  have hcb : ∀ i, i < 32 → w1.cell? ⟨w.heap.size + 2, i, none⟩ = some (.int .u8 (byt b i)) := fun i hi => by
    rw [hw1, World.cell?_alloc_at _ _ _ _ (by simp), idA_get _ _ (by rw [hb.1]; exact hi)]
  have hbel : Below w.heap.size w w1 := by rw [hw1]; exact (((Below.refl _ _).alloc (Nat.le_refl _) _).alloc (by simp) _).alloc (by simp; omega) _
  clear hw1
  go_loopw [10] (fun i wr => ∃ k : Nat, k ≤ 32 ∧ i = .int .i64 k ∧ (∀ j, j < k → (xorL a self).getD j 0 = (xorL b self).getD j 0) ∧ ∃ n, wr = w1.drewN n) (fun i _ => 32 - (intOf i).toNat)
  case atStart => exact ⟨0, by omega, rfl, fun j hj => absurd hj (Nat.not_lt_zero _), 0, rfl⟩
  case round =>
    obtain ⟨k, hk, rfl, hz, n, rfl⟩ := hrel
    have HZ : Hid (∀ j, j < k → (xorL a self).getD j 0 = (xorL b self).getD j 0) := hz
    clear hz
    by_cases hlt : k < 32
    · have h0 := hcs k hlt
      have h1 := hca k hlt
      have h2 := hcb k hlt
      have hx := byt_xor ha hs k hlt
      have hy := byt_xor hb hs k hlt
      obtain ⟨x, hxe⟩ : ∃ x, x = (xorL a self).getD k 0 := ⟨_, rfl⟩
      obtain ⟨y, hye⟩ : ∃ y, y = (xorL b self).getD k 0 := ⟨_, rfl⟩
      rw [← hxe] at hx
      rw [← hye] at hy
      have HX : Hid (x = (xorL a self).getD k 0) := hxe
      have HY : Hid (y = (xorL b self).getD k 0) := hye
      clear hxe hye
      by_cases hxy : x = y
      · have HXY : Hid (x = y) := hxy
        have hne : ((x : Int) != (y : Int)) = false := by simp [hxy]
        clear hxy
        go_wp2_with fail
        go_quiet (fail)
        go_wp2_with fail
        go_roundw
        case rel => exact ⟨k + 1, by omega, by go_num, fun j hj => by
                      by_cases e : j = k
                      · subst e; rw [← HX.out, ← HY.out]; exact HXY.out
                      · exact HZ.out j (by omega), _, rfl⟩
        case measure => simp [intOf]; omega
      · have HXY : Hid (¬ x = y) := hxy
        have hne : ((x : Int) != (y : Int)) = true := by rw [bne_iff_ne]; omega
        clear hxy
        go_wp2_with fail
        go_quiet (fail)
        go_wp2_with fail
        go_ret
        refine ⟨?_, below_dN hbel _⟩
        have e := lexLt_hit (xorL a self) (xorL b self) k (by rw [xorL_len ha hs]; exact hlt) (by rw [xorL_len hb hs]; exact hlt) HZ.out (by rw [← HX.out, ← HY.out]; exact HXY.out)
        rw [← HX.out, ← HY.out] at e
        unfold nearer
        rw [e]
        show Ending.returned (.bool _) = _
        congr 2
    · go_wp2_with fail
      go_ret
      refine ⟨?_, below_dN hbel _⟩
      have e := lexLt_same (xorL a self) (xorL b self) (fun j => by
        by_cases hj : j < 32
        · exact HZ.out j (by omega)
        · rw [List.getD_eq_getElem?_getD, List.getD_eq_getElem?_getD, List.getElem?_eq_none (by rw [xorL_len ha hs]; omega), List.getElem?_eq_none (by rw [xorL_len hb hs]; omega)]) (by rw [xorL_len ha hs, xorL_len hb hs])
      unfold nearer
      rw [e]
      rfl

theorem field64_0 (w : World) (tb : Nat) : (Instr.fieldAt 64 (.pointer (some ⟨tb, 0, none⟩)) 0).run Try.prog w = .ok (.pointer (some ⟨tb, 0, none⟩)) w := by
  simp [go_sem]
theorem field32_0 (w : World) (tb o : Nat) : (Instr.fieldAt 32 (.pointer (some ⟨tb, o, none⟩)) 0).run Try.prog w = .ok (.pointer (some ⟨tb, o, none⟩)) w := by
  simp [go_sem]

set_option maxHeartbeats 400000 in
theorem band_c (self a : List Nat) (hs : IsID self) (ha : IsID a) (tb : Nat) (w : World) (ht : HasA w tb 0 (idA self)) (hlt : tb < w.heap.size) :
    Calls Try.prog 43 #[.pointer (some ⟨tb, 0, none⟩), .agg (idA a)] w fun e w' => e = .returned (.int .i64 (lead self a : Nat)) ∧ Below w.heap.size w w' := by
  go_enter Try.func43, Try.ntmps43
  go_wp2_with fail
  obtain ⟨w1, hw1⟩ : ∃ x, x = w.alloc (.cells (idA a) 27) := ⟨_, rfl⟩
  rw [← hw1]
  have hz1 : w1.heap.size = w.heap.size + 1 := by rw [hw1]; simp
  have hia : HasA w1 w.heap.size 0 (idA a) := by rw [hw1]; exact HasA.of_block (heap_alloc_new w _)
  have hbel : Below w.heap.size w w1 := by rw [hw1]; exact (Below.refl _ _).alloc (Nat.le_refl _) _
  have ht1 : HasA w1 tb 0 (idA self) := ht.below hbel hlt
  clear hw1
  refine wp_region_ord (fun w' => Below w1.heap.size w1 w') [(0, false), (1, false), (2, false), (3, false), (4, false), (5, false), (6, true), (7, false)] (by kernel_rfl) (by kernel_rfl)
    (fun _ _ _ d _ h => by cases d <;> exact h) (by kernel_rfl) rfl ?_
  have hB : Below w1.heap.size w1 w1.drew := (Below.refl _ _).drew
  refine ord_val 5 rfl rfl rfl hB (.pointer (some ⟨tb, 0, none⟩)) (fun _ _ => rfl) ?_
  simp only [List.set_cons_succ, List.set_cons_zero]
  refine ord_val 6 rfl rfl rfl hB (.pointer (some ⟨tb, 0, none⟩)) (fun wx _ => exec_nilck wx _ rfl _ rfl) ?_
  simp only [List.set_cons_succ, List.set_cons_zero]
  refine ord_val 7 rfl rfl rfl hB (.pointer (some ⟨tb, 0, none⟩)) (fun wx _ => exec_field wx 64 _ 0 rfl _ rfl _ (field64_0 wx tb)) ?_
  simp only [List.set_cons_succ, List.set_cons_zero]
  refine ord_val 8 rfl rfl rfl hB (.pointer (some ⟨tb, 0, none⟩)) (fun wx _ => exec_field wx 32 _ 0 rfl _ rfl _ (field32_0 wx tb 0)) ?_
  simp only [List.set_cons_succ, List.set_cons_zero]
  refine ord_val 9 rfl rfl rfl hB (.agg (idA self)) (fun wx hw => exec_load_at wx 27 _ rfl tb 0 rfl _ (Try.isAgg27 wx) (by rw [idA_size, hs.1]; exact Try.sizeOf27 wx) (ht1.below hw (by omega))) ?_
  simp only [List.set_cons_succ, List.set_cons_zero]
  refine ord_val 10 rfl rfl rfl hB (.agg (idA a)) (fun wx hw => exec_load_at wx 27 _ rfl w.heap.size 0 rfl _ (Try.isAgg27 wx) (by rw [idA_size, ha.1]; exact Try.sizeOf27 wx) (hia.below hw (by omega))) ?_
  simp only [List.set_cons_succ, List.set_cons_zero]
  refine ord_call 11 rfl rfl rfl 49 #[.agg (idA self), .agg (idA a)] (exec_call _ 49 _ _ rfl rfl _ rfl Try.call49) (prefix_c self a hs ha _) ?_
  rintro e w2 ⟨rfl, hb2⟩
  have hB2 : Below w1.heap.size w1 w2 := hB.trans (hb2.mono hB.size)
  refine ⟨_, rfl, hB2, ?_⟩
  simp only [List.set_cons_succ, List.set_cons_zero]
  refine ord_val 4 rfl rfl rfl hB2 (.int .i64 (lead self a : Nat)) (fun _ _ => rfl) ?_
  simp only [List.set_cons_succ, List.set_cons_zero]
  refine ord_done ?_
  have HB2 : Hid (Below w1.heap.size w1 w2) := hB2
  clear hB hB2 hb2
  go_wp2_with fail
  go_ret
  exact ⟨rfl, hbel.trans (HB2.out.mono (by omega))⟩
end Go.Proofs.Qxb6612853a
