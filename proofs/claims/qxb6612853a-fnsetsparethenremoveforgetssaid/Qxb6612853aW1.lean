/-
  The walks of the law's own small functions: zzBytes.., zzLeadBits, zzNearer, zzSortedAway.
-/
import Derived.Test.Qxb6612853aBase
namespace Go.Proofs.Qxb6612853a
open Go.RowKit

theorem below_dN {B : Nat} {a w : World} (h : Below B a w) (n : Nat) : Below B a (w.drewN n) := ⟨h.os, h.tape, h.output, h.size, h.block⟩
theorem vint {k : IntKind} {a b : Int} (h : a = b) : Value.int k a = .int k b := by rw [h]
theorem ret_int {k : IntKind} {a b : Int} (h : a = b) : Ending.returned (.int k a) = .returned (.int k b) := by rw [h]

theorem u8_128 : ∀ x : Nat, x < 256 → (bits .and .u8 (x : Int) 128 == 0) = decide (x < 128) := by decide +kernel
theorem u8_and128 (x : Nat) (h : x < 256) : (bits .and .u8 (x : Int) 128 == 0) = decide (x < 128) := u8_128 x h

set_option maxHeartbeats 400000 in
theorem lead_c (a b : List Nat) (ha : IsID a) (hb : IsID b) (w : World) :
    Calls Try.prog 15 #[.agg (idA a), .agg (idA b)] w fun e w' => e = .returned (.int .i64 (lead a b : Nat)) ∧ Below w.heap.size w w' := by
  go_enter Try.func15, Try.ntmps15
  go_wp2_with fail
  obtain ⟨w1, hw1⟩ : ∃ x, x = (w.alloc (.cells (idA a) 22)).alloc (.cells (idA b) 22) := ⟨_, rfl⟩
  rw [← hw1]
  have hca : ∀ i, i < 32 → w1.cell? ⟨w.heap.size, i, none⟩ = some (.int .u8 (byt a i)) := fun i hi => by
    rw [hw1, World.cell?_alloc_past _ _ _ (by simp), World.cell?_alloc_at _ _ _ _ rfl, idA_get _ _ (by rw [ha.1]; exact hi)]
  have hcb : ∀ i, i < 32 → w1.cell? ⟨w.heap.size + 1, i, none⟩ = some (.int .u8 (byt b i)) := fun i hi => by
    rw [hw1, World.cell?_alloc_at _ _ _ _ (by simp), idA_get _ _ (by rw [hb.1]; exact hi)]
  have hbel : Below w.heap.size w w1 := by rw [hw1]; exact ((Below.refl _ _).alloc (Nat.le_refl _) _).alloc (by simp) _
  clear hw1
  go_loopw [5] (fun i wr => ∃ k : Nat, k ≤ 32 ∧ i = .int .i64 k ∧ (∀ j, j < k → (xorL a b).getD j 0 = 0) ∧ ∃ n, wr = w1.drewN n) (fun i _ => 32 - (intOf i).toNat)
  case atStart => exact ⟨0, by omega, rfl, fun j hj => absurd hj (Nat.not_lt_zero _), 0, rfl⟩
  case round =>
    obtain ⟨k, hk, rfl, hz, n, rfl⟩ := hrel
    have HZ : Hid (∀ j, j < k → (xorL a b).getD j 0 = 0) := hz
    clear hz
    by_cases hlt : k < 32
    · have h1 := hca k hlt
      have h2 := hcb k hlt
      have hx := byt_xor ha hb k hlt
      have hx8 : (xorL a b).getD k 0 < 256 := by rw [xorL_get ha hb k hlt]; exact xor_lt _ _ (ha.lt k) (hb.lt k)
      obtain ⟨x, hxe⟩ : ∃ x, x = (xorL a b).getD k 0 := ⟨_, rfl⟩
      rw [← hxe] at hx hx8
      have HX : Hid (x = (xorL a b).getD k 0) := hxe
      clear hxe
      by_cases hx0 : x = 0
      · subst hx0
        have hx' : bits .xor .u8 (byt a k) (byt b k) = 0 := by simpa using hx
        clear hx
        go_wp2_with fail
        go_quiet (fail)
        go_wp2_with fail
        go_roundw
        case rel => exact ⟨k + 1, by omega, by go_num, fun j hj => by
                      by_cases e : j = k
                      · subst e; exact HX.out.symm
                      · exact HZ.out j (by omega), _, rfl⟩
        case measure => simp [intOf]; omega
      · have hne : ((x : Int) != 0) = true := by rw [bne_iff_ne]; omega
        go_wp2_with fail
        go_quiet (fail)
        go_wp2_with fail
        go_loop [6, 7] (fun u v => ∃ y m : Nat, u = .int .u8 y ∧ v = .int .i64 m ∧ 0 < y ∧ y < 256 ∧ m + clz8 y = clz8 x) (fun u _ => clz8 (intOf u).toNat)
        case atStart => exact ⟨x, 0, rfl, rfl, by omega, hx8, by omega⟩
        case round =>
          obtain ⟨y, m, rfl, rfl, hy0, hy8, hym⟩ := hrel
          have HY : Hid (m + clz8 y = clz8 x) := hym
          have hm8 : m ≤ 8 := by have := clz8_le x; omega
          clear hym
          have hand := u8_and128 y hy8
          by_cases hy : y < 128
          · have hand' : (bits .and .u8 (y : Int) 128 == 0) = true := by rw [hand]; simp [hy]
            clear hand
            go_wp2_with fail
            have hd := clz8_dbl hy0 hy
            have hyy := HY.out
            refine ⟨⟨2 * y, m + 1, vint (by omega), vint (by omega), by omega, by omega, by omega⟩, ?_⟩
            have e1 : (intOf (Value.int IntKind.u8 ((y : Int) * 2))).toNat = 2 * y := by simp [intOf]; omega
            have e2 : (intOf (Value.int IntKind.u8 (y : Int))).toNat = y := by simp [intOf]
            rw [e1, e2]
            omega
          · have hand' : (bits .and .u8 (y : Int) 128 == 0) = false := by rw [hand]; simp [hy]
            clear hand
            go_wp2_with fail
            go_ret
            refine ⟨ret_int ?_, below_dN hbel _⟩
            have e1 := leadK_hit (xorL a b) k (by rw [xorL_len ha hb]; exact hlt) HZ.out (by rw [← HX.out]; exact hx0)
            rw [← HX.out] at e1
            have e2 : clz8 y = 0 := clz8_big (by omega)
            have e3 := HY.out
            unfold lead
            omega
    · go_wp2_with fail
      go_ret
      refine ⟨ret_int ?_, below_dN hbel _⟩
      have e1 := leadK_all (xorL a b) (fun j hj => HZ.out j (by rw [xorL_len ha hb] at hj; omega))
      rw [xorL_len ha hb] at e1
      unfold lead
      omega

set_option maxHeartbeats 400000 in
theorem nearer_c (self a b : List Nat) (hs : IsID self) (ha : IsID a) (hb : IsID b) (w : World) :
    Calls Try.prog 38 #[.agg (idA self), .agg (idA a), .agg (idA b)] w fun e w' => e = .returned (.bool (nearer self a b)) ∧ Below w.heap.size w w' := by
  go_enter Try.func38, Try.ntmps38
  go_wp2_with fail
  obtain ⟨w1, hw1⟩ : ∃ x, x = ((w.alloc (.cells (idA self) 22)).alloc (.cells (idA a) 22)).alloc (.cells (idA b) 22) := ⟨_, rfl⟩
  rw [← hw1]
  have hcs : ∀ i, i < 32 → w1.cell? ⟨w.heap.size, i, none⟩ = some (.int .u8 (byt self i)) := fun i hi => by
    rw [hw1, World.cell?_alloc_past _ _ _ (by simp; omega), World.cell?_alloc_past _ _ _ (by simp), World.cell?_alloc_at _ _ _ _ rfl, idA_get _ _ (by rw [hs.1]; exact hi)]
  have hca : ∀ i, i < 32 → w1.cell? ⟨w.heap.size + 1, i, none⟩ = some (.int .u8 (byt a i)) := fun i hi => by
    rw [hw1, World.cell?_alloc_past _ _ _ (by simp), World.cell?_alloc_at _ _ _ _ (by simp), idA_get _ _ (by rw [ha.1]; exact hi)]
  have hcb : ∀ i, i < 32 → w1.cell? ⟨w.heap.size + 2, i, none⟩ = some (.int .u8 (byt b i)) := fun i hi => by
    rw [hw1, World.cell?_alloc_at _ _ _ _ (by simp), idA_get _ _ (by rw [hb.1]; exact hi)]
  have hbel : Below w.heap.size w w1 := by rw [hw1]; exact (((Below.refl _ _).alloc (Nat.le_refl _) _).alloc (by simp) _).alloc (by simp; omega) _
  clear hw1
  go_loopw [7] (fun i wr => ∃ k : Nat, k ≤ 32 ∧ i = .int .i64 k ∧ (∀ j, j < k → (xorL a self).getD j 0 = (xorL b self).getD j 0) ∧ ∃ n, wr = w1.drewN n) (fun i _ => 32 - (intOf i).toNat)
  case atStart => exact ⟨0, by omega, rfl, fun j hj => absurd hj (Nat.not_lt_zero _), 0, rfl⟩
  case round =>
    obtain ⟨k, hk, rfl, hz, n, rfl⟩ := hrel
    have HZ : Hid (∀ j, j < k → (xorL a self).getD j 0 = (xorL b self).getD j 0) := hz
    clear hz
    by_cases hlt : k < 32
    · have h0 := hcs k hlt
      have h1 := hca k hlt
      have h2 := hcb k hlt
      have hx := byt_xor ha hs k hlt
      have hy := byt_xor hb hs k hlt
      obtain ⟨x, hxe⟩ : ∃ x, x = (xorL a self).getD k 0 := ⟨_, rfl⟩
      obtain ⟨y, hye⟩ : ∃ y, y = (xorL b self).getD k 0 := ⟨_, rfl⟩
      rw [← hxe] at hx
      rw [← hye] at hy
      have HX : Hid (x = (xorL a self).getD k 0) := hxe
      have HY : Hid (y = (xorL b self).getD k 0) := hye
      clear hxe hye
      by_cases hxy : x = y
      · have HXY : Hid (x = y) := hxy
        have hne : ((x : Int) != (y : Int)) = false := by simp [hxy]
        clear hxy
        go_wp2_with fail
        go_quiet (fail)
        go_wp2_with fail
        go_quiet (fail)
        go_wp2_with fail
        go_roundw
        case rel => exact ⟨k + 1, by omega, by go_num, fun j hj => by
                      by_cases e : j = k
                      · subst e; rw [← HX.out, ← HY.out]; exact HXY.out
                      · exact HZ.out j (by omega), _, rfl⟩
        case measure => simp [intOf]; omega
      · have HXY : Hid (¬ x = y) := hxy
        have hne : ((x : Int) != (y : Int)) = true := by rw [bne_iff_ne]; omega
        clear hxy
        go_wp2_with fail
        go_quiet (fail)
        go_wp2_with fail
        go_quiet (fail)
        go_wp2_with fail
        go_ret
        refine ⟨?_, below_dN hbel _⟩
        have e := lexLt_hit (xorL a self) (xorL b self) k (by rw [xorL_len ha hs]; exact hlt) (by rw [xorL_len hb hs]; exact hlt) HZ.out (by rw [← HX.out, ← HY.out]; exact HXY.out)
        rw [← HX.out, ← HY.out] at e
        unfold nearer
        rw [e]
        show Ending.returned (.bool _) = _
        congr 2
    · go_wp2_with fail
      go_ret
      refine ⟨?_, below_dN hbel _⟩
      have e := lexLt_same (xorL a self) (xorL b self) (fun j => by
        by_cases hj : j < 32
        · exact HZ.out j (by omega)
        · rw [List.getD_eq_getElem?_getD, List.getD_eq_getElem?_getD, List.getElem?_eq_none (by rw [xorL_len ha hs]; omega), List.getElem?_eq_none (by rw [xorL_len hb hs]; omega)]) (by rw [xorL_len ha hs, xorL_len hb hs])
      unfold nearer
      rw [e]
      rfl
end Go.Proofs.Qxb6612853a
