/-
  The walks of the six zzBytes..: 'the lengths add up to at most 1<<20'.
-/
import Derived.Test.Qxb6612853aW1
namespace Go.Proofs.Qxb6612853a
open Go.RowKit

/-- What zzBytes.. answers. -/
def okBytes (len : Nat) : Bool := decide (33 * len ≤ 1048576)
theorem okBytes_le {len : Nat} (h : okBytes len = true) : len ≤ 31775 := by
  simp [okBytes] at h; omega

set_option maxHeartbeats 400000 in
theorem bytes11_c (self : List Nat) (ao : Option Addr) (len cap : Nat) (w : World) :
    Calls Try.prog 11 #[.agg (idA self), .slice ao len cap] w fun e w' => e = .returned (.bool (okBytes len)) ∧ Below w.heap.size w w' := by
  by_cases hbig : (1048576 : Int) < (len : Int)
  · have hfin : Hid (okBytes len = false) := by show okBytes len = false; unfold okBytes; first | exact decide_eq_false (by have := HLE.out; omega) | exact decide_eq_true (by have := HLE.out; omega) | exact decide_eq_false (by omega)
    go_enter Try.func11, Try.ntmps11
    go_wp2_with fail
    go_ret
    exact ⟨by rw [hfin.out]; rfl, (Below.refl _ _).alloc (Nat.le_refl _) _⟩
  · have h1 : (len : Int) ≤ 1048576 := by omega
    clear hbig
    go_enter Try.func11, Try.ntmps11
    go_wp2_with fail
    obtain ⟨w1, hw1⟩ : ∃ x, x = w.alloc (.cells (idA self) 22) := ⟨_, rfl⟩
    rw [← hw1]
    have hbel : Below w.heap.size w w1 := by rw [hw1]; exact (Below.refl _ _).alloc (Nat.le_refl _) _
    clear hw1
    go_loop [5, 6] (fun z i => ∃ k : Nat, k ≤ len ∧ i = .int .i64 k ∧ z = .int .i64 ((len : Int) + 32 * (k : Int)) ∧ len + 32 * k ≤ 1048576) (fun _ i => len - (intOf i).toNat)
    case atStart => exact ⟨0, by omega, rfl, vint (by omega), by omega⟩
    case round =>
      obtain ⟨k, hk, rfl, rfl, hle⟩ := hrel
      have HLE : Hid (len + 32 * k ≤ 1048576) := hle
      have hle' : (len : Int) + 32 * (k : Int) ≤ 1048576 := by omega
      clear hle
      by_cases hlt : k < len
      · have hkk : (k : Int) < (len : Int) := by omega
        by_cases hov : (len : Int) + 32 * (k : Int) + 32 ≤ 1048576
        · obtain ⟨z, hz⟩ : ∃ z : Int, z = (len : Int) + 32 * (k : Int) := ⟨_, rfl⟩
          rw [← hz] at hov hle' ⊢
          have HZ : Hid (z = (len : Int) + 32 * (k : Int)) := hz
          have hz0 : 0 ≤ z := by omega
          clear hz
          go_wp2_with fail
          go_round
          case rel => exact ⟨k + 1, by omega, by go_num, vint (by have := HZ.out; omega), by have := HZ.out; omega⟩
          case measure => simp [intOf]; omega
        · have hfin : Hid (okBytes len = false) := by show okBytes len = false; unfold okBytes; first | exact decide_eq_false (by have := HLE.out; omega) | exact decide_eq_true (by have := HLE.out; omega) | exact decide_eq_false (by omega)
          obtain ⟨z, hz⟩ : ∃ z : Int, z = (len : Int) + 32 * (k : Int) := ⟨_, rfl⟩
          rw [← hz] at hov hle' ⊢
          have hz0 : 0 ≤ z := by omega
          clear hz
          go_wp2_with fail
          go_ret
          exact ⟨by rw [hfin.out]; rfl, hbel⟩
      · have hfin : Hid (okBytes len = true) := by show okBytes len = true; unfold okBytes; first | exact decide_eq_false (by have := HLE.out; omega) | exact decide_eq_true (by have := HLE.out; omega) | exact decide_eq_false (by omega)
        go_wp2_with fail
        go_ret
        exact ⟨by rw [hfin.out]; rfl, hbel⟩

set_option maxHeartbeats 400000 in
theorem bytes18_c (self : List Nat) (ao : Option Addr) (len cap : Nat) (gone : List Nat) (w : World) :
    Calls Try.prog 18 #[.agg (idA self), .slice ao len cap, .agg (idA gone)] w fun e w' => e = .returned (.bool (okBytes len)) ∧ Below w.heap.size w w' := by
  by_cases hbig : (1048576 : Int) < (len : Int)
  · have hfin : Hid (okBytes len = false) := by show okBytes len = false; unfold okBytes; first | exact decide_eq_false (by have := HLE.out; omega) | exact decide_eq_true (by have := HLE.out; omega) | exact decide_eq_false (by omega)
    go_enter Try.func18, Try.ntmps18
    go_wp2_with fail
    go_ret
    exact ⟨by rw [hfin.out]; rfl, ((Below.refl _ _).alloc (Nat.le_refl _) _).alloc (by simp) _⟩
  · have h1 : (len : Int) ≤ 1048576 := by omega
    clear hbig
    go_enter Try.func18, Try.ntmps18
    go_wp2_with fail
    obtain ⟨w1, hw1⟩ : ∃ x, x = (w.alloc (.cells (idA self) 22)).alloc (.cells (idA gone) 22) := ⟨_, rfl⟩
    rw [← hw1]
    have hbel : Below w.heap.size w w1 := by rw [hw1]; exact ((Below.refl _ _).alloc (Nat.le_refl _) _).alloc (by simp) _
    clear hw1
    go_loop [7, 8] (fun z i => ∃ k : Nat, k ≤ len ∧ i = .int .i64 k ∧ z = .int .i64 ((len : Int) + 32 * (k : Int)) ∧ len + 32 * k ≤ 1048576) (fun _ i => len - (intOf i).toNat)
    case atStart => exact ⟨0, by omega, rfl, vint (by omega), by omega⟩
    case round =>
      obtain ⟨k, hk, rfl, rfl, hle⟩ := hrel
      have HLE : Hid (len + 32 * k ≤ 1048576) := hle
      have hle' : (len : Int) + 32 * (k : Int) ≤ 1048576 := by omega
      clear hle
      by_cases hlt : k < len
      · have hkk : (k : Int) < (len : Int) := by omega
        by_cases hov : (len : Int) + 32 * (k : Int) + 32 ≤ 1048576
        · obtain ⟨z, hz⟩ : ∃ z : Int, z = (len : Int) + 32 * (k : Int) := ⟨_, rfl⟩
          rw [← hz] at hov hle' ⊢
          have HZ : Hid (z = (len : Int) + 32 * (k : Int)) := hz
          have hz0 : 0 ≤ z := by omega
          clear hz
          go_wp2_with fail
          go_round
          case rel => exact ⟨k + 1, by omega, by go_num, vint (by have := HZ.out; omega), by have := HZ.out; omega⟩
          case measure => simp [intOf]; omega
        · have hfin : Hid (okBytes len = false) := by show okBytes len = false; unfold okBytes; first | exact decide_eq_false (by have := HLE.out; omega) | exact decide_eq_true (by have := HLE.out; omega) | exact decide_eq_false (by omega)
          obtain ⟨z, hz⟩ : ∃ z : Int, z = (len : Int) + 32 * (k : Int) := ⟨_, rfl⟩
          rw [← hz] at hov hle' ⊢
          have hz0 : 0 ≤ z := by omega
          clear hz
          go_wp2_with fail
          go_ret
          exact ⟨by rw [hfin.out]; rfl, hbel⟩
      · have hfin : Hid (okBytes len = true) := by show okBytes len = true; unfold okBytes; first | exact decide_eq_false (by have := HLE.out; omega) | exact decide_eq_true (by have := HLE.out; omega) | exact decide_eq_false (by omega)
        go_wp2_with fail
        go_ret
        exact ⟨by rw [hfin.out]; rfl, hbel⟩

set_option maxHeartbeats 400000 in
theorem bytes20_c (self : List Nat) (ao : Option Addr) (len cap : Nat) (gone : List Nat) (w : World) :
    Calls Try.prog 20 #[.agg (idA self), .slice ao len cap, .agg (idA gone)] w fun e w' => e = .returned (.bool (okBytes len)) ∧ Below w.heap.size w w' := by
  by_cases hbig : (1048576 : Int) < (len : Int)
  · have hfin : Hid (okBytes len = false) := by show okBytes len = false; unfold okBytes; first | exact decide_eq_false (by have := HLE.out; omega) | exact decide_eq_true (by have := HLE.out; omega) | exact decide_eq_false (by omega)
    go_enter Try.func20, Try.ntmps20
    go_wp2_with fail
    go_ret
    exact ⟨by rw [hfin.out]; rfl, ((Below.refl _ _).alloc (Nat.le_refl _) _).alloc (by simp) _⟩
  · have h1 : (len : Int) ≤ 1048576 := by omega
    clear hbig
    go_enter Try.func20, Try.ntmps20
    go_wp2_with fail
    obtain ⟨w1, hw1⟩ : ∃ x, x = (w.alloc (.cells (idA self) 22)).alloc (.cells (idA gone) 22) := ⟨_, rfl⟩
    rw [← hw1]
    have hbel : Below w.heap.size w w1 := by rw [hw1]; exact ((Below.refl _ _).alloc (Nat.le_refl _) _).alloc (by simp) _
    clear hw1
    go_loop [7, 8] (fun z i => ∃ k : Nat, k ≤ len ∧ i = .int .i64 k ∧ z = .int .i64 ((len : Int) + 32 * (k : Int)) ∧ len + 32 * k ≤ 1048576) (fun _ i => len - (intOf i).toNat)
    case atStart => exact ⟨0, by omega, rfl, vint (by omega), by omega⟩
    case round =>
      obtain ⟨k, hk, rfl, rfl, hle⟩ := hrel
      have HLE : Hid (len + 32 * k ≤ 1048576) := hle
      have hle' : (len : Int) + 32 * (k : Int) ≤ 1048576 := by omega
      clear hle
      by_cases hlt : k < len
      · have hkk : (k : Int) < (len : Int) := by omega
        by_cases hov : (len : Int) + 32 * (k : Int) + 32 ≤ 1048576
        · obtain ⟨z, hz⟩ : ∃ z : Int, z = (len : Int) + 32 * (k : Int) := ⟨_, rfl⟩
          rw [← hz] at hov hle' ⊢
          have HZ : Hid (z = (len : Int) + 32 * (k : Int)) := hz
          have hz0 : 0 ≤ z := by omega
          clear hz
          go_wp2_with fail
          go_round
          case rel => exact ⟨k + 1, by omega, by go_num, vint (by have := HZ.out; omega), by have := HZ.out; omega⟩
          case measure => simp [intOf]; omega
        · have hfin : Hid (okBytes len = false) := by show okBytes len = false; unfold okBytes; first | exact decide_eq_false (by have := HLE.out; omega) | exact decide_eq_true (by have := HLE.out; omega) | exact decide_eq_false (by omega)
          obtain ⟨z, hz⟩ : ∃ z : Int, z = (len : Int) + 32 * (k : Int) := ⟨_, rfl⟩
          rw [← hz] at hov hle' ⊢
          have hz0 : 0 ≤ z := by omega
          clear hz
          go_wp2_with fail
          go_ret
          exact ⟨by rw [hfin.out]; rfl, hbel⟩
      · have hfin : Hid (okBytes len = true) := by show okBytes len = true; unfold okBytes; first | exact decide_eq_false (by have := HLE.out; omega) | exact decide_eq_true (by have := HLE.out; omega) | exact decide_eq_false (by omega)
        go_wp2_with fail
        go_ret
        exact ⟨by rw [hfin.out]; rfl, hbel⟩

set_option maxHeartbeats 400000 in
theorem bytes24_c (self : List Nat) (ao : Option Addr) (len cap : Nat) (w : World) :
    Calls Try.prog 24 #[.agg (idA self), .slice ao len cap] w fun e w' => e = .returned (.bool (okBytes len)) ∧ Below w.heap.size w w' := by
  by_cases hbig : (1048576 : Int) < (len : Int)
  · have hfin : Hid (okBytes len = false) := by show okBytes len = false; unfold okBytes; first | exact decide_eq_false (by have := HLE.out; omega) | exact decide_eq_true (by have := HLE.out; omega) | exact decide_eq_false (by omega)
    go_enter Try.func24, Try.ntmps24
    go_wp2_with fail
    go_ret
    exact ⟨by rw [hfin.out]; rfl, (Below.refl _ _).alloc (Nat.le_refl _) _⟩
  · have h1 : (len : Int) ≤ 1048576 := by omega
    clear hbig
    go_enter Try.func24, Try.ntmps24
    go_wp2_with fail
    obtain ⟨w1, hw1⟩ : ∃ x, x = w.alloc (.cells (idA self) 22) := ⟨_, rfl⟩
    rw [← hw1]
    have hbel : Below w.heap.size w w1 := by rw [hw1]; exact (Below.refl _ _).alloc (Nat.le_refl _) _
    clear hw1
    go_loop [5, 6] (fun z i => ∃ k : Nat, k ≤ len ∧ i = .int .i64 k ∧ z = .int .i64 ((len : Int) + 32 * (k : Int)) ∧ len + 32 * k ≤ 1048576) (fun _ i => len - (intOf i).toNat)
    case atStart => exact ⟨0, by omega, rfl, vint (by omega), by omega⟩
    case round =>
      obtain ⟨k, hk, rfl, rfl, hle⟩ := hrel
      have HLE : Hid (len + 32 * k ≤ 1048576) := hle
      have hle' : (len : Int) + 32 * (k : Int) ≤ 1048576 := by omega
      clear hle
      by_cases hlt : k < len
      · have hkk : (k : Int) < (len : Int) := by omega
        by_cases hov : (len : Int) + 32 * (k : Int) + 32 ≤ 1048576
        · obtain ⟨z, hz⟩ : ∃ z : Int, z = (len : Int) + 32 * (k : Int) := ⟨_, rfl⟩
          rw [← hz] at hov hle' ⊢
          have HZ : Hid (z = (len : Int) + 32 * (k : Int)) := hz
          have hz0 : 0 ≤ z := by omega
          clear hz
          go_wp2_with fail
          go_round
          case rel => exact ⟨k + 1, by omega, by go_num, vint (by have := HZ.out; omega), by have := HZ.out; omega⟩
          case measure => simp [intOf]; omega
        · have hfin : Hid (okBytes len = false) := by show okBytes len = false; unfold okBytes; first | exact decide_eq_false (by have := HLE.out; omega) | exact decide_eq_true (by have := HLE.out; omega) | exact decide_eq_false (by omega)
          obtain ⟨z, hz⟩ : ∃ z : Int, z = (len : Int) + 32 * (k : Int) := ⟨_, rfl⟩
          rw [← hz] at hov hle' ⊢
          have hz0 : 0 ≤ z := by omega
          clear hz
          go_wp2_with fail
          go_ret
          exact ⟨by rw [hfin.out]; rfl, hbel⟩
      · have hfin : Hid (okBytes len = true) := by show okBytes len = true; unfold okBytes; first | exact decide_eq_false (by have := HLE.out; omega) | exact decide_eq_true (by have := HLE.out; omega) | exact decide_eq_false (by omega)
        go_wp2_with fail
        go_ret
        exact ⟨by rw [hfin.out]; rfl, hbel⟩

set_option maxHeartbeats 400000 in
theorem bytes26_c (self : List Nat) (ao : Option Addr) (len cap : Nat) (x : Int) (w : World) :
    Calls Try.prog 26 #[.agg (idA self), .slice ao len cap, .int .i64 x] w fun e w' => e = .returned (.bool (okBytes len)) ∧ Below w.heap.size w w' := by
  by_cases hbig : (1048576 : Int) < (len : Int)
  · have hfin : Hid (okBytes len = false) := by show okBytes len = false; unfold okBytes; first | exact decide_eq_false (by have := HLE.out; omega) | exact decide_eq_true (by have := HLE.out; omega) | exact decide_eq_false (by omega)
    go_enter Try.func26, Try.ntmps26
    go_wp2_with fail
    go_ret
    exact ⟨by rw [hfin.out]; rfl, (Below.refl _ _).alloc (Nat.le_refl _) _⟩
  · have h1 : (len : Int) ≤ 1048576 := by omega
    clear hbig
    go_enter Try.func26, Try.ntmps26
    go_wp2_with fail
    obtain ⟨w1, hw1⟩ : ∃ x, x = w.alloc (.cells (idA self) 22) := ⟨_, rfl⟩
    rw [← hw1]
    have hbel : Below w.heap.size w w1 := by rw [hw1]; exact (Below.refl _ _).alloc (Nat.le_refl _) _
    clear hw1
    go_loop [7, 8] (fun z i => ∃ k : Nat, k ≤ len ∧ i = .int .i64 k ∧ z = .int .i64 ((len : Int) + 32 * (k : Int)) ∧ len + 32 * k ≤ 1048576) (fun _ i => len - (intOf i).toNat)
    case atStart => exact ⟨0, by omega, rfl, vint (by omega), by omega⟩
    case round =>
      obtain ⟨k, hk, rfl, rfl, hle⟩ := hrel
      have HLE : Hid (len + 32 * k ≤ 1048576) := hle
      have hle' : (len : Int) + 32 * (k : Int) ≤ 1048576 := by omega
      clear hle
      by_cases hlt : k < len
      · have hkk : (k : Int) < (len : Int) := by omega
        by_cases hov : (len : Int) + 32 * (k : Int) + 32 ≤ 1048576
        · obtain ⟨z, hz⟩ : ∃ z : Int, z = (len : Int) + 32 * (k : Int) := ⟨_, rfl⟩
          rw [← hz] at hov hle' ⊢
          have HZ : Hid (z = (len : Int) + 32 * (k : Int)) := hz
          have hz0 : 0 ≤ z := by omega
          clear hz
          go_wp2_with fail
          go_round
          case rel => exact ⟨k + 1, by omega, by go_num, vint (by have := HZ.out; omega), by have := HZ.out; omega⟩
          case measure => simp [intOf]; omega
        · have hfin : Hid (okBytes len = false) := by show okBytes len = false; unfold okBytes; first | exact decide_eq_false (by have := HLE.out; omega) | exact decide_eq_true (by have := HLE.out; omega) | exact decide_eq_false (by omega)
          obtain ⟨z, hz⟩ : ∃ z : Int, z = (len : Int) + 32 * (k : Int) := ⟨_, rfl⟩
          rw [← hz] at hov hle' ⊢
          have hz0 : 0 ≤ z := by omega
          clear hz
          go_wp2_with fail
          go_ret
          exact ⟨by rw [hfin.out]; rfl, hbel⟩
      · have hfin : Hid (okBytes len = true) := by show okBytes len = true; unfold okBytes; first | exact decide_eq_false (by have := HLE.out; omega) | exact decide_eq_true (by have := HLE.out; omega) | exact decide_eq_false (by omega)
        go_wp2_with fail
        go_ret
        exact ⟨by rw [hfin.out]; rfl, hbel⟩

set_option maxHeartbeats 400000 in
theorem bytes28_c (self : List Nat) (ao : Option Addr) (len cap : Nat) (w : World) :
    Calls Try.prog 28 #[.agg (idA self), .slice ao len cap] w fun e w' => e = .returned (.bool (okBytes len)) ∧ Below w.heap.size w w' := by
  by_cases hbig : (1048576 : Int) < (len : Int)
  · have hfin : Hid (okBytes len = false) := by show okBytes len = false; unfold okBytes; first | exact decide_eq_false (by have := HLE.out; omega) | exact decide_eq_true (by have := HLE.out; omega) | exact decide_eq_false (by omega)
    go_enter Try.func28, Try.ntmps28
    go_wp2_with fail
    go_ret
    exact ⟨by rw [hfin.out]; rfl, (Below.refl _ _).alloc (Nat.le_refl _) _⟩
  · have h1 : (len : Int) ≤ 1048576 := by omega
    clear hbig
    go_enter Try.func28, Try.ntmps28
    go_wp2_with fail
    obtain ⟨w1, hw1⟩ : ∃ x, x = w.alloc (.cells (idA self) 22) := ⟨_, rfl⟩
    rw [← hw1]
    have hbel : Below w.heap.size w w1 := by rw [hw1]; exact (Below.refl _ _).alloc (Nat.le_refl _) _
    clear hw1
    go_loop [5, 6] (fun z i => ∃ k : Nat, k ≤ len ∧ i = .int .i64 k ∧ z = .int .i64 ((len : Int) + 32 * (k : Int)) ∧ len + 32 * k ≤ 1048576) (fun _ i => len - (intOf i).toNat)
    case atStart => exact ⟨0, by omega, rfl, vint (by omega), by omega⟩
    case round =>
      obtain ⟨k, hk, rfl, rfl, hle⟩ := hrel
      have HLE : Hid (len + 32 * k ≤ 1048576) := hle
      have hle' : (len : Int) + 32 * (k : Int) ≤ 1048576 := by omega
      clear hle
      by_cases hlt : k < len
      · have hkk : (k : Int) < (len : Int) := by omega
        by_cases hov : (len : Int) + 32 * (k : Int) + 32 ≤ 1048576
        · obtain ⟨z, hz⟩ : ∃ z : Int, z = (len : Int) + 32 * (k : Int) := ⟨_, rfl⟩
          rw [← hz] at hov hle' ⊢
          have HZ : Hid (z = (len : Int) + 32 * (k : Int)) := hz
          have hz0 : 0 ≤ z := by omega
          clear hz
          go_wp2_with fail
          go_round
          case rel => exact ⟨k + 1, by omega, by go_num, vint (by have := HZ.out; omega), by have := HZ.out; omega⟩
          case measure => simp [intOf]; omega
        · have hfin : Hid (okBytes len = false) := by show okBytes len = false; unfold okBytes; first | exact decide_eq_false (by have := HLE.out; omega) | exact decide_eq_true (by have := HLE.out; omega) | exact decide_eq_false (by omega)
          obtain ⟨z, hz⟩ : ∃ z : Int, z = (len : Int) + 32 * (k : Int) := ⟨_, rfl⟩
          rw [← hz] at hov hle' ⊢
          have hz0 : 0 ≤ z := by omega
          clear hz
          go_wp2_with fail
          go_ret
          exact ⟨by rw [hfin.out]; rfl, hbel⟩
      · have hfin : Hid (okBytes len = true) := by show okBytes len = true; unfold okBytes; first | exact decide_eq_false (by have := HLE.out; omega) | exact decide_eq_true (by have := HLE.out; omega) | exact decide_eq_false (by omega)
        go_wp2_with fail
        go_ret
        exact ⟨by rw [hfin.out]; rfl, hbel⟩

end Go.Proofs.Qxb6612853a
