/-
  The walks of the two zzBytes..: 'the lengths add up to at most 1<<20'.
-/
import Derived.Test.Qxb6612879aPlain
namespace Go.Proofs.Qxb6612879a
open Go.RowKit

/-- What zzBytes.. answers. -/
def okBytes (len : Nat) : Bool := decide (9 * len ≤ 1048576)

set_option maxHeartbeats 400000 in
theorem bytes5_c (e d i p q : Int) (ao : Option Addr) (len cap : Nat) (w : World) :
    Calls Try.prog 5 #[.int .u16 e, .int .u8 d, .int .u32 i, .int .u8 p, .int .u16 q, .slice ao len cap] w fun e w' => e = .returned (.bool (okBytes len)) ∧ Below w.heap.size w w' := by
  by_cases hbig : (1048576 : Int) < (len : Int)
  · have hfin : Hid (okBytes len = false) := by show okBytes len = false; unfold okBytes; first | exact decide_eq_false (by have := HLE.out; omega) | exact decide_eq_true (by have := HLE.out; omega) | exact decide_eq_false (by omega)
    go_enter Try.func5, Try.ntmps5
    go_wp2_with fail
    go_ret
    exact ⟨by rw [hfin.out]; rfl, Below.refl _ _⟩
  · have h1 : (len : Int) ≤ 1048576 := by omega
    clear hbig
    go_enter Try.func5, Try.ntmps5
    go_wp2_with fail
    go_loop [13, 14] (fun z i => ∃ k : Nat, k ≤ len ∧ i = .int .i64 k ∧ z = .int .i64 ((len : Int) + 8 * (k : Int)) ∧ len + 8 * k ≤ 1048576) (fun _ i => len - (intOf i).toNat)
    case atStart => exact ⟨0, by omega, rfl, vint (by omega), by omega⟩
    case round =>
      obtain ⟨k, hk, rfl, rfl, hle⟩ := hrel
      have HLE : Hid (len + 8 * k ≤ 1048576) := hle
      have hle' : (len : Int) + 8 * (k : Int) ≤ 1048576 := by omega
      clear hle
      by_cases hlt : k < len
      · have hkk : (k : Int) < (len : Int) := by omega
        by_cases hov : (len : Int) + 8 * (k : Int) + 8 ≤ 1048576
        · obtain ⟨z, hz⟩ : ∃ z : Int, z = (len : Int) + 8 * (k : Int) := ⟨_, rfl⟩
          rw [← hz] at hov hle' ⊢
          have HZ : Hid (z = (len : Int) + 8 * (k : Int)) := hz
          have hz0 : 0 ≤ z := by omega
          clear hz
          go_wp2_with fail
          go_round
          case rel => exact ⟨k + 1, by omega, by go_num, vint (by have := HZ.out; omega), by have := HZ.out; omega⟩
          case measure => simp [intOf]; omega
        · have hfin : Hid (okBytes len = false) := by show okBytes len = false; unfold okBytes; first | exact decide_eq_false (by have := HLE.out; omega) | exact decide_eq_true (by have := HLE.out; omega) | exact decide_eq_false (by omega)
          obtain ⟨z, hz⟩ : ∃ z : Int, z = (len : Int) + 8 * (k : Int) := ⟨_, rfl⟩
          rw [← hz] at hov hle' ⊢
          have hz0 : 0 ≤ z := by omega
          clear hz
          go_wp2_with fail
          go_ret
          exact ⟨by rw [hfin.out]; rfl, Below.refl _ _⟩
      · have hfin : Hid (okBytes len = true) := by show okBytes len = true; unfold okBytes; first | exact decide_eq_false (by have := HLE.out; omega) | exact decide_eq_true (by have := HLE.out; omega) | exact decide_eq_false (by omega)
        go_wp2_with fail
        go_ret
        exact ⟨by rw [hfin.out]; rfl, Below.refl _ _⟩

set_option maxHeartbeats 400000 in
theorem bytes11_c (e o d i p q : Int) (ao : Option Addr) (len cap : Nat) (w : World) :
    Calls Try.prog 11 #[.int .u16 e, .int .u16 o, .int .u8 d, .int .u32 i, .int .u8 p, .int .u16 q, .slice ao len cap] w fun e w' => e = .returned (.bool (okBytes len)) ∧ Below w.heap.size w w' := by
  by_cases hbig : (1048576 : Int) < (len : Int)
  · have hfin : Hid (okBytes len = false) := by show okBytes len = false; unfold okBytes; first | exact decide_eq_false (by have := HLE.out; omega) | exact decide_eq_true (by have := HLE.out; omega) | exact decide_eq_false (by omega)
    go_enter Try.func11, Try.ntmps11
    go_wp2_with fail
    go_ret
    exact ⟨by rw [hfin.out]; rfl, Below.refl _ _⟩
  · have h1 : (len : Int) ≤ 1048576 := by omega
    clear hbig
    go_enter Try.func11, Try.ntmps11
    go_wp2_with fail
    go_loop [15, 16] (fun z i => ∃ k : Nat, k ≤ len ∧ i = .int .i64 k ∧ z = .int .i64 ((len : Int) + 8 * (k : Int)) ∧ len + 8 * k ≤ 1048576) (fun _ i => len - (intOf i).toNat)
    case atStart => exact ⟨0, by omega, rfl, vint (by omega), by omega⟩
    case round =>
      obtain ⟨k, hk, rfl, rfl, hle⟩ := hrel
      have HLE : Hid (len + 8 * k ≤ 1048576) := hle
      have hle' : (len : Int) + 8 * (k : Int) ≤ 1048576 := by omega
      clear hle
      by_cases hlt : k < len
      · have hkk : (k : Int) < (len : Int) := by omega
        by_cases hov : (len : Int) + 8 * (k : Int) + 8 ≤ 1048576
        · obtain ⟨z, hz⟩ : ∃ z : Int, z = (len : Int) + 8 * (k : Int) := ⟨_, rfl⟩
          rw [← hz] at hov hle' ⊢
          have HZ : Hid (z = (len : Int) + 8 * (k : Int)) := hz
          have hz0 : 0 ≤ z := by omega
          clear hz
          go_wp2_with fail
          go_round
          case rel => exact ⟨k + 1, by omega, by go_num, vint (by have := HZ.out; omega), by have := HZ.out; omega⟩
          case measure => simp [intOf]; omega
        · have hfin : Hid (okBytes len = false) := by show okBytes len = false; unfold okBytes; first | exact decide_eq_false (by have := HLE.out; omega) | exact decide_eq_true (by have := HLE.out; omega) | exact decide_eq_false (by omega)
          obtain ⟨z, hz⟩ : ∃ z : Int, z = (len : Int) + 8 * (k : Int) := ⟨_, rfl⟩
          rw [← hz] at hov hle' ⊢
          have hz0 : 0 ≤ z := by omega
          clear hz
          go_wp2_with fail
          go_ret
          exact ⟨by rw [hfin.out]; rfl, Below.refl _ _⟩
      · have hfin : Hid (okBytes len = true) := by show okBytes len = true; unfold okBytes; first | exact decide_eq_false (by have := HLE.out; omega) | exact decide_eq_true (by have := HLE.out; omega) | exact decide_eq_false (by omega)
        go_wp2_with fail
        go_ret
        exact ⟨by rw [hfin.out]; rfl, Below.refl _ _⟩

end Go.Proofs.Qxb6612879a
