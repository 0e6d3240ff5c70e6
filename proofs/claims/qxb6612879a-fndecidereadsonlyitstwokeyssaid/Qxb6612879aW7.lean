/-
  lastAt.
-/
import Derived.Test.Qxb6612879aW6
namespace Go.Proofs.Qxb6612879a
open Go.RowKit

/-- What lastAt answers. -/
def LastIs (T : List Row) (k : List Int) (a : Int) : Prop := (∃ q : Nat, q < T.length ∧ a = (q : Int) ∧ (T.getD q row0).1 = k ∧ lastRow T k = some (T.getD q row0).2) ∨ (a = -1 ∧ lastRow T k = none)

set_option maxHeartbeats 1000000 in
theorem lastAt_c (T : List Row) (h8 : T8 T) (k : List Int) (hk : k.length = 8) (ao : Option Addr) (cap : Nat) (w : World) (hat : RowsAt w ao T) (hle : T.length ≤ 4096) :
    Calls Try.prog 9 #[.slice ao T.length cap, .agg (keyA k)] w fun e w' => (∃ a : Int, e = .returned (.int .i64 a) ∧ LastIs T k a) ∧ Below w.heap.size w w' := by
  obtain ⟨len, hlen⟩ : ∃ n, n = T.length := ⟨_, rfl⟩
  rw [← hlen] at hle ⊢
  have HL : Hid (len = T.length) := hlen
  clear hlen
  go_enter Try.func9, Try.ntmps9
  go_wp2_with fail
  obtain ⟨w1, hw1⟩ : ∃ x, x = w.alloc (.cells (keyA k) 30) := ⟨_, rfl⟩
  rw [← hw1]
  have hbel : Below w.heap.size w w1 := by rw [hw1]; exact (Below.refl _ _).alloc (Nat.le_refl _) _
  have hkey : HasA w1 w.heap.size 0 (keyA k) := by rw [hw1]; exact HasA.of_block (heap_alloc_new w _)
  have hz1 : w1.heap.size = w.heap.size + 1 := by rw [hw1]; simp
  have hat1 : RowsAt w1 ao T := hat.below hbel (Nat.le_refl _)
  have HZ : Hid (w1.heap.size = w.heap.size + 1) := hz1
  clear hw1 hat hz1
  go_loopw [5] (fun v wx => ∃ n : Nat, n ≤ len ∧ v = .int .i64 ((n : Int) - 1) ∧ (∀ j, n ≤ j → j < len → (T.getD j row0).1 ≠ k) ∧ Hid (Below w1.heap.size w1 wx)) (fun v _ => (intOf v + 1).toNat)
  case atStart => exact ⟨len, Nat.le_refl _, rfl, fun j h1 h2 => absurd h2 (by omega), Below.refl _ _⟩
  case round =>
    obtain ⟨n, hn, rfl, hno, HW⟩ := hrel
    have HNO : Hid (∀ j, n ≤ j → j < len → (T.getD j row0).1 ≠ k) := hno
    clear hno
    cases n with
    | zero =>
      have e0 : ((0 : Nat) : Int) - 1 = -1 := by omega
      rw [e0]
      clear e0
      go_wp2_with fail
      go_ret
      exact ⟨⟨-1, rfl, .inr ⟨rfl, lastRow_miss k T fun j hj => HNO.out j (Nat.zero_le _) (by rw [HL.out]; exact hj)⟩⟩, hbel.trans (HW.out.mono (by rw [HZ.out]; omega))⟩
    | succ n =>
      have e0 : ((n + 1 : Nat) : Int) - 1 = (n : Int) := by omega
      rw [e0]
      clear e0
      have hlt : n < len := by omega
      obtain ⟨b, off, rfl, hblt, hcell⟩ := hat1 (by rw [← HL.out]; omega)
      obtain ⟨kk, hkk⟩ : ∃ x, x = (T.getD n row0).1 := ⟨_, rfl⟩
      have hk8 : kk.length = 8 := by rw [hkk]; exact h8 n (by rw [← HL.out]; exact hlt)
      have gk : HasA w1 b (off + n * 19) (keyA kk) := by rw [hkk]; exact rowA_key (hcell n (by rw [← HL.out]; exact hlt))
      have hwl : w.heap.size < w1.heap.size := by rw [HZ.out]; omega
      have HKK : Hid (kk = (T.getD n row0).1) := hkk
      clear hkk hcell
      go_wp2_with fail
      refine wp_region_ord (fun w' => Below w1.heap.size w1 w') [(0, false), (1, false), (2, false), (3, false), (4, false), (5, false), (6, false)] (by kernel_rfl) (by kernel_rfl)
        (fun _ _ _ d _ h => by cases d <;> exact h) (by kernel_rfl) rfl ?_
      have hB : Below w1.heap.size w1 wr.drew := HW.out.drew
      refine ord_val 13 rfl rfl rfl hB (.slice (some ⟨b, off, none⟩) len cap) (fun _ _ => rfl) ?_
      simp only [List.set_cons_succ, List.set_cons_zero]
      refine ord_val 14 rfl rfl rfl hB (.int .i64 (n : Int)) (fun _ _ => rfl) ?_
      simp only [List.set_cons_succ, List.set_cons_zero]
      refine ord_val 15 rfl rfl rfl hB (.pointer (some ⟨b, off + n * 19, none⟩)) (fun wx _ => exec_idx wx 24 48 19 _ _ rfl b off len cap n Try.underlying24 (Try.sizeOf48 wx) rfl rfl hlt) ?_
      simp only [List.set_cons_succ, List.set_cons_zero]
      refine ord_val 16 rfl rfl rfl hB (.pointer (some ⟨b, off + n * 19, none⟩)) (fun wx _ => exec_field wx 48 _ 0 rfl ⟨b, off + n * 19, none⟩ rfl _ (by simp [go_sem])) ?_
      simp only [List.set_cons_succ, List.set_cons_zero]
      refine ord_val 17 rfl rfl rfl hB (.agg (keyA kk)) (fun wx hw => exec_load_at wx 30 _ rfl b _ rfl _ (Try.isAgg30 wx) (by rw [keyA_size, hk8]; exact Try.sizeOf30 wx) (gk.below hw hblt)) ?_
      simp only [List.set_cons_succ, List.set_cons_zero]
      refine ord_val 18 rfl rfl rfl hB (.agg (keyA k)) (fun wx hw => exec_load_at wx 30 _ rfl w.heap.size 0 rfl _ (Try.isAgg30 wx) (by rw [keyA_size, hk]; exact Try.sizeOf30 wx) (hkey.below hw hwl)) ?_
      simp only [List.set_cons_succ, List.set_cons_zero]
      refine ord_val 19 rfl rfl rfl hB (.bool (kk == k)) (fun wx _ => exec_eqkey wx 30 30 (.tmp 17) (.tmp 18) rfl kk k hk8 hk Try.underlying30 Try.eqGuardType30 rfl rfl) ?_
      simp only [List.set_cons_succ, List.set_cons_zero]
      refine ord_done ?_
      have HBz : Hid (Below w1.heap.size w1 wr.drew) := hB
      clear hB gk
      by_cases hek : kk = k
      · have hev : (kk == k) = true := by rw [beq_iff_eq]; exact hek
        rw [hev]
        have HF : Hid (LastIs T k (n : Int)) := by
          have e1 : (T.getD n row0).1 = k := by rw [← HKK.out]; exact hek
          exact .inl ⟨n, by rw [← HL.out]; exact hlt, rfl, e1, lastRow_hit k T n (by rw [← HL.out]; exact hlt) e1 fun j h1 h2 => HNO.out j h1 (by rw [HL.out]; exact h2)⟩
        clear hev hek
        go_wp2_with fail
        go_ret
        exact ⟨⟨n, rfl, HF.out⟩, hbel.trans (HBz.out.mono (by rw [HZ.out]; omega))⟩
      · have hev : (kk == k) = false := by rw [beq_eq_false_iff_ne]; exact hek
        rw [hev]
        have HN : Hid (∀ j, n ≤ j → j < len → (T.getD j row0).1 ≠ k) := fun j h1 h2 => by
          by_cases e : j = n
          · subst e; rw [← HKK.out]; exact hek
          · exact HNO.out j (by omega) h2
        clear hev hek
        go_wp2_with fail
        refine ⟨⟨n, by omega, rfl, HN.out, HBz.out⟩, ?_⟩
        simp [intOf]
end Go.Proofs.Qxb6612879a
