/-
  The walk of zzSortedAway.
-/
import Derived.Test.Qxb6612853aW1
namespace Go.Proofs.Qxb6612853a
open Go.RowKit

/-- One element of zzSortedAway's round. -/
def okAt (self : List Nat) (ids : List (List Nat)) (i : Nat) : Bool :=
  !(ids.getD i [] == self) && (decide (i = 0) || nearer self (ids.getD (i - 1) []) (ids.getD i []))
/-- What zzSortedAway answers. -/
def sortedB (self : List Nat) (ids : List (List Nat)) : Bool := (List.range ids.length).all (okAt self ids)

theorem okAt_zero {self : List Nat} {ids : List (List Nat)} {k : Nat} (hk : k = 0) (h : (ids.getD k [] == self) = false) : okAt self ids k = true := by
  unfold okAt; rw [h]; simp [hk]
theorem okAt_pos {self : List Nat} {ids : List (List Nat)} {k : Nat} (hk : ¬ k = 0) (h : (ids.getD k [] == self) = false) : okAt self ids k = nearer self (ids.getD (k - 1) []) (ids.getD k []) := by
  unfold okAt; rw [h]; simp [hk]
theorem sortedB_true {self : List Nat} {ids : List (List Nat)} (h : ∀ i, i < ids.length → okAt self ids i = true) : sortedB self ids = true := by
  simp only [sortedB, List.all_eq_true, List.mem_range]
  exact h
theorem sortedB_false {self : List Nat} {ids : List (List Nat)} (i : Nat) (hi : i < ids.length) (h : okAt self ids i = false) : sortedB self ids = false := by
  cases hb : sortedB self ids with
  | false => rfl
  | true =>
    simp only [sortedB, List.all_eq_true, List.mem_range] at hb
    rw [hb i hi] at h
    cases h
theorem sortedB_spec {self : List Nat} {ids : List (List Nat)} (h : sortedB self ids = true) : SortedAway self ids := by
  simp only [sortedB, List.all_eq_true, List.mem_range] at h
  refine ⟨fun i hi e => ?_, fun i hi => ?_⟩
  · have := h i hi
    simp [okAt] at this
    exact this.1 e
  · have := h (i + 1) hi
    simp [okAt] at this
    simpa using this.2

set_option maxHeartbeats 800000 in
theorem sorted_c (self : List Nat) (ids : List (List Nat)) (hs : IsID self) (hids : AllID ids) (ao : Option Addr) (cap : Nat) (w : World) (hat : IdsAt w ao ids) (hlen : ids.length ≤ 32768) :
    Calls Try.prog 21 #[.agg (idA self), .slice ao ids.length cap] w fun e w' => e = .returned (.bool (sortedB self ids)) ∧ Below w.heap.size w w' := by
  obtain ⟨len, hlen'⟩ : ∃ n, n = ids.length := ⟨_, rfl⟩
  rw [← hlen'] at hlen ⊢
  have HL : Hid (len = ids.length) := hlen'
  clear hlen'
  go_enter Try.func21, Try.ntmps21
  go_wp2_with fail
  obtain ⟨w1, hw1⟩ : ∃ x, x = w.alloc (.cells (idA self) 22) := ⟨_, rfl⟩
  rw [← hw1]
  have hz1 : w1.heap.size = w.heap.size + 1 := by rw [hw1]; simp
  have hself : HasA w1 w.heap.size 0 (idA self) := by rw [hw1]; exact HasA.of_block (heap_alloc_new w _)
  have hbel : Below w.heap.size w w1 := by rw [hw1]; exact (Below.refl _ _).alloc (Nat.le_refl _) _
  have hat1 : IdsAt w1 ao ids := hat.below hbel (Nat.le_refl _)
  clear hw1 hat
  have HZ : Hid (w1.heap.size = w.heap.size + 1) := hz1
  clear hz1
  go_loopw [5] (fun i wr => ∃ k : Nat, k ≤ len ∧ i = .int .i64 k ∧ (∀ j, j < k → okAt self ids j = true) ∧ Below w1.heap.size w1 wr) (fun i _ => len - (intOf i).toNat)
  case atStart => exact ⟨0, by omega, rfl, fun j hj => absurd hj (Nat.not_lt_zero _), Below.refl _ _⟩
  case round =>
    obtain ⟨k, hk, rfl, hz, hbr⟩ := hrel
    have HK : Hid (∀ j, j < k → okAt self ids j = true) := hz
    have HB : Hid (Below w1.heap.size w1 wr) := hbr
    clear hz hbr
    by_cases hlt : k < len
    · obtain ⟨b, off, rfl, hblt, hcell⟩ := hat1 (by rw [← HL.out]; omega)
      have hlt' : (k : Int) < (len : Int) := by omega
      have gk : HasA wr b (off + k * 32) (idA (ids.getD k [])) := (hcell k (by rw [← HL.out]; exact hlt)).below HB.out hblt
      have gs : HasA wr w.heap.size 0 (idA self) := hself.below HB.out (by rw [HZ.out]; omega)
      have iik : IsID (ids.getD k []) := hids k (by rw [← HL.out]; exact hlt)
      go_wp2_with fail
      refine wp_region_ord (fun w' => HasA w' w.heap.size 0 (idA self) ∧ HasA w' b (off + k * 32) (idA (ids.getD k []))) [(0, false), (1, false), (2, false), (3, false), (4, false), (5, false)] (by kernel_rfl) (by kernel_rfl)
        (fun _ _ _ d _ h => by cases d <;> exact h) (by kernel_rfl) rfl ?_
      refine ord_val 12 rfl rfl rfl ⟨gs, gk⟩ (.slice (some ⟨b, off, none⟩) len cap) (fun _ _ => rfl) ?_
      simp only [List.set_cons_succ, List.set_cons_zero]
      refine ord_val 13 rfl rfl rfl ⟨gs, gk⟩ (.int .i64 k) (fun _ _ => rfl) ?_
      simp only [List.set_cons_succ, List.set_cons_zero]
      refine ord_val 14 rfl rfl rfl ⟨gs, gk⟩ (.pointer (some ⟨b, off + k * 32, none⟩)) (fun w _ => exec_idx w 23 22 32 _ _ rfl b off len cap k Try.underlying23 (Try.sizeOf22 w) rfl rfl hlt) ?_
      simp only [List.set_cons_succ, List.set_cons_zero]
      refine ord_val 15 rfl rfl rfl ⟨gs, gk⟩ (.agg (idA (ids.getD k []))) (fun w hw => exec_load_at w 22 _ rfl b _ rfl _ (Try.isAgg22 w) (by rw [idA_size, iik.1]; exact Try.sizeOf22 w) hw.2) ?_
      simp only [List.set_cons_succ, List.set_cons_zero]
      refine ord_val 16 rfl rfl rfl ⟨gs, gk⟩ (.agg (idA self)) (fun wx hw => exec_load_at wx 22 _ rfl w.heap.size 0 rfl _ (Try.isAgg22 wx) (by rw [idA_size, hs.1]; exact Try.sizeOf22 wx) hw.1) ?_
      simp only [List.set_cons_succ, List.set_cons_zero]
      refine ord_val 17 rfl rfl rfl ⟨gs, gk⟩ (.bool (ids.getD k [] == self)) (fun wx _ => exec_eqid wx 22 22 _ _ rfl _ _ iik hs Try.underlying22 (by kernel_rfl) rfl rfl) ?_
      simp only [List.set_cons_succ, List.set_cons_zero]
      refine ord_done ?_
      by_cases heq : (ids.getD k [] == self) = true
      · have hfin : sortedB self ids = false := sortedB_false k (by rw [← HL.out]; exact hlt) (by simp only [okAt, heq]; rfl)
        rw [heq]
        go_wp2_with fail
        go_ret
        exact ⟨by rw [hfin]; rfl, hbel.trans (HB.out.mono (by rw [HZ.out]; omega)).drew⟩
      · have heq' : (ids.getD k [] == self) = false := by simpa using heq
        rw [heq']
        go_wp2_with fail
        by_cases hk0 : k = 0
        · have hok : okAt self ids k = true := okAt_zero hk0 heq'
          have HOK : Hid (okAt self ids k = true) := hok
          clear hok
          refine wp_region_ord (fun w' => Below w1.heap.size w1 w') [(0, false), (1, false), (2, false), (3, false), (4, false), (5, false), (6, false), (7, false), (8, false), (9, false), (10, false), (11, false), (12, false), (13, true), (14, false), (15, false)] (by kernel_rfl) (by kernel_rfl)
            (fun _ _ _ d _ h => by cases d <;> exact h) (by kernel_rfl) rfl ?_
          have hB : Below w1.heap.size w1 wr.drew.drew := HB.out.drew.drew
          refine ord_val 18 rfl rfl rfl hB (.int .i64 k) (fun _ _ => rfl) ?_
          simp only [List.set_cons_succ, List.set_cons_zero]
          refine ord_val 19 rfl rfl rfl hB (.bool false) (fun wx _ => exec_bin wx .gtr 3 3 _ _ rfl .i64 k (.int .i64 0) _ rfl rfl (by rw [run_gtr, decide_eq_false (by omega)])) ?_
          simp only [List.set_cons_succ, List.set_cons_zero]
          refine ord_val 20 rfl rfl rfl hB (.bool false) (fun _ _ => rfl) ?_
          simp only [List.set_cons_succ, List.set_cons_zero]
          refine ord_skip 21 rfl rfl rfl hB ?_
          simp only [List.set_cons_succ, List.set_cons_zero]
          refine ord_skip 22 rfl rfl rfl hB ?_
          simp only [List.set_cons_succ, List.set_cons_zero]
          refine ord_skip 23 rfl rfl rfl hB ?_
          simp only [List.set_cons_succ, List.set_cons_zero]
          refine ord_skip 24 rfl rfl rfl hB ?_
          simp only [List.set_cons_succ, List.set_cons_zero]
          refine ord_skip 25 rfl rfl rfl hB ?_
          simp only [List.set_cons_succ, List.set_cons_zero]
          refine ord_skip 26 rfl rfl rfl hB ?_
          simp only [List.set_cons_succ, List.set_cons_zero]
          refine ord_skip 27 rfl rfl rfl hB ?_
          simp only [List.set_cons_succ, List.set_cons_zero]
          refine ord_skip 28 rfl rfl rfl hB ?_
          simp only [List.set_cons_succ, List.set_cons_zero]
          refine ord_skip 29 rfl rfl rfl hB ?_
          simp only [List.set_cons_succ, List.set_cons_zero]
          refine ord_skip 30 rfl rfl rfl hB ?_
          simp only [List.set_cons_succ, List.set_cons_zero]
          refine ord_eff_skip 31 rfl rfl rfl hB ?_
          simp only [List.set_cons_succ, List.set_cons_zero]
          refine ord_skip 32 rfl rfl rfl hB ?_
          simp only [List.set_cons_succ, List.set_cons_zero]
          refine ord_val 33 rfl rfl rfl hB (.bool false) (fun wx _ => exec_pick wx _ _ _ rfl false rfl _ rfl) ?_
          simp only [List.set_cons_succ, List.set_cons_zero]
          refine ord_done ?_
          have HB2 : Hid (Below w1.heap.size w1 wr.drew.drew) := hB
          clear hB
          go_wp2_with fail
          go_roundw
          case rel => exact ⟨k + 1, by omega, by go_num, fun j hj => by
                        by_cases e : j = k
                        · subst e; exact HOK.out
                        · exact HK.out j (by omega), HB2.out⟩
          case measure => simp [intOf]; omega
        · have gj : HasA wr b (off + (k - 1) * 32) (idA (ids.getD (k - 1) [])) := (hcell (k - 1) (by rw [← HL.out]; omega)).below HB.out hblt
          have iij : IsID (ids.getD (k - 1) []) := hids (k - 1) (by rw [← HL.out]; omega)
          refine wp_region_ord (fun w' => Below w1.heap.size w1 w') [(0, false), (1, false), (2, false), (3, false), (4, false), (5, false), (6, false), (7, false), (8, false), (9, false), (10, false), (11, false), (12, false), (13, true), (14, false), (15, false)] (by kernel_rfl) (by kernel_rfl)
            (fun _ _ _ d _ h => by cases d <;> exact h) (by kernel_rfl) rfl ?_
          have hB : Below w1.heap.size w1 wr.drew.drew := HB.out.drew.drew
          refine ord_val 18 rfl rfl rfl hB (.int .i64 k) (fun _ _ => rfl) ?_
          simp only [List.set_cons_succ, List.set_cons_zero]
          refine ord_val 19 rfl rfl rfl hB (.bool true) (fun wx _ => exec_bin wx .gtr 3 3 _ _ rfl .i64 k (.int .i64 0) _ rfl rfl (by rw [run_gtr, decide_eq_true (by omega)])) ?_
          simp only [List.set_cons_succ, List.set_cons_zero]
          refine ord_val 20 rfl rfl rfl hB (.bool true) (fun _ _ => rfl) ?_
          simp only [List.set_cons_succ, List.set_cons_zero]
          refine ord_val 21 rfl rfl rfl hB (.agg (idA self)) (fun wx hw => exec_load_at wx 22 _ rfl w.heap.size 0 rfl _ (Try.isAgg22 wx) (by rw [idA_size, hs.1]; exact Try.sizeOf22 wx) (hself.below hw (by rw [HZ.out]; omega))) ?_
          simp only [List.set_cons_succ, List.set_cons_zero]
          refine ord_val 22 rfl rfl rfl hB (.slice (some ⟨b, off, none⟩) len cap) (fun _ _ => rfl) ?_
          simp only [List.set_cons_succ, List.set_cons_zero]
          refine ord_val 23 rfl rfl rfl hB (.int .i64 k) (fun _ _ => rfl) ?_
          simp only [List.set_cons_succ, List.set_cons_zero]
          refine ord_val 24 rfl rfl rfl hB (.int .i64 ((k - 1 : Nat) : Int)) (fun wx _ => exec_bin wx .sub 3 3 _ _ rfl .i64 k (.int .i64 1) _ rfl rfl (by rw [run_subi _ _ _ _ (by omega) (by omega)]; congr 2; omega)) ?_
          simp only [List.set_cons_succ, List.set_cons_zero]
          refine ord_val 25 rfl rfl rfl hB (.pointer (some ⟨b, off + (k - 1) * 32, none⟩)) (fun wx _ => exec_idx wx 23 22 32 _ _ rfl b off len cap (k - 1) Try.underlying23 (Try.sizeOf22 wx) rfl rfl (by omega)) ?_
          simp only [List.set_cons_succ, List.set_cons_zero]
          refine ord_val 26 rfl rfl rfl hB (.agg (idA (ids.getD (k - 1) []))) (fun wx hw => exec_load_at wx 22 _ rfl b _ rfl _ (Try.isAgg22 wx) (by rw [idA_size, iij.1]; exact Try.sizeOf22 wx) ((hcell (k - 1) (by rw [← HL.out]; omega)).below hw hblt)) ?_
          simp only [List.set_cons_succ, List.set_cons_zero]
          refine ord_val 27 rfl rfl rfl hB (.slice (some ⟨b, off, none⟩) len cap) (fun _ _ => rfl) ?_
          simp only [List.set_cons_succ, List.set_cons_zero]
          refine ord_val 28 rfl rfl rfl hB (.int .i64 k) (fun _ _ => rfl) ?_
          simp only [List.set_cons_succ, List.set_cons_zero]
          refine ord_val 29 rfl rfl rfl hB (.pointer (some ⟨b, off + k * 32, none⟩)) (fun wx _ => exec_idx wx 23 22 32 _ _ rfl b off len cap k Try.underlying23 (Try.sizeOf22 wx) rfl rfl hlt) ?_
          simp only [List.set_cons_succ, List.set_cons_zero]
          refine ord_val 30 rfl rfl rfl hB (.agg (idA (ids.getD k []))) (fun wx hw => exec_load_at wx 22 _ rfl b _ rfl _ (Try.isAgg22 wx) (by rw [idA_size, iik.1]; exact Try.sizeOf22 wx) ((hcell k (by rw [← HL.out]; omega)).below hw hblt)) ?_
          simp only [List.set_cons_succ, List.set_cons_zero]
          refine ord_call 31 rfl rfl rfl 38 #[.agg (idA self), .agg (idA (ids.getD (k - 1) [])), .agg (idA (ids.getD k []))] (exec_call _ 38 _ _ rfl rfl _ rfl Try.call38) (nearer_c self _ _ hs iij iik _) ?_
          rintro e w2 ⟨rfl, hb2⟩
          have hB2 : Below w1.heap.size w1 w2 := hB.trans (hb2.mono hB.size)
          refine ⟨_, rfl, hB2, ?_⟩
          simp only [List.set_cons_succ, List.set_cons_zero]
          generalize hnr : nearer self (ids.getD (k - 1) []) (ids.getD k []) = nr
          refine ord_val 32 rfl rfl rfl hB2 (.bool (!nr)) (fun wx _ => exec_not wx 4 _ rfl nr rfl) ?_
          simp only [List.set_cons_succ, List.set_cons_zero]
          refine ord_val 33 rfl rfl rfl hB2 (.bool (!nr)) (fun wx _ => exec_pick wx _ _ _ rfl true rfl _ rfl) ?_
          simp only [List.set_cons_succ, List.set_cons_zero]
          refine ord_done ?_
          have HB2 : Hid (Below w1.heap.size w1 w2) := hB2
          clear hB hB2 hb2
          cases nr
          · have hfin : sortedB self ids = false := sortedB_false k (by rw [← HL.out]; exact hlt) (by rw [okAt_pos hk0 heq']; exact hnr)
            clear hnr
            go_wp2_with fail
            go_ret
            exact ⟨by rw [hfin]; rfl, hbel.trans (HB2.out.mono (by rw [HZ.out]; omega))⟩
          · have HOK : Hid (okAt self ids k = true) := by show okAt self ids k = true; rw [okAt_pos hk0 heq']; exact hnr
            clear hnr
            go_wp2_with fail
            go_roundw
            case rel => exact ⟨k + 1, by omega, by go_num, fun j hj => by
                          by_cases e : j = k
                          · subst e; exact HOK.out
                          · exact HK.out j (by omega), HB2.out⟩
            case measure => simp [intOf]; omega
    · have hfin : sortedB self ids = true := sortedB_true fun i hi => HK.out i (by rw [← HL.out] at hi; omega)
      have HF : Hid (sortedB self ids = true) := hfin
      clear hfin
      go_wp2_with fail
      go_ret
      exact ⟨by rw [HF.out]; rfl, hbel.trans (HB.out.mono (by rw [HZ.out]; omega))⟩

end Go.Proofs.Qxb6612853a
