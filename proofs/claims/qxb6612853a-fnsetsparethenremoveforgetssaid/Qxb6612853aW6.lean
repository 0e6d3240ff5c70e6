/-
  zzBuild.
-/
import Derived.Test.Qxb6612853aW5
namespace Go.Proofs.Qxb6612853a
open Go.RowKit

/-- The entries' cells of a table whose entries are ids. -/
def entCells (self : List Nat) (ids : List (List Nat)) : List Value := ids.flatMap fun l => (entA l (lead self l)).toList
theorem entCells_snoc (self : List Nat) (ids : List (List Nat)) (k : Nat) (hk : k < ids.length) :
    entCells self (ids.take (k + 1)) = entCells self (ids.take k) ++ (entA (ids.getD k []) (lead self (ids.getD k []))).toList := by
  have e : ids.getD k [] = ids[k] := by simp [List.getD, hk]
  rw [List.take_succ_eq_append_getElem hk, e]
  simp only [entCells, List.flatMap_append, List.flatMap_cons, List.flatMap_nil, List.append_nil]

set_option maxHeartbeats 1600000 in
theorem build_c (self : List Nat) (ids : List (List Nat)) (hs : IsID self) (hids : AllID ids) (ao : Option Addr) (cap : Nat) (w : World) (hat : IdsAt w ao ids) (hlen : ids.length ≤ 32768) :
    Calls Try.prog 22 #[.agg (idA self), .slice ao ids.length cap] w fun e w' => ∃ base tb size, e = .returned (.pointer (some ⟨tb, 0, none⟩)) ∧ w.heap.size ≤ base ∧ TblE w' base tb self size ids.length (entCells self ids) ∧ Below w.heap.size w w' := by
  obtain ⟨len, hlen'⟩ : ∃ n, n = ids.length := ⟨_, rfl⟩
  rw [← hlen'] at hlen ⊢
  have HL : Hid (len = ids.length) := hlen'
  clear hlen'
  by_cases hl1 : len < 1
  all_goals
    go_enter Try.func22, Try.ntmps22
    go_wp2_with (first
      | (refine wpList_ld rfl 22 _ rfl w.heap.size 0 rfl (idA self) (Try.isAgg22 _) (by rw [idA_size, hs.1]; exact Try.sizeOf22 _) (HasA.of_block (heap_alloc_new w _)) ?_)
      | (refine wpList_bld 32 _ [(0, .agg (idA self))] _ (by simp [Act.eval, Act.put]) (run_build32 _ self hs) ?_))
    obtain ⟨w1, hw1⟩ : ∃ x, x = w.alloc (.cells (idA self) 22) := ⟨_, rfl⟩
    rw [← hw1]
    have hz1 : w1.heap.size = w.heap.size + 1 := by rw [hw1]; simp
    have hself : HasA w1 w.heap.size 0 (idA self) := by rw [hw1]; exact HasA.of_block (heap_alloc_new w _)
    have hbel : Below w.heap.size w w1 := by rw [hw1]; exact (Below.refl _ _).alloc (Nat.le_refl _) _
    have hat1 : IdsAt w1 ao ids := hat.below hbel (Nat.le_refl _)
    clear hw1 hat
    have HZ : Hid (w1.heap.size = w.heap.size + 1) := hz1
    clear hz1
    refine (newTable_c self hs _ (by omega) w1).mono ?_
    rintro e w2 ⟨tb, rfl, htb0, htb2, hb2⟩
    have HT : Hid (IsTbl w2 tb self _ (.slice none 0 0) (.slice none 0 0)) := htb2
    have HB2 : Hid (Below w1.heap.size w1 w2) := hb2
    clear htb2 hb2
    go_wp2_with fail
    go_loopw [7] (fun i wr => ∃ k : Nat, k ≤ len ∧ i = .int .i64 k ∧ (∃ size, TblE wr w1.heap.size tb self size k (entCells self (ids.take k))) ∧ Below w1.heap.size w1 wr) (fun i _ => len - (intOf i).toNat)
    case atStart => exact ⟨0, by omega, rfl, ⟨_, _, HT.out, htb0, World.ownsRow_nil _ _ _ _⟩, HB2.out⟩
    case round =>
      obtain ⟨k, hk, rfl, hte, hbr⟩ := hrel
      have HTE : Hid (∃ size, TblE wr w1.heap.size tb self size k (entCells self (ids.take k))) := hte
      have HB : Hid (Below w1.heap.size w1 wr) := hbr
      clear hte hbr
      by_cases hlt : k < len
      · obtain ⟨b, off, rfl, hblt, hcell⟩ := hat1 (by rw [← HL.out]; omega)
        have hlt' : (k : Int) < (len : Int) := by omega
        have gk : HasA w1 b (off + k * 32) (idA (ids.getD k [])) := hcell k (by rw [← HL.out]; exact hlt)
        have gs : HasA w1 w.heap.size 0 (idA self) := hself
        have iik : IsID (ids.getD k []) := hids k (by rw [← HL.out]; exact hlt)
        go_wp2_with fail
        refine wp_region_ord (fun w' => Below w1.heap.size w1 w') [(0, false), (1, false), (2, false), (3, false), (4, false), (5, false), (6, false), (7, false), (8, false), (9, false), (10, true), (11, true)] (by kernel_rfl) (by kernel_rfl)
          (fun _ _ _ d _ h => by cases d <;> exact h) (by kernel_rfl) rfl ?_
        have hB : Below w1.heap.size w1 wr.drew := HB.out.drew
        refine ord_val 22 rfl rfl rfl hB (.pointer (some ⟨tb, 0, none⟩)) (fun _ _ => rfl) ?_
        simp only [List.set_cons_succ, List.set_cons_zero]
        refine ord_val 23 rfl rfl rfl hB (.slice (some ⟨b, off, none⟩) len cap) (fun _ _ => rfl) ?_
        simp only [List.set_cons_succ, List.set_cons_zero]
        refine ord_val 24 rfl rfl rfl hB (.int .i64 k) (fun _ _ => rfl) ?_
        simp only [List.set_cons_succ, List.set_cons_zero]
        refine ord_val 25 rfl rfl rfl hB (.pointer (some ⟨b, off + k * 32, none⟩)) (fun wx _ => exec_idx wx 23 22 32 _ _ rfl b off len cap k Try.underlying23 (Try.sizeOf22 wx) rfl rfl hlt) ?_
        simp only [List.set_cons_succ, List.set_cons_zero]
        refine ord_val 26 rfl rfl rfl hB (.agg (idA (ids.getD k []))) (fun wx hw => exec_load_at wx 22 _ rfl b _ rfl _ (Try.isAgg22 wx) (by rw [idA_size, iik.1]; exact Try.sizeOf22 wx) (gk.below hw hblt)) ?_
        simp only [List.set_cons_succ, List.set_cons_zero]
        refine ord_val 27 rfl rfl rfl hB (.agg (idA self)) (fun wx hw => exec_load_at wx 22 _ rfl w.heap.size 0 rfl _ (Try.isAgg22 wx) (by rw [idA_size, hs.1]; exact Try.sizeOf22 wx) (gs.below hw (by rw [HZ.out]; omega))) ?_
        simp only [List.set_cons_succ, List.set_cons_zero]
        refine ord_val 28 rfl rfl rfl hB (.slice (some ⟨b, off, none⟩) len cap) (fun _ _ => rfl) ?_
        simp only [List.set_cons_succ, List.set_cons_zero]
        refine ord_val 29 rfl rfl rfl hB (.int .i64 k) (fun _ _ => rfl) ?_
        simp only [List.set_cons_succ, List.set_cons_zero]
        refine ord_val 30 rfl rfl rfl hB (.pointer (some ⟨b, off + k * 32, none⟩)) (fun wx _ => exec_idx wx 23 22 32 _ _ rfl b off len cap k Try.underlying23 (Try.sizeOf22 wx) rfl rfl hlt) ?_
        simp only [List.set_cons_succ, List.set_cons_zero]
        refine ord_val 31 rfl rfl rfl hB (.agg (idA (ids.getD k []))) (fun wx hw => exec_load_at wx 22 _ rfl b _ rfl _ (Try.isAgg22 wx) (by rw [idA_size, iik.1]; exact Try.sizeOf22 wx) (gk.below hw hblt)) ?_
        simp only [List.set_cons_succ, List.set_cons_zero]
        refine ord_call 32 rfl rfl rfl 15 #[.agg (idA self), .agg (idA (ids.getD k []))] (exec_call _ 15 _ _ rfl rfl _ rfl Try.call15) (lead_c self _ hs iik _) ?_
        rintro e w3 ⟨rfl, hb3⟩
        have hB3 : Below w1.heap.size w1 w3 := hB.trans (hb3.mono hB.size)
        refine ⟨_, rfl, hB3, ?_⟩
        simp only [List.set_cons_succ, List.set_cons_zero]
        obtain ⟨size, ent, htb, hbt, hown⟩ := HTE.out
        have hte3 : TblE w3 w1.heap.size tb self size k (entCells self (ids.take k)) :=
          ⟨ent, htb.of_block (hb3.block tb htb.lt), hbt, hown.kept (w' := w3) (row := none) ⟨hb3.os, hb3.tape, hb3.output, hb3.size, fun i hi _ => hb3.block i hi⟩ (by cases hv : ent.ownBlock <;> simp)⟩
        refine ord_call 33 rfl rfl rfl 39 #[.pointer (some ⟨tb, 0, none⟩), .agg (idA (ids.getD k [])), .int .i64 ((lead self (ids.getD k []) : Nat) : Int)] (exec_call _ 39 _ _ rfl rfl _ rfl Try.call39) (push_c self hs size w1.heap.size tb k (lead self (ids.getD k [])) _ _ iik w3 hte3 (by omega)) ?_
        rintro e w4 ⟨rfl, hte4, hb4⟩
        have hB4 : Below w1.heap.size w1 w4 := hB3.trans hb4
        refine ⟨_, rfl, hB4, ?_⟩
        simp only [List.set_cons_succ, List.set_cons_zero]
        refine ord_done ?_
        have HTE4 : Hid (TblE w4 w1.heap.size tb self size (k + 1) (entCells self (ids.take k) ++ (entA (ids.getD k []) (lead self (ids.getD k []))).toList)) := hte4
        have HB4 : Hid (Below w1.heap.size w1 w4) := hB4
        clear hte4 hB4 hb4 hte3 hB3 hb3 hB hown htb hbt
        go_wp2_with fail
        go_roundw
        case rel => exact ⟨k + 1, by omega, by go_num, ⟨size, by rw [entCells_snoc self ids k (by rw [← HL.out]; exact hlt)]; exact HTE4.out⟩, HB4.out⟩
        case measure => simp [intOf]; omega
      · go_wp2_with fail
        go_ret
        obtain ⟨size, hte⟩ := HTE.out
        have hkl : k = len := by omega
        rw [hkl, List.take_of_length_le (by rw [← HL.out]; omega)] at hte
        exact ⟨w1.heap.size, tb, size, rfl, by rw [HZ.out]; omega, hte, hbel.trans (HB.out.mono (by rw [HZ.out]; omega))⟩
end Go.Proofs.Qxb6612853a
