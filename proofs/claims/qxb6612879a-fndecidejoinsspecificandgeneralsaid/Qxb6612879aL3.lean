/-
  The law FnDecideJoinsSpecificAndGeneral: the walk.
-/
import Derived.Test.Qxb6612879aW11
namespace Go.Proofs.Qxb6612879a
open Go.RowKit

set_option maxRecDepth 20000 in
set_option maxHeartbeats 8000000 in
theorem law3 (e d i p q : Int) (hi : 0 ≤ i) (hi1 : i < 4294967296) (hq : 0 ≤ q) (hq1 : q < 65536) (T : List Row) (h8 : T8 T) (ao : Option Addr) (cap : Nat) (w : World) (hat : RowsAt w ao T) :
    Calls Try.prog 3 #[.int .u16 e, .int .u8 d, .int .u32 i, .int .u8 p, .int .u16 q, .slice ao T.length cap] w fun e w' => e = .returned (.bool true) ∧ Below w.heap.size w w' := by
  obtain ⟨len, hlen⟩ : ∃ n, n = T.length := ⟨_, rfl⟩
  have HL : Hid (len = T.length) := hlen
  have HROW : Hid (∀ j, j < len → ∃ b off, ao = some ⟨b, off, none⟩ ∧ b < w.heap.size ∧ (T.getD j row0).1.length = 8 ∧ HasA w b (off + j * 19) (rowA (T.getD j row0).1 (T.getD j row0).2)) := fun j hj => by
    have hj' : j < T.length := by rw [← HL.out]; exact hj
    obtain ⟨b, off, h1, h2, h3⟩ := hat (by omega)
    exact ⟨b, off, h1, h2, h8 j hj', h3 j hj'⟩
  have HTM : Hid (len ≤ 4096 → ∀ (sk : Bool) (wx : World), Below w.heap.size w wx → Calls Try.prog 8 #[.slice ao len cap, .bool sk, .agg (keyA (keyL d 0 p q))] wx fun e w' => e = .returned (.map (some (wx.heap.size + 1))) ∧ MapAt w' (wx.heap.size + 1) (mapT sk (keyL d 0 p q) T) ∧ Below wx.heap.size wx w') := fun hle sk wx hb => by
    have := tableMap_c T h8 sk (keyL d 0 p q) rfl ao cap wx (hat.below hb (Nat.le_refl _)) (by rw [← HL.out]; exact hle)
    rw [← HL.out] at this
    exact this
  have HLA : Hid (len ≤ 4096 → ∀ (k : List Int), k.length = 8 → ∀ (wx : World), Below w.heap.size w wx → Calls Try.prog 9 #[.slice ao len cap, .agg (keyA k)] wx fun e w' => (∃ a : Int, e = .returned (.int .i64 a) ∧ LastIs T k a) ∧ Below wx.heap.size wx w') := fun hle k hk wx hb => by
    have := lastAt_c T h8 k hk ao cap wx (hat.below hb (Nat.le_refl _)) (by rw [← HL.out]; exact hle)
    rw [← HL.out] at this
    exact this
  rw [← hlen]
  clear hlen hat h8
  go_enter Try.func3, Try.ntmps3
  go_wp2_with fail
  refine (bytes5_c e d i p q ao len cap w).mono ?_
  rintro _ w1 ⟨rfl, hb1⟩
  have HB1 : Hid (Below w.heap.size w w1) := hb1
  clear hb1
  cases hok : okBytes len with
  | false =>
    go_wp2_with fail
    go_ret
    exact ⟨rfl, HB1.out⟩
  | true =>
    clear hok
    by_cases hbig : (4096 : Int) < (len : Int)
    · go_wp2_with fail
      go_ret
      exact ⟨rfl, HB1.out⟩
    · have HLE : Hid (len ≤ 4096) := by show len ≤ 4096; omega
      have HS0 : Hid (St w [] w1) := St.nil HB1.out
      clear HB1
      go_wp2_with (refine stop_build 29 ?_)
      refine go_on ?_
      refine lst_val _ (exec_build w1 29 _ rfl [(0, .int .u16 e), (1, .int .u8 d), (2, .int .u32 i), (3, .int .u8 p), (4, .int .u16 q)] (by simp [Act.eval]) _ (run_build29 w1 e d i p q)) ?_
      simp only [List.set_cons_succ, List.set_cons_zero]
      refine lst_val _ (exec_alloc w1 29 rfl _ (run_zero29 _)) ?_
      simp only [List.set_cons_succ, List.set_cons_zero]
      refine lst_sk (exec_storeA _ 29 _ _ rfl w1.heap.size 0 (qryA e d i p q) rfl rfl (Try.sizeOf29 _) _ 29 (heap_alloc_new w1 _) (Nat.le_refl _) (qryA_one _ _ _ _ _)) ?_
      rw [splice_all (qryA 0 0 0 0 0) (qryA e d i p q) rfl]
      have hSt := HS0.out.new (qryA 0 0 0 0 0) (qryA e d i p q) 29
      generalize (w1.alloc (.cells (qryA 0 0 0 0 0) 29)).setRow w1.heap.size (qryA e d i p q) = w2 at hSt ⊢
      generalize w1.heap.size = b13 at hSt ⊢
      have HS1 : Hid (St w [(b13, qryA e d i p q, 29)] w2) := hSt
      clear HS0 hSt
      go_wp2_with (refine stop_load 29 ?_)
      refine go_on ?_
      refine lst_val _ (exec_load_at w2 29 _ rfl b13 0 rfl (qryA e d i p q) (Try.isAgg29 _) (Try.sizeOf29 _) (HS1.out.has (t := 29) (by simp))) ?_
      simp only [List.set_cons_succ, List.set_cons_zero]
      refine lst_val _ (exec_alloc w2 29 rfl _ (run_zero29 _)) ?_
      simp only [List.set_cons_succ, List.set_cons_zero]
      refine lst_sk (exec_storeA _ 29 _ _ rfl w2.heap.size 0 (qryA e d i p q) rfl rfl (Try.sizeOf29 _) _ 29 (heap_alloc_new w2 _) (Nat.le_refl _) (qryA_one _ _ _ _ _)) ?_
      rw [splice_all (qryA 0 0 0 0 0) (qryA e d i p q) rfl]
      have hSt := HS1.out.new (qryA 0 0 0 0 0) (qryA e d i p q) 29
      generalize (w2.alloc (.cells (qryA 0 0 0 0 0) 29)).setRow w2.heap.size (qryA e d i p q) = w3 at hSt ⊢
      generalize w2.heap.size = b14 at hSt ⊢
      have HS2 : Hid (St w [(b14, qryA e d i p q, 29), (b13, qryA e d i p q, 29)] w3) := hSt
      clear HS1 hSt
      go_wp2_with (refine stop_store 23 ?_)
      refine go_on ?_
      refine lst_sk (exec_store1 w3 23 _ _ rfl ⟨b14, 2, none⟩ (.int .u32 0) (.int .u32 i) rfl rfl (Try.sizeOf23 _) rfl rfl (HS2.out.spot (b := b14) (cs := qryA e d i p q) (t := 29) (by simp) 2) (HS2.out.soft (b := b14) (cs := qryA e d i p q) (t := 29) (by simp) 2)) ?_
      have hSt := HS2.out.cell (qryA e d 0 p q) (heap_setCell_same w3 b14 2 (qryA e d i p q) 29 (.int .u32 0) (HS2.out.get (by simp)))
      generalize w3.setCell ⟨b14, 2, none⟩ (.int .u32 0) = w4 at hSt ⊢
      have HS3 : Hid (St w [(b14, qryA e d 0 p q, 29), (b13, qryA e d i p q, 29)] w4) := hSt
      clear HS2 hSt
      go_wp2_with fail
      refine (keyOf_c d i p q hi hi1 hq hq1 w4).mono ?_
      rintro _ w5 ⟨rfl, hb⟩
      have HS4 : Hid (St w [(b14, qryA e d 0 p q, 29), (b13, qryA e d i p q, 29)] w5) := HS3.out.step hb
      clear HS3 hb
      go_wp2_with (refine stop_alloc 30 ?_)
      refine go_on ?_
      refine lst_val _ (exec_alloc w5 30 rfl _ (run_zero30 _)) ?_
      simp only [List.set_cons_succ, List.set_cons_zero]
      refine lst_sk (exec_storeA _ 30 _ _ rfl w5.heap.size 0 (keyA (keyL d i p q)) rfl rfl (Try.sizeOf30 _) _ 30 (heap_alloc_new w5 _) (Nat.le_refl _) (keyA_one _)) ?_
      rw [splice_all (keyA [0, 0, 0, 0, 0, 0, 0, 0]) (keyA (keyL d i p q)) rfl]
      have hSt := HS4.out.new (keyA [0, 0, 0, 0, 0, 0, 0, 0]) (keyA (keyL d i p q)) 30
      generalize (w5.alloc (.cells (keyA [0, 0, 0, 0, 0, 0, 0, 0]) 30)).setRow w5.heap.size (keyA (keyL d i p q)) = w6 at hSt ⊢
      generalize w5.heap.size = b15 at hSt ⊢
      have HS5 : Hid (St w [(b15, keyA (keyL d i p q), 30), (b14, qryA e d 0 p q, 29), (b13, qryA e d i p q, 29)] w6) := hSt
      clear HS4 hSt
      go_wp2_with fail
      refine (keyOf_c d 0 p q (by omega) (by omega) hq hq1 w6).mono ?_
      rintro _ w7 ⟨rfl, hb⟩
      have HS6 : Hid (St w [(b15, keyA (keyL d i p q), 30), (b14, qryA e d 0 p q, 29), (b13, qryA e d i p q, 29)] w7) := HS5.out.step hb
      clear HS5 hb
      go_wp2_with (refine stop_alloc 30 ?_)
      refine go_on ?_
      refine lst_val _ (exec_alloc w7 30 rfl _ (run_zero30 _)) ?_
      simp only [List.set_cons_succ, List.set_cons_zero]
      refine lst_sk (exec_storeA _ 30 _ _ rfl w7.heap.size 0 (keyA (keyL d 0 p q)) rfl rfl (Try.sizeOf30 _) _ 30 (heap_alloc_new w7 _) (Nat.le_refl _) (keyA_one _)) ?_
      rw [splice_all (keyA [0, 0, 0, 0, 0, 0, 0, 0]) (keyA (keyL d 0 p q)) rfl]
      have hSt := HS6.out.new (keyA [0, 0, 0, 0, 0, 0, 0, 0]) (keyA (keyL d 0 p q)) 30
      generalize (w7.alloc (.cells (keyA [0, 0, 0, 0, 0, 0, 0, 0]) 30)).setRow w7.heap.size (keyA (keyL d 0 p q)) = w8 at hSt ⊢
      generalize w7.heap.size = b16 at hSt ⊢
      have HS7 : Hid (St w [(b16, keyA (keyL d 0 p q), 30), (b15, keyA (keyL d i p q), 30), (b14, qryA e d 0 p q, 29), (b13, qryA e d i p q, 29)] w8) := hSt
      clear HS6 hSt
      go_wp2_with (refine stop_build 39 ?_)
      refine go_on ?_
      refine lst_val _ (exec_build w8 39 _ rfl [(0, .int .u8 0), (3, .bool true)] (by simp [Act.eval]) _ (run_deny w8)) ?_
      simp only [List.set_cons_succ, List.set_cons_zero]
      refine lst_val _ (exec_alloc w8 39 rfl _ (run_zero39 _)) ?_
      simp only [List.set_cons_succ, List.set_cons_zero]
      refine lst_sk (exec_storeA _ 39 _ _ rfl w8.heap.size 0 (ansA deny) rfl rfl (Try.sizeOf39 _) _ 39 (heap_alloc_new w8 _) (Nat.le_refl _) (ansA_one _)) ?_
      rw [splice_all (ansA zeroAns) (ansA deny) rfl]
      have hSt := HS7.out.new (ansA zeroAns) (ansA deny) 39
      generalize (w8.alloc (.cells (ansA zeroAns) 39)).setRow w8.heap.size (ansA deny) = w9 at hSt ⊢
      generalize w8.heap.size = b17 at hSt ⊢
      have HS8 : Hid (St w [(b17, ansA deny, 39), (b16, keyA (keyL d 0 p q), 30), (b15, keyA (keyL d i p q), 30), (b14, qryA e d 0 p q, 29), (b13, qryA e d i p q, 29)] w9) := hSt
      clear HS7 hSt
      obtain ⟨aW, haW⟩ : ∃ x, x = decideM (mapT false (keyL d 0 p q) T) d i p q := ⟨_, rfl⟩
      have HaW : Hid (aW = decideM (mapT false (keyL d 0 p q) T) d i p q) := haW
      clear haW
      go_wp2_with fail
      refine one_end (fun l b mb => (((((l.set 55 (.agg (qryA e d i p q))).set 56 (.slice ao len cap)).set 57 (.agg (keyA (keyL d 0 p q)))).set 58 (.map (some mb))).set 59 (.agg (ansA aW))).set 18 (.pointer (some ⟨b, 0, none⟩))) (fun b wn => St w ((b, ansA aW, 39) :: [(b17, ansA deny, 39), (b16, keyA (keyL d 0 p q), 30), (b15, keyA (keyL d i p q), 30), (b14, qryA e d 0 p q, 29), (b13, qryA e d i p q, 29)]) wn) (fun _ _ _ d _ h => by cases d <;> exact h) ?_ (fun Q' hQ' hK => ?_)
      case refine_2 =>
        simp only [List.set_cons_succ, List.set_cons_zero] at hK
        refine wp_region_ordZ (fun w' => St w [(b17, ansA deny, 39), (b16, keyA (keyL d 0 p q), 30), (b15, keyA (keyL d i p q), 30), (b14, qryA e d 0 p q, 29), (b13, qryA e d i p q, 29)] w') 6 5 [(0, false), (1, false), (2, false), (3, true), (4, true)] (by kernel_rfl) (by kernel_rfl) hQ' (by kernel_rfl) rfl ?_
        have hS := HS8.out.drew
        refine ordZ_val 55 rfl rfl rfl hS (.agg (qryA e d i p q)) (fun wx hw => exec_load_at wx 29 _ rfl b13 0 rfl _ (Try.isAgg29 wx) (Try.sizeOf29 wx) (hw.has (t := 29) (by simp))) ?_
        simp only [List.set_cons_succ, List.set_cons_zero]
        refine ordZ_val 56 rfl rfl rfl hS (.slice ao len cap) (fun _ _ => rfl) ?_
        simp only [List.set_cons_succ, List.set_cons_zero]
        refine ordZ_val 57 rfl rfl rfl hS (.agg (keyA (keyL d 0 p q))) (fun wx hw => exec_load_at wx 30 _ rfl b16 0 rfl _ (Try.isAgg30 wx) (Try.sizeOf30 wx) (hw.has (t := 30) (by simp))) ?_
        simp only [List.set_cons_succ, List.set_cons_zero]
        refine ⟨?_, ?_⟩
        · skip
          refine op_call 58 rfl rfl rfl 8 #[.slice ao len cap, .bool false, .agg (keyA (keyL d 0 p q))] (exec_call _ 8 _ _ rfl rfl _ rfl Try.call8) (HTM.out HLE.out false _ hS.below) ?_
          rintro _ wa ⟨rfl, hmA, hbA⟩
          have hSA := hS.step hbA
          refine ⟨_, rfl, hSA, ?_⟩
          simp only [List.set_cons_succ, List.set_cons_zero]
          have hmA' := hmA
          refine ⟨?_, ?_⟩
          · skip
            refine op_call 59 rfl rfl rfl 7 #[.agg (qryA e d i p q), .map (some (w9.drew.heap.size + 1))] (exec_call _ 7 _ _ rfl rfl _ rfl Try.call7) (decideMap_c e d i p q hi hi1 hq hq1 _ _ _ hmA') ?_
            rintro _ wb ⟨rfl, hbB⟩
            have hSB := hSA.step hbB
            refine ⟨_, rfl, hSB, ?_⟩
            simp only [List.set_cons_succ, List.set_cons_zero]
            rw [← HaW.out]
            refine op_val (.pointer (some ⟨wb.heap.size, 0, none⟩)) rfl rfl rfl (exec_alloc wb 39 rfl _ (run_zero39 wb)) (hSB.alloc _ _) ?_
            simp only [List.set_cons_succ, List.set_cons_zero]
            have hSC := hSB.fresh (ansA zeroAns) 39
            refine ord_done ?_
            refine last_run rfl rfl rfl (exec_storeA _ 39 _ _ rfl (wb.heap.size) 0 (ansA aW) rfl rfl (Try.sizeOf39 _) (ansA zeroAns) 39 (hSC.get (by simp)) (Nat.le_refl _) (ansA_one _)) ?_
            rw [splice_all (ansA zeroAns) (ansA aW) rfl]
            exact hK _ _ _ (hSC.set (ansA aW))
          · skip
            refine op_val (.pointer (some ⟨wa.heap.size, 0, none⟩)) rfl rfl rfl (exec_alloc wa 39 rfl _ (run_zero39 wa)) (hSA.alloc _ _) ?_
            simp only [List.set_cons_succ, List.set_cons_zero]
            have hSC := hSA.fresh (ansA zeroAns) 39
            have hmA' := hmA.below ((Below.refl wa.heap.size wa).alloc (Nat.le_refl _) (.cells (ansA zeroAns) 39)) hmA.lt
            refine ord_call 59 rfl rfl rfl 7 #[.agg (qryA e d i p q), .map (some (w9.drew.heap.size + 1))] (exec_call _ 7 _ _ rfl rfl _ rfl Try.call7) (decideMap_c e d i p q hi hi1 hq hq1 _ _ _ hmA') ?_
            rintro _ wb ⟨rfl, hbB⟩
            have hSD := hSC.step hbB
            refine ⟨_, rfl, hSD.tail, ?_⟩
            simp only [List.set_cons_succ, List.set_cons_zero]
            rw [← HaW.out]
            refine ord_done ?_
            refine last_run rfl rfl rfl (exec_storeA _ 39 _ _ rfl (wa.heap.size) 0 (ansA aW) rfl rfl (Try.sizeOf39 _) (ansA zeroAns) 39 (hSD.get (by simp)) (Nat.le_refl _) (ansA_one _)) ?_
            rw [splice_all (ansA zeroAns) (ansA aW) rfl]
            exact hK _ _ _ (hSD.set (ansA aW))
        · skip
          refine op_val (.pointer (some ⟨w9.drew.heap.size, 0, none⟩)) rfl rfl rfl (exec_alloc w9.drew 39 rfl _ (run_zero39 w9.drew)) (hS.alloc _ _) ?_
          simp only [List.set_cons_succ, List.set_cons_zero]
          have hSC := hS.fresh (ansA zeroAns) 39
          refine ord_call 58 rfl rfl rfl 8 #[.slice ao len cap, .bool false, .agg (keyA (keyL d 0 p q))] (exec_call _ 8 _ _ rfl rfl _ rfl Try.call8) (HTM.out HLE.out false _ hSC.below) ?_
          rintro _ wa ⟨rfl, hmA, hbA⟩
          have hSD := hSC.step hbA
          refine ⟨_, rfl, hSD.tail, ?_⟩
          simp only [List.set_cons_succ, List.set_cons_zero]
          have hmA' := hmA
          refine ord_call 59 rfl rfl rfl 7 #[.agg (qryA e d i p q), .map (some ((w9.drew.alloc (.cells (ansA zeroAns) 39)).heap.size + 1))] (exec_call _ 7 _ _ rfl rfl _ rfl Try.call7) (decideMap_c e d i p q hi hi1 hq hq1 _ _ _ hmA') ?_
          rintro _ wb ⟨rfl, hbB⟩
          have hSE := hSD.step hbB
          refine ⟨_, rfl, hSE.tail, ?_⟩
          simp only [List.set_cons_succ, List.set_cons_zero]
          rw [← HaW.out]
          refine ord_done ?_
          refine last_run rfl rfl rfl (exec_storeA _ 39 _ _ rfl (w9.drew.heap.size) 0 (ansA aW) rfl rfl (Try.sizeOf39 _) (ansA zeroAns) 39 (hSE.get (by simp)) (Nat.le_refl _) (ansA_one _)) ?_
          rw [splice_all (ansA zeroAns) (ansA aW) rfl]
          exact hK _ _ _ (hSE.set (ansA aW))
      intro b18 mb w10 hSt
      simp only [List.set_cons_succ, List.set_cons_zero]
      have HS9 : Hid (St w [(b18, ansA aW, 39), (b17, ansA deny, 39), (b16, keyA (keyL d 0 p q), 30), (b15, keyA (keyL d i p q), 30), (b14, qryA e d 0 p q, 29), (b13, qryA e d i p q, 29)] w10) := hSt
      clear HS8 hSt
      obtain ⟨aG, haG⟩ : ∃ x, x = decideM (mapT false (keyL d 0 p q) T) d 0 p q := ⟨_, rfl⟩
      have HaG : Hid (aG = decideM (mapT false (keyL d 0 p q) T) d 0 p q) := haG
      clear haG
      go_wp2_with fail
      refine one_end (fun l b mb => (((((l.set 60 (.agg (qryA e d 0 p q))).set 61 (.slice ao len cap)).set 62 (.agg (keyA (keyL d 0 p q)))).set 63 (.map (some mb))).set 64 (.agg (ansA aG))).set 19 (.pointer (some ⟨b, 0, none⟩))) (fun b wn => St w ((b, ansA aG, 39) :: [(b18, ansA aW, 39), (b17, ansA deny, 39), (b16, keyA (keyL d 0 p q), 30), (b15, keyA (keyL d i p q), 30), (b14, qryA e d 0 p q, 29), (b13, qryA e d i p q, 29)]) wn) (fun _ _ _ d _ h => by cases d <;> exact h) ?_ (fun Q' hQ' hK => ?_)
      case refine_2 =>
        simp only [List.set_cons_succ, List.set_cons_zero] at hK
        refine wp_region_ordZ (fun w' => St w [(b18, ansA aW, 39), (b17, ansA deny, 39), (b16, keyA (keyL d 0 p q), 30), (b15, keyA (keyL d i p q), 30), (b14, qryA e d 0 p q, 29), (b13, qryA e d i p q, 29)] w') 6 5 [(0, false), (1, false), (2, false), (3, true), (4, true)] (by kernel_rfl) (by kernel_rfl) hQ' (by kernel_rfl) rfl ?_
        have hS := HS9.out.drew
        refine ordZ_val 60 rfl rfl rfl hS (.agg (qryA e d 0 p q)) (fun wx hw => exec_load_at wx 29 _ rfl b14 0 rfl _ (Try.isAgg29 wx) (Try.sizeOf29 wx) (hw.has (t := 29) (by simp))) ?_
        simp only [List.set_cons_succ, List.set_cons_zero]
        refine ordZ_val 61 rfl rfl rfl hS (.slice ao len cap) (fun _ _ => rfl) ?_
        simp only [List.set_cons_succ, List.set_cons_zero]
        refine ordZ_val 62 rfl rfl rfl hS (.agg (keyA (keyL d 0 p q))) (fun wx hw => exec_load_at wx 30 _ rfl b16 0 rfl _ (Try.isAgg30 wx) (Try.sizeOf30 wx) (hw.has (t := 30) (by simp))) ?_
        simp only [List.set_cons_succ, List.set_cons_zero]
        refine ⟨?_, ?_⟩
        · skip
          refine op_call 63 rfl rfl rfl 8 #[.slice ao len cap, .bool false, .agg (keyA (keyL d 0 p q))] (exec_call _ 8 _ _ rfl rfl _ rfl Try.call8) (HTM.out HLE.out false _ hS.below) ?_
          rintro _ wa ⟨rfl, hmA, hbA⟩
          have hSA := hS.step hbA
          refine ⟨_, rfl, hSA, ?_⟩
          simp only [List.set_cons_succ, List.set_cons_zero]
          have hmA' := hmA
          refine ⟨?_, ?_⟩
          · skip
            refine op_call 64 rfl rfl rfl 7 #[.agg (qryA e d 0 p q), .map (some (w10.drew.heap.size + 1))] (exec_call _ 7 _ _ rfl rfl _ rfl Try.call7) (decideMap_c e d 0 p q (by omega) (by omega) hq hq1 _ _ _ hmA') ?_
            rintro _ wb ⟨rfl, hbB⟩
            have hSB := hSA.step hbB
            refine ⟨_, rfl, hSB, ?_⟩
            simp only [List.set_cons_succ, List.set_cons_zero]
            rw [← HaG.out]
            refine op_val (.pointer (some ⟨wb.heap.size, 0, none⟩)) rfl rfl rfl (exec_alloc wb 39 rfl _ (run_zero39 wb)) (hSB.alloc _ _) ?_
            simp only [List.set_cons_succ, List.set_cons_zero]
            have hSC := hSB.fresh (ansA zeroAns) 39
            refine ord_done ?_
            refine last_run rfl rfl rfl (exec_storeA _ 39 _ _ rfl (wb.heap.size) 0 (ansA aG) rfl rfl (Try.sizeOf39 _) (ansA zeroAns) 39 (hSC.get (by simp)) (Nat.le_refl _) (ansA_one _)) ?_
            rw [splice_all (ansA zeroAns) (ansA aG) rfl]
            exact hK _ _ _ (hSC.set (ansA aG))
          · skip
            refine op_val (.pointer (some ⟨wa.heap.size, 0, none⟩)) rfl rfl rfl (exec_alloc wa 39 rfl _ (run_zero39 wa)) (hSA.alloc _ _) ?_
            simp only [List.set_cons_succ, List.set_cons_zero]
            have hSC := hSA.fresh (ansA zeroAns) 39
            have hmA' := hmA.below ((Below.refl wa.heap.size wa).alloc (Nat.le_refl _) (.cells (ansA zeroAns) 39)) hmA.lt
            refine ord_call 64 rfl rfl rfl 7 #[.agg (qryA e d 0 p q), .map (some (w10.drew.heap.size + 1))] (exec_call _ 7 _ _ rfl rfl _ rfl Try.call7) (decideMap_c e d 0 p q (by omega) (by omega) hq hq1 _ _ _ hmA') ?_
            rintro _ wb ⟨rfl, hbB⟩
            have hSD := hSC.step hbB
            refine ⟨_, rfl, hSD.tail, ?_⟩
            simp only [List.set_cons_succ, List.set_cons_zero]
            rw [← HaG.out]
            refine ord_done ?_
            refine last_run rfl rfl rfl (exec_storeA _ 39 _ _ rfl (wa.heap.size) 0 (ansA aG) rfl rfl (Try.sizeOf39 _) (ansA zeroAns) 39 (hSD.get (by simp)) (Nat.le_refl _) (ansA_one _)) ?_
            rw [splice_all (ansA zeroAns) (ansA aG) rfl]
            exact hK _ _ _ (hSD.set (ansA aG))
        · skip
          refine op_val (.pointer (some ⟨w10.drew.heap.size, 0, none⟩)) rfl rfl rfl (exec_alloc w10.drew 39 rfl _ (run_zero39 w10.drew)) (hS.alloc _ _) ?_
          simp only [List.set_cons_succ, List.set_cons_zero]
          have hSC := hS.fresh (ansA zeroAns) 39
          refine ord_call 63 rfl rfl rfl 8 #[.slice ao len cap, .bool false, .agg (keyA (keyL d 0 p q))] (exec_call _ 8 _ _ rfl rfl _ rfl Try.call8) (HTM.out HLE.out false _ hSC.below) ?_
          rintro _ wa ⟨rfl, hmA, hbA⟩
          have hSD := hSC.step hbA
          refine ⟨_, rfl, hSD.tail, ?_⟩
          simp only [List.set_cons_succ, List.set_cons_zero]
          have hmA' := hmA
          refine ord_call 64 rfl rfl rfl 7 #[.agg (qryA e d 0 p q), .map (some ((w10.drew.alloc (.cells (ansA zeroAns) 39)).heap.size + 1))] (exec_call _ 7 _ _ rfl rfl _ rfl Try.call7) (decideMap_c e d 0 p q (by omega) (by omega) hq hq1 _ _ _ hmA') ?_
          rintro _ wb ⟨rfl, hbB⟩
          have hSE := hSD.step hbB
          refine ⟨_, rfl, hSE.tail, ?_⟩
          simp only [List.set_cons_succ, List.set_cons_zero]
          rw [← HaG.out]
          refine ord_done ?_
          refine last_run rfl rfl rfl (exec_storeA _ 39 _ _ rfl (w10.drew.heap.size) 0 (ansA aG) rfl rfl (Try.sizeOf39 _) (ansA zeroAns) 39 (hSE.get (by simp)) (Nat.le_refl _) (ansA_one _)) ?_
          rw [splice_all (ansA zeroAns) (ansA aG) rfl]
          exact hK _ _ _ (hSE.set (ansA aG))
      intro b19 mb w11 hSt
      simp only [List.set_cons_succ, List.set_cons_zero]
      have HS10 : Hid (St w [(b19, ansA aG, 39), (b18, ansA aW, 39), (b17, ansA deny, 39), (b16, keyA (keyL d 0 p q), 30), (b15, keyA (keyL d i p q), 30), (b14, qryA e d 0 p q, 29), (b13, qryA e d i p q, 29)] w11) := hSt
      clear HS9 hSt
      obtain ⟨aS, haS⟩ : ∃ x, x = decideM (mapT true (keyL d 0 p q) T) d i p q := ⟨_, rfl⟩
      have HaS : Hid (aS = decideM (mapT true (keyL d 0 p q) T) d i p q) := haS
      clear haS
      go_wp2_with fail
      refine one_end (fun l b mb => (((((l.set 65 (.agg (qryA e d i p q))).set 66 (.slice ao len cap)).set 67 (.agg (keyA (keyL d 0 p q)))).set 68 (.map (some mb))).set 69 (.agg (ansA aS))).set 20 (.pointer (some ⟨b, 0, none⟩))) (fun b wn => St w ((b, ansA aS, 39) :: [(b19, ansA aG, 39), (b18, ansA aW, 39), (b17, ansA deny, 39), (b16, keyA (keyL d 0 p q), 30), (b15, keyA (keyL d i p q), 30), (b14, qryA e d 0 p q, 29), (b13, qryA e d i p q, 29)]) wn) (fun _ _ _ d _ h => by cases d <;> exact h) ?_ (fun Q' hQ' hK => ?_)
      case refine_2 =>
        simp only [List.set_cons_succ, List.set_cons_zero] at hK
        refine wp_region_ordZ (fun w' => St w [(b19, ansA aG, 39), (b18, ansA aW, 39), (b17, ansA deny, 39), (b16, keyA (keyL d 0 p q), 30), (b15, keyA (keyL d i p q), 30), (b14, qryA e d 0 p q, 29), (b13, qryA e d i p q, 29)] w') 6 5 [(0, false), (1, false), (2, false), (3, true), (4, true)] (by kernel_rfl) (by kernel_rfl) hQ' (by kernel_rfl) rfl ?_
        have hS := HS10.out.drew
        refine ordZ_val 65 rfl rfl rfl hS (.agg (qryA e d i p q)) (fun wx hw => exec_load_at wx 29 _ rfl b13 0 rfl _ (Try.isAgg29 wx) (Try.sizeOf29 wx) (hw.has (t := 29) (by simp))) ?_
        simp only [List.set_cons_succ, List.set_cons_zero]
        refine ordZ_val 66 rfl rfl rfl hS (.slice ao len cap) (fun _ _ => rfl) ?_
        simp only [List.set_cons_succ, List.set_cons_zero]
        refine ordZ_val 67 rfl rfl rfl hS (.agg (keyA (keyL d 0 p q))) (fun wx hw => exec_load_at wx 30 _ rfl b16 0 rfl _ (Try.isAgg30 wx) (Try.sizeOf30 wx) (hw.has (t := 30) (by simp))) ?_
        simp only [List.set_cons_succ, List.set_cons_zero]
        refine ⟨?_, ?_⟩
        · skip
          refine op_call 68 rfl rfl rfl 8 #[.slice ao len cap, .bool true, .agg (keyA (keyL d 0 p q))] (exec_call _ 8 _ _ rfl rfl _ rfl Try.call8) (HTM.out HLE.out true _ hS.below) ?_
          rintro _ wa ⟨rfl, hmA, hbA⟩
          have hSA := hS.step hbA
          refine ⟨_, rfl, hSA, ?_⟩
          simp only [List.set_cons_succ, List.set_cons_zero]
          have hmA' := hmA
          refine ⟨?_, ?_⟩
          · skip
            refine op_call 69 rfl rfl rfl 7 #[.agg (qryA e d i p q), .map (some (w11.drew.heap.size + 1))] (exec_call _ 7 _ _ rfl rfl _ rfl Try.call7) (decideMap_c e d i p q hi hi1 hq hq1 _ _ _ hmA') ?_
            rintro _ wb ⟨rfl, hbB⟩
            have hSB := hSA.step hbB
            refine ⟨_, rfl, hSB, ?_⟩
            simp only [List.set_cons_succ, List.set_cons_zero]
            rw [← HaS.out]
            refine op_val (.pointer (some ⟨wb.heap.size, 0, none⟩)) rfl rfl rfl (exec_alloc wb 39 rfl _ (run_zero39 wb)) (hSB.alloc _ _) ?_
            simp only [List.set_cons_succ, List.set_cons_zero]
            have hSC := hSB.fresh (ansA zeroAns) 39
            refine ord_done ?_
            refine last_run rfl rfl rfl (exec_storeA _ 39 _ _ rfl (wb.heap.size) 0 (ansA aS) rfl rfl (Try.sizeOf39 _) (ansA zeroAns) 39 (hSC.get (by simp)) (Nat.le_refl _) (ansA_one _)) ?_
            rw [splice_all (ansA zeroAns) (ansA aS) rfl]
            exact hK _ _ _ (hSC.set (ansA aS))
          · skip
            refine op_val (.pointer (some ⟨wa.heap.size, 0, none⟩)) rfl rfl rfl (exec_alloc wa 39 rfl _ (run_zero39 wa)) (hSA.alloc _ _) ?_
            simp only [List.set_cons_succ, List.set_cons_zero]
            have hSC := hSA.fresh (ansA zeroAns) 39
            have hmA' := hmA.below ((Below.refl wa.heap.size wa).alloc (Nat.le_refl _) (.cells (ansA zeroAns) 39)) hmA.lt
            refine ord_call 69 rfl rfl rfl 7 #[.agg (qryA e d i p q), .map (some (w11.drew.heap.size + 1))] (exec_call _ 7 _ _ rfl rfl _ rfl Try.call7) (decideMap_c e d i p q hi hi1 hq hq1 _ _ _ hmA') ?_
            rintro _ wb ⟨rfl, hbB⟩
            have hSD := hSC.step hbB
            refine ⟨_, rfl, hSD.tail, ?_⟩
            simp only [List.set_cons_succ, List.set_cons_zero]
            rw [← HaS.out]
            refine ord_done ?_
            refine last_run rfl rfl rfl (exec_storeA _ 39 _ _ rfl (wa.heap.size) 0 (ansA aS) rfl rfl (Try.sizeOf39 _) (ansA zeroAns) 39 (hSD.get (by simp)) (Nat.le_refl _) (ansA_one _)) ?_
            rw [splice_all (ansA zeroAns) (ansA aS) rfl]
            exact hK _ _ _ (hSD.set (ansA aS))
        · skip
          refine op_val (.pointer (some ⟨w11.drew.heap.size, 0, none⟩)) rfl rfl rfl (exec_alloc w11.drew 39 rfl _ (run_zero39 w11.drew)) (hS.alloc _ _) ?_
          simp only [List.set_cons_succ, List.set_cons_zero]
          have hSC := hS.fresh (ansA zeroAns) 39
          refine ord_call 68 rfl rfl rfl 8 #[.slice ao len cap, .bool true, .agg (keyA (keyL d 0 p q))] (exec_call _ 8 _ _ rfl rfl _ rfl Try.call8) (HTM.out HLE.out true _ hSC.below) ?_
          rintro _ wa ⟨rfl, hmA, hbA⟩
          have hSD := hSC.step hbA
          refine ⟨_, rfl, hSD.tail, ?_⟩
          simp only [List.set_cons_succ, List.set_cons_zero]
          have hmA' := hmA
          refine ord_call 69 rfl rfl rfl 7 #[.agg (qryA e d i p q), .map (some ((w11.drew.alloc (.cells (ansA zeroAns) 39)).heap.size + 1))] (exec_call _ 7 _ _ rfl rfl _ rfl Try.call7) (decideMap_c e d i p q hi hi1 hq hq1 _ _ _ hmA') ?_
          rintro _ wb ⟨rfl, hbB⟩
          have hSE := hSD.step hbB
          refine ⟨_, rfl, hSE.tail, ?_⟩
          simp only [List.set_cons_succ, List.set_cons_zero]
          rw [← HaS.out]
          refine ord_done ?_
          refine last_run rfl rfl rfl (exec_storeA _ 39 _ _ rfl (w11.drew.heap.size) 0 (ansA aS) rfl rfl (Try.sizeOf39 _) (ansA zeroAns) 39 (hSE.get (by simp)) (Nat.le_refl _) (ansA_one _)) ?_
          rw [splice_all (ansA zeroAns) (ansA aS) rfl]
          exact hK _ _ _ (hSE.set (ansA aS))
      intro b20 mb w12 hSt
      simp only [List.set_cons_succ, List.set_cons_zero]
      have HS11 : Hid (St w [(b20, ansA aS, 39), (b19, ansA aG, 39), (b18, ansA aW, 39), (b17, ansA deny, 39), (b16, keyA (keyL d 0 p q), 30), (b15, keyA (keyL d i p q), 30), (b14, qryA e d 0 p q, 29), (b13, qryA e d i p q, 29)] w12) := hSt
      clear HS10 hSt
      go_wp2_with (refine stop_load 30 ?_)
      refine go_on ?_
      refine lst_val _ (exec_load_at w12 30 _ rfl b16 0 rfl (keyA (keyL d 0 p q)) (Try.isAgg30 _) (Try.sizeOf30 _) (HS11.out.has (t := 30) (by simp))) ?_
      simp only [List.set_cons_succ, List.set_cons_zero]
      go_wp2_with fail
      refine (HLA.out HLE.out (keyL d 0 p q) rfl w12 HS11.out.below).mono ?_
      rintro _ w13 ⟨⟨gi, rfl, hgi⟩, hb⟩
      have HS12 : Hid (St w [(b20, ansA aS, 39), (b19, ansA aG, 39), (b18, ansA aW, 39), (b17, ansA deny, 39), (b16, keyA (keyL d 0 p q), 30), (b15, keyA (keyL d i p q), 30), (b14, qryA e d 0 p q, 29), (b13, qryA e d i p q, 29)] w13) := HS11.out.step hb
      clear HS11 hb
      have HGI : Hid (LastIs T (keyL d 0 p q) gi) := hgi
      clear hgi
      by_cases hi0 : i = 0
      · have hne : (i != 0) = false := by rw [hi0]; rfl
        have HI0 : Hid (i = 0) := hi0
        clear hi0
        rcases HGI.out with ⟨qg, hqG, hgq, _, hlrG⟩ | ⟨hgm, hlrG⟩
        · skip
          subst hgq
          clear HGI
          obtain ⟨rG, hrG⟩ : ∃ x, x = (T.getD qg row0).2 := ⟨_, rfl⟩
          rw [← hrG] at hlrG
          have HRAG : Hid (rG = (T.getD qg row0).2) := hrG
          have HLRG : Hid (lastRow T (keyL d 0 p q) = some rG) := hlrG
          have hltG : qg < len := by rw [HL.out]; exact hqG
          clear hrG hlrG hqG
          have h0G : (0 : Int) ≤ (qg : Int) := by omega
          have FG : Hid (aG = rG) := by
            show aG = rG
            rw [HaG.out, decide_general, HLRG.out]
            rfl
          have FS : Hid (aS = deny) := by
            show aS = deny
            rw [HaS.out, HI0.out, decide_skip0]
          have FW : Hid (aW = aG) := by
            show aW = aG
            rw [HaW.out, HaG.out, HI0.out]
          clear HLRG
          go_wp2_with (refine stop_load 39 ?_)
          refine go_on ?_
          refine lst_val _ (exec_load_at w13 39 _ rfl b17 0 rfl (ansA deny) (Try.isAgg39 _) (Try.sizeOf39 _) (HS12.out.has (t := 39) (by simp))) ?_
          simp only [List.set_cons_succ, List.set_cons_zero]
          refine lst_val _ (exec_alloc w13 39 rfl _ (run_zero39 _)) ?_
          simp only [List.set_cons_succ, List.set_cons_zero]
          refine lst_sk (exec_storeA _ 39 _ _ rfl w13.heap.size 0 (ansA deny) rfl rfl (Try.sizeOf39 _) _ 39 (heap_alloc_new w13 _) (Nat.le_refl _) (ansA_one _)) ?_
          rw [splice_all (ansA zeroAns) (ansA deny) rfl]
          have hSt := HS12.out.new (ansA zeroAns) (ansA deny) 39
          generalize (w13.alloc (.cells (ansA zeroAns) 39)).setRow w13.heap.size (ansA deny) = w14 at hSt ⊢
          generalize w13.heap.size = b23 at hSt ⊢
          have HS13 : Hid (St w [(b23, ansA deny, 39), (b20, ansA aS, 39), (b19, ansA aG, 39), (b18, ansA aW, 39), (b17, ansA deny, 39), (b16, keyA (keyL d 0 p q), 30), (b15, keyA (keyL d i p q), 30), (b14, qryA e d 0 p q, 29), (b13, qryA e d i p q, 29)] w14) := hSt
          clear HS12 hSt
          obtain ⟨bb, off, hao, hblt, hk8, gr⟩ := HROW.out qg hltG
          have HAO : Hid (ao = some ⟨bb, off, none⟩) := hao
          clear hao
          rw [← HRAG.out] at gr
          obtain ⟨kk, hkk⟩ : ∃ x, x = (T.getD qg row0).1 := ⟨_, rfl⟩
          rw [← hkk] at gr hk8
          clear hkk
          have gr2 : HasA w14 bb (off + qg * 19) (rowA kk rG) := gr.below HS13.out.below hblt
          clear gr hblt
          go_wp2_with (refine stop_idx 24 ?_)
          refine go_on ?_
          refine lst_val (.pointer (some ⟨bb, off + qg * 19, none⟩)) (exec_idx w14 24 48 19 _ _ rfl bb off len cap qg Try.underlying24 (Try.sizeOf48 _) (by show Value.slice ao len cap = _; rw [HAO.out]) rfl hltG) ?_
          simp only [List.set_cons_succ, List.set_cons_zero]
          refine lst_val _ (exec_load_at w14 48 _ rfl bb _ rfl (rowA kk rG) (Try.isAgg48 _) (by rw [rowA_size hk8]; exact Try.sizeOf48 _) gr2) ?_
          simp only [List.set_cons_succ, List.set_cons_zero]
          clear gr2
          go_wp2_with fail
          refine (toAnswer_c kk hk8 rG w14).mono ?_
          rintro _ w15 ⟨rfl, hb⟩
          have HS14 : Hid (St w [(b23, ansA deny, 39), (b20, ansA aS, 39), (b19, ansA aG, 39), (b18, ansA aW, 39), (b17, ansA deny, 39), (b16, keyA (keyL d 0 p q), 30), (b15, keyA (keyL d i p q), 30), (b14, qryA e d 0 p q, 29), (b13, qryA e d i p q, 29)] w15) := HS13.out.step hb
          clear HS13 hb
          go_wp2_with (refine stop_store 39 ?_)
          refine go_on ?_
          refine lst_sk (exec_storeA w15 39 _ _ rfl b23 0 (ansA rG) rfl rfl (Try.sizeOf39 _) (ansA deny) 39 (HS14.out.get (by simp)) (Nat.le_refl _) (ansA_one _)) ?_
          rw [splice_all (ansA deny) (ansA rG) rfl]
          have hSt := HS14.out.set (ansA rG)
          generalize w15.setRow b23 (ansA rG) = w16 at hSt ⊢
          have HS15 : Hid (St w [(b23, ansA rG, 39), (b20, ansA aS, 39), (b19, ansA aG, 39), (b18, ansA aW, 39), (b17, ansA deny, 39), (b16, keyA (keyL d 0 p q), 30), (b15, keyA (keyL d i p q), 30), (b14, qryA e d 0 p q, 29), (b13, qryA e d i p q, 29)] w16) := hSt
          clear HS14 hSt
          clear HAO hk8
          go_wp2_with (refine stop_load 39 ?_)
          refine go_on ?_
          refine lst_val _ (exec_load_at w16 39 _ rfl b17 0 rfl (ansA deny) (Try.isAgg39 _) (Try.sizeOf39 _) (HS15.out.has (t := 39) (by simp))) ?_
          simp only [List.set_cons_succ, List.set_cons_zero]
          refine lst_val _ (exec_alloc w16 39 rfl _ (run_zero39 _)) ?_
          simp only [List.set_cons_succ, List.set_cons_zero]
          refine lst_sk (exec_storeA _ 39 _ _ rfl w16.heap.size 0 (ansA deny) rfl rfl (Try.sizeOf39 _) _ 39 (heap_alloc_new w16 _) (Nat.le_refl _) (ansA_one _)) ?_
          rw [splice_all (ansA zeroAns) (ansA deny) rfl]
          have hSt := HS15.out.new (ansA zeroAns) (ansA deny) 39
          generalize (w16.alloc (.cells (ansA zeroAns) 39)).setRow w16.heap.size (ansA deny) = w17 at hSt ⊢
          generalize w16.heap.size = b24 at hSt ⊢
          have HS16 : Hid (St w [(b24, ansA deny, 39), (b23, ansA rG, 39), (b20, ansA aS, 39), (b19, ansA aG, 39), (b18, ansA aW, 39), (b17, ansA deny, 39), (b16, keyA (keyL d 0 p q), 30), (b15, keyA (keyL d i p q), 30), (b14, qryA e d 0 p q, 29), (b13, qryA e d i p q, 29)] w17) := hSt
          clear HS15 hSt
          go_wp2_with (refine stop_load 39 ?_)
          refine go_on ?_
          refine lst_val _ (exec_load_at w17 39 _ rfl b19 0 rfl (ansA aG) (Try.isAgg39 _) (Try.sizeOf39 _) (HS16.out.has (t := 39) (by simp))) ?_
          simp only [List.set_cons_succ, List.set_cons_zero]
          refine lst_val _ (exec_load_at w17 39 _ rfl b23 0 rfl (ansA rG) (Try.isAgg39 _) (Try.sizeOf39 _) (HS16.out.has (t := 39) (by simp))) ?_
          simp only [List.set_cons_succ, List.set_cons_zero]
          obtain ⟨n1, hn1⟩ : ∃ x, x = !decide (aG = rG) := ⟨_, rfl⟩
          refine lst_val (.bool n1) (by rw [hn1]; exact exec_neqans _ 39 (.tmp 94) (.tmp 95) rfl _ _ rfl rfl) ?_
          simp only [List.set_cons_succ, List.set_cons_zero]
          have hn1f : n1 = false := by rw [hn1, decide_eq_true FG.out]; rfl
          clear hn1
          refine lst_val (.bool n1) (exec_move _ (.tmp 96) rfl _ rfl) ?_
          simp only [List.set_cons_succ, List.set_cons_zero]
          refine lst_valg _ (by show (some n1 == some false) = true; rw [hn1f]; rfl) (exec_load_at w17 39 _ rfl b20 0 rfl (ansA aS) (Try.isAgg39 _) (Try.sizeOf39 _) (HS16.out.has (t := 39) (by simp))) ?_
          simp only [List.set_cons_succ, List.set_cons_zero]
          refine lst_valg _ (by show (some n1 == some false) = true; rw [hn1f]; rfl) (exec_load_at w17 39 _ rfl b24 0 rfl (ansA deny) (Try.isAgg39 _) (Try.sizeOf39 _) (HS16.out.has (t := 39) (by simp))) ?_
          simp only [List.set_cons_succ, List.set_cons_zero]
          obtain ⟨n2, hn2⟩ : ∃ x, x = !decide (aS = deny) := ⟨_, rfl⟩
          refine lst_valg (.bool n2) (by show (some n1 == some false) = true; rw [hn1f]; rfl) (by rw [hn2]; exact exec_neqans _ 39 (.tmp 98) (.tmp 99) rfl _ _ rfl rfl) ?_
          simp only [List.set_cons_succ, List.set_cons_zero]
          have hn2f : n2 = false := by rw [hn2, decide_eq_true FS.out]; rfl
          clear hn2
          refine lst_val (.bool n2) (exec_pick _ (.tmp 97) (.const (.bool true)) (.tmp 100) rfl n1 rfl _ (by rw [hn1f]; rfl)) ?_
          simp only [List.set_cons_succ, List.set_cons_zero]
          rw [hn2f, hn1f]
          clear n1 n2 hn1f hn2f
          go_wp2_with (refine stop_load 39 ?_)
          refine go_on ?_
          refine lst_val _ (exec_load_at w17 39 _ rfl b20 0 rfl (ansA aS) (Try.isAgg39 _) (Try.sizeOf39 _) (HS16.out.has (t := 39) (by simp))) ?_
          simp only [List.set_cons_succ, List.set_cons_zero]
          refine lst_val _ (exec_alloc w17 39 rfl _ (run_zero39 _)) ?_
          simp only [List.set_cons_succ, List.set_cons_zero]
          refine lst_sk (exec_storeA _ 39 _ _ rfl w17.heap.size 0 (ansA aS) rfl rfl (Try.sizeOf39 _) _ 39 (heap_alloc_new w17 _) (Nat.le_refl _) (ansA_one _)) ?_
          rw [splice_all (ansA zeroAns) (ansA aS) rfl]
          have hSt := HS16.out.new (ansA zeroAns) (ansA aS) 39
          generalize (w17.alloc (.cells (ansA zeroAns) 39)).setRow w17.heap.size (ansA aS) = w18 at hSt ⊢
          generalize w17.heap.size = b25 at hSt ⊢
          have HS17 : Hid (St w [(b25, ansA aS, 39), (b24, ansA deny, 39), (b23, ansA rG, 39), (b20, ansA aS, 39), (b19, ansA aG, 39), (b18, ansA aW, 39), (b17, ansA deny, 39), (b16, keyA (keyL d 0 p q), 30), (b15, keyA (keyL d i p q), 30), (b14, qryA e d 0 p q, 29), (b13, qryA e d i p q, 29)] w18) := hSt
          clear HS16 hSt
          go_wp2_with (refine stop_binop .lss 3 ?_)
          refine go_on ?_
          obtain ⟨n1, hn1⟩ : ∃ x, x = decide ((-1 : Int) < 0) := ⟨_, rfl⟩
          refine lst_val (.bool n1) (by rw [hn1]; exact exec_bin w18 .lss 3 3 (.tmp 103) (.const (.int .i64 0)) rfl .i64 (-1) _ _ rfl rfl (run_lti _ 3 .i64 _ _)) ?_
          simp only [List.set_cons_succ, List.set_cons_zero]
          have hn1f : n1 = true := by rw [hn1]; rfl
          clear hn1
          refine lst_val (.bool n1) (exec_move _ (.tmp 104) rfl _ rfl) ?_
          simp only [List.set_cons_succ, List.set_cons_zero]
          refine lst_skipg (by show (some n1 == some false) = false; rw [hn1f]; rfl) ?_
          simp only [List.set_cons_succ, List.set_cons_zero]
          refine lst_skipg (by show (some n1 == some false) = false; rw [hn1f]; rfl) ?_
          simp only [List.set_cons_succ, List.set_cons_zero]
          refine lst_skipg (by show (some n1 == some false) = false; rw [hn1f]; rfl) ?_
          simp only [List.set_cons_succ, List.set_cons_zero]
          refine lst_skipg rfl ?_
          simp only [List.set_cons_succ, List.set_cons_zero]
          refine lst_skipg rfl ?_
          simp only [List.set_cons_succ, List.set_cons_zero]
          refine lst_skipg rfl ?_
          simp only [List.set_cons_succ, List.set_cons_zero]
          refine lst_skipg (by show (some n1 == some false) = false; rw [hn1f]; rfl) ?_
          simp only [List.set_cons_succ, List.set_cons_zero]
          refine lst_skipg (by show (some n1 == some false) = false; rw [hn1f]; rfl) ?_
          simp only [List.set_cons_succ, List.set_cons_zero]
          refine lst_skipg rfl ?_
          simp only [List.set_cons_succ, List.set_cons_zero]
          refine lst_skipg rfl ?_
          simp only [List.set_cons_succ, List.set_cons_zero]
          refine lst_skipg rfl ?_
          simp only [List.set_cons_succ, List.set_cons_zero]
          refine lst_skipg (by show (some n1 == some false) = false; rw [hn1f]; rfl) ?_
          simp only [List.set_cons_succ, List.set_cons_zero]
          refine lst_val (.bool n1) (exec_pick _ (.tmp 105) (.const (.bool true)) (.tmp 117) rfl n1 rfl _ (by rw [hn1f]; rfl)) ?_
          simp only [List.set_cons_succ, List.set_cons_zero]
          rw [hn1f]
          clear n1 hn1f
          go_wp2_with (refine stop_load 39 ?_)
          refine go_on ?_
          refine lst_val _ (exec_load_at w18 39 _ rfl b19 0 rfl (ansA aG) (Try.isAgg39 _) (Try.sizeOf39 _) (HS17.out.has (t := 39) (by simp))) ?_
          simp only [List.set_cons_succ, List.set_cons_zero]
          refine lst_sk (exec_storeA w18 39 _ _ rfl b25 0 (ansA aG) rfl rfl (Try.sizeOf39 _) (ansA aS) 39 (HS17.out.get (by simp)) (Nat.le_refl _) (ansA_one _)) ?_
          rw [splice_all (ansA aS) (ansA aG) rfl]
          have hSt := HS17.out.set (ansA aG)
          generalize w18.setRow b25 (ansA aG) = w19 at hSt ⊢
          have HS18 : Hid (St w [(b25, ansA aG, 39), (b24, ansA deny, 39), (b23, ansA rG, 39), (b20, ansA aS, 39), (b19, ansA aG, 39), (b18, ansA aW, 39), (b17, ansA deny, 39), (b16, keyA (keyL d 0 p q), 30), (b15, keyA (keyL d i p q), 30), (b14, qryA e d 0 p q, 29), (b13, qryA e d i p q, 29)] w19) := hSt
          clear HS17 hSt
          go_wp2_with (refine stop_load 39 ?_)
          refine go_on ?_
          refine lst_val _ (exec_load_at w19 39 _ rfl b18 0 rfl (ansA aW) (Try.isAgg39 _) (Try.sizeOf39 _) (HS18.out.has (t := 39) (by simp))) ?_
          simp only [List.set_cons_succ, List.set_cons_zero]
          refine lst_val _ (exec_load_at w19 39 _ rfl b25 0 rfl (ansA aG) (Try.isAgg39 _) (Try.sizeOf39 _) (HS18.out.has (t := 39) (by simp))) ?_
          simp only [List.set_cons_succ, List.set_cons_zero]
          refine lst_val (.bool true) ((exec_eqans _ 39 (.tmp 120) (.tmp 121) rfl aW aG rfl rfl).trans (by rw [decide_eq_true FW.out])) ?_
          simp only [List.set_cons_succ, List.set_cons_zero]
          go_wp2_with fail
          go_ret
          exact ⟨rfl, HS18.out.below⟩
        · skip
          subst hgm
          clear HGI
          have HLRG : Hid (lastRow T (keyL d 0 p q) = none) := hlrG
          clear hlrG
          have FG : Hid (aG = deny) := by
            show aG = deny
            rw [HaG.out, decide_general, HLRG.out]
            rfl
          have FS : Hid (aS = deny) := by
            show aS = deny
            rw [HaS.out, HI0.out, decide_skip0]
          have FW : Hid (aW = aG) := by
            show aW = aG
            rw [HaW.out, HaG.out, HI0.out]
          clear HLRG
          go_wp2_with (refine stop_load 39 ?_)
          refine go_on ?_
          refine lst_val _ (exec_load_at w13 39 _ rfl b17 0 rfl (ansA deny) (Try.isAgg39 _) (Try.sizeOf39 _) (HS12.out.has (t := 39) (by simp))) ?_
          simp only [List.set_cons_succ, List.set_cons_zero]
          refine lst_val _ (exec_alloc w13 39 rfl _ (run_zero39 _)) ?_
          simp only [List.set_cons_succ, List.set_cons_zero]
          refine lst_sk (exec_storeA _ 39 _ _ rfl w13.heap.size 0 (ansA deny) rfl rfl (Try.sizeOf39 _) _ 39 (heap_alloc_new w13 _) (Nat.le_refl _) (ansA_one _)) ?_
          rw [splice_all (ansA zeroAns) (ansA deny) rfl]
          have hSt := HS12.out.new (ansA zeroAns) (ansA deny) 39
          generalize (w13.alloc (.cells (ansA zeroAns) 39)).setRow w13.heap.size (ansA deny) = w14 at hSt ⊢
          generalize w13.heap.size = b23 at hSt ⊢
          have HS19 : Hid (St w [(b23, ansA deny, 39), (b20, ansA aS, 39), (b19, ansA aG, 39), (b18, ansA aW, 39), (b17, ansA deny, 39), (b16, keyA (keyL d 0 p q), 30), (b15, keyA (keyL d i p q), 30), (b14, qryA e d 0 p q, 29), (b13, qryA e d i p q, 29)] w14) := hSt
          clear HS12 hSt
          go_wp2_with (refine stop_load 39 ?_)
          refine go_on ?_
          refine lst_val _ (exec_load_at w14 39 _ rfl b17 0 rfl (ansA deny) (Try.isAgg39 _) (Try.sizeOf39 _) (HS19.out.has (t := 39) (by simp))) ?_
          simp only [List.set_cons_succ, List.set_cons_zero]
          refine lst_val _ (exec_alloc w14 39 rfl _ (run_zero39 _)) ?_
          simp only [List.set_cons_succ, List.set_cons_zero]
          refine lst_sk (exec_storeA _ 39 _ _ rfl w14.heap.size 0 (ansA deny) rfl rfl (Try.sizeOf39 _) _ 39 (heap_alloc_new w14 _) (Nat.le_refl _) (ansA_one _)) ?_
          rw [splice_all (ansA zeroAns) (ansA deny) rfl]
          have hSt := HS19.out.new (ansA zeroAns) (ansA deny) 39
          generalize (w14.alloc (.cells (ansA zeroAns) 39)).setRow w14.heap.size (ansA deny) = w15 at hSt ⊢
          generalize w14.heap.size = b24 at hSt ⊢
          have HS20 : Hid (St w [(b24, ansA deny, 39), (b23, ansA deny, 39), (b20, ansA aS, 39), (b19, ansA aG, 39), (b18, ansA aW, 39), (b17, ansA deny, 39), (b16, keyA (keyL d 0 p q), 30), (b15, keyA (keyL d i p q), 30), (b14, qryA e d 0 p q, 29), (b13, qryA e d i p q, 29)] w15) := hSt
          clear HS19 hSt
          go_wp2_with (refine stop_load 39 ?_)
          refine go_on ?_
          refine lst_val _ (exec_load_at w15 39 _ rfl b19 0 rfl (ansA aG) (Try.isAgg39 _) (Try.sizeOf39 _) (HS20.out.has (t := 39) (by simp))) ?_
          simp only [List.set_cons_succ, List.set_cons_zero]
          refine lst_val _ (exec_load_at w15 39 _ rfl b23 0 rfl (ansA deny) (Try.isAgg39 _) (Try.sizeOf39 _) (HS20.out.has (t := 39) (by simp))) ?_
          simp only [List.set_cons_succ, List.set_cons_zero]
          obtain ⟨n1, hn1⟩ : ∃ x, x = !decide (aG = deny) := ⟨_, rfl⟩
          refine lst_val (.bool n1) (by rw [hn1]; exact exec_neqans _ 39 (.tmp 94) (.tmp 95) rfl _ _ rfl rfl) ?_
          simp only [List.set_cons_succ, List.set_cons_zero]
          have hn1f : n1 = false := by rw [hn1, decide_eq_true FG.out]; rfl
          clear hn1
          refine lst_val (.bool n1) (exec_move _ (.tmp 96) rfl _ rfl) ?_
          simp only [List.set_cons_succ, List.set_cons_zero]
          refine lst_valg _ (by show (some n1 == some false) = true; rw [hn1f]; rfl) (exec_load_at w15 39 _ rfl b20 0 rfl (ansA aS) (Try.isAgg39 _) (Try.sizeOf39 _) (HS20.out.has (t := 39) (by simp))) ?_
          simp only [List.set_cons_succ, List.set_cons_zero]
          refine lst_valg _ (by show (some n1 == some false) = true; rw [hn1f]; rfl) (exec_load_at w15 39 _ rfl b24 0 rfl (ansA deny) (Try.isAgg39 _) (Try.sizeOf39 _) (HS20.out.has (t := 39) (by simp))) ?_
          simp only [List.set_cons_succ, List.set_cons_zero]
          obtain ⟨n2, hn2⟩ : ∃ x, x = !decide (aS = deny) := ⟨_, rfl⟩
          refine lst_valg (.bool n2) (by show (some n1 == some false) = true; rw [hn1f]; rfl) (by rw [hn2]; exact exec_neqans _ 39 (.tmp 98) (.tmp 99) rfl _ _ rfl rfl) ?_
          simp only [List.set_cons_succ, List.set_cons_zero]
          have hn2f : n2 = false := by rw [hn2, decide_eq_true FS.out]; rfl
          clear hn2
          refine lst_val (.bool n2) (exec_pick _ (.tmp 97) (.const (.bool true)) (.tmp 100) rfl n1 rfl _ (by rw [hn1f]; rfl)) ?_
          simp only [List.set_cons_succ, List.set_cons_zero]
          rw [hn2f, hn1f]
          clear n1 n2 hn1f hn2f
          go_wp2_with (refine stop_load 39 ?_)
          refine go_on ?_
          refine lst_val _ (exec_load_at w15 39 _ rfl b20 0 rfl (ansA aS) (Try.isAgg39 _) (Try.sizeOf39 _) (HS20.out.has (t := 39) (by simp))) ?_
          simp only [List.set_cons_succ, List.set_cons_zero]
          refine lst_val _ (exec_alloc w15 39 rfl _ (run_zero39 _)) ?_
          simp only [List.set_cons_succ, List.set_cons_zero]
          refine lst_sk (exec_storeA _ 39 _ _ rfl w15.heap.size 0 (ansA aS) rfl rfl (Try.sizeOf39 _) _ 39 (heap_alloc_new w15 _) (Nat.le_refl _) (ansA_one _)) ?_
          rw [splice_all (ansA zeroAns) (ansA aS) rfl]
          have hSt := HS20.out.new (ansA zeroAns) (ansA aS) 39
          generalize (w15.alloc (.cells (ansA zeroAns) 39)).setRow w15.heap.size (ansA aS) = w16 at hSt ⊢
          generalize w15.heap.size = b25 at hSt ⊢
          have HS21 : Hid (St w [(b25, ansA aS, 39), (b24, ansA deny, 39), (b23, ansA deny, 39), (b20, ansA aS, 39), (b19, ansA aG, 39), (b18, ansA aW, 39), (b17, ansA deny, 39), (b16, keyA (keyL d 0 p q), 30), (b15, keyA (keyL d i p q), 30), (b14, qryA e d 0 p q, 29), (b13, qryA e d i p q, 29)] w16) := hSt
          clear HS20 hSt
          go_wp2_with (refine stop_binop .lss 3 ?_)
          refine go_on ?_
          obtain ⟨n1, hn1⟩ : ∃ x, x = decide ((-1 : Int) < 0) := ⟨_, rfl⟩
          refine lst_val (.bool n1) (by rw [hn1]; exact exec_bin w16 .lss 3 3 (.tmp 103) (.const (.int .i64 0)) rfl .i64 (-1) _ _ rfl rfl (run_lti _ 3 .i64 _ _)) ?_
          simp only [List.set_cons_succ, List.set_cons_zero]
          have hn1f : n1 = true := by rw [hn1]; rfl
          clear hn1
          refine lst_val (.bool n1) (exec_move _ (.tmp 104) rfl _ rfl) ?_
          simp only [List.set_cons_succ, List.set_cons_zero]
          refine lst_skipg (by show (some n1 == some false) = false; rw [hn1f]; rfl) ?_
          simp only [List.set_cons_succ, List.set_cons_zero]
          refine lst_skipg (by show (some n1 == some false) = false; rw [hn1f]; rfl) ?_
          simp only [List.set_cons_succ, List.set_cons_zero]
          refine lst_skipg (by show (some n1 == some false) = false; rw [hn1f]; rfl) ?_
          simp only [List.set_cons_succ, List.set_cons_zero]
          refine lst_skipg rfl ?_
          simp only [List.set_cons_succ, List.set_cons_zero]
          refine lst_skipg rfl ?_
          simp only [List.set_cons_succ, List.set_cons_zero]
          refine lst_skipg rfl ?_
          simp only [List.set_cons_succ, List.set_cons_zero]
          refine lst_skipg (by show (some n1 == some false) = false; rw [hn1f]; rfl) ?_
          simp only [List.set_cons_succ, List.set_cons_zero]
          refine lst_skipg (by show (some n1 == some false) = false; rw [hn1f]; rfl) ?_
          simp only [List.set_cons_succ, List.set_cons_zero]
          refine lst_skipg rfl ?_
          simp only [List.set_cons_succ, List.set_cons_zero]
          refine lst_skipg rfl ?_
          simp only [List.set_cons_succ, List.set_cons_zero]
          refine lst_skipg rfl ?_
          simp only [List.set_cons_succ, List.set_cons_zero]
          refine lst_skipg (by show (some n1 == some false) = false; rw [hn1f]; rfl) ?_
          simp only [List.set_cons_succ, List.set_cons_zero]
          refine lst_val (.bool n1) (exec_pick _ (.tmp 105) (.const (.bool true)) (.tmp 117) rfl n1 rfl _ (by rw [hn1f]; rfl)) ?_
          simp only [List.set_cons_succ, List.set_cons_zero]
          rw [hn1f]
          clear n1 hn1f
          go_wp2_with (refine stop_load 39 ?_)
          refine go_on ?_
          refine lst_val _ (exec_load_at w16 39 _ rfl b19 0 rfl (ansA aG) (Try.isAgg39 _) (Try.sizeOf39 _) (HS21.out.has (t := 39) (by simp))) ?_
          simp only [List.set_cons_succ, List.set_cons_zero]
          refine lst_sk (exec_storeA w16 39 _ _ rfl b25 0 (ansA aG) rfl rfl (Try.sizeOf39 _) (ansA aS) 39 (HS21.out.get (by simp)) (Nat.le_refl _) (ansA_one _)) ?_
          rw [splice_all (ansA aS) (ansA aG) rfl]
          have hSt := HS21.out.set (ansA aG)
          generalize w16.setRow b25 (ansA aG) = w17 at hSt ⊢
          have HS22 : Hid (St w [(b25, ansA aG, 39), (b24, ansA deny, 39), (b23, ansA deny, 39), (b20, ansA aS, 39), (b19, ansA aG, 39), (b18, ansA aW, 39), (b17, ansA deny, 39), (b16, keyA (keyL d 0 p q), 30), (b15, keyA (keyL d i p q), 30), (b14, qryA e d 0 p q, 29), (b13, qryA e d i p q, 29)] w17) := hSt
          clear HS21 hSt
          go_wp2_with (refine stop_load 39 ?_)
          refine go_on ?_
          refine lst_val _ (exec_load_at w17 39 _ rfl b18 0 rfl (ansA aW) (Try.isAgg39 _) (Try.sizeOf39 _) (HS22.out.has (t := 39) (by simp))) ?_
          simp only [List.set_cons_succ, List.set_cons_zero]
          refine lst_val _ (exec_load_at w17 39 _ rfl b25 0 rfl (ansA aG) (Try.isAgg39 _) (Try.sizeOf39 _) (HS22.out.has (t := 39) (by simp))) ?_
          simp only [List.set_cons_succ, List.set_cons_zero]
          refine lst_val (.bool true) ((exec_eqans _ 39 (.tmp 120) (.tmp 121) rfl aW aG rfl rfl).trans (by rw [decide_eq_true FW.out])) ?_
          simp only [List.set_cons_succ, List.set_cons_zero]
          go_wp2_with fail
          go_ret
          exact ⟨rfl, HS22.out.below⟩
      · have hne : (i != 0) = true := by rw [bne_iff_ne]; exact hi0
        have HI0 : Hid (¬ i = 0) := hi0
        clear hi0
        go_wp2_with (refine stop_load 30 ?_)
        refine go_on ?_
        refine lst_val _ (exec_load_at w13 30 _ rfl b15 0 rfl (keyA (keyL d i p q)) (Try.isAgg30 _) (Try.sizeOf30 _) (HS12.out.has (t := 30) (by simp))) ?_
        simp only [List.set_cons_succ, List.set_cons_zero]
        go_wp2_with fail
        refine (HLA.out HLE.out (keyL d i p q) rfl w13 HS12.out.below).mono ?_
        rintro _ w14 ⟨⟨si, rfl, hsi⟩, hb⟩
        have HS23 : Hid (St w [(b20, ansA aS, 39), (b19, ansA aG, 39), (b18, ansA aW, 39), (b17, ansA deny, 39), (b16, keyA (keyL d 0 p q), 30), (b15, keyA (keyL d i p q), 30), (b14, qryA e d 0 p q, 29), (b13, qryA e d i p q, 29)] w14) := HS12.out.step hb
        clear HS12 hb
        have HSI : Hid (LastIs T (keyL d i p q) si) := hsi
        clear hsi
        rcases HGI.out with ⟨qg, hqG, hgq, _, hlrG⟩ | ⟨hgm, hlrG⟩
        · skip
          subst hgq
          clear HGI
          obtain ⟨rG, hrG⟩ : ∃ x, x = (T.getD qg row0).2 := ⟨_, rfl⟩
          rw [← hrG] at hlrG
          have HRAG : Hid (rG = (T.getD qg row0).2) := hrG
          have HLRG : Hid (lastRow T (keyL d 0 p q) = some rG) := hlrG
          have hltG : qg < len := by rw [HL.out]; exact hqG
          clear hrG hlrG hqG
          have h0G : (0 : Int) ≤ (qg : Int) := by omega
          have FG : Hid (aG = rG) := by
            show aG = rG
            rw [HaG.out, decide_general, HLRG.out]
            rfl
          go_wp2_with (refine stop_load 39 ?_)
          refine go_on ?_
          refine lst_val _ (exec_load_at w14 39 _ rfl b17 0 rfl (ansA deny) (Try.isAgg39 _) (Try.sizeOf39 _) (HS23.out.has (t := 39) (by simp))) ?_
          simp only [List.set_cons_succ, List.set_cons_zero]
          refine lst_val _ (exec_alloc w14 39 rfl _ (run_zero39 _)) ?_
          simp only [List.set_cons_succ, List.set_cons_zero]
          refine lst_sk (exec_storeA _ 39 _ _ rfl w14.heap.size 0 (ansA deny) rfl rfl (Try.sizeOf39 _) _ 39 (heap_alloc_new w14 _) (Nat.le_refl _) (ansA_one _)) ?_
          rw [splice_all (ansA zeroAns) (ansA deny) rfl]
          have hSt := HS23.out.new (ansA zeroAns) (ansA deny) 39
          generalize (w14.alloc (.cells (ansA zeroAns) 39)).setRow w14.heap.size (ansA deny) = w15 at hSt ⊢
          generalize w14.heap.size = b23 at hSt ⊢
          have HS24 : Hid (St w [(b23, ansA deny, 39), (b20, ansA aS, 39), (b19, ansA aG, 39), (b18, ansA aW, 39), (b17, ansA deny, 39), (b16, keyA (keyL d 0 p q), 30), (b15, keyA (keyL d i p q), 30), (b14, qryA e d 0 p q, 29), (b13, qryA e d i p q, 29)] w15) := hSt
          clear HS23 hSt
          obtain ⟨bb, off, hao, hblt, hk8, gr⟩ := HROW.out qg hltG
          have HAO : Hid (ao = some ⟨bb, off, none⟩) := hao
          clear hao
          rw [← HRAG.out] at gr
          obtain ⟨kk, hkk⟩ : ∃ x, x = (T.getD qg row0).1 := ⟨_, rfl⟩
          rw [← hkk] at gr hk8
          clear hkk
          have gr2 : HasA w15 bb (off + qg * 19) (rowA kk rG) := gr.below HS24.out.below hblt
          clear gr hblt
          go_wp2_with (refine stop_idx 24 ?_)
          refine go_on ?_
          refine lst_val (.pointer (some ⟨bb, off + qg * 19, none⟩)) (exec_idx w15 24 48 19 _ _ rfl bb off len cap qg Try.underlying24 (Try.sizeOf48 _) (by show Value.slice ao len cap = _; rw [HAO.out]) rfl hltG) ?_
          simp only [List.set_cons_succ, List.set_cons_zero]
          refine lst_val _ (exec_load_at w15 48 _ rfl bb _ rfl (rowA kk rG) (Try.isAgg48 _) (by rw [rowA_size hk8]; exact Try.sizeOf48 _) gr2) ?_
          simp only [List.set_cons_succ, List.set_cons_zero]
          clear gr2
          go_wp2_with fail
          refine (toAnswer_c kk hk8 rG w15).mono ?_
          rintro _ w16 ⟨rfl, hb⟩
          have HS25 : Hid (St w [(b23, ansA deny, 39), (b20, ansA aS, 39), (b19, ansA aG, 39), (b18, ansA aW, 39), (b17, ansA deny, 39), (b16, keyA (keyL d 0 p q), 30), (b15, keyA (keyL d i p q), 30), (b14, qryA e d 0 p q, 29), (b13, qryA e d i p q, 29)] w16) := HS24.out.step hb
          clear HS24 hb
          go_wp2_with (refine stop_store 39 ?_)
          refine go_on ?_
          refine lst_sk (exec_storeA w16 39 _ _ rfl b23 0 (ansA rG) rfl rfl (Try.sizeOf39 _) (ansA deny) 39 (HS25.out.get (by simp)) (Nat.le_refl _) (ansA_one _)) ?_
          rw [splice_all (ansA deny) (ansA rG) rfl]
          have hSt := HS25.out.set (ansA rG)
          generalize w16.setRow b23 (ansA rG) = w17 at hSt ⊢
          have HS26 : Hid (St w [(b23, ansA rG, 39), (b20, ansA aS, 39), (b19, ansA aG, 39), (b18, ansA aW, 39), (b17, ansA deny, 39), (b16, keyA (keyL d 0 p q), 30), (b15, keyA (keyL d i p q), 30), (b14, qryA e d 0 p q, 29), (b13, qryA e d i p q, 29)] w17) := hSt
          clear HS25 hSt
          clear HAO hk8
          go_wp2_with (refine stop_load 39 ?_)
          refine go_on ?_
          refine lst_val _ (exec_load_at w17 39 _ rfl b17 0 rfl (ansA deny) (Try.isAgg39 _) (Try.sizeOf39 _) (HS26.out.has (t := 39) (by simp))) ?_
          simp only [List.set_cons_succ, List.set_cons_zero]
          refine lst_val _ (exec_alloc w17 39 rfl _ (run_zero39 _)) ?_
          simp only [List.set_cons_succ, List.set_cons_zero]
          refine lst_sk (exec_storeA _ 39 _ _ rfl w17.heap.size 0 (ansA deny) rfl rfl (Try.sizeOf39 _) _ 39 (heap_alloc_new w17 _) (Nat.le_refl _) (ansA_one _)) ?_
          rw [splice_all (ansA zeroAns) (ansA deny) rfl]
          have hSt := HS26.out.new (ansA zeroAns) (ansA deny) 39
          generalize (w17.alloc (.cells (ansA zeroAns) 39)).setRow w17.heap.size (ansA deny) = w18 at hSt ⊢
          generalize w17.heap.size = b24 at hSt ⊢
          have HS27 : Hid (St w [(b24, ansA deny, 39), (b23, ansA rG, 39), (b20, ansA aS, 39), (b19, ansA aG, 39), (b18, ansA aW, 39), (b17, ansA deny, 39), (b16, keyA (keyL d 0 p q), 30), (b15, keyA (keyL d i p q), 30), (b14, qryA e d 0 p q, 29), (b13, qryA e d i p q, 29)] w18) := hSt
          clear HS26 hSt
          rcases HSI.out with ⟨qs, hqS, hsq, _, hlrS⟩ | ⟨hsm, hlrS⟩
          · skip
            subst hsq
            clear HSI
            obtain ⟨rS, hrS⟩ : ∃ x, x = (T.getD qs row0).2 := ⟨_, rfl⟩
            rw [← hrS] at hlrS
            have HRAS : Hid (rS = (T.getD qs row0).2) := hrS
            have HLRS : Hid (lastRow T (keyL d i p q) = some rS) := hlrS
            have hltS : qs < len := by rw [HL.out]; exact hqS
            clear hrS hlrS hqS
            have h0S : (0 : Int) ≤ (qs : Int) := by omega
            have FS : Hid (aS = rS) := by
              show aS = rS
              rw [HaS.out, decide_skip T d i p q hi hi1 HI0.out, HLRS.out]
              rfl
            have FJ : Hid (aW = joinA (some rS) (some rG)) := by
              show aW = joinA (some rS) (some rG)
              rw [HaW.out, decide_whole T _ d i p q HI0.out, HLRS.out, HLRG.out]
            by_cases hv0 : aG.v = 0
            · have FV0 : Hid (aG.v = 0) := hv0
              clear hv0
              by_cases hv1 : aS.v = 1
              · have FV1 : Hid (aS.v = 1) := hv1
                clear hv1
                have FW : Hid (aW = aG) := by
                  show aW = aG
                  have hj : aW = if rS.v = 1 ∧ rG.v = 0 then rG else rS := FJ.out
                  rw [hj, if_pos ⟨by rw [← FS.out]; exact FV1.out, by rw [← FG.out]; exact FV0.out⟩, FG.out]
                clear FJ HLRG HLRS
                obtain ⟨bb, off, hao, hblt, hk8, gr⟩ := HROW.out qs hltS
                have HAO : Hid (ao = some ⟨bb, off, none⟩) := hao
                clear hao
                rw [← HRAS.out] at gr
                obtain ⟨kk, hkk⟩ : ∃ x, x = (T.getD qs row0).1 := ⟨_, rfl⟩
                rw [← hkk] at gr hk8
                clear hkk
                have gr2 : HasA w18 bb (off + qs * 19) (rowA kk rS) := gr.below HS27.out.below hblt
                clear gr hblt
                go_wp2_with (refine stop_idx 24 ?_)
                refine go_on ?_
                refine lst_val (.pointer (some ⟨bb, off + qs * 19, none⟩)) (exec_idx w18 24 48 19 _ _ rfl bb off len cap qs Try.underlying24 (Try.sizeOf48 _) (by show Value.slice ao len cap = _; rw [HAO.out]) rfl hltS) ?_
                simp only [List.set_cons_succ, List.set_cons_zero]
                refine lst_val _ (exec_load_at w18 48 _ rfl bb _ rfl (rowA kk rS) (Try.isAgg48 _) (by rw [rowA_size hk8]; exact Try.sizeOf48 _) gr2) ?_
                simp only [List.set_cons_succ, List.set_cons_zero]
                clear gr2
                go_wp2_with fail
                refine (toAnswer_c kk hk8 rS w18).mono ?_
                rintro _ w19 ⟨rfl, hb⟩
                have HS28 : Hid (St w [(b24, ansA deny, 39), (b23, ansA rG, 39), (b20, ansA aS, 39), (b19, ansA aG, 39), (b18, ansA aW, 39), (b17, ansA deny, 39), (b16, keyA (keyL d 0 p q), 30), (b15, keyA (keyL d i p q), 30), (b14, qryA e d 0 p q, 29), (b13, qryA e d i p q, 29)] w19) := HS27.out.step hb
                clear HS27 hb
                go_wp2_with (refine stop_store 39 ?_)
                refine go_on ?_
                refine lst_sk (exec_storeA w19 39 _ _ rfl b24 0 (ansA rS) rfl rfl (Try.sizeOf39 _) (ansA deny) 39 (HS28.out.get (by simp)) (Nat.le_refl _) (ansA_one _)) ?_
                rw [splice_all (ansA deny) (ansA rS) rfl]
                have hSt := HS28.out.set (ansA rS)
                generalize w19.setRow b24 (ansA rS) = w20 at hSt ⊢
                have HS29 : Hid (St w [(b24, ansA rS, 39), (b23, ansA rG, 39), (b20, ansA aS, 39), (b19, ansA aG, 39), (b18, ansA aW, 39), (b17, ansA deny, 39), (b16, keyA (keyL d 0 p q), 30), (b15, keyA (keyL d i p q), 30), (b14, qryA e d 0 p q, 29), (b13, qryA e d i p q, 29)] w20) := hSt
                clear HS28 hSt
                clear HAO hk8
                go_wp2_with (refine stop_load 39 ?_)
                refine go_on ?_
                refine lst_val _ (exec_load_at w20 39 _ rfl b19 0 rfl (ansA aG) (Try.isAgg39 _) (Try.sizeOf39 _) (HS29.out.has (t := 39) (by simp))) ?_
                simp only [List.set_cons_succ, List.set_cons_zero]
                refine lst_val _ (exec_load_at w20 39 _ rfl b23 0 rfl (ansA rG) (Try.isAgg39 _) (Try.sizeOf39 _) (HS29.out.has (t := 39) (by simp))) ?_
                simp only [List.set_cons_succ, List.set_cons_zero]
                obtain ⟨n1, hn1⟩ : ∃ x, x = !decide (aG = rG) := ⟨_, rfl⟩
                refine lst_val (.bool n1) (by rw [hn1]; exact exec_neqans _ 39 (.tmp 94) (.tmp 95) rfl _ _ rfl rfl) ?_
                simp only [List.set_cons_succ, List.set_cons_zero]
                have hn1f : n1 = false := by rw [hn1, decide_eq_true FG.out]; rfl
                clear hn1
                refine lst_val (.bool n1) (exec_move _ (.tmp 96) rfl _ rfl) ?_
                simp only [List.set_cons_succ, List.set_cons_zero]
                refine lst_valg _ (by show (some n1 == some false) = true; rw [hn1f]; rfl) (exec_load_at w20 39 _ rfl b20 0 rfl (ansA aS) (Try.isAgg39 _) (Try.sizeOf39 _) (HS29.out.has (t := 39) (by simp))) ?_
                simp only [List.set_cons_succ, List.set_cons_zero]
                refine lst_valg _ (by show (some n1 == some false) = true; rw [hn1f]; rfl) (exec_load_at w20 39 _ rfl b24 0 rfl (ansA rS) (Try.isAgg39 _) (Try.sizeOf39 _) (HS29.out.has (t := 39) (by simp))) ?_
                simp only [List.set_cons_succ, List.set_cons_zero]
                obtain ⟨n2, hn2⟩ : ∃ x, x = !decide (aS = rS) := ⟨_, rfl⟩
                refine lst_valg (.bool n2) (by show (some n1 == some false) = true; rw [hn1f]; rfl) (by rw [hn2]; exact exec_neqans _ 39 (.tmp 98) (.tmp 99) rfl _ _ rfl rfl) ?_
                simp only [List.set_cons_succ, List.set_cons_zero]
                have hn2f : n2 = false := by rw [hn2, decide_eq_true FS.out]; rfl
                clear hn2
                refine lst_val (.bool n2) (exec_pick _ (.tmp 97) (.const (.bool true)) (.tmp 100) rfl n1 rfl _ (by rw [hn1f]; rfl)) ?_
                simp only [List.set_cons_succ, List.set_cons_zero]
                rw [hn2f, hn1f]
                clear n1 n2 hn1f hn2f
                go_wp2_with (refine stop_load 39 ?_)
                refine go_on ?_
                refine lst_val _ (exec_load_at w20 39 _ rfl b20 0 rfl (ansA aS) (Try.isAgg39 _) (Try.sizeOf39 _) (HS29.out.has (t := 39) (by simp))) ?_
                simp only [List.set_cons_succ, List.set_cons_zero]
                refine lst_val _ (exec_alloc w20 39 rfl _ (run_zero39 _)) ?_
                simp only [List.set_cons_succ, List.set_cons_zero]
                refine lst_sk (exec_storeA _ 39 _ _ rfl w20.heap.size 0 (ansA aS) rfl rfl (Try.sizeOf39 _) _ 39 (heap_alloc_new w20 _) (Nat.le_refl _) (ansA_one _)) ?_
                rw [splice_all (ansA zeroAns) (ansA aS) rfl]
                have hSt := HS29.out.new (ansA zeroAns) (ansA aS) 39
                generalize (w20.alloc (.cells (ansA zeroAns) 39)).setRow w20.heap.size (ansA aS) = w21 at hSt ⊢
                generalize w20.heap.size = b25 at hSt ⊢
                have HS30 : Hid (St w [(b25, ansA aS, 39), (b24, ansA rS, 39), (b23, ansA rG, 39), (b20, ansA aS, 39), (b19, ansA aG, 39), (b18, ansA aW, 39), (b17, ansA deny, 39), (b16, keyA (keyL d 0 p q), 30), (b15, keyA (keyL d i p q), 30), (b14, qryA e d 0 p q, 29), (b13, qryA e d i p q, 29)] w21) := hSt
                clear HS29 hSt
                go_wp2_with (refine stop_binop .lss 3 ?_)
                refine go_on ?_
                obtain ⟨n1, hn1⟩ : ∃ x, x = decide (((qs : Int) : Int) < 0) := ⟨_, rfl⟩
                refine lst_val (.bool n1) (by rw [hn1]; exact exec_bin w21 .lss 3 3 (.tmp 103) (.const (.int .i64 0)) rfl .i64 ((qs : Int)) _ _ rfl rfl (run_lti _ 3 .i64 _ _)) ?_
                simp only [List.set_cons_succ, List.set_cons_zero]
                have hn1f : n1 = false := by rw [hn1]; exact decide_eq_false (by omega)
                clear hn1
                refine lst_val (.bool n1) (exec_move _ (.tmp 104) rfl _ rfl) ?_
                simp only [List.set_cons_succ, List.set_cons_zero]
                refine lst_valg (.int .i64 ((qg : Int))) (by show (some n1 == some false) = true; rw [hn1f]; rfl) (exec_move _ (.tmp 21) rfl _ rfl) ?_
                simp only [List.set_cons_succ, List.set_cons_zero]
                obtain ⟨n2, hn2⟩ : ∃ x, x = decide ((0 : Int) ≤ (qg : Int)) := ⟨_, rfl⟩
                refine lst_valg (.bool n2) (by show (some n1 == some false) = true; rw [hn1f]; rfl) (by rw [hn2]; exact exec_bin w21 .geq 3 3 (.tmp 106) (.const (.int .i64 0)) rfl .i64 ((qg : Int)) _ _ rfl rfl (run_gei _ 3 .i64 _ _)) ?_
                simp only [List.set_cons_succ, List.set_cons_zero]
                have hn2f : n2 = true := by rw [hn2]; exact decide_eq_true (by omega)
                clear hn2
                refine lst_valg (.bool n2) (by show (some n1 == some false) = true; rw [hn1f]; rfl) (exec_move _ (.tmp 107) rfl _ rfl) ?_
                simp only [List.set_cons_succ, List.set_cons_zero]
                refine lst_valg (.pointer (some ⟨b19, 0, none⟩)) (by show (some n2 == some true) = true; rw [hn2f]; rfl) (exec_field w21 39 _ 0 rfl ⟨b19, 0, none⟩ rfl _ (by simp [go_sem])) ?_
                simp only [List.set_cons_succ, List.set_cons_zero]
                refine lst_valg (.int .u8 aG.v) (by show (some n2 == some true) = true; rw [hn2f]; rfl) (exec_load1 w21 32 _ rfl ⟨b19, 0, none⟩ _ rfl (Try.isAgg32 _) (HS30.out.spot (b := b19) (cs := ansA aG) (t := 39) (by simp) 0)) ?_
                simp only [List.set_cons_succ, List.set_cons_zero]
                obtain ⟨n3, hn3⟩ : ∃ x, x = (aG.v == 0) := ⟨_, rfl⟩
                refine lst_valg (.bool n3) (by show (some n2 == some true) = true; rw [hn2f]; rfl) (by rw [hn3]; exact exec_bin w21 .eql 32 32 (.tmp 110) (.const (.int .u8 0)) rfl .u8 aG.v _ _ rfl rfl (run_eqi _ 32 .u8 _ _)) ?_
                simp only [List.set_cons_succ, List.set_cons_zero]
                refine lst_valg (.bool n3) (by show (some n1 == some false) = true; rw [hn1f]; rfl) (exec_pick _ (.tmp 108) (.tmp 111) (.const (.bool false)) rfl n2 rfl _ (by rw [hn2f]; rfl)) ?_
                simp only [List.set_cons_succ, List.set_cons_zero]
                refine lst_valg (.bool n3) (by show (some n1 == some false) = true; rw [hn1f]; rfl) (exec_move _ (.tmp 112) rfl _ rfl) ?_
                simp only [List.set_cons_succ, List.set_cons_zero]
                have hn3f : n3 = true := by rw [hn3, beq_iff_eq]; exact FV0.out
                clear hn3
                refine lst_valg (.pointer (some ⟨b20, 0, none⟩)) (by show (some n3 == some true) = true; rw [hn3f]; rfl) (exec_field w21 39 _ 0 rfl ⟨b20, 0, none⟩ rfl _ (by simp [go_sem])) ?_
                simp only [List.set_cons_succ, List.set_cons_zero]
                refine lst_valg (.int .u8 aS.v) (by show (some n3 == some true) = true; rw [hn3f]; rfl) (exec_load1 w21 32 _ rfl ⟨b20, 0, none⟩ _ rfl (Try.isAgg32 _) (HS30.out.spot (b := b20) (cs := ansA aS) (t := 39) (by simp) 0)) ?_
                simp only [List.set_cons_succ, List.set_cons_zero]
                obtain ⟨n4, hn4⟩ : ∃ x, x = (aS.v == 1) := ⟨_, rfl⟩
                refine lst_valg (.bool n4) (by show (some n3 == some true) = true; rw [hn3f]; rfl) (by rw [hn4]; exact exec_bin w21 .eql 32 32 (.tmp 115) (.const (.int .u8 1)) rfl .u8 aS.v _ _ rfl rfl (run_eqi _ 32 .u8 _ _)) ?_
                simp only [List.set_cons_succ, List.set_cons_zero]
                refine lst_valg (.bool n4) (by show (some n1 == some false) = true; rw [hn1f]; rfl) (exec_pick _ (.tmp 113) (.tmp 116) (.const (.bool false)) rfl n3 rfl _ (by rw [hn3f]; rfl)) ?_
                simp only [List.set_cons_succ, List.set_cons_zero]
                refine lst_val (.bool n4) (exec_pick _ (.tmp 105) (.const (.bool true)) (.tmp 117) rfl n1 rfl _ (by rw [hn1f]; rfl)) ?_
                simp only [List.set_cons_succ, List.set_cons_zero]
                have hn4f : n4 = true := by rw [hn4, beq_iff_eq]; exact FV1.out
                clear hn4
                rw [hn4f, hn3f, hn2f, hn1f]
                clear n1 n2 n3 n4 hn1f hn2f hn3f hn4f
                go_wp2_with (refine stop_load 39 ?_)
                refine go_on ?_
                refine lst_val _ (exec_load_at w21 39 _ rfl b19 0 rfl (ansA aG) (Try.isAgg39 _) (Try.sizeOf39 _) (HS30.out.has (t := 39) (by simp))) ?_
                simp only [List.set_cons_succ, List.set_cons_zero]
                refine lst_sk (exec_storeA w21 39 _ _ rfl b25 0 (ansA aG) rfl rfl (Try.sizeOf39 _) (ansA aS) 39 (HS30.out.get (by simp)) (Nat.le_refl _) (ansA_one _)) ?_
                rw [splice_all (ansA aS) (ansA aG) rfl]
                have hSt := HS30.out.set (ansA aG)
                generalize w21.setRow b25 (ansA aG) = w22 at hSt ⊢
                have HS31 : Hid (St w [(b25, ansA aG, 39), (b24, ansA rS, 39), (b23, ansA rG, 39), (b20, ansA aS, 39), (b19, ansA aG, 39), (b18, ansA aW, 39), (b17, ansA deny, 39), (b16, keyA (keyL d 0 p q), 30), (b15, keyA (keyL d i p q), 30), (b14, qryA e d 0 p q, 29), (b13, qryA e d i p q, 29)] w22) := hSt
                clear HS30 hSt
                go_wp2_with (refine stop_load 39 ?_)
                refine go_on ?_
                refine lst_val _ (exec_load_at w22 39 _ rfl b18 0 rfl (ansA aW) (Try.isAgg39 _) (Try.sizeOf39 _) (HS31.out.has (t := 39) (by simp))) ?_
                simp only [List.set_cons_succ, List.set_cons_zero]
                refine lst_val _ (exec_load_at w22 39 _ rfl b25 0 rfl (ansA aG) (Try.isAgg39 _) (Try.sizeOf39 _) (HS31.out.has (t := 39) (by simp))) ?_
                simp only [List.set_cons_succ, List.set_cons_zero]
                refine lst_val (.bool true) ((exec_eqans _ 39 (.tmp 120) (.tmp 121) rfl aW aG rfl rfl).trans (by rw [decide_eq_true FW.out])) ?_
                simp only [List.set_cons_succ, List.set_cons_zero]
                go_wp2_with fail
                go_ret
                exact ⟨rfl, HS31.out.below⟩
              · have FV1 : Hid (¬ aS.v = 1) := hv1
                clear hv1
                have FW : Hid (aW = aS) := by
                  show aW = aS
                  have hj : aW = if rS.v = 1 ∧ rG.v = 0 then rG else rS := FJ.out
                  rw [hj, if_neg (fun h => FV1.out (by rw [FS.out]; exact h.1)), FS.out]
                clear FJ HLRG HLRS
                obtain ⟨bb, off, hao, hblt, hk8, gr⟩ := HROW.out qs hltS
                have HAO : Hid (ao = some ⟨bb, off, none⟩) := hao
                clear hao
                rw [← HRAS.out] at gr
                obtain ⟨kk, hkk⟩ : ∃ x, x = (T.getD qs row0).1 := ⟨_, rfl⟩
                rw [← hkk] at gr hk8
                clear hkk
                have gr2 : HasA w18 bb (off + qs * 19) (rowA kk rS) := gr.below HS27.out.below hblt
                clear gr hblt
                go_wp2_with (refine stop_idx 24 ?_)
                refine go_on ?_
                refine lst_val (.pointer (some ⟨bb, off + qs * 19, none⟩)) (exec_idx w18 24 48 19 _ _ rfl bb off len cap qs Try.underlying24 (Try.sizeOf48 _) (by show Value.slice ao len cap = _; rw [HAO.out]) rfl hltS) ?_
                simp only [List.set_cons_succ, List.set_cons_zero]
                refine lst_val _ (exec_load_at w18 48 _ rfl bb _ rfl (rowA kk rS) (Try.isAgg48 _) (by rw [rowA_size hk8]; exact Try.sizeOf48 _) gr2) ?_
                simp only [List.set_cons_succ, List.set_cons_zero]
                clear gr2
                go_wp2_with fail
                refine (toAnswer_c kk hk8 rS w18).mono ?_
                rintro _ w19 ⟨rfl, hb⟩
                have HS32 : Hid (St w [(b24, ansA deny, 39), (b23, ansA rG, 39), (b20, ansA aS, 39), (b19, ansA aG, 39), (b18, ansA aW, 39), (b17, ansA deny, 39), (b16, keyA (keyL d 0 p q), 30), (b15, keyA (keyL d i p q), 30), (b14, qryA e d 0 p q, 29), (b13, qryA e d i p q, 29)] w19) := HS27.out.step hb
                clear HS27 hb
                go_wp2_with (refine stop_store 39 ?_)
                refine go_on ?_
                refine lst_sk (exec_storeA w19 39 _ _ rfl b24 0 (ansA rS) rfl rfl (Try.sizeOf39 _) (ansA deny) 39 (HS32.out.get (by simp)) (Nat.le_refl _) (ansA_one _)) ?_
                rw [splice_all (ansA deny) (ansA rS) rfl]
                have hSt := HS32.out.set (ansA rS)
                generalize w19.setRow b24 (ansA rS) = w20 at hSt ⊢
                have HS33 : Hid (St w [(b24, ansA rS, 39), (b23, ansA rG, 39), (b20, ansA aS, 39), (b19, ansA aG, 39), (b18, ansA aW, 39), (b17, ansA deny, 39), (b16, keyA (keyL d 0 p q), 30), (b15, keyA (keyL d i p q), 30), (b14, qryA e d 0 p q, 29), (b13, qryA e d i p q, 29)] w20) := hSt
                clear HS32 hSt
                clear HAO hk8
                go_wp2_with (refine stop_load 39 ?_)
                refine go_on ?_
                refine lst_val _ (exec_load_at w20 39 _ rfl b19 0 rfl (ansA aG) (Try.isAgg39 _) (Try.sizeOf39 _) (HS33.out.has (t := 39) (by simp))) ?_
                simp only [List.set_cons_succ, List.set_cons_zero]
                refine lst_val _ (exec_load_at w20 39 _ rfl b23 0 rfl (ansA rG) (Try.isAgg39 _) (Try.sizeOf39 _) (HS33.out.has (t := 39) (by simp))) ?_
                simp only [List.set_cons_succ, List.set_cons_zero]
                obtain ⟨n1, hn1⟩ : ∃ x, x = !decide (aG = rG) := ⟨_, rfl⟩
                refine lst_val (.bool n1) (by rw [hn1]; exact exec_neqans _ 39 (.tmp 94) (.tmp 95) rfl _ _ rfl rfl) ?_
                simp only [List.set_cons_succ, List.set_cons_zero]
                have hn1f : n1 = false := by rw [hn1, decide_eq_true FG.out]; rfl
                clear hn1
                refine lst_val (.bool n1) (exec_move _ (.tmp 96) rfl _ rfl) ?_
                simp only [List.set_cons_succ, List.set_cons_zero]
                refine lst_valg _ (by show (some n1 == some false) = true; rw [hn1f]; rfl) (exec_load_at w20 39 _ rfl b20 0 rfl (ansA aS) (Try.isAgg39 _) (Try.sizeOf39 _) (HS33.out.has (t := 39) (by simp))) ?_
                simp only [List.set_cons_succ, List.set_cons_zero]
                refine lst_valg _ (by show (some n1 == some false) = true; rw [hn1f]; rfl) (exec_load_at w20 39 _ rfl b24 0 rfl (ansA rS) (Try.isAgg39 _) (Try.sizeOf39 _) (HS33.out.has (t := 39) (by simp))) ?_
                simp only [List.set_cons_succ, List.set_cons_zero]
                obtain ⟨n2, hn2⟩ : ∃ x, x = !decide (aS = rS) := ⟨_, rfl⟩
                refine lst_valg (.bool n2) (by show (some n1 == some false) = true; rw [hn1f]; rfl) (by rw [hn2]; exact exec_neqans _ 39 (.tmp 98) (.tmp 99) rfl _ _ rfl rfl) ?_
                simp only [List.set_cons_succ, List.set_cons_zero]
                have hn2f : n2 = false := by rw [hn2, decide_eq_true FS.out]; rfl
                clear hn2
                refine lst_val (.bool n2) (exec_pick _ (.tmp 97) (.const (.bool true)) (.tmp 100) rfl n1 rfl _ (by rw [hn1f]; rfl)) ?_
                simp only [List.set_cons_succ, List.set_cons_zero]
                rw [hn2f, hn1f]
                clear n1 n2 hn1f hn2f
                go_wp2_with (refine stop_load 39 ?_)
                refine go_on ?_
                refine lst_val _ (exec_load_at w20 39 _ rfl b20 0 rfl (ansA aS) (Try.isAgg39 _) (Try.sizeOf39 _) (HS33.out.has (t := 39) (by simp))) ?_
                simp only [List.set_cons_succ, List.set_cons_zero]
                refine lst_val _ (exec_alloc w20 39 rfl _ (run_zero39 _)) ?_
                simp only [List.set_cons_succ, List.set_cons_zero]
                refine lst_sk (exec_storeA _ 39 _ _ rfl w20.heap.size 0 (ansA aS) rfl rfl (Try.sizeOf39 _) _ 39 (heap_alloc_new w20 _) (Nat.le_refl _) (ansA_one _)) ?_
                rw [splice_all (ansA zeroAns) (ansA aS) rfl]
                have hSt := HS33.out.new (ansA zeroAns) (ansA aS) 39
                generalize (w20.alloc (.cells (ansA zeroAns) 39)).setRow w20.heap.size (ansA aS) = w21 at hSt ⊢
                generalize w20.heap.size = b25 at hSt ⊢
                have HS34 : Hid (St w [(b25, ansA aS, 39), (b24, ansA rS, 39), (b23, ansA rG, 39), (b20, ansA aS, 39), (b19, ansA aG, 39), (b18, ansA aW, 39), (b17, ansA deny, 39), (b16, keyA (keyL d 0 p q), 30), (b15, keyA (keyL d i p q), 30), (b14, qryA e d 0 p q, 29), (b13, qryA e d i p q, 29)] w21) := hSt
                clear HS33 hSt
                go_wp2_with (refine stop_binop .lss 3 ?_)
                refine go_on ?_
                obtain ⟨n1, hn1⟩ : ∃ x, x = decide (((qs : Int) : Int) < 0) := ⟨_, rfl⟩
                refine lst_val (.bool n1) (by rw [hn1]; exact exec_bin w21 .lss 3 3 (.tmp 103) (.const (.int .i64 0)) rfl .i64 ((qs : Int)) _ _ rfl rfl (run_lti _ 3 .i64 _ _)) ?_
                simp only [List.set_cons_succ, List.set_cons_zero]
                have hn1f : n1 = false := by rw [hn1]; exact decide_eq_false (by omega)
                clear hn1
                refine lst_val (.bool n1) (exec_move _ (.tmp 104) rfl _ rfl) ?_
                simp only [List.set_cons_succ, List.set_cons_zero]
                refine lst_valg (.int .i64 ((qg : Int))) (by show (some n1 == some false) = true; rw [hn1f]; rfl) (exec_move _ (.tmp 21) rfl _ rfl) ?_
                simp only [List.set_cons_succ, List.set_cons_zero]
                obtain ⟨n2, hn2⟩ : ∃ x, x = decide ((0 : Int) ≤ (qg : Int)) := ⟨_, rfl⟩
                refine lst_valg (.bool n2) (by show (some n1 == some false) = true; rw [hn1f]; rfl) (by rw [hn2]; exact exec_bin w21 .geq 3 3 (.tmp 106) (.const (.int .i64 0)) rfl .i64 ((qg : Int)) _ _ rfl rfl (run_gei _ 3 .i64 _ _)) ?_
                simp only [List.set_cons_succ, List.set_cons_zero]
                have hn2f : n2 = true := by rw [hn2]; exact decide_eq_true (by omega)
                clear hn2
                refine lst_valg (.bool n2) (by show (some n1 == some false) = true; rw [hn1f]; rfl) (exec_move _ (.tmp 107) rfl _ rfl) ?_
                simp only [List.set_cons_succ, List.set_cons_zero]
                refine lst_valg (.pointer (some ⟨b19, 0, none⟩)) (by show (some n2 == some true) = true; rw [hn2f]; rfl) (exec_field w21 39 _ 0 rfl ⟨b19, 0, none⟩ rfl _ (by simp [go_sem])) ?_
                simp only [List.set_cons_succ, List.set_cons_zero]
                refine lst_valg (.int .u8 aG.v) (by show (some n2 == some true) = true; rw [hn2f]; rfl) (exec_load1 w21 32 _ rfl ⟨b19, 0, none⟩ _ rfl (Try.isAgg32 _) (HS34.out.spot (b := b19) (cs := ansA aG) (t := 39) (by simp) 0)) ?_
                simp only [List.set_cons_succ, List.set_cons_zero]
                obtain ⟨n3, hn3⟩ : ∃ x, x = (aG.v == 0) := ⟨_, rfl⟩
                refine lst_valg (.bool n3) (by show (some n2 == some true) = true; rw [hn2f]; rfl) (by rw [hn3]; exact exec_bin w21 .eql 32 32 (.tmp 110) (.const (.int .u8 0)) rfl .u8 aG.v _ _ rfl rfl (run_eqi _ 32 .u8 _ _)) ?_
                simp only [List.set_cons_succ, List.set_cons_zero]
                refine lst_valg (.bool n3) (by show (some n1 == some false) = true; rw [hn1f]; rfl) (exec_pick _ (.tmp 108) (.tmp 111) (.const (.bool false)) rfl n2 rfl _ (by rw [hn2f]; rfl)) ?_
                simp only [List.set_cons_succ, List.set_cons_zero]
                refine lst_valg (.bool n3) (by show (some n1 == some false) = true; rw [hn1f]; rfl) (exec_move _ (.tmp 112) rfl _ rfl) ?_
                simp only [List.set_cons_succ, List.set_cons_zero]
                have hn3f : n3 = true := by rw [hn3, beq_iff_eq]; exact FV0.out
                clear hn3
                refine lst_valg (.pointer (some ⟨b20, 0, none⟩)) (by show (some n3 == some true) = true; rw [hn3f]; rfl) (exec_field w21 39 _ 0 rfl ⟨b20, 0, none⟩ rfl _ (by simp [go_sem])) ?_
                simp only [List.set_cons_succ, List.set_cons_zero]
                refine lst_valg (.int .u8 aS.v) (by show (some n3 == some true) = true; rw [hn3f]; rfl) (exec_load1 w21 32 _ rfl ⟨b20, 0, none⟩ _ rfl (Try.isAgg32 _) (HS34.out.spot (b := b20) (cs := ansA aS) (t := 39) (by simp) 0)) ?_
                simp only [List.set_cons_succ, List.set_cons_zero]
                obtain ⟨n4, hn4⟩ : ∃ x, x = (aS.v == 1) := ⟨_, rfl⟩
                refine lst_valg (.bool n4) (by show (some n3 == some true) = true; rw [hn3f]; rfl) (by rw [hn4]; exact exec_bin w21 .eql 32 32 (.tmp 115) (.const (.int .u8 1)) rfl .u8 aS.v _ _ rfl rfl (run_eqi _ 32 .u8 _ _)) ?_
                simp only [List.set_cons_succ, List.set_cons_zero]
                refine lst_valg (.bool n4) (by show (some n1 == some false) = true; rw [hn1f]; rfl) (exec_pick _ (.tmp 113) (.tmp 116) (.const (.bool false)) rfl n3 rfl _ (by rw [hn3f]; rfl)) ?_
                simp only [List.set_cons_succ, List.set_cons_zero]
                refine lst_val (.bool n4) (exec_pick _ (.tmp 105) (.const (.bool true)) (.tmp 117) rfl n1 rfl _ (by rw [hn1f]; rfl)) ?_
                simp only [List.set_cons_succ, List.set_cons_zero]
                have hn4f : n4 = false := by rw [hn4, beq_eq_false_iff_ne]; exact FV1.out
                clear hn4
                rw [hn4f, hn3f, hn2f, hn1f]
                clear n1 n2 n3 n4 hn1f hn2f hn3f hn4f
                go_wp2_with (refine stop_load 39 ?_)
                refine go_on ?_
                refine lst_val _ (exec_load_at w21 39 _ rfl b18 0 rfl (ansA aW) (Try.isAgg39 _) (Try.sizeOf39 _) (HS34.out.has (t := 39) (by simp))) ?_
                simp only [List.set_cons_succ, List.set_cons_zero]
                refine lst_val _ (exec_load_at w21 39 _ rfl b25 0 rfl (ansA aS) (Try.isAgg39 _) (Try.sizeOf39 _) (HS34.out.has (t := 39) (by simp))) ?_
                simp only [List.set_cons_succ, List.set_cons_zero]
                refine lst_val (.bool true) ((exec_eqans _ 39 (.tmp 120) (.tmp 121) rfl aW aS rfl rfl).trans (by rw [decide_eq_true FW.out])) ?_
                simp only [List.set_cons_succ, List.set_cons_zero]
                go_wp2_with fail
                go_ret
                exact ⟨rfl, HS34.out.below⟩
            · have FV0 : Hid (¬ aG.v = 0) := hv0
              clear hv0
              have FW : Hid (aW = aS) := by
                show aW = aS
                have hj : aW = if rS.v = 1 ∧ rG.v = 0 then rG else rS := FJ.out
                rw [hj, if_neg (fun h => FV0.out (by rw [FG.out]; exact h.2)), FS.out]
              clear FJ HLRG HLRS
              obtain ⟨bb, off, hao, hblt, hk8, gr⟩ := HROW.out qs hltS
              have HAO : Hid (ao = some ⟨bb, off, none⟩) := hao
              clear hao
              rw [← HRAS.out] at gr
              obtain ⟨kk, hkk⟩ : ∃ x, x = (T.getD qs row0).1 := ⟨_, rfl⟩
              rw [← hkk] at gr hk8
              clear hkk
              have gr2 : HasA w18 bb (off + qs * 19) (rowA kk rS) := gr.below HS27.out.below hblt
              clear gr hblt
              go_wp2_with (refine stop_idx 24 ?_)
              refine go_on ?_
              refine lst_val (.pointer (some ⟨bb, off + qs * 19, none⟩)) (exec_idx w18 24 48 19 _ _ rfl bb off len cap qs Try.underlying24 (Try.sizeOf48 _) (by show Value.slice ao len cap = _; rw [HAO.out]) rfl hltS) ?_
              simp only [List.set_cons_succ, List.set_cons_zero]
              refine lst_val _ (exec_load_at w18 48 _ rfl bb _ rfl (rowA kk rS) (Try.isAgg48 _) (by rw [rowA_size hk8]; exact Try.sizeOf48 _) gr2) ?_
              simp only [List.set_cons_succ, List.set_cons_zero]
              clear gr2
              go_wp2_with fail
              refine (toAnswer_c kk hk8 rS w18).mono ?_
              rintro _ w19 ⟨rfl, hb⟩
              have HS35 : Hid (St w [(b24, ansA deny, 39), (b23, ansA rG, 39), (b20, ansA aS, 39), (b19, ansA aG, 39), (b18, ansA aW, 39), (b17, ansA deny, 39), (b16, keyA (keyL d 0 p q), 30), (b15, keyA (keyL d i p q), 30), (b14, qryA e d 0 p q, 29), (b13, qryA e d i p q, 29)] w19) := HS27.out.step hb
              clear HS27 hb
              go_wp2_with (refine stop_store 39 ?_)
              refine go_on ?_
              refine lst_sk (exec_storeA w19 39 _ _ rfl b24 0 (ansA rS) rfl rfl (Try.sizeOf39 _) (ansA deny) 39 (HS35.out.get (by simp)) (Nat.le_refl _) (ansA_one _)) ?_
              rw [splice_all (ansA deny) (ansA rS) rfl]
              have hSt := HS35.out.set (ansA rS)
              generalize w19.setRow b24 (ansA rS) = w20 at hSt ⊢
              have HS36 : Hid (St w [(b24, ansA rS, 39), (b23, ansA rG, 39), (b20, ansA aS, 39), (b19, ansA aG, 39), (b18, ansA aW, 39), (b17, ansA deny, 39), (b16, keyA (keyL d 0 p q), 30), (b15, keyA (keyL d i p q), 30), (b14, qryA e d 0 p q, 29), (b13, qryA e d i p q, 29)] w20) := hSt
              clear HS35 hSt
              clear HAO hk8
              go_wp2_with (refine stop_load 39 ?_)
              refine go_on ?_
              refine lst_val _ (exec_load_at w20 39 _ rfl b19 0 rfl (ansA aG) (Try.isAgg39 _) (Try.sizeOf39 _) (HS36.out.has (t := 39) (by simp))) ?_
              simp only [List.set_cons_succ, List.set_cons_zero]
              refine lst_val _ (exec_load_at w20 39 _ rfl b23 0 rfl (ansA rG) (Try.isAgg39 _) (Try.sizeOf39 _) (HS36.out.has (t := 39) (by simp))) ?_
              simp only [List.set_cons_succ, List.set_cons_zero]
              obtain ⟨n1, hn1⟩ : ∃ x, x = !decide (aG = rG) := ⟨_, rfl⟩
              refine lst_val (.bool n1) (by rw [hn1]; exact exec_neqans _ 39 (.tmp 94) (.tmp 95) rfl _ _ rfl rfl) ?_
              simp only [List.set_cons_succ, List.set_cons_zero]
              have hn1f : n1 = false := by rw [hn1, decide_eq_true FG.out]; rfl
              clear hn1
              refine lst_val (.bool n1) (exec_move _ (.tmp 96) rfl _ rfl) ?_
              simp only [List.set_cons_succ, List.set_cons_zero]
              refine lst_valg _ (by show (some n1 == some false) = true; rw [hn1f]; rfl) (exec_load_at w20 39 _ rfl b20 0 rfl (ansA aS) (Try.isAgg39 _) (Try.sizeOf39 _) (HS36.out.has (t := 39) (by simp))) ?_
              simp only [List.set_cons_succ, List.set_cons_zero]
              refine lst_valg _ (by show (some n1 == some false) = true; rw [hn1f]; rfl) (exec_load_at w20 39 _ rfl b24 0 rfl (ansA rS) (Try.isAgg39 _) (Try.sizeOf39 _) (HS36.out.has (t := 39) (by simp))) ?_
              simp only [List.set_cons_succ, List.set_cons_zero]
              obtain ⟨n2, hn2⟩ : ∃ x, x = !decide (aS = rS) := ⟨_, rfl⟩
              refine lst_valg (.bool n2) (by show (some n1 == some false) = true; rw [hn1f]; rfl) (by rw [hn2]; exact exec_neqans _ 39 (.tmp 98) (.tmp 99) rfl _ _ rfl rfl) ?_
              simp only [List.set_cons_succ, List.set_cons_zero]
              have hn2f : n2 = false := by rw [hn2, decide_eq_true FS.out]; rfl
              clear hn2
              refine lst_val (.bool n2) (exec_pick _ (.tmp 97) (.const (.bool true)) (.tmp 100) rfl n1 rfl _ (by rw [hn1f]; rfl)) ?_
              simp only [List.set_cons_succ, List.set_cons_zero]
              rw [hn2f, hn1f]
              clear n1 n2 hn1f hn2f
              go_wp2_with (refine stop_load 39 ?_)
              refine go_on ?_
              refine lst_val _ (exec_load_at w20 39 _ rfl b20 0 rfl (ansA aS) (Try.isAgg39 _) (Try.sizeOf39 _) (HS36.out.has (t := 39) (by simp))) ?_
              simp only [List.set_cons_succ, List.set_cons_zero]
              refine lst_val _ (exec_alloc w20 39 rfl _ (run_zero39 _)) ?_
              simp only [List.set_cons_succ, List.set_cons_zero]
              refine lst_sk (exec_storeA _ 39 _ _ rfl w20.heap.size 0 (ansA aS) rfl rfl (Try.sizeOf39 _) _ 39 (heap_alloc_new w20 _) (Nat.le_refl _) (ansA_one _)) ?_
              rw [splice_all (ansA zeroAns) (ansA aS) rfl]
              have hSt := HS36.out.new (ansA zeroAns) (ansA aS) 39
              generalize (w20.alloc (.cells (ansA zeroAns) 39)).setRow w20.heap.size (ansA aS) = w21 at hSt ⊢
              generalize w20.heap.size = b25 at hSt ⊢
              have HS37 : Hid (St w [(b25, ansA aS, 39), (b24, ansA rS, 39), (b23, ansA rG, 39), (b20, ansA aS, 39), (b19, ansA aG, 39), (b18, ansA aW, 39), (b17, ansA deny, 39), (b16, keyA (keyL d 0 p q), 30), (b15, keyA (keyL d i p q), 30), (b14, qryA e d 0 p q, 29), (b13, qryA e d i p q, 29)] w21) := hSt
              clear HS36 hSt
              go_wp2_with (refine stop_binop .lss 3 ?_)
              refine go_on ?_
              obtain ⟨n1, hn1⟩ : ∃ x, x = decide (((qs : Int) : Int) < 0) := ⟨_, rfl⟩
              refine lst_val (.bool n1) (by rw [hn1]; exact exec_bin w21 .lss 3 3 (.tmp 103) (.const (.int .i64 0)) rfl .i64 ((qs : Int)) _ _ rfl rfl (run_lti _ 3 .i64 _ _)) ?_
              simp only [List.set_cons_succ, List.set_cons_zero]
              have hn1f : n1 = false := by rw [hn1]; exact decide_eq_false (by omega)
              clear hn1
              refine lst_val (.bool n1) (exec_move _ (.tmp 104) rfl _ rfl) ?_
              simp only [List.set_cons_succ, List.set_cons_zero]
              refine lst_valg (.int .i64 ((qg : Int))) (by show (some n1 == some false) = true; rw [hn1f]; rfl) (exec_move _ (.tmp 21) rfl _ rfl) ?_
              simp only [List.set_cons_succ, List.set_cons_zero]
              obtain ⟨n2, hn2⟩ : ∃ x, x = decide ((0 : Int) ≤ (qg : Int)) := ⟨_, rfl⟩
              refine lst_valg (.bool n2) (by show (some n1 == some false) = true; rw [hn1f]; rfl) (by rw [hn2]; exact exec_bin w21 .geq 3 3 (.tmp 106) (.const (.int .i64 0)) rfl .i64 ((qg : Int)) _ _ rfl rfl (run_gei _ 3 .i64 _ _)) ?_
              simp only [List.set_cons_succ, List.set_cons_zero]
              have hn2f : n2 = true := by rw [hn2]; exact decide_eq_true (by omega)
              clear hn2
              refine lst_valg (.bool n2) (by show (some n1 == some false) = true; rw [hn1f]; rfl) (exec_move _ (.tmp 107) rfl _ rfl) ?_
              simp only [List.set_cons_succ, List.set_cons_zero]
              refine lst_valg (.pointer (some ⟨b19, 0, none⟩)) (by show (some n2 == some true) = true; rw [hn2f]; rfl) (exec_field w21 39 _ 0 rfl ⟨b19, 0, none⟩ rfl _ (by simp [go_sem])) ?_
              simp only [List.set_cons_succ, List.set_cons_zero]
              refine lst_valg (.int .u8 aG.v) (by show (some n2 == some true) = true; rw [hn2f]; rfl) (exec_load1 w21 32 _ rfl ⟨b19, 0, none⟩ _ rfl (Try.isAgg32 _) (HS37.out.spot (b := b19) (cs := ansA aG) (t := 39) (by simp) 0)) ?_
              simp only [List.set_cons_succ, List.set_cons_zero]
              obtain ⟨n3, hn3⟩ : ∃ x, x = (aG.v == 0) := ⟨_, rfl⟩
              refine lst_valg (.bool n3) (by show (some n2 == some true) = true; rw [hn2f]; rfl) (by rw [hn3]; exact exec_bin w21 .eql 32 32 (.tmp 110) (.const (.int .u8 0)) rfl .u8 aG.v _ _ rfl rfl (run_eqi _ 32 .u8 _ _)) ?_
              simp only [List.set_cons_succ, List.set_cons_zero]
              refine lst_valg (.bool n3) (by show (some n1 == some false) = true; rw [hn1f]; rfl) (exec_pick _ (.tmp 108) (.tmp 111) (.const (.bool false)) rfl n2 rfl _ (by rw [hn2f]; rfl)) ?_
              simp only [List.set_cons_succ, List.set_cons_zero]
              refine lst_valg (.bool n3) (by show (some n1 == some false) = true; rw [hn1f]; rfl) (exec_move _ (.tmp 112) rfl _ rfl) ?_
              simp only [List.set_cons_succ, List.set_cons_zero]
              have hn3f : n3 = false := by rw [hn3, beq_eq_false_iff_ne]; exact FV0.out
              clear hn3
              refine lst_skipg (by show (some n3 == some true) = false; rw [hn3f]; rfl) ?_
              simp only [List.set_cons_succ, List.set_cons_zero]
              refine lst_skipg (by show (some n3 == some true) = false; rw [hn3f]; rfl) ?_
              simp only [List.set_cons_succ, List.set_cons_zero]
              refine lst_skipg (by show (some n3 == some true) = false; rw [hn3f]; rfl) ?_
              simp only [List.set_cons_succ, List.set_cons_zero]
              refine lst_valg (.bool n3) (by show (some n1 == some false) = true; rw [hn1f]; rfl) (exec_pick _ (.tmp 113) (.tmp 116) (.const (.bool false)) rfl n3 rfl _ (by rw [hn3f]; rfl)) ?_
              simp only [List.set_cons_succ, List.set_cons_zero]
              refine lst_val (.bool n3) (exec_pick _ (.tmp 105) (.const (.bool true)) (.tmp 117) rfl n1 rfl _ (by rw [hn1f]; rfl)) ?_
              simp only [List.set_cons_succ, List.set_cons_zero]
              rw [hn3f, hn2f, hn1f]
              clear n1 n2 n3 hn1f hn2f hn3f
              go_wp2_with (refine stop_load 39 ?_)
              refine go_on ?_
              refine lst_val _ (exec_load_at w21 39 _ rfl b18 0 rfl (ansA aW) (Try.isAgg39 _) (Try.sizeOf39 _) (HS37.out.has (t := 39) (by simp))) ?_
              simp only [List.set_cons_succ, List.set_cons_zero]
              refine lst_val _ (exec_load_at w21 39 _ rfl b25 0 rfl (ansA aS) (Try.isAgg39 _) (Try.sizeOf39 _) (HS37.out.has (t := 39) (by simp))) ?_
              simp only [List.set_cons_succ, List.set_cons_zero]
              refine lst_val (.bool true) ((exec_eqans _ 39 (.tmp 120) (.tmp 121) rfl aW aS rfl rfl).trans (by rw [decide_eq_true FW.out])) ?_
              simp only [List.set_cons_succ, List.set_cons_zero]
              go_wp2_with fail
              go_ret
              exact ⟨rfl, HS37.out.below⟩
          · skip
            subst hsm
            clear HSI
            have HLRS : Hid (lastRow T (keyL d i p q) = none) := hlrS
            clear hlrS
            have FS : Hid (aS = deny) := by
              show aS = deny
              rw [HaS.out, decide_skip T d i p q hi hi1 HI0.out, HLRS.out]
              rfl
            have FJ : Hid (aW = joinA (none) (some rG)) := by
              show aW = joinA (none) (some rG)
              rw [HaW.out, decide_whole T _ d i p q HI0.out, HLRS.out, HLRG.out]
            have FW : Hid (aW = aG) := by
              show aW = aG
              rw [FG.out]
              exact FJ.out
            clear FJ HLRG HLRS
            go_wp2_with (refine stop_load 39 ?_)
            refine go_on ?_
            refine lst_val _ (exec_load_at w18 39 _ rfl b19 0 rfl (ansA aG) (Try.isAgg39 _) (Try.sizeOf39 _) (HS27.out.has (t := 39) (by simp))) ?_
            simp only [List.set_cons_succ, List.set_cons_zero]
            refine lst_val _ (exec_load_at w18 39 _ rfl b23 0 rfl (ansA rG) (Try.isAgg39 _) (Try.sizeOf39 _) (HS27.out.has (t := 39) (by simp))) ?_
            simp only [List.set_cons_succ, List.set_cons_zero]
            obtain ⟨n1, hn1⟩ : ∃ x, x = !decide (aG = rG) := ⟨_, rfl⟩
            refine lst_val (.bool n1) (by rw [hn1]; exact exec_neqans _ 39 (.tmp 94) (.tmp 95) rfl _ _ rfl rfl) ?_
            simp only [List.set_cons_succ, List.set_cons_zero]
            have hn1f : n1 = false := by rw [hn1, decide_eq_true FG.out]; rfl
            clear hn1
            refine lst_val (.bool n1) (exec_move _ (.tmp 96) rfl _ rfl) ?_
            simp only [List.set_cons_succ, List.set_cons_zero]
            refine lst_valg _ (by show (some n1 == some false) = true; rw [hn1f]; rfl) (exec_load_at w18 39 _ rfl b20 0 rfl (ansA aS) (Try.isAgg39 _) (Try.sizeOf39 _) (HS27.out.has (t := 39) (by simp))) ?_
            simp only [List.set_cons_succ, List.set_cons_zero]
            refine lst_valg _ (by show (some n1 == some false) = true; rw [hn1f]; rfl) (exec_load_at w18 39 _ rfl b24 0 rfl (ansA deny) (Try.isAgg39 _) (Try.sizeOf39 _) (HS27.out.has (t := 39) (by simp))) ?_
            simp only [List.set_cons_succ, List.set_cons_zero]
            obtain ⟨n2, hn2⟩ : ∃ x, x = !decide (aS = deny) := ⟨_, rfl⟩
            refine lst_valg (.bool n2) (by show (some n1 == some false) = true; rw [hn1f]; rfl) (by rw [hn2]; exact exec_neqans _ 39 (.tmp 98) (.tmp 99) rfl _ _ rfl rfl) ?_
            simp only [List.set_cons_succ, List.set_cons_zero]
            have hn2f : n2 = false := by rw [hn2, decide_eq_true FS.out]; rfl
            clear hn2
            refine lst_val (.bool n2) (exec_pick _ (.tmp 97) (.const (.bool true)) (.tmp 100) rfl n1 rfl _ (by rw [hn1f]; rfl)) ?_
            simp only [List.set_cons_succ, List.set_cons_zero]
            rw [hn2f, hn1f]
            clear n1 n2 hn1f hn2f
            go_wp2_with (refine stop_load 39 ?_)
            refine go_on ?_
            refine lst_val _ (exec_load_at w18 39 _ rfl b20 0 rfl (ansA aS) (Try.isAgg39 _) (Try.sizeOf39 _) (HS27.out.has (t := 39) (by simp))) ?_
            simp only [List.set_cons_succ, List.set_cons_zero]
            refine lst_val _ (exec_alloc w18 39 rfl _ (run_zero39 _)) ?_
            simp only [List.set_cons_succ, List.set_cons_zero]
            refine lst_sk (exec_storeA _ 39 _ _ rfl w18.heap.size 0 (ansA aS) rfl rfl (Try.sizeOf39 _) _ 39 (heap_alloc_new w18 _) (Nat.le_refl _) (ansA_one _)) ?_
            rw [splice_all (ansA zeroAns) (ansA aS) rfl]
            have hSt := HS27.out.new (ansA zeroAns) (ansA aS) 39
            generalize (w18.alloc (.cells (ansA zeroAns) 39)).setRow w18.heap.size (ansA aS) = w19 at hSt ⊢
            generalize w18.heap.size = b25 at hSt ⊢
            have HS38 : Hid (St w [(b25, ansA aS, 39), (b24, ansA deny, 39), (b23, ansA rG, 39), (b20, ansA aS, 39), (b19, ansA aG, 39), (b18, ansA aW, 39), (b17, ansA deny, 39), (b16, keyA (keyL d 0 p q), 30), (b15, keyA (keyL d i p q), 30), (b14, qryA e d 0 p q, 29), (b13, qryA e d i p q, 29)] w19) := hSt
            clear HS27 hSt
            go_wp2_with (refine stop_binop .lss 3 ?_)
            refine go_on ?_
            obtain ⟨n1, hn1⟩ : ∃ x, x = decide ((-1 : Int) < 0) := ⟨_, rfl⟩
            refine lst_val (.bool n1) (by rw [hn1]; exact exec_bin w19 .lss 3 3 (.tmp 103) (.const (.int .i64 0)) rfl .i64 (-1) _ _ rfl rfl (run_lti _ 3 .i64 _ _)) ?_
            simp only [List.set_cons_succ, List.set_cons_zero]
            have hn1f : n1 = true := by rw [hn1]; rfl
            clear hn1
            refine lst_val (.bool n1) (exec_move _ (.tmp 104) rfl _ rfl) ?_
            simp only [List.set_cons_succ, List.set_cons_zero]
            refine lst_skipg (by show (some n1 == some false) = false; rw [hn1f]; rfl) ?_
            simp only [List.set_cons_succ, List.set_cons_zero]
            refine lst_skipg (by show (some n1 == some false) = false; rw [hn1f]; rfl) ?_
            simp only [List.set_cons_succ, List.set_cons_zero]
            refine lst_skipg (by show (some n1 == some false) = false; rw [hn1f]; rfl) ?_
            simp only [List.set_cons_succ, List.set_cons_zero]
            refine lst_skipg rfl ?_
            simp only [List.set_cons_succ, List.set_cons_zero]
            refine lst_skipg rfl ?_
            simp only [List.set_cons_succ, List.set_cons_zero]
            refine lst_skipg rfl ?_
            simp only [List.set_cons_succ, List.set_cons_zero]
            refine lst_skipg (by show (some n1 == some false) = false; rw [hn1f]; rfl) ?_
            simp only [List.set_cons_succ, List.set_cons_zero]
            refine lst_skipg (by show (some n1 == some false) = false; rw [hn1f]; rfl) ?_
            simp only [List.set_cons_succ, List.set_cons_zero]
            refine lst_skipg rfl ?_
            simp only [List.set_cons_succ, List.set_cons_zero]
            refine lst_skipg rfl ?_
            simp only [List.set_cons_succ, List.set_cons_zero]
            refine lst_skipg rfl ?_
            simp only [List.set_cons_succ, List.set_cons_zero]
            refine lst_skipg (by show (some n1 == some false) = false; rw [hn1f]; rfl) ?_
            simp only [List.set_cons_succ, List.set_cons_zero]
            refine lst_val (.bool n1) (exec_pick _ (.tmp 105) (.const (.bool true)) (.tmp 117) rfl n1 rfl _ (by rw [hn1f]; rfl)) ?_
            simp only [List.set_cons_succ, List.set_cons_zero]
            rw [hn1f]
            clear n1 hn1f
            go_wp2_with (refine stop_load 39 ?_)
            refine go_on ?_
            refine lst_val _ (exec_load_at w19 39 _ rfl b19 0 rfl (ansA aG) (Try.isAgg39 _) (Try.sizeOf39 _) (HS38.out.has (t := 39) (by simp))) ?_
            simp only [List.set_cons_succ, List.set_cons_zero]
            refine lst_sk (exec_storeA w19 39 _ _ rfl b25 0 (ansA aG) rfl rfl (Try.sizeOf39 _) (ansA aS) 39 (HS38.out.get (by simp)) (Nat.le_refl _) (ansA_one _)) ?_
            rw [splice_all (ansA aS) (ansA aG) rfl]
            have hSt := HS38.out.set (ansA aG)
            generalize w19.setRow b25 (ansA aG) = w20 at hSt ⊢
            have HS39 : Hid (St w [(b25, ansA aG, 39), (b24, ansA deny, 39), (b23, ansA rG, 39), (b20, ansA aS, 39), (b19, ansA aG, 39), (b18, ansA aW, 39), (b17, ansA deny, 39), (b16, keyA (keyL d 0 p q), 30), (b15, keyA (keyL d i p q), 30), (b14, qryA e d 0 p q, 29), (b13, qryA e d i p q, 29)] w20) := hSt
            clear HS38 hSt
            go_wp2_with (refine stop_load 39 ?_)
            refine go_on ?_
            refine lst_val _ (exec_load_at w20 39 _ rfl b18 0 rfl (ansA aW) (Try.isAgg39 _) (Try.sizeOf39 _) (HS39.out.has (t := 39) (by simp))) ?_
            simp only [List.set_cons_succ, List.set_cons_zero]
            refine lst_val _ (exec_load_at w20 39 _ rfl b25 0 rfl (ansA aG) (Try.isAgg39 _) (Try.sizeOf39 _) (HS39.out.has (t := 39) (by simp))) ?_
            simp only [List.set_cons_succ, List.set_cons_zero]
            refine lst_val (.bool true) ((exec_eqans _ 39 (.tmp 120) (.tmp 121) rfl aW aG rfl rfl).trans (by rw [decide_eq_true FW.out])) ?_
            simp only [List.set_cons_succ, List.set_cons_zero]
            go_wp2_with fail
            go_ret
            exact ⟨rfl, HS39.out.below⟩
        · skip
          subst hgm
          clear HGI
          have HLRG : Hid (lastRow T (keyL d 0 p q) = none) := hlrG
          clear hlrG
          have FG : Hid (aG = deny) := by
            show aG = deny
            rw [HaG.out, decide_general, HLRG.out]
            rfl
          go_wp2_with (refine stop_load 39 ?_)
          refine go_on ?_
          refine lst_val _ (exec_load_at w14 39 _ rfl b17 0 rfl (ansA deny) (Try.isAgg39 _) (Try.sizeOf39 _) (HS23.out.has (t := 39) (by simp))) ?_
          simp only [List.set_cons_succ, List.set_cons_zero]
          refine lst_val _ (exec_alloc w14 39 rfl _ (run_zero39 _)) ?_
          simp only [List.set_cons_succ, List.set_cons_zero]
          refine lst_sk (exec_storeA _ 39 _ _ rfl w14.heap.size 0 (ansA deny) rfl rfl (Try.sizeOf39 _) _ 39 (heap_alloc_new w14 _) (Nat.le_refl _) (ansA_one _)) ?_
          rw [splice_all (ansA zeroAns) (ansA deny) rfl]
          have hSt := HS23.out.new (ansA zeroAns) (ansA deny) 39
          generalize (w14.alloc (.cells (ansA zeroAns) 39)).setRow w14.heap.size (ansA deny) = w15 at hSt ⊢
          generalize w14.heap.size = b23 at hSt ⊢
          have HS40 : Hid (St w [(b23, ansA deny, 39), (b20, ansA aS, 39), (b19, ansA aG, 39), (b18, ansA aW, 39), (b17, ansA deny, 39), (b16, keyA (keyL d 0 p q), 30), (b15, keyA (keyL d i p q), 30), (b14, qryA e d 0 p q, 29), (b13, qryA e d i p q, 29)] w15) := hSt
          clear HS23 hSt
          go_wp2_with (refine stop_load 39 ?_)
          refine go_on ?_
          refine lst_val _ (exec_load_at w15 39 _ rfl b17 0 rfl (ansA deny) (Try.isAgg39 _) (Try.sizeOf39 _) (HS40.out.has (t := 39) (by simp))) ?_
          simp only [List.set_cons_succ, List.set_cons_zero]
          refine lst_val _ (exec_alloc w15 39 rfl _ (run_zero39 _)) ?_
          simp only [List.set_cons_succ, List.set_cons_zero]
          refine lst_sk (exec_storeA _ 39 _ _ rfl w15.heap.size 0 (ansA deny) rfl rfl (Try.sizeOf39 _) _ 39 (heap_alloc_new w15 _) (Nat.le_refl _) (ansA_one _)) ?_
          rw [splice_all (ansA zeroAns) (ansA deny) rfl]
          have hSt := HS40.out.new (ansA zeroAns) (ansA deny) 39
          generalize (w15.alloc (.cells (ansA zeroAns) 39)).setRow w15.heap.size (ansA deny) = w16 at hSt ⊢
          generalize w15.heap.size = b24 at hSt ⊢
          have HS41 : Hid (St w [(b24, ansA deny, 39), (b23, ansA deny, 39), (b20, ansA aS, 39), (b19, ansA aG, 39), (b18, ansA aW, 39), (b17, ansA deny, 39), (b16, keyA (keyL d 0 p q), 30), (b15, keyA (keyL d i p q), 30), (b14, qryA e d 0 p q, 29), (b13, qryA e d i p q, 29)] w16) := hSt
          clear HS40 hSt
          rcases HSI.out with ⟨qs, hqS, hsq, _, hlrS⟩ | ⟨hsm, hlrS⟩
          · skip
            subst hsq
            clear HSI
            obtain ⟨rS, hrS⟩ : ∃ x, x = (T.getD qs row0).2 := ⟨_, rfl⟩
            rw [← hrS] at hlrS
            have HRAS : Hid (rS = (T.getD qs row0).2) := hrS
            have HLRS : Hid (lastRow T (keyL d i p q) = some rS) := hlrS
            have hltS : qs < len := by rw [HL.out]; exact hqS
            clear hrS hlrS hqS
            have h0S : (0 : Int) ≤ (qs : Int) := by omega
            have FS : Hid (aS = rS) := by
              show aS = rS
              rw [HaS.out, decide_skip T d i p q hi hi1 HI0.out, HLRS.out]
              rfl
            have FJ : Hid (aW = joinA (some rS) (none)) := by
              show aW = joinA (some rS) (none)
              rw [HaW.out, decide_whole T _ d i p q HI0.out, HLRS.out, HLRG.out]
            have FW : Hid (aW = aS) := by
              show aW = aS
              rw [FS.out]
              exact FJ.out
            clear FJ HLRG HLRS
            obtain ⟨bb, off, hao, hblt, hk8, gr⟩ := HROW.out qs hltS
            have HAO : Hid (ao = some ⟨bb, off, none⟩) := hao
            clear hao
            rw [← HRAS.out] at gr
            obtain ⟨kk, hkk⟩ : ∃ x, x = (T.getD qs row0).1 := ⟨_, rfl⟩
            rw [← hkk] at gr hk8
            clear hkk
            have gr2 : HasA w16 bb (off + qs * 19) (rowA kk rS) := gr.below HS41.out.below hblt
            clear gr hblt
            go_wp2_with (refine stop_idx 24 ?_)
            refine go_on ?_
            refine lst_val (.pointer (some ⟨bb, off + qs * 19, none⟩)) (exec_idx w16 24 48 19 _ _ rfl bb off len cap qs Try.underlying24 (Try.sizeOf48 _) (by show Value.slice ao len cap = _; rw [HAO.out]) rfl hltS) ?_
            simp only [List.set_cons_succ, List.set_cons_zero]
            refine lst_val _ (exec_load_at w16 48 _ rfl bb _ rfl (rowA kk rS) (Try.isAgg48 _) (by rw [rowA_size hk8]; exact Try.sizeOf48 _) gr2) ?_
            simp only [List.set_cons_succ, List.set_cons_zero]
            clear gr2
            go_wp2_with fail
            refine (toAnswer_c kk hk8 rS w16).mono ?_
            rintro _ w17 ⟨rfl, hb⟩
            have HS42 : Hid (St w [(b24, ansA deny, 39), (b23, ansA deny, 39), (b20, ansA aS, 39), (b19, ansA aG, 39), (b18, ansA aW, 39), (b17, ansA deny, 39), (b16, keyA (keyL d 0 p q), 30), (b15, keyA (keyL d i p q), 30), (b14, qryA e d 0 p q, 29), (b13, qryA e d i p q, 29)] w17) := HS41.out.step hb
            clear HS41 hb
            go_wp2_with (refine stop_store 39 ?_)
            refine go_on ?_
            refine lst_sk (exec_storeA w17 39 _ _ rfl b24 0 (ansA rS) rfl rfl (Try.sizeOf39 _) (ansA deny) 39 (HS42.out.get (by simp)) (Nat.le_refl _) (ansA_one _)) ?_
            rw [splice_all (ansA deny) (ansA rS) rfl]
            have hSt := HS42.out.set (ansA rS)
            generalize w17.setRow b24 (ansA rS) = w18 at hSt ⊢
            have HS43 : Hid (St w [(b24, ansA rS, 39), (b23, ansA deny, 39), (b20, ansA aS, 39), (b19, ansA aG, 39), (b18, ansA aW, 39), (b17, ansA deny, 39), (b16, keyA (keyL d 0 p q), 30), (b15, keyA (keyL d i p q), 30), (b14, qryA e d 0 p q, 29), (b13, qryA e d i p q, 29)] w18) := hSt
            clear HS42 hSt
            clear HAO hk8
            go_wp2_with (refine stop_load 39 ?_)
            refine go_on ?_
            refine lst_val _ (exec_load_at w18 39 _ rfl b19 0 rfl (ansA aG) (Try.isAgg39 _) (Try.sizeOf39 _) (HS43.out.has (t := 39) (by simp))) ?_
            simp only [List.set_cons_succ, List.set_cons_zero]
            refine lst_val _ (exec_load_at w18 39 _ rfl b23 0 rfl (ansA deny) (Try.isAgg39 _) (Try.sizeOf39 _) (HS43.out.has (t := 39) (by simp))) ?_
            simp only [List.set_cons_succ, List.set_cons_zero]
            obtain ⟨n1, hn1⟩ : ∃ x, x = !decide (aG = deny) := ⟨_, rfl⟩
            refine lst_val (.bool n1) (by rw [hn1]; exact exec_neqans _ 39 (.tmp 94) (.tmp 95) rfl _ _ rfl rfl) ?_
            simp only [List.set_cons_succ, List.set_cons_zero]
            have hn1f : n1 = false := by rw [hn1, decide_eq_true FG.out]; rfl
            clear hn1
            refine lst_val (.bool n1) (exec_move _ (.tmp 96) rfl _ rfl) ?_
            simp only [List.set_cons_succ, List.set_cons_zero]
            refine lst_valg _ (by show (some n1 == some false) = true; rw [hn1f]; rfl) (exec_load_at w18 39 _ rfl b20 0 rfl (ansA aS) (Try.isAgg39 _) (Try.sizeOf39 _) (HS43.out.has (t := 39) (by simp))) ?_
            simp only [List.set_cons_succ, List.set_cons_zero]
            refine lst_valg _ (by show (some n1 == some false) = true; rw [hn1f]; rfl) (exec_load_at w18 39 _ rfl b24 0 rfl (ansA rS) (Try.isAgg39 _) (Try.sizeOf39 _) (HS43.out.has (t := 39) (by simp))) ?_
            simp only [List.set_cons_succ, List.set_cons_zero]
            obtain ⟨n2, hn2⟩ : ∃ x, x = !decide (aS = rS) := ⟨_, rfl⟩
            refine lst_valg (.bool n2) (by show (some n1 == some false) = true; rw [hn1f]; rfl) (by rw [hn2]; exact exec_neqans _ 39 (.tmp 98) (.tmp 99) rfl _ _ rfl rfl) ?_
            simp only [List.set_cons_succ, List.set_cons_zero]
            have hn2f : n2 = false := by rw [hn2, decide_eq_true FS.out]; rfl
            clear hn2
            refine lst_val (.bool n2) (exec_pick _ (.tmp 97) (.const (.bool true)) (.tmp 100) rfl n1 rfl _ (by rw [hn1f]; rfl)) ?_
            simp only [List.set_cons_succ, List.set_cons_zero]
            rw [hn2f, hn1f]
            clear n1 n2 hn1f hn2f
            go_wp2_with (refine stop_load 39 ?_)
            refine go_on ?_
            refine lst_val _ (exec_load_at w18 39 _ rfl b20 0 rfl (ansA aS) (Try.isAgg39 _) (Try.sizeOf39 _) (HS43.out.has (t := 39) (by simp))) ?_
            simp only [List.set_cons_succ, List.set_cons_zero]
            refine lst_val _ (exec_alloc w18 39 rfl _ (run_zero39 _)) ?_
            simp only [List.set_cons_succ, List.set_cons_zero]
            refine lst_sk (exec_storeA _ 39 _ _ rfl w18.heap.size 0 (ansA aS) rfl rfl (Try.sizeOf39 _) _ 39 (heap_alloc_new w18 _) (Nat.le_refl _) (ansA_one _)) ?_
            rw [splice_all (ansA zeroAns) (ansA aS) rfl]
            have hSt := HS43.out.new (ansA zeroAns) (ansA aS) 39
            generalize (w18.alloc (.cells (ansA zeroAns) 39)).setRow w18.heap.size (ansA aS) = w19 at hSt ⊢
            generalize w18.heap.size = b25 at hSt ⊢
            have HS44 : Hid (St w [(b25, ansA aS, 39), (b24, ansA rS, 39), (b23, ansA deny, 39), (b20, ansA aS, 39), (b19, ansA aG, 39), (b18, ansA aW, 39), (b17, ansA deny, 39), (b16, keyA (keyL d 0 p q), 30), (b15, keyA (keyL d i p q), 30), (b14, qryA e d 0 p q, 29), (b13, qryA e d i p q, 29)] w19) := hSt
            clear HS43 hSt
            go_wp2_with (refine stop_binop .lss 3 ?_)
            refine go_on ?_
            obtain ⟨n1, hn1⟩ : ∃ x, x = decide (((qs : Int) : Int) < 0) := ⟨_, rfl⟩
            refine lst_val (.bool n1) (by rw [hn1]; exact exec_bin w19 .lss 3 3 (.tmp 103) (.const (.int .i64 0)) rfl .i64 ((qs : Int)) _ _ rfl rfl (run_lti _ 3 .i64 _ _)) ?_
            simp only [List.set_cons_succ, List.set_cons_zero]
            have hn1f : n1 = false := by rw [hn1]; exact decide_eq_false (by omega)
            clear hn1
            refine lst_val (.bool n1) (exec_move _ (.tmp 104) rfl _ rfl) ?_
            simp only [List.set_cons_succ, List.set_cons_zero]
            refine lst_valg (.int .i64 (-1)) (by show (some n1 == some false) = true; rw [hn1f]; rfl) (exec_move _ (.tmp 21) rfl _ rfl) ?_
            simp only [List.set_cons_succ, List.set_cons_zero]
            obtain ⟨n2, hn2⟩ : ∃ x, x = decide ((0 : Int) ≤ -1) := ⟨_, rfl⟩
            refine lst_valg (.bool n2) (by show (some n1 == some false) = true; rw [hn1f]; rfl) (by rw [hn2]; exact exec_bin w19 .geq 3 3 (.tmp 106) (.const (.int .i64 0)) rfl .i64 (-1) _ _ rfl rfl (run_gei _ 3 .i64 _ _)) ?_
            simp only [List.set_cons_succ, List.set_cons_zero]
            have hn2f : n2 = false := by rw [hn2]; rfl
            clear hn2
            refine lst_valg (.bool n2) (by show (some n1 == some false) = true; rw [hn1f]; rfl) (exec_move _ (.tmp 107) rfl _ rfl) ?_
            simp only [List.set_cons_succ, List.set_cons_zero]
            refine lst_skipg (by show (some n2 == some true) = false; rw [hn2f]; rfl) ?_
            simp only [List.set_cons_succ, List.set_cons_zero]
            refine lst_skipg (by show (some n2 == some true) = false; rw [hn2f]; rfl) ?_
            simp only [List.set_cons_succ, List.set_cons_zero]
            refine lst_skipg (by show (some n2 == some true) = false; rw [hn2f]; rfl) ?_
            simp only [List.set_cons_succ, List.set_cons_zero]
            refine lst_valg (.bool n2) (by show (some n1 == some false) = true; rw [hn1f]; rfl) (exec_pick _ (.tmp 108) (.tmp 111) (.const (.bool false)) rfl n2 rfl _ (by rw [hn2f]; rfl)) ?_
            simp only [List.set_cons_succ, List.set_cons_zero]
            refine lst_valg (.bool n2) (by show (some n1 == some false) = true; rw [hn1f]; rfl) (exec_move _ (.tmp 112) rfl _ rfl) ?_
            simp only [List.set_cons_succ, List.set_cons_zero]
            refine lst_skipg (by show (some n2 == some true) = false; rw [hn2f]; rfl) ?_
            simp only [List.set_cons_succ, List.set_cons_zero]
            refine lst_skipg (by show (some n2 == some true) = false; rw [hn2f]; rfl) ?_
            simp only [List.set_cons_succ, List.set_cons_zero]
            refine lst_skipg (by show (some n2 == some true) = false; rw [hn2f]; rfl) ?_
            simp only [List.set_cons_succ, List.set_cons_zero]
            refine lst_valg (.bool n2) (by show (some n1 == some false) = true; rw [hn1f]; rfl) (exec_pick _ (.tmp 113) (.tmp 116) (.const (.bool false)) rfl n2 rfl _ (by rw [hn2f]; rfl)) ?_
            simp only [List.set_cons_succ, List.set_cons_zero]
            refine lst_val (.bool n2) (exec_pick _ (.tmp 105) (.const (.bool true)) (.tmp 117) rfl n1 rfl _ (by rw [hn1f]; rfl)) ?_
            simp only [List.set_cons_succ, List.set_cons_zero]
            rw [hn2f, hn1f]
            clear n1 n2 hn1f hn2f
            go_wp2_with (refine stop_load 39 ?_)
            refine go_on ?_
            refine lst_val _ (exec_load_at w19 39 _ rfl b18 0 rfl (ansA aW) (Try.isAgg39 _) (Try.sizeOf39 _) (HS44.out.has (t := 39) (by simp))) ?_
            simp only [List.set_cons_succ, List.set_cons_zero]
            refine lst_val _ (exec_load_at w19 39 _ rfl b25 0 rfl (ansA aS) (Try.isAgg39 _) (Try.sizeOf39 _) (HS44.out.has (t := 39) (by simp))) ?_
            simp only [List.set_cons_succ, List.set_cons_zero]
            refine lst_val (.bool true) ((exec_eqans _ 39 (.tmp 120) (.tmp 121) rfl aW aS rfl rfl).trans (by rw [decide_eq_true FW.out])) ?_
            simp only [List.set_cons_succ, List.set_cons_zero]
            go_wp2_with fail
            go_ret
            exact ⟨rfl, HS44.out.below⟩
          · skip
            subst hsm
            clear HSI
            have HLRS : Hid (lastRow T (keyL d i p q) = none) := hlrS
            clear hlrS
            have FS : Hid (aS = deny) := by
              show aS = deny
              rw [HaS.out, decide_skip T d i p q hi hi1 HI0.out, HLRS.out]
              rfl
            have FJ : Hid (aW = joinA (none) (none)) := by
              show aW = joinA (none) (none)
              rw [HaW.out, decide_whole T _ d i p q HI0.out, HLRS.out, HLRG.out]
            have FW : Hid (aW = aG) := by
              show aW = aG
              rw [FG.out]
              exact FJ.out
            clear FJ HLRG HLRS
            go_wp2_with (refine stop_load 39 ?_)
            refine go_on ?_
            refine lst_val _ (exec_load_at w16 39 _ rfl b19 0 rfl (ansA aG) (Try.isAgg39 _) (Try.sizeOf39 _) (HS41.out.has (t := 39) (by simp))) ?_
            simp only [List.set_cons_succ, List.set_cons_zero]
            refine lst_val _ (exec_load_at w16 39 _ rfl b23 0 rfl (ansA deny) (Try.isAgg39 _) (Try.sizeOf39 _) (HS41.out.has (t := 39) (by simp))) ?_
            simp only [List.set_cons_succ, List.set_cons_zero]
            obtain ⟨n1, hn1⟩ : ∃ x, x = !decide (aG = deny) := ⟨_, rfl⟩
            refine lst_val (.bool n1) (by rw [hn1]; exact exec_neqans _ 39 (.tmp 94) (.tmp 95) rfl _ _ rfl rfl) ?_
            simp only [List.set_cons_succ, List.set_cons_zero]
            have hn1f : n1 = false := by rw [hn1, decide_eq_true FG.out]; rfl
            clear hn1
            refine lst_val (.bool n1) (exec_move _ (.tmp 96) rfl _ rfl) ?_
            simp only [List.set_cons_succ, List.set_cons_zero]
            refine lst_valg _ (by show (some n1 == some false) = true; rw [hn1f]; rfl) (exec_load_at w16 39 _ rfl b20 0 rfl (ansA aS) (Try.isAgg39 _) (Try.sizeOf39 _) (HS41.out.has (t := 39) (by simp))) ?_
            simp only [List.set_cons_succ, List.set_cons_zero]
            refine lst_valg _ (by show (some n1 == some false) = true; rw [hn1f]; rfl) (exec_load_at w16 39 _ rfl b24 0 rfl (ansA deny) (Try.isAgg39 _) (Try.sizeOf39 _) (HS41.out.has (t := 39) (by simp))) ?_
            simp only [List.set_cons_succ, List.set_cons_zero]
            obtain ⟨n2, hn2⟩ : ∃ x, x = !decide (aS = deny) := ⟨_, rfl⟩
            refine lst_valg (.bool n2) (by show (some n1 == some false) = true; rw [hn1f]; rfl) (by rw [hn2]; exact exec_neqans _ 39 (.tmp 98) (.tmp 99) rfl _ _ rfl rfl) ?_
            simp only [List.set_cons_succ, List.set_cons_zero]
            have hn2f : n2 = false := by rw [hn2, decide_eq_true FS.out]; rfl
            clear hn2
            refine lst_val (.bool n2) (exec_pick _ (.tmp 97) (.const (.bool true)) (.tmp 100) rfl n1 rfl _ (by rw [hn1f]; rfl)) ?_
            simp only [List.set_cons_succ, List.set_cons_zero]
            rw [hn2f, hn1f]
            clear n1 n2 hn1f hn2f
            go_wp2_with (refine stop_load 39 ?_)
            refine go_on ?_
            refine lst_val _ (exec_load_at w16 39 _ rfl b20 0 rfl (ansA aS) (Try.isAgg39 _) (Try.sizeOf39 _) (HS41.out.has (t := 39) (by simp))) ?_
            simp only [List.set_cons_succ, List.set_cons_zero]
            refine lst_val _ (exec_alloc w16 39 rfl _ (run_zero39 _)) ?_
            simp only [List.set_cons_succ, List.set_cons_zero]
            refine lst_sk (exec_storeA _ 39 _ _ rfl w16.heap.size 0 (ansA aS) rfl rfl (Try.sizeOf39 _) _ 39 (heap_alloc_new w16 _) (Nat.le_refl _) (ansA_one _)) ?_
            rw [splice_all (ansA zeroAns) (ansA aS) rfl]
            have hSt := HS41.out.new (ansA zeroAns) (ansA aS) 39
            generalize (w16.alloc (.cells (ansA zeroAns) 39)).setRow w16.heap.size (ansA aS) = w17 at hSt ⊢
            generalize w16.heap.size = b25 at hSt ⊢
            have HS45 : Hid (St w [(b25, ansA aS, 39), (b24, ansA deny, 39), (b23, ansA deny, 39), (b20, ansA aS, 39), (b19, ansA aG, 39), (b18, ansA aW, 39), (b17, ansA deny, 39), (b16, keyA (keyL d 0 p q), 30), (b15, keyA (keyL d i p q), 30), (b14, qryA e d 0 p q, 29), (b13, qryA e d i p q, 29)] w17) := hSt
            clear HS41 hSt
            go_wp2_with (refine stop_binop .lss 3 ?_)
            refine go_on ?_
            obtain ⟨n1, hn1⟩ : ∃ x, x = decide ((-1 : Int) < 0) := ⟨_, rfl⟩
            refine lst_val (.bool n1) (by rw [hn1]; exact exec_bin w17 .lss 3 3 (.tmp 103) (.const (.int .i64 0)) rfl .i64 (-1) _ _ rfl rfl (run_lti _ 3 .i64 _ _)) ?_
            simp only [List.set_cons_succ, List.set_cons_zero]
            have hn1f : n1 = true := by rw [hn1]; rfl
            clear hn1
            refine lst_val (.bool n1) (exec_move _ (.tmp 104) rfl _ rfl) ?_
            simp only [List.set_cons_succ, List.set_cons_zero]
            refine lst_skipg (by show (some n1 == some false) = false; rw [hn1f]; rfl) ?_
            simp only [List.set_cons_succ, List.set_cons_zero]
            refine lst_skipg (by show (some n1 == some false) = false; rw [hn1f]; rfl) ?_
            simp only [List.set_cons_succ, List.set_cons_zero]
            refine lst_skipg (by show (some n1 == some false) = false; rw [hn1f]; rfl) ?_
            simp only [List.set_cons_succ, List.set_cons_zero]
            refine lst_skipg rfl ?_
            simp only [List.set_cons_succ, List.set_cons_zero]
            refine lst_skipg rfl ?_
            simp only [List.set_cons_succ, List.set_cons_zero]
            refine lst_skipg rfl ?_
            simp only [List.set_cons_succ, List.set_cons_zero]
            refine lst_skipg (by show (some n1 == some false) = false; rw [hn1f]; rfl) ?_
            simp only [List.set_cons_succ, List.set_cons_zero]
            refine lst_skipg (by show (some n1 == some false) = false; rw [hn1f]; rfl) ?_
            simp only [List.set_cons_succ, List.set_cons_zero]
            refine lst_skipg rfl ?_
            simp only [List.set_cons_succ, List.set_cons_zero]
            refine lst_skipg rfl ?_
            simp only [List.set_cons_succ, List.set_cons_zero]
            refine lst_skipg rfl ?_
            simp only [List.set_cons_succ, List.set_cons_zero]
            refine lst_skipg (by show (some n1 == some false) = false; rw [hn1f]; rfl) ?_
            simp only [List.set_cons_succ, List.set_cons_zero]
            refine lst_val (.bool n1) (exec_pick _ (.tmp 105) (.const (.bool true)) (.tmp 117) rfl n1 rfl _ (by rw [hn1f]; rfl)) ?_
            simp only [List.set_cons_succ, List.set_cons_zero]
            rw [hn1f]
            clear n1 hn1f
            go_wp2_with (refine stop_load 39 ?_)
            refine go_on ?_
            refine lst_val _ (exec_load_at w17 39 _ rfl b19 0 rfl (ansA aG) (Try.isAgg39 _) (Try.sizeOf39 _) (HS45.out.has (t := 39) (by simp))) ?_
            simp only [List.set_cons_succ, List.set_cons_zero]
            refine lst_sk (exec_storeA w17 39 _ _ rfl b25 0 (ansA aG) rfl rfl (Try.sizeOf39 _) (ansA aS) 39 (HS45.out.get (by simp)) (Nat.le_refl _) (ansA_one _)) ?_
            rw [splice_all (ansA aS) (ansA aG) rfl]
            have hSt := HS45.out.set (ansA aG)
            generalize w17.setRow b25 (ansA aG) = w18 at hSt ⊢
            have HS46 : Hid (St w [(b25, ansA aG, 39), (b24, ansA deny, 39), (b23, ansA deny, 39), (b20, ansA aS, 39), (b19, ansA aG, 39), (b18, ansA aW, 39), (b17, ansA deny, 39), (b16, keyA (keyL d 0 p q), 30), (b15, keyA (keyL d i p q), 30), (b14, qryA e d 0 p q, 29), (b13, qryA e d i p q, 29)] w18) := hSt
            clear HS45 hSt
            go_wp2_with (refine stop_load 39 ?_)
            refine go_on ?_
            refine lst_val _ (exec_load_at w18 39 _ rfl b18 0 rfl (ansA aW) (Try.isAgg39 _) (Try.sizeOf39 _) (HS46.out.has (t := 39) (by simp))) ?_
            simp only [List.set_cons_succ, List.set_cons_zero]
            refine lst_val _ (exec_load_at w18 39 _ rfl b25 0 rfl (ansA aG) (Try.isAgg39 _) (Try.sizeOf39 _) (HS46.out.has (t := 39) (by simp))) ?_
            simp only [List.set_cons_succ, List.set_cons_zero]
            refine lst_val (.bool true) ((exec_eqans _ 39 (.tmp 120) (.tmp 121) rfl aW aG rfl rfl).trans (by rw [decide_eq_true FW.out])) ?_
            simp only [List.set_cons_succ, List.set_cons_zero]
            go_wp2_with fail
            go_ret
            exact ⟨rfl, HS46.out.below⟩
end Go.Proofs.Qxb6612879a
