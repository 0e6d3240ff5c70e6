/-
  The law FnDecideReadsOnlyItsTwoKeys: the walk.
-/
import Derived.Test.Qxb6612879aW12
namespace Go.Proofs.Qxb6612879a
open Go.RowKit

set_option maxRecDepth 20000 in
set_option maxHeartbeats 8000000 in
theorem law4 (e o d i p q : Int) (hi : 0 ≤ i) (hi1 : i < 4294967296) (hq : 0 ≤ q) (hq1 : q < 65536) (T : List Row) (h8 : T8 T) (ao : Option Addr) (cap : Nat) (w : World) (hat : RowsAt w ao T) :
    Calls Try.prog 4 #[.int .u16 e, .int .u16 o, .int .u8 d, .int .u32 i, .int .u8 p, .int .u16 q, .slice ao T.length cap] w fun e w' => e = .returned (.bool true) ∧ Below w.heap.size w w' := by
  obtain ⟨len, hlen⟩ : ∃ n, n = T.length := ⟨_, rfl⟩
  have HL : Hid (len = T.length) := hlen
  have HROW : Hid (∀ j, j < len → ∃ b off, ao = some ⟨b, off, none⟩ ∧ b < w.heap.size ∧ (T.getD j row0).1.length = 8 ∧ HasA w b (off + j * 19) (rowA (T.getD j row0).1 (T.getD j row0).2)) := fun j hj => by
    have hj' : j < T.length := by rw [← HL.out]; exact hj
    obtain ⟨b, off, h1, h2, h3⟩ := hat (by omega)
    exact ⟨b, off, h1, h2, h8 j hj', h3 j hj'⟩
  have HTM : Hid (len ≤ 4096 → ∀ (sk : Bool) (wx : World), Below w.heap.size w wx → Calls Try.prog 8 #[.slice ao len cap, .bool sk, .agg (keyA (keyL d 0 p q))] wx fun e w' => e = .returned (.map (some (wx.heap.size + 1))) ∧ MapAt w' (wx.heap.size + 1) (mapT sk (keyL d 0 p q) T) ∧ Below wx.heap.size wx w') := fun hle sk wx hb => by
    have := tableMap_c T h8 sk (keyL d 0 p q) rfl ao cap wx (hat.below hb (Nat.le_refl _)) (by rw [← HL.out]; exact hle)
    rw [← HL.out] at this
    exact this
  have HLA : Hid (len ≤ 4096 → ∀ (k : List Int), k.length = 8 → ∀ (wx : World), Below w.heap.size w wx → Calls Try.prog 9 #[.slice ao len cap, .agg (keyA k)] wx fun e w' => (∃ a : Int, e = .returned (.int .i64 a) ∧ LastIs T k a) ∧ Below wx.heap.size wx w') := fun hle k hk wx hb => by
    have := lastAt_c T h8 k hk ao cap wx (hat.below hb (Nat.le_refl _)) (by rw [← HL.out]; exact hle)
    rw [← HL.out] at this
    exact this
  rw [← hlen]
  clear hlen hat h8
  go_enter Try.func4, Try.ntmps4
  go_wp2_with fail
  refine (bytes11_c e o d i p q ao len cap w).mono ?_
  rintro _ w1 ⟨rfl, hb1⟩
  have HB1 : Hid (Below w.heap.size w w1) := hb1
  clear hb1
  cases hok : okBytes len with
  | false =>
    go_wp2_with fail
    go_ret
    exact ⟨rfl, HB1.out⟩
  | true =>
    clear hok
    by_cases hbig : (4096 : Int) < (len : Int)
    · go_wp2_with fail
      go_ret
      exact ⟨rfl, HB1.out⟩
    · have HLE : Hid (len ≤ 4096) := by show len ≤ 4096; omega
      have HS0 : Hid (St w [] w1) := St.nil HB1.out
      clear HB1
      go_wp2_with (refine stop_build 29 ?_)
      refine go_on ?_
      refine lst_val _ (exec_build w1 29 _ rfl [(0, .int .u16 e), (1, .int .u8 d), (2, .int .u32 i), (3, .int .u8 p), (4, .int .u16 q)] (by simp [Act.eval]) _ (run_build29 w1 e d i p q)) ?_
      simp only [List.set_cons_succ, List.set_cons_zero]
      refine lst_val _ (exec_alloc w1 29 rfl _ (run_zero29 _)) ?_
      simp only [List.set_cons_succ, List.set_cons_zero]
      refine lst_sk (exec_storeA _ 29 _ _ rfl w1.heap.size 0 (qryA e d i p q) rfl rfl (Try.sizeOf29 _) _ 29 (heap_alloc_new w1 _) (Nat.le_refl _) (qryA_one _ _ _ _ _)) ?_
      rw [splice_all (qryA 0 0 0 0 0) (qryA e d i p q) rfl]
      have hSt := HS0.out.new (qryA 0 0 0 0 0) (qryA e d i p q) 29
      generalize (w1.alloc (.cells (qryA 0 0 0 0 0) 29)).setRow w1.heap.size (qryA e d i p q) = w2 at hSt ⊢
      generalize w1.heap.size = b15 at hSt ⊢
      have HS1 : Hid (St w [(b15, qryA e d i p q, 29)] w2) := hSt
      clear HS0 hSt
      go_wp2_with (refine stop_load 29 ?_)
      refine go_on ?_
      refine lst_val _ (exec_load_at w2 29 _ rfl b15 0 rfl (qryA e d i p q) (Try.isAgg29 _) (Try.sizeOf29 _) (HS1.out.has (t := 29) (by simp))) ?_
      simp only [List.set_cons_succ, List.set_cons_zero]
      refine lst_val _ (exec_alloc w2 29 rfl _ (run_zero29 _)) ?_
      simp only [List.set_cons_succ, List.set_cons_zero]
      refine lst_sk (exec_storeA _ 29 _ _ rfl w2.heap.size 0 (qryA e d i p q) rfl rfl (Try.sizeOf29 _) _ 29 (heap_alloc_new w2 _) (Nat.le_refl _) (qryA_one _ _ _ _ _)) ?_
      rw [splice_all (qryA 0 0 0 0 0) (qryA e d i p q) rfl]
      have hSt := HS1.out.new (qryA 0 0 0 0 0) (qryA e d i p q) 29
      generalize (w2.alloc (.cells (qryA 0 0 0 0 0) 29)).setRow w2.heap.size (qryA e d i p q) = w3 at hSt ⊢
      generalize w2.heap.size = b16 at hSt ⊢
      have HS2 : Hid (St w [(b16, qryA e d i p q, 29), (b15, qryA e d i p q, 29)] w3) := hSt
      clear HS1 hSt
      go_wp2_with (refine stop_store 22 ?_)
      refine go_on ?_
      refine lst_sk (exec_store1 w3 22 _ _ rfl ⟨b16, 0, none⟩ (.int .u16 o) (.int .u16 e) rfl rfl (Try.sizeOf22 _) rfl rfl (HS2.out.spot (b := b16) (cs := qryA e d i p q) (t := 29) (by simp) 0) (HS2.out.soft (b := b16) (cs := qryA e d i p q) (t := 29) (by simp) 0)) ?_
      have hSt := HS2.out.cell (qryA o d i p q) (heap_setCell_same w3 b16 0 (qryA e d i p q) 29 (.int .u16 o) (HS2.out.get (by simp)))
      generalize w3.setCell ⟨b16, 0, none⟩ (.int .u16 o) = w4 at hSt ⊢
      have HS3 : Hid (St w [(b16, qryA o d i p q, 29), (b15, qryA e d i p q, 29)] w4) := hSt
      clear HS2 hSt
      go_wp2_with fail
      refine (keyOf_c d i p q hi hi1 hq hq1 w4).mono ?_
      rintro _ w5 ⟨rfl, hb⟩
      have HS4 : Hid (St w [(b16, qryA o d i p q, 29), (b15, qryA e d i p q, 29)] w5) := HS3.out.step hb
      clear HS3 hb
      go_wp2_with (refine stop_alloc 30 ?_)
      refine go_on ?_
      refine lst_val _ (exec_alloc w5 30 rfl _ (run_zero30 _)) ?_
      simp only [List.set_cons_succ, List.set_cons_zero]
      refine lst_sk (exec_storeA _ 30 _ _ rfl w5.heap.size 0 (keyA (keyL d i p q)) rfl rfl (Try.sizeOf30 _) _ 30 (heap_alloc_new w5 _) (Nat.le_refl _) (keyA_one _)) ?_
      rw [splice_all (keyA [0, 0, 0, 0, 0, 0, 0, 0]) (keyA (keyL d i p q)) rfl]
      have hSt := HS4.out.new (keyA [0, 0, 0, 0, 0, 0, 0, 0]) (keyA (keyL d i p q)) 30
      generalize (w5.alloc (.cells (keyA [0, 0, 0, 0, 0, 0, 0, 0]) 30)).setRow w5.heap.size (keyA (keyL d i p q)) = w6 at hSt ⊢
      generalize w5.heap.size = b17 at hSt ⊢
      have HS5 : Hid (St w [(b17, keyA (keyL d i p q), 30), (b16, qryA o d i p q, 29), (b15, qryA e d i p q, 29)] w6) := hSt
      clear HS4 hSt
      go_wp2_with fail
      refine (keyOf_c d 0 p q (by omega) (by omega) hq hq1 w6).mono ?_
      rintro _ w7 ⟨rfl, hb⟩
      have HS6 : Hid (St w [(b17, keyA (keyL d i p q), 30), (b16, qryA o d i p q, 29), (b15, qryA e d i p q, 29)] w7) := HS5.out.step hb
      clear HS5 hb
      go_wp2_with (refine stop_alloc 30 ?_)
      refine go_on ?_
      refine lst_val _ (exec_alloc w7 30 rfl _ (run_zero30 _)) ?_
      simp only [List.set_cons_succ, List.set_cons_zero]
      refine lst_sk (exec_storeA _ 30 _ _ rfl w7.heap.size 0 (keyA (keyL d 0 p q)) rfl rfl (Try.sizeOf30 _) _ 30 (heap_alloc_new w7 _) (Nat.le_refl _) (keyA_one _)) ?_
      rw [splice_all (keyA [0, 0, 0, 0, 0, 0, 0, 0]) (keyA (keyL d 0 p q)) rfl]
      have hSt := HS6.out.new (keyA [0, 0, 0, 0, 0, 0, 0, 0]) (keyA (keyL d 0 p q)) 30
      generalize (w7.alloc (.cells (keyA [0, 0, 0, 0, 0, 0, 0, 0]) 30)).setRow w7.heap.size (keyA (keyL d 0 p q)) = w8 at hSt ⊢
      generalize w7.heap.size = b18 at hSt ⊢
      have HS7 : Hid (St w [(b18, keyA (keyL d 0 p q), 30), (b17, keyA (keyL d i p q), 30), (b16, qryA o d i p q, 29), (b15, qryA e d i p q, 29)] w8) := hSt
      clear HS6 hSt
      go_wp2_with (refine stop_load 30 ?_)
      refine go_on ?_
      refine lst_val _ (exec_load_at w8 30 _ rfl b18 0 rfl (keyA (keyL d 0 p q)) (Try.isAgg30 _) (Try.sizeOf30 _) (HS7.out.has (t := 30) (by simp))) ?_
      simp only [List.set_cons_succ, List.set_cons_zero]
      go_wp2_with fail
      refine (HLA.out HLE.out (keyL d 0 p q) rfl w8 HS7.out.below).mono ?_
      rintro _ w9 ⟨⟨gi, rfl, hgi⟩, hb⟩
      have HS8 : Hid (St w [(b18, keyA (keyL d 0 p q), 30), (b17, keyA (keyL d i p q), 30), (b16, qryA o d i p q, 29), (b15, qryA e d i p q, 29)] w9) := HS7.out.step hb
      clear HS7 hb
      have HGI : Hid (LastIs T (keyL d 0 p q) gi) := hgi
      clear hgi
      go_wp2_with (refine stop_load 30 ?_)
      refine go_on ?_
      refine lst_val _ (exec_load_at w9 30 _ rfl b17 0 rfl (keyA (keyL d i p q)) (Try.isAgg30 _) (Try.sizeOf30 _) (HS8.out.has (t := 30) (by simp))) ?_
      simp only [List.set_cons_succ, List.set_cons_zero]
      go_wp2_with fail
      refine (HLA.out HLE.out (keyL d i p q) rfl w9 HS8.out.below).mono ?_
      rintro _ w10 ⟨⟨si, rfl, hsi⟩, hb⟩
      have HS9 : Hid (St w [(b18, keyA (keyL d 0 p q), 30), (b17, keyA (keyL d i p q), 30), (b16, qryA o d i p q, 29), (b15, qryA e d i p q, 29)] w10) := HS8.out.step hb
      clear HS8 hb
      have HSI : Hid (LastIs T (keyL d i p q) si) := hsi
      clear hsi
      go_wp2_with (refine stop_mkmap 41 ?_)
      refine go_on ?_
      refine lst_val _ (exec_mkmap w10 _ 41 (.const (.int .i64 2)) rfl _ _ rfl (run_mkmap w10 2)) ?_
      simp only [List.set_cons_succ, List.set_cons_zero]
      have hSt := HS9.out.step ((Below.refl w10.heap.size w10).alloc (Nat.le_refl _) (.map #[] 0))
      have hMp := mapAt_made w10
      have hLt := HS9.out.all_lt
      have hMw := HS9.out.below.size
      generalize w10.alloc (.map #[] 0) = w11 at hSt hMp ⊢
      generalize w10.heap.size = mb at hMp hLt hMw ⊢
      have HS10 : Hid (St w [(b18, keyA (keyL d 0 p q), 30), (b17, keyA (keyL d i p q), 30), (b16, qryA o d i p q, 29), (b15, qryA e d i p q, 29)] w11) := hSt
      clear HS9 hSt
      have HLT : Hid (∀ x ∈ [(b18, keyA (keyL d 0 p q), 30), (b17, keyA (keyL d i p q), 30), (b16, qryA o d i p q, 29), (b15, qryA e d i p q, 29)], x.1 < mb) := hLt
      have HMW : Hid (w.heap.size ≤ mb) := hMw
      have HM0 : Hid (MapAt w11 mb []) := hMp
      clear hLt hMw hMp
      rcases HGI.out with ⟨qg, hqG, hgq, _, hlrG⟩ | ⟨hgm, hlrG⟩
      · skip
        subst hgq
        clear HGI
        obtain ⟨rG, hrG⟩ : ∃ x, x = (T.getD qg row0).2 := ⟨_, rfl⟩
        rw [← hrG] at hlrG
        have HRAG : Hid (rG = (T.getD qg row0).2) := hrG
        have HLRG : Hid (lastRow T (keyL d 0 p q) = some rG) := hlrG
        have hltG : qg < len := by rw [HL.out]; exact hqG
        clear hrG hlrG hqG
        have h0G : (0 : Int) ≤ (qg : Int) := by omega
        obtain ⟨bb, off, hao, hblt, hk8, gr⟩ := HROW.out qg hltG
        have HAO : Hid (ao = some ⟨bb, off, none⟩) := hao
        clear hao
        rw [← HRAG.out] at gr
        obtain ⟨kk, hkk⟩ : ∃ x, x = (T.getD qg row0).1 := ⟨_, rfl⟩
        rw [← hkk] at gr hk8
        clear hkk
        go_wp2_with fail
        refine wp_region_ordT (fun w' => St w [(b18, keyA (keyL d 0 p q), 30), (b17, keyA (keyL d i p q), 30), (b16, qryA o d i p q, 29), (b15, qryA e d i p q, 29)] w') 7 [(0, false), (1, false), (2, false), (3, false), (4, false), (5, false), (6, true)] (by kernel_rfl) (by kernel_rfl)
          (fun _ _ _ d _ h => by cases d <;> exact h) (by kernel_rfl) rfl ?_
        have hS := HS10.out.drew
        refine ord_val 63 rfl rfl rfl hS (.map (some mb)) (fun _ _ => rfl) ?_
        simp only [List.set_cons_succ, List.set_cons_zero]
        refine ord_val 64 rfl rfl rfl hS (.agg (keyA (keyL d 0 p q))) (fun wx hw => exec_load_at wx 30 _ rfl b18 0 rfl _ (Try.isAgg30 wx) (Try.sizeOf30 wx) (hw.has (t := 30) (by simp))) ?_
        simp only [List.set_cons_succ, List.set_cons_zero]
        refine ord_val 65 rfl rfl rfl hS (.slice ao len cap) (fun _ _ => rfl) ?_
        simp only [List.set_cons_succ, List.set_cons_zero]
        refine ord_val 66 rfl rfl rfl hS (.int .i64 (qg : Int)) (fun _ _ => rfl) ?_
        simp only [List.set_cons_succ, List.set_cons_zero]
        refine ord_val 67 rfl rfl rfl hS (.pointer (some ⟨bb, off + qg * 19, none⟩)) (fun wx _ => exec_idx wx 24 48 19 _ _ rfl bb off len cap qg Try.underlying24 (Try.sizeOf48 wx) (by show Value.slice ao len cap = _; rw [HAO.out]) rfl hltG) ?_
        simp only [List.set_cons_succ, List.set_cons_zero]
        refine ord_val 68 rfl rfl rfl hS (.agg (rowA kk rG)) (fun wx hw => exec_load_at wx 48 _ rfl bb _ rfl _ (Try.isAgg48 wx) (by rw [rowA_size hk8]; exact Try.sizeOf48 wx) (gr.below hw.below hblt)) ?_
        simp only [List.set_cons_succ, List.set_cons_zero]
        refine ord_call 69 rfl rfl rfl 10 #[.agg (rowA kk rG)] (exec_call _ 10 _ _ rfl rfl _ rfl Try.call10) (toAnswer_c kk hk8 rG _) ?_
        rintro _ w12 ⟨rfl, hbz⟩
        have hSz := hS.step hbz
        refine ⟨_, rfl, hSz, ?_⟩
        simp only [List.set_cons_succ, List.set_cons_zero]
        refine ord_done ?_
        have hmz : MapAt w12 mb (([] : List Row)) := HM0.out.below ((Below.refl w11.heap.size w11).drew.trans hbz) HM0.out.lt
        obtain ⟨w13, hr, hm', hg'⟩ := run_update w12 mb (([] : List Row)) hmz (keyL d 0 p q) rfl rG
        refine last_run rfl rfl rfl (exec_update w12 w13 41 (.tmp 63) (.tmp 64) (.tmp 69) rfl _ _ _ rfl rfl rfl hr) ?_
        have hSt := hSz.grown hg' HLT.out HMW.out
        clear hS hSz hbz hmz hr hg' HAO hblt hk8 gr
        have HS11 : Hid (St w [(b18, keyA (keyL d 0 p q), 30), (b17, keyA (keyL d i p q), 30), (b16, qryA o d i p q, 29), (b15, qryA e d i p q, 29)] w13) := hSt
        clear HS10 hSt
        have HM1 : Hid (MapAt w13 mb (putM (([] : List Row)) (keyL d 0 p q) rG)) := hm'
        clear HM0 hm'
        rcases HSI.out with ⟨qs, hqS, hsq, _, hlrS⟩ | ⟨hsm, hlrS⟩
        · skip
          subst hsq
          clear HSI
          obtain ⟨rS, hrS⟩ : ∃ x, x = (T.getD qs row0).2 := ⟨_, rfl⟩
          rw [← hrS] at hlrS
          have HRAS : Hid (rS = (T.getD qs row0).2) := hrS
          have HLRS : Hid (lastRow T (keyL d i p q) = some rS) := hlrS
          have hltS : qs < len := by rw [HL.out]; exact hqS
          clear hrS hlrS hqS
          have h0S : (0 : Int) ≤ (qs : Int) := by omega
          obtain ⟨bb, off, hao, hblt, hk8, gr⟩ := HROW.out qs hltS
          have HAO : Hid (ao = some ⟨bb, off, none⟩) := hao
          clear hao
          rw [← HRAS.out] at gr
          obtain ⟨kk, hkk⟩ : ∃ x, x = (T.getD qs row0).1 := ⟨_, rfl⟩
          rw [← hkk] at gr hk8
          clear hkk
          go_wp2_with fail
          refine wp_region_ordT (fun w' => St w [(b18, keyA (keyL d 0 p q), 30), (b17, keyA (keyL d i p q), 30), (b16, qryA o d i p q, 29), (b15, qryA e d i p q, 29)] w') 7 [(0, false), (1, false), (2, false), (3, false), (4, false), (5, false), (6, true)] (by kernel_rfl) (by kernel_rfl)
            (fun _ _ _ d _ h => by cases d <;> exact h) (by kernel_rfl) rfl ?_
          have hS := HS11.out.drew
          refine ord_val 72 rfl rfl rfl hS (.map (some mb)) (fun _ _ => rfl) ?_
          simp only [List.set_cons_succ, List.set_cons_zero]
          refine ord_val 73 rfl rfl rfl hS (.agg (keyA (keyL d i p q))) (fun wx hw => exec_load_at wx 30 _ rfl b17 0 rfl _ (Try.isAgg30 wx) (Try.sizeOf30 wx) (hw.has (t := 30) (by simp))) ?_
          simp only [List.set_cons_succ, List.set_cons_zero]
          refine ord_val 74 rfl rfl rfl hS (.slice ao len cap) (fun _ _ => rfl) ?_
          simp only [List.set_cons_succ, List.set_cons_zero]
          refine ord_val 75 rfl rfl rfl hS (.int .i64 (qs : Int)) (fun _ _ => rfl) ?_
          simp only [List.set_cons_succ, List.set_cons_zero]
          refine ord_val 76 rfl rfl rfl hS (.pointer (some ⟨bb, off + qs * 19, none⟩)) (fun wx _ => exec_idx wx 24 48 19 _ _ rfl bb off len cap qs Try.underlying24 (Try.sizeOf48 wx) (by show Value.slice ao len cap = _; rw [HAO.out]) rfl hltS) ?_
          simp only [List.set_cons_succ, List.set_cons_zero]
          refine ord_val 77 rfl rfl rfl hS (.agg (rowA kk rS)) (fun wx hw => exec_load_at wx 48 _ rfl bb _ rfl _ (Try.isAgg48 wx) (by rw [rowA_size hk8]; exact Try.sizeOf48 wx) (gr.below hw.below hblt)) ?_
          simp only [List.set_cons_succ, List.set_cons_zero]
          refine ord_call 78 rfl rfl rfl 10 #[.agg (rowA kk rS)] (exec_call _ 10 _ _ rfl rfl _ rfl Try.call10) (toAnswer_c kk hk8 rS _) ?_
          rintro _ w14 ⟨rfl, hbz⟩
          have hSz := hS.step hbz
          refine ⟨_, rfl, hSz, ?_⟩
          simp only [List.set_cons_succ, List.set_cons_zero]
          refine ord_done ?_
          have hmz : MapAt w14 mb (putM (([] : List Row)) (keyL d 0 p q) rG) := HM1.out.below ((Below.refl w13.heap.size w13).drew.trans hbz) HM1.out.lt
          obtain ⟨w15, hr, hm', hg'⟩ := run_update w14 mb (putM (([] : List Row)) (keyL d 0 p q) rG) hmz (keyL d i p q) rfl rS
          refine last_run rfl rfl rfl (exec_update w14 w15 41 (.tmp 72) (.tmp 73) (.tmp 78) rfl _ _ _ rfl rfl rfl hr) ?_
          have hSt := hSz.grown hg' HLT.out HMW.out
          clear hS hSz hbz hmz hr hg' HAO hblt hk8 gr
          have HS12 : Hid (St w [(b18, keyA (keyL d 0 p q), 30), (b17, keyA (keyL d i p q), 30), (b16, qryA o d i p q, 29), (b15, qryA e d i p q, 29)] w15) := hSt
          clear HS11 hSt
          have HM2 : Hid (MapAt w15 mb (putM (putM (([] : List Row)) (keyL d 0 p q) rG) (keyL d i p q) rS)) := hm'
          clear HM1 hm'
          have HAB : Hid (decideM (mapT false (keyL d 0 p q) T) d i p q = decideM (putM (putM (([] : List Row)) (keyL d 0 p q) rG) (keyL d i p q) rS) d i p q) := decide_small T (keyL d 0 p q) d i p q (some rG) (some rS) HLRG.out HLRS.out
          have F0 : Hid (¬ decideM (mapT false (keyL d 0 p q) T) d i p q = rS → decideM (mapT false (keyL d 0 p q) T) d i p q = rG) := two_both T (keyL d 0 p q) d i p q rG rS HLRG.out HLRS.out
          clear HLRG HLRS
          obtain ⟨aA, haA⟩ : ∃ x, x = decideM (mapT false (keyL d 0 p q) T) d i p q := ⟨_, rfl⟩
          have HaA : Hid (aA = decideM (mapT false (keyL d 0 p q) T) d i p q) := haA
          clear haA
          go_wp2_with fail
          refine one_end (fun l b mb' => (((((l.set 79 (.agg (qryA e d i p q))).set 80 (.slice ao len cap)).set 81 (.agg (keyA (keyL d 0 p q)))).set 82 (.map (some mb'))).set 83 (.agg (ansA aA))).set 22 (.pointer (some ⟨b, 0, none⟩))) (fun b wn => St w15 [(b, ansA aA, 39)] wn) (fun _ _ _ d _ h => by cases d <;> exact h) ?_ (fun Q' hQ' hK => ?_)
          case refine_2 =>
            simp only [List.set_cons_succ, List.set_cons_zero] at hK
            refine wp_region_ordZ (fun w' => St w15 [] w') 6 5 [(0, false), (1, false), (2, false), (3, true), (4, true)] (by kernel_rfl) (by kernel_rfl) hQ' (by kernel_rfl) rfl ?_
            have hS : St w15 [] w15.drew := St.nil (Below.refl _ _).drew
            have hQ15 := HS12.out.has (b := b15) (cs := qryA e d i p q) (t := 29) (by simp)
            have hK18 := HS12.out.has (b := b18) (cs := keyA (keyL d 0 p q)) (t := 30) (by simp)
            have hL15 := HS12.out.all_lt (b15, qryA e d i p q, 29) (by simp)
            have hL18 := HS12.out.all_lt (b18, keyA (keyL d 0 p q), 30) (by simp)
            refine ordZ_val 79 rfl rfl rfl hS (.agg (qryA e d i p q)) (fun wx hw => exec_load_at wx 29 _ rfl b15 0 rfl _ (Try.isAgg29 wx) (Try.sizeOf29 wx) (hQ15.below hw.below hL15)) ?_
            simp only [List.set_cons_succ, List.set_cons_zero]
            refine ordZ_val 80 rfl rfl rfl hS (.slice ao len cap) (fun _ _ => rfl) ?_
            simp only [List.set_cons_succ, List.set_cons_zero]
            refine ordZ_val 81 rfl rfl rfl hS (.agg (keyA (keyL d 0 p q))) (fun wx hw => exec_load_at wx 30 _ rfl b18 0 rfl _ (Try.isAgg30 wx) (Try.sizeOf30 wx) (hK18.below hw.below hL18)) ?_
            simp only [List.set_cons_succ, List.set_cons_zero]
            refine ⟨?_, ?_⟩
            · skip
              refine op_call 82 rfl rfl rfl 8 #[.slice ao len cap, .bool false, .agg (keyA (keyL d 0 p q))] (exec_call _ 8 _ _ rfl rfl _ rfl Try.call8) (HTM.out HLE.out false _ (HS12.out.step hS.below).below) ?_
              rintro _ wa ⟨rfl, hmA, hbA⟩
              have hSA := hS.step hbA
              refine ⟨_, rfl, hSA, ?_⟩
              simp only [List.set_cons_succ, List.set_cons_zero]
              have hmA' := hmA
              refine ⟨?_, ?_⟩
              · skip
                refine op_call 83 rfl rfl rfl 7 #[.agg (qryA e d i p q), .map (some (w15.drew.heap.size + 1))] (exec_call _ 7 _ _ rfl rfl _ rfl Try.call7) (decideMap_c e d i p q hi hi1 hq hq1 _ _ _ hmA') ?_
                rintro _ wb ⟨rfl, hbB⟩
                have hSB := hSA.step hbB
                refine ⟨_, rfl, hSB, ?_⟩
                simp only [List.set_cons_succ, List.set_cons_zero]
                rw [← HaA.out]
                refine op_val (.pointer (some ⟨wb.heap.size, 0, none⟩)) rfl rfl rfl (exec_alloc wb 39 rfl _ (run_zero39 wb)) (hSB.alloc _ _) ?_
                simp only [List.set_cons_succ, List.set_cons_zero]
                have hSC := hSB.fresh (ansA zeroAns) 39
                refine ord_done ?_
                refine last_run rfl rfl rfl (exec_storeA _ 39 _ _ rfl (wb.heap.size) 0 (ansA aA) rfl rfl (Try.sizeOf39 _) (ansA zeroAns) 39 (hSC.get (by simp)) (Nat.le_refl _) (ansA_one _)) ?_
                rw [splice_all (ansA zeroAns) (ansA aA) rfl]
                exact hK _ _ _ (hSC.set (ansA aA))
              · skip
                refine op_val (.pointer (some ⟨wa.heap.size, 0, none⟩)) rfl rfl rfl (exec_alloc wa 39 rfl _ (run_zero39 wa)) (hSA.alloc _ _) ?_
                simp only [List.set_cons_succ, List.set_cons_zero]
                have hSC := hSA.fresh (ansA zeroAns) 39
                have hmA' := hmA.below ((Below.refl wa.heap.size wa).alloc (Nat.le_refl _) (.cells (ansA zeroAns) 39)) hmA.lt
                refine ord_call 83 rfl rfl rfl 7 #[.agg (qryA e d i p q), .map (some (w15.drew.heap.size + 1))] (exec_call _ 7 _ _ rfl rfl _ rfl Try.call7) (decideMap_c e d i p q hi hi1 hq hq1 _ _ _ hmA') ?_
                rintro _ wb ⟨rfl, hbB⟩
                have hSD := hSC.step hbB
                refine ⟨_, rfl, hSD.tail, ?_⟩
                simp only [List.set_cons_succ, List.set_cons_zero]
                rw [← HaA.out]
                refine ord_done ?_
                refine last_run rfl rfl rfl (exec_storeA _ 39 _ _ rfl (wa.heap.size) 0 (ansA aA) rfl rfl (Try.sizeOf39 _) (ansA zeroAns) 39 (hSD.get (by simp)) (Nat.le_refl _) (ansA_one _)) ?_
                rw [splice_all (ansA zeroAns) (ansA aA) rfl]
                exact hK _ _ _ (hSD.set (ansA aA))
            · skip
              refine op_val (.pointer (some ⟨w15.drew.heap.size, 0, none⟩)) rfl rfl rfl (exec_alloc w15.drew 39 rfl _ (run_zero39 w15.drew)) (hS.alloc _ _) ?_
              simp only [List.set_cons_succ, List.set_cons_zero]
              have hSC := hS.fresh (ansA zeroAns) 39
              refine ord_call 82 rfl rfl rfl 8 #[.slice ao len cap, .bool false, .agg (keyA (keyL d 0 p q))] (exec_call _ 8 _ _ rfl rfl _ rfl Try.call8) (HTM.out HLE.out false _ (HS12.out.step hSC.below).below) ?_
              rintro _ wa ⟨rfl, hmA, hbA⟩
              have hSD := hSC.step hbA
              refine ⟨_, rfl, hSD.tail, ?_⟩
              simp only [List.set_cons_succ, List.set_cons_zero]
              have hmA' := hmA
              refine ord_call 83 rfl rfl rfl 7 #[.agg (qryA e d i p q), .map (some ((w15.drew.alloc (.cells (ansA zeroAns) 39)).heap.size + 1))] (exec_call _ 7 _ _ rfl rfl _ rfl Try.call7) (decideMap_c e d i p q hi hi1 hq hq1 _ _ _ hmA') ?_
              rintro _ wb ⟨rfl, hbB⟩
              have hSE := hSD.step hbB
              refine ⟨_, rfl, hSE.tail, ?_⟩
              simp only [List.set_cons_succ, List.set_cons_zero]
              rw [← HaA.out]
              refine ord_done ?_
              refine last_run rfl rfl rfl (exec_storeA _ 39 _ _ rfl (w15.drew.heap.size) 0 (ansA aA) rfl rfl (Try.sizeOf39 _) (ansA zeroAns) 39 (hSE.get (by simp)) (Nat.le_refl _) (ansA_one _)) ?_
              rw [splice_all (ansA zeroAns) (ansA aA) rfl]
              exact hK _ _ _ (hSE.set (ansA aA))
          intro b22 mb' w16 hSt0
          simp only [List.set_cons_succ, List.set_cons_zero]
          have hSt := HS12.out.join hSt0
          have hMp := HM2.out.below hSt0.below HM2.out.lt
          have HS13 : Hid (St w [(b22, ansA aA, 39), (b18, keyA (keyL d 0 p q), 30), (b17, keyA (keyL d i p q), 30), (b16, qryA o d i p q, 29), (b15, qryA e d i p q, 29)] w16) := hSt
          clear HS12 hSt hSt0
          have HM3 : Hid (MapAt w16 mb (putM (putM (([] : List Row)) (keyL d 0 p q) rG) (keyL d i p q) rS)) := hMp
          clear HM2 hMp
          go_wp2_with (refine stop_load 29 ?_)
          refine go_on ?_
          refine lst_val _ (exec_load_at w16 29 _ rfl b16 0 rfl (qryA o d i p q) (Try.isAgg29 _) (Try.sizeOf29 _) (HS13.out.has (t := 29) (by simp))) ?_
          simp only [List.set_cons_succ, List.set_cons_zero]
          obtain ⟨aB, haB⟩ : ∃ x, x = decideM (putM (putM (([] : List Row)) (keyL d 0 p q) rG) (keyL d i p q) rS) d i p q := ⟨_, rfl⟩
          have HaB : Hid (aB = decideM (putM (putM (([] : List Row)) (keyL d 0 p q) rG) (keyL d i p q) rS) d i p q) := haB
          go_wp2_with fail
          refine (decideMap_c o d i p q hi hi1 hq hq1 mb (putM (putM (([] : List Row)) (keyL d 0 p q) rG) (keyL d i p q) rS) w16 HM3.out).mono ?_
          rintro _ w17 ⟨rfl, hb⟩
          rw [← haB]
          clear haB HM3
          have HS14 : Hid (St w [(b22, ansA aA, 39), (b18, keyA (keyL d 0 p q), 30), (b17, keyA (keyL d i p q), 30), (b16, qryA o d i p q, 29), (b15, qryA e d i p q, 29)] w17) := HS13.out.step hb
          clear HS13 hb
          go_wp2_with (refine stop_alloc 39 ?_)
          refine go_on ?_
          refine lst_val _ (exec_alloc w17 39 rfl _ (run_zero39 _)) ?_
          simp only [List.set_cons_succ, List.set_cons_zero]
          refine lst_sk (exec_storeA _ 39 _ _ rfl w17.heap.size 0 (ansA aB) rfl rfl (Try.sizeOf39 _) _ 39 (heap_alloc_new w17 _) (Nat.le_refl _) (ansA_one _)) ?_
          rw [splice_all (ansA zeroAns) (ansA aB) rfl]
          have hSt := HS14.out.new (ansA zeroAns) (ansA aB) 39
          generalize (w17.alloc (.cells (ansA zeroAns) 39)).setRow w17.heap.size (ansA aB) = w18 at hSt ⊢
          generalize w17.heap.size = b23 at hSt ⊢
          have HS15 : Hid (St w [(b23, ansA aB, 39), (b22, ansA aA, 39), (b18, keyA (keyL d 0 p q), 30), (b17, keyA (keyL d i p q), 30), (b16, qryA o d i p q, 29), (b15, qryA e d i p q, 29)] w18) := hSt
          clear HS14 hSt
          go_wp2_with (refine stop_load 39 ?_)
          refine go_on ?_
          refine lst_val _ (exec_load_at w18 39 _ rfl b22 0 rfl (ansA aA) (Try.isAgg39 _) (Try.sizeOf39 _) (HS15.out.has (t := 39) (by simp))) ?_
          simp only [List.set_cons_succ, List.set_cons_zero]
          refine lst_val _ (exec_load_at w18 39 _ rfl b23 0 rfl (ansA aB) (Try.isAgg39 _) (Try.sizeOf39 _) (HS15.out.has (t := 39) (by simp))) ?_
          simp only [List.set_cons_succ, List.set_cons_zero]
          obtain ⟨n1, hn1⟩ : ∃ x, x = !decide (aA = aB) := ⟨_, rfl⟩
          refine lst_val (.bool n1) (by rw [hn1]; exact exec_neqans _ 39 (.tmp 87) (.tmp 88) rfl _ _ rfl rfl) ?_
          simp only [List.set_cons_succ, List.set_cons_zero]
          have FAB : Hid (aA = aB) := by
            show aA = aB
            rw [HaA.out, HaB.out]
            exact HAB.out
          have hn1f : n1 = false := by rw [hn1, decide_eq_true FAB.out]; rfl
          clear hn1
          rw [hn1f]
          clear n1 hn1f
          have F1 : Hid (¬ aA = rS → aA = rG) := by
            show ¬ aA = rS → aA = rG
            rw [HaA.out]
            exact F0.out
          clear F0 FAB HAB HaA HaB
          go_wp2_with (refine stop_binop .lss 3 ?_)
          refine go_on ?_
          obtain ⟨n1, hn1⟩ : ∃ x, x = decide (((qs : Int) : Int) < 0) := ⟨_, rfl⟩
          refine lst_val (.bool n1) (by rw [hn1]; exact exec_bin w18 .lss 3 3 (.tmp 90) (.const (.int .i64 0)) rfl .i64 ((qs : Int)) _ _ rfl rfl (run_lti _ 3 .i64 _ _)) ?_
          simp only [List.set_cons_succ, List.set_cons_zero]
          have hn1f : n1 = false := by rw [hn1]; exact decide_eq_false (by omega)
          clear hn1
          refine lst_val (.bool n1) (exec_move _ (.tmp 91) rfl _ rfl) ?_
          simp only [List.set_cons_succ, List.set_cons_zero]
          refine lst_skipg (by show (some n1 == some true) = false; rw [hn1f]; rfl) ?_
          simp only [List.set_cons_succ, List.set_cons_zero]
          refine lst_skipg (by show (some n1 == some true) = false; rw [hn1f]; rfl) ?_
          simp only [List.set_cons_succ, List.set_cons_zero]
          refine lst_val (.bool n1) (exec_pick _ (.tmp 92) (.tmp 94) (.const (.bool false)) rfl n1 rfl _ (by rw [hn1f]; rfl)) ?_
          simp only [List.set_cons_succ, List.set_cons_zero]
          rw [hn1f]
          clear n1 hn1f
          obtain ⟨bb, off, hao, hblt, hk8, gr⟩ := HROW.out qs hltS
          have HAO : Hid (ao = some ⟨bb, off, none⟩) := hao
          clear hao
          rw [← HRAS.out] at gr
          obtain ⟨kk, hkk⟩ : ∃ x, x = (T.getD qs row0).1 := ⟨_, rfl⟩
          rw [← hkk] at gr hk8
          clear hkk
          go_wp2_with fail
          refine wp_region_ord (fun w' => St w [(b23, ansA aB, 39), (b22, ansA aA, 39), (b18, keyA (keyL d 0 p q), 30), (b17, keyA (keyL d i p q), 30), (b16, qryA o d i p q, 29), (b15, qryA e d i p q, 29)] w') [(0, false), (1, false), (2, false), (3, false), (4, false), (5, false), (6, false), (7, false), (8, true), (9, false), (10, false)] (by kernel_rfl) (by kernel_rfl)
            (fun _ _ _ d _ h => by cases d <;> exact h) (by kernel_rfl) rfl ?_
          have hS := HS15.out.drew
          refine ord_val 99 rfl rfl rfl hS (.int .i64 (qs : Int)) (fun _ _ => rfl) ?_
          simp only [List.set_cons_succ, List.set_cons_zero]
          refine ord_val 100 rfl rfl rfl hS (.bool true) (fun wx _ => (exec_bin wx .geq 3 3 (.tmp 99) (.const (.int .i64 0)) rfl .i64 (qs : Int) _ _ rfl rfl (run_gei wx 3 .i64 _ _)).trans (by rw [decide_eq_true h0S])) ?_
          simp only [List.set_cons_succ, List.set_cons_zero]
          refine ord_val 101 rfl rfl rfl hS (.bool true) (fun _ _ => rfl) ?_
          simp only [List.set_cons_succ, List.set_cons_zero]
          refine ord_val 102 rfl rfl rfl hS (.agg (ansA aA)) (fun wx hw => exec_load_at wx 39 _ rfl b22 0 rfl _ (Try.isAgg39 wx) (Try.sizeOf39 wx) (hw.has (t := 39) (by simp))) ?_
          simp only [List.set_cons_succ, List.set_cons_zero]
          refine ord_val 103 rfl rfl rfl hS (.slice ao len cap) (fun _ _ => rfl) ?_
          simp only [List.set_cons_succ, List.set_cons_zero]
          refine ord_val 104 rfl rfl rfl hS (.int .i64 (qs : Int)) (fun _ _ => rfl) ?_
          simp only [List.set_cons_succ, List.set_cons_zero]
          refine ord_val 105 rfl rfl rfl hS (.pointer (some ⟨bb, off + qs * 19, none⟩)) (fun wx _ => exec_idx wx 24 48 19 _ _ rfl bb off len cap qs Try.underlying24 (Try.sizeOf48 wx) (by show Value.slice ao len cap = _; rw [HAO.out]) rfl hltS) ?_
          simp only [List.set_cons_succ, List.set_cons_zero]
          refine ord_val 106 rfl rfl rfl hS (.agg (rowA kk rS)) (fun wx hw => exec_load_at wx 48 _ rfl bb _ rfl _ (Try.isAgg48 wx) (by rw [rowA_size hk8]; exact Try.sizeOf48 wx) (gr.below hw.below hblt)) ?_
          simp only [List.set_cons_succ, List.set_cons_zero]
          refine ord_call 107 rfl rfl rfl 10 #[.agg (rowA kk rS)] (exec_call _ 10 _ _ rfl rfl _ rfl Try.call10) (toAnswer_c kk hk8 rS _) ?_
          rintro _ w19 ⟨rfl, hbz⟩
          have hSz := hS.step hbz
          refine ⟨_, rfl, hSz, ?_⟩
          simp only [List.set_cons_succ, List.set_cons_zero]
          clear hS
          have hS := hSz
          clear hSz
          refine ord_val 108 rfl rfl rfl hS (.bool (decide (aA = rS))) (fun wx _ => exec_eqans wx 39 (.tmp 102) (.tmp 107) rfl aA rS rfl rfl) ?_
          simp only [List.set_cons_succ, List.set_cons_zero]
          refine ord_val 109 rfl rfl rfl hS (.bool (decide (aA = rS))) (fun wx _ => exec_pick wx (.tmp 101) (.tmp 108) (.const (.bool false)) rfl true rfl _ rfl) ?_
          simp only [List.set_cons_succ, List.set_cons_zero]
          refine ord_done ?_
          clear hbz HAO hblt hk8 gr
          have HS16 : Hid (St w [(b23, ansA aB, 39), (b22, ansA aA, 39), (b18, keyA (keyL d 0 p q), 30), (b17, keyA (keyL d i p q), 30), (b16, qryA o d i p q, 29), (b15, qryA e d i p q, 29)] w19) := hS
          clear HS15 hS
          by_cases hes : aA = rS
          · rw [decide_eq_true hes]
            clear hes
            go_wp2_with fail
            go_ret
            exact ⟨rfl, HS16.out.below⟩
          · rw [decide_eq_false hes]
            have FG : Hid (aA = rG) := F1.out hes
            clear hes
            obtain ⟨bb, off, hao, hblt, hk8, gr⟩ := HROW.out qg hltG
            have HAO : Hid (ao = some ⟨bb, off, none⟩) := hao
            clear hao
            rw [← HRAG.out] at gr
            obtain ⟨kk, hkk⟩ : ∃ x, x = (T.getD qg row0).1 := ⟨_, rfl⟩
            rw [← hkk] at gr hk8
            clear hkk
            go_wp2_with fail
            refine wp_region_ord (fun w' => St w [(b23, ansA aB, 39), (b22, ansA aA, 39), (b18, keyA (keyL d 0 p q), 30), (b17, keyA (keyL d i p q), 30), (b16, qryA o d i p q, 29), (b15, qryA e d i p q, 29)] w') [(0, false), (1, false), (2, false), (3, false), (4, false), (5, false), (6, false), (7, false), (8, true), (9, false), (10, false), (11, false)] (by kernel_rfl) (by kernel_rfl)
              (fun _ _ _ d _ h => by cases d <;> exact h) (by kernel_rfl) rfl ?_
            have hS := HS16.out.drew
            refine ord_val 110 rfl rfl rfl hS (.int .i64 (qg : Int)) (fun _ _ => rfl) ?_
            simp only [List.set_cons_succ, List.set_cons_zero]
            refine ord_val 111 rfl rfl rfl hS (.bool true) (fun wx _ => (exec_bin wx .geq 3 3 (.tmp 110) (.const (.int .i64 0)) rfl .i64 (qg : Int) _ _ rfl rfl (run_gei wx 3 .i64 _ _)).trans (by rw [decide_eq_true h0G])) ?_
            simp only [List.set_cons_succ, List.set_cons_zero]
            refine ord_val 112 rfl rfl rfl hS (.bool true) (fun _ _ => rfl) ?_
            simp only [List.set_cons_succ, List.set_cons_zero]
            refine ord_val 113 rfl rfl rfl hS (.agg (ansA aA)) (fun wx hw => exec_load_at wx 39 _ rfl b22 0 rfl _ (Try.isAgg39 wx) (Try.sizeOf39 wx) (hw.has (t := 39) (by simp))) ?_
            simp only [List.set_cons_succ, List.set_cons_zero]
            refine ord_val 114 rfl rfl rfl hS (.slice ao len cap) (fun _ _ => rfl) ?_
            simp only [List.set_cons_succ, List.set_cons_zero]
            refine ord_val 115 rfl rfl rfl hS (.int .i64 (qg : Int)) (fun _ _ => rfl) ?_
            simp only [List.set_cons_succ, List.set_cons_zero]
            refine ord_val 116 rfl rfl rfl hS (.pointer (some ⟨bb, off + qg * 19, none⟩)) (fun wx _ => exec_idx wx 24 48 19 _ _ rfl bb off len cap qg Try.underlying24 (Try.sizeOf48 wx) (by show Value.slice ao len cap = _; rw [HAO.out]) rfl hltG) ?_
            simp only [List.set_cons_succ, List.set_cons_zero]
            refine ord_val 117 rfl rfl rfl hS (.agg (rowA kk rG)) (fun wx hw => exec_load_at wx 48 _ rfl bb _ rfl _ (Try.isAgg48 wx) (by rw [rowA_size hk8]; exact Try.sizeOf48 wx) (gr.below hw.below hblt)) ?_
            simp only [List.set_cons_succ, List.set_cons_zero]
            refine ord_call 118 rfl rfl rfl 10 #[.agg (rowA kk rG)] (exec_call _ 10 _ _ rfl rfl _ rfl Try.call10) (toAnswer_c kk hk8 rG _) ?_
            rintro _ w20 ⟨rfl, hbz⟩
            have hSz := hS.step hbz
            refine ⟨_, rfl, hSz, ?_⟩
            simp only [List.set_cons_succ, List.set_cons_zero]
            clear hS
            have hS := hSz
            clear hSz
            refine ord_val 119 rfl rfl rfl hS (.bool true) (fun wx _ => (exec_eqans wx 39 (.tmp 113) (.tmp 118) rfl aA rG rfl rfl).trans (by rw [decide_eq_true FG.out])) ?_
            simp only [List.set_cons_succ, List.set_cons_zero]
            refine ord_val 120 rfl rfl rfl hS (.bool true) (fun wx _ => exec_pick wx (.tmp 112) (.tmp 119) (.const (.bool false)) rfl true rfl _ rfl) ?_
            simp only [List.set_cons_succ, List.set_cons_zero]
            refine ord_val 14 rfl rfl rfl hS (.bool true) (fun _ _ => rfl) ?_
            simp only [List.set_cons_succ, List.set_cons_zero]
            refine ord_done ?_
            clear hbz HAO hblt hk8 gr
            have HS17 : Hid (St w [(b23, ansA aB, 39), (b22, ansA aA, 39), (b18, keyA (keyL d 0 p q), 30), (b17, keyA (keyL d i p q), 30), (b16, qryA o d i p q, 29), (b15, qryA e d i p q, 29)] w20) := hS
            clear HS16 hS
            go_wp2_with fail
            go_ret
            exact ⟨rfl, HS17.out.below⟩
        · skip
          subst hsm
          clear HSI
          have HLRS : Hid (lastRow T (keyL d i p q) = none) := hlrS
          clear hlrS
          have HAB : Hid (decideM (mapT false (keyL d 0 p q) T) d i p q = decideM (putM (([] : List Row)) (keyL d 0 p q) rG) d i p q) := decide_small T (keyL d 0 p q) d i p q (some rG) (none) HLRG.out HLRS.out
          have F0 : Hid (decideM (mapT false (keyL d 0 p q) T) d i p q = rG) := two_g T (keyL d 0 p q) d i p q rG HLRG.out HLRS.out
          clear HLRG HLRS
          obtain ⟨aA, haA⟩ : ∃ x, x = decideM (mapT false (keyL d 0 p q) T) d i p q := ⟨_, rfl⟩
          have HaA : Hid (aA = decideM (mapT false (keyL d 0 p q) T) d i p q) := haA
          clear haA
          go_wp2_with fail
          refine one_end (fun l b mb' => (((((l.set 79 (.agg (qryA e d i p q))).set 80 (.slice ao len cap)).set 81 (.agg (keyA (keyL d 0 p q)))).set 82 (.map (some mb'))).set 83 (.agg (ansA aA))).set 22 (.pointer (some ⟨b, 0, none⟩))) (fun b wn => St w13 [(b, ansA aA, 39)] wn) (fun _ _ _ d _ h => by cases d <;> exact h) ?_ (fun Q' hQ' hK => ?_)
          case refine_2 =>
            simp only [List.set_cons_succ, List.set_cons_zero] at hK
            refine wp_region_ordZ (fun w' => St w13 [] w') 6 5 [(0, false), (1, false), (2, false), (3, true), (4, true)] (by kernel_rfl) (by kernel_rfl) hQ' (by kernel_rfl) rfl ?_
            have hS : St w13 [] w13.drew := St.nil (Below.refl _ _).drew
            have hQ15 := HS11.out.has (b := b15) (cs := qryA e d i p q) (t := 29) (by simp)
            have hK18 := HS11.out.has (b := b18) (cs := keyA (keyL d 0 p q)) (t := 30) (by simp)
            have hL15 := HS11.out.all_lt (b15, qryA e d i p q, 29) (by simp)
            have hL18 := HS11.out.all_lt (b18, keyA (keyL d 0 p q), 30) (by simp)
            refine ordZ_val 79 rfl rfl rfl hS (.agg (qryA e d i p q)) (fun wx hw => exec_load_at wx 29 _ rfl b15 0 rfl _ (Try.isAgg29 wx) (Try.sizeOf29 wx) (hQ15.below hw.below hL15)) ?_
            simp only [List.set_cons_succ, List.set_cons_zero]
            refine ordZ_val 80 rfl rfl rfl hS (.slice ao len cap) (fun _ _ => rfl) ?_
            simp only [List.set_cons_succ, List.set_cons_zero]
            refine ordZ_val 81 rfl rfl rfl hS (.agg (keyA (keyL d 0 p q))) (fun wx hw => exec_load_at wx 30 _ rfl b18 0 rfl _ (Try.isAgg30 wx) (Try.sizeOf30 wx) (hK18.below hw.below hL18)) ?_
            simp only [List.set_cons_succ, List.set_cons_zero]
            refine ⟨?_, ?_⟩
            · skip
              refine op_call 82 rfl rfl rfl 8 #[.slice ao len cap, .bool false, .agg (keyA (keyL d 0 p q))] (exec_call _ 8 _ _ rfl rfl _ rfl Try.call8) (HTM.out HLE.out false _ (HS11.out.step hS.below).below) ?_
              rintro _ wa ⟨rfl, hmA, hbA⟩
              have hSA := hS.step hbA
              refine ⟨_, rfl, hSA, ?_⟩
              simp only [List.set_cons_succ, List.set_cons_zero]
              have hmA' := hmA
              refine ⟨?_, ?_⟩
              · skip
                refine op_call 83 rfl rfl rfl 7 #[.agg (qryA e d i p q), .map (some (w13.drew.heap.size + 1))] (exec_call _ 7 _ _ rfl rfl _ rfl Try.call7) (decideMap_c e d i p q hi hi1 hq hq1 _ _ _ hmA') ?_
                rintro _ wb ⟨rfl, hbB⟩
                have hSB := hSA.step hbB
                refine ⟨_, rfl, hSB, ?_⟩
                simp only [List.set_cons_succ, List.set_cons_zero]
                rw [← HaA.out]
                refine op_val (.pointer (some ⟨wb.heap.size, 0, none⟩)) rfl rfl rfl (exec_alloc wb 39 rfl _ (run_zero39 wb)) (hSB.alloc _ _) ?_
                simp only [List.set_cons_succ, List.set_cons_zero]
                have hSC := hSB.fresh (ansA zeroAns) 39
                refine ord_done ?_
                refine last_run rfl rfl rfl (exec_storeA _ 39 _ _ rfl (wb.heap.size) 0 (ansA aA) rfl rfl (Try.sizeOf39 _) (ansA zeroAns) 39 (hSC.get (by simp)) (Nat.le_refl _) (ansA_one _)) ?_
                rw [splice_all (ansA zeroAns) (ansA aA) rfl]
                exact hK _ _ _ (hSC.set (ansA aA))
              · skip
                refine op_val (.pointer (some ⟨wa.heap.size, 0, none⟩)) rfl rfl rfl (exec_alloc wa 39 rfl _ (run_zero39 wa)) (hSA.alloc _ _) ?_
                simp only [List.set_cons_succ, List.set_cons_zero]
                have hSC := hSA.fresh (ansA zeroAns) 39
                have hmA' := hmA.below ((Below.refl wa.heap.size wa).alloc (Nat.le_refl _) (.cells (ansA zeroAns) 39)) hmA.lt
                refine ord_call 83 rfl rfl rfl 7 #[.agg (qryA e d i p q), .map (some (w13.drew.heap.size + 1))] (exec_call _ 7 _ _ rfl rfl _ rfl Try.call7) (decideMap_c e d i p q hi hi1 hq hq1 _ _ _ hmA') ?_
                rintro _ wb ⟨rfl, hbB⟩
                have hSD := hSC.step hbB
                refine ⟨_, rfl, hSD.tail, ?_⟩
                simp only [List.set_cons_succ, List.set_cons_zero]
                rw [← HaA.out]
                refine ord_done ?_
                refine last_run rfl rfl rfl (exec_storeA _ 39 _ _ rfl (wa.heap.size) 0 (ansA aA) rfl rfl (Try.sizeOf39 _) (ansA zeroAns) 39 (hSD.get (by simp)) (Nat.le_refl _) (ansA_one _)) ?_
                rw [splice_all (ansA zeroAns) (ansA aA) rfl]
                exact hK _ _ _ (hSD.set (ansA aA))
            · skip
              refine op_val (.pointer (some ⟨w13.drew.heap.size, 0, none⟩)) rfl rfl rfl (exec_alloc w13.drew 39 rfl _ (run_zero39 w13.drew)) (hS.alloc _ _) ?_
              simp only [List.set_cons_succ, List.set_cons_zero]
              have hSC := hS.fresh (ansA zeroAns) 39
              refine ord_call 82 rfl rfl rfl 8 #[.slice ao len cap, .bool false, .agg (keyA (keyL d 0 p q))] (exec_call _ 8 _ _ rfl rfl _ rfl Try.call8) (HTM.out HLE.out false _ (HS11.out.step hSC.below).below) ?_
              rintro _ wa ⟨rfl, hmA, hbA⟩
              have hSD := hSC.step hbA
              refine ⟨_, rfl, hSD.tail, ?_⟩
              simp only [List.set_cons_succ, List.set_cons_zero]
              have hmA' := hmA
              refine ord_call 83 rfl rfl rfl 7 #[.agg (qryA e d i p q), .map (some ((w13.drew.alloc (.cells (ansA zeroAns) 39)).heap.size + 1))] (exec_call _ 7 _ _ rfl rfl _ rfl Try.call7) (decideMap_c e d i p q hi hi1 hq hq1 _ _ _ hmA') ?_
              rintro _ wb ⟨rfl, hbB⟩
              have hSE := hSD.step hbB
              refine ⟨_, rfl, hSE.tail, ?_⟩
              simp only [List.set_cons_succ, List.set_cons_zero]
              rw [← HaA.out]
              refine ord_done ?_
              refine last_run rfl rfl rfl (exec_storeA _ 39 _ _ rfl (w13.drew.heap.size) 0 (ansA aA) rfl rfl (Try.sizeOf39 _) (ansA zeroAns) 39 (hSE.get (by simp)) (Nat.le_refl _) (ansA_one _)) ?_
              rw [splice_all (ansA zeroAns) (ansA aA) rfl]
              exact hK _ _ _ (hSE.set (ansA aA))
          intro b22 mb' w14 hSt0
          simp only [List.set_cons_succ, List.set_cons_zero]
          have hSt := HS11.out.join hSt0
          have hMp := HM1.out.below hSt0.below HM1.out.lt
          have HS18 : Hid (St w [(b22, ansA aA, 39), (b18, keyA (keyL d 0 p q), 30), (b17, keyA (keyL d i p q), 30), (b16, qryA o d i p q, 29), (b15, qryA e d i p q, 29)] w14) := hSt
          clear HS11 hSt hSt0
          have HM4 : Hid (MapAt w14 mb (putM (([] : List Row)) (keyL d 0 p q) rG)) := hMp
          clear HM1 hMp
          go_wp2_with (refine stop_load 29 ?_)
          refine go_on ?_
          refine lst_val _ (exec_load_at w14 29 _ rfl b16 0 rfl (qryA o d i p q) (Try.isAgg29 _) (Try.sizeOf29 _) (HS18.out.has (t := 29) (by simp))) ?_
          simp only [List.set_cons_succ, List.set_cons_zero]
          obtain ⟨aB, haB⟩ : ∃ x, x = decideM (putM (([] : List Row)) (keyL d 0 p q) rG) d i p q := ⟨_, rfl⟩
          have HaB : Hid (aB = decideM (putM (([] : List Row)) (keyL d 0 p q) rG) d i p q) := haB
          go_wp2_with fail
          refine (decideMap_c o d i p q hi hi1 hq hq1 mb (putM (([] : List Row)) (keyL d 0 p q) rG) w14 HM4.out).mono ?_
          rintro _ w15 ⟨rfl, hb⟩
          rw [← haB]
          clear haB HM4
          have HS19 : Hid (St w [(b22, ansA aA, 39), (b18, keyA (keyL d 0 p q), 30), (b17, keyA (keyL d i p q), 30), (b16, qryA o d i p q, 29), (b15, qryA e d i p q, 29)] w15) := HS18.out.step hb
          clear HS18 hb
          go_wp2_with (refine stop_alloc 39 ?_)
          refine go_on ?_
          refine lst_val _ (exec_alloc w15 39 rfl _ (run_zero39 _)) ?_
          simp only [List.set_cons_succ, List.set_cons_zero]
          refine lst_sk (exec_storeA _ 39 _ _ rfl w15.heap.size 0 (ansA aB) rfl rfl (Try.sizeOf39 _) _ 39 (heap_alloc_new w15 _) (Nat.le_refl _) (ansA_one _)) ?_
          rw [splice_all (ansA zeroAns) (ansA aB) rfl]
          have hSt := HS19.out.new (ansA zeroAns) (ansA aB) 39
          generalize (w15.alloc (.cells (ansA zeroAns) 39)).setRow w15.heap.size (ansA aB) = w16 at hSt ⊢
          generalize w15.heap.size = b23 at hSt ⊢
          have HS20 : Hid (St w [(b23, ansA aB, 39), (b22, ansA aA, 39), (b18, keyA (keyL d 0 p q), 30), (b17, keyA (keyL d i p q), 30), (b16, qryA o d i p q, 29), (b15, qryA e d i p q, 29)] w16) := hSt
          clear HS19 hSt
          go_wp2_with (refine stop_load 39 ?_)
          refine go_on ?_
          refine lst_val _ (exec_load_at w16 39 _ rfl b22 0 rfl (ansA aA) (Try.isAgg39 _) (Try.sizeOf39 _) (HS20.out.has (t := 39) (by simp))) ?_
          simp only [List.set_cons_succ, List.set_cons_zero]
          refine lst_val _ (exec_load_at w16 39 _ rfl b23 0 rfl (ansA aB) (Try.isAgg39 _) (Try.sizeOf39 _) (HS20.out.has (t := 39) (by simp))) ?_
          simp only [List.set_cons_succ, List.set_cons_zero]
          obtain ⟨n1, hn1⟩ : ∃ x, x = !decide (aA = aB) := ⟨_, rfl⟩
          refine lst_val (.bool n1) (by rw [hn1]; exact exec_neqans _ 39 (.tmp 87) (.tmp 88) rfl _ _ rfl rfl) ?_
          simp only [List.set_cons_succ, List.set_cons_zero]
          have FAB : Hid (aA = aB) := by
            show aA = aB
            rw [HaA.out, HaB.out]
            exact HAB.out
          have hn1f : n1 = false := by rw [hn1, decide_eq_true FAB.out]; rfl
          clear hn1
          rw [hn1f]
          clear n1 hn1f
          have FG : Hid (aA = rG) := by
            show aA = rG
            rw [HaA.out]
            exact F0.out
          clear F0 FAB HAB HaA HaB
          go_wp2_with (refine stop_binop .lss 3 ?_)
          refine go_on ?_
          obtain ⟨n1, hn1⟩ : ∃ x, x = decide ((-1 : Int) < 0) := ⟨_, rfl⟩
          refine lst_val (.bool n1) (by rw [hn1]; exact exec_bin w16 .lss 3 3 (.tmp 90) (.const (.int .i64 0)) rfl .i64 (-1) _ _ rfl rfl (run_lti _ 3 .i64 _ _)) ?_
          simp only [List.set_cons_succ, List.set_cons_zero]
          have hn1f : n1 = true := by rw [hn1]; rfl
          clear hn1
          refine lst_val (.bool n1) (exec_move _ (.tmp 91) rfl _ rfl) ?_
          simp only [List.set_cons_succ, List.set_cons_zero]
          refine lst_valg (.int .i64 ((qg : Int))) (by show (some n1 == some true) = true; rw [hn1f]; rfl) (exec_move _ (.tmp 19) rfl _ rfl) ?_
          simp only [List.set_cons_succ, List.set_cons_zero]
          obtain ⟨n2, hn2⟩ : ∃ x, x = decide (((qg : Int) : Int) < 0) := ⟨_, rfl⟩
          refine lst_valg (.bool n2) (by show (some n1 == some true) = true; rw [hn1f]; rfl) (by rw [hn2]; exact exec_bin w16 .lss 3 3 (.tmp 93) (.const (.int .i64 0)) rfl .i64 ((qg : Int)) _ _ rfl rfl (run_lti _ 3 .i64 _ _)) ?_
          simp only [List.set_cons_succ, List.set_cons_zero]
          have hn2f : n2 = false := by rw [hn2]; exact decide_eq_false (by omega)
          clear hn2
          refine lst_val (.bool n2) (exec_pick _ (.tmp 92) (.tmp 94) (.const (.bool false)) rfl n1 rfl _ (by rw [hn1f]; rfl)) ?_
          simp only [List.set_cons_succ, List.set_cons_zero]
          rw [hn2f, hn1f]
          clear n1 n2 hn1f hn2f
          go_wp2_with fail
          refine wp_region_ord (fun w' => St w [(b23, ansA aB, 39), (b22, ansA aA, 39), (b18, keyA (keyL d 0 p q), 30), (b17, keyA (keyL d i p q), 30), (b16, qryA o d i p q, 29), (b15, qryA e d i p q, 29)] w') [(0, false), (1, false), (2, false), (3, false), (4, false), (5, false), (6, false), (7, false), (8, true), (9, false), (10, false)] (by kernel_rfl) (by kernel_rfl)
            (fun _ _ _ d _ h => by cases d <;> exact h) (by kernel_rfl) rfl ?_
          have hS := HS20.out.drew
          refine ord_val 99 rfl rfl rfl hS (.int .i64 (-1)) (fun _ _ => rfl) ?_
          simp only [List.set_cons_succ, List.set_cons_zero]
          refine ord_val 100 rfl rfl rfl hS (.bool false) (fun wx _ => exec_bin wx .geq 3 3 (.tmp 99) (.const (.int .i64 0)) rfl .i64 (-1) _ _ rfl rfl (run_gei wx 3 .i64 _ _)) ?_
          simp only [List.set_cons_succ, List.set_cons_zero]
          refine ord_val 101 rfl rfl rfl hS (.bool false) (fun _ _ => rfl) ?_
          simp only [List.set_cons_succ, List.set_cons_zero]
          refine ord_skip 102 rfl rfl rfl hS ?_
          simp only [List.set_cons_succ, List.set_cons_zero]
          refine ord_skip 103 rfl rfl rfl hS ?_
          simp only [List.set_cons_succ, List.set_cons_zero]
          refine ord_skip 104 rfl rfl rfl hS ?_
          simp only [List.set_cons_succ, List.set_cons_zero]
          refine ord_skip 105 rfl rfl rfl hS ?_
          simp only [List.set_cons_succ, List.set_cons_zero]
          refine ord_skip 106 rfl rfl rfl hS ?_
          simp only [List.set_cons_succ, List.set_cons_zero]
          refine ord_eff_skip 107 rfl rfl rfl hS ?_
          simp only [List.set_cons_succ, List.set_cons_zero]
          refine ord_skip 108 rfl rfl rfl hS ?_
          simp only [List.set_cons_succ, List.set_cons_zero]
          refine ord_val 109 rfl rfl rfl hS (.bool false) (fun wx _ => exec_pick wx (.tmp 101) (.tmp 108) (.const (.bool false)) rfl false rfl _ rfl) ?_
          simp only [List.set_cons_succ, List.set_cons_zero]
          refine ord_done ?_
          have HS21 : Hid (St w [(b23, ansA aB, 39), (b22, ansA aA, 39), (b18, keyA (keyL d 0 p q), 30), (b17, keyA (keyL d i p q), 30), (b16, qryA o d i p q, 29), (b15, qryA e d i p q, 29)] w16.drew) := hS
          clear HS20 hS
          generalize w16.drew = w17 at *
          obtain ⟨bb, off, hao, hblt, hk8, gr⟩ := HROW.out qg hltG
          have HAO : Hid (ao = some ⟨bb, off, none⟩) := hao
          clear hao
          rw [← HRAG.out] at gr
          obtain ⟨kk, hkk⟩ : ∃ x, x = (T.getD qg row0).1 := ⟨_, rfl⟩
          rw [← hkk] at gr hk8
          clear hkk
          go_wp2_with fail
          refine wp_region_ord (fun w' => St w [(b23, ansA aB, 39), (b22, ansA aA, 39), (b18, keyA (keyL d 0 p q), 30), (b17, keyA (keyL d i p q), 30), (b16, qryA o d i p q, 29), (b15, qryA e d i p q, 29)] w') [(0, false), (1, false), (2, false), (3, false), (4, false), (5, false), (6, false), (7, false), (8, true), (9, false), (10, false), (11, false)] (by kernel_rfl) (by kernel_rfl)
            (fun _ _ _ d _ h => by cases d <;> exact h) (by kernel_rfl) rfl ?_
          have hS := HS21.out.drew
          refine ord_val 110 rfl rfl rfl hS (.int .i64 (qg : Int)) (fun _ _ => rfl) ?_
          simp only [List.set_cons_succ, List.set_cons_zero]
          refine ord_val 111 rfl rfl rfl hS (.bool true) (fun wx _ => (exec_bin wx .geq 3 3 (.tmp 110) (.const (.int .i64 0)) rfl .i64 (qg : Int) _ _ rfl rfl (run_gei wx 3 .i64 _ _)).trans (by rw [decide_eq_true h0G])) ?_
          simp only [List.set_cons_succ, List.set_cons_zero]
          refine ord_val 112 rfl rfl rfl hS (.bool true) (fun _ _ => rfl) ?_
          simp only [List.set_cons_succ, List.set_cons_zero]
          refine ord_val 113 rfl rfl rfl hS (.agg (ansA aA)) (fun wx hw => exec_load_at wx 39 _ rfl b22 0 rfl _ (Try.isAgg39 wx) (Try.sizeOf39 wx) (hw.has (t := 39) (by simp))) ?_
          simp only [List.set_cons_succ, List.set_cons_zero]
          refine ord_val 114 rfl rfl rfl hS (.slice ao len cap) (fun _ _ => rfl) ?_
          simp only [List.set_cons_succ, List.set_cons_zero]
          refine ord_val 115 rfl rfl rfl hS (.int .i64 (qg : Int)) (fun _ _ => rfl) ?_
          simp only [List.set_cons_succ, List.set_cons_zero]
          refine ord_val 116 rfl rfl rfl hS (.pointer (some ⟨bb, off + qg * 19, none⟩)) (fun wx _ => exec_idx wx 24 48 19 _ _ rfl bb off len cap qg Try.underlying24 (Try.sizeOf48 wx) (by show Value.slice ao len cap = _; rw [HAO.out]) rfl hltG) ?_
          simp only [List.set_cons_succ, List.set_cons_zero]
          refine ord_val 117 rfl rfl rfl hS (.agg (rowA kk rG)) (fun wx hw => exec_load_at wx 48 _ rfl bb _ rfl _ (Try.isAgg48 wx) (by rw [rowA_size hk8]; exact Try.sizeOf48 wx) (gr.below hw.below hblt)) ?_
          simp only [List.set_cons_succ, List.set_cons_zero]
          refine ord_call 118 rfl rfl rfl 10 #[.agg (rowA kk rG)] (exec_call _ 10 _ _ rfl rfl _ rfl Try.call10) (toAnswer_c kk hk8 rG _) ?_
          rintro _ w18 ⟨rfl, hbz⟩
          have hSz := hS.step hbz
          refine ⟨_, rfl, hSz, ?_⟩
          simp only [List.set_cons_succ, List.set_cons_zero]
          clear hS
          have hS := hSz
          clear hSz
          refine ord_val 119 rfl rfl rfl hS (.bool true) (fun wx _ => (exec_eqans wx 39 (.tmp 113) (.tmp 118) rfl aA rG rfl rfl).trans (by rw [decide_eq_true FG.out])) ?_
          simp only [List.set_cons_succ, List.set_cons_zero]
          refine ord_val 120 rfl rfl rfl hS (.bool true) (fun wx _ => exec_pick wx (.tmp 112) (.tmp 119) (.const (.bool false)) rfl true rfl _ rfl) ?_
          simp only [List.set_cons_succ, List.set_cons_zero]
          refine ord_val 14 rfl rfl rfl hS (.bool true) (fun _ _ => rfl) ?_
          simp only [List.set_cons_succ, List.set_cons_zero]
          refine ord_done ?_
          clear hbz HAO hblt hk8 gr
          have HS22 : Hid (St w [(b23, ansA aB, 39), (b22, ansA aA, 39), (b18, keyA (keyL d 0 p q), 30), (b17, keyA (keyL d i p q), 30), (b16, qryA o d i p q, 29), (b15, qryA e d i p q, 29)] w18) := hS
          clear HS21 hS
          go_wp2_with fail
          go_ret
          exact ⟨rfl, HS22.out.below⟩
      · skip
        subst hgm
        clear HGI
        have HLRG : Hid (lastRow T (keyL d 0 p q) = none) := hlrG
        clear hlrG
        rcases HSI.out with ⟨qs, hqS, hsq, _, hlrS⟩ | ⟨hsm, hlrS⟩
        · skip
          subst hsq
          clear HSI
          obtain ⟨rS, hrS⟩ : ∃ x, x = (T.getD qs row0).2 := ⟨_, rfl⟩
          rw [← hrS] at hlrS
          have HRAS : Hid (rS = (T.getD qs row0).2) := hrS
          have HLRS : Hid (lastRow T (keyL d i p q) = some rS) := hlrS
          have hltS : qs < len := by rw [HL.out]; exact hqS
          clear hrS hlrS hqS
          have h0S : (0 : Int) ≤ (qs : Int) := by omega
          obtain ⟨bb, off, hao, hblt, hk8, gr⟩ := HROW.out qs hltS
          have HAO : Hid (ao = some ⟨bb, off, none⟩) := hao
          clear hao
          rw [← HRAS.out] at gr
          obtain ⟨kk, hkk⟩ : ∃ x, x = (T.getD qs row0).1 := ⟨_, rfl⟩
          rw [← hkk] at gr hk8
          clear hkk
          go_wp2_with fail
          refine wp_region_ordT (fun w' => St w [(b18, keyA (keyL d 0 p q), 30), (b17, keyA (keyL d i p q), 30), (b16, qryA o d i p q, 29), (b15, qryA e d i p q, 29)] w') 7 [(0, false), (1, false), (2, false), (3, false), (4, false), (5, false), (6, true)] (by kernel_rfl) (by kernel_rfl)
            (fun _ _ _ d _ h => by cases d <;> exact h) (by kernel_rfl) rfl ?_
          have hS := HS10.out.drew
          refine ord_val 72 rfl rfl rfl hS (.map (some mb)) (fun _ _ => rfl) ?_
          simp only [List.set_cons_succ, List.set_cons_zero]
          refine ord_val 73 rfl rfl rfl hS (.agg (keyA (keyL d i p q))) (fun wx hw => exec_load_at wx 30 _ rfl b17 0 rfl _ (Try.isAgg30 wx) (Try.sizeOf30 wx) (hw.has (t := 30) (by simp))) ?_
          simp only [List.set_cons_succ, List.set_cons_zero]
          refine ord_val 74 rfl rfl rfl hS (.slice ao len cap) (fun _ _ => rfl) ?_
          simp only [List.set_cons_succ, List.set_cons_zero]
          refine ord_val 75 rfl rfl rfl hS (.int .i64 (qs : Int)) (fun _ _ => rfl) ?_
          simp only [List.set_cons_succ, List.set_cons_zero]
          refine ord_val 76 rfl rfl rfl hS (.pointer (some ⟨bb, off + qs * 19, none⟩)) (fun wx _ => exec_idx wx 24 48 19 _ _ rfl bb off len cap qs Try.underlying24 (Try.sizeOf48 wx) (by show Value.slice ao len cap = _; rw [HAO.out]) rfl hltS) ?_
          simp only [List.set_cons_succ, List.set_cons_zero]
          refine ord_val 77 rfl rfl rfl hS (.agg (rowA kk rS)) (fun wx hw => exec_load_at wx 48 _ rfl bb _ rfl _ (Try.isAgg48 wx) (by rw [rowA_size hk8]; exact Try.sizeOf48 wx) (gr.below hw.below hblt)) ?_
          simp only [List.set_cons_succ, List.set_cons_zero]
          refine ord_call 78 rfl rfl rfl 10 #[.agg (rowA kk rS)] (exec_call _ 10 _ _ rfl rfl _ rfl Try.call10) (toAnswer_c kk hk8 rS _) ?_
          rintro _ w12 ⟨rfl, hbz⟩
          have hSz := hS.step hbz
          refine ⟨_, rfl, hSz, ?_⟩
          simp only [List.set_cons_succ, List.set_cons_zero]
          refine ord_done ?_
          have hmz : MapAt w12 mb (([] : List Row)) := HM0.out.below ((Below.refl w11.heap.size w11).drew.trans hbz) HM0.out.lt
          obtain ⟨w13, hr, hm', hg'⟩ := run_update w12 mb (([] : List Row)) hmz (keyL d i p q) rfl rS
          refine last_run rfl rfl rfl (exec_update w12 w13 41 (.tmp 72) (.tmp 73) (.tmp 78) rfl _ _ _ rfl rfl rfl hr) ?_
          have hSt := hSz.grown hg' HLT.out HMW.out
          clear hS hSz hbz hmz hr hg' HAO hblt hk8 gr
          have HS23 : Hid (St w [(b18, keyA (keyL d 0 p q), 30), (b17, keyA (keyL d i p q), 30), (b16, qryA o d i p q, 29), (b15, qryA e d i p q, 29)] w13) := hSt
          clear HS10 hSt
          have HM5 : Hid (MapAt w13 mb (putM (([] : List Row)) (keyL d i p q) rS)) := hm'
          clear HM0 hm'
          have HAB : Hid (decideM (mapT false (keyL d 0 p q) T) d i p q = decideM (putM (([] : List Row)) (keyL d i p q) rS) d i p q) := decide_small T (keyL d 0 p q) d i p q (none) (some rS) HLRG.out HLRS.out
          have F0 : Hid (decideM (mapT false (keyL d 0 p q) T) d i p q = rS) := two_s T (keyL d 0 p q) d i p q rS HLRG.out HLRS.out
          clear HLRG HLRS
          obtain ⟨aA, haA⟩ : ∃ x, x = decideM (mapT false (keyL d 0 p q) T) d i p q := ⟨_, rfl⟩
          have HaA : Hid (aA = decideM (mapT false (keyL d 0 p q) T) d i p q) := haA
          clear haA
          go_wp2_with fail
          refine one_end (fun l b mb' => (((((l.set 79 (.agg (qryA e d i p q))).set 80 (.slice ao len cap)).set 81 (.agg (keyA (keyL d 0 p q)))).set 82 (.map (some mb'))).set 83 (.agg (ansA aA))).set 22 (.pointer (some ⟨b, 0, none⟩))) (fun b wn => St w13 [(b, ansA aA, 39)] wn) (fun _ _ _ d _ h => by cases d <;> exact h) ?_ (fun Q' hQ' hK => ?_)
          case refine_2 =>
            simp only [List.set_cons_succ, List.set_cons_zero] at hK
            refine wp_region_ordZ (fun w' => St w13 [] w') 6 5 [(0, false), (1, false), (2, false), (3, true), (4, true)] (by kernel_rfl) (by kernel_rfl) hQ' (by kernel_rfl) rfl ?_
            have hS : St w13 [] w13.drew := St.nil (Below.refl _ _).drew
            have hQ15 := HS23.out.has (b := b15) (cs := qryA e d i p q) (t := 29) (by simp)
            have hK18 := HS23.out.has (b := b18) (cs := keyA (keyL d 0 p q)) (t := 30) (by simp)
            have hL15 := HS23.out.all_lt (b15, qryA e d i p q, 29) (by simp)
            have hL18 := HS23.out.all_lt (b18, keyA (keyL d 0 p q), 30) (by simp)
            refine ordZ_val 79 rfl rfl rfl hS (.agg (qryA e d i p q)) (fun wx hw => exec_load_at wx 29 _ rfl b15 0 rfl _ (Try.isAgg29 wx) (Try.sizeOf29 wx) (hQ15.below hw.below hL15)) ?_
            simp only [List.set_cons_succ, List.set_cons_zero]
            refine ordZ_val 80 rfl rfl rfl hS (.slice ao len cap) (fun _ _ => rfl) ?_
            simp only [List.set_cons_succ, List.set_cons_zero]
            refine ordZ_val 81 rfl rfl rfl hS (.agg (keyA (keyL d 0 p q))) (fun wx hw => exec_load_at wx 30 _ rfl b18 0 rfl _ (Try.isAgg30 wx) (Try.sizeOf30 wx) (hK18.below hw.below hL18)) ?_
            simp only [List.set_cons_succ, List.set_cons_zero]
            refine ⟨?_, ?_⟩
            · skip
              refine op_call 82 rfl rfl rfl 8 #[.slice ao len cap, .bool false, .agg (keyA (keyL d 0 p q))] (exec_call _ 8 _ _ rfl rfl _ rfl Try.call8) (HTM.out HLE.out false _ (HS23.out.step hS.below).below) ?_
              rintro _ wa ⟨rfl, hmA, hbA⟩
              have hSA := hS.step hbA
              refine ⟨_, rfl, hSA, ?_⟩
              simp only [List.set_cons_succ, List.set_cons_zero]
              have hmA' := hmA
              refine ⟨?_, ?_⟩
              · skip
                refine op_call 83 rfl rfl rfl 7 #[.agg (qryA e d i p q), .map (some (w13.drew.heap.size + 1))] (exec_call _ 7 _ _ rfl rfl _ rfl Try.call7) (decideMap_c e d i p q hi hi1 hq hq1 _ _ _ hmA') ?_
                rintro _ wb ⟨rfl, hbB⟩
                have hSB := hSA.step hbB
                refine ⟨_, rfl, hSB, ?_⟩
                simp only [List.set_cons_succ, List.set_cons_zero]
                rw [← HaA.out]
                refine op_val (.pointer (some ⟨wb.heap.size, 0, none⟩)) rfl rfl rfl (exec_alloc wb 39 rfl _ (run_zero39 wb)) (hSB.alloc _ _) ?_
                simp only [List.set_cons_succ, List.set_cons_zero]
                have hSC := hSB.fresh (ansA zeroAns) 39
                refine ord_done ?_
                refine last_run rfl rfl rfl (exec_storeA _ 39 _ _ rfl (wb.heap.size) 0 (ansA aA) rfl rfl (Try.sizeOf39 _) (ansA zeroAns) 39 (hSC.get (by simp)) (Nat.le_refl _) (ansA_one _)) ?_
                rw [splice_all (ansA zeroAns) (ansA aA) rfl]
                exact hK _ _ _ (hSC.set (ansA aA))
              · skip
                refine op_val (.pointer (some ⟨wa.heap.size, 0, none⟩)) rfl rfl rfl (exec_alloc wa 39 rfl _ (run_zero39 wa)) (hSA.alloc _ _) ?_
                simp only [List.set_cons_succ, List.set_cons_zero]
                have hSC := hSA.fresh (ansA zeroAns) 39
                have hmA' := hmA.below ((Below.refl wa.heap.size wa).alloc (Nat.le_refl _) (.cells (ansA zeroAns) 39)) hmA.lt
                refine ord_call 83 rfl rfl rfl 7 #[.agg (qryA e d i p q), .map (some (w13.drew.heap.size + 1))] (exec_call _ 7 _ _ rfl rfl _ rfl Try.call7) (decideMap_c e d i p q hi hi1 hq hq1 _ _ _ hmA') ?_
                rintro _ wb ⟨rfl, hbB⟩
                have hSD := hSC.step hbB
                refine ⟨_, rfl, hSD.tail, ?_⟩
                simp only [List.set_cons_succ, List.set_cons_zero]
                rw [← HaA.out]
                refine ord_done ?_
                refine last_run rfl rfl rfl (exec_storeA _ 39 _ _ rfl (wa.heap.size) 0 (ansA aA) rfl rfl (Try.sizeOf39 _) (ansA zeroAns) 39 (hSD.get (by simp)) (Nat.le_refl _) (ansA_one _)) ?_
                rw [splice_all (ansA zeroAns) (ansA aA) rfl]
                exact hK _ _ _ (hSD.set (ansA aA))
            · skip
              refine op_val (.pointer (some ⟨w13.drew.heap.size, 0, none⟩)) rfl rfl rfl (exec_alloc w13.drew 39 rfl _ (run_zero39 w13.drew)) (hS.alloc _ _) ?_
              simp only [List.set_cons_succ, List.set_cons_zero]
              have hSC := hS.fresh (ansA zeroAns) 39
              refine ord_call 82 rfl rfl rfl 8 #[.slice ao len cap, .bool false, .agg (keyA (keyL d 0 p q))] (exec_call _ 8 _ _ rfl rfl _ rfl Try.call8) (HTM.out HLE.out false _ (HS23.out.step hSC.below).below) ?_
              rintro _ wa ⟨rfl, hmA, hbA⟩
              have hSD := hSC.step hbA
              refine ⟨_, rfl, hSD.tail, ?_⟩
              simp only [List.set_cons_succ, List.set_cons_zero]
              have hmA' := hmA
              refine ord_call 83 rfl rfl rfl 7 #[.agg (qryA e d i p q), .map (some ((w13.drew.alloc (.cells (ansA zeroAns) 39)).heap.size + 1))] (exec_call _ 7 _ _ rfl rfl _ rfl Try.call7) (decideMap_c e d i p q hi hi1 hq hq1 _ _ _ hmA') ?_
              rintro _ wb ⟨rfl, hbB⟩
              have hSE := hSD.step hbB
              refine ⟨_, rfl, hSE.tail, ?_⟩
              simp only [List.set_cons_succ, List.set_cons_zero]
              rw [← HaA.out]
              refine ord_done ?_
              refine last_run rfl rfl rfl (exec_storeA _ 39 _ _ rfl (w13.drew.heap.size) 0 (ansA aA) rfl rfl (Try.sizeOf39 _) (ansA zeroAns) 39 (hSE.get (by simp)) (Nat.le_refl _) (ansA_one _)) ?_
              rw [splice_all (ansA zeroAns) (ansA aA) rfl]
              exact hK _ _ _ (hSE.set (ansA aA))
          intro b22 mb' w14 hSt0
          simp only [List.set_cons_succ, List.set_cons_zero]
          have hSt := HS23.out.join hSt0
          have hMp := HM5.out.below hSt0.below HM5.out.lt
          have HS24 : Hid (St w [(b22, ansA aA, 39), (b18, keyA (keyL d 0 p q), 30), (b17, keyA (keyL d i p q), 30), (b16, qryA o d i p q, 29), (b15, qryA e d i p q, 29)] w14) := hSt
          clear HS23 hSt hSt0
          have HM6 : Hid (MapAt w14 mb (putM (([] : List Row)) (keyL d i p q) rS)) := hMp
          clear HM5 hMp
          go_wp2_with (refine stop_load 29 ?_)
          refine go_on ?_
          refine lst_val _ (exec_load_at w14 29 _ rfl b16 0 rfl (qryA o d i p q) (Try.isAgg29 _) (Try.sizeOf29 _) (HS24.out.has (t := 29) (by simp))) ?_
          simp only [List.set_cons_succ, List.set_cons_zero]
          obtain ⟨aB, haB⟩ : ∃ x, x = decideM (putM (([] : List Row)) (keyL d i p q) rS) d i p q := ⟨_, rfl⟩
          have HaB : Hid (aB = decideM (putM (([] : List Row)) (keyL d i p q) rS) d i p q) := haB
          go_wp2_with fail
          refine (decideMap_c o d i p q hi hi1 hq hq1 mb (putM (([] : List Row)) (keyL d i p q) rS) w14 HM6.out).mono ?_
          rintro _ w15 ⟨rfl, hb⟩
          rw [← haB]
          clear haB HM6
          have HS25 : Hid (St w [(b22, ansA aA, 39), (b18, keyA (keyL d 0 p q), 30), (b17, keyA (keyL d i p q), 30), (b16, qryA o d i p q, 29), (b15, qryA e d i p q, 29)] w15) := HS24.out.step hb
          clear HS24 hb
          go_wp2_with (refine stop_alloc 39 ?_)
          refine go_on ?_
          refine lst_val _ (exec_alloc w15 39 rfl _ (run_zero39 _)) ?_
          simp only [List.set_cons_succ, List.set_cons_zero]
          refine lst_sk (exec_storeA _ 39 _ _ rfl w15.heap.size 0 (ansA aB) rfl rfl (Try.sizeOf39 _) _ 39 (heap_alloc_new w15 _) (Nat.le_refl _) (ansA_one _)) ?_
          rw [splice_all (ansA zeroAns) (ansA aB) rfl]
          have hSt := HS25.out.new (ansA zeroAns) (ansA aB) 39
          generalize (w15.alloc (.cells (ansA zeroAns) 39)).setRow w15.heap.size (ansA aB) = w16 at hSt ⊢
          generalize w15.heap.size = b23 at hSt ⊢
          have HS26 : Hid (St w [(b23, ansA aB, 39), (b22, ansA aA, 39), (b18, keyA (keyL d 0 p q), 30), (b17, keyA (keyL d i p q), 30), (b16, qryA o d i p q, 29), (b15, qryA e d i p q, 29)] w16) := hSt
          clear HS25 hSt
          go_wp2_with (refine stop_load 39 ?_)
          refine go_on ?_
          refine lst_val _ (exec_load_at w16 39 _ rfl b22 0 rfl (ansA aA) (Try.isAgg39 _) (Try.sizeOf39 _) (HS26.out.has (t := 39) (by simp))) ?_
          simp only [List.set_cons_succ, List.set_cons_zero]
          refine lst_val _ (exec_load_at w16 39 _ rfl b23 0 rfl (ansA aB) (Try.isAgg39 _) (Try.sizeOf39 _) (HS26.out.has (t := 39) (by simp))) ?_
          simp only [List.set_cons_succ, List.set_cons_zero]
          obtain ⟨n1, hn1⟩ : ∃ x, x = !decide (aA = aB) := ⟨_, rfl⟩
          refine lst_val (.bool n1) (by rw [hn1]; exact exec_neqans _ 39 (.tmp 87) (.tmp 88) rfl _ _ rfl rfl) ?_
          simp only [List.set_cons_succ, List.set_cons_zero]
          have FAB : Hid (aA = aB) := by
            show aA = aB
            rw [HaA.out, HaB.out]
            exact HAB.out
          have hn1f : n1 = false := by rw [hn1, decide_eq_true FAB.out]; rfl
          clear hn1
          rw [hn1f]
          clear n1 hn1f
          have FSS : Hid (aA = rS) := by
            show aA = rS
            rw [HaA.out]
            exact F0.out
          clear F0 FAB HAB HaA HaB
          go_wp2_with (refine stop_binop .lss 3 ?_)
          refine go_on ?_
          obtain ⟨n1, hn1⟩ : ∃ x, x = decide (((qs : Int) : Int) < 0) := ⟨_, rfl⟩
          refine lst_val (.bool n1) (by rw [hn1]; exact exec_bin w16 .lss 3 3 (.tmp 90) (.const (.int .i64 0)) rfl .i64 ((qs : Int)) _ _ rfl rfl (run_lti _ 3 .i64 _ _)) ?_
          simp only [List.set_cons_succ, List.set_cons_zero]
          have hn1f : n1 = false := by rw [hn1]; exact decide_eq_false (by omega)
          clear hn1
          refine lst_val (.bool n1) (exec_move _ (.tmp 91) rfl _ rfl) ?_
          simp only [List.set_cons_succ, List.set_cons_zero]
          refine lst_skipg (by show (some n1 == some true) = false; rw [hn1f]; rfl) ?_
          simp only [List.set_cons_succ, List.set_cons_zero]
          refine lst_skipg (by show (some n1 == some true) = false; rw [hn1f]; rfl) ?_
          simp only [List.set_cons_succ, List.set_cons_zero]
          refine lst_val (.bool n1) (exec_pick _ (.tmp 92) (.tmp 94) (.const (.bool false)) rfl n1 rfl _ (by rw [hn1f]; rfl)) ?_
          simp only [List.set_cons_succ, List.set_cons_zero]
          rw [hn1f]
          clear n1 hn1f
          obtain ⟨bb, off, hao, hblt, hk8, gr⟩ := HROW.out qs hltS
          have HAO : Hid (ao = some ⟨bb, off, none⟩) := hao
          clear hao
          rw [← HRAS.out] at gr
          obtain ⟨kk, hkk⟩ : ∃ x, x = (T.getD qs row0).1 := ⟨_, rfl⟩
          rw [← hkk] at gr hk8
          clear hkk
          go_wp2_with fail
          refine wp_region_ord (fun w' => St w [(b23, ansA aB, 39), (b22, ansA aA, 39), (b18, keyA (keyL d 0 p q), 30), (b17, keyA (keyL d i p q), 30), (b16, qryA o d i p q, 29), (b15, qryA e d i p q, 29)] w') [(0, false), (1, false), (2, false), (3, false), (4, false), (5, false), (6, false), (7, false), (8, true), (9, false), (10, false)] (by kernel_rfl) (by kernel_rfl)
            (fun _ _ _ d _ h => by cases d <;> exact h) (by kernel_rfl) rfl ?_
          have hS := HS26.out.drew
          refine ord_val 99 rfl rfl rfl hS (.int .i64 (qs : Int)) (fun _ _ => rfl) ?_
          simp only [List.set_cons_succ, List.set_cons_zero]
          refine ord_val 100 rfl rfl rfl hS (.bool true) (fun wx _ => (exec_bin wx .geq 3 3 (.tmp 99) (.const (.int .i64 0)) rfl .i64 (qs : Int) _ _ rfl rfl (run_gei wx 3 .i64 _ _)).trans (by rw [decide_eq_true h0S])) ?_
          simp only [List.set_cons_succ, List.set_cons_zero]
          refine ord_val 101 rfl rfl rfl hS (.bool true) (fun _ _ => rfl) ?_
          simp only [List.set_cons_succ, List.set_cons_zero]
          refine ord_val 102 rfl rfl rfl hS (.agg (ansA aA)) (fun wx hw => exec_load_at wx 39 _ rfl b22 0 rfl _ (Try.isAgg39 wx) (Try.sizeOf39 wx) (hw.has (t := 39) (by simp))) ?_
          simp only [List.set_cons_succ, List.set_cons_zero]
          refine ord_val 103 rfl rfl rfl hS (.slice ao len cap) (fun _ _ => rfl) ?_
          simp only [List.set_cons_succ, List.set_cons_zero]
          refine ord_val 104 rfl rfl rfl hS (.int .i64 (qs : Int)) (fun _ _ => rfl) ?_
          simp only [List.set_cons_succ, List.set_cons_zero]
          refine ord_val 105 rfl rfl rfl hS (.pointer (some ⟨bb, off + qs * 19, none⟩)) (fun wx _ => exec_idx wx 24 48 19 _ _ rfl bb off len cap qs Try.underlying24 (Try.sizeOf48 wx) (by show Value.slice ao len cap = _; rw [HAO.out]) rfl hltS) ?_
          simp only [List.set_cons_succ, List.set_cons_zero]
          refine ord_val 106 rfl rfl rfl hS (.agg (rowA kk rS)) (fun wx hw => exec_load_at wx 48 _ rfl bb _ rfl _ (Try.isAgg48 wx) (by rw [rowA_size hk8]; exact Try.sizeOf48 wx) (gr.below hw.below hblt)) ?_
          simp only [List.set_cons_succ, List.set_cons_zero]
          refine ord_call 107 rfl rfl rfl 10 #[.agg (rowA kk rS)] (exec_call _ 10 _ _ rfl rfl _ rfl Try.call10) (toAnswer_c kk hk8 rS _) ?_
          rintro _ w17 ⟨rfl, hbz⟩
          have hSz := hS.step hbz
          refine ⟨_, rfl, hSz, ?_⟩
          simp only [List.set_cons_succ, List.set_cons_zero]
          clear hS
          have hS := hSz
          clear hSz
          refine ord_val 108 rfl rfl rfl hS (.bool (decide (aA = rS))) (fun wx _ => exec_eqans wx 39 (.tmp 102) (.tmp 107) rfl aA rS rfl rfl) ?_
          simp only [List.set_cons_succ, List.set_cons_zero]
          refine ord_val 109 rfl rfl rfl hS (.bool (decide (aA = rS))) (fun wx _ => exec_pick wx (.tmp 101) (.tmp 108) (.const (.bool false)) rfl true rfl _ rfl) ?_
          simp only [List.set_cons_succ, List.set_cons_zero]
          refine ord_done ?_
          clear hbz HAO hblt hk8 gr
          have HS27 : Hid (St w [(b23, ansA aB, 39), (b22, ansA aA, 39), (b18, keyA (keyL d 0 p q), 30), (b17, keyA (keyL d i p q), 30), (b16, qryA o d i p q, 29), (b15, qryA e d i p q, 29)] w17) := hS
          clear HS26 hS
          rw [decide_eq_true FSS.out]
          go_wp2_with fail
          go_ret
          exact ⟨rfl, HS27.out.below⟩
        · skip
          subst hsm
          clear HSI
          have HLRS : Hid (lastRow T (keyL d i p q) = none) := hlrS
          clear hlrS
          have HAB : Hid (decideM (mapT false (keyL d 0 p q) T) d i p q = decideM (([] : List Row)) d i p q) := decide_small T (keyL d 0 p q) d i p q (none) (none) HLRG.out HLRS.out
          have F0 : Hid (decideM (mapT false (keyL d 0 p q) T) d i p q = deny) := two_none T (keyL d 0 p q) d i p q HLRG.out HLRS.out
          clear HLRG HLRS
          obtain ⟨aA, haA⟩ : ∃ x, x = decideM (mapT false (keyL d 0 p q) T) d i p q := ⟨_, rfl⟩
          have HaA : Hid (aA = decideM (mapT false (keyL d 0 p q) T) d i p q) := haA
          clear haA
          go_wp2_with fail
          refine one_end (fun l b mb' => (((((l.set 79 (.agg (qryA e d i p q))).set 80 (.slice ao len cap)).set 81 (.agg (keyA (keyL d 0 p q)))).set 82 (.map (some mb'))).set 83 (.agg (ansA aA))).set 22 (.pointer (some ⟨b, 0, none⟩))) (fun b wn => St w11 [(b, ansA aA, 39)] wn) (fun _ _ _ d _ h => by cases d <;> exact h) ?_ (fun Q' hQ' hK => ?_)
          case refine_2 =>
            simp only [List.set_cons_succ, List.set_cons_zero] at hK
            refine wp_region_ordZ (fun w' => St w11 [] w') 6 5 [(0, false), (1, false), (2, false), (3, true), (4, true)] (by kernel_rfl) (by kernel_rfl) hQ' (by kernel_rfl) rfl ?_
            have hS : St w11 [] w11.drew := St.nil (Below.refl _ _).drew
            have hQ15 := HS10.out.has (b := b15) (cs := qryA e d i p q) (t := 29) (by simp)
            have hK18 := HS10.out.has (b := b18) (cs := keyA (keyL d 0 p q)) (t := 30) (by simp)
            have hL15 := HS10.out.all_lt (b15, qryA e d i p q, 29) (by simp)
            have hL18 := HS10.out.all_lt (b18, keyA (keyL d 0 p q), 30) (by simp)
            refine ordZ_val 79 rfl rfl rfl hS (.agg (qryA e d i p q)) (fun wx hw => exec_load_at wx 29 _ rfl b15 0 rfl _ (Try.isAgg29 wx) (Try.sizeOf29 wx) (hQ15.below hw.below hL15)) ?_
            simp only [List.set_cons_succ, List.set_cons_zero]
            refine ordZ_val 80 rfl rfl rfl hS (.slice ao len cap) (fun _ _ => rfl) ?_
            simp only [List.set_cons_succ, List.set_cons_zero]
            refine ordZ_val 81 rfl rfl rfl hS (.agg (keyA (keyL d 0 p q))) (fun wx hw => exec_load_at wx 30 _ rfl b18 0 rfl _ (Try.isAgg30 wx) (Try.sizeOf30 wx) (hK18.below hw.below hL18)) ?_
            simp only [List.set_cons_succ, List.set_cons_zero]
            refine ⟨?_, ?_⟩
            · skip
              refine op_call 82 rfl rfl rfl 8 #[.slice ao len cap, .bool false, .agg (keyA (keyL d 0 p q))] (exec_call _ 8 _ _ rfl rfl _ rfl Try.call8) (HTM.out HLE.out false _ (HS10.out.step hS.below).below) ?_
              rintro _ wa ⟨rfl, hmA, hbA⟩
              have hSA := hS.step hbA
              refine ⟨_, rfl, hSA, ?_⟩
              simp only [List.set_cons_succ, List.set_cons_zero]
              have hmA' := hmA
              refine ⟨?_, ?_⟩
              · skip
                refine op_call 83 rfl rfl rfl 7 #[.agg (qryA e d i p q), .map (some (w11.drew.heap.size + 1))] (exec_call _ 7 _ _ rfl rfl _ rfl Try.call7) (decideMap_c e d i p q hi hi1 hq hq1 _ _ _ hmA') ?_
                rintro _ wb ⟨rfl, hbB⟩
                have hSB := hSA.step hbB
                refine ⟨_, rfl, hSB, ?_⟩
                simp only [List.set_cons_succ, List.set_cons_zero]
                rw [← HaA.out]
                refine op_val (.pointer (some ⟨wb.heap.size, 0, none⟩)) rfl rfl rfl (exec_alloc wb 39 rfl _ (run_zero39 wb)) (hSB.alloc _ _) ?_
                simp only [List.set_cons_succ, List.set_cons_zero]
                have hSC := hSB.fresh (ansA zeroAns) 39
                refine ord_done ?_
                refine last_run rfl rfl rfl (exec_storeA _ 39 _ _ rfl (wb.heap.size) 0 (ansA aA) rfl rfl (Try.sizeOf39 _) (ansA zeroAns) 39 (hSC.get (by simp)) (Nat.le_refl _) (ansA_one _)) ?_
                rw [splice_all (ansA zeroAns) (ansA aA) rfl]
                exact hK _ _ _ (hSC.set (ansA aA))
              · skip
                refine op_val (.pointer (some ⟨wa.heap.size, 0, none⟩)) rfl rfl rfl (exec_alloc wa 39 rfl _ (run_zero39 wa)) (hSA.alloc _ _) ?_
                simp only [List.set_cons_succ, List.set_cons_zero]
                have hSC := hSA.fresh (ansA zeroAns) 39
                have hmA' := hmA.below ((Below.refl wa.heap.size wa).alloc (Nat.le_refl _) (.cells (ansA zeroAns) 39)) hmA.lt
                refine ord_call 83 rfl rfl rfl 7 #[.agg (qryA e d i p q), .map (some (w11.drew.heap.size + 1))] (exec_call _ 7 _ _ rfl rfl _ rfl Try.call7) (decideMap_c e d i p q hi hi1 hq hq1 _ _ _ hmA') ?_
                rintro _ wb ⟨rfl, hbB⟩
                have hSD := hSC.step hbB
                refine ⟨_, rfl, hSD.tail, ?_⟩
                simp only [List.set_cons_succ, List.set_cons_zero]
                rw [← HaA.out]
                refine ord_done ?_
                refine last_run rfl rfl rfl (exec_storeA _ 39 _ _ rfl (wa.heap.size) 0 (ansA aA) rfl rfl (Try.sizeOf39 _) (ansA zeroAns) 39 (hSD.get (by simp)) (Nat.le_refl _) (ansA_one _)) ?_
                rw [splice_all (ansA zeroAns) (ansA aA) rfl]
                exact hK _ _ _ (hSD.set (ansA aA))
            · skip
              refine op_val (.pointer (some ⟨w11.drew.heap.size, 0, none⟩)) rfl rfl rfl (exec_alloc w11.drew 39 rfl _ (run_zero39 w11.drew)) (hS.alloc _ _) ?_
              simp only [List.set_cons_succ, List.set_cons_zero]
              have hSC := hS.fresh (ansA zeroAns) 39
              refine ord_call 82 rfl rfl rfl 8 #[.slice ao len cap, .bool false, .agg (keyA (keyL d 0 p q))] (exec_call _ 8 _ _ rfl rfl _ rfl Try.call8) (HTM.out HLE.out false _ (HS10.out.step hSC.below).below) ?_
              rintro _ wa ⟨rfl, hmA, hbA⟩
              have hSD := hSC.step hbA
              refine ⟨_, rfl, hSD.tail, ?_⟩
              simp only [List.set_cons_succ, List.set_cons_zero]
              have hmA' := hmA
              refine ord_call 83 rfl rfl rfl 7 #[.agg (qryA e d i p q), .map (some ((w11.drew.alloc (.cells (ansA zeroAns) 39)).heap.size + 1))] (exec_call _ 7 _ _ rfl rfl _ rfl Try.call7) (decideMap_c e d i p q hi hi1 hq hq1 _ _ _ hmA') ?_
              rintro _ wb ⟨rfl, hbB⟩
              have hSE := hSD.step hbB
              refine ⟨_, rfl, hSE.tail, ?_⟩
              simp only [List.set_cons_succ, List.set_cons_zero]
              rw [← HaA.out]
              refine ord_done ?_
              refine last_run rfl rfl rfl (exec_storeA _ 39 _ _ rfl (w11.drew.heap.size) 0 (ansA aA) rfl rfl (Try.sizeOf39 _) (ansA zeroAns) 39 (hSE.get (by simp)) (Nat.le_refl _) (ansA_one _)) ?_
              rw [splice_all (ansA zeroAns) (ansA aA) rfl]
              exact hK _ _ _ (hSE.set (ansA aA))
          intro b22 mb' w12 hSt0
          simp only [List.set_cons_succ, List.set_cons_zero]
          have hSt := HS10.out.join hSt0
          have hMp := HM0.out.below hSt0.below HM0.out.lt
          have HS28 : Hid (St w [(b22, ansA aA, 39), (b18, keyA (keyL d 0 p q), 30), (b17, keyA (keyL d i p q), 30), (b16, qryA o d i p q, 29), (b15, qryA e d i p q, 29)] w12) := hSt
          clear HS10 hSt hSt0
          have HM7 : Hid (MapAt w12 mb (([] : List Row))) := hMp
          clear HM0 hMp
          go_wp2_with (refine stop_load 29 ?_)
          refine go_on ?_
          refine lst_val _ (exec_load_at w12 29 _ rfl b16 0 rfl (qryA o d i p q) (Try.isAgg29 _) (Try.sizeOf29 _) (HS28.out.has (t := 29) (by simp))) ?_
          simp only [List.set_cons_succ, List.set_cons_zero]
          obtain ⟨aB, haB⟩ : ∃ x, x = decideM (([] : List Row)) d i p q := ⟨_, rfl⟩
          have HaB : Hid (aB = decideM (([] : List Row)) d i p q) := haB
          go_wp2_with fail
          refine (decideMap_c o d i p q hi hi1 hq hq1 mb (([] : List Row)) w12 HM7.out).mono ?_
          rintro _ w13 ⟨rfl, hb⟩
          rw [← haB]
          clear haB HM7
          have HS29 : Hid (St w [(b22, ansA aA, 39), (b18, keyA (keyL d 0 p q), 30), (b17, keyA (keyL d i p q), 30), (b16, qryA o d i p q, 29), (b15, qryA e d i p q, 29)] w13) := HS28.out.step hb
          clear HS28 hb
          go_wp2_with (refine stop_alloc 39 ?_)
          refine go_on ?_
          refine lst_val _ (exec_alloc w13 39 rfl _ (run_zero39 _)) ?_
          simp only [List.set_cons_succ, List.set_cons_zero]
          refine lst_sk (exec_storeA _ 39 _ _ rfl w13.heap.size 0 (ansA aB) rfl rfl (Try.sizeOf39 _) _ 39 (heap_alloc_new w13 _) (Nat.le_refl _) (ansA_one _)) ?_
          rw [splice_all (ansA zeroAns) (ansA aB) rfl]
          have hSt := HS29.out.new (ansA zeroAns) (ansA aB) 39
          generalize (w13.alloc (.cells (ansA zeroAns) 39)).setRow w13.heap.size (ansA aB) = w14 at hSt ⊢
          generalize w13.heap.size = b23 at hSt ⊢
          have HS30 : Hid (St w [(b23, ansA aB, 39), (b22, ansA aA, 39), (b18, keyA (keyL d 0 p q), 30), (b17, keyA (keyL d i p q), 30), (b16, qryA o d i p q, 29), (b15, qryA e d i p q, 29)] w14) := hSt
          clear HS29 hSt
          go_wp2_with (refine stop_load 39 ?_)
          refine go_on ?_
          refine lst_val _ (exec_load_at w14 39 _ rfl b22 0 rfl (ansA aA) (Try.isAgg39 _) (Try.sizeOf39 _) (HS30.out.has (t := 39) (by simp))) ?_
          simp only [List.set_cons_succ, List.set_cons_zero]
          refine lst_val _ (exec_load_at w14 39 _ rfl b23 0 rfl (ansA aB) (Try.isAgg39 _) (Try.sizeOf39 _) (HS30.out.has (t := 39) (by simp))) ?_
          simp only [List.set_cons_succ, List.set_cons_zero]
          obtain ⟨n1, hn1⟩ : ∃ x, x = !decide (aA = aB) := ⟨_, rfl⟩
          refine lst_val (.bool n1) (by rw [hn1]; exact exec_neqans _ 39 (.tmp 87) (.tmp 88) rfl _ _ rfl rfl) ?_
          simp only [List.set_cons_succ, List.set_cons_zero]
          have FAB : Hid (aA = aB) := by
            show aA = aB
            rw [HaA.out, HaB.out]
            exact HAB.out
          have hn1f : n1 = false := by rw [hn1, decide_eq_true FAB.out]; rfl
          clear hn1
          rw [hn1f]
          clear n1 hn1f
          have FD : Hid (aA = deny) := by
            show aA = deny
            rw [HaA.out]
            exact F0.out
          clear F0 FAB HAB HaA HaB
          go_wp2_with (refine stop_binop .lss 3 ?_)
          refine go_on ?_
          obtain ⟨n1, hn1⟩ : ∃ x, x = decide ((-1 : Int) < 0) := ⟨_, rfl⟩
          refine lst_val (.bool n1) (by rw [hn1]; exact exec_bin w14 .lss 3 3 (.tmp 90) (.const (.int .i64 0)) rfl .i64 (-1) _ _ rfl rfl (run_lti _ 3 .i64 _ _)) ?_
          simp only [List.set_cons_succ, List.set_cons_zero]
          have hn1f : n1 = true := by rw [hn1]; rfl
          clear hn1
          refine lst_val (.bool n1) (exec_move _ (.tmp 91) rfl _ rfl) ?_
          simp only [List.set_cons_succ, List.set_cons_zero]
          refine lst_valg (.int .i64 (-1)) (by show (some n1 == some true) = true; rw [hn1f]; rfl) (exec_move _ (.tmp 19) rfl _ rfl) ?_
          simp only [List.set_cons_succ, List.set_cons_zero]
          obtain ⟨n2, hn2⟩ : ∃ x, x = decide ((-1 : Int) < 0) := ⟨_, rfl⟩
          refine lst_valg (.bool n2) (by show (some n1 == some true) = true; rw [hn1f]; rfl) (by rw [hn2]; exact exec_bin w14 .lss 3 3 (.tmp 93) (.const (.int .i64 0)) rfl .i64 (-1) _ _ rfl rfl (run_lti _ 3 .i64 _ _)) ?_
          simp only [List.set_cons_succ, List.set_cons_zero]
          have hn2f : n2 = true := by rw [hn2]; rfl
          clear hn2
          refine lst_val (.bool n2) (exec_pick _ (.tmp 92) (.tmp 94) (.const (.bool false)) rfl n1 rfl _ (by rw [hn1f]; rfl)) ?_
          simp only [List.set_cons_succ, List.set_cons_zero]
          rw [hn2f, hn1f]
          clear n1 n2 hn1f hn2f
          go_wp2_with (refine stop_load 39 ?_)
          refine go_on ?_
          refine lst_val _ (exec_load_at w14 39 _ rfl b22 0 rfl (ansA aA) (Try.isAgg39 _) (Try.sizeOf39 _) (HS30.out.has (t := 39) (by simp))) ?_
          simp only [List.set_cons_succ, List.set_cons_zero]
          refine lst_val _ (exec_build w14 39 _ rfl [(0, .int .u8 0), (3, .bool true)] (by simp [Act.eval]) _ (run_deny w14)) ?_
          simp only [List.set_cons_succ, List.set_cons_zero]
          refine lst_val (.bool true) ((exec_eqans _ 39 (.tmp 96) (.tmp 97) rfl aA deny rfl rfl).trans (by rw [decide_eq_true FD.out])) ?_
          simp only [List.set_cons_succ, List.set_cons_zero]
          go_wp2_with fail
          go_ret
          exact ⟨rfl, HS30.out.below⟩
end Go.Proofs.Qxb6612879a
