/-
  The law FnSetSpareKeepsLatestPerBand: the walk.
-/
import Derived.Test.Qxb6612853aW13
namespace Go.Proofs.Qxb6612853a
open Go.RowKit

theorem idCells_get {ids : List (List Nat)} (h : AllID ids) (i j : Nat) (hi : i < ids.length) (hj : j < 32) : (idCells ids)[i * 32 + j]? = (idA (ids.getD i []))[j]? := by
  rw [idCells, flat_get (fun l => (idA l).toList) 32 ids (fun k hk => by rw [Array.length_toList, idA_size, (h k hk).1]) i j hi hj]
  simp

theorem own_shape {w : World} {base e size : Nat} {v : Value} {n : Nat} {xs : List Value} (ho : w.ownsRow base e size v n xs) :
    ∃ ao cap, v = .slice ao n cap ∧ (0 < n → ∃ g, ao = some ⟨g, 0, none⟩ ∧ g < w.heap.size ∧ ∀ j, j < n * size → w.cell? ⟨g, j, none⟩ = xs[j]?) := by
  rcases ho.2 with ⟨rfl, rfl⟩ | ⟨g, cap, cur, rfl, _, hg, hnc, _, hcs, htk⟩
  · exact ⟨none, 0, rfl, fun h => absurd h (Nat.lt_irrefl _)⟩
  · refine ⟨some ⟨g, 0, none⟩, cap, rfl, fun _ => ⟨g, rfl, (Array.getElem?_eq_some_iff.1 hg).1, fun j hj => ?_⟩⟩
    rw [cell_of_row w g j _ e (0, 0) hg, ← htk, List.getElem?_take_of_lt hj]
    simp

theorem own_peers {w : World} {base : Nat} {v : Value} {L : List (List Nat)} (hL : AllID L) (ho : w.ownsRow base 32 34 v L.length (peerCells L)) :
    ∃ ao cap, v = .slice ao L.length cap ∧ (0 < L.length → ∃ g, ao = some ⟨g, 0, none⟩ ∧ g < w.heap.size ∧ ∀ i, i < L.length → HasA w g (0 + i * 34) (peerA (L.getD i []))) := by
  obtain ⟨ao, cap, h1, h2⟩ := own_shape ho
  refine ⟨ao, cap, h1, fun h0 => ?_⟩
  obtain ⟨g, hg, hlt, hc⟩ := h2 h0
  refine ⟨g, hg, hlt, fun i hi j hj => ?_⟩
  rw [peerA_size (hL i hi)] at hj
  rw [Nat.zero_add, hc _ (by omega), peerCells_get hL i j hi hj]
theorem own_ids {w : World} {base : Nat} {v : Value} {L : List (List Nat)} (hL : AllID L) (ho : w.ownsRow base 22 32 v L.length (idCells L)) :
    ∃ ao cap, v = .slice ao L.length cap ∧ (0 < L.length → ∃ g, ao = some ⟨g, 0, none⟩ ∧ g < w.heap.size ∧ ∀ i, i < L.length → HasA w g (0 + i * 32) (idA (L.getD i []))) := by
  obtain ⟨ao, cap, h1, h2⟩ := own_shape ho
  refine ⟨ao, cap, h1, fun h0 => ?_⟩
  obtain ⟨g, hg, hlt, hc⟩ := h2 h0
  refine ⟨g, hg, hlt, fun i hi j hj => ?_⟩
  rw [idA_size, (hL i hi).1] at hj
  rw [Nat.zero_add, hc _ (by omega), idCells_get hL i j hi hj]

set_option maxHeartbeats 4000000 in
theorem law3 (self : List Nat) (ids : List (List Nat)) (hs : IsID self) (hids : AllID ids) (ao : Option Addr) (cap : Nat) (w : World) (hat : IdsAt w ao ids) :
    Calls Try.prog 3 #[.agg (idA self), .slice ao ids.length cap] w fun e w' => e = .returned (.bool true) ∧ Below w.heap.size w w' := by
  obtain ⟨len, hlen'⟩ : ∃ n, n = ids.length := ⟨_, rfl⟩
  rw [← hlen']
  have HL : Hid (len = ids.length) := hlen'
  clear hlen'
  have HID : Hid (AllID ids) := hids
  clear hids
  go_enter Try.func3, Try.ntmps3
  go_wp2_with (refine wpList_ld rfl 22 _ rfl w.heap.size 0 rfl (idA self) (Try.isAgg22 _) (by rw [idA_size, hs.1]; exact Try.sizeOf22 _) (HasA.of_block (heap_alloc_new w _)) ?_)
  obtain ⟨w1, hw1⟩ : ∃ x, x = w.alloc (.cells (idA self) 22) := ⟨_, rfl⟩
  rw [← hw1]
  have hz1 : w1.heap.size = w.heap.size + 1 := by rw [hw1]; simp
  have hself : HasA w1 w.heap.size 0 (idA self) := by rw [hw1]; exact HasA.of_block (heap_alloc_new w _)
  have hbel : Below w.heap.size w w1 := by rw [hw1]; exact (Below.refl _ _).alloc (Nat.le_refl _) _
  have hat1 : IdsAt w1 ao ids := hat.below hbel (Nat.le_refl _)
  clear hw1 hat
  have HZ : Hid (w1.heap.size = w.heap.size + 1) := hz1
  clear hz1
  refine (bytes11_c self ao len cap w1).mono ?_
  rintro e w2 ⟨rfl, hb2⟩
  have HB2 : Hid (Below w1.heap.size w1 w2) := hb2
  clear hb2
  cases hok : okBytes len with
  | false =>
    go_wp2_with fail
    go_ret
    exact ⟨rfl, hbel.trans (HB2.out.mono (by rw [HZ.out]; omega))⟩
  | true =>
    have hle := okBytes_le hok
    clear hok
    have hle' : ¬ (32768 : Int) < (len : Int) := by omega
    have gs2 : HasA w2 w.heap.size 0 (idA self) := hself.below HB2.out (by rw [HZ.out]; omega)
    go_wp2_with (first
      | (refine wpList_ld rfl 22 _ rfl w.heap.size 0 rfl (idA self) (Try.isAgg22 _) (by rw [idA_size, hs.1]; exact Try.sizeOf22 _) gs2 ?_)
      | (refine wpList_bld 32 _ [(0, .agg (idA self))] _ (by simp [Act.eval, Act.put]) (run_build32 _ self hs) ?_))
    refine (newTable_c self hs _ (by omega) w2).mono ?_
    rintro e w3 ⟨tb, rfl, htb0, htb3, hb3⟩
    have htb0' : w1.heap.size ≤ tb := Nat.le_trans HB2.out.size htb0
    have HT : Hid (IsTbl w3 tb self 1 (.slice none 0 0) (.slice none 0 0)) := htb3
    have HB3 : Hid (Below w1.heap.size w1 w3) := HB2.out.trans (hb3.mono HB2.out.size)
    clear htb3 hb3 gs2
    go_wp2_with fail
    go_loopw [6] (fun i wr => ∃ k : Nat, k ≤ len ∧ i = .int .i64 k ∧ TblS wr w1.heap.size tb self 1 (sparesOf self ids k) ∧ Below w1.heap.size w1 wr) (fun i _ => len - (intOf i).toNat)
    case atStart => exact ⟨0, by omega, rfl, ⟨_, HT.out, htb0', World.ownsRow_nil _ _ _ _⟩, HB3.out⟩
    case round =>
      obtain ⟨k, hk, rfl, hte, hbr⟩ := hrel
      have HTE : Hid (TblS wr w1.heap.size tb self 1 (sparesOf self ids k)) := hte
      have HB : Hid (Below w1.heap.size w1 wr) := hbr
      clear hte hbr
      by_cases hlt : k < len
      · obtain ⟨b, off, rfl, hblt, hcell⟩ := hat1 (by rw [← HL.out]; omega)
        have hlt' : (k : Int) < (len : Int) := by omega
        have gk : HasA w1 b (off + k * 32) (idA (ids.getD k [])) := hcell k (by rw [← HL.out]; exact hlt)
        have gs : HasA w1 w.heap.size 0 (idA self) := hself
        have iik : IsID (ids.getD k []) := HID.out k (by rw [← HL.out]; exact hlt)
        go_wp2_with fail
        refine wp_region_ord (fun w' => Below w1.heap.size w1 w') [(0, false), (1, false), (2, false), (3, false), (4, false), (6, false), (7, false), (8, false), (9, false), (10, false), (5, true), (11, true), (12, true)] (by kernel_rfl) (by kernel_rfl)
          (fun _ _ _ d _ h => by cases d <;> exact h) (by kernel_rfl) rfl ?_
        have hB : Below w1.heap.size w1 wr.drew := HB.out.drew
        refine ord_val 26 rfl rfl rfl hB (.pointer (some ⟨tb, 0, none⟩)) (fun _ _ => rfl) ?_
        simp only [List.set_cons_succ, List.set_cons_zero]
        refine ord_val 27 rfl rfl rfl hB (.slice (some ⟨b, off, none⟩) len cap) (fun _ _ => rfl) ?_
        simp only [List.set_cons_succ, List.set_cons_zero]
        refine ord_val 28 rfl rfl rfl hB (.int .i64 k) (fun _ _ => rfl) ?_
        simp only [List.set_cons_succ, List.set_cons_zero]
        refine ord_val 29 rfl rfl rfl hB (.pointer (some ⟨b, off + k * 32, none⟩)) (fun wx _ => exec_idx wx 23 22 32 _ _ rfl b off len cap k Try.underlying23 (Try.sizeOf22 wx) rfl rfl hlt) ?_
        simp only [List.set_cons_succ, List.set_cons_zero]
        refine ord_val 30 rfl rfl rfl hB (.agg (idA (ids.getD k []))) (fun wx hw => exec_load_at wx 22 _ rfl b _ rfl _ (Try.isAgg22 wx) (by rw [idA_size, iik.1]; exact Try.sizeOf22 wx) (gk.below hw hblt)) ?_
        simp only [List.set_cons_succ, List.set_cons_zero]
        refine ord_val 32 rfl rfl rfl hB (.agg (idA self)) (fun wx hw => exec_load_at wx 22 _ rfl w.heap.size 0 rfl _ (Try.isAgg22 wx) (by rw [idA_size, hs.1]; exact Try.sizeOf22 wx) (gs.below hw (by rw [HZ.out]; omega))) ?_
        simp only [List.set_cons_succ, List.set_cons_zero]
        refine ord_val 33 rfl rfl rfl hB (.slice (some ⟨b, off, none⟩) len cap) (fun _ _ => rfl) ?_
        simp only [List.set_cons_succ, List.set_cons_zero]
        refine ord_val 34 rfl rfl rfl hB (.int .i64 k) (fun _ _ => rfl) ?_
        simp only [List.set_cons_succ, List.set_cons_zero]
        refine ord_val 35 rfl rfl rfl hB (.pointer (some ⟨b, off + k * 32, none⟩)) (fun wx _ => exec_idx wx 23 22 32 _ _ rfl b off len cap k Try.underlying23 (Try.sizeOf22 wx) rfl rfl hlt) ?_
        simp only [List.set_cons_succ, List.set_cons_zero]
        refine ord_val 36 rfl rfl rfl hB (.agg (idA (ids.getD k []))) (fun wx hw => exec_load_at wx 22 _ rfl b _ rfl _ (Try.isAgg22 wx) (by rw [idA_size, iik.1]; exact Try.sizeOf22 wx) (gk.below hw hblt)) ?_
        simp only [List.set_cons_succ, List.set_cons_zero]
        refine ord_call 31 rfl rfl rfl 14 #[.agg (idA (ids.getD k []))] (exec_call _ 14 _ _ rfl rfl _ rfl Try.call14) (peerOf_c _ iik _) ?_
        rintro e w5 ⟨rfl, hb5⟩
        have hB5 : Below w1.heap.size w1 w5 := hB.trans (hb5.mono hB.size)
        refine ⟨_, rfl, hB5, ?_⟩
        simp only [List.set_cons_succ, List.set_cons_zero]
        refine ord_call 37 rfl rfl rfl 15 #[.agg (idA self), .agg (idA (ids.getD k []))] (exec_call _ 15 _ _ rfl rfl _ rfl Try.call15) (lead_c self _ hs iik _) ?_
        rintro e w6 ⟨rfl, hb6⟩
        have hB6 : Below w1.heap.size w1 w6 := hB5.trans (hb6.mono hB5.size)
        refine ⟨_, rfl, hB6, ?_⟩
        simp only [List.set_cons_succ, List.set_cons_zero]
        have hkl : k ≤ ids.length := by rw [← HL.out]; exact hk
        have hsl : (sparesOf self ids k).length ≤ 32768 := by rw [sparesOf_eq self ids k hkl]; exact Nat.le_trans (latestK_len _ _ _) (by omega)
        have hd : Below wr.heap.size wr wr.drew := (Below.refl _ _).drew
        have htS : TblS w6 w1.heap.size tb self 1 (sparesOf self ids k) := ((HTE.out.below hd (Nat.le_refl _)).below hb5 (Nat.le_refl _)).below hb6 (Nat.le_refl _)
        refine ord_call 38 rfl rfl rfl 13 #[.pointer (some ⟨tb, 0, none⟩), .agg (peerA (ids.getD k [])), .int .i64 ((lead self (ids.getD k []) : Nat) : Int)] (exec_call _ 13 _ _ rfl rfl _ rfl Try.call13) (zzsetSpare_c self hs 1 w1.heap.size tb _ _ (sparesOf_id self ids HID.out k hkl) _ iik w6 htS hsl hB6.size) ?_
        rintro e w7 ⟨rfl, hT7, hb7⟩
        have hB7 : Below w1.heap.size w1 w7 := hB6.trans hb7
        refine ⟨_, rfl, hB7, ?_⟩
        simp only [List.set_cons_succ, List.set_cons_zero]
        refine ord_done ?_
        have HT7 : Hid (TblS w7 w1.heap.size tb self 1 (sparesOf self ids (k + 1))) := hT7
        have HB7 : Hid (Below w1.heap.size w1 w7) := hB7
        clear hB hB5 hB6 hB7 hb5 hb6 hb7 hT7 htS hd gk gs iik hcell
        go_wp2_with fail
        refine ⟨⟨k + 1, by omega, by go_num, HT7.out, HB7.out⟩, ?_⟩
        simp [intOf]; omega
      · have hkl : k = len := by omega
        obtain ⟨sp, htb, hbt, hown⟩ := HTE.out
        have hLid : AllID (sparesOf self ids k) := sparesOf_id self ids HID.out k (by rw [← HL.out]; exact hk)
        have hLg : sparesOf self ids k = gathK self ids ids.length := by rw [hkl, HL.out, sparesOf_eq self ids ids.length (Nat.le_refl _), gathK_all]
        have hgl := gathK_len self ids ids.length
        obtain ⟨L, hLe⟩ : ∃ L, L = gathK self ids ids.length := ⟨_, rfl⟩
        rw [hLg, ← hLe] at hown hLid
        rw [← hLe] at hgl
        obtain ⟨ao2, cap2, rfl, hpe⟩ := own_peers hLid hown
        obtain ⟨m, hm⟩ : ∃ m, m = L.length := ⟨_, rfl⟩
        rw [← hm] at hpe htb hgl
        have HM : Hid (m = L.length) := hm
        have HLE : Hid (L = gathK self ids ids.length) := hLe
        have HLID : Hid (AllID L) := hLid
        have HPE : Hid (0 < m → ∃ g, ao2 = some ⟨g, 0, none⟩ ∧ g < wr.heap.size ∧ ∀ i, i < m → HasA wr g (0 + i * 34) (peerA (L.getD i []))) := hpe
        have hgl' : m ≤ 32768 := by rw [← HL.out] at hgl; omega
        clear hm hLe hLid hown hLg hpe hgl
        have hcall := zzspares_c tb (.slice ao2 m cap2) wr (htb.cell39 hs)
        clear htb
        go_wp2_with (refine hcall.mono ?_)
        rintro e w4 ⟨rfl, rfl⟩
        clear hcall
        have gs4 : HasA w4 w.heap.size 0 (idA self) := hself.below HB.out (by rw [HZ.out]; omega)
        go_wp2_with (refine wpList_ld rfl 22 _ rfl w.heap.size 0 rfl (idA self) (Try.isAgg22 _) (by rw [idA_size, hs.1]; exact Try.sizeOf22 _) gs4 ?_)
        have hla := latest_c self ids hs HID.out ao cap w4 (hat1.below HB.out (Nat.le_refl _)) (by rw [← HL.out]; omega)
        rw [← HL.out] at hla
        refine hla.mono ?_
        clear hla
        rintro e w5 ⟨v, rfl, hown5, hb5⟩
        rw [HL.out, ← HLE.out] at hown5
        obtain ⟨ao3, cap3, rfl, hie⟩ := own_ids HLID.out hown5
        rw [← HM.out] at hie ⊢
        have HIE : Hid (0 < m → ∃ g, ao3 = some ⟨g, 0, none⟩ ∧ g < w5.heap.size ∧ ∀ i, i < m → HasA w5 g (0 + i * 32) (idA (L.getD i []))) := hie
        have HB5 : Hid (Below w4.heap.size w4 w5) := hb5
        have HB15 : Hid (Below w1.heap.size w1 w5) := HB.out.trans (hb5.mono HB.out.size)
        clear hown5 hie hb5 gs4
        go_wp2_with fail
        go_loopw [9] (fun v wx => ∃ j : Nat, j ≤ m ∧ v = .int .i64 j ∧ Hid (Below w5.heap.size w5 wx)) (fun v _ => m - (intOf v).toNat)
        case atStart => exact ⟨0, by omega, rfl, Below.refl _ _⟩
        case round =>
          obtain ⟨j, hj, rfl, HW⟩ := hrel
          by_cases hlt2 : j < m
          · obtain ⟨G2, rfl, hG2, hgp⟩ := HPE.out (by omega)
            obtain ⟨G3, rfl, hG3, hgi⟩ := HIE.out (by omega)
            have iij : IsID (L.getD j []) := HLID.out j (by rw [← HM.out]; exact hlt2)
            have gp : HasA w5 G2 (0 + j * 34) (peerA (L.getD j [])) := (hgp j hlt2).below HB5.out hG2
            have hG2' : G2 < w5.heap.size := Nat.lt_of_lt_of_le hG2 HB5.out.size
            have gk : HasA w5 G3 (0 + j * 32) (idA (L.getD j [])) := hgi j hlt2
            have hlt2' : (j : Int) < (m : Int) := by omega
            clear hgp hgi
            go_wp2_with fail
            refine wp_region_ord (fun w' => Below w5.heap.size w5 w') [(0, false), (1, false), (2, false), (3, false), (4, false), (5, false), (6, false), (7, false), (8, true), (9, false)] (by kernel_rfl) (by kernel_rfl)
              (fun _ _ _ d _ h => by cases d <;> exact h) (by kernel_rfl) rfl ?_
            have hB : Below w5.heap.size w5 wr.drew := HW.out.drew
            refine ord_val 55 rfl rfl rfl hB (.slice (some ⟨G2, 0, none⟩) m cap2) (fun _ _ => rfl) ?_
            simp only [List.set_cons_succ, List.set_cons_zero]
            refine ord_val 56 rfl rfl rfl hB (.int .i64 j) (fun _ _ => rfl) ?_
            simp only [List.set_cons_succ, List.set_cons_zero]
            refine ord_val 57 rfl rfl rfl hB (.pointer (some ⟨G2, 0 + j * 34, none⟩)) (fun wx _ => exec_idx wx 36 32 34 _ _ rfl G2 0 m cap2 j Try.underlying36 (Try.sizeOf32 wx) rfl rfl hlt2) ?_
            simp only [List.set_cons_succ, List.set_cons_zero]
            refine ord_val 58 rfl rfl rfl hB (.agg (peerA (L.getD j []))) (fun wx hw => exec_load_at wx 32 _ rfl G2 (0 + j * 34) rfl _ (Try.isAgg32 wx) (by rw [peerA_size iij]; exact Try.sizeOf32 wx) (gp.below hw hG2')) ?_
            simp only [List.set_cons_succ, List.set_cons_zero]
            refine ord_val 59 rfl rfl rfl hB (.slice (some ⟨G3, 0, none⟩) m cap3) (fun _ _ => rfl) ?_
            simp only [List.set_cons_succ, List.set_cons_zero]
            refine ord_val 60 rfl rfl rfl hB (.int .i64 j) (fun _ _ => rfl) ?_
            simp only [List.set_cons_succ, List.set_cons_zero]
            refine ord_val 61 rfl rfl rfl hB (.pointer (some ⟨G3, 0 + j * 32, none⟩)) (fun wx _ => exec_idx wx 23 22 32 _ _ rfl G3 0 m cap3 j Try.underlying23 (Try.sizeOf22 wx) rfl rfl hlt2) ?_
            simp only [List.set_cons_succ, List.set_cons_zero]
            refine ord_val 62 rfl rfl rfl hB (.agg (idA (L.getD j []))) (fun wx hw => exec_load_at wx 22 _ rfl G3 _ rfl _ (Try.isAgg22 wx) (by rw [idA_size, iij.1]; exact Try.sizeOf22 wx) (gk.below hw hG3)) ?_
            simp only [List.set_cons_succ, List.set_cons_zero]
            refine ord_call 63 rfl rfl rfl 14 #[.agg (idA (L.getD j []))] (exec_call _ 14 _ _ rfl rfl _ rfl Try.call14) (peerOf_c _ iij _) ?_
            rintro e w8 ⟨rfl, hb8⟩
            have hB8 : Below w5.heap.size w5 w8 := hB.trans (hb8.mono hB.size)
            refine ⟨_, rfl, hB8, ?_⟩
            simp only [List.set_cons_succ, List.set_cons_zero]
            refine ord_val 64 rfl rfl rfl hB8 (.bool false) (fun wx _ => (exec_neqpeer wx 32 (.tmp 58) (.tmp 63) rfl (L.getD j []) (L.getD j []) iij iij rfl rfl).trans (by rw [beq_self_eq_true]; rfl)) ?_
            simp only [List.set_cons_succ, List.set_cons_zero]
            refine ord_done ?_
            have HB8 : Hid (Below w5.heap.size w5 w8) := hB8
            clear hB hB8 hb8 gk gp iij
            go_wp2_with fail
            go_roundw
            case rel => exact ⟨j + 1, by omega, by go_num, HB8.out⟩
            case measure => simp [intOf]; omega
          · go_wp2_with fail
            go_ret
            exact ⟨rfl, hbel.trans ((HB15.out.mono (by rw [HZ.out]; omega)).trans (HW.out.mono (by have := HB15.out.size; rw [HZ.out] at this; omega)))⟩
end Go.Proofs.Qxb6612853a
