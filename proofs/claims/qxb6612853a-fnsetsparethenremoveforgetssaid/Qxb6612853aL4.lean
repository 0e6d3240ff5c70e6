/-
  The law FnSetSpareThenRemoveForgets: the walk.
-/
import Derived.Test.Qxb6612853aL5
namespace Go.Proofs.Qxb6612853a
open Go.RowKit

theorem gath_lead (self : List Nat) (ids : List (List Nat)) (i : Nat) (hi : i ∈ firsts (bandsOf self ids) ids.length) : lead self (ids.getD (lastIx (bandsOf self ids) (at0 (bandsOf self ids) i)) []) = at0 (bandsOf self ids) i := by
  have hb := bandsOf_len self ids
  have h1 := at_mem_take (bandsOf self ids) i (bandsOf self ids).length (by have := ((firsts_mem _ _ _).1 hi).1; omega) (Nat.le_refl _)
  have h2 := lastIx_spec (bandsOf self ids) _ (bandsOf self ids).length (Nat.le_refl _) h1
  rw [List.take_length] at h2
  rw [← bandsOf_at self ids _ (by omega), h2.2]
theorem gath_distinct (self : List Nat) (ids : List (List Nat)) : ∀ i j, i < j → j < (gathK self ids ids.length).length → (gathK self ids ids.length).getD i [] ≠ (gathK self ids ids.length).getD j [] := by
  have hp : (gathK self ids ids.length).Pairwise (fun a b => a ≠ b) := by
    unfold gathK
    rw [List.pairwise_map]
    have hf := firsts_pair (bandsOf self ids) ids.length (by rw [bandsOf_len]; exact Nat.le_refl _)
    refine List.Pairwise.imp_of_mem ?_ hf
    intro a b ha hb hne he
    have e1 := gath_lead self ids a ha
    have e2 := gath_lead self ids b hb
    rw [he, e2] at e1
    exact hne e1.symm
  intro i j hij hj
  rw [List.pairwise_iff_getElem] at hp
  have := hp i j (by omega) hj hij
  have hi' : i < (gathK self ids ids.length).length := by omega
  simpa [List.getD, hi', hj] using this

theorem place (L : List (List Nat)) (gone : List Nat) (hd : ∀ i j, i < j → j < L.length → L.getD i [] ≠ L.getD j []) :
    ∃ q, q ≤ L.length ∧ (∀ i, i < L.length → (L.getD i [] = gone ↔ i = q)) ∧ L.erase gone = L.eraseIdx q := by
  by_cases hm : gone ∈ L
  · obtain ⟨q, hq, he⟩ := List.mem_iff_getElem.1 hm
    have he' : L.getD q [] = gone := by simpa [List.getD, hq] using he
    have huniq : ∀ i, i < L.length → L.getD i [] = gone → i = q := fun i hi h => by
      rcases Nat.lt_trichotomy i q with h1 | h1 | h1
      · exact absurd (h.trans he'.symm) (hd i q h1 hq)
      · exact h1
      · exact absurd (he'.trans h.symm) (hd q i h1 hi)
    refine ⟨q, by omega, fun i hi => ⟨huniq i hi, fun e => by rw [e]; exact he'⟩, erase_hit gone L q (fun j hj hc => ?_) hq he'⟩
    have := huniq j (by omega) hc
    omega
  · have hno : ∀ i, i < L.length → L.getD i [] ≠ gone := fun i hi h => hm (by
      have : L.getD i [] = L[i] := by simp [List.getD, hi]
      rw [← h, this]
      exact List.getElem_mem _)
    exact ⟨L.length, Nat.le_refl _, fun i hi => ⟨fun h => absurd h (hno i hi), fun e => by omega⟩, by rw [erase_miss gone L hno, List.eraseIdx_of_length_le (Nat.le_refl _)]⟩

theorem run_gei {P : Program} (w : World) (t : TypeId) (k : IntKind) (i j : Int) : (binOp .geq t (.int k i) (.int k j)).run P w = .ok (.bool (decide (j ≤ i))) w := by
  simp [binOp, Op.intCmp]

set_option maxRecDepth 20000 in
set_option maxHeartbeats 4000000 in
theorem law4 (self : List Nat) (ids : List (List Nat)) (gone : List Nat) (hs : IsID self) (hids : AllID ids) (hg : IsID gone) (ao : Option Addr) (cap : Nat) (w : World) (hat : IdsAt w ao ids) :
    Calls Try.prog 4 #[.agg (idA self), .slice ao ids.length cap, .agg (idA gone)] w fun e w' => e = .returned (.bool true) ∧ Below w.heap.size w w' := by
  obtain ⟨len, hlen'⟩ : ∃ n, n = ids.length := ⟨_, rfl⟩
  rw [← hlen']
  have HL : Hid (len = ids.length) := hlen'
  clear hlen'
  have HID : Hid (AllID ids) := hids
  clear hids
  obtain ⟨w1, hw1⟩ : ∃ x, x = (w.alloc (.cells (idA self) 22)).alloc (.cells (idA gone) 22) := ⟨_, rfl⟩
  have hz1 : w1.heap.size = w.heap.size + 2 := by rw [hw1]; simp
  have hself : HasA w1 w.heap.size 0 (idA self) := by rw [hw1]; exact HasA.of_block (heap_alloc2_old w _ _)
  have hgone : HasA w1 (w.heap.size + 1) 0 (idA gone) := by rw [hw1]; exact HasA.of_block (heap_alloc2_new w _ _)
  have hbel : Below w.heap.size w w1 := by rw [hw1]; exact ((Below.refl _ _).alloc (Nat.le_refl _) _).alloc (by simp) _
  have hat1 : IdsAt w1 ao ids := hat.below hbel (Nat.le_refl _)
  clear hat
  have HZ : Hid (w1.heap.size = w.heap.size + 2) := hz1
  clear hz1
  go_enter Try.func4, Try.ntmps4
  go_wp2_with (refine stop_load 22 ?_)
  rw [← hw1]
  clear hw1
  refine go_on ?_
  refine lst_val _ (exec_load_at w1 22 _ rfl w.heap.size 0 rfl (idA self) (Try.isAgg22 _) (by rw [idA_size, hs.1]; exact Try.sizeOf22 _) hself) ?_
  simp only [List.set_cons_succ, List.set_cons_zero]
  go_wp2_with (refine stop_load 22 ?_)
  refine go_on ?_
  refine lst_val _ (exec_load_at w1 22 _ rfl (w.heap.size + 1) 0 rfl (idA gone) (Try.isAgg22 _) (by rw [idA_size, hg.1]; exact Try.sizeOf22 _) hgone) ?_
  simp only [List.set_cons_succ, List.set_cons_zero]
  go_wp2_with fail
  refine (bytes18_c self ao len cap gone w1).mono ?_
  rintro e w2 ⟨rfl, hb2⟩
  have HB2 : Hid (Below w1.heap.size w1 w2) := hb2
  clear hb2
  cases hok : okBytes len with
  | false =>
    go_wp2_with fail
    go_ret
    exact ⟨rfl, hbel.trans (HB2.out.mono (by rw [HZ.out]; omega))⟩
  | true =>
    have hle := okBytes_le hok
    clear hok
    have hle' : ¬ (32768 : Int) < (len : Int) := by omega
    have gs2 : HasA w2 w.heap.size 0 (idA self) := hself.below HB2.out (by rw [HZ.out]; omega)
    go_wp2_with (first
      | (refine wpList_ld rfl 22 _ rfl w.heap.size 0 rfl (idA self) (Try.isAgg22 _) (by rw [idA_size, hs.1]; exact Try.sizeOf22 _) gs2 ?_)
      | (refine wpList_bld 32 _ [(0, .agg (idA self))] _ (by simp [Act.eval, Act.put]) (run_build32 _ self hs) ?_))
    refine (newTable_c self hs _ (by omega) w2).mono ?_
    rintro e w3 ⟨tb, rfl, htb0, htb3, hb3⟩
    have htb0' : w1.heap.size ≤ tb := Nat.le_trans HB2.out.size htb0
    have HT : Hid (IsTbl w3 tb self 1 (.slice none 0 0) (.slice none 0 0)) := htb3
    have HB3 : Hid (Below w1.heap.size w1 w3) := HB2.out.trans (hb3.mono HB2.out.size)
    clear htb3 hb3 gs2
    go_wp2_with fail
    go_loopw [8] (fun i wr => ∃ k : Nat, k ≤ len ∧ i = .int .i64 k ∧ TblS wr w1.heap.size tb self 1 (sparesOf self ids k) ∧ Below w1.heap.size w1 wr) (fun i _ => len - (intOf i).toNat)
    case atStart => exact ⟨0, by omega, rfl, ⟨_, HT.out, htb0', World.ownsRow_nil _ _ _ _⟩, HB3.out⟩
    case round =>
      obtain ⟨k, hk, rfl, hte, hbr⟩ := hrel
      have HTE : Hid (TblS wr w1.heap.size tb self 1 (sparesOf self ids k)) := hte
      have HB : Hid (Below w1.heap.size w1 wr) := hbr
      clear hte hbr
      by_cases hlt : k < len
      · obtain ⟨b, off, rfl, hblt, hcell⟩ := hat1 (by rw [← HL.out]; omega)
        have hlt' : (k : Int) < (len : Int) := by omega
        have gk : HasA w1 b (off + k * 32) (idA (ids.getD k [])) := hcell k (by rw [← HL.out]; exact hlt)
        have gs : HasA w1 w.heap.size 0 (idA self) := hself
        have iik : IsID (ids.getD k []) := HID.out k (by rw [← HL.out]; exact hlt)
        go_wp2_with fail
        refine wp_region_ord (fun w' => Below w1.heap.size w1 w') [(0, false), (1, false), (2, false), (3, false), (4, false), (6, false), (7, false), (8, false), (9, false), (10, false), (5, true), (11, true), (12, true)] (by kernel_rfl) (by kernel_rfl)
          (fun _ _ _ d _ h => by cases d <;> exact h) (by kernel_rfl) rfl ?_
        have hB : Below w1.heap.size w1 wr.drew := HB.out.drew
        refine ord_val 30 rfl rfl rfl hB (.pointer (some ⟨tb, 0, none⟩)) (fun _ _ => rfl) ?_
        simp only [List.set_cons_succ, List.set_cons_zero]
        refine ord_val 31 rfl rfl rfl hB (.slice (some ⟨b, off, none⟩) len cap) (fun _ _ => rfl) ?_
        simp only [List.set_cons_succ, List.set_cons_zero]
        refine ord_val 32 rfl rfl rfl hB (.int .i64 k) (fun _ _ => rfl) ?_
        simp only [List.set_cons_succ, List.set_cons_zero]
        refine ord_val 33 rfl rfl rfl hB (.pointer (some ⟨b, off + k * 32, none⟩)) (fun wx _ => exec_idx wx 23 22 32 _ _ rfl b off len cap k Try.underlying23 (Try.sizeOf22 wx) rfl rfl hlt) ?_
        simp only [List.set_cons_succ, List.set_cons_zero]
        refine ord_val 34 rfl rfl rfl hB (.agg (idA (ids.getD k []))) (fun wx hw => exec_load_at wx 22 _ rfl b _ rfl _ (Try.isAgg22 wx) (by rw [idA_size, iik.1]; exact Try.sizeOf22 wx) (gk.below hw hblt)) ?_
        simp only [List.set_cons_succ, List.set_cons_zero]
        refine ord_val 36 rfl rfl rfl hB (.agg (idA self)) (fun wx hw => exec_load_at wx 22 _ rfl w.heap.size 0 rfl _ (Try.isAgg22 wx) (by rw [idA_size, hs.1]; exact Try.sizeOf22 wx) (gs.below hw (by rw [HZ.out]; omega))) ?_
        simp only [List.set_cons_succ, List.set_cons_zero]
        refine ord_val 37 rfl rfl rfl hB (.slice (some ⟨b, off, none⟩) len cap) (fun _ _ => rfl) ?_
        simp only [List.set_cons_succ, List.set_cons_zero]
        refine ord_val 38 rfl rfl rfl hB (.int .i64 k) (fun _ _ => rfl) ?_
        simp only [List.set_cons_succ, List.set_cons_zero]
        refine ord_val 39 rfl rfl rfl hB (.pointer (some ⟨b, off + k * 32, none⟩)) (fun wx _ => exec_idx wx 23 22 32 _ _ rfl b off len cap k Try.underlying23 (Try.sizeOf22 wx) rfl rfl hlt) ?_
        simp only [List.set_cons_succ, List.set_cons_zero]
        refine ord_val 40 rfl rfl rfl hB (.agg (idA (ids.getD k []))) (fun wx hw => exec_load_at wx 22 _ rfl b _ rfl _ (Try.isAgg22 wx) (by rw [idA_size, iik.1]; exact Try.sizeOf22 wx) (gk.below hw hblt)) ?_
        simp only [List.set_cons_succ, List.set_cons_zero]
        refine ord_call 35 rfl rfl rfl 14 #[.agg (idA (ids.getD k []))] (exec_call _ 14 _ _ rfl rfl _ rfl Try.call14) (peerOf_c _ iik _) ?_
        rintro e w5 ⟨rfl, hb5⟩
        have hB5 : Below w1.heap.size w1 w5 := hB.trans (hb5.mono hB.size)
        refine ⟨_, rfl, hB5, ?_⟩
        simp only [List.set_cons_succ, List.set_cons_zero]
        refine ord_call 41 rfl rfl rfl 15 #[.agg (idA self), .agg (idA (ids.getD k []))] (exec_call _ 15 _ _ rfl rfl _ rfl Try.call15) (lead_c self _ hs iik _) ?_
        rintro e w6 ⟨rfl, hb6⟩
        have hB6 : Below w1.heap.size w1 w6 := hB5.trans (hb6.mono hB5.size)
        refine ⟨_, rfl, hB6, ?_⟩
        simp only [List.set_cons_succ, List.set_cons_zero]
        have hkl : k ≤ ids.length := by rw [← HL.out]; exact hk
        have hsl : (sparesOf self ids k).length ≤ 32768 := by rw [sparesOf_eq self ids k hkl]; exact Nat.le_trans (latestK_len _ _ _) (by omega)
        have hd : Below wr.heap.size wr wr.drew := (Below.refl _ _).drew
        have htS : TblS w6 w1.heap.size tb self 1 (sparesOf self ids k) := ((HTE.out.below hd (Nat.le_refl _)).below hb5 (Nat.le_refl _)).below hb6 (Nat.le_refl _)
        refine ord_call 42 rfl rfl rfl 13 #[.pointer (some ⟨tb, 0, none⟩), .agg (peerA (ids.getD k [])), .int .i64 ((lead self (ids.getD k []) : Nat) : Int)] (exec_call _ 13 _ _ rfl rfl _ rfl Try.call13) (zzsetSpare_c self hs 1 w1.heap.size tb _ _ (sparesOf_id self ids HID.out k hkl) _ iik w6 htS hsl hB6.size) ?_
        rintro e w7 ⟨rfl, hT7, hb7⟩
        have hB7 : Below w1.heap.size w1 w7 := hB6.trans hb7
        refine ⟨_, rfl, hB7, ?_⟩
        simp only [List.set_cons_succ, List.set_cons_zero]
        refine ord_done ?_
        have HT7 : Hid (TblS w7 w1.heap.size tb self 1 (sparesOf self ids (k + 1))) := hT7
        have HB7 : Hid (Below w1.heap.size w1 w7) := hB7
        clear hB hB5 hB6 hB7 hb5 hb6 hb7 hT7 htS hd gk gs iik hcell
        go_wp2_with fail
        refine ⟨⟨k + 1, by omega, by go_num, HT7.out, HB7.out⟩, ?_⟩
        simp [intOf]; omega
      · have hkl : k = len := by omega
        have hLg : sparesOf self ids k = gathK self ids ids.length := by rw [hkl, HL.out, sparesOf_eq self ids ids.length (Nat.le_refl _), gathK_all]
        have hgl := gathK_len self ids ids.length
        have hdis := gath_distinct self ids
        have hLid : AllID (sparesOf self ids k) := sparesOf_id self ids HID.out k (by rw [← HL.out]; exact hk)
        have hts := HTE.out
        obtain ⟨L, hLe⟩ : ∃ L, L = gathK self ids ids.length := ⟨_, rfl⟩
        rw [hLg, ← hLe] at hts hLid
        rw [← hLe] at hgl hdis
        have HLE : Hid (L = gathK self ids ids.length) := hLe
        have HLID : Hid (AllID L) := hLid
        obtain ⟨q, hq, hiff, her⟩ := place L gone hdis
        have HIFF : Hid (∀ i, i < L.length → (L.getD i [] = gone ↔ i = q)) := hiff
        have HER : Hid (L.erase gone = L.eraseIdx q) := her
        obtain ⟨n, hne⟩ : ∃ n, n = L.length := ⟨_, rfl⟩
        rw [← hne] at hq hgl
        have HN : Hid (n = L.length) := hne
        have hn32 : n ≤ 32768 := by rw [← HL.out] at hgl; omega
        have HTS : Hid (TblS wr w1.heap.size tb self 1 L) := hts
        clear hLe hLid hts hLg hgl hdis hiff her hne
        obtain ⟨w4, hw4⟩ : ∃ x, x = wr := ⟨_, rfl⟩
        rw [← hw4] at HB HTS ⊢
        clear hw4
        have gs4 : HasA w4 w.heap.size 0 (idA self) := hself.below HB.out (by rw [HZ.out]; omega)
        have hla := latest_c self ids hs HID.out ao cap w4 (hat1.below HB.out (Nat.le_refl _)) (by rw [← HL.out]; omega)
        rw [← HL.out] at hla
        have HLA : Hid (Calls Try.prog 17 #[.agg (idA self), .slice ao len cap] w4 fun e w' => ∃ v, e = .returned v ∧ w'.ownsRow w4.heap.size 22 32 v (gathK self ids len).length (idCells (gathK self ids len)) ∧ Below w4.heap.size w4 w') := hla
        clear hla
        go_wp2_with (refine stop_load 22 ?_)
        refine go_on ?_
        refine lst_val _ (exec_load_at w4 22 _ rfl w.heap.size 0 rfl (idA self) (Try.isAgg22 _) (by rw [idA_size, hs.1]; exact Try.sizeOf22 _) gs4) ?_
        simp only [List.set_cons_succ, List.set_cons_zero]
        go_wp2_with fail
        refine HLA.out.mono ?_
        clear HLA
        rintro e w5 ⟨v, rfl, hown5, hb5⟩
        rw [HL.out, ← HLE.out] at hown5
        have HB15 : Hid (Below w1.heap.size w1 w5) := HB.out.trans (hb5.mono HB.out.size)
        have hT5 : TblS w5 w1.heap.size tb self 1 L := HTS.out.below hb5 (Nat.le_refl _)
        have gg : HasA w5 (w.heap.size + 1) 0 (idA gone) := hgone.below HB15.out (by rw [HZ.out]; omega)
        have hrm := remove4_c self hs 1 w1.heap.size tb L HLID.out gone hg w5 hT5 (by rw [← HN.out]; exact hn32) HB15.out.size
        have HRM : Hid (Calls Try.prog 19 #[.pointer (some ⟨tb, 0, none⟩), .agg (idA gone)] w5 fun e w' => e = .returned (.bool false) ∧ TblS w' w1.heap.size tb self 1 (L.erase gone) ∧ Below w1.heap.size w5 w' ∧ Keeps w5 w') := hrm
        have HO5 : Hid (w5.ownsRow w4.heap.size 22 32 v L.length (idCells L)) := hown5
        clear hrm hT5 hown5 hb5 gs4
        go_wp2_with (refine stop_load 22 ?_)
        refine go_on ?_
        refine lst_val _ (exec_load_at w5 22 _ rfl (w.heap.size + 1) 0 rfl (idA gone) (Try.isAgg22 _) (by rw [idA_size, hg.1]; exact Try.sizeOf22 _) gg) ?_
        simp only [List.set_cons_succ, List.set_cons_zero]
        go_wp2_with fail
        refine HRM.out.mono ?_
        clear HRM gg
        rintro e w6 ⟨rfl, hT6, hb6, hk6⟩
        have HB16 : Hid (Below w1.heap.size w1 w6) := HB15.out.trans hb6
        have hown6 : w6.ownsRow w4.heap.size 22 32 v L.length (idCells L) := by
          refine ⟨HO5.out.1, ?_⟩
          rcases HO5.out.2 with h | ⟨g, c, cur, rfl, hbg, hgb, r⟩
          · exact .inl h
          · exact .inr ⟨g, c, cur, rfl, hbg, hk6 g cur 22 (by decide) (by decide) hgb, r⟩
        obtain ⟨ao3, cap3, rfl, hie⟩ := own_ids HLID.out hown6
        rw [HER.out] at hT6
        obtain ⟨sp, htb6, hbt6, hown6p⟩ := hT6
        have hEid : AllID (L.eraseIdx q) := eraseIdx_id HLID.out q
        obtain ⟨E, hE⟩ : ∃ E, E = L.eraseIdx q := ⟨_, rfl⟩
        rw [← hE] at hown6p hEid
        obtain ⟨ao2, cap2, rfl, hpe⟩ := own_peers hEid hown6p
        have hEq : E.length = if q < n then n - 1 else n := by
          rw [hE, List.length_eraseIdx, ← HN.out]
        obtain ⟨m, hm⟩ : ∃ m, m = E.length := ⟨_, rfl⟩
        have HM : Hid (m = E.length) := hm
        have HE : Hid (E = L.eraseIdx q) := hE
        have HEID : Hid (AllID E) := hEid
        rw [← hm] at hpe htb6 hEq
        rw [← HN.out] at hie ⊢
        have HIE : Hid (0 < n → ∃ g, ao3 = some ⟨g, 0, none⟩ ∧ g < w6.heap.size ∧ ∀ i, i < n → HasA w6 g (0 + i * 32) (idA (L.getD i []))) := hie
        have HPE : Hid (0 < m → ∃ g, ao2 = some ⟨g, 0, none⟩ ∧ g < w6.heap.size ∧ ∀ i, i < m → HasA w6 g (0 + i * 34) (peerA (E.getD i []))) := hpe
        have HEQ : Hid (m = if q < n then n - 1 else n) := hEq
        have hcall := zzspares_c tb (.slice ao2 m cap2) w6 (htb6.cell39 hs)
        have HCALL : Hid (Calls Try.prog 16 #[.pointer (some ⟨tb, 0, none⟩)] w6 fun e w' => e = .returned (.slice ao2 m cap2) ∧ w' = w6) := hcall
        have hm32 : m ≤ 32768 := by rw [hEq]; split <;> omega
        clear hcall hm hE hEid hie hpe hEq htb6 hbt6 hown6p hown6 hk6 hb6
        go_wp2_with (refine HCALL.out.mono ?_)
        rintro e w7 ⟨rfl, rfl⟩
        clear HCALL
        go_wp2_with fail
        go_loopw [11, 12] (fun vj vi wx => RelJ q n w7 vj vi wx) (fun _ vi _ => n - (intOf vi).toNat)
        case atStart => exact ⟨0, by omega, rfl, by simp, Below.refl _ _⟩
        case round =>
          obtain ⟨i, hi, rfl, rfl, hbr⟩ := hrel
          have HBr3 : Hid (Below w7.heap.size w7 wr) := hbr
          clear hbr
          obtain ⟨jj, hjj⟩ : ∃ jj : Nat, jj = if i ≤ q then i else i - 1 := ⟨_, rfl⟩
          rw [← hjj]
          have HJJ : Hid (jj = if i ≤ q then i else i - 1) := hjj
          have hjj32 : jj ≤ 32768 := by rw [hjj]; split <;> omega
          clear hjj
          by_cases hlt4 : i < n
          · have hlt4' : (i : Int) < (n : Int) := by omega
            obtain ⟨G3, rfl, hG3, hgi⟩ := HIE.out (by omega)
            have iii : IsID (L.getD i []) := HLID.out i (by rw [← HN.out]; exact hlt4)
            have gk : HasA w7 G3 (0 + i * 32) (idA (L.getD i [])) := hgi i hlt4
            have gg : HasA w7 (w.heap.size + 1) 0 (idA gone) := hgone.below HB16.out (by rw [HZ.out]; omega)
            have hgl : w.heap.size + 1 < w7.heap.size := by have := HB16.out.size; rw [HZ.out] at this; omega
            have hii := HIFF.out i (by rw [← HN.out]; exact hlt4)
            have HII : Hid (L.getD i [] = gone ↔ i = q) := hii
            clear hgi hii
            go_wp2_with fail
            refine wp_region_ord (fun w' => Below w7.heap.size w7 w') [(0, false), (1, false), (2, false), (3, false), (4, false), (5, false)] (by kernel_rfl) (by kernel_rfl)
              (fun _ _ _ d _ h => by cases d <;> exact h) (by kernel_rfl) rfl ?_
            have hB : Below w7.heap.size w7 wr.drew := HBr3.out.drew
            refine ord_val 57 rfl rfl rfl hB (.slice (some ⟨G3, 0, none⟩) n cap3) (fun _ _ => rfl) ?_
            simp only [List.set_cons_succ, List.set_cons_zero]
            refine ord_val 58 rfl rfl rfl hB (.int .i64 (i : Int)) (fun _ _ => rfl) ?_
            simp only [List.set_cons_succ, List.set_cons_zero]
            refine ord_val 59 rfl rfl rfl hB (.pointer (some ⟨G3, 0 + i * 32, none⟩)) (fun wx _ => exec_idx wx 23 22 32 _ _ rfl G3 0 n cap3 i Try.underlying23 (Try.sizeOf22 wx) rfl rfl hlt4) ?_
            simp only [List.set_cons_succ, List.set_cons_zero]
            refine ord_val 60 rfl rfl rfl hB (.agg (idA (L.getD i []))) (fun wx hw => exec_load_at wx 22 _ rfl G3 _ rfl _ (Try.isAgg22 wx) (by rw [idA_size, iii.1]; exact Try.sizeOf22 wx) (gk.below hw hG3)) ?_
            simp only [List.set_cons_succ, List.set_cons_zero]
            refine ord_val 61 rfl rfl rfl hB (.agg (idA gone)) (fun wx hw => exec_load_at wx 22 _ rfl (w.heap.size + 1) 0 rfl _ (Try.isAgg22 wx) (by rw [idA_size, hg.1]; exact Try.sizeOf22 wx) (gg.below hw hgl)) ?_
            simp only [List.set_cons_succ, List.set_cons_zero]
            refine ord_val 62 rfl rfl rfl hB (.bool (L.getD i [] == gone)) (fun wx _ => exec_eqid wx 22 22 (.tmp 60) (.tmp 61) rfl _ _ iii hg Try.underlying22 Try.eqGuardType22 rfl rfl) ?_
            simp only [List.set_cons_succ, List.set_cons_zero]
            refine ord_done ?_
            have HBz : Hid (Below w7.heap.size w7 wr.drew) := hB
            clear hB gg
            by_cases hiq : i = q
            · have hev : (L.getD i [] == gone) = true := by rw [beq_iff_eq]; exact HII.out.2 hiq
              rw [hev]
              have HN2 : Hid (RelJ q n w7 (.int .i64 (jj : Int)) (.int .i64 ((i + 1 : Nat) : Int)) wr.drew) := ⟨i + 1, by omega, rfl, by
                rw [HJJ.out, if_pos (by omega), if_neg (by omega)]
                rfl, HBz.out⟩
              clear hev gk iii hiq
              go_wp2_with fail
              refine ⟨HN2.out, ?_⟩
              simp [intOf]; omega
            · have hev : (L.getD i [] == gone) = false := by rw [beq_eq_false_iff_ne]; exact fun h => hiq (HII.out.1 h)
              rw [hev]
              have hjm : jj < m := by
                rw [HJJ.out, HEQ.out]
                by_cases h1 : i ≤ q
                · rw [if_pos h1]; split <;> omega
                · rw [if_neg h1]; split <;> omega
              have heq2 : E.getD jj [] = L.getD i [] := by
                rw [HE.out, ← eraseIdx_at L q i hiq, HJJ.out]
                congr 1
                by_cases h : i < q
                · rw [if_pos (by omega), if_pos h]
                · rw [if_neg (by omega), if_neg h]
              have HJN : Hid ((if i + 1 ≤ q then i + 1 else i + 1 - 1 : Nat) = jj + 1) := by
                show (if i + 1 ≤ q then i + 1 else i + 1 - 1 : Nat) = jj + 1
                rw [HJJ.out]
                by_cases h : i < q
                · rw [if_pos (by omega), if_pos (by omega)]
                · rw [if_neg (by omega), if_neg (by omega)]
                  omega
              have HEQ2 : Hid (E.getD jj [] = L.getD i []) := heq2
              clear hev heq2
              obtain ⟨G2, rfl, hG2, hgp⟩ := HPE.out (by omega)
              have iij : IsID (E.getD jj []) := HEID.out jj (by rw [← HM.out]; exact hjm)
              have gp : HasA w7 G2 (0 + jj * 34) (peerA (E.getD jj [])) := hgp jj hjm
              have hjm' : ¬ (m : Int) ≤ (jj : Int) := by omega
              clear hgp
              go_wp2_with fail
              refine wp_region_ord (fun w' => Below w7.heap.size w7 w') [(0, false), (1, false), (2, false), (3, false), (4, false), (5, false), (6, false), (7, false), (8, false), (9, false), (10, false), (11, false), (12, false), (13, true), (14, false), (15, false)] (by kernel_rfl) (by kernel_rfl)
                (fun _ _ _ d _ h => by cases d <;> exact h) (by kernel_rfl) rfl ?_
              have hB : Below w7.heap.size w7 wr.drew.drew := HBz.out.drew
              refine ord_val 63 rfl rfl rfl hB (.int .i64 (jj : Int)) (fun _ _ => rfl) ?_
              simp only [List.set_cons_succ, List.set_cons_zero]
              refine ord_val 64 rfl rfl rfl hB (.slice (some ⟨G2, 0, none⟩) m cap2) (fun _ _ => rfl) ?_
              simp only [List.set_cons_succ, List.set_cons_zero]
              refine ord_val 65 rfl rfl rfl hB (.int .i64 (m : Int)) (fun wx _ => exec_len wx 36 32 (.tmp 64) rfl Try.underlying36 _ m cap2 rfl) ?_
              simp only [List.set_cons_succ, List.set_cons_zero]
              refine ord_val 66 rfl rfl rfl hB (.bool false) (fun wx _ => exec_bin wx .geq 3 3 _ _ rfl .i64 jj (.int .i64 (m : Int)) _ rfl rfl (by rw [run_gei, decide_eq_false (by omega)])) ?_
              simp only [List.set_cons_succ, List.set_cons_zero]
              refine ord_val 67 rfl rfl rfl hB (.bool false) (fun _ _ => rfl) ?_
              simp only [List.set_cons_succ, List.set_cons_zero]
              refine ord_val 68 rfl rfl rfl hB (.slice (some ⟨G2, 0, none⟩) m cap2) (fun _ _ => rfl) ?_
              simp only [List.set_cons_succ, List.set_cons_zero]
              refine ord_val 69 rfl rfl rfl hB (.int .i64 ((jj : Nat) : Int)) (fun _ _ => rfl) ?_
              simp only [List.set_cons_succ, List.set_cons_zero]
              refine ord_val 70 rfl rfl rfl hB (.pointer (some ⟨G2, 0 + jj * 34, none⟩)) (fun wx _ => exec_idx wx 36 32 34 _ _ rfl G2 0 m cap2 jj Try.underlying36 (Try.sizeOf32 wx) rfl rfl hjm) ?_
              simp only [List.set_cons_succ, List.set_cons_zero]
              refine ord_val 71 rfl rfl rfl hB (.agg (peerA (E.getD jj []))) (fun wx hw => exec_load_at wx 32 _ rfl G2 (0 + jj * 34) rfl _ (Try.isAgg32 wx) (by rw [peerA_size iij]; exact Try.sizeOf32 wx) (gp.below hw hG2)) ?_
              simp only [List.set_cons_succ, List.set_cons_zero]
              refine ord_val 72 rfl rfl rfl hB (.slice (some ⟨G3, 0, none⟩) n cap3) (fun _ _ => rfl) ?_
              simp only [List.set_cons_succ, List.set_cons_zero]
              refine ord_val 73 rfl rfl rfl hB (.int .i64 ((i : Nat) : Int)) (fun _ _ => rfl) ?_
              simp only [List.set_cons_succ, List.set_cons_zero]
              refine ord_val 74 rfl rfl rfl hB (.pointer (some ⟨G3, 0 + i * 32, none⟩)) (fun wx _ => exec_idx wx 23 22 32 _ _ rfl G3 0 n cap3 i Try.underlying23 (Try.sizeOf22 wx) rfl rfl hlt4) ?_
              simp only [List.set_cons_succ, List.set_cons_zero]
              refine ord_val 75 rfl rfl rfl hB (.agg (idA (L.getD i []))) (fun wx hw => exec_load_at wx 22 _ rfl G3 _ rfl _ (Try.isAgg22 wx) (by rw [idA_size, iii.1]; exact Try.sizeOf22 wx) (gk.below hw hG3)) ?_
              simp only [List.set_cons_succ, List.set_cons_zero]
              refine ord_call 76 rfl rfl rfl 14 #[.agg (idA (L.getD i []))] (exec_call _ 14 _ _ rfl rfl _ rfl Try.call14) (peerOf_c _ iii _) ?_
              rintro e wz ⟨rfl, hbz⟩
              have hBz : Below w7.heap.size w7 wz := hB.trans (hbz.mono hB.size)
              refine ⟨_, rfl, hBz, ?_⟩
              simp only [List.set_cons_succ, List.set_cons_zero]
              refine ord_val 77 rfl rfl rfl hBz (.bool false) (fun wx _ => (exec_neqpeer wx 32 (.tmp 71) (.tmp 76) rfl (E.getD jj []) (L.getD i []) iij iii rfl rfl).trans (by rw [HEQ2.out, beq_self_eq_true]; rfl)) ?_
              simp only [List.set_cons_succ, List.set_cons_zero]
              refine ord_val 78 rfl rfl rfl hBz (.bool false) (fun wx _ => exec_pick wx _ _ _ rfl false rfl _ rfl) ?_
              simp only [List.set_cons_succ, List.set_cons_zero]
              refine ord_done ?_
              have HBz : Hid (Below w7.heap.size w7 wz) := hBz
              clear hB hBz hbz
              clear gk gp iij iii
              go_wp2_with fail
              refine ⟨⟨i + 1, by omega, by go_num, by rw [HJN.out]; go_num, HBz.out⟩, ?_⟩
              simp [intOf]; omega
          · have hjm : jj = m := by
              rw [HJJ.out, HEQ.out]
              by_cases h1 : i ≤ q
              · rw [if_pos h1]; split <;> omega
              · rw [if_neg h1]; split <;> omega
            subst hjm
            go_wp2_with fail
            go_ret
            exact ⟨rfl, hbel.trans ((HB16.out.mono (by rw [HZ.out]; omega)).trans (HBr3.out.mono (by have := HB16.out.size; rw [HZ.out] at this; omega)))⟩
end Go.Proofs.Qxb6612853a
