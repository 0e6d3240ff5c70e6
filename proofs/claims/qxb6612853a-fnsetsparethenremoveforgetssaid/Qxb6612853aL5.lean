/-
  The law FnPeersThenRemove: the walk.
-/
import Derived.Test.Qxb6612853aW17
namespace Go.Proofs.Qxb6612853a
open Go.RowKit

/-- Where gone stands among the ids (behind them all, if nowhere). -/
theorem gone_place (ids : List (List Nat)) (gone : List Nat) (a : Int) (h : (∃ q : Nat, q < ids.length ∧ ids.getD q [] = gone ∧ a = (q : Int)) ∨ (a = -1 ∧ ∀ q, q < ids.length → ids.getD q [] ≠ gone)) {self : List Nat} (hso : SortedAway self ids) :
    ∃ q, (q < ids.length ∧ a = (q : Int) ∧ gone ∈ ids ∨ q = ids.length ∧ a = -1 ∧ ¬ gone ∈ ids) ∧ ids.erase gone = ids.eraseIdx q := by
  rcases h with ⟨q, hq, he, ha⟩ | ⟨ha, hno⟩
  · refine ⟨q, .inl ⟨hq, ha, ?_⟩, erase_hit gone ids q (fun j hj hc => ?_) hq he⟩
    · have : ids.getD q [] = ids[q] := by simp [List.getD, hq]
      rw [← he, this]
      exact List.getElem_mem _
    · have := hso.lt hj hq
      rw [hc, he, nearer_irrefl] at this
      cases this
  · refine ⟨ids.length, .inr ⟨rfl, ha, fun hm => ?_⟩, ?_⟩
    · obtain ⟨q, hq, he⟩ := List.mem_iff_getElem.1 hm
      exact hno q hq (by simpa [List.getD, hq] using he)
    · rw [erase_miss gone ids hno, List.eraseIdx_of_length_le (Nat.le_refl _)]

theorem eraseIdx_at (ids : List (List Nat)) (q k : Nat) (hne : k ≠ q) : (ids.eraseIdx q).getD (if k < q then k else k - 1) [] = ids.getD k [] := by
  rw [List.getD_eq_getElem?_getD, List.getD_eq_getElem?_getD, List.getElem?_eraseIdx]
  by_cases h : k < q
  · simp [h]
  · rw [if_neg h, if_neg (by omega), show k - 1 + 1 = k by omega]

theorem TblE.below {w w' : World} {B base tb n : Nat} {self : List Nat} {size : Int} {xs : List Value} (h : TblE w base tb self size n xs) (hb : Below B w w') (hB : w.heap.size ≤ B) : TblE w' base tb self size n xs := by
  obtain ⟨ent, ht, hbt, ho⟩ := h
  exact ⟨ent, ht.of_block (hb.block tb (Nat.lt_of_lt_of_le ht.lt hB)), hbt, own_below ho hb hB⟩

/-- The peers of such a table. -/
theorem peersOf_c (self : List Nat) (hs : IsID self) (ids : List (List Nat)) (hids : AllID ids) (hn : ids.length ≤ 32768) (size : Int) (base tb : Nat) (w : World) (ht : TblE w base tb self size ids.length (entCells self ids)) :
    Calls Try.prog 23 #[.pointer (some ⟨tb, 0, none⟩)] w fun e w' => e = .returned (.slice (some ⟨w.heap.size, 0, none⟩) ids.length ids.length) ∧ PeersAt w' w.heap.size ids.length ids ∧ Below w.heap.size w w' := by
  obtain ⟨ao, cap, htb, _, _, hents⟩ := ht.shape hs hids
  exact zzpeers_c self ids hids tb ids.length cap ao w hn rfl (htb.cell36 hs) (fun h0 => by
    obtain ⟨g, hg, hlt, hc⟩ := hents h0
    exact ⟨g, hg, hlt, fun i hi => by have := hc i hi; rw [Nat.zero_add] at this; exact this⟩)

/-- The second loop's relation. -/
def RelAt (ids : List (List Nat)) (gone : List Nat) (len : Nat) (w7 : World) (va vi : Value) (wr : World) : Prop :=
  ∃ (k : Nat) (a : Int), k ≤ len ∧ vi = .int .i64 k ∧ va = .int .i64 a ∧ ((∃ q : Nat, q < k ∧ ids.getD q [] = gone ∧ a = (q : Int)) ∨ (a = -1 ∧ ∀ q, q < k → ids.getD q [] ≠ gone)) ∧ Below w7.heap.size w7 wr
/-- The third loop's relation. -/
def RelJ (q len : Nat) (w9 : World) (vj vi : Value) (wr : World) : Prop :=
  ∃ k : Nat, k ≤ len ∧ vi = .int .i64 k ∧ vj = .int .i64 ((if k ≤ q then k else k - 1 : Nat) : Int) ∧ Below w9.heap.size w9 wr

set_option maxRecDepth 20000 in
set_option maxHeartbeats 4000000 in
theorem law5 (self : List Nat) (ids : List (List Nat)) (gone : List Nat) (hs : IsID self) (hids : AllID ids) (hg : IsID gone) (ao : Option Addr) (cap : Nat) (w : World) (hat : IdsAt w ao ids) :
    Calls Try.prog 5 #[.agg (idA self), .slice ao ids.length cap, .agg (idA gone)] w fun e w' => e = .returned (.bool true) ∧ Below w.heap.size w w' := by
  obtain ⟨len, hlen'⟩ : ∃ n, n = ids.length := ⟨_, rfl⟩
  rw [← hlen']
  have HL : Hid (len = ids.length) := hlen'
  clear hlen'
  have HID : Hid (AllID ids) := hids
  clear hids
  obtain ⟨w1, hw1⟩ : ∃ x, x = (w.alloc (.cells (idA self) 22)).alloc (.cells (idA gone) 22) := ⟨_, rfl⟩
  have hz1 : w1.heap.size = w.heap.size + 2 := by rw [hw1]; simp
  have hself : HasA w1 w.heap.size 0 (idA self) := by rw [hw1]; exact HasA.of_block (heap_alloc2_old w _ _)
  have hgone : HasA w1 (w.heap.size + 1) 0 (idA gone) := by rw [hw1]; exact HasA.of_block (heap_alloc2_new w _ _)
  have hbel : Below w.heap.size w w1 := by rw [hw1]; exact ((Below.refl _ _).alloc (Nat.le_refl _) _).alloc (by simp) _
  have hat1 : IdsAt w1 ao ids := hat.below hbel (Nat.le_refl _)
  clear hat
  have HZ : Hid (w1.heap.size = w.heap.size + 2) := hz1
  clear hz1
  go_enter Try.func5, Try.ntmps5
  go_wp2_with (refine stop_load 22 ?_)
  rw [← hw1]
  clear hw1
  refine go_on ?_
  refine lst_val _ (exec_load_at w1 22 _ rfl w.heap.size 0 rfl (idA self) (Try.isAgg22 _) (by rw [idA_size, hs.1]; exact Try.sizeOf22 _) hself) ?_
  simp only [List.set_cons_succ, List.set_cons_zero]
  go_wp2_with (refine stop_load 22 ?_)
  refine go_on ?_
  refine lst_val _ (exec_load_at w1 22 _ rfl (w.heap.size + 1) 0 rfl (idA gone) (Try.isAgg22 _) (by rw [idA_size, hg.1]; exact Try.sizeOf22 _) hgone) ?_
  simp only [List.set_cons_succ, List.set_cons_zero]
  go_wp2_with fail
  refine (bytes20_c self ao len cap gone w1).mono ?_
  rintro e w2 ⟨rfl, hb2⟩
  have HB2 : Hid (Below w1.heap.size w1 w2) := hb2
  clear hb2
  cases hok : okBytes len with
  | false =>
    go_wp2_with fail
    go_ret
    exact ⟨rfl, hbel.trans (HB2.out.mono (by rw [HZ.out]; omega))⟩
  | true =>
    have hle := okBytes_le hok
    clear hok
    have hle' : ¬ (32768 : Int) < (len : Int) := by omega
    have gs2 : HasA w2 w.heap.size 0 (idA self) := hself.below HB2.out (by rw [HZ.out]; omega)
    go_wp2_with (refine wpList_ld rfl 22 _ rfl w.heap.size 0 rfl (idA self) (Try.isAgg22 _) (by rw [idA_size, hs.1]; exact Try.sizeOf22 _) gs2 ?_)
    have hso := sorted_c self ids hs HID.out ao cap w2 (hat1.below HB2.out (Nat.le_refl _)) (by rw [← HL.out]; omega)
    rw [← HL.out] at hso
    refine hso.mono ?_
    clear hso
    rintro e w3 ⟨rfl, hb3⟩
    have HB3 : Hid (Below w1.heap.size w1 w3) := HB2.out.trans (hb3.mono HB2.out.size)
    clear hb3
    cases hsrt : sortedB self ids with
    | false =>
      go_wp2_with fail
      go_ret
      exact ⟨rfl, hbel.trans (HB3.out.mono (by rw [HZ.out]; omega))⟩
    | true =>
      have HS : Hid (SortedAway self ids) := sortedB_spec hsrt
      clear hsrt
      have gs3 : HasA w3 w.heap.size 0 (idA self) := hself.below HB3.out (by rw [HZ.out]; omega)
      go_wp2_with (refine wpList_ld rfl 22 _ rfl w.heap.size 0 rfl (idA self) (Try.isAgg22 _) (by rw [idA_size, hs.1]; exact Try.sizeOf22 _) gs3 ?_)
      have hbu := build_c self ids hs HID.out ao cap w3 (hat1.below HB3.out (Nat.le_refl _)) (by rw [← HL.out]; omega)
      rw [← HL.out] at hbu
      refine hbu.mono ?_
      clear hbu
      rintro e w4 ⟨base, tb, size, rfl, hbase, hte, hb4⟩
      have HB4 : Hid (Below w1.heap.size w1 w4) := HB3.out.trans (hb4.mono HB3.out.size)
      clear hb4
      rw [HL.out] at hte
      have HTE : Hid (TblE w4 base tb self size ids.length (entCells self ids)) := hte
      clear hte
      have hbase1 : w1.heap.size ≤ base := Nat.le_trans HB3.out.size hbase
      have hw14 : w1.heap.size ≤ w4.heap.size := HB4.out.size
      have hlen32 : ids.length ≤ 32768 := by rw [← HL.out]; omega
      have hpc := peersOf_c self hs ids HID.out hlen32 size base tb w4 HTE.out
      rw [← HL.out] at hpc
      go_wp2_with fail
      refine hpc.mono ?_
      clear hpc
      rintro e w5 ⟨rfl, hp5, hb5⟩
      obtain ⟨G2, hG2⟩ : ∃ G2, G2 = w4.heap.size := ⟨_, rfl⟩
      rw [← hG2] at hp5 ⊢
      have HP5 : Hid (PeersAt w5 G2 len ids) := hp5
      have HB5 : Hid (Below w4.heap.size w4 w5) := hb5
      have HB15 : Hid (Below w1.heap.size w1 w5) := HB4.out.trans (hb5.mono hw14)
      have HG2 : Hid (G2 < w5.heap.size) := by
        obtain ⟨c2, h1, _⟩ := hp5
        exact (Array.getElem?_eq_some_iff.1 h1).1
      clear hp5 hb5 hG2
      go_wp2_with fail
      go_loopw [9] (fun v wx => ∃ k : Nat, k ≤ len ∧ v = .int .i64 k ∧ Hid (Below w5.heap.size w5 wx)) (fun v _ => len - (intOf v).toNat)
      case atStart => exact ⟨0, by omega, rfl, Below.refl _ _⟩
      case round =>
        obtain ⟨j, hj, rfl, HW⟩ := hrel
        by_cases hlt2 : j < len
        · obtain ⟨b, off, rfl, hblt, hcell⟩ := hat1 (by rw [← HL.out]; omega)
          have gk : HasA w5 b (off + j * 32) (idA (ids.getD j [])) := (hcell j (by rw [← HL.out]; exact hlt2)).below HB15.out hblt
          have hblt8 : b < w5.heap.size := Nat.lt_of_lt_of_le hblt HB15.out.size
          have iij : IsID (ids.getD j []) := HID.out j (by rw [← HL.out]; exact hlt2)
          have gp : HasA w5 G2 (0 + j * 34) (peerA (ids.getD j [])) := by
            obtain ⟨_, _, _, h⟩ := HP5.out
            rw [Nat.zero_add]
            exact h j hlt2
          have hlt2' : (j : Int) < (len : Int) := by omega
          go_wp2_with fail
          refine wp_region_ord (fun w' => Below w5.heap.size w5 w') [(0, false), (1, false), (2, false), (3, false), (4, false), (5, false), (6, false), (7, false), (8, true), (9, false)] (by kernel_rfl) (by kernel_rfl)
            (fun _ _ _ d _ h => by cases d <;> exact h) (by kernel_rfl) rfl ?_
          have hB : Below w5.heap.size w5 wr.drew := HW.out.drew
          refine ord_val 45 rfl rfl rfl hB (.slice (some ⟨G2, 0, none⟩) len len) (fun _ _ => rfl) ?_
          simp only [List.set_cons_succ, List.set_cons_zero]
          refine ord_val 46 rfl rfl rfl hB (.int .i64 ((j : Nat) : Int)) (fun _ _ => rfl) ?_
          simp only [List.set_cons_succ, List.set_cons_zero]
          refine ord_val 47 rfl rfl rfl hB (.pointer (some ⟨G2, 0 + j * 34, none⟩)) (fun wx _ => exec_idx wx 36 32 34 _ _ rfl G2 0 len len j Try.underlying36 (Try.sizeOf32 wx) rfl rfl hlt2) ?_
          simp only [List.set_cons_succ, List.set_cons_zero]
          refine ord_val 48 rfl rfl rfl hB (.agg (peerA (ids.getD j []))) (fun wx hw => exec_load_at wx 32 _ rfl G2 (0 + j * 34) rfl _ (Try.isAgg32 wx) (by rw [peerA_size iij]; exact Try.sizeOf32 wx) (gp.below hw HG2.out)) ?_
          simp only [List.set_cons_succ, List.set_cons_zero]
          refine ord_val 49 rfl rfl rfl hB (.slice (some ⟨b, off, none⟩) len cap) (fun _ _ => rfl) ?_
          simp only [List.set_cons_succ, List.set_cons_zero]
          refine ord_val 50 rfl rfl rfl hB (.int .i64 ((j : Nat) : Int)) (fun _ _ => rfl) ?_
          simp only [List.set_cons_succ, List.set_cons_zero]
          refine ord_val 51 rfl rfl rfl hB (.pointer (some ⟨b, off + j * 32, none⟩)) (fun wx _ => exec_idx wx 23 22 32 _ _ rfl b off len cap j Try.underlying23 (Try.sizeOf22 wx) rfl rfl hlt2) ?_
          simp only [List.set_cons_succ, List.set_cons_zero]
          refine ord_val 52 rfl rfl rfl hB (.agg (idA (ids.getD j []))) (fun wx hw => exec_load_at wx 22 _ rfl b _ rfl _ (Try.isAgg22 wx) (by rw [idA_size, iij.1]; exact Try.sizeOf22 wx) (gk.below hw hblt8)) ?_
          simp only [List.set_cons_succ, List.set_cons_zero]
          refine ord_call 53 rfl rfl rfl 14 #[.agg (idA (ids.getD j []))] (exec_call _ 14 _ _ rfl rfl _ rfl Try.call14) (peerOf_c _ iij _) ?_
          rintro e wz ⟨rfl, hbz⟩
          have hBz : Below w5.heap.size w5 wz := hB.trans (hbz.mono hB.size)
          refine ⟨_, rfl, hBz, ?_⟩
          simp only [List.set_cons_succ, List.set_cons_zero]
          refine ord_val 54 rfl rfl rfl hBz (.bool false) (fun wx _ => (exec_neqpeer wx 32 (.tmp 48) (.tmp 53) rfl (ids.getD j []) (ids.getD j []) iij iij rfl rfl).trans (by rw [beq_self_eq_true]; rfl)) ?_
          simp only [List.set_cons_succ, List.set_cons_zero]
          refine ord_done ?_
          have HBz : Hid (Below w5.heap.size w5 wz) := hBz
          clear hB hBz hbz
          clear gk gp iij
          go_wp2_with fail
          go_roundw
          case rel => exact ⟨j + 1, by omega, by go_num, HBz.out⟩
          case measure => simp [intOf]; omega
        · have HBr : Hid (Below w5.heap.size w5 wr) := HW.out
          obtain ⟨w7, hw7⟩ : ∃ x, x = wr := ⟨_, rfl⟩
          rw [← hw7] at HBr ⊢
          have HB17 : Hid (Below w1.heap.size w1 w7) := HB15.out.trans (HBr.out.mono HB15.out.size)
          have HB47 : Hid (Below w4.heap.size w4 w7) := HB5.out.trans (HBr.out.mono HB5.out.size)
          clear hw7 HW
          go_wp2_with fail
          go_loopw [10, 11] (fun va vi wx => RelAt ids gone len w7 va vi wx) (fun _ vi _ => len - (intOf vi).toNat)
          case atStart => exact ⟨0, -1, by omega, rfl, rfl, .inr ⟨rfl, fun q hq => absurd hq (Nat.not_lt_zero _)⟩, Below.refl _ _⟩
          case round =>
            obtain ⟨k, a, hk, rfl, rfl, hpl, hbr⟩ := hrel
            have HPL : Hid ((∃ q : Nat, q < k ∧ ids.getD q [] = gone ∧ a = (q : Int)) ∨ (a = -1 ∧ ∀ q, q < k → ids.getD q [] ≠ gone)) := hpl
            have HBr2 : Hid (Below w7.heap.size w7 wr) := hbr
            clear hpl hbr
            by_cases hlt3 : k < len
            · obtain ⟨b, off, rfl, hblt, hcell⟩ := hat1 (by rw [← HL.out]; omega)
              have gk : HasA w7 b (off + k * 32) (idA (ids.getD k [])) := (hcell k (by rw [← HL.out]; exact hlt3)).below HB17.out hblt
              have hblt8 : b < w7.heap.size := Nat.lt_of_lt_of_le hblt HB17.out.size
              have iik : IsID (ids.getD k []) := HID.out k (by rw [← HL.out]; exact hlt3)
              have gg : HasA w7 (w.heap.size + 1) 0 (idA gone) := hgone.below HB17.out (by rw [HZ.out]; omega)
              have hgl : w.heap.size + 1 < w7.heap.size := by have := HB17.out.size; rw [HZ.out] at this; omega
              have hlt3' : (k : Int) < (len : Int) := by omega
              go_wp2_with fail
              refine wp_region_ord (fun w' => Below w7.heap.size w7 w') [(0, false), (1, false), (2, false), (3, false), (4, false), (5, false)] (by kernel_rfl) (by kernel_rfl)
                (fun _ _ _ d _ h => by cases d <;> exact h) (by kernel_rfl) rfl ?_
              have hB : Below w7.heap.size w7 wr.drew := HBr2.out.drew
              refine ord_val 61 rfl rfl rfl hB (.slice (some ⟨b, off, none⟩) len cap) (fun _ _ => rfl) ?_
              simp only [List.set_cons_succ, List.set_cons_zero]
              refine ord_val 62 rfl rfl rfl hB (.int .i64 k) (fun _ _ => rfl) ?_
              simp only [List.set_cons_succ, List.set_cons_zero]
              refine ord_val 63 rfl rfl rfl hB (.pointer (some ⟨b, off + k * 32, none⟩)) (fun wx _ => exec_idx wx 23 22 32 _ _ rfl b off len cap k Try.underlying23 (Try.sizeOf22 wx) rfl rfl hlt3) ?_
              simp only [List.set_cons_succ, List.set_cons_zero]
              refine ord_val 64 rfl rfl rfl hB (.agg (idA (ids.getD k []))) (fun wx hw => exec_load_at wx 22 _ rfl b _ rfl _ (Try.isAgg22 wx) (by rw [idA_size, iik.1]; exact Try.sizeOf22 wx) (gk.below hw hblt8)) ?_
              simp only [List.set_cons_succ, List.set_cons_zero]
              refine ord_val 65 rfl rfl rfl hB (.agg (idA gone)) (fun wx hw => exec_load_at wx 22 _ rfl (w.heap.size + 1) 0 rfl _ (Try.isAgg22 wx) (by rw [idA_size, hg.1]; exact Try.sizeOf22 wx) (gg.below hw hgl)) ?_
              simp only [List.set_cons_succ, List.set_cons_zero]
              refine ord_val 66 rfl rfl rfl hB (.bool (ids.getD k [] == gone)) (fun wx _ => exec_eqid wx 22 22 (.tmp 64) (.tmp 65) rfl _ _ iik hg Try.underlying22 Try.eqGuardType22 rfl rfl) ?_
              simp only [List.set_cons_succ, List.set_cons_zero]
              refine ord_done ?_
              have HBz : Hid (Below w7.heap.size w7 wr.drew) := hB
              clear hB gk iik gg hcell
              by_cases hek : ids.getD k [] = gone
              · have hev : (ids.getD k [] == gone) = true := by rw [beq_iff_eq]; exact hek
                rw [hev]
                have HN : Hid (RelAt ids gone len w7 (.int .i64 (k : Int)) (.int .i64 ((k + 1 : Nat) : Int)) wr.drew) := ⟨k + 1, k, by omega, rfl, rfl, .inl ⟨k, by omega, hek, rfl⟩, HBz.out⟩
                clear hev hek
                go_wp2_with fail
                refine ⟨HN.out, ?_⟩
                simp [intOf]; omega
              · have hev : (ids.getD k [] == gone) = false := by rw [beq_eq_false_iff_ne]; exact hek
                rw [hev]
                have HN : Hid (RelAt ids gone len w7 (.int .i64 a) (.int .i64 ((k + 1 : Nat) : Int)) wr.drew) := by
                  refine ⟨k + 1, a, by omega, rfl, rfl, ?_, HBz.out⟩
                  rcases HPL.out with ⟨q, h1, h2⟩ | ⟨h1, h2⟩
                  · exact .inl ⟨q, by omega, h2⟩
                  · refine .inr ⟨h1, fun q hq => ?_⟩
                    by_cases e : q = k
                    · subst e; exact hek
                    · exact h2 q (by omega)
                clear hev hek
                go_wp2_with fail
                refine ⟨HN.out, ?_⟩
                simp [intOf]; omega
            · have hkl : k = len := by omega
              have hpl := HPL.out
              rw [hkl, HL.out] at hpl
              obtain ⟨q, hqc, her⟩ := gone_place ids gone a hpl HS.out
              rw [← HL.out] at hqc
              clear HPL hpl
              have HER : Hid (ids.erase gone = ids.eraseIdx q) := her
              clear her
              obtain ⟨w8, hw8⟩ : ∃ x, x = wr := ⟨_, rfl⟩
              rw [← hw8] at HBr2 ⊢
              clear hw8
              have HB18 : Hid (Below w1.heap.size w1 w8) := HB17.out.trans (HBr2.out.mono HB17.out.size)
              have HB48 : Hid (Below w4.heap.size w4 w8) := HB47.out.trans (HBr2.out.mono HB47.out.size)
              have HT8 : Hid (TblE w8 base tb self size ids.length (entCells self ids)) := HTE.out.below HB48.out (Nat.le_refl _)
              have hbase8 : base ≤ w8.heap.size := by
                obtain ⟨_, h1, h2, _⟩ := HT8.out
                have := h1.lt
                omega
              have gg : HasA w8 (w.heap.size + 1) 0 (idA gone) := hgone.below HB18.out (by rw [HZ.out]; omega)
              go_wp2_with (refine stop_load 22 ?_)
              refine go_on ?_
              refine lst_val _ (exec_load_at w8 22 _ rfl (w.heap.size + 1) 0 rfl (idA gone) (Try.isAgg22 _) (by rw [idA_size, hg.1]; exact Try.sizeOf22 _) gg) ?_
              simp only [List.set_cons_succ, List.set_cons_zero]
              go_wp2_with fail
              refine (remove5_c self hs size base tb ids HID.out HS.out gone hg w8 HT8.out hlen32 hbase8).mono ?_
              rintro e w9 ⟨rfl, hT9, hb9⟩
              rw [HER.out] at hT9
              have HB19 : Hid (Below w1.heap.size w1 w9) := HB18.out.trans (hb9.mono hbase1)
              have hEid : AllID (ids.eraseIdx q) := eraseIdx_id HID.out q
              have hEl : (ids.eraseIdx q).length ≤ ids.length := List.length_eraseIdx_le ..
              have hpc := peersOf_c self hs (ids.eraseIdx q) hEid (by omega) size base tb w9 hT9
              obtain ⟨E, hE⟩ : ∃ E, E = ids.eraseIdx q := ⟨_, rfl⟩
              rw [← hE] at hpc hEid
              have hEq : E.length = if q < len then len - 1 else len := by
                rw [hE, List.length_eraseIdx, ← HL.out]
              have HPC : Hid (Calls Try.prog 23 #[.pointer (some ⟨tb, 0, none⟩)] w9 fun e w' => e = .returned (.slice (some ⟨w9.heap.size, 0, none⟩) E.length E.length) ∧ PeersAt w' w9.heap.size E.length E ∧ Below w9.heap.size w9 w') := hpc
              have HE : Hid (E = ids.eraseIdx q) := hE
              have HEID : Hid (AllID E) := hEid
              clear hb9 hT9 hpc hE hEid gg hEl
              obtain ⟨m, hm⟩ : ∃ m, m = E.length := ⟨_, rfl⟩
              have HM : Hid (m = E.length) := hm
              rw [← hm] at HPC hEq
              clear hm
              rcases hqc with ⟨hql, rfl, hmem⟩ | ⟨hql, rfl, hmem⟩
              · rw [decide_eq_true hmem]
                have hmv : m = len - 1 := by rw [hEq, if_pos hql]
                have hm1 : (m : Int) = (len : Int) - 1 := by omega
                clear hmem hEq hmv
                go_wp2_with fail
                refine HPC.out.mono ?_
                clear HPC
                rintro e w10 ⟨rfl, hp10, hb10⟩
                obtain ⟨G3, hG3⟩ : ∃ G3, G3 = w9.heap.size := ⟨_, rfl⟩
                rw [← hG3] at hp10 ⊢
                have HP10 : Hid (PeersAt w10 G3 m E) := hp10
                have HB110 : Hid (Below w1.heap.size w1 w10) := HB19.out.trans (hb10.mono HB19.out.size)
                have HG3 : Hid (G3 < w10.heap.size) := by
                  obtain ⟨c2, h1, _⟩ := hp10
                  exact (Array.getElem?_eq_some_iff.1 h1).1
                clear hp10 hb10 hG3
                go_wp2_with fail
                go_loopw [15, 16] (fun vj vi wx => RelJ q len w10 vj vi wx) (fun _ vi _ => len - (intOf vi).toNat)
                case atStart => exact ⟨0, by omega, rfl, by simp, Below.refl _ _⟩
                case round =>
                  obtain ⟨i, hi, rfl, rfl, hbr⟩ := hrel
                  have HBr3 : Hid (Below w10.heap.size w10 wr) := hbr
                  clear hbr
                  by_cases hlt4 : i < len
                  · have hlt4' : (i : Int) < (len : Int) := by omega
                    by_cases hiq : i = q
                    · have HN : Hid (RelJ q len w10 (.int .i64 ((if i ≤ q then i else i - 1 : Nat) : Int)) (.int .i64 ((i + 1 : Nat) : Int)) wr) := ⟨i + 1, by omega, rfl, by
                        rw [if_pos (by omega), if_neg (by omega)]
                        rfl, HBr3.out⟩
                      subst hiq
                      generalize (if i ≤ i then i else i - 1 : Nat) = jj at *
                      go_wp2_with fail
                      refine ⟨HN.out, ?_⟩
                      simp [intOf]; omega
                    · have hne : ¬ ((i : Int) = (q : Int)) := by omega
                      have hnb : ((i : Int) == (q : Int)) = false := by rw [beq_eq_false_iff_ne]; exact hne
                      obtain ⟨jj, hjj⟩ : ∃ jj : Nat, jj = if i ≤ q then i else i - 1 := ⟨_, rfl⟩
                      rw [← hjj]
                      have hjm : jj < m := by
                        rw [hjj]
                        split <;> omega
                      have heq2 : E.getD jj [] = ids.getD i [] := by
                        rw [HE.out, ← eraseIdx_at ids q i hiq, hjj]
                        congr 1
                        by_cases h : i < q
                        · rw [if_pos (by omega), if_pos h]
                        · rw [if_neg (by omega), if_neg h]
                      have HJN : Hid (((if i + 1 ≤ q then i + 1 else i + 1 - 1 : Nat)) = jj + 1) := by
                        show (if i + 1 ≤ q then i + 1 else i + 1 - 1 : Nat) = jj + 1
                        rw [hjj]
                        by_cases h : i < q
                        · rw [if_pos (by omega), if_pos (by omega)]
                        · rw [if_neg (by omega), if_neg (by omega)]
                          omega
                      have HEQ2 : Hid (E.getD jj [] = ids.getD i []) := heq2
                      have hjj32 : jj ≤ 32768 := by omega
                      clear hjj heq2
                      obtain ⟨b, off, rfl, hblt, hcell⟩ := hat1 (by rw [← HL.out]; omega)
                      have gk : HasA w10 b (off + i * 32) (idA (ids.getD i [])) := (hcell i (by rw [← HL.out]; exact hlt4)).below HB110.out hblt
                      have hblt8 : b < w10.heap.size := Nat.lt_of_lt_of_le hblt HB110.out.size
                      have iii : IsID (ids.getD i []) := HID.out i (by rw [← HL.out]; exact hlt4)
                      have iij : IsID (E.getD jj []) := HEID.out jj (by rw [← HM.out]; exact hjm)
                      have gp : HasA w10 G3 (0 + jj * 34) (peerA (E.getD jj [])) := by
                        obtain ⟨_, _, _, h⟩ := HP10.out
                        rw [Nat.zero_add]
                        exact h jj hjm
                      clear hcell
                      go_wp2_with fail
                      refine wp_region_ord (fun w' => Below w10.heap.size w10 w') [(0, false), (1, false), (2, false), (3, false), (4, false), (5, false), (6, false), (7, false), (8, true), (9, false)] (by kernel_rfl) (by kernel_rfl)
                        (fun _ _ _ d _ h => by cases d <;> exact h) (by kernel_rfl) rfl ?_
                      have hB : Below w10.heap.size w10 wr.drew := HBr3.out.drew
                      refine ord_val 96 rfl rfl rfl hB (.slice (some ⟨G3, 0, none⟩) m m) (fun _ _ => rfl) ?_
                      simp only [List.set_cons_succ, List.set_cons_zero]
                      refine ord_val 97 rfl rfl rfl hB (.int .i64 ((jj : Nat) : Int)) (fun _ _ => rfl) ?_
                      simp only [List.set_cons_succ, List.set_cons_zero]
                      refine ord_val 98 rfl rfl rfl hB (.pointer (some ⟨G3, 0 + jj * 34, none⟩)) (fun wx _ => exec_idx wx 36 32 34 _ _ rfl G3 0 m m jj Try.underlying36 (Try.sizeOf32 wx) rfl rfl hjm) ?_
                      simp only [List.set_cons_succ, List.set_cons_zero]
                      refine ord_val 99 rfl rfl rfl hB (.agg (peerA (E.getD jj []))) (fun wx hw => exec_load_at wx 32 _ rfl G3 (0 + jj * 34) rfl _ (Try.isAgg32 wx) (by rw [peerA_size iij]; exact Try.sizeOf32 wx) (gp.below hw HG3.out)) ?_
                      simp only [List.set_cons_succ, List.set_cons_zero]
                      refine ord_val 100 rfl rfl rfl hB (.slice (some ⟨b, off, none⟩) len cap) (fun _ _ => rfl) ?_
                      simp only [List.set_cons_succ, List.set_cons_zero]
                      refine ord_val 101 rfl rfl rfl hB (.int .i64 ((i : Nat) : Int)) (fun _ _ => rfl) ?_
                      simp only [List.set_cons_succ, List.set_cons_zero]
                      refine ord_val 102 rfl rfl rfl hB (.pointer (some ⟨b, off + i * 32, none⟩)) (fun wx _ => exec_idx wx 23 22 32 _ _ rfl b off len cap i Try.underlying23 (Try.sizeOf22 wx) rfl rfl hlt4) ?_
                      simp only [List.set_cons_succ, List.set_cons_zero]
                      refine ord_val 103 rfl rfl rfl hB (.agg (idA (ids.getD i []))) (fun wx hw => exec_load_at wx 22 _ rfl b _ rfl _ (Try.isAgg22 wx) (by rw [idA_size, iii.1]; exact Try.sizeOf22 wx) (gk.below hw hblt8)) ?_
                      simp only [List.set_cons_succ, List.set_cons_zero]
                      refine ord_call 104 rfl rfl rfl 14 #[.agg (idA (ids.getD i []))] (exec_call _ 14 _ _ rfl rfl _ rfl Try.call14) (peerOf_c _ iii _) ?_
                      rintro e wz ⟨rfl, hbz⟩
                      have hBz : Below w10.heap.size w10 wz := hB.trans (hbz.mono hB.size)
                      refine ⟨_, rfl, hBz, ?_⟩
                      simp only [List.set_cons_succ, List.set_cons_zero]
                      refine ord_val 105 rfl rfl rfl hBz (.bool false) (fun wx _ => (exec_neqpeer wx 32 (.tmp 99) (.tmp 104) rfl (E.getD jj []) (ids.getD i []) iij iii rfl rfl).trans (by rw [HEQ2.out, beq_self_eq_true]; rfl)) ?_
                      simp only [List.set_cons_succ, List.set_cons_zero]
                      refine ord_done ?_
                      have HBz : Hid (Below w10.heap.size w10 wz) := hBz
                      clear hB hBz hbz
                      clear gk gp iij iii
                      go_wp2_with fail
                      refine ⟨⟨i + 1, by omega, by go_num, by rw [HJN.out]; go_num, HBz.out⟩, ?_⟩
                      simp [intOf]; omega
                  · go_wp2_with fail
                    go_ret
                    exact ⟨rfl, hbel.trans ((HB110.out.mono (by rw [HZ.out]; omega)).trans (HBr3.out.mono (by have := HB110.out.size; rw [HZ.out] at this; omega)))⟩
              · rw [decide_eq_false hmem]
                have hmv : m = len := by rw [hEq, if_neg (by omega)]
                have hm1 : (m : Int) = (len : Int) := by omega
                clear hmem hEq hmv
                go_wp2_with fail
                refine HPC.out.mono ?_
                clear HPC
                rintro e w10 ⟨rfl, hp10, hb10⟩
                obtain ⟨G3, hG3⟩ : ∃ G3, G3 = w9.heap.size := ⟨_, rfl⟩
                rw [← hG3] at hp10 ⊢
                have HP10 : Hid (PeersAt w10 G3 m E) := hp10
                have HB110 : Hid (Below w1.heap.size w1 w10) := HB19.out.trans (hb10.mono HB19.out.size)
                have HG3 : Hid (G3 < w10.heap.size) := by
                  obtain ⟨c2, h1, _⟩ := hp10
                  exact (Array.getElem?_eq_some_iff.1 h1).1
                clear hp10 hb10 hG3
                go_wp2_with fail
                go_loopw [15, 16] (fun vj vi wx => RelJ q len w10 vj vi wx) (fun _ vi _ => len - (intOf vi).toNat)
                case atStart => exact ⟨0, by omega, rfl, by simp, Below.refl _ _⟩
                case round =>
                  obtain ⟨i, hi, rfl, rfl, hbr⟩ := hrel
                  have HBr3 : Hid (Below w10.heap.size w10 wr) := hbr
                  clear hbr
                  by_cases hlt4 : i < len
                  · have hlt4' : (i : Int) < (len : Int) := by omega
                    have hiq : ¬ i = q := by omega
                    have hnb : ((i : Int) == -1) = false := by rw [beq_eq_false_iff_ne]; omega
                    obtain ⟨jj, hjj⟩ : ∃ jj : Nat, jj = if i ≤ q then i else i - 1 := ⟨_, rfl⟩
                    rw [← hjj]
                    have hjm : jj < m := by
                      rw [hjj]
                      split <;> omega
                    have heq2 : E.getD jj [] = ids.getD i [] := by
                      rw [HE.out, ← eraseIdx_at ids q i hiq, hjj]
                      congr 1
                      by_cases h : i < q
                      · rw [if_pos (by omega), if_pos h]
                      · rw [if_neg (by omega), if_neg h]
                    have HJN : Hid (((if i + 1 ≤ q then i + 1 else i + 1 - 1 : Nat)) = jj + 1) := by
                      show (if i + 1 ≤ q then i + 1 else i + 1 - 1 : Nat) = jj + 1
                      rw [hjj]
                      by_cases h : i < q
                      · rw [if_pos (by omega), if_pos (by omega)]
                      · rw [if_neg (by omega), if_neg (by omega)]
                        omega
                    have HEQ2 : Hid (E.getD jj [] = ids.getD i []) := heq2
                    have hjj32 : jj ≤ 32768 := by omega
                    clear hjj heq2
                    obtain ⟨b, off, rfl, hblt, hcell⟩ := hat1 (by rw [← HL.out]; omega)
                    have gk : HasA w10 b (off + i * 32) (idA (ids.getD i [])) := (hcell i (by rw [← HL.out]; exact hlt4)).below HB110.out hblt
                    have hblt8 : b < w10.heap.size := Nat.lt_of_lt_of_le hblt HB110.out.size
                    have iii : IsID (ids.getD i []) := HID.out i (by rw [← HL.out]; exact hlt4)
                    have iij : IsID (E.getD jj []) := HEID.out jj (by rw [← HM.out]; exact hjm)
                    have gp : HasA w10 G3 (0 + jj * 34) (peerA (E.getD jj [])) := by
                      obtain ⟨_, _, _, h⟩ := HP10.out
                      rw [Nat.zero_add]
                      exact h jj hjm
                    clear hcell
                    go_wp2_with fail
                    refine wp_region_ord (fun w' => Below w10.heap.size w10 w') [(0, false), (1, false), (2, false), (3, false), (4, false), (5, false), (6, false), (7, false), (8, true), (9, false)] (by kernel_rfl) (by kernel_rfl)
                      (fun _ _ _ d _ h => by cases d <;> exact h) (by kernel_rfl) rfl ?_
                    have hB : Below w10.heap.size w10 wr.drew := HBr3.out.drew
                    refine ord_val 96 rfl rfl rfl hB (.slice (some ⟨G3, 0, none⟩) m m) (fun _ _ => rfl) ?_
                    simp only [List.set_cons_succ, List.set_cons_zero]
                    refine ord_val 97 rfl rfl rfl hB (.int .i64 ((jj : Nat) : Int)) (fun _ _ => rfl) ?_
                    simp only [List.set_cons_succ, List.set_cons_zero]
                    refine ord_val 98 rfl rfl rfl hB (.pointer (some ⟨G3, 0 + jj * 34, none⟩)) (fun wx _ => exec_idx wx 36 32 34 _ _ rfl G3 0 m m jj Try.underlying36 (Try.sizeOf32 wx) rfl rfl hjm) ?_
                    simp only [List.set_cons_succ, List.set_cons_zero]
                    refine ord_val 99 rfl rfl rfl hB (.agg (peerA (E.getD jj []))) (fun wx hw => exec_load_at wx 32 _ rfl G3 (0 + jj * 34) rfl _ (Try.isAgg32 wx) (by rw [peerA_size iij]; exact Try.sizeOf32 wx) (gp.below hw HG3.out)) ?_
                    simp only [List.set_cons_succ, List.set_cons_zero]
                    refine ord_val 100 rfl rfl rfl hB (.slice (some ⟨b, off, none⟩) len cap) (fun _ _ => rfl) ?_
                    simp only [List.set_cons_succ, List.set_cons_zero]
                    refine ord_val 101 rfl rfl rfl hB (.int .i64 ((i : Nat) : Int)) (fun _ _ => rfl) ?_
                    simp only [List.set_cons_succ, List.set_cons_zero]
                    refine ord_val 102 rfl rfl rfl hB (.pointer (some ⟨b, off + i * 32, none⟩)) (fun wx _ => exec_idx wx 23 22 32 _ _ rfl b off len cap i Try.underlying23 (Try.sizeOf22 wx) rfl rfl hlt4) ?_
                    simp only [List.set_cons_succ, List.set_cons_zero]
                    refine ord_val 103 rfl rfl rfl hB (.agg (idA (ids.getD i []))) (fun wx hw => exec_load_at wx 22 _ rfl b _ rfl _ (Try.isAgg22 wx) (by rw [idA_size, iii.1]; exact Try.sizeOf22 wx) (gk.below hw hblt8)) ?_
                    simp only [List.set_cons_succ, List.set_cons_zero]
                    refine ord_call 104 rfl rfl rfl 14 #[.agg (idA (ids.getD i []))] (exec_call _ 14 _ _ rfl rfl _ rfl Try.call14) (peerOf_c _ iii _) ?_
                    rintro e wz ⟨rfl, hbz⟩
                    have hBz : Below w10.heap.size w10 wz := hB.trans (hbz.mono hB.size)
                    refine ⟨_, rfl, hBz, ?_⟩
                    simp only [List.set_cons_succ, List.set_cons_zero]
                    refine ord_val 105 rfl rfl rfl hBz (.bool false) (fun wx _ => (exec_neqpeer wx 32 (.tmp 99) (.tmp 104) rfl (E.getD jj []) (ids.getD i []) iij iii rfl rfl).trans (by rw [HEQ2.out, beq_self_eq_true]; rfl)) ?_
                    simp only [List.set_cons_succ, List.set_cons_zero]
                    refine ord_done ?_
                    have HBz : Hid (Below w10.heap.size w10 wz) := hBz
                    clear hB hBz hbz
                    clear gk gp iij iii
                    go_wp2_with fail
                    refine ⟨⟨i + 1, by omega, by go_num, by rw [HJN.out]; go_num, HBz.out⟩, ?_⟩
                    simp [intOf]; omega
                  · go_wp2_with fail
                    go_ret
                    exact ⟨rfl, hbel.trans ((HB110.out.mono (by rw [HZ.out]; omega)).trans (HBr3.out.mono (by have := HB110.out.size; rw [HZ.out] at this; omega)))⟩
end Go.Proofs.Qxb6612853a
