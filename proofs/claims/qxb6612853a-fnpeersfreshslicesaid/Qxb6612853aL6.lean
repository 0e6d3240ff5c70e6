/-
  The law FnPeersFreshSlice: the walk.
-/
import Derived.Test.Qxb6612853aW2
import Derived.Test.Qxb6612853aW3
import Derived.Test.Qxb6612853aW9
namespace Go.Proofs.Qxb6612853a
open Go.RowKit

/-- The first loop's relation. -/
def RelF (n g : Nat) (w : World) (v : Value) (wr : World) : Prop :=
  ∃ k : Nat, k ≤ n ∧ v = .int .i64 k ∧ ∃ cur : Array Value, wr.heap[g]? = some (.cells cur 32 (0, 0)) ∧ cur.size = n * 34 ∧ Below g w wr

set_option maxHeartbeats 4000000 in
theorem law6 (self : List Nat) (ids : List (List Nat)) (hs : IsID self) (hids : AllID ids) (ao : Option Addr) (cap : Nat) (w : World) (hat : IdsAt w ao ids) :
    Calls Try.prog 6 #[.agg (idA self), .slice ao ids.length cap] w fun e w' => e = .returned (.bool true) ∧ Below w.heap.size w w' := by
  obtain ⟨len, hlen'⟩ : ∃ n, n = ids.length := ⟨_, rfl⟩
  rw [← hlen']
  have HL : Hid (len = ids.length) := hlen'
  clear hlen'
  have HID : Hid (AllID ids) := hids
  clear hids
  go_enter Try.func6, Try.ntmps6
  go_wp2_with (refine wpList_ld rfl 22 _ rfl w.heap.size 0 rfl (idA self) (Try.isAgg22 _) (by rw [idA_size, hs.1]; exact Try.sizeOf22 _) (HasA.of_block (heap_alloc_new w _)) ?_)
  obtain ⟨w1, hw1⟩ : ∃ x, x = w.alloc (.cells (idA self) 22) := ⟨_, rfl⟩
  rw [← hw1]
  have hz1 : w1.heap.size = w.heap.size + 1 := by rw [hw1]; simp
  have hself : HasA w1 w.heap.size 0 (idA self) := by rw [hw1]; exact HasA.of_block (heap_alloc_new w _)
  have hbel : Below w.heap.size w w1 := by rw [hw1]; exact (Below.refl _ _).alloc (Nat.le_refl _) _
  have hat1 : IdsAt w1 ao ids := hat.below hbel (Nat.le_refl _)
  clear hw1 hat
  have HZ : Hid (w1.heap.size = w.heap.size + 1) := hz1
  clear hz1
  refine (bytes24_c self ao len cap w1).mono ?_
  rintro e w2 ⟨rfl, hb2⟩
  have HB2 : Hid (Below w1.heap.size w1 w2) := hb2
  clear hb2
  cases hok : okBytes len with
  | false =>
    go_wp2_with fail
    go_ret
    exact ⟨rfl, hbel.trans (HB2.out.mono (by rw [HZ.out]; omega))⟩
  | true =>
    have hle := okBytes_le hok
    clear hok
    have hle' : ¬ (32768 : Int) < (len : Int) := by omega
    have gs2 : HasA w2 w.heap.size 0 (idA self) := hself.below HB2.out (by rw [HZ.out]; omega)
    go_wp2_with (refine wpList_ld rfl 22 _ rfl w.heap.size 0 rfl (idA self) (Try.isAgg22 _) (by rw [idA_size, hs.1]; exact Try.sizeOf22 _) gs2 ?_)
    have hso := sorted_c self ids hs HID.out ao cap w2 (hat1.below HB2.out (Nat.le_refl _)) (by rw [← HL.out]; omega)
    rw [← HL.out] at hso
    refine hso.mono ?_
    clear hso
    rintro e w3 ⟨rfl, hb3⟩
    have HB3 : Hid (Below w1.heap.size w1 w3) := HB2.out.trans (hb3.mono HB2.out.size)
    clear hb3
    cases hsrt : sortedB self ids with
    | false =>
      go_wp2_with fail
      go_ret
      exact ⟨rfl, hbel.trans (HB3.out.mono (by rw [HZ.out]; omega))⟩
    | true =>
      have HS : Hid (SortedAway self ids) := sortedB_spec hsrt
      clear hsrt
      have gs3 : HasA w3 w.heap.size 0 (idA self) := hself.below HB3.out (by rw [HZ.out]; omega)
      go_wp2_with (refine wpList_ld rfl 22 _ rfl w.heap.size 0 rfl (idA self) (Try.isAgg22 _) (by rw [idA_size, hs.1]; exact Try.sizeOf22 _) gs3 ?_)
      have hbu := build_c self ids hs HID.out ao cap w3 (hat1.below HB3.out (Nat.le_refl _)) (by rw [← HL.out]; omega)
      rw [← HL.out] at hbu
      refine hbu.mono ?_
      clear hbu
      rintro e w4 ⟨base, tb, size, rfl, hbase, hte, hb4⟩
      have HB4 : Hid (Below w1.heap.size w1 w4) := HB3.out.trans (hb4.mono HB3.out.size)
      clear hb4
      obtain ⟨ae, ce, ht, hnc, hents⟩ := hte.ents HID.out HL.out
      clear hte
      have HPE : Hid (∀ wx, Below w4.heap.size w4 wx → Calls Try.prog 23 #[.pointer (some ⟨tb, 0, none⟩)] wx fun e w' => e = .returned (.slice (some ⟨wx.heap.size, 0, none⟩) len len) ∧ PeersAt w' wx.heap.size len ids ∧ Below wx.heap.size wx w') := fun wx hwx =>
        zzpeers_c self ids HID.out tb len ce ae wx (by omega) HL.out ((ht.of_block (hwx.block tb ht.lt)).cell36 hs) (fun h0 => by
          obtain ⟨g, hg, _, hglt, hc⟩ := hents h0
          exact ⟨g, hg, Nat.lt_of_lt_of_le hglt hwx.size, fun i hi => (hc i hi).below hwx hglt⟩)
      have HLE : Hid (∀ wx, Below w4.heap.size w4 wx → Calls Try.prog 25 #[.pointer (some ⟨tb, 0, none⟩)] wx fun e w' => e = .returned (.int .i64 (len : Int)) ∧ w' = wx) := fun wx hwx =>
        len_c tb len ce ae wx ((ht.of_block (hwx.block tb ht.lt)).cell36 hs)
      clear ht hnc hents
      have hw14 : w1.heap.size ≤ w4.heap.size := HB4.out.size
      go_wp2_with fail
      refine (HPE.out w4 (Below.refl _ _)).mono ?_
      rintro e w5 ⟨rfl, hp5, hb5⟩
      have HR5 : Hid (RelF len w4.heap.size w4 (.int .i64 0) w5) := by
        obtain ⟨cur, h1, h2, _⟩ := hp5
        exact ⟨0, by omega, rfl, cur, h1, h2, hb5⟩
      clear hp5 hb5
      go_wp2_with fail
      go_loopw [7] (fun v wr => RelF len w4.heap.size w4 v wr) (fun v _ => len - (intOf v).toNat)
      case atStart => exact HR5.out
      case round =>
        obtain ⟨k, hk, rfl, cur, hcur, hsz, hbl⟩ := hrel
        have HB : Hid (Below w4.heap.size w4 wr) := hbl
        have HC : Hid (wr.heap[w4.heap.size]? = some (.cells cur 32 (0, 0))) := hcur
        have HSZ : Hid (cur.size = len * 34) := hsz
        have HB1 : Hid (Below w1.heap.size w1 wr) := HB4.out.trans (hbl.mono hw14)
        clear hbl hcur hsz
        by_cases hlt : k < len
        · have gsr : HasA wr w.heap.size 0 (idA self) := hself.below HB1.out (by rw [HZ.out]; omega)
          have hgr : w4.heap.size < wr.heap.size := (Array.getElem?_eq_some_iff.1 HC.out).1
          have hlt' : (k : Int) < (len : Int) := by omega
          go_wp2_with (refine wpList_ld rfl 22 _ rfl w.heap.size 0 rfl (idA self) (Try.isAgg22 _) (by rw [idA_size, hs.1]; exact Try.sizeOf22 _) gsr ?_)
          refine (peerOf_c self hs wr).mono ?_
          rintro e w6 ⟨rfl, hb6⟩
          have hc6 : w6.heap[w4.heap.size]? = some (.cells cur 32 (0, 0)) := (hb6.block _ hgr).trans HC.out
          have HB6 : Hid (Below w4.heap.size w4 w6) := HB.out.trans (hb6.mono (by omega))
          have HC6 : Hid (w6.heap[w4.heap.size]? = some (.cells cur 32 (0, 0))) := hc6
          clear hb6 hc6 gsr
          go_wp2_with (refine stop_idx 36 ?_)
          refine go_on ?_
          refine lst_val _ (exec_idx w6 36 32 34 _ _ rfl w4.heap.size 0 len len k Try.underlying36 (Try.sizeOf32 _) rfl rfl hlt) ?_
          simp only [List.set_cons_succ, List.set_cons_zero]
          have hfit : 0 + k * 34 + (peerA self).size ≤ cur.size := by rw [peerA_size hs, HSZ.out]; omega
          refine lst_sk (exec_storeA w6 32 _ _ rfl w4.heap.size (0 + k * 34) (peerA self) rfl rfl (by rw [peerA_size hs]; exact Try.sizeOf32 _) cur 32 HC6.out hfit (peerA_one _)) ?_
          have HN : Hid (RelF len w4.heap.size w4 (.int .i64 ((k + 1 : Nat) : Int)) (w6.setRow w4.heap.size (splice cur (0 + k * 34) (peerA self)))) :=
            ⟨k + 1, by omega, rfl, _, setRow_heap _ _ _ _ 32 _ HC6.out, by rw [splice_size _ _ _ hfit]; exact HSZ.out, below_setRow' HB6.out (Nat.le_refl _) _⟩
          generalize w6.setRow w4.heap.size (splice cur (0 + k * 34) (peerA self)) = w7 at *
          clear hfit
          go_wp2_with fail
          exact ⟨HN.out, by simp [intOf]; omega⟩
        · go_wp2_with fail
          refine (HPE.out wr HB.out).mono ?_
          rintro e w6 ⟨rfl, hp6, hb6⟩
          have HB6 : Hid (Below w4.heap.size w4 w6) := HB.out.trans (hb6.mono HB.out.size)
          have HP6 : Hid (PeersAt w6 wr.heap.size len ids) := hp6
          have HG2' : Hid (wr.heap.size < w6.heap.size) := by
            obtain ⟨c2, h1, _⟩ := hp6
            exact (Array.getElem?_eq_some_iff.1 h1).1
          have HB16 : Hid (Below w1.heap.size w1 w6) := HB4.out.trans (HB6.out.mono hw14)
          clear hp6 hb6
          obtain ⟨G2, hG2⟩ : ∃ G2, G2 = wr.heap.size := ⟨_, rfl⟩
          rw [← hG2] at HP6 HG2' ⊢
          clear hG2
          go_wp2_with fail
          refine (HLE.out w6 HB6.out).mono ?_
          rintro e w7 ⟨rfl, rfl⟩
          go_wp2_with fail
          go_loopw [9] (fun v wx => ∃ k : Nat, k ≤ len ∧ v = .int .i64 k ∧ Hid (Below w7.heap.size w7 wx)) (fun v _ => len - (intOf v).toNat)
          case atStart => exact ⟨0, by omega, rfl, Below.refl _ _⟩
          case round =>
            obtain ⟨j, hj, rfl, HW⟩ := hrel
            by_cases hlt2 : j < len
            · obtain ⟨b, off, rfl, hblt, hcell⟩ := hat1 (by rw [← HL.out]; omega)
              have gk : HasA w7 b (off + j * 32) (idA (ids.getD j [])) := (hcell j (by rw [← HL.out]; exact hlt2)).below HB16.out hblt
              have hblt8 : b < w7.heap.size := Nat.lt_of_lt_of_le hblt HB16.out.size
              have iij : IsID (ids.getD j []) := HID.out j (by rw [← HL.out]; exact hlt2)
              have gp : HasA w7 G2 (0 + j * 34) (peerA (ids.getD j [])) := by
                obtain ⟨_, _, _, h⟩ := HP6.out
                rw [Nat.zero_add]
                exact h j hlt2
              have hlt2' : (j : Int) < (len : Int) := by omega
              go_wp2_with fail
              refine wp_region_ord (fun w' => Below w7.heap.size w7 w') [(0, false), (1, false), (2, false), (3, false), (4, false), (5, false), (6, false), (7, false), (8, true), (9, false)] (by kernel_rfl) (by kernel_rfl)
                (fun _ _ _ d _ h => by cases d <;> exact h) (by kernel_rfl) rfl ?_
              have hB : Below w7.heap.size w7 wr.drew := HW.out.drew
              refine ord_val 64 rfl rfl rfl hB (.slice (some ⟨G2, 0, none⟩) len len) (fun _ _ => rfl) ?_
              simp only [List.set_cons_succ, List.set_cons_zero]
              refine ord_val 65 rfl rfl rfl hB (.int .i64 j) (fun _ _ => rfl) ?_
              simp only [List.set_cons_succ, List.set_cons_zero]
              refine ord_val 66 rfl rfl rfl hB (.pointer (some ⟨G2, 0 + j * 34, none⟩)) (fun wx _ => exec_idx wx 36 32 34 _ _ rfl G2 0 len len j Try.underlying36 (Try.sizeOf32 wx) rfl rfl hlt2) ?_
              simp only [List.set_cons_succ, List.set_cons_zero]
              refine ord_val 67 rfl rfl rfl hB (.agg (peerA (ids.getD j []))) (fun wx hw => exec_load_at wx 32 _ rfl G2 (0 + j * 34) rfl _ (Try.isAgg32 wx) (by rw [peerA_size iij]; exact Try.sizeOf32 wx) (gp.below hw HG2'.out)) ?_
              simp only [List.set_cons_succ, List.set_cons_zero]
              refine ord_val 68 rfl rfl rfl hB (.slice (some ⟨b, off, none⟩) len cap) (fun _ _ => rfl) ?_
              simp only [List.set_cons_succ, List.set_cons_zero]
              refine ord_val 69 rfl rfl rfl hB (.int .i64 j) (fun _ _ => rfl) ?_
              simp only [List.set_cons_succ, List.set_cons_zero]
              refine ord_val 70 rfl rfl rfl hB (.pointer (some ⟨b, off + j * 32, none⟩)) (fun wx _ => exec_idx wx 23 22 32 _ _ rfl b off len cap j Try.underlying23 (Try.sizeOf22 wx) rfl rfl hlt2) ?_
              simp only [List.set_cons_succ, List.set_cons_zero]
              refine ord_val 71 rfl rfl rfl hB (.agg (idA (ids.getD j []))) (fun wx hw => exec_load_at wx 22 _ rfl b _ rfl _ (Try.isAgg22 wx) (by rw [idA_size, iij.1]; exact Try.sizeOf22 wx) (gk.below hw hblt8)) ?_
              simp only [List.set_cons_succ, List.set_cons_zero]
              refine ord_call 72 rfl rfl rfl 14 #[.agg (idA (ids.getD j []))] (exec_call _ 14 _ _ rfl rfl _ rfl Try.call14) (peerOf_c _ iij _) ?_
              rintro e w8 ⟨rfl, hb8⟩
              have hB8 : Below w7.heap.size w7 w8 := hB.trans (hb8.mono hB.size)
              refine ⟨_, rfl, hB8, ?_⟩
              simp only [List.set_cons_succ, List.set_cons_zero]
              refine ord_val 73 rfl rfl rfl hB8 (.bool false) (fun wx _ => (exec_neqpeer wx 32 (.tmp 67) (.tmp 72) rfl (ids.getD j []) (ids.getD j []) iij iij rfl rfl).trans (by rw [beq_self_eq_true]; rfl)) ?_
              simp only [List.set_cons_succ, List.set_cons_zero]
              refine ord_done ?_
              have HB8 : Hid (Below w7.heap.size w7 w8) := hB8
              clear hB hB8 hb8 gk gp iij
              go_wp2_with fail
              go_roundw
              case rel => exact ⟨j + 1, by omega, by go_num, HB8.out⟩
              case measure => simp [intOf]; omega
            · go_wp2_with fail
              go_ret
              exact ⟨rfl, hbel.trans ((HB16.out.mono (by rw [HZ.out]; omega)).trans (HW.out.mono (by have := HB16.out.size; rw [HZ.out] at this; omega)))⟩
end Go.Proofs.Qxb6612853a
