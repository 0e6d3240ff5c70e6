/-
  Remove: from a table without entries; from a table without spares.
-/
import Derived.Test.Qxb6612853aW16
namespace Go.Proofs.Qxb6612853a
open Go.RowKit

theorem sorted_nil (self : List Nat) : SortedAway self [] := ⟨fun _ h => absurd h (Nat.not_lt_zero _), fun _ h => absurd h (Nat.not_lt_zero _)⟩

set_option maxHeartbeats 1000000 in
theorem remove4_c (self : List Nat) (hs : IsID self) (size : Int) (base tb : Nat) (sps : List (List Nat)) (hid : AllID sps) (l : List Nat) (hl : IsID l) (w : World) (ht : TblS w base tb self size sps) (hn : sps.length ≤ 32768) (hbase : base ≤ w.heap.size) :
    Calls Try.prog 19 #[.pointer (some ⟨tb, 0, none⟩), .agg (idA l)] w fun e w' => e = .returned (.bool false) ∧ TblS w' base tb self size (sps.erase l) ∧ Below base w w' ∧ Keeps w w' := by
  obtain ⟨w1, hw1⟩ : ∃ x, x = w.alloc (.cells (idA l) 27) := ⟨_, rfl⟩
  have hbel : Below w.heap.size w w1 := by rw [hw1]; exact (Below.refl _ _).alloc (Nat.le_refl _) _
  have hz1 : w1.heap.size = w.heap.size + 1 := by rw [hw1]; simp
  have hI1 : w1.heap[w.heap.size]? = some (.cells (idA l) 27 (0, 0)) := by rw [hw1]; exact heap_alloc_new w _
  have hcall := dropSpare_c self hs size base tb sps hid l hl w1 (ht.below hbel (Nat.le_refl _)) hn
  have HCALL : Hid (Calls Try.prog 35 #[.pointer (some ⟨tb, 0, none⟩), .agg (idA l)] w1 fun e w' => e = .returned (.tuple #[]) ∧ TblS w' base tb self size (sps.erase l) ∧ Below base w1 w' ∧ Keeps w1 w') := hcall
  have HB1 : Hid (Below base w w1) := hbel.mono hbase
  have HBL : Hid (Below w.heap.size w w1) := hbel
  have HI1 : Hid (w1.heap[w.heap.size]? = some (.cells (idA l) 27 (0, 0))) := hI1
  clear hcall hbel ht hid hI1
  go_enter Try.func19, Try.ntmps19
  go_wp2_with (refine stop_load 27 ?_)
  rw [← hw1]
  clear hw1
  refine go_on ?_
  refine lst_val _ (exec_load_at w1 27 _ rfl w.heap.size 0 rfl (idA l) (Try.isAgg27 _) (by rw [idA_size, hl.1]; exact Try.sizeOf27 _) (HasA.of_block HI1.out)) ?_
  simp only [List.set_cons_succ, List.set_cons_zero]
  go_wp2_with fail
  refine HCALL.out.mono ?_
  clear HCALL
  rintro e w2 ⟨rfl, hT2, hb2, hk2⟩
  have hI2 := hk2 _ _ _ (by decide) (by decide) HI1.out
  obtain ⟨sp, htb2, hbt2, hown2⟩ := hT2
  have htlt := htb2.lt
  have hcall := holds_c self hs [] (fun i hi => absurd hi (Nat.not_lt_zero _)) (sorted_nil self) l hl tb 0 none w2 (by simp) (tblA_prefix htb2) (htb2.cell36 hs) (fun h => absurd h (Nat.not_lt_zero _))
  have HCALL : Hid (Calls Try.prog 36 #[.pointer (some ⟨tb, 0, none⟩), .agg (idA l)] w2 fun e w' => ∃ r : Nat, e = .returned (.bool (decide (r < ([] : List (List Nat)).length) && (([] : List (List Nat)).getD r [] == l))) ∧ Found self [] l r ∧ Below w2.heap.size w2 w') := hcall
  have HT2 : Hid (TblS w2 base tb self size (sps.erase l)) := ⟨sp, htb2, hbt2, hown2⟩
  have HB2 : Hid (Below base w w2) := HB1.out.trans hb2
  have HK2 : Hid (Keeps w w2) := fun j cs t h32 h64 hj => hk2 j cs t h32 h64 ((HBL.out.block j (Array.getElem?_eq_some_iff.1 hj).1).trans hj)
  have HI2 : Hid (w2.heap[w.heap.size]? = some (.cells (idA l) 27 (0, 0))) := hI2
  have hbase2 : base ≤ w2.heap.size := Nat.le_trans hbase (Nat.le_trans HB1.out.size hb2.size)
  clear hcall hk2 hI2 htb2 hbt2 hown2 hb2
  go_wp2_with (refine stop_load 27 ?_)
  refine go_on ?_
  refine lst_val _ (exec_load_at w2 27 _ rfl w.heap.size 0 rfl (idA l) (Try.isAgg27 _) (by rw [idA_size, hl.1]; exact Try.sizeOf27 _) (HasA.of_block HI2.out)) ?_
  simp only [List.set_cons_succ, List.set_cons_zero]
  go_wp2_with fail
  refine HCALL.out.mono ?_
  clear HCALL
  rintro e w3 ⟨r, rfl, _, hb3⟩
  have e0 : (decide (r < ([] : List (List Nat)).length) && (([] : List (List Nat)).getD r [] == l)) = false := by simp
  rw [e0]
  clear e0
  have HB3 : Hid (Below w2.heap.size w2 w3) := hb3
  clear hb3
  go_wp2_with fail
  go_ret
  exact ⟨rfl, HT2.out.below HB3.out (Nat.le_refl _), HB2.out.trans (HB3.out.mono hbase2), HK2.out.below HB3.out (Nat.le_refl _)⟩

theorem entCells_app (self : List Nat) (a b : List (List Nat)) : entCells self (a ++ b) = entCells self a ++ entCells self b := by simp [entCells]
theorem entCells_len {self : List Nat} {ids : List (List Nat)} (h : AllID ids) : ∀ k, k ≤ ids.length → (entCells self (ids.take k)).length = k * 36 := by
  intro k
  induction k with
  | zero => intro _; simp [entCells]
  | succ k ih =>
    intro hk
    rw [entCells_snoc _ _ _ hk, List.length_append, ih (by omega), Array.length_toList, entA_size (h k hk)]
    omega
theorem entCells_one (self : List Nat) (ids : List (List Nat)) : ∀ u ∈ entCells self ids, u.oneCell' = true := fun u hu => by
  unfold entCells at hu
  rw [List.mem_flatMap] at hu
  obtain ⟨l, _, hl⟩ := hu
  exact entA_one l _ u hl
theorem entCells_del (self : List Nat) (ids : List (List Nat)) (h : AllID ids) (k : Nat) (hk : k < ids.length) : (entCells self ids).take (k * 36) ++ (entCells self ids).drop ((k + 1) * 36) = entCells self (ids.eraseIdx k) := by
  have e1 : entCells self ids = entCells self (ids.take k) ++ entCells self (ids.drop k) := by rw [← entCells_app, List.take_append_drop]
  have e2 : entCells self ids = entCells self (ids.take (k + 1)) ++ entCells self (ids.drop (k + 1)) := by rw [← entCells_app, List.take_append_drop]
  have l1 := entCells_len (self := self) h k (by omega)
  have l2 := entCells_len (self := self) h (k + 1) (by omega)
  have t1 : (entCells self ids).take (k * 36) = entCells self (ids.take k) := by rw [e1, ← l1, List.take_left]
  have t2 : (entCells self ids).drop ((k + 1) * 36) = entCells self (ids.drop (k + 1)) := by rw [e2, ← l2, List.drop_left]
  rw [t1, t2, ← entCells_app, List.eraseIdx_eq_take_drop_succ]

theorem TblE.shape {w : World} {base tb : Nat} {self : List Nat} {size : Int} {ids : List (List Nat)} (hs : IsID self) (hids : AllID ids) (h : TblE w base tb self size ids.length (entCells self ids)) :
    ∃ ao cap, IsTbl w tb self size (.slice ao ids.length cap) (.slice none 0 0) ∧ base ≤ tb ∧ w.ownsRow base 74 36 (.slice ao ids.length cap) ids.length (entCells self ids) ∧ EntsAt w ao self ids := by
  obtain ⟨ao, cap, ht, hnc, hents⟩ := h.ents hids rfl
  obtain ⟨ent, ht', hb, ho⟩ := h
  have e : ent = .slice ao ids.length cap := by
    have h1 := ht'.cell36 hs
    rw [ht.cell36 hs] at h1
    exact (Option.some.inj h1).symm
  subst e
  refine ⟨ao, cap, ht, hb, ho, fun h0 => ?_⟩
  obtain ⟨g, h1, _, h2, h3⟩ := hents h0
  exact ⟨g, h1, h2, fun i hi => by rw [Nat.zero_add]; exact h3 i hi⟩

theorem zero74' : ∃ i, Try.prog.info? 74 = some i ∧ i.size = 36 := by
  obtain ⟨i, _, h, _, h2, _⟩ := zero74
  exact ⟨i, h, h2⟩

set_option maxHeartbeats 2000000 in
theorem remove5_c (self : List Nat) (hs : IsID self) (size : Int) (base tb : Nat) (ids : List (List Nat)) (hids : AllID ids) (hso : SortedAway self ids) (l : List Nat) (hl : IsID l) (w : World) (ht : TblE w base tb self size ids.length (entCells self ids)) (hn : ids.length ≤ 32768) (hbase : base ≤ w.heap.size) :
    Calls Try.prog 19 #[.pointer (some ⟨tb, 0, none⟩), .agg (idA l)] w fun e w' => e = .returned (.bool (decide (l ∈ ids))) ∧ TblE w' base tb self size (ids.erase l).length (entCells self (ids.erase l)) ∧ Below base w w' := by
  obtain ⟨w1, hw1⟩ : ∃ x, x = w.alloc (.cells (idA l) 27) := ⟨_, rfl⟩
  have hbel : Below w.heap.size w w1 := by rw [hw1]; exact (Below.refl _ _).alloc (Nat.le_refl _) _
  have hz1 : w1.heap.size = w.heap.size + 1 := by rw [hw1]; simp
  have hI1 : HasA w1 w.heap.size 0 (idA l) := by rw [hw1]; exact HasA.of_block (heap_alloc_new w _)
  obtain ⟨ao, cap, htb, hbt, hown, hents⟩ := ht.shape hs hids
  have htlt := htb.lt
  have HT1 : Hid (IsTbl w1 tb self size (.slice ao ids.length cap) (.slice none 0 0)) := htb.of_block (hbel.block tb htlt)
  have HO1 : Hid (w1.ownsRow base 74 36 (.slice ao ids.length cap) ids.length (entCells self ids)) := own_below hown hbel
  have HE1 : Hid (EntsAt w1 ao self ids) := hents.below hbel (Nat.le_refl _)
  have HBL : Hid (Below w.heap.size w w1) := hbel
  have HID : Hid (AllID ids) := hids
  have HSO : Hid (SortedAway self ids) := hso
  have HDR : Hid (Calls Try.prog 35 #[.pointer (some ⟨tb, 0, none⟩), .agg (idA l)] w1 fun e w' => e = .returned (.tuple #[]) ∧ Below w1.heap.size w1 w') := dropSpare0_c tb l w1 (HT1.out.cell39 hs)
  have HHO : Hid (∀ wx, Below w1.heap.size w1 wx → Calls Try.prog 36 #[.pointer (some ⟨tb, 0, none⟩), .agg (idA l)] wx fun e w' => ∃ r : Nat, e = .returned (.bool (decide (r < ids.length) && (ids.getD r [] == l))) ∧ Found self ids l r ∧ Below wx.heap.size wx w') := fun wx hwx =>
    holds_c self hs ids hids hso l hl tb cap ao wx hn (tblA_prefix (HT1.out.of_block (hwx.block tb (by omega)))) ((HT1.out.of_block (hwx.block tb (by omega))).cell36 hs) (HE1.out.below hwx (Nat.le_refl _))
  have HSE : Hid (∀ wx, Below w1.heap.size w1 wx → Calls Try.prog 37 #[.pointer (some ⟨tb, 0, none⟩), .agg (idA l)] wx fun e w' => ∃ r : Nat, e = .returned (.int .i64 (r : Int)) ∧ r ≤ ids.length ∧ (∀ k, k < r → nearer self (ids.getD k []) l = true) ∧ (∀ k, r ≤ k → k < ids.length → nearer self (ids.getD k []) l = false) ∧ Below wx.heap.size wx w') := fun wx hwx =>
    search_c self hs ids hids l hl tb cap ao wx hn (tblA_prefix (HT1.out.of_block (hwx.block tb (by omega)))) ((HT1.out.of_block (hwx.block tb (by omega))).cell36 hs) (HE1.out.below hwx (Nat.le_refl _)) (hso.mono l)
  clear hbel ht htb hown hents hids hso
  go_enter Try.func19, Try.ntmps19
  go_wp2_with (refine stop_load 27 ?_)
  rw [← hw1]
  clear hw1
  refine go_on ?_
  refine lst_val _ (exec_load_at w1 27 _ rfl w.heap.size 0 rfl (idA l) (Try.isAgg27 _) (by rw [idA_size, hl.1]; exact Try.sizeOf27 _) hI1) ?_
  simp only [List.set_cons_succ, List.set_cons_zero]
  go_wp2_with fail
  refine HDR.out.mono ?_
  clear HDR
  rintro e w2 ⟨rfl, hb2⟩
  have HB2 : Hid (Below w1.heap.size w1 w2) := hb2
  clear hb2
  go_wp2_with (refine stop_load 27 ?_)
  refine go_on ?_
  refine lst_val _ (exec_load_at w2 27 _ rfl w.heap.size 0 rfl (idA l) (Try.isAgg27 _) (by rw [idA_size, hl.1]; exact Try.sizeOf27 _) (hI1.below HB2.out (by omega))) ?_
  simp only [List.set_cons_succ, List.set_cons_zero]
  go_wp2_with fail
  refine (HHO.out w2 HB2.out).mono ?_
  clear HHO
  rintro e w3 ⟨r, rfl, hf, hb3⟩
  have HF : Hid (Found self ids l r) := hf
  have HB3 : Hid (Below w1.heap.size w1 w3) := HB2.out.trans (hb3.mono HB2.out.size)
  clear hf hb3
  by_cases hat : r < ids.length ∧ ids.getD r [] = l
  · have hval : (decide (r < ids.length) && (ids.getD r [] == l)) = true := by simp only [decide_eq_true hat.1, hat.2, beq_self_eq_true, Bool.and_self]
    rw [hval]
    have HMEM : Hid (l ∈ ids) := by
      show l ∈ ids
      rw [← hat.2]
      have : ids.getD r [] = ids[r] := by simp [List.getD, hat.1]
      rw [this]
      exact List.getElem_mem _
    have HER : Hid (ids.erase l = ids.eraseIdx r) := erase_hit l ids r (fun j hj hc => by have := HF.out.at HSO.out (by omega) hc; omega) hat.1 hat.2
    obtain ⟨g, rfl, hglt, _⟩ := HE1.out (by omega)
    have hrl := hat.1
    clear hval hat
    go_wp2_with (refine stop_load 27 ?_)
    refine go_on ?_
    refine lst_val _ (exec_load_at w3 27 _ rfl w.heap.size 0 rfl (idA l) (Try.isAgg27 _) (by rw [idA_size, hl.1]; exact Try.sizeOf27 _) (hI1.below HB3.out (by omega))) ?_
    simp only [List.set_cons_succ, List.set_cons_zero]
    go_wp2_with fail
    refine (HSE.out w3 HB3.out).mono ?_
    clear HSE
    rintro e w4 ⟨r', rfl, h1, h2, h3, hb4⟩
    have hrr : r' = r := Found.unique ⟨h1, h2, h3⟩ HF.out
    subst hrr
    have HB4 : Hid (Below w1.heap.size w1 w4) := HB3.out.trans (hb4.mono HB3.out.size)
    clear h1 h2 h3 hb4
    obtain ⟨n, hne⟩ : ∃ n, n = ids.length := ⟨_, rfl⟩
    have HN : Hid (n = ids.length) := hne
    rw [← hne] at HT1 hrl hn HO1
    clear hne
    go_wp2_with fail
    refine wp_region_ordT (fun w' => Below w1.heap.size w1 w' ∨ IsTbl w' tb self size (.slice (some ⟨g, 0, none⟩) n cap) (.slice none 0 0)) 17 [(0, false), (1, false), (2, false), (3, false), (4, false), (5, false), (6, false), (7, false), (8, false), (9, false), (10, false), (11, false), (12, false), (13, false), (14, true), (15, true), (16, true)] (by kernel_rfl) (by kernel_rfl)
      (fun _ _ _ d _ h => by cases d <;> exact h) (by kernel_rfl) rfl ?_
    have hBd : Below w1.heap.size w1 w4.drew := HB4.out.drew
    have hS : Below w1.heap.size w1 w4.drew ∨ IsTbl w4.drew tb self size (.slice (some ⟨g, 0, none⟩) n cap) (.slice none 0 0) := .inl hBd
    have hSt : ∀ w', (Below w1.heap.size w1 w' ∨ IsTbl w' tb self size (.slice (some ⟨g, 0, none⟩) n cap) (.slice none 0 0)) → IsTbl w' tb self size (.slice (some ⟨g, 0, none⟩) n cap) (.slice none 0 0) := fun w' h => by
      rcases h with h | h
      · exact HT1.out.of_block (h.block tb (by omega))
      · exact h
    have hncg : n ≤ cap ∧ base ≤ g := by
      rcases HO1.out.2 with ⟨h, _⟩ | ⟨g', cap', cur, h, hbg, _, hnc, _⟩
      · cases h
      · cases h; exact ⟨hnc, hbg⟩
    have hncap := hncg.1
    refine ord_val 16 rfl rfl rfl hS (.pointer (some ⟨tb, 0, none⟩)) (fun _ _ => rfl) ?_
    simp only [List.set_cons_succ, List.set_cons_zero]
    refine ord_val 17 rfl rfl rfl hS (.pointer (some ⟨tb, 0, none⟩)) (fun _ _ => rfl) ?_
    simp only [List.set_cons_succ, List.set_cons_zero]
    refine ord_val 18 rfl rfl rfl hS (.pointer (some ⟨tb, 0, none⟩)) (fun wx _ => exec_nilck wx _ rfl _ rfl) ?_
    simp only [List.set_cons_succ, List.set_cons_zero]
    refine ord_val 19 rfl rfl rfl hS (.pointer (some ⟨tb, 36, none⟩)) (fun wx _ => exec_field wx 64 _ 3 rfl _ rfl _ (field64_3 wx tb)) ?_
    simp only [List.set_cons_succ, List.set_cons_zero]
    refine ord_val 20 rfl rfl rfl hS (.slice (some ⟨g, 0, none⟩) n cap) (fun wx hw => exec_load1 wx 61 _ rfl _ _ rfl (Try.isAgg61 wx) ((hSt wx hw).cell36 hs)) ?_
    simp only [List.set_cons_succ, List.set_cons_zero]
    refine ord_val 21 rfl rfl rfl hS (.int .i64 (r' : Int)) (fun _ _ => rfl) ?_
    simp only [List.set_cons_succ, List.set_cons_zero]
    refine ord_val 22 rfl rfl rfl hS (.slice (some ⟨g, 0, none⟩) r' cap) (fun wx _ => exec_slice wx 61 (.tmp 20) none (some (.tmp 21)) none rfl _ _ rfl none (some (.int .i64 (r' : Int))) rfl rfl rfl (run_sl_to wx 61 74 36 Try.underlying61 (Try.sizeOf74 wx) g n cap r' (by omega) hncap)) ?_
    simp only [List.set_cons_succ, List.set_cons_zero]
    refine ord_val 23 rfl rfl rfl hS (.pointer (some ⟨tb, 0, none⟩)) (fun _ _ => rfl) ?_
    simp only [List.set_cons_succ, List.set_cons_zero]
    refine ord_val 24 rfl rfl rfl hS (.pointer (some ⟨tb, 0, none⟩)) (fun wx _ => exec_nilck wx _ rfl _ rfl) ?_
    simp only [List.set_cons_succ, List.set_cons_zero]
    refine ord_val 25 rfl rfl rfl hS (.pointer (some ⟨tb, 36, none⟩)) (fun wx _ => exec_field wx 64 _ 3 rfl _ rfl _ (field64_3 wx tb)) ?_
    simp only [List.set_cons_succ, List.set_cons_zero]
    refine ord_val 26 rfl rfl rfl hS (.slice (some ⟨g, 0, none⟩) n cap) (fun wx hw => exec_load1 wx 61 _ rfl _ _ rfl (Try.isAgg61 wx) ((hSt wx hw).cell36 hs)) ?_
    simp only [List.set_cons_succ, List.set_cons_zero]
    refine ord_val 27 rfl rfl rfl hS (.int .i64 (r' : Int)) (fun _ _ => rfl) ?_
    simp only [List.set_cons_succ, List.set_cons_zero]
    refine ord_val 28 rfl rfl rfl hS (.int .i64 ((r' + 1 : Nat) : Int)) (fun wx _ => exec_bin wx .add 3 3 _ _ rfl .i64 r' (.int .i64 1) _ rfl rfl (by rw [run_addi _ _ _ _ (by omega) (by omega)]; congr 2)) ?_
    simp only [List.set_cons_succ, List.set_cons_zero]
    refine ord_val 29 rfl rfl rfl hS (.slice (some (if cap = r' + 1 then ⟨g, 0, none⟩ else ⟨g, (r' + 1) * 36, none⟩)) (n - (r' + 1)) (cap - (r' + 1))) (fun wx _ => exec_slice wx 61 (.tmp 26) (some (.tmp 28)) none none rfl _ _ rfl (some (.int .i64 ((r' + 1 : Nat) : Int))) none rfl rfl rfl (run_sl_from wx 61 74 36 Try.underlying61 (Try.sizeOf74 wx) g n cap (r' + 1) (by omega))) ?_
    simp only [List.set_cons_succ, List.set_cons_zero]
    obtain ⟨i0, hi0, hsz0⟩ := zero74'
    have hown4 : w4.drew.ownsRow base 74 36 (.slice (some ⟨g, 0, none⟩) n cap) n (entCells self ids) := by
      have := own_below HO1.out hBd
      exact this
    obtain ⟨w5, hrun, hown5, hgr⟩ := run_del (P := Try.prog) w4.drew base 61 61 74 i0 36 Try.underlying61 hi0 hsz0 g n cap (entCells self ids) hown4 (entCells_one self ids) r' hrl (cap - (r' + 1))
    have hkl : r' < ids.length := by rw [← HN.out]; exact hrl
    rw [entCells_del self ids HID.out r' hkl] at hown5
    have htb4 : IsTbl w4.drew tb self size (.slice (some ⟨g, 0, none⟩) n cap) (.slice none 0 0) := hSt _ hS
    have htb5 : IsTbl w5 tb self size (.slice (some ⟨g, 0, none⟩) n cap) (.slice none 0 0) := htb4.of_block (hgr.block tb htb4.lt (own_ne htb4 hown4 (by omega)))
    have hS5 : Below w1.heap.size w1 w5 ∨ IsTbl w5 tb self size (.slice (some ⟨g, 0, none⟩) n cap) (.slice none 0 0) := .inr htb5
    have hb5 : Below base w w5 := (HBL.out.mono hbase).trans ((hBd.mono (by omega)).grown hgr (by have := hBd.size; omega) (fun j hj => by cases hj; exact hncg.2))
    refine ord_effv (.slice (some ⟨g, 0, none⟩) (n - 1) cap) rfl rfl rfl (exec_append _ w5 61 (.tmp 22) (.tmp 29) rfl _ _ rfl rfl _ hrun) hS5 ?_
    simp only [List.set_cons_succ, List.set_cons_zero]
    refine ord_effv (.pointer (some ⟨tb, 0, none⟩)) rfl rfl rfl (exec_nilck w5 _ rfl _ rfl) hS5 ?_
    simp only [List.set_cons_succ, List.set_cons_zero]
    refine ord_effv (.pointer (some ⟨tb, 36, none⟩)) rfl rfl rfl (exec_field w5 64 _ 3 rfl _ rfl _ (field64_3 w5 tb)) hS5 ?_
    simp only [List.set_cons_succ, List.set_cons_zero]
    refine ord_done ?_
    refine last_run rfl rfl rfl (exec_store1 w5 61 (.tmp 32) (.tmp 30) rfl ⟨tb, 36, none⟩ (.slice (some ⟨g, 0, none⟩) (n - 1) cap) (.slice (some ⟨g, 0, none⟩) n cap) rfl rfl (Try.sizeOf61 w5) (own_cells hown5).1 (own_cells hown5).2 (htb5.cell36 hs) htb5.frozen) ?_
    have HN2 : Hid (TblE (w5.setCell ⟨tb, 36, none⟩ (.slice (some ⟨g, 0, none⟩) (n - 1) cap)) base tb self size (ids.erase l).length (entCells self (ids.erase l))) := by
      show TblE _ _ _ _ _ _ _
      rw [HER.out, List.length_eraseIdx_of_lt hkl, ← HN.out]
      exact ⟨_, htb5.set36 hs _, hbt, own_setCell hown5 ⟨tb, 36, none⟩ _ (own_ne htb5 hown5 (by omega))⟩
    have HB6 : Hid (Below base w (w5.setCell ⟨tb, 36, none⟩ (.slice (some ⟨g, 0, none⟩) (n - 1) cap))) := hb5.setCell (by exact hbt) _
    generalize w5.setCell ⟨tb, 36, none⟩ (.slice (some ⟨g, 0, none⟩) (n - 1) cap) = w6 at *
    generalize (if cap = r' + 1 then (⟨g, 0, none⟩ : Addr) else ⟨g, (r' + 1) * 36, none⟩) = aa at *
    clear hS hSt hBd hown4 hown5 hgr hrun htb4 htb5 hS5 hb5 hi0 hsz0 hncg
    go_wp2_with fail
    go_ret
    exact ⟨by rw [decide_eq_true HMEM.out]; rfl, HN2.out, HB6.out⟩
  · have hval : (decide (r < ids.length) && (ids.getD r [] == l)) = false := by
      cases hc : (decide (r < ids.length) && (ids.getD r [] == l)) with
      | false => rfl
      | true =>
        rw [Bool.and_eq_true, decide_eq_true_eq, beq_iff_eq] at hc
        exact absurd hc hat
    rw [hval]
    have HNM : Hid (¬ l ∈ ids) := fun hm => by
      obtain ⟨q, hq, he⟩ := List.mem_iff_getElem.1 hm
      have he' : ids.getD q [] = l := by simpa [List.getD, hq] using he
      have := HF.out.at HSO.out hq he'
      subst this
      exact hat ⟨hq, he'⟩
    clear hval hat
    go_wp2_with fail
    go_ret
    refine ⟨by rw [decide_eq_false HNM.out]; rfl, ?_, (HBL.out.mono hbase).trans (HB3.out.mono (by omega))⟩
    rw [List.erase_of_not_mem HNM.out]
    exact ⟨_, HT1.out.of_block (HB3.out.block tb (by omega)), hbt, own_below HO1.out HB3.out⟩
end Go.Proofs.Qxb6612853a
