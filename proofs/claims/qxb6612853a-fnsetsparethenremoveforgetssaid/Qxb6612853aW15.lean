/-
  The search: its closure, sort.Search, search, Holds.
-/
import Derived.Test.Qxb6612853aW14
namespace Go.Proofs.Qxb6612853a
open Go.RowKit

set_option maxHeartbeats 1000000 in
/-- sort.Search over a test that turns from false to true once. -/
theorem sortSearch_c (n : Nat) (hn : n ≤ 32768) (p : Nat → Bool) (hp : ∀ i j, i ≤ j → j < n → p i = true → p j = true) (u v : Value) (w : World)
    (hf : ∀ wx, Below w.heap.size w wx → ∀ i, i < n → Calls Try.prog 45 #[.int .i64 (i : Int), u, v] wx fun e w' => e = .returned (.bool (p i)) ∧ Below wx.heap.size wx w') :
    Calls Try.prog 44 #[.int .i64 (n : Int), .func (.func 45) #[] #[u, v]] w fun e w' => ∃ r : Nat, e = .returned (.int .i64 (r : Int)) ∧ r ≤ n ∧ (∀ k, k < r → p k = false) ∧ (∀ k, r ≤ k → k < n → p k = true) ∧ Below w.heap.size w w' := by
  have HF : Hid (∀ wx, Below w.heap.size w wx → ∀ i, i < n → Calls Try.prog 45 #[.int .i64 (i : Int), u, v] wx fun e w' => e = .returned (.bool (p i)) ∧ Below wx.heap.size wx w') := hf
  have HP : Hid (∀ i j, i ≤ j → j < n → p i = true → p j = true) := hp
  clear hf hp
  go_enter Try.func44, Try.ntmps44
  go_wp2_with fail
  go_loopw [5, 6] (fun vi vj wr => ∃ i j : Nat, i ≤ j ∧ j ≤ n ∧ vi = .int .i64 i ∧ vj = .int .i64 j ∧ Hid ((∀ k, k < i → p k = false) ∧ (∀ k, j ≤ k → k < n → p k = true) ∧ Below w.heap.size w wr)) (fun vi vj _ => (intOf vj).toNat - (intOf vi).toNat)
  case atStart => exact ⟨0, n, by omega, Nat.le_refl _, rfl, rfl, fun k hk => absurd hk (Nat.not_lt_zero _), fun k h1 h2 => by omega, Below.refl _ _⟩
  case round =>
    obtain ⟨i, j, hij, hjn, rfl, rfl, HI⟩ := hrel
    by_cases hlt : i < j
    · have hlt' : (i : Int) < (j : Int) := by omega
      have hm := HF.out wr HI.out.2.2 ((i + j) / 2) (by omega)
      obtain ⟨m, hme⟩ : ∃ m, m = (i + j) / 2 := ⟨_, rfl⟩
      have e : ((i : Int) + (j : Int)) / 2 = (m : Int) := by omega
      have h1 : i ≤ m := by omega
      have h2 : m < j := by omega
      rw [← hme] at hm
      clear hme
      have HM : Hid (Calls Try.prog 45 #[.int .i64 (m : Int), u, v] wr fun e w' => e = .returned (.bool (p m)) ∧ Below wr.heap.size wr w') := hm
      have HE : Hid (((i : Int) + (j : Int)) / 2 = (m : Int)) := e
      clear hm e
      go_wp2_with fail
      rw [HE.out]
      refine HM.out.mono ?_
      clear HM HE
      rintro e w2 ⟨rfl, hb2⟩
      have hb : Below w.heap.size w w2 := HI.out.2.2.trans (hb2.mono HI.out.2.2.size)
      cases hpm : p m with
      | false =>
        have HR : Hid ((∀ k, k < m + 1 → p k = false) ∧ (∀ k, j ≤ k → k < n → p k = true) ∧ Below w.heap.size w w2) := by
          refine ⟨fun k hk => ?_, HI.out.2.1, hb⟩
          cases hc : p k with
          | false => rfl
          | true => have := HP.out k m (by omega) (by omega) hc; rw [hpm] at this; cases this
        clear hb hb2 hpm
        go_wp2_with fail
        refine ⟨⟨m + 1, j, by omega, hjn, by go_num, rfl, HR.out⟩, ?_⟩
        simp [intOf]; omega
      | true =>
        have HR : Hid ((∀ k, k < i → p k = false) ∧ (∀ k, m ≤ k → k < n → p k = true) ∧ Below w.heap.size w w2) :=
          ⟨HI.out.1, fun k h1 h2 => HP.out m k h1 h2 hpm, hb⟩
        clear hb hb2 hpm
        go_wp2_with fail
        refine ⟨⟨i, m, by omega, by omega, rfl, rfl, HR.out⟩, ?_⟩
        simp [intOf]; omega
    · go_wp2_with fail
      go_ret
      have hij' : i = j := by omega
      exact ⟨i, rfl, by omega, HI.out.1, fun k h1 h2 => HI.out.2.1 k (by omega) h2, HI.out.2.2⟩
/-- Where the entries lie. -/
def EntsAt (w : World) (ao : Option Addr) (self : List Nat) (ids : List (List Nat)) : Prop :=
  0 < ids.length → ∃ g, ao = some ⟨g, 0, none⟩ ∧ g < w.heap.size ∧ ∀ i, i < ids.length → HasA w g (0 + i * 36) (entA (ids.getD i []) (lead self (ids.getD i [])))
theorem EntsAt.below {w w' : World} {B : Nat} {ao : Option Addr} {self : List Nat} {ids : List (List Nat)} (h : EntsAt w ao self ids) (hb : Below B w w') (hB : w.heap.size ≤ B) : EntsAt w' ao self ids := fun h0 => by
  obtain ⟨g, h1, h2, h3⟩ := h h0
  exact ⟨g, h1, Nat.lt_of_lt_of_le h2 hb.size, fun i hi => (h3 i hi).below hb (by omega)⟩

theorem field74_0' (w : World) (b o : Nat) : (Instr.fieldAt 74 (.pointer (some ⟨b, o, none⟩)) 0).run Try.prog w = .ok (.pointer (some ⟨b, o, none⟩)) w := field74_0 w b o

set_option maxHeartbeats 1000000 in
theorem search1_c (self : List Nat) (hs : IsID self) (ids : List (List Nat)) (hids : AllID ids) (l : List Nat) (hl : IsID l) (tb bT bI cap i : Nat) (ao : Option Addr) (w : World) (hi : i < ids.length)
    (hT : w.cell? ⟨bT, 0, none⟩ = some (.pointer (some ⟨tb, 0, none⟩))) (hI : HasA w bI 0 (idA l)) (hIlt : bI < w.heap.size) (hself : HasA w tb 0 (idA self)) (hc : w.cell? ⟨tb, 36, none⟩ = some (.slice ao ids.length cap)) (hents : EntsAt w ao self ids) :
    Calls Try.prog 45 #[.int .i64 (i : Int), .pointer (some ⟨bT, 0, none⟩), .pointer (some ⟨bI, 0, none⟩)] w fun e w' => e = .returned (.bool (!nearer self (ids.getD i []) l)) ∧ Below w.heap.size w w' := by
  obtain ⟨g, rfl, hglt, hent⟩ := hents (by omega)
  have htl : tb < w.heap.size := block_lt_of_cell hc
  have hTl : bT < w.heap.size := block_lt_of_cell hT
  have he := hent i hi
  have iii := hids i hi
  obtain ⟨x, hx⟩ : ∃ x, x = ids.getD i [] := ⟨_, rfl⟩
  rw [← hx] at he iii ⊢
  clear hx hent hents
  obtain ⟨n, hn⟩ : ∃ n, n = ids.length := ⟨_, rfl⟩
  rw [← hn] at hi hc
  clear hn
  have HE : Hid (HasA w g (0 + i * 36) (entA x (lead self x))) := he
  have HC : Hid (w.cell? ⟨tb, 36, none⟩ = some (.slice (some ⟨g, 0, none⟩) n cap)) := hc
  have HT : Hid (w.cell? ⟨bT, 0, none⟩ = some (.pointer (some ⟨tb, 0, none⟩))) := hT
  clear he hc hT
  go_enter Try.func45, Try.ntmps45
  go_wp2_with fail
  refine wp_region_ord (fun w' => Below w.heap.size w w') [(0, false), (1, false), (2, false), (3, false), (4, false), (5, false), (6, false), (7, false), (8, false), (9, false), (10, false), (11, false), (12, false), (13, false), (14, false), (15, true), (16, false), (17, false)] (by kernel_rfl) (by kernel_rfl)
    (fun _ _ _ d _ h => by cases d <;> exact h) (by kernel_rfl) rfl ?_
  have hB : Below w.heap.size w w.drew := (Below.refl _ _).drew
  refine ord_val 5 rfl rfl rfl hB (.pointer (some ⟨tb, 0, none⟩)) (fun wx hw => exec_load1 wx 25 _ rfl ⟨bT, 0, none⟩ _ rfl (Try.isAgg25 wx) ((hw.cell hTl).trans HT.out)) ?_
  simp only [List.set_cons_succ, List.set_cons_zero]
  refine ord_val 6 rfl rfl rfl hB (.pointer (some ⟨tb, 0, none⟩)) (fun wx _ => exec_nilck wx _ rfl _ rfl) ?_
  simp only [List.set_cons_succ, List.set_cons_zero]
  refine ord_val 7 rfl rfl rfl hB (.pointer (some ⟨tb, 0, none⟩)) (fun wx _ => exec_field wx 64 _ 0 rfl _ rfl _ (field64_0 wx tb)) ?_
  simp only [List.set_cons_succ, List.set_cons_zero]
  refine ord_val 8 rfl rfl rfl hB (.pointer (some ⟨tb, 0, none⟩)) (fun wx _ => exec_field wx 32 _ 0 rfl _ rfl _ (field32_0 wx tb 0)) ?_
  simp only [List.set_cons_succ, List.set_cons_zero]
  refine ord_val 9 rfl rfl rfl hB (.agg (idA self)) (fun wx hw => exec_load_at wx 27 _ rfl tb 0 rfl _ (Try.isAgg27 wx) (by rw [idA_size, hs.1]; exact Try.sizeOf27 wx) (hself.below hw htl)) ?_
  simp only [List.set_cons_succ, List.set_cons_zero]
  refine ord_val 10 rfl rfl rfl hB (.pointer (some ⟨tb, 0, none⟩)) (fun wx hw => exec_load1 wx 25 _ rfl ⟨bT, 0, none⟩ _ rfl (Try.isAgg25 wx) ((hw.cell hTl).trans HT.out)) ?_
  simp only [List.set_cons_succ, List.set_cons_zero]
  refine ord_val 11 rfl rfl rfl hB (.pointer (some ⟨tb, 0, none⟩)) (fun wx _ => exec_nilck wx _ rfl _ rfl) ?_
  simp only [List.set_cons_succ, List.set_cons_zero]
  refine ord_val 12 rfl rfl rfl hB (.pointer (some ⟨tb, 36, none⟩)) (fun wx _ => exec_field wx 64 _ 3 rfl _ rfl _ (field64_3 wx tb)) ?_
  simp only [List.set_cons_succ, List.set_cons_zero]
  refine ord_val 13 rfl rfl rfl hB (.slice (some ⟨g, 0, none⟩) n cap) (fun wx hw => exec_load1 wx 61 _ rfl ⟨tb, 36, none⟩ _ rfl (Try.isAgg61 wx) ((hw.cell htl).trans HC.out)) ?_
  simp only [List.set_cons_succ, List.set_cons_zero]
  refine ord_val 14 rfl rfl rfl hB (.int .i64 (i : Int)) (fun _ _ => rfl) ?_
  simp only [List.set_cons_succ, List.set_cons_zero]
  refine ord_val 15 rfl rfl rfl hB (.pointer (some ⟨g, 0 + i * 36, none⟩)) (fun wx _ => exec_idx wx 61 74 36 _ _ rfl g 0 n cap i Try.underlying61 (Try.sizeOf74 wx) rfl rfl hi) ?_
  simp only [List.set_cons_succ, List.set_cons_zero]
  refine ord_val 16 rfl rfl rfl hB (.pointer (some ⟨g, 0 + i * 36, none⟩)) (fun wx _ => exec_field wx 74 _ 0 rfl _ rfl _ (field74_0 wx _ _)) ?_
  simp only [List.set_cons_succ, List.set_cons_zero]
  refine ord_val 17 rfl rfl rfl hB (.pointer (some ⟨g, 0 + i * 36, none⟩)) (fun wx _ => exec_field wx 32 _ 0 rfl _ rfl _ (field32_0 wx _ _)) ?_
  simp only [List.set_cons_succ, List.set_cons_zero]
  refine ord_val 18 rfl rfl rfl hB (.agg (idA x)) (fun wx hw => exec_load_at wx 27 _ rfl g (0 + i * 36) rfl _ (Try.isAgg27 wx) (by rw [idA_size, iii.1]; exact Try.sizeOf27 wx) (peerA_prefix iii (entA_prefix iii (HE.out.below hw hglt)))) ?_
  simp only [List.set_cons_succ, List.set_cons_zero]
  refine ord_val 19 rfl rfl rfl hB (.agg (idA l)) (fun wx hw => exec_load_at wx 27 _ rfl bI 0 rfl _ (Try.isAgg27 wx) (by rw [idA_size, hl.1]; exact Try.sizeOf27 wx) (hI.below hw hIlt)) ?_
  simp only [List.set_cons_succ, List.set_cons_zero]
  refine ord_call 20 rfl rfl rfl 46 #[.agg (idA self), .agg (idA x), .agg (idA l)] (exec_call _ 46 _ _ rfl rfl _ rfl Try.call46) (closer_c self x l hs iii hl _) ?_
  rintro e w2 ⟨rfl, hb2⟩
  have hB2 : Below w.heap.size w w2 := hB.trans (hb2.mono hB.size)
  refine ⟨_, rfl, hB2, ?_⟩
  simp only [List.set_cons_succ, List.set_cons_zero]
  generalize hnr : nearer self x l = nr
  refine ord_val 21 rfl rfl rfl hB2 (.bool (!nr)) (fun wx _ => exec_not wx 4 _ rfl nr rfl) ?_
  simp only [List.set_cons_succ, List.set_cons_zero]
  refine ord_val 4 rfl rfl rfl hB2 (.bool (!nr)) (fun _ _ => rfl) ?_
  simp only [List.set_cons_succ, List.set_cons_zero]
  refine ord_done ?_
  have HB2 : Hid (Below w.heap.size w w2) := hB2
  have HNR : Hid (nearer self x l = nr) := hnr
  clear hB hB2 hb2 hnr
  go_wp2_with fail
  go_ret
  refine ⟨?_, HB2.out⟩
  rw [HNR.out]
  rfl

set_option maxHeartbeats 1000000 in
theorem search_c (self : List Nat) (hs : IsID self) (ids : List (List Nat)) (hids : AllID ids) (l : List Nat) (hl : IsID l) (tb cap : Nat) (ao : Option Addr) (w : World) (hn : ids.length ≤ 32768)
    (hself : HasA w tb 0 (idA self)) (hc : w.cell? ⟨tb, 36, none⟩ = some (.slice ao ids.length cap)) (hents : EntsAt w ao self ids)
    (hmono : ∀ i j, i ≤ j → j < ids.length → (!nearer self (ids.getD i []) l) = true → (!nearer self (ids.getD j []) l) = true) :
    Calls Try.prog 37 #[.pointer (some ⟨tb, 0, none⟩), .agg (idA l)] w fun e w' => ∃ r : Nat, e = .returned (.int .i64 (r : Int)) ∧ r ≤ ids.length ∧ (∀ k, k < r → nearer self (ids.getD k []) l = true) ∧ (∀ k, r ≤ k → k < ids.length → nearer self (ids.getD k []) l = false) ∧ Below w.heap.size w w' := by
  have htl : tb < w.heap.size := block_lt_of_cell hc
  obtain ⟨w1, hw1⟩ : ∃ x, x = (w.alloc (.cells #[.pointer (some ⟨tb, 0, none⟩)] 25)).alloc (.cells (idA l) 27) := ⟨_, rfl⟩
  have hbel : Below w.heap.size w w1 := by rw [hw1]; exact ((Below.refl _ _).alloc (Nat.le_refl _) _).alloc (by simp) _
  have hz1 : w1.heap.size = w.heap.size + 2 := by rw [hw1]; simp
  have hT1 : w1.cell? ⟨w.heap.size, 0, none⟩ = some (.pointer (some ⟨tb, 0, none⟩)) := by rw [hw1, World.cell?_alloc_past _ _ _ (by simp), World.cell?_alloc_at _ _ _ _ rfl]; rfl
  have hI1 : HasA w1 (w.heap.size + 1) 0 (idA l) := by
    rw [hw1]
    exact HasA.of_block (heap_alloc2_new w _ _)
  have hc1 : w1.cell? ⟨tb, 36, none⟩ = some (.slice ao ids.length cap) := (hbel.cell htl).trans hc
  have hself1 : HasA w1 tb 0 (idA self) := hself.below hbel htl
  have hents1 : EntsAt w1 ao self ids := hents.below hbel (Nat.le_refl _)
  have hcall := sortSearch_c ids.length hn (fun i => !nearer self (ids.getD i []) l) hmono (.pointer (some ⟨w.heap.size, 0, none⟩)) (.pointer (some ⟨w.heap.size + 1, 0, none⟩)) w1 (fun wx hwx i hi =>
    search1_c self hs ids hids l hl tb w.heap.size (w.heap.size + 1) cap i ao wx hi ((hwx.cell (by show w.heap.size < _; omega)).trans hT1) (hI1.below hwx (by omega)) (by have := hwx.size; omega) (hself1.below hwx (by omega)) ((hwx.cell (by show tb < _; omega)).trans hc1) (hents1.below hwx (Nat.le_refl _)))
  have HB1 : Hid (Below w.heap.size w w1) := hbel
  obtain ⟨n, hne⟩ : ∃ n, n = ids.length := ⟨_, rfl⟩
  rw [← hne] at hcall hc1
  have HN : Hid (n = ids.length) := hne
  have HCALL : Hid (Calls Try.prog 44 #[.int .i64 (n : Int), .func (.func 45) #[] #[.pointer (some ⟨w.heap.size, 0, none⟩), .pointer (some ⟨w.heap.size + 1, 0, none⟩)]] w1 fun e w' => ∃ r : Nat, e = .returned (.int .i64 (r : Int)) ∧ r ≤ n ∧ (∀ k, k < r → (!nearer self (ids.getD k []) l) = false) ∧ (∀ k, r ≤ k → k < n → (!nearer self (ids.getD k []) l) = true) ∧ Below w1.heap.size w1 w') := hcall
  clear hcall hbel hents hents1 hself1 hI1 hmono hc hne
  go_enter Try.func37, Try.ntmps37
  go_wp2_with (refine stop_load 25 ?_)
  rw [← hw1]
  have HC1 : Hid (w1.cell? ⟨tb, 36, none⟩ = some (.slice ao n cap)) := hc1
  have HT1 : Hid (w1.cell? ⟨w.heap.size, 0, none⟩ = some (.pointer (some ⟨tb, 0, none⟩))) := hT1
  clear hw1 hc1 hT1
  refine go_on ?_
  refine lst_val (.pointer (some ⟨tb, 0, none⟩)) (exec_load1 w1 25 _ rfl ⟨w.heap.size, 0, none⟩ _ rfl (Try.isAgg25 w1) HT1.out) ?_
  simp only [List.set_cons_succ, List.set_cons_zero]
  refine lst_val (.pointer (some ⟨tb, 0, none⟩)) (exec_nilck w1 _ rfl _ rfl) ?_
  simp only [List.set_cons_succ, List.set_cons_zero]
  refine lst_val _ (exec_field w1 64 _ 3 rfl _ rfl _ (field64_3 w1 tb)) ?_
  simp only [List.set_cons_succ, List.set_cons_zero]
  refine lst_val (.slice ao n cap) (exec_load1 w1 61 _ rfl ⟨tb, 36, none⟩ _ rfl (Try.isAgg61 w1) HC1.out) ?_
  simp only [List.set_cons_succ, List.set_cons_zero]
  go_wp2_with fail
  refine HCALL.out.mono ?_
  clear HCALL
  rintro e w2 ⟨r, rfl, hr, hlo, hhi, hb2⟩
  have HLO : Hid (∀ k, k < r → (!nearer self (ids.getD k []) l) = false) := hlo
  have HHI : Hid (∀ k, r ≤ k → k < n → (!nearer self (ids.getD k []) l) = true) := hhi
  have HB2 : Hid (Below w1.heap.size w1 w2) := hb2
  clear hlo hhi hb2
  go_wp2_with fail
  go_ret
  refine ⟨r, rfl, by rw [← HN.out]; exact hr, fun k hk => ?_, fun k h1 h2 => ?_, HB1.out.trans (HB2.out.mono (by omega))⟩
  · have := HLO.out k hk
    simpa using this
  · have := HHI.out k h1 (by rw [HN.out]; exact h2)
    simpa using this
end Go.Proofs.Qxb6612853a
