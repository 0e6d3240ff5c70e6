/-
  setSpare: the walk over the spares.
-/
import Derived.Test.Qxb6612853aW10
namespace Go.Proofs.Qxb6612853a
open Go.RowKit

/-- The spare in band b is replaced, or a new one is laid behind. -/
def setS (self : List Nat) : List (List Nat) → List Nat → Nat → List (List Nat)
  | [], l, _ => [l]
  | x :: r, l, b => if lead self x = b then l :: r else x :: setS self r l b

theorem setS_hit (self l : List Nat) (b : Nat) : ∀ (sps : List (List Nat)) (k : Nat), (∀ j, j < k → lead self (sps.getD j []) ≠ b) → k < sps.length → lead self (sps.getD k []) = b → setS self sps l b = sps.set k l
  | [], k, _, h, _ => absurd h (Nat.not_lt_zero _)
  | x :: r, 0, _, _, h => by
    have h' : lead self x = b := by simpa using h
    simp [setS, h']
  | x :: r, k + 1, hj, hk, h => by
    have h0 : lead self x ≠ b := by simpa using hj 0 (by omega)
    have ih := setS_hit self l b r k (fun j hj' => by simpa using hj (j + 1) (by omega)) (by simpa using hk) (by simpa using h)
    simp [setS, h0, ih]
theorem setS_miss (self l : List Nat) (b : Nat) : ∀ (sps : List (List Nat)), (∀ j, j < sps.length → lead self (sps.getD j []) ≠ b) → setS self sps l b = sps ++ [l]
  | [], _ => rfl
  | x :: r, hj => by
    have h0 : lead self x ≠ b := by simpa using hj 0 (by simp)
    have ih := setS_miss self l b r (fun j hj' => by simpa using hj (j + 1) (by simp; omega))
    simp [setS, h0, ih]

/-- A table without entries; its spares. -/
def TblS (w : World) (base tb : Nat) (self : List Nat) (size : Int) (sps : List (List Nat)) : Prop :=
  ∃ sp, IsTbl w tb self size (.slice none 0 0) sp ∧ base ≤ tb ∧ w.ownsRow base 32 34 sp sps.length (peerCells sps)

theorem tblA_prefix {w : World} {tb : Nat} {self : List Nat} {size : Int} {ent sp : Value} (h : IsTbl w tb self size ent sp) : HasA w tb 0 (idA self) := fun j hj => by
  rw [Nat.zero_add, cell_of_row w tb j _ 64 (0, 0) h]
  unfold tblA peerA
  rw [Array.getElem?_append_left (by simp; omega), Array.getElem?_append_left hj]

theorem run_buildSlice36 (w : World) (l : List Nat) (hl : IsID l) : (Instr.buildSlice 36 1 #[(0, .agg (peerA l))]).run Try.prog w = .ok (.slice (some ⟨w.heap.size, 0, none⟩) 1 1) (w.alloc (.cells (peerA l) 32)) := by
  have hs := peerA_size hl
  simp [Instr.buildSlice]
  generalize hz : Array.map _ (Array.range 34) = Z
  have hZ : Z.size = 34 := by rw [← hz]; simp
  rw [fill_step _ _ 0 (.agg (peerA l)) [] 0 34 rfl hs (by omega), fill_nil]
  have e : splice Z 0 (Value.agg (peerA l)).cells = peerA l := by
    simp [splice, Value.cells, hs]
    rw [List.drop_of_length_le (by simp [hZ])]
    simp
  rw [e]
  simp [newRow]

theorem peerCells_app (a b : List (List Nat)) : peerCells (a ++ b) = peerCells a ++ peerCells b := by simp [peerCells]
theorem take_mid {α : Type} (A C D : List α) (a c d : Nat) (ha : A.length = a) (hc : C.length = c) : (A ++ (C ++ D)).take (a + (c + d)) = A ++ (C ++ D.take d) := by
  subst ha hc
  rw [← List.append_assoc, ← List.append_assoc, ← Nat.add_assoc, ← List.length_append, List.take_length_add_append]
theorem peerCells_set (sps : List (List Nat)) (h : AllID sps) (k : Nat) (hk : k < sps.length) (l : List Nat) (hl : IsID l) (cur : Array Value) (hcs : sps.length * 34 ≤ cur.size) (ht : cur.toList.take (sps.length * 34) = peerCells sps) :
    (splice cur (k * 34) (peerA l)).toList.take (sps.length * 34) = peerCells (sps.set k l) := by
  have e0 : sps.length * 34 = k * 34 + (34 + (sps.length - (k + 1)) * 34) := by omega
  have hA : cur.toList.take (k * 34) = peerCells (sps.take k) := by
    have : cur.toList.take (k * 34) = (cur.toList.take (sps.length * 34)).take (k * 34) := by rw [List.take_take, Nat.min_eq_left (by omega)]
    rw [this, ht]
    have e : peerCells sps = peerCells (sps.take k) ++ peerCells (sps.drop k) := by rw [← peerCells_app, List.take_append_drop]
    rw [e, List.take_append_of_le_length (by rw [peerCells_len h k (by omega)]; omega), List.take_of_length_le (by rw [peerCells_len h k (by omega)]; omega)]
  have hB : (cur.toList.drop (k * 34 + 34)).take ((sps.length - (k + 1)) * 34) = peerCells (sps.drop (k + 1)) := by
    have : (cur.toList.drop (k * 34 + 34)).take ((sps.length - (k + 1)) * 34) = (cur.toList.take (sps.length * 34)).drop (k * 34 + 34) := by
      rw [List.drop_take]
      congr 1
      omega
    rw [this, ht]
    have e : peerCells sps = peerCells (sps.take (k + 1)) ++ peerCells (sps.drop (k + 1)) := by rw [← peerCells_app, List.take_append_drop]
    have e2 : k * 34 + 34 = (peerCells (sps.take (k + 1))).length := by rw [peerCells_len h (k + 1) (by omega)]; omega
    rw [e, e2, List.drop_left]
  have hs := peerA_size hl
  unfold splice
  rw [List.set_eq_take_append_cons_drop, if_pos hk, peerCells_app]
  have e3 : peerCells (l :: sps.drop (k + 1)) = (peerA l).toList ++ peerCells (sps.drop (k + 1)) := by simp [peerCells]
  rw [e3, ← hA, ← hB]
  have el : (cur.toList.take (k * 34)).length = k * 34 := by simp; omega
  simp only [List.append_assoc]
  rw [e0, hs]
  exact take_mid _ _ _ _ _ _ el (by simp [hs])

theorem peerA_prefix {w : World} {b o : Nat} {l : List Nat} (hl : IsID l) (h : HasA w b o (peerA l)) : HasA w b o (idA l) := fun j hj => by
  have h34 := peerA_size hl
  rw [h j (by unfold peerA; rw [Array.size_append]; omega)]
  unfold peerA
  rw [Array.getElem?_append_left hj]

theorem TblS.set {w : World} {base tb : Nat} {self : List Nat} {size : Int} {sps : List (List Nat)} (hid : AllID sps) (g cap k : Nat) (cur : Array Value) (hk : k < sps.length) (l : List Nat) (hl : IsID l)
    (htb : IsTbl w tb self size (.slice none 0 0) (.slice (some ⟨g, 0, none⟩) sps.length cap)) (hb : base ≤ tb) (hg : base ≤ g) (hgb : w.heap[g]? = some (.cells cur 32 (0, 0))) (h1 : sps.length ≤ cap) (h2 : cap ≤ maxLen) (h3 : cur.size = cap * 34) (h4 : cur.toList.take (sps.length * 34) = peerCells sps) :
    TblS (w.setRow g (splice cur (k * 34) (peerA l))) base tb self size (sps.set k l) := by
  have hne : tb ≠ g := fun e => by subst e; rw [show w.heap[tb]? = _ from htb] at hgb; simp at hgb
  have hfit : k * 34 + (peerA l).size ≤ cur.size := by rw [peerA_size hl]; omega
  have hid' : AllID (sps.set k l) := fun i hi => by
    rw [List.length_set] at hi
    rw [List.getD_eq_getElem?_getD, List.getElem?_set]
    by_cases e : k = i
    · subst e; simpa [hi] using hl
    · have := hid i hi
      rw [List.getD_eq_getElem?_getD] at this
      simpa [e] using this
  refine ⟨.slice (some ⟨g, 0, none⟩) sps.length cap, htb.of_block (setRow_other w g tb _ hne), hb, ?_, ?_⟩
  · have := peerCells_len hid' (sps.set k l).length (Nat.le_refl _)
    rw [List.take_length] at this
    exact this
  · refine .inr ⟨g, cap, splice cur (k * 34) (peerA l), by rw [List.length_set], hg, setRow_heap w g _ _ 32 _ hgb, by rw [List.length_set]; exact h1, h2, by rw [splice_size _ _ _ hfit]; exact h3, ?_⟩
    rw [List.length_set]
    exact peerCells_set sps hid k hk l hl cur (by omega) h4

theorem own_below {w w' : World} {B base e size : Nat} {v : Value} {n : Nat} {xs : List Value} (ho : w.ownsRow base e size v n xs) (hb : Below B w w') (hB : w.heap.size ≤ B := by exact Nat.le_refl _) : w'.ownsRow base e size v n xs := by
  refine ⟨ho.1, ?_⟩
  rcases ho.2 with h | ⟨g, cap, cur, rfl, hbg, hg, r⟩
  · exact .inl h
  · exact .inr ⟨g, cap, cur, rfl, hbg, (hb.block g (Nat.lt_of_lt_of_le (Array.getElem?_eq_some_iff.1 hg).1 hB)).trans hg, r⟩

set_option maxHeartbeats 2000000 in
theorem setSpare_c (self : List Nat) (hs : IsID self) (size : Int) (base tb b : Nat) (sps : List (List Nat)) (hid : AllID sps) (l : List Nat) (hl : IsID l) (w : World) (ht : TblS w base tb self size sps) (hn : sps.length ≤ 32768) :
    Calls Try.prog 34 #[.pointer (some ⟨tb, 0, none⟩), .agg (peerA l), .int .i64 (b : Int)] w fun e w' => e = .returned (.tuple #[]) ∧ TblS w' base tb self size (setS self sps l b) ∧ Below base w w' := by
  obtain ⟨sp, htb, hbt, hown⟩ := ht
  have htlt := htb.lt
  have HID : Hid (AllID sps) := hid
  clear hid
  obtain ⟨i0, z0, hi0, hz0, hsz0, hby0, hzs0⟩ := zero32
  have HI : Hid (Try.prog.info? 32 = some i0) := hi0
  have HI1 : Hid (i0.zero = some z0 ∧ i0.size = 34 ∧ i0.bytes = 64 ∧ z0.cells.size = 34) := ⟨hz0, hsz0, hby0, hzs0⟩
  clear hi0 hz0 hsz0 hby0 hzs0
  obtain ⟨n, hnl⟩ : ∃ n, n = sps.length := ⟨_, rfl⟩
  have HN : Hid (n = sps.length) := hnl
  have hcap : ∃ ao cap, sp = .slice ao n cap ∧ (0 < n → ∃ g, ao = some ⟨g, 0, none⟩) := by
    rcases hown.2 with ⟨rfl, h0⟩ | ⟨g, cap, cur, rfl, _⟩
    · exact ⟨none, 0, by rw [hnl, h0], fun h => by omega⟩
    · exact ⟨some ⟨g, 0, none⟩, cap, by rw [hnl], fun _ => ⟨g, rfl⟩⟩
  rw [← hnl] at hn
  clear hnl
  obtain ⟨ao, cap, rfl, hao⟩ := hcap
  go_enter Try.func34, Try.ntmps34
  go_wp2_with (refine stop_field 64 ?_)
  obtain ⟨w1, hw1⟩ : ∃ x, x = w.alloc (.cells (peerA l) 32) := ⟨_, rfl⟩
  rw [← hw1]
  have hz1 : w1.heap.size = w.heap.size + 1 := by rw [hw1]; simp
  have hpl : HasA w1 w.heap.size 0 (peerA l) := by rw [hw1]; exact HasA.of_block (heap_alloc_new w _)
  have hbel : Below w.heap.size w w1 := by rw [hw1]; exact (Below.refl _ _).alloc (Nat.le_refl _) _
  have htb1 : IsTbl w1 tb self size (.slice none 0 0) (.slice ao n cap) := htb.of_block (hbel.block tb htlt)
  have hown1 : w1.ownsRow base 32 34 (.slice ao n cap) sps.length (peerCells sps) := by rw [hw1]; exact hown.alloc _
  clear hw1
  have HT1 : Hid (IsTbl w1 tb self size (.slice none 0 0) (.slice ao n cap)) := htb1
  have HO1 : Hid (w1.ownsRow base 32 34 (.slice ao n cap) sps.length (peerCells sps)) := hown1
  have HO : Hid (w.ownsRow base 32 34 (.slice ao n cap) sps.length (peerCells sps)) := hown
  have HBL : Hid (Below w.heap.size w w1) := hbel
  clear htb1 hown1 hown hbel htb
  refine go_on ?_
  refine lst_val _ (exec_field w1 64 _ 6 rfl _ rfl _ (field64_6 w1 _)) ?_
  simp only [List.set_cons_succ, List.set_cons_zero]
  refine lst_val (.slice ao n cap) (exec_load1 w1 36 _ rfl _ _ rfl (Try.isAgg36 w1) (HT1.out.cell39 hs)) ?_
  simp only [List.set_cons_succ, List.set_cons_zero]
  go_wp2_with fail
  go_loopw [13] (fun v wr => ∃ k : Nat, k ≤ n ∧ v = .int .i64 k ∧ (∀ j, j < k → lead self (sps.getD j []) ≠ b) ∧ Below w1.heap.size w1 wr) (fun v _ => n - (intOf v).toNat)
  case atStart => exact ⟨0, by omega, rfl, fun j hj => absurd hj (Nat.not_lt_zero _), Below.refl _ _⟩
  case round =>
    obtain ⟨k, hk, rfl, hz, hbl⟩ := hrel
    have HB : Hid (Below w1.heap.size w1 wr) := hbl
    have HZ : Hid (∀ j, j < k → lead self (sps.getD j []) ≠ b) := hz
    clear hbl hz
    by_cases hlt : k < n
    · obtain ⟨g, rfl⟩ := hao (by omega)
      obtain ⟨x, hxe⟩ : ∃ x, x = sps.getD k [] := ⟨_, rfl⟩
      have iik : IsID x := by rw [hxe]; exact HID.out k (by rw [← HN.out]; exact hlt)
      have HX : Hid (x = sps.getD k []) := hxe
      clear hxe
      obtain ⟨cur, hgb, hcapn, hcm, hcs, hct, hbg⟩ : ∃ cur : Array Value, w1.heap[g]? = some (.cells cur 32 (0, 0)) ∧ sps.length ≤ cap ∧ cap ≤ maxLen ∧ cur.size = cap * 34 ∧ cur.toList.take (sps.length * 34) = peerCells sps ∧ base ≤ g := by
        rcases HO1.out.2 with ⟨h, _⟩ | ⟨g', cap', cur, h, hbg, hgb, h1, h2, h3, h4⟩
        · cases h
        · cases h; exact ⟨cur, hgb, h1, h2, h3, h4, hbg⟩
      have HCUR : Hid (w1.heap[g]? = some (.cells cur 32 (0, 0)) ∧ sps.length ≤ cap ∧ cap ≤ maxLen ∧ cur.size = cap * 34 ∧ cur.toList.take (sps.length * 34) = peerCells sps ∧ base ≤ g) := ⟨hgb, hcapn, hcm, hcs, hct, hbg⟩
      have hglt : g < w1.heap.size := (Array.getElem?_eq_some_iff.1 hgb).1
      clear hgb hcapn hcm hcs hct hbg
      have hpk1 : HasA w1 g (0 + k * 34) (peerA (x)) := fun j hj => by
        obtain ⟨hgb, hcapn, hcm, hcs, hct, hbg⟩ := HCUR.out
        rw [peerA_size iik] at hj
        rw [Nat.zero_add, cell_of_row _ _ _ _ 32 (0, 0) hgb, HX.out, ← peerCells_get HID.out k j (by rw [← HN.out]; exact hlt) hj, ← hct, List.getElem?_take_of_lt (by rw [← HN.out]; omega)]
        simp
      have HPK : Hid (HasA wr g (0 + k * 34) (peerA (x))) := hpk1.below HB.out hglt
      clear hpk1
      have hlt' : (k : Int) < (n : Int) := by omega
      go_wp2_with (refine stop_idx 36 ?_)
      refine go_on ?_
      refine lst_val _ (exec_idx wr 36 32 34 _ _ rfl g 0 n cap k Try.underlying36 (Try.sizeOf32 _) rfl rfl hlt) ?_
      simp only [List.set_cons_succ, List.set_cons_zero]
      refine lst_val _ (exec_load_at wr 32 _ rfl g (0 + k * 34) rfl _ (Try.isAgg32 _) (by rw [peerA_size iik]; exact Try.sizeOf32 _) HPK.out) ?_
      simp only [List.set_cons_succ, List.set_cons_zero]
      refine lst_val _ (exec_alloc wr 32 rfl _ (run_zero32 _)) ?_
      simp only [List.set_cons_succ, List.set_cons_zero]
      refine lst_val (.int .i64 (k : Int)) rfl ?_
      simp only [List.set_cons_succ, List.set_cons_zero]
      refine lst_sk (exec_storeA _ 32 _ _ rfl wr.heap.size 0 (peerA (x)) rfl rfl (by rw [peerA_size iik]; exact Try.sizeOf32 _) zero32A 32 (heap_alloc_new wr _) (by rw [peerA_size iik, zero32A_size]; omega) (peerA_one _)) ?_
      rw [splice_all _ _ (by rw [peerA_size iik, zero32A_size])]
      have h3 : ((wr.alloc (.cells zero32A 32)).setRow wr.heap.size (peerA (x))).heap[wr.heap.size]? = some (.cells (peerA (x)) 32 (0, 0)) := setRow_heap _ _ _ _ 32 _ (heap_alloc_new wr _)
      have hb3 : Below wr.heap.size wr ((wr.alloc (.cells zero32A 32)).setRow wr.heap.size (peerA (x))) := below_setRow' ((Below.refl _ _).alloc (Nat.le_refl _) _) (Nat.le_refl _) _
      generalize (wr.alloc (.cells zero32A 32)).setRow wr.heap.size (peerA (x)) = w3 at *
      have HB3 : Hid (Below w1.heap.size w1 w3) := HB.out.trans (hb3.mono HB.out.size)
      have H3 : Hid (w3.heap[wr.heap.size]? = some (.cells (peerA (x)) 32 (0, 0))) := h3
      clear hb3 h3
      go_wp2_with (refine stop_field 32 ?_)
      refine go_on ?_
      refine lst_val _ (exec_field w3 32 _ 0 rfl _ rfl _ (field32_0 w3 _ _)) ?_
      simp only [List.set_cons_succ, List.set_cons_zero]
      refine lst_val _ (exec_load_at w3 27 _ rfl wr.heap.size 0 rfl (idA (x)) (Try.isAgg27 _) (by rw [idA_size, iik.1]; exact Try.sizeOf27 _) (peerA_prefix iik (HasA.of_block H3.out))) ?_
      simp only [List.set_cons_succ, List.set_cons_zero]
      go_wp2_with (refine (band_c self (x) hs iik tb w3 (tblA_prefix (HT1.out.of_block (HB3.out.block tb (by omega)))) (by have := HB3.out.size; omega)).mono ?_)
      rintro e w4 ⟨rfl, hb4⟩
      have HB4 : Hid (Below w1.heap.size w1 w4) := HB3.out.trans (hb4.mono HB3.out.size)
      clear hb4
      by_cases hbe : lead self (x) = b
      · have hbe' : (((lead self (x) : Nat) : Int) == (b : Int)) = true := by rw [hbe]; simp
        have HBE : Hid (lead self (x) = b) := hbe
        clear hbe
        go_wp2_with fail
        refine wp_region_ordT (fun w' => Below w1.heap.size w1 w') 7 [(0, false), (1, false), (2, false), (3, false), (4, false), (5, false), (6, true)] (by kernel_rfl) (by kernel_rfl)
          (fun _ _ _ d _ h => by cases d <;> exact h) (by kernel_rfl) rfl ?_
        have hB : Below w1.heap.size w1 w4.drew := HB4.out.drew
        refine ord_val 24 rfl rfl rfl hB (.pointer (some ⟨tb, 0, none⟩)) (fun _ _ => rfl) ?_
        simp only [List.set_cons_succ, List.set_cons_zero]
        refine ord_val 25 rfl rfl rfl hB (.pointer (some ⟨tb, 0, none⟩)) (fun wx _ => exec_nilck wx _ rfl _ rfl) ?_
        simp only [List.set_cons_succ, List.set_cons_zero]
        refine ord_val 26 rfl rfl rfl hB (.pointer (some ⟨tb, 39, none⟩)) (fun wx _ => exec_field wx 64 _ 6 rfl _ rfl _ (field64_6 wx tb)) ?_
        simp only [List.set_cons_succ, List.set_cons_zero]
        refine ord_val 27 rfl rfl rfl hB (.slice (some ⟨g, 0, none⟩) n cap) (fun wx hw => exec_load1 wx 36 _ rfl _ _ rfl (Try.isAgg36 wx) ((HT1.out.of_block (hw.block tb (by omega))).cell39 hs)) ?_
        simp only [List.set_cons_succ, List.set_cons_zero]
        refine ord_val 28 rfl rfl rfl hB (.int .i64 (k : Int)) (fun _ _ => rfl) ?_
        simp only [List.set_cons_succ, List.set_cons_zero]
        refine ord_val 29 rfl rfl rfl hB (.agg (peerA l)) (fun wx hw => exec_load_at wx 32 _ rfl w.heap.size 0 rfl _ (Try.isAgg32 wx) (by rw [peerA_size hl]; exact Try.sizeOf32 wx) (hpl.below hw (by omega))) ?_
        simp only [List.set_cons_succ, List.set_cons_zero]
        refine ord_effv (.pointer (some ⟨g, 0 + k * 34, none⟩)) rfl rfl rfl (exec_idx w4.drew 36 32 34 _ _ rfl g 0 n cap k Try.underlying36 (Try.sizeOf32 _) rfl rfl hlt) hB ?_
        simp only [List.set_cons_succ, List.set_cons_zero]
        refine ord_done ?_
        obtain ⟨hgb, hcapn, hcm, hcs, hct, hbg⟩ := HCUR.out
        have hgb4 : w4.drew.heap[g]? = some (.cells cur 32 (0, 0)) := (hB.block g hglt).trans hgb
        have hkl : k < sps.length := by rw [← HN.out]; exact hlt
        have hfit : 0 + k * 34 + (peerA l).size ≤ cur.size := by rw [peerA_size hl]; omega
        refine last_run rfl rfl rfl (exec_storeA w4.drew 32 _ _ rfl g (0 + k * 34) (peerA l) rfl rfl (by rw [peerA_size hl]; exact Try.sizeOf32 _) cur 32 hgb4 hfit (peerA_one _)) ?_
        rw [Nat.zero_add]
        have hT := HT1.out.of_block (hB.block tb (by omega))
        rw [HN.out] at hT
        have HN2 : Hid (TblS (w4.drew.setRow g (splice cur (k * 34) (peerA l))) base tb self size (setS self sps l b)) := by
          show TblS _ _ _ _ _ _
          rw [setS_hit self l b sps k HZ.out hkl (by rw [← HX.out]; exact HBE.out)]
          exact TblS.set HID.out g cap k cur hkl l hl hT hbt hbg hgb4 hcapn hcm hcs hct
        have HB5 : Hid (Below base w (w4.drew.setRow g (splice cur (k * 34) (peerA l)))) := below_setRow' ((HBL.out.mono (by omega)).trans (hB.mono (by omega))) hbg _
        generalize w4.drew.setRow g (splice cur (k * 34) (peerA l)) = w5 at *
        clear hB hT hgb4 hfit hgb hcs hct
        go_wp2_with fail
        exact bodyPost_ret (results_none Try.results34 _ _ _) rfl ⟨rfl, HN2.out, HB5.out⟩
      · have hbe' : (((lead self (x) : Nat) : Int) == (b : Int)) = false := by rw [beq_eq_false_iff_ne]; omega
        have HBE : Hid (¬ lead self (x) = b) := hbe
        clear hbe
        go_wp2_with fail
        go_roundw
        case rel => exact ⟨k + 1, by omega, by go_num, fun j hj => by
                      by_cases e : j = k
                      · subst e; rw [← HX.out]; exact HBE.out
                      · exact HZ.out j (by omega), HB4.out⟩
        case measure => simp [intOf]; omega
    · have HM : Hid (setS self sps l b = sps ++ [l]) := setS_miss self l b sps (fun j hj => HZ.out j (by have := HN.out; omega))
      go_wp2_with fail
      refine wp_region_ordT (fun w' => Below w1.heap.size w1 w' ∨ (IsTbl w' tb self size (.slice none 0 0) (.slice ao n cap) ∧ HasA w' w.heap.size 0 (peerA l))) 10 [(0, false), (1, false), (2, false), (3, false), (4, false), (5, false), (6, true), (7, true), (8, true), (9, true)] (by kernel_rfl) (by kernel_rfl)
        (fun _ _ _ d _ h => by cases d <;> exact h) (by kernel_rfl) rfl ?_
      have hS : Below w1.heap.size w1 wr.drew ∨ (IsTbl wr.drew tb self size (.slice none 0 0) (.slice ao n cap) ∧ HasA wr.drew w.heap.size 0 (peerA l)) := .inl HB.out.drew
      have hSt : ∀ w', (Below w1.heap.size w1 w' ∨ (IsTbl w' tb self size (.slice none 0 0) (.slice ao n cap) ∧ HasA w' w.heap.size 0 (peerA l))) → IsTbl w' tb self size (.slice none 0 0) (.slice ao n cap) ∧ HasA w' w.heap.size 0 (peerA l) := fun w' h => by
        rcases h with h | h
        · exact ⟨HT1.out.of_block (h.block tb (by omega)), hpl.below h (by omega)⟩
        · exact h
      refine ord_val 32 rfl rfl rfl hS (.pointer (some ⟨tb, 0, none⟩)) (fun _ _ => rfl) ?_
      simp only [List.set_cons_succ, List.set_cons_zero]
      refine ord_val 33 rfl rfl rfl hS (.pointer (some ⟨tb, 0, none⟩)) (fun _ _ => rfl) ?_
      simp only [List.set_cons_succ, List.set_cons_zero]
      refine ord_val 34 rfl rfl rfl hS (.pointer (some ⟨tb, 0, none⟩)) (fun wx _ => exec_nilck wx _ rfl _ rfl) ?_
      simp only [List.set_cons_succ, List.set_cons_zero]
      refine ord_val 35 rfl rfl rfl hS (.pointer (some ⟨tb, 39, none⟩)) (fun wx _ => exec_field wx 64 _ 6 rfl _ rfl _ (field64_6 wx tb)) ?_
      simp only [List.set_cons_succ, List.set_cons_zero]
      refine ord_val 36 rfl rfl rfl hS (.slice ao n cap) (fun wx hw => exec_load1 wx 36 _ rfl _ _ rfl (Try.isAgg36 wx) ((hSt wx hw).1.cell39 hs)) ?_
      simp only [List.set_cons_succ, List.set_cons_zero]
      refine ord_val 37 rfl rfl rfl hS (.agg (peerA l)) (fun wx hw => exec_load_at wx 32 _ rfl w.heap.size 0 rfl _ (Try.isAgg32 wx) (by rw [peerA_size hl]; exact Try.sizeOf32 wx) (hSt wx hw).2) ?_
      simp only [List.set_cons_succ, List.set_cons_zero]
      have hBd : Below w1.heap.size w1 wr.drew := HB.out.drew
      have hw1d : w1.heap.size ≤ wr.drew.heap.size := hBd.size
      refine ord_effv (.slice (some ⟨wr.drew.heap.size, 0, none⟩) 1 1) rfl rfl rfl (exec_bslice wr.drew _ 36 1 _ rfl [(0, .agg (peerA l))] (by simp [Act.eval]) _ (run_buildSlice36 wr.drew l hl)) (.inl (hBd.alloc (by exact hw1d) _)) ?_
      simp only [List.set_cons_succ, List.set_cons_zero]
      have hBw2 : Below w1.heap.size w1 (wr.drew.alloc (.cells (peerA l) 32)) := hBd.alloc (by exact hw1d) _
      have hown2 : (wr.drew.alloc (.cells (peerA l) 32)).ownsRow base 32 34 (.slice ao n cap) sps.length (peerCells sps) := (own_below HO1.out hBd).alloc _
      have hnew : ∀ j u, (peerA l).toList[j]? = some u → (wr.drew.alloc (.cells (peerA l) 32)).cell? ((⟨wr.drew.heap.size, 0, none⟩ : Addr).add j) = some u := fun j u hu => by
        rw [Addr.add_lit, Nat.zero_add, cell_of_row _ _ j _ 32 (0, 0) (heap_alloc_new wr.drew _)]
        simpa using hu
      obtain ⟨hz0, hsz0, hby0, hzs0⟩ := HI1.out
      have hnn := HN.out
      obtain ⟨v', w3, hrun, hown3, hgr, _⟩ := run_append_own (P := Try.prog) (wr.drew.alloc (.cells (peerA l) 32)) base 36 36 32 i0 z0 34 64 Try.underlying36 HI.out hz0 hsz0 hby0 hzs0 (by omega) (.slice ao n cap) sps.length (peerCells sps) hown2 ⟨wr.drew.heap.size, 0, none⟩ 1 1 (peerA l).toList (by simp [peerA_size hl]) hnew (peerA_one l)
        (by unfold maxLen; omega) (by omega) (by have e : (wr.drew.alloc (.cells (peerA l) 32)).heap.size = wr.drew.heap.size + 1 := by simp
                                                 rw [e]; omega)
      have hb3 : Below base w w3 := (HBL.out.mono (by omega)).trans ((hBw2.mono (by omega)).grown hgr (by have := hBw2.size; omega) (fun k hk => (hown2.lt k hk).1))
      have htb2 : IsTbl (wr.drew.alloc (.cells (peerA l) 32)) tb self size (.slice none 0 0) (.slice ao n cap) := HT1.out.of_block (hBw2.block tb (by omega))
      have htb3 : IsTbl w3 tb self size (.slice none 0 0) (.slice ao n cap) := htb2.of_block (hgr.block tb (by have := hBw2.size; omega) (own_ne htb2 hown2 (by omega)))
      have hid3 : HasA w3 w.heap.size 0 (peerA l) := fun j hj => by
        have h1 := hpl.below hBw2 (by omega) j hj
        rw [← h1]
        refine World.cell?_of_block (hgr.block w.heap.size (by have := hBw2.size; omega) (fun hc => ?_))
        have := (HO.out.lt w.heap.size hc.symm).2
        omega
      have hS3 : Below w1.heap.size w1 w3 ∨ (IsTbl w3 tb self size (.slice none 0 0) (.slice ao n cap) ∧ HasA w3 w.heap.size 0 (peerA l)) := .inr ⟨htb3, hid3⟩
      refine ord_effv v' rfl rfl rfl (exec_append _ w3 36 (.tmp 36) (.tmp 38) rfl (.slice ao n cap) (.slice (some ⟨wr.drew.heap.size, 0, none⟩) 1 1) rfl rfl v' hrun) hS3 ?_
      simp only [List.set_cons_succ, List.set_cons_zero]
      refine ord_effv (.pointer (some ⟨tb, 0, none⟩)) rfl rfl rfl (exec_nilck w3 _ rfl _ rfl) hS3 ?_
      simp only [List.set_cons_succ, List.set_cons_zero]
      refine ord_effv (.pointer (some ⟨tb, 39, none⟩)) rfl rfl rfl (exec_field w3 64 _ 6 rfl _ rfl _ (field64_6 w3 tb)) hS3 ?_
      simp only [List.set_cons_succ, List.set_cons_zero]
      refine ord_done ?_
      refine last_run rfl rfl rfl (exec_store1 w3 36 _ _ rfl ⟨tb, 39, none⟩ v' (.slice ao n cap) rfl rfl (Try.sizeOf36 w3) (own_cells hown3).1 (own_cells hown3).2 (htb3.cell39 hs) htb3.frozen) ?_
      go_end0
      refine ⟨rfl, ?_, hb3.setCell (by exact hbt) _⟩
      rw [HM.out]
      refine ⟨v', htb3.set39 hs v', hbt, ?_⟩
      have := own_setCell hown3 ⟨tb, 39, none⟩ v' (own_ne htb3 hown3 (by omega))
      rw [List.length_append, peerCells_app]
      simpa [peerCells] using this
end Go.Proofs.Qxb6612853a
