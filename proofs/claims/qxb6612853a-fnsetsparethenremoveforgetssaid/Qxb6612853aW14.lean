/-
  Taking one element out of a row of one's own; dropSpare.
-/
import Derived.Test.Qxb6612853aL3
import Derived.Deep.DeepAppendRoom
namespace Go.Proofs.Qxb6612853a
open Go.RowKit

theorem exec_slice {P : Program} {ρ : Operand → Value} (w : World) {o : Oper} (t : TypeId) (x : Operand) (lo hi mx : Option Operand) (ho : o.op = .slice t x lo hi mx) (v u : Value) (hx : ρ x = v) (vlo vhi : Option Value) (hlo : lo.map ρ = vlo) (hhi : hi.map ρ = vhi) (hmx : mx = none)
    (hr : (Instr.sliceAt t v vlo vhi none).run P w = .ok u w) : (execOp ρ o).run P w = .ok (.value u) w := by
  subst hmx
  unfold execOp
  simp [ho, hx, hlo, hhi, hr]

/-- s[:k] and s[k:]. -/
theorem run_sl_to {P : Program} (w : World) (t e : TypeId) (size : Nat) (ht : P.underlying t = some (.slice e)) (hz : (sizeOf e).run P w = .ok size w) (g n cap k : Nat) (hk : k ≤ n) (hn : n ≤ cap) :
    (Instr.sliceAt t (.slice (some ⟨g, 0, none⟩) n cap) none (some (.int .i64 (k : Int))) none).run P w = .ok (.slice (some ⟨g, 0, none⟩) k cap) w := by
  have he : P.elem t = e := by simp [Program.elem, ht]
  rw [run_sliceAt_slice _ _ _ _ _ _ (by rw [he]; exact ht), run_slice_h _ _ _ _ _ (by rw [he]; exact ht) .i64 k (by omega) (by omega), he, hz]
  simp [sliced, Addr.add]
theorem run_sl_from {P : Program} (w : World) (t e : TypeId) (size : Nat) (ht : P.underlying t = some (.slice e)) (hz : (sizeOf e).run P w = .ok size w) (g n cap k : Nat) (hk : k ≤ n) :
    (Instr.sliceAt t (.slice (some ⟨g, 0, none⟩) n cap) (some (.int .i64 (k : Int))) none none).run P w = .ok (.slice (some (if cap = k then ⟨g, 0, none⟩ else ⟨g, k * size, none⟩)) (n - k) (cap - k)) w := by
  have he : P.elem t = e := by simp [Program.elem, ht]
  rw [run_sliceAt_slice _ _ _ _ _ _ (by rw [he]; exact ht), run_slice_l _ _ _ _ _ (by rw [he]; exact ht) .i64 k (by omega) (by omega), he, hz]
  by_cases h : cap = k
  · simp [sliced, h]
  · simp [sliced, Addr.add, h]
    exact fun h => h.symm

theorem run_del {P : Program} (w : World) (base : Nat) (t ty e : TypeId) (i : TypeInfo) (size : Nat) (ht : P.underlying t = some (.slice e)) (hi : P.info? e = some i) (hsize : i.size = size)
    (g n cap : Nat) (xs : List Value) (hown : w.ownsRow base e size (.slice (some ⟨g, 0, none⟩) n cap) n xs) (h1 : ∀ u ∈ xs, u.oneCell' = true) (k : Nat) (hk : k < n) (c : Nat) :
    ∃ w', (Builtin.append_ #[t, t] ty #[.slice (some ⟨g, 0, none⟩) k cap, .slice (some (if cap = k + 1 then ⟨g, 0, none⟩ else ⟨g, (k + 1) * size, none⟩)) (n - (k + 1)) c]).run P w = .ok (.slice (some ⟨g, 0, none⟩) (n - 1) cap) w' ∧
      w'.ownsRow base e size (.slice (some ⟨g, 0, none⟩) (n - 1) cap) (n - 1) (xs.take (k * size) ++ xs.drop ((k + 1) * size)) ∧ w.grownBy w' (some g) := by
  obtain ⟨hl, h2⟩ := hown
  rcases h2 with ⟨h0, _⟩ | ⟨g', cap', cur, hv, hbg, hg, hnc, hcm, hcs, htk⟩
  · cases h0
  cases hv
  have hle : k * size ≤ n * size := Nat.mul_le_mul_right _ (by omega)
  have hle1 : (k + 1) * size ≤ n * size := Nat.mul_le_mul_right _ (by omega)
  have hownk : w.ownsRow base e size (.slice (some ⟨g, 0, none⟩) k cap) k (xs.take (k * size)) := by
    refine ⟨by rw [List.length_take, hl, Nat.min_eq_left hle], .inr ⟨g, cap, cur, rfl, hbg, hg, by omega, hcm, hcs, ?_⟩⟩
    rw [← htk, List.take_take, Nat.min_eq_left hle]
  have hnl : (xs.drop ((k + 1) * size)).length = (n - (k + 1)) * size := by rw [List.length_drop, hl, Nat.sub_mul]
  have hnews : ∀ j u, (xs.drop ((k + 1) * size))[j]? = some u → w.cell? ((if cap = k + 1 then (⟨g, 0, none⟩ : Addr) else ⟨g, (k + 1) * size, none⟩).add j) = some u := fun j u hu => by
    have hj : j < (n - (k + 1)) * size := by
      rw [← hnl]
      exact (List.getElem?_eq_some_iff.1 hu).1
    have hne : ¬ cap = k + 1 := fun hc => by
      have : n - (k + 1) = 0 := by omega
      rw [this, Nat.zero_mul] at hj
      exact Nat.not_lt_zero _ hj
    rw [if_neg hne, Addr.add_lit, cell_of_row w g _ _ e (0, 0) hg]
    rw [List.getElem?_drop, ← htk, List.getElem?_take_of_lt (by rw [Nat.sub_mul] at hj; omega)] at hu
    simpa using hu
  obtain ⟨w', hr, ho, hgr⟩ := run_append_own_spare (P := P) w base t ty e i size ht hi hsize g k cap _ hownk _ (n - (k + 1)) c _ hnl hnews (fun u hu => h1 u (List.mem_of_mem_drop hu)) (by omega)
  have e1 : k + (n - (k + 1)) = n - 1 := by omega
  rw [e1] at hr ho
  exact ⟨w', hr, ho, hgr⟩

theorem peerCells_one (ids : List (List Nat)) : ∀ u ∈ peerCells ids, u.oneCell' = true := fun u hu => by
  unfold peerCells at hu
  rw [List.mem_flatMap] at hu
  obtain ⟨l, _, hl⟩ := hu
  exact peerA_one l u hl
theorem peerCells_del (sps : List (List Nat)) (h : AllID sps) (k : Nat) (hk : k < sps.length) : (peerCells sps).take (k * 34) ++ (peerCells sps).drop ((k + 1) * 34) = peerCells (sps.eraseIdx k) := by
  have e1 : peerCells sps = peerCells (sps.take k) ++ peerCells (sps.drop k) := by rw [← peerCells_app, List.take_append_drop]
  have e2 : peerCells sps = peerCells (sps.take (k + 1)) ++ peerCells (sps.drop (k + 1)) := by rw [← peerCells_app, List.take_append_drop]
  have l1 := peerCells_len h k (by omega)
  have l2 := peerCells_len h (k + 1) (by omega)
  have t1 : (peerCells sps).take (k * 34) = peerCells (sps.take k) := by rw [e1, ← l1, List.take_left]
  have t2 : (peerCells sps).drop ((k + 1) * 34) = peerCells (sps.drop (k + 1)) := by rw [e2, ← l2, List.drop_left]
  rw [t1, t2, ← peerCells_app, List.eraseIdx_eq_take_drop_succ]
theorem eraseIdx_id {sps : List (List Nat)} (h : AllID sps) (k : Nat) : AllID (sps.eraseIdx k) := by
  rw [allID_iff] at h ⊢
  exact fun x hx => h x (List.mem_of_mem_eraseIdx hx)

theorem erase_hit (l : List Nat) : ∀ (sps : List (List Nat)) (k : Nat), (∀ j, j < k → sps.getD j [] ≠ l) → k < sps.length → sps.getD k [] = l → sps.erase l = sps.eraseIdx k
  | [], k, _, h, _ => absurd h (Nat.not_lt_zero _)
  | x :: r, 0, _, _, h => by
    have h' : x = l := by simpa using h
    simp [h']
  | x :: r, k + 1, hj, hk, h => by
    have h0 : x ≠ l := by simpa using hj 0 (by omega)
    have ih := erase_hit l r k (fun j hj' => by simpa using hj (j + 1) (by omega)) (by simpa using hk) (by simpa using h)
    rw [List.erase_cons_tail (by simpa using h0), ih]
    rfl
theorem erase_miss (l : List Nat) : ∀ (sps : List (List Nat)), (∀ j, j < sps.length → sps.getD j [] ≠ l) → sps.erase l = sps
  | [], _ => rfl
  | x :: r, hj => by
    have h0 : x ≠ l := by simpa using hj 0 (by simp)
    rw [List.erase_cons_tail (by simpa using h0), erase_miss l r (fun j hj' => by simpa using hj (j + 1) (by simp; omega))]

/-- No spares: nothing is dropped. -/
theorem dropSpare0_c (tb : Nat) (l : List Nat) (w : World) (hc : w.cell? ⟨tb, 39, none⟩ = some (.slice none 0 0)) :
    Calls Try.prog 35 #[.pointer (some ⟨tb, 0, none⟩), .agg (idA l)] w fun e w' => e = .returned (.tuple #[]) ∧ Below w.heap.size w w' := by
  have htl : tb < w.heap.size := block_lt_of_cell hc
  have hc1 : (w.alloc (.cells (idA l) 27)).cell? ⟨tb, 39, none⟩ = some (.slice none 0 0) := by rw [World.cell?_alloc_past _ _ _ htl]; exact hc
  have hbel : Below w.heap.size w (w.alloc (.cells (idA l) 27)) := (Below.refl _ _).alloc (Nat.le_refl _) _
  have HB : Hid (Below w.heap.size w (w.alloc (.cells (idA l) 27))) := hbel
  clear hbel hc
  go_enter Try.func35, Try.ntmps35
  go_wp2_with fail
  generalize w.alloc (.cells (idA l) 27) = w1 at *
  go_loopw [11] (fun v wr => v = .int .i64 0 ∧ wr = w1) (fun _ _ => 0)
  case atStart => exact ⟨rfl, rfl⟩
  case round =>
    obtain ⟨rfl, rfl⟩ := hrel
    go_wp2_with fail
    go_end0
    exact ⟨rfl, HB.out⟩

/-- The blocks that are neither a table nor a row of peers are kept. -/
def Keeps (w w' : World) : Prop := ∀ (j : Nat) (cs : Array Value) (t : TypeId), t ≠ 32 → t ≠ 64 → w.heap[j]? = some (.cells cs t (0, 0)) → w'.heap[j]? = some (.cells cs t (0, 0))
theorem Keeps.below {w w1 w2 : World} {B : Nat} (h : Keeps w w1) (hb : Below B w1 w2) (hB : w1.heap.size ≤ B) : Keeps w w2 := fun j cs t h32 h64 hj => by
  have := h j cs t h32 h64 hj
  exact (hb.block j (Nat.lt_of_lt_of_le (Array.getElem?_eq_some_iff.1 this).1 hB)).trans this

set_option maxHeartbeats 2000000 in
theorem dropSpare_c (self : List Nat) (hs : IsID self) (size : Int) (base tb : Nat) (sps : List (List Nat)) (hid : AllID sps) (l : List Nat) (hl : IsID l) (w : World) (ht : TblS w base tb self size sps) (hn : sps.length ≤ 32768) :
    Calls Try.prog 35 #[.pointer (some ⟨tb, 0, none⟩), .agg (idA l)] w fun e w' => e = .returned (.tuple #[]) ∧ TblS w' base tb self size (sps.erase l) ∧ Below base w w' ∧ Keeps w w' := by
  obtain ⟨sp, htb, hbt, hown⟩ := ht
  have htlt := htb.lt
  have HID : Hid (AllID sps) := hid
  clear hid
  obtain ⟨i0, z0, hi0, hz0, hsz0, hby0, hzs0⟩ := zero32
  have HI : Hid (Try.prog.info? 32 = some i0) := hi0
  have HI1 : Hid (i0.zero = some z0 ∧ i0.size = 34 ∧ i0.bytes = 64 ∧ z0.cells.size = 34) := ⟨hz0, hsz0, hby0, hzs0⟩
  clear hi0 hz0 hsz0 hby0 hzs0
  obtain ⟨n, hnl⟩ : ∃ n, n = sps.length := ⟨_, rfl⟩
  have HN : Hid (n = sps.length) := hnl
  have hcap : ∃ ao cap, sp = .slice ao n cap ∧ (0 < n → ∃ g, ao = some ⟨g, 0, none⟩) := by
    rcases hown.2 with ⟨rfl, h0⟩ | ⟨g, cap, cur, rfl, _⟩
    · exact ⟨none, 0, by rw [hnl, h0], fun h => by omega⟩
    · exact ⟨some ⟨g, 0, none⟩, cap, by rw [hnl], fun _ => ⟨g, rfl⟩⟩
  rw [← hnl] at hn
  clear hnl
  obtain ⟨ao, cap, rfl, hao⟩ := hcap
  go_enter Try.func35, Try.ntmps35
  go_wp2_with (refine stop_field 64 ?_)
  obtain ⟨w1, hw1⟩ : ∃ x, x = w.alloc (.cells (idA l) 27) := ⟨_, rfl⟩
  rw [← hw1]
  have hz1 : w1.heap.size = w.heap.size + 1 := by rw [hw1]; simp
  have hpl : HasA w1 w.heap.size 0 (idA l) := by rw [hw1]; exact HasA.of_block (heap_alloc_new w _)
  have hbel : Below w.heap.size w w1 := by rw [hw1]; exact (Below.refl _ _).alloc (Nat.le_refl _) _
  have htb1 : IsTbl w1 tb self size (.slice none 0 0) (.slice ao n cap) := htb.of_block (hbel.block tb htlt)
  have hown1 : w1.ownsRow base 32 34 (.slice ao n cap) sps.length (peerCells sps) := by rw [hw1]; exact hown.alloc _
  clear hw1
  have HT1 : Hid (IsTbl w1 tb self size (.slice none 0 0) (.slice ao n cap)) := htb1
  have HO1 : Hid (w1.ownsRow base 32 34 (.slice ao n cap) sps.length (peerCells sps)) := hown1
  have HO : Hid (w.ownsRow base 32 34 (.slice ao n cap) sps.length (peerCells sps)) := hown
  have HBL : Hid (Below w.heap.size w w1) := hbel
  clear htb1 hown1 hown hbel htb
  refine go_on ?_
  refine lst_val _ (exec_field w1 64 _ 6 rfl _ rfl _ (field64_6 w1 _)) ?_
  simp only [List.set_cons_succ, List.set_cons_zero]
  refine lst_val (.slice ao n cap) (exec_load1 w1 36 _ rfl _ _ rfl (Try.isAgg36 w1) (HT1.out.cell39 hs)) ?_
  simp only [List.set_cons_succ, List.set_cons_zero]
  go_wp2_with fail
  go_loopw [11] (fun v wr => ∃ k : Nat, k ≤ n ∧ v = .int .i64 k ∧ (∀ j, j < k → sps.getD j [] ≠ l) ∧ Below w1.heap.size w1 wr) (fun v _ => n - (intOf v).toNat)
  case atStart => exact ⟨0, by omega, rfl, fun j hj => absurd hj (Nat.not_lt_zero _), Below.refl _ _⟩
  case round =>
    obtain ⟨k, hk, rfl, hz, hbl⟩ := hrel
    have HB : Hid (Below w1.heap.size w1 wr) := hbl
    have HZ : Hid (∀ j, j < k → sps.getD j [] ≠ l) := hz
    clear hbl hz
    by_cases hlt : k < n
    · obtain ⟨g, rfl⟩ := hao (by omega)
      obtain ⟨x, hxe⟩ : ∃ x, x = sps.getD k [] := ⟨_, rfl⟩
      have iik : IsID x := by rw [hxe]; exact HID.out k (by rw [← HN.out]; exact hlt)
      have HX : Hid (x = sps.getD k []) := hxe
      clear hxe
      obtain ⟨cur, hgb, hcapn, hcm, hcs, hct, hbg⟩ : ∃ cur : Array Value, w1.heap[g]? = some (.cells cur 32 (0, 0)) ∧ sps.length ≤ cap ∧ cap ≤ maxLen ∧ cur.size = cap * 34 ∧ cur.toList.take (sps.length * 34) = peerCells sps ∧ base ≤ g := by
        rcases HO1.out.2 with ⟨h, _⟩ | ⟨g', cap', cur, h, hbg, hgb, h1, h2, h3, h4⟩
        · cases h
        · cases h; exact ⟨cur, hgb, h1, h2, h3, h4, hbg⟩
      have HCUR : Hid (w1.heap[g]? = some (.cells cur 32 (0, 0)) ∧ sps.length ≤ cap ∧ cap ≤ maxLen ∧ cur.size = cap * 34 ∧ cur.toList.take (sps.length * 34) = peerCells sps ∧ base ≤ g) := ⟨hgb, hcapn, hcm, hcs, hct, hbg⟩
      have hglt : g < w1.heap.size := (Array.getElem?_eq_some_iff.1 hgb).1
      clear hgb hcapn hcm hcs hct hbg
      have hpk1 : HasA w1 g (0 + k * 34) (peerA (x)) := fun j hj => by
        obtain ⟨hgb, hcapn, hcm, hcs, hct, hbg⟩ := HCUR.out
        rw [peerA_size iik] at hj
        rw [Nat.zero_add, cell_of_row _ _ _ _ 32 (0, 0) hgb, HX.out, ← peerCells_get HID.out k j (by rw [← HN.out]; exact hlt) hj, ← hct, List.getElem?_take_of_lt (by rw [← HN.out]; omega)]
        simp
      have HPK : Hid (HasA wr g (0 + k * 34) (peerA (x))) := hpk1.below HB.out hglt
      clear hpk1
      have hlt' : (k : Int) < (n : Int) := by omega
      go_wp2_with (refine stop_idx 36 ?_)
      refine go_on ?_
      refine lst_val _ (exec_idx wr 36 32 34 _ _ rfl g 0 n cap k Try.underlying36 (Try.sizeOf32 _) rfl rfl hlt) ?_
      simp only [List.set_cons_succ, List.set_cons_zero]
      refine lst_val _ (exec_load_at wr 32 _ rfl g (0 + k * 34) rfl _ (Try.isAgg32 _) (by rw [peerA_size iik]; exact Try.sizeOf32 _) HPK.out) ?_
      simp only [List.set_cons_succ, List.set_cons_zero]
      refine lst_val _ (exec_alloc wr 32 rfl _ (run_zero32 _)) ?_
      simp only [List.set_cons_succ, List.set_cons_zero]
      refine lst_val (.int .i64 (k : Int)) rfl ?_
      simp only [List.set_cons_succ, List.set_cons_zero]
      refine lst_sk (exec_storeA _ 32 _ _ rfl wr.heap.size 0 (peerA (x)) rfl rfl (by rw [peerA_size iik]; exact Try.sizeOf32 _) zero32A 32 (heap_alloc_new wr _) (by rw [peerA_size iik, zero32A_size]; omega) (peerA_one _)) ?_
      rw [splice_all _ _ (by rw [peerA_size iik, zero32A_size])]
      have h3 : ((wr.alloc (.cells zero32A 32)).setRow wr.heap.size (peerA (x))).heap[wr.heap.size]? = some (.cells (peerA (x)) 32 (0, 0)) := setRow_heap _ _ _ _ 32 _ (heap_alloc_new wr _)
      have hb3 : Below wr.heap.size wr ((wr.alloc (.cells zero32A 32)).setRow wr.heap.size (peerA (x))) := below_setRow' ((Below.refl _ _).alloc (Nat.le_refl _) _) (Nat.le_refl _) _
      generalize (wr.alloc (.cells zero32A 32)).setRow wr.heap.size (peerA (x)) = w3 at *
      have HB3 : Hid (Below w1.heap.size w1 w3) := HB.out.trans (hb3.mono HB.out.size)
      have H3 : Hid (w3.heap[wr.heap.size]? = some (.cells (peerA (x)) 32 (0, 0))) := h3
      clear hb3 h3
      go_wp2_with (refine stop_field 32 ?_)
      refine go_on ?_
      refine lst_val _ (exec_field w3 32 _ 0 rfl _ rfl _ (field32_0 w3 _ _)) ?_
      simp only [List.set_cons_succ, List.set_cons_zero]
      refine lst_val _ (exec_load_at w3 27 _ rfl wr.heap.size 0 rfl (idA (x)) (Try.isAgg27 _) (by rw [idA_size, iik.1]; exact Try.sizeOf27 _) (peerA_prefix iik (HasA.of_block H3.out))) ?_
      simp only [List.set_cons_succ, List.set_cons_zero]
      refine lst_val _ (exec_load_at w3 27 _ rfl w.heap.size 0 rfl (idA l) (Try.isAgg27 _) (by rw [idA_size, hl.1]; exact Try.sizeOf27 _) (hpl.below HB3.out (by omega))) ?_
      simp only [List.set_cons_succ, List.set_cons_zero]
      refine lst_val (.bool (x == l)) (exec_eqid w3 27 27 (.tmp 17) (.tmp 18) rfl x l iik hl Try.underlying27 Try.eqGuardType27 rfl rfl) ?_
      simp only [List.set_cons_succ, List.set_cons_zero]
      by_cases hbe : x = l
      · have HBE : Hid (x = l) := hbe
        have hbe' : (x == l) = true := by rw [hbe]; exact beq_self_eq_true l
        rw [hbe']
        clear hbe hbe'
        go_wp2_with fail
        refine wp_region_ordT (fun w' => Below w1.heap.size w1 w' ∨ IsTbl w' tb self size (.slice none 0 0) (.slice (some ⟨g, 0, none⟩) n cap)) 17 [(0, false), (1, false), (2, false), (3, false), (4, false), (5, false), (6, false), (7, false), (8, false), (9, false), (10, false), (11, false), (12, false), (13, false), (14, true), (15, true), (16, true)] (by kernel_rfl) (by kernel_rfl)
          (fun _ _ _ d _ h => by cases d <;> exact h) (by kernel_rfl) rfl ?_
        have hBd : Below w1.heap.size w1 w3.drew := HB3.out.drew
        have hS : Below w1.heap.size w1 w3.drew ∨ IsTbl w3.drew tb self size (.slice none 0 0) (.slice (some ⟨g, 0, none⟩) n cap) := .inl hBd
        have hSt : ∀ w', (Below w1.heap.size w1 w' ∨ IsTbl w' tb self size (.slice none 0 0) (.slice (some ⟨g, 0, none⟩) n cap)) → IsTbl w' tb self size (.slice none 0 0) (.slice (some ⟨g, 0, none⟩) n cap) := fun w' h => by
          rcases h with h | h
          · exact HT1.out.of_block (h.block tb (by omega))
          · exact h
        have hncap : n ≤ cap := by have := HCUR.out.2.1; rw [← HN.out] at this; exact this
        refine ord_val 20 rfl rfl rfl hS (.pointer (some ⟨tb, 0, none⟩)) (fun _ _ => rfl) ?_
        simp only [List.set_cons_succ, List.set_cons_zero]
        refine ord_val 21 rfl rfl rfl hS (.pointer (some ⟨tb, 0, none⟩)) (fun _ _ => rfl) ?_
        simp only [List.set_cons_succ, List.set_cons_zero]
        refine ord_val 22 rfl rfl rfl hS (.pointer (some ⟨tb, 0, none⟩)) (fun wx _ => exec_nilck wx _ rfl _ rfl) ?_
        simp only [List.set_cons_succ, List.set_cons_zero]
        refine ord_val 23 rfl rfl rfl hS (.pointer (some ⟨tb, 39, none⟩)) (fun wx _ => exec_field wx 64 _ 6 rfl _ rfl _ (field64_6 wx tb)) ?_
        simp only [List.set_cons_succ, List.set_cons_zero]
        refine ord_val 24 rfl rfl rfl hS (.slice (some ⟨g, 0, none⟩) n cap) (fun wx hw => exec_load1 wx 36 _ rfl _ _ rfl (Try.isAgg36 wx) ((hSt wx hw).cell39 hs)) ?_
        simp only [List.set_cons_succ, List.set_cons_zero]
        refine ord_val 25 rfl rfl rfl hS (.int .i64 (k : Int)) (fun _ _ => rfl) ?_
        simp only [List.set_cons_succ, List.set_cons_zero]
        refine ord_val 26 rfl rfl rfl hS (.slice (some ⟨g, 0, none⟩) k cap) (fun wx _ => exec_slice wx 36 (.tmp 24) none (some (.tmp 25)) none rfl _ _ rfl none (some (.int .i64 (k : Int))) rfl rfl rfl (run_sl_to wx 36 32 34 Try.underlying36 (Try.sizeOf32 wx) g n cap k (by omega) hncap)) ?_
        simp only [List.set_cons_succ, List.set_cons_zero]
        refine ord_val 27 rfl rfl rfl hS (.pointer (some ⟨tb, 0, none⟩)) (fun _ _ => rfl) ?_
        simp only [List.set_cons_succ, List.set_cons_zero]
        refine ord_val 28 rfl rfl rfl hS (.pointer (some ⟨tb, 0, none⟩)) (fun wx _ => exec_nilck wx _ rfl _ rfl) ?_
        simp only [List.set_cons_succ, List.set_cons_zero]
        refine ord_val 29 rfl rfl rfl hS (.pointer (some ⟨tb, 39, none⟩)) (fun wx _ => exec_field wx 64 _ 6 rfl _ rfl _ (field64_6 wx tb)) ?_
        simp only [List.set_cons_succ, List.set_cons_zero]
        refine ord_val 30 rfl rfl rfl hS (.slice (some ⟨g, 0, none⟩) n cap) (fun wx hw => exec_load1 wx 36 _ rfl _ _ rfl (Try.isAgg36 wx) ((hSt wx hw).cell39 hs)) ?_
        simp only [List.set_cons_succ, List.set_cons_zero]
        refine ord_val 31 rfl rfl rfl hS (.int .i64 (k : Int)) (fun _ _ => rfl) ?_
        simp only [List.set_cons_succ, List.set_cons_zero]
        refine ord_val 32 rfl rfl rfl hS (.int .i64 ((k + 1 : Nat) : Int)) (fun wx _ => exec_bin wx .add 3 3 _ _ rfl .i64 k (.int .i64 1) _ rfl rfl (by rw [run_addi _ _ _ _ (by omega) (by omega)]; congr 2)) ?_
        simp only [List.set_cons_succ, List.set_cons_zero]
        refine ord_val 33 rfl rfl rfl hS (.slice (some (if cap = k + 1 then ⟨g, 0, none⟩ else ⟨g, (k + 1) * 34, none⟩)) (n - (k + 1)) (cap - (k + 1))) (fun wx _ => exec_slice wx 36 (.tmp 30) (some (.tmp 32)) none none rfl _ _ rfl (some (.int .i64 ((k + 1 : Nat) : Int))) none rfl rfl rfl (run_sl_from wx 36 32 34 Try.underlying36 (Try.sizeOf32 wx) g n cap (k + 1) (by omega))) ?_
        simp only [List.set_cons_succ, List.set_cons_zero]
        obtain ⟨hz0, hsz0, hby0, hzs0⟩ := HI1.out
        have hown3 : w3.drew.ownsRow base 32 34 (.slice (some ⟨g, 0, none⟩) n cap) n (peerCells sps) := by
          have := own_below HO1.out hBd
          rw [← HN.out] at this
          exact this
        obtain ⟨w4, hrun, hown4, hgr⟩ := run_del (P := Try.prog) w3.drew base 36 36 32 i0 34 Try.underlying36 HI.out hsz0 g n cap (peerCells sps) hown3 (peerCells_one sps) k hlt (cap - (k + 1))
        have hkl : k < sps.length := by rw [← HN.out]; exact hlt
        rw [peerCells_del sps HID.out k hkl] at hown4
        have htb3 : IsTbl w3.drew tb self size (.slice none 0 0) (.slice (some ⟨g, 0, none⟩) n cap) := hSt _ hS
        have htb4 : IsTbl w4 tb self size (.slice none 0 0) (.slice (some ⟨g, 0, none⟩) n cap) := htb3.of_block (hgr.block tb htb3.lt (own_ne htb3 hown3 (by omega)))
        have hS4 : Below w1.heap.size w1 w4 ∨ IsTbl w4 tb self size (.slice none 0 0) (.slice (some ⟨g, 0, none⟩) n cap) := .inr htb4
        have hb4 : Below base w w4 := (HBL.out.mono (by omega)).trans ((hBd.mono (by omega)).grown hgr (by have := hBd.size; omega) (fun j hj => by cases hj; exact HCUR.out.2.2.2.2.2))
        refine ord_effv (.slice (some ⟨g, 0, none⟩) (n - 1) cap) rfl rfl rfl (exec_append _ w4 36 (.tmp 26) (.tmp 33) rfl _ _ rfl rfl _ hrun) hS4 ?_
        simp only [List.set_cons_succ, List.set_cons_zero]
        refine ord_effv (.pointer (some ⟨tb, 0, none⟩)) rfl rfl rfl (exec_nilck w4 _ rfl _ rfl) hS4 ?_
        simp only [List.set_cons_succ, List.set_cons_zero]
        refine ord_effv (.pointer (some ⟨tb, 39, none⟩)) rfl rfl rfl (exec_field w4 64 _ 6 rfl _ rfl _ (field64_6 w4 tb)) hS4 ?_
        simp only [List.set_cons_succ, List.set_cons_zero]
        refine ord_done ?_
        refine last_run rfl rfl rfl (exec_store1 w4 36 (.tmp 36) (.tmp 34) rfl ⟨tb, 39, none⟩ (.slice (some ⟨g, 0, none⟩) (n - 1) cap) (.slice (some ⟨g, 0, none⟩) n cap) rfl rfl (Try.sizeOf36 w4) (own_cells hown4).1 (own_cells hown4).2 (htb4.cell39 hs) htb4.frozen) ?_
        have HN2 : Hid (TblS (w4.setCell ⟨tb, 39, none⟩ (.slice (some ⟨g, 0, none⟩) (n - 1) cap)) base tb self size (sps.erase l)) := by
          show TblS _ _ _ _ _ _
          rw [erase_hit l sps k HZ.out hkl (by rw [← HX.out]; exact HBE.out)]
          refine ⟨_, htb4.set39 hs _, hbt, ?_⟩
          have := own_setCell hown4 ⟨tb, 39, none⟩ (.slice (some ⟨g, 0, none⟩) (n - 1) cap) (own_ne htb4 hown4 (by omega))
          rw [List.length_eraseIdx_of_lt hkl, ← HN.out]
          exact this
        have HK5 : Hid (Keeps w (w4.setCell ⟨tb, 39, none⟩ (.slice (some ⟨g, 0, none⟩) (n - 1) cap))) := fun j cs t h32 h64 hj => by
          have hj1 := (HBL.out.block j (Array.getElem?_eq_some_iff.1 hj).1).trans hj
          have hjlt := (Array.getElem?_eq_some_iff.1 hj1).1
          have hj3 := (hBd.block j hjlt).trans hj1
          have hne : j ≠ tb := fun e => by subst e; rw [show w1.heap[j]? = _ from HT1.out] at hj1; simp at hj1; exact h64 hj1.2.symm
          have hne2 : some j ≠ some g := fun e => by cases e; rw [HCUR.out.1] at hj1; simp at hj1; exact h32 hj1.2.symm
          rw [heap_setCell_other _ _ _ _ (by simpa using hne), hgr.block j (Array.getElem?_eq_some_iff.1 hj3).1 hne2]
          exact hj3
        have HB5 : Hid (Below base w (w4.setCell ⟨tb, 39, none⟩ (.slice (some ⟨g, 0, none⟩) (n - 1) cap))) := hb4.setCell (by exact hbt) _
        generalize w4.setCell ⟨tb, 39, none⟩ (.slice (some ⟨g, 0, none⟩) (n - 1) cap) = w5 at *
        generalize (if cap = k + 1 then (⟨g, 0, none⟩ : Addr) else ⟨g, (k + 1) * 34, none⟩) = aa at *
        clear hS hSt hBd hown3 hown4 hgr hrun htb3 htb4 hS4 hb4 hz0 hsz0 hby0 hzs0
        go_wp2_with fail
        exact bodyPost_ret (results_none Try.results35 _ _ _) rfl ⟨rfl, HN2.out, HB5.out, HK5.out⟩
      · have HBE : Hid (¬ x = l) := hbe
        have hbe' : (x == l) = false := by rw [beq_eq_false_iff_ne]; exact hbe
        rw [hbe']
        clear hbe hbe'
        go_wp2_with fail
        go_roundw
        case rel => exact ⟨k + 1, by omega, by go_num, fun j hj => by
                      by_cases e : j = k
                      · subst e; rw [← HX.out]; exact HBE.out
                      · exact HZ.out j (by omega), HB3.out⟩
        case measure => simp [intOf]; omega
    · have HM : Hid (sps.erase l = sps) := erase_miss l sps (fun j hj => HZ.out j (by have := HN.out; omega))
      go_wp2_with fail
      go_end0
      refine ⟨rfl, ?_, (HBL.out.mono (by omega)).trans (HB.out.mono (by omega)), fun j cs t h32 h64 hj => by
        have hj1 := (HBL.out.block j (Array.getElem?_eq_some_iff.1 hj).1).trans hj
        exact (HB.out.block j (Array.getElem?_eq_some_iff.1 hj1).1).trans hj1⟩
      rw [HM.out]
      exact ⟨_, HT1.out.of_block (HB.out.block tb (by omega)), hbt, own_below HO1.out HB.out⟩
end Go.Proofs.Qxb6612853a
