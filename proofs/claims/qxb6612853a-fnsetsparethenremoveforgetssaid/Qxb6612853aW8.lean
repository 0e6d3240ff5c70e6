/-
  Steps over values of many cells that are laid and stored; zzPeerOf, Len, peers, ZZpeers.
-/
import Derived.Test.Qxb6612853aW7
namespace Go.Proofs.Qxb6612853a
open Go.RowKit

/-- A mark at which the walk stands still. -/
structure Stopped (p : Prop) : Prop where
  out : p
theorem go_on {p : Prop} (h : p) : Stopped p := ⟨h⟩

section
variable {P : Program} {ops : Array Oper} {Q : Exit → Act → World → Prop} {rest : List Oper} {a : Act} {w w' : World} {dst : Option Tmp} {ty : TypeId} {pos : String} {after : Array Edge} {l : List Value} {ds : List Deferred} {op : Op}
theorem stop_load (t : TypeId) {x : Operand} (h : Stopped (wpList P ops Q (⟨dst, .load t x, ty, pos, after, none⟩ :: rest) a w)) : wpList P ops Q (⟨dst, .load t x, ty, pos, after, none⟩ :: rest) a w := h.out
theorem stop_alloc (t : TypeId) (h : Stopped (wpList P ops Q (⟨dst, .alloc t, ty, pos, after, none⟩ :: rest) a w)) : wpList P ops Q (⟨dst, .alloc t, ty, pos, after, none⟩ :: rest) a w := h.out
theorem stop_idx (t : TypeId) {x y : Operand} (h : Stopped (wpList P ops Q (⟨dst, .indexAddr t x y, ty, pos, after, none⟩ :: rest) a w)) : wpList P ops Q (⟨dst, .indexAddr t x y, ty, pos, after, none⟩ :: rest) a w := h.out
theorem stop_field (t : TypeId) {x : Operand} {n : Nat} (h : Stopped (wpList P ops Q (⟨dst, .fieldAddr t x n, ty, pos, after, none⟩ :: rest) a w)) : wpList P ops Q (⟨dst, .fieldAddr t x n, ty, pos, after, none⟩ :: rest) a w := h.out
theorem stop_make (t : TypeId) {x y : Operand} (h : Stopped (wpList P ops Q (⟨dst, .makeSlice t x y, ty, pos, after, none⟩ :: rest) a w)) : wpList P ops Q (⟨dst, .makeSlice t x y, ty, pos, after, none⟩ :: rest) a w := h.out
theorem lst_val {n : Nat} (v : Value) (hv : (execOp (Act.eval ⟨l.toArray, ds⟩) ⟨some n, op, ty, pos, after, none⟩).run P w = .ok (.value v) w') (hk : wpList P ops Q rest ⟨(l.set n v).toArray, ds⟩ w') :
    wpList P ops Q (⟨some n, op, ty, pos, after, none⟩ :: rest) ⟨l.toArray, ds⟩ w :=
  wpList_plain rfl fun _ hK => by
    unfold Oper.wp
    rw [hv]
    refine hK _ _ ?_
    rw [put_lit]
    exact hk
theorem lst_sk (hv : (execOp (Act.eval ⟨l.toArray, ds⟩) ⟨none, op, ty, pos, after, none⟩).run P w = .ok .skip w') (hk : wpList P ops Q rest ⟨l.toArray, ds⟩ w') :
    wpList P ops Q (⟨none, op, ty, pos, after, none⟩ :: rest) ⟨l.toArray, ds⟩ w :=
  wpList_plain rfl fun _ hK => by
    unfold Oper.wp
    rw [hv]
    exact hK _ _ hk
end

theorem exec_alloc {P : Program} {ρ : Operand → Value} (w : World) {o : Oper} (t : TypeId) (ho : o.op = .alloc t) (z : Array Value) (hz : (zeroValue t).run P w = .ok (.agg z) w) :
    (execOp ρ o).run P w = .ok (.value (.pointer (some ⟨w.heap.size, 0, none⟩))) (w.alloc (.cells z t)) := by
  unfold execOp
  simp [ho, Instr.alloc, hz, newVar, newRow, Value.cells]

theorem exec_storeA {P : Program} {ρ : Operand → Value} (w : World) {o : Oper} (t : TypeId) (x y : Operand) (ho : o.op = .store t x y) (b off : Nat) (cs : Array Value) (hx : ρ x = .pointer (some ⟨b, off, none⟩)) (hy : ρ y = .agg cs) (hz : (sizeOf t).run P w = .ok cs.size w)
    (cur : Array Value) (e : TypeId) (hg : w.heap[b]? = some (.cells cur e (0, 0))) (hf : off + cs.size ≤ cur.size) (h1 : ∀ u ∈ cs.toList, u.oneCell' = true) : (execOp ρ o).run P w = .ok .skip (w.setRow b (splice cur off cs)) := by
  have hst := run_storeCells_at P b off e cs.toList 0 cur w hg (by simpa using hf) h1
  simp only [Nat.add_zero, Array.length_toList] at hst
  unfold execOp
  simp [ho, hx, hy, Instr.storeAt, Instr.sureAddr, storeVar, Value.cells, hz, hst, splice]

/-- The zero peer, the zero entry. -/
def zero32A : Array Value := peerA (List.replicate 32 0)
def zero74A : Array Value := entA (List.replicate 32 0) 0
theorem run_zero32 (w : World) : (zeroValue 32).run Try.prog w = .ok (.agg zero32A) w := by kernel_rfl
theorem run_zero74 (w : World) : (zeroValue 74).run Try.prog w = .ok (.agg zero74A) w := by kernel_rfl
theorem zeroID : IsID (List.replicate 32 0) := ⟨by simp, fun x hx => by have := (List.mem_replicate.1 hx).2; omega⟩
theorem zero32A_size : zero32A.size = 34 := peerA_size zeroID
theorem zero74A_size : zero74A.size = 36 := entA_size zeroID 0

theorem splice_all (cur cs : Array Value) (h : cur.size = cs.size) : splice cur 0 cs = cs := by
  unfold splice
  rw [List.drop_of_length_le (by simp [h])]
  simp

theorem below_setRow' {B : Nat} {a w : World} (h : Below B a w) {g : Nat} (hg : B ≤ g) (cs : Array Value) : Below B a (w.setRow g cs) :=
  h.trans ⟨rfl, rfl, rfl, by simp, fun k hk => setRow_other w g k cs (by omega)⟩

set_option maxHeartbeats 400000 in
theorem peerOf_c (i : List Nat) (hi : IsID i) (w : World) : Calls Try.prog 14 #[.agg (idA i)] w fun e w' => e = .returned (.agg (peerA i)) ∧ Below w.heap.size w w' := by
  go_enter Try.func14, Try.ntmps14
  go_wp2_with (refine stop_alloc 32 ?_)
  refine go_on ?_
  refine lst_val _ (exec_alloc _ 32 rfl _ (run_zero32 _)) ?_
  simp only [List.set_cons_succ, List.set_cons_zero]
  go_wp2_with (refine stop_load 22 ?_)
  obtain ⟨w1, hw1⟩ : ∃ x, x = (w.alloc (.cells (idA i) 22)).alloc (.cells zero32A 32) := ⟨_, rfl⟩
  have hs1 : (w.alloc (.cells (idA i) 22)).heap.size = w.heap.size + 1 := by simp
  rw [hs1, ← hw1]
  have h1 : w1.heap[w.heap.size]? = some (.cells (idA i) 22 (0, 0)) := by rw [hw1]; exact heap_alloc2_old w _ _
  have h2 : w1.heap[w.heap.size + 1]? = some (.cells zero32A 32 (0, 0)) := by rw [hw1]; exact heap_alloc2_new w _ _
  have hb : Below w.heap.size w w1 := by rw [hw1]; exact ((Below.refl _ _).alloc (Nat.le_refl _) _).alloc (by simp) _
  clear hw1 hs1
  refine go_on ?_
  refine lst_val _ (exec_load_at w1 22 _ rfl w.heap.size 0 rfl (idA i) (Try.isAgg22 _) (by rw [idA_size, hi.1]; exact Try.sizeOf22 _) (HasA.of_block h1)) ?_
  simp only [List.set_cons_succ, List.set_cons_zero]
  refine lst_val _ (exec_build w1 32 _ rfl [(0, .agg (idA i))] (by simp [Act.eval]) _ (run_build32 w1 i hi)) ?_
  simp only [List.set_cons_succ, List.set_cons_zero]
  refine lst_sk (exec_storeA w1 32 _ _ rfl (w.heap.size + 1) 0 (peerA i) rfl rfl (by rw [peerA_size hi]; exact Try.sizeOf32 _) zero32A 32 h2 (by rw [peerA_size hi, zero32A_size]; omega) (peerA_one i)) ?_
  rw [splice_all _ _ (by rw [peerA_size hi, zero32A_size])]
  have h3 : (w1.setRow (w.heap.size + 1) (peerA i)).heap[w.heap.size + 1]? = some (.cells (peerA i) 32 (0, 0)) := setRow_heap w1 _ _ _ 32 _ h2
  have hb3 : Below w.heap.size w (w1.setRow (w.heap.size + 1) (peerA i)) := below_setRow' hb (by omega) _
  generalize w1.setRow (w.heap.size + 1) (peerA i) = w3 at *
  have HB : Hid (Below w.heap.size w w3) := hb3
  clear hb hb3 h1 h2
  go_wp2_with fail
  exact bodyPost_ret (results_cell_row Try.results14 _ _ (w.heap.size + 1) 32 (peerA i) (0, 0) _ rfl h3 Try.underlying32 rfl (by rw [peerA_size hi]; kernel_rfl)) rfl ⟨rfl, HB.out⟩

set_option maxHeartbeats 400000 in
theorem len_c (tb n cap : Nat) (ao : Option Addr) (w : World) (hc : w.cell? ⟨tb, 36, none⟩ = some (.slice ao n cap)) :
    Calls Try.prog 25 #[.pointer (some ⟨tb, 0, none⟩)] w fun e w' => e = .returned (.int .i64 (n : Int)) ∧ w' = w := by
  go_enter Try.func25, Try.ntmps25
  go_wp2_with fail
  go_ret
  exact ⟨rfl, rfl⟩

/-- The cells of a row of peers. -/
def peerCells (ids : List (List Nat)) : List Value := ids.flatMap fun l => (peerA l).toList
theorem peerCells_snoc (ids : List (List Nat)) (k : Nat) (hk : k < ids.length) : peerCells (ids.take (k + 1)) = peerCells (ids.take k) ++ (peerA (ids.getD k [])).toList := by
  have e : ids.getD k [] = ids[k] := by simp [List.getD, hk]
  rw [List.take_succ_eq_append_getElem hk, e]
  simp only [peerCells, List.flatMap_append, List.flatMap_cons, List.flatMap_nil, List.append_nil]
theorem peerCells_len {ids : List (List Nat)} (h : AllID ids) : ∀ k, k ≤ ids.length → (peerCells (ids.take k)).length = k * 34 := by
  intro k
  induction k with
  | zero => intro _; simp [peerCells]
  | succ k ih =>
    intro hk
    rw [peerCells_snoc _ _ hk, List.length_append, ih (by omega), Array.length_toList, peerA_size (h k hk)]
    omega
theorem peerCells_get {ids : List (List Nat)} (h : AllID ids) (i j : Nat) (hi : i < ids.length) (hj : j < 34) : (peerCells ids)[i * 34 + j]? = (peerA (ids.getD i []))[j]? := by
  rw [peerCells, flat_get (fun l => (peerA l).toList) 34 ids (fun k hk => by rw [Array.length_toList, peerA_size (h k hk)]) i j hi hj]
  simp

/-- A row of peers in a block. -/
def PeersAt (w : World) (g n : Nat) (ids : List (List Nat)) : Prop := ∃ cur : Array Value, w.heap[g]? = some (.cells cur 32 (0, 0)) ∧ cur.size = n * 34 ∧ ∀ i, i < n → HasA w g (i * 34) (peerA (ids.getD i []))

theorem take_splice (cur cs : Array Value) (k sz : Nat) (hs : cs.size = sz) (hf : k * sz + sz ≤ cur.size) : (splice cur (k * sz) cs).toList.take ((k + 1) * sz) = cur.toList.take (k * sz) ++ cs.toList := by
  unfold splice
  have hl : (cur.toList.take (k * sz) ++ cs.toList).length = (k + 1) * sz := by simp [hs, Nat.succ_mul]; omega
  simp only [List.append_assoc]
  rw [← List.append_assoc, ← hl, List.take_left]
theorem splice_size (cur cs : Array Value) (off : Nat) (hf : off + cs.size ≤ cur.size) : (splice cur off cs).size = cur.size := by
  simp [splice]; omega

theorem exec_make {P : Program} {ρ : Operand → Value} (w w' : World) {o : Oper} (t : TypeId) (x y : Operand) (ho : o.op = .makeSlice t x y) (vx vy v : Value) (hx : ρ x = vx) (hy : ρ y = vy) (hr : (Instr.makeSlice t vx vy).run P w = .ok v w') : (execOp ρ o).run P w = .ok (.value v) w' := by
  unfold execOp
  simp [ho, hx, hy, hr]

theorem field74_0 (w : World) (b o : Nat) : (Instr.fieldAt 74 (.pointer (some ⟨b, o, none⟩)) 0).run Try.prog w = .ok (.pointer (some ⟨b, o, none⟩)) w := by
  simp [go_sem]

theorem entA_prefix {w : World} {b o : Nat} {l : List Nat} {x : Nat} (hl : IsID l) (h : HasA w b o (entA l x)) : HasA w b o (peerA l) := fun j hj => by
  have h34 := peerA_size hl
  rw [h j (by rw [entA_size hl]; omega)]
  unfold entA
  rw [Array.getElem?_append_left hj]

/-- The loop's relation. -/
def RelP (ids : List (List Nat)) (n g : Nat) (w : World) (v : Value) (wr : World) : Prop :=
  ∃ k : Nat, k ≤ n ∧ v = .int .i64 k ∧ ∃ cur : Array Value, wr.heap[g]? = some (.cells cur 32 (0, 0)) ∧ cur.size = n * 34 ∧ cur.toList.take (k * 34) = peerCells (ids.take k) ∧ Below g w wr

set_option maxHeartbeats 2000000 in
theorem peers_c (self : List Nat) (ids : List (List Nat)) (hids : AllID ids) (tb n cap : Nat) (ao : Option Addr) (w : World) (hn : n ≤ 32768) (hlen : n = ids.length) (hc : w.cell? ⟨tb, 36, none⟩ = some (.slice ao n cap))
    (hents : 0 < n → ∃ g, ao = some ⟨g, 0, none⟩ ∧ g < w.heap.size ∧ ∀ i, i < n → HasA w g (i * 36) (entA (ids.getD i []) (lead self (ids.getD i [])))) :
    Calls Try.prog 40 #[.pointer (some ⟨tb, 0, none⟩)] w fun e w' => e = .returned (.slice (some ⟨w.heap.size, 0, none⟩) n n) ∧ PeersAt w' w.heap.size n ids ∧ Below w.heap.size w w' := by
  have HL : Hid (n = ids.length) := hlen
  have HID : Hid (AllID ids) := hids
  clear hlen hids
  have htl : tb < w.heap.size := block_lt_of_cell hc
  obtain ⟨i0, z0, hi0, hz0, hsz0, hby0, hzs0⟩ := zero32
  go_enter Try.func40, Try.ntmps40
  go_wp2_with (refine stop_make 36 ?_)
  have hmk := run_make (P := Try.prog) w 36 32 i0 z0 Try.underlying36 hi0 hz0 .i64 .i64 n n (by omega) (Int.le_refl _) (by rw [hby0]; omega) (by omega)
  rw [Int.toNat_natCast, hsz0] at hmk
  refine go_on ?_
  refine lst_val (.slice (some ⟨w.heap.size, 0, none⟩) n n) (exec_make w _ 36 (.tmp 10) (.tmp 10) rfl (.int .i64 n) (.int .i64 n) _ rfl rfl hmk) ?_
  simp only [List.set_cons_succ, List.set_cons_zero]
  have hr0 : RelP ids n w.heap.size w (.int .i64 0) (w.alloc (.cells (madeCells z0.cells (n * 34)) 32)) := ⟨0, by omega, rfl, _, heap_alloc_new w _, size_madeCells _ _, by simp [peerCells], (Below.refl _ _).alloc (Nat.le_refl _) _⟩
  have hc0 : (w.alloc (.cells (madeCells z0.cells (n * 34)) 32)).cell? ⟨tb, 36, none⟩ = some (.slice ao n cap) := by rw [World.cell?_alloc_past _ _ _ htl]; exact hc
  generalize w.alloc (.cells (madeCells z0.cells (n * 34)) 32) = w1 at *
  have HR0 : Hid (RelP ids n w.heap.size w (.int .i64 0) w1) := hr0
  clear hr0 hmk hi0 hz0 hsz0 hby0 hzs0
  have hlt1 : w.heap.size < w1.heap.size := by
    obtain ⟨_, _, _, _, hb, _⟩ := HR0.out
    exact (Array.getElem?_eq_some_iff.1 hb).1
  go_wp2_with fail
  go_loopw [17] (fun v wr => RelP ids n w.heap.size w v wr) (fun v _ => n - (intOf v).toNat)
  case atStart => exact HR0.out
  case round =>
    obtain ⟨k, hk, rfl, cur, hcur, hsz, htk, hbl⟩ := hrel
    have HB : Hid (Below w.heap.size w wr) := hbl
    have HT : Hid (cur.toList.take (k * 34) = peerCells (ids.take k)) := htk
    have HC : Hid (wr.heap[w.heap.size]? = some (.cells cur 32 (0, 0))) := hcur
    have HSZ : Hid (cur.size = n * 34) := hsz
    clear hbl htk hcur hsz
    by_cases hlt : k < n
    · obtain ⟨g, rfl, hglt, hent⟩ := hents (by omega)
      have iik : IsID (ids.getD k []) := HID.out k (by rw [← HL.out]; exact hlt)
      have he : HasA wr g (0 + k * 36) (entA (ids.getD k []) (lead self (ids.getD k []))) := by rw [Nat.zero_add]; exact (hent k hlt).below HB.out hglt
      have hgr : w.heap.size < wr.heap.size := (Array.getElem?_eq_some_iff.1 HC.out).1
      have hlt' : (k : Int) < (n : Int) := by omega
      go_wp2_with (refine stop_idx 61 ?_)
      refine go_on ?_
      refine lst_val _ (exec_idx wr 61 74 36 _ _ rfl g 0 n cap k Try.underlying61 (Try.sizeOf74 _) rfl rfl hlt) ?_
      simp only [List.set_cons_succ, List.set_cons_zero]
      refine lst_val _ (exec_load_at wr 74 _ rfl g (0 + k * 36) rfl _ (Try.isAgg74 _) (by rw [entA_size iik]; exact Try.sizeOf74 _) he) ?_
      simp only [List.set_cons_succ, List.set_cons_zero]
      refine lst_val _ (exec_alloc wr 74 rfl _ (run_zero74 _)) ?_
      simp only [List.set_cons_succ, List.set_cons_zero]
      refine lst_val (.int .i64 (k : Int)) rfl ?_
      simp only [List.set_cons_succ, List.set_cons_zero]
      refine lst_sk (exec_storeA _ 74 _ _ rfl wr.heap.size 0 (entA (ids.getD k []) (lead self (ids.getD k []))) rfl rfl (by rw [entA_size iik]; exact Try.sizeOf74 _) zero74A 74 (heap_alloc_new wr _) (by rw [entA_size iik, zero74A_size]; omega) (entA_one _ _)) ?_
      rw [splice_all _ _ (by rw [entA_size iik, zero74A_size])]
      have h3 : ((wr.alloc (.cells zero74A 74)).setRow wr.heap.size (entA (ids.getD k []) (lead self (ids.getD k [])))).heap[wr.heap.size]? = some (.cells (entA (ids.getD k []) (lead self (ids.getD k []))) 74 (0, 0)) := setRow_heap _ _ _ _ 74 _ (heap_alloc_new wr _)
      have hb3 : Below wr.heap.size wr ((wr.alloc (.cells zero74A 74)).setRow wr.heap.size (entA (ids.getD k []) (lead self (ids.getD k [])))) := below_setRow' ((Below.refl _ _).alloc (Nat.le_refl _) _) (Nat.le_refl _) _
      generalize (wr.alloc (.cells zero74A 74)).setRow wr.heap.size (entA (ids.getD k []) (lead self (ids.getD k []))) = w3 at *
      have hcur3 : w3.heap[w.heap.size]? = some (.cells cur 32 (0, 0)) := (hb3.block _ hgr).trans HC.out
      have HB3 : Hid (Below w.heap.size w w3) := HB.out.trans (hb3.mono (by omega))
      have H3 : Hid (w3.heap[wr.heap.size]? = some (.cells (entA (ids.getD k []) (lead self (ids.getD k []))) 74 (0, 0))) := h3
      have HC3 : Hid (w3.heap[w.heap.size]? = some (.cells cur 32 (0, 0))) := hcur3
      clear hb3 h3 hcur3 he
      go_wp2_with (refine stop_field 74 ?_)
      refine go_on ?_
      refine lst_val _ (exec_field w3 74 _ 0 rfl _ rfl _ (field74_0 w3 _ _)) ?_
      simp only [List.set_cons_succ, List.set_cons_zero]
      refine lst_val _ (exec_load_at w3 32 _ rfl wr.heap.size 0 rfl (peerA (ids.getD k [])) (Try.isAgg32 _) (by rw [peerA_size iik]; exact Try.sizeOf32 _) (entA_prefix iik (HasA.of_block H3.out))) ?_
      simp only [List.set_cons_succ, List.set_cons_zero]
      refine lst_val _ (exec_idx w3 36 32 34 _ _ rfl w.heap.size 0 n n k Try.underlying36 (Try.sizeOf32 _) rfl rfl hlt) ?_
      simp only [List.set_cons_succ, List.set_cons_zero]
      have hfit : 0 + k * 34 + (peerA (ids.getD k [])).size ≤ cur.size := by rw [peerA_size iik, HSZ.out]; omega
      refine lst_sk (exec_storeA w3 32 _ _ rfl w.heap.size (0 + k * 34) (peerA (ids.getD k [])) rfl rfl (by rw [peerA_size iik]; exact Try.sizeOf32 _) cur 32 HC3.out hfit (peerA_one _)) ?_
      have HN : Hid (RelP ids n w.heap.size w (.int .i64 ((k + 1 : Nat) : Int)) (w3.setRow w.heap.size (splice cur (0 + k * 34) (peerA (ids.getD k []))))) := by
        refine ⟨k + 1, by omega, rfl, _, setRow_heap _ _ _ _ 32 _ HC3.out, by rw [splice_size _ _ _ hfit]; exact HSZ.out, ?_, below_setRow' HB3.out (Nat.le_refl _) _⟩
        rw [Nat.zero_add, take_splice cur _ k 34 (peerA_size iik) (by rw [HSZ.out]; omega), HT.out, peerCells_snoc _ _ (by rw [← HL.out]; exact hlt)]
      generalize w3.setRow w.heap.size (splice cur (0 + k * 34) (peerA (ids.getD k []))) = w4 at *
      clear hfit
      go_wp2_with fail
      exact ⟨HN.out, by simp [intOf]; omega⟩
    · go_wp2_with fail
      go_ret
      have hkn : k = n := by omega
      have htk := HT.out
      rw [hkn, List.take_of_length_le (by rw [Array.length_toList, HSZ.out]; omega), List.take_of_length_le (by rw [← HL.out]; omega)] at htk
      refine ⟨rfl, ⟨cur, HC.out, HSZ.out, fun i hi j hj => ?_⟩, HB.out⟩
      rw [peerA_size (HID.out i (by rw [← HL.out]; exact hi))] at hj
      rw [cell_of_row _ _ _ _ 32 (0, 0) HC.out, ← peerCells_get HID.out i j (by rw [← HL.out]; exact hi) hj, ← htk]
      simp

set_option maxHeartbeats 400000 in
theorem zzpeers_c (self : List Nat) (ids : List (List Nat)) (hids : AllID ids) (tb n cap : Nat) (ao : Option Addr) (w : World) (hn : n ≤ 32768) (hlen : n = ids.length) (hc : w.cell? ⟨tb, 36, none⟩ = some (.slice ao n cap))
    (hents : 0 < n → ∃ g, ao = some ⟨g, 0, none⟩ ∧ g < w.heap.size ∧ ∀ i, i < n → HasA w g (i * 36) (entA (ids.getD i []) (lead self (ids.getD i [])))) :
    Calls Try.prog 23 #[.pointer (some ⟨tb, 0, none⟩)] w fun e w' => e = .returned (.slice (some ⟨w.heap.size, 0, none⟩) n n) ∧ PeersAt w' w.heap.size n ids ∧ Below w.heap.size w w' := by
  have hcall := peers_c self ids hids tb n cap ao w hn hlen hc hents
  clear hc hents hids hlen
  go_enter Try.func23, Try.ntmps23
  go_wp2_with fail
  refine hcall.mono ?_
  clear hcall
  rintro e w' ⟨rfl, hp, hb⟩
  have HP : Hid (PeersAt w' w.heap.size n ids) := hp
  have HB : Hid (Below w.heap.size w w') := hb
  clear hp hb
  go_wp2_with fail
  go_ret
  exact ⟨rfl, HP.out, HB.out⟩

end Go.Proofs.Qxb6612853a
