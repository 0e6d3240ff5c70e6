/-
  The law FnBandsMatchCountModel: the walk.
-/
import Derived.Test.Qxb6612853aW2
import Derived.Test.Qxb6612853aW3
import Derived.Test.Qxb6612853aW7
namespace Go.Proofs.Qxb6612853a
open Go.RowKit

/-- An array of ints as cells. -/
def arrI (l : List Int) : Array Value := (l.map (Value.int .i64)).toArray
def zeros (n : Nat) : List Int := List.replicate n 0
theorem arrI_size (l : List Int) : (arrI l).size = l.length := by simp [arrI]
theorem arrI_get (l : List Int) (i : Nat) (h : i < l.length) : (arrI l)[i]? = some (.int .i64 (l.getD i 0)) := by simp [arrI, h, List.getD]
theorem arrI_set (l : List Int) (i : Nat) (x : Int) : (arrI l).setIfInBounds i (.int .i64 x) = arrI (l.set i x) := by simp [arrI]
theorem run_zero46 (w : World) : (zeroValue 46).run Try.prog w = .ok (.agg (arrI (zeros 257))) w := by kernel_rfl

/-- A table over the bands. -/
def tabI (n : Nat) (f : Nat → Nat) : List Int := (List.range n).map fun b => ((f b : Nat) : Int)
theorem tabI_len (n : Nat) (f : Nat → Nat) : (tabI n f).length = n := by simp [tabI]
theorem tabI_get (n : Nat) (f : Nat → Nat) (b : Nat) (h : b < n) : (tabI n f).getD b 0 = ((f b : Nat) : Int) := by simp [tabI, List.getD, h]
theorem tabI_set (n : Nat) (f g : Nat → Nat) (b : Nat) (h : b < n) (hg : ∀ c, c < n → c ≠ b → g c = f c) : (tabI n f).set b ((g b : Nat) : Int) = tabI n g := by
  apply List.ext_getElem?
  intro i
  rw [List.getElem?_set]
  by_cases hi : i < n
  · by_cases e : b = i
    · subst e; simp [tabI, h]
    · rw [if_neg e]; simp [tabI, hi, hg i hi (fun h => e h.symm)]
  · rw [if_neg (by omega)]; simp [tabI, hi]
theorem zeros_tab (n : Nat) : zeros n = tabI n (fun _ => 0) := by
  apply List.ext_getElem?
  intro i
  by_cases hi : i < n <;> simp [zeros, tabI, hi]

theorem blk_cell {w : World} {B : Nat} {n : Nat} {f : Nat → Nat} {t : TypeId} (h : w.heap[B]? = some (.cells (arrI (tabI n f)) t (0, 0))) (b : Nat) (hb : b < n) : w.cell? ⟨B, b, none⟩ = some (.int .i64 ((f b : Nat) : Int)) := by
  rw [cell_of_row w B b _ t (0, 0) h, arrI_get _ _ (by rw [tabI_len]; exact hb), tabI_get _ _ _ hb]

/-- The bands of the ids. -/
def bandsOf (self : List Nat) (ids : List (List Nat)) : List Nat := ids.map (lead self)
theorem bandsOf_len (self : List Nat) (ids : List (List Nat)) : (bandsOf self ids).length = ids.length := by simp [bandsOf]
theorem bandsOf_at (self : List Nat) (ids : List (List Nat)) (i : Nat) (h : i < ids.length) : at0 (bandsOf self ids) i = lead self (ids.getD i []) := by
  simp [at0, bandsOf, List.getD, h]
theorem bandsOf_le {self : List Nat} {ids : List (List Nat)} (hs : IsID self) (hids : AllID ids) (i : Nat) : at0 (bandsOf self ids) i ≤ 256 := by
  by_cases h : i < ids.length
  · rw [bandsOf_at _ _ _ h]; exact lead_le hs (hids i h)
  · simp [at0, List.getD, bandsOf, Nat.le_of_not_lt h]
theorem bandsOf_desc {self : List Nat} {ids : List (List Nat)} (hs : IsID self) (hids : AllID ids) (h : SortedAway self ids) : Desc (bandsOf self ids) := by
  intro i hi
  rw [bandsOf_len] at hi
  rw [bandsOf_at _ _ _ hi, bandsOf_at _ _ _ (by omega)]
  exact nearer_lead hs (hids i (by omega)) (hids (i + 1) hi) (h.2 i hi)
theorem take_snoc0 (bs : List Nat) (k : Nat) (h : k < bs.length) : bs.take (k + 1) = bs.take k ++ [at0 bs k] := by
  rw [List.take_succ_eq_append_getElem h, at0_lt h]

/-- The second loop's relation. -/
def RelM (bs : List Nat) (vb vl ve : Value) : Prop := ∃ c lg le : Nat, c ≤ 257 ∧ vb = .int .i64 ((c : Int) - 1) ∧ vl = .int .i64 lg ∧ ve = .int .i64 le ∧ Hid ((lg, le) = Mk bs (257 - c))

set_option maxHeartbeats 4000000 in
theorem law7 (self : List Nat) (ids : List (List Nat)) (hs : IsID self) (hids : AllID ids) (ao : Option Addr) (cap : Nat) (band : Int) (w : World) (hat : IdsAt w ao ids) :
    Calls Try.prog 7 #[.agg (idA self), .slice ao ids.length cap, .int .i64 band] w fun e w' => e = .returned (.bool true) ∧ Below w.heap.size w w' := by
  obtain ⟨len, hlen'⟩ : ∃ n, n = ids.length := ⟨_, rfl⟩
  rw [← hlen']
  have HL : Hid (len = ids.length) := hlen'
  clear hlen'
  have HID : Hid (AllID ids) := hids
  clear hids
  go_enter Try.func7, Try.ntmps7
  go_wp2_with (refine wpList_ld rfl 22 _ rfl w.heap.size 0 rfl (idA self) (Try.isAgg22 _) (by rw [idA_size, hs.1]; exact Try.sizeOf22 _) (HasA.of_block (heap_alloc_new w _)) ?_)
  obtain ⟨w1, hw1⟩ : ∃ x, x = w.alloc (.cells (idA self) 22) := ⟨_, rfl⟩
  rw [← hw1]
  have hz1 : w1.heap.size = w.heap.size + 1 := by rw [hw1]; simp
  have hself : HasA w1 w.heap.size 0 (idA self) := by rw [hw1]; exact HasA.of_block (heap_alloc_new w _)
  have hbel : Below w.heap.size w w1 := by rw [hw1]; exact (Below.refl _ _).alloc (Nat.le_refl _) _
  have hat1 : IdsAt w1 ao ids := hat.below hbel (Nat.le_refl _)
  clear hw1 hat
  have HZ : Hid (w1.heap.size = w.heap.size + 1) := hz1
  clear hz1
  refine (bytes26_c self ao len cap band w1).mono ?_
  rintro e w2 ⟨rfl, hb2⟩
  have HB2 : Hid (Below w1.heap.size w1 w2) := hb2
  clear hb2
  cases hok : okBytes len with
  | false =>
    go_wp2_with fail
    go_ret
    exact ⟨rfl, hbel.trans (HB2.out.mono (by rw [HZ.out]; omega))⟩
  | true =>
    have hle := okBytes_le hok
    clear hok
    have hle' : ¬ (32768 : Int) < (len : Int) := by omega
    have gs2 : HasA w2 w.heap.size 0 (idA self) := hself.below HB2.out (by rw [HZ.out]; omega)
    go_wp2_with (refine wpList_ld rfl 22 _ rfl w.heap.size 0 rfl (idA self) (Try.isAgg22 _) (by rw [idA_size, hs.1]; exact Try.sizeOf22 _) gs2 ?_)
    have hso := sorted_c self ids hs HID.out ao cap w2 (hat1.below HB2.out (Nat.le_refl _)) (by rw [← HL.out]; omega)
    rw [← HL.out] at hso
    refine hso.mono ?_
    clear hso
    rintro e w3 ⟨rfl, hb3⟩
    have HB3 : Hid (Below w1.heap.size w1 w3) := HB2.out.trans (hb3.mono HB2.out.size)
    clear hb3
    cases hsrt : sortedB self ids with
    | false =>
      go_wp2_with fail
      go_ret
      exact ⟨rfl, hbel.trans (HB3.out.mono (by rw [HZ.out]; omega))⟩
    | true =>
      have HS : Hid (SortedAway self ids) := sortedB_spec hsrt
      clear hsrt
      have gs3 : HasA w3 w.heap.size 0 (idA self) := hself.below HB3.out (by rw [HZ.out]; omega)
      go_wp2_with (refine wpList_ld rfl 22 _ rfl w.heap.size 0 rfl (idA self) (Try.isAgg22 _) (by rw [idA_size, hs.1]; exact Try.sizeOf22 _) gs3 ?_)
      have hbu := build_c self ids hs HID.out ao cap w3 (hat1.below HB3.out (Nat.le_refl _)) (by rw [← HL.out]; omega)
      rw [← HL.out] at hbu
      refine hbu.mono ?_
      clear hbu
      rintro e w4 ⟨base, tb, size, rfl, hbase, hte, hb4⟩
      have HB4 : Hid (Below w1.heap.size w1 w4) := HB3.out.trans (hb4.mono HB3.out.size)
      clear hb4
      obtain ⟨ae, ce, ht, hnc, hents⟩ := hte.ents HID.out HL.out
      clear hte
      obtain ⟨bs, hbs⟩ : ∃ bs, bs = bandsOf self ids := ⟨_, rfl⟩
      have HBS : Hid (bs = bandsOf self ids) := hbs
      clear hbs
      have hcall := zzbands_c tb len ce ae bs band w4 (by omega) (by rw [HBS.out, bandsOf_len]; exact HL.out) (by rw [HBS.out]; exact bandsOf_desc hs HID.out HS.out) (fun i => by rw [HBS.out]; exact bandsOf_le hs HID.out i)
        (ht.cell36 hs) (fun h0 => by
          obtain ⟨g, hg, _, _, hc⟩ := hents h0
          refine ⟨g, hg, fun i hi => ?_⟩
          have hidi := HID.out i (by rw [← HL.out]; exact hi)
          rw [hc i hi 34 (by rw [entA_size hidi]; omega), entA_band hidi, HBS.out, bandsOf_at _ _ _ (by rw [← HL.out]; exact hi)])
      clear ht hnc hents
      go_wp2_with fail
      refine hcall.mono ?_
      clear hcall
      rintro e w5 ⟨rfl, m5, rfl⟩
      have HB5 : Hid (Below w1.heap.size w1 (w4.drewN m5)) := below_dN HB4.out m5
      generalize w4.drewN m5 = w5 at *
      have hz46 := run_zero46
      go_wp2_with fail
      obtain ⟨w6, hw6⟩ : ∃ x, x = (w5.alloc (Obj.cells (arrI (zeros 257)) 46)).alloc (Obj.cells (arrI (zeros 257)) 46) := ⟨_, rfl⟩
      rw [← hw6]
      have hBlt : w1.heap.size ≤ w5.heap.size := HB5.out.size
      have hc6 : w6.heap[w5.heap.size]? = some (.cells (arrI (tabI 257 fun b => (bs.take 0).count b)) 46 (0, 0)) := by rw [hw6, heap_alloc2_old, zeros_tab]; rfl
      have hl6 : w6.heap[w5.heap.size + 1]? = some (.cells (arrI (tabI 257 fun b => lastIx (bs.take 0) b)) 46 (0, 0)) := by rw [hw6, heap_alloc2_new, zeros_tab]; rfl
      have hb6 : Below w1.heap.size w1 w6 := by rw [hw6]; exact (HB5.out.alloc hBlt _).alloc (by simp; omega) _
      have hz6 : w5.heap.size + 1 < w6.heap.size := by rw [hw6]; simp
      obtain ⟨B, hBdef⟩ : ∃ B, B = w5.heap.size := ⟨_, rfl⟩
      rw [← hBdef] at hc6 hl6 hz6 hBlt ⊢
      have HI6 : Hid (w6.heap[B]? = some (.cells (arrI (tabI 257 fun b => (bs.take 0).count b)) 46 (0, 0)) ∧ w6.heap[B + 1]? = some (.cells (arrI (tabI 257 fun b => lastIx (bs.take 0) b)) 46 (0, 0)) ∧ Below w1.heap.size w1 w6 ∧ B + 1 < w6.heap.size) := ⟨hc6, hl6, hb6, hz6⟩
      clear hw6 hBdef hc6 hl6 hb6 hz6 hz46
      go_loopw [13] (fun i wr => ∃ k : Nat, k ≤ len ∧ i = .int .i64 k ∧ Hid (wr.heap[B]? = some (.cells (arrI (tabI 257 fun b => (bs.take k).count b)) 46 (0, 0)) ∧ wr.heap[B + 1]? = some (.cells (arrI (tabI 257 fun b => lastIx (bs.take k) b)) 46 (0, 0)) ∧ Below w1.heap.size w1 wr ∧ B + 1 < wr.heap.size)) (fun i _ => len - (intOf i).toNat)
      case atStart => exact ⟨0, by omega, rfl, HI6.out⟩
      case round =>
        obtain ⟨k, hk, rfl, HI⟩ := hrel
        by_cases hlt : k < len
        · obtain ⟨b, off, rfl, hblt, hcell⟩ := hat1 (by rw [← HL.out]; omega)
          have hlt' : (k : Int) < (len : Int) := by omega
          have gk : HasA w1 b (off + k * 32) (idA (ids.getD k [])) := hcell k (by rw [← HL.out]; exact hlt)
          have iik : IsID (ids.getD k []) := HID.out k (by rw [← HL.out]; exact hlt)
          go_wp2_with fail
          refine wp_region_ord (fun w' => Below w1.heap.size w1 w') [(0, false), (1, false), (2, false), (3, false), (4, false), (5, true), (6, false)] (by kernel_rfl) (by kernel_rfl)
            (fun _ _ _ d _ h => by cases d <;> exact h) (by kernel_rfl) rfl ?_
          have hB : Below w1.heap.size w1 wr.drew := HI.out.2.2.1.drew
          refine ord_val 47 rfl rfl rfl hB (.agg (idA self)) (fun wx hw => exec_load_at wx 22 _ rfl w.heap.size 0 rfl _ (Try.isAgg22 wx) (by rw [idA_size, hs.1]; exact Try.sizeOf22 wx) (hself.below hw (by rw [HZ.out]; omega))) ?_
          simp only [List.set_cons_succ, List.set_cons_zero]
          refine ord_val 48 rfl rfl rfl hB (.slice (some ⟨b, off, none⟩) len cap) (fun _ _ => rfl) ?_
          simp only [List.set_cons_succ, List.set_cons_zero]
          refine ord_val 49 rfl rfl rfl hB (.int .i64 k) (fun _ _ => rfl) ?_
          simp only [List.set_cons_succ, List.set_cons_zero]
          refine ord_val 50 rfl rfl rfl hB (.pointer (some ⟨b, off + k * 32, none⟩)) (fun wx _ => exec_idx wx 23 22 32 _ _ rfl b off len cap k Try.underlying23 (Try.sizeOf22 wx) rfl rfl hlt) ?_
          simp only [List.set_cons_succ, List.set_cons_zero]
          refine ord_val 51 rfl rfl rfl hB (.agg (idA (ids.getD k []))) (fun wx hw => exec_load_at wx 22 _ rfl b _ rfl _ (Try.isAgg22 wx) (by rw [idA_size, iik.1]; exact Try.sizeOf22 wx) (gk.below hw hblt)) ?_
          simp only [List.set_cons_succ, List.set_cons_zero]
          refine ord_call 52 rfl rfl rfl 15 #[.agg (idA self), .agg (idA (ids.getD k []))] (exec_call _ 15 _ _ rfl rfl _ rfl Try.call15) (lead_c self _ hs iik _) ?_
          rintro e w7 ⟨rfl, hb7⟩
          have hB7 : Below w1.heap.size w1 w7 := hB.trans (hb7.mono hB.size)
          refine ⟨_, rfl, hB7, ?_⟩
          simp only [List.set_cons_succ, List.set_cons_zero]
          obtain ⟨x, hx⟩ : ∃ x, x = lead self (ids.getD k []) := ⟨_, rfl⟩
          rw [← hx]
          refine ord_val 14 rfl rfl rfl hB7 (.int .i64 (x : Int)) (fun _ _ => rfl) ?_
          simp only [List.set_cons_succ, List.set_cons_zero]
          refine ord_done ?_
          have hx256 : x ≤ 256 := by rw [hx]; exact lead_le hs iik
          have hxat : at0 bs k = x := by rw [HBS.out, bandsOf_at _ _ _ (by rw [← HL.out]; exact hlt), hx]
          have hsn : bs.take (k + 1) = bs.take k ++ [x] := by rw [take_snoc0 _ _ (by rw [HBS.out, bandsOf_len, ← HL.out]; exact hlt), hxat]
          have hcb : w7.heap[B]? = some (.cells (arrI (tabI 257 fun b => (bs.take k).count b)) 46 (0, 0)) := (hb7.block B (by have := HI.out.2.2.2; show B < wr.heap.size; omega)).trans HI.out.1
          have hlb : w7.heap[B + 1]? = some (.cells (arrI (tabI 257 fun b => lastIx (bs.take k) b)) 46 (0, 0)) := (hb7.block (B + 1) HI.out.2.2.2).trans HI.out.2.1
          have hc1 := blk_cell hcb x (by omega)
          have hf1 : w7.frozen? ⟨B, x, none⟩ = false := frozen_of_row w7 B x _ 46 hcb
          have hlb2 : (w7.setCell ⟨B, x, none⟩ (.int .i64 (((bs.take k).count x : Nat) + 1))).heap[B + 1]? = some (.cells (arrI (tabI 257 fun b => lastIx (bs.take k) b)) 46 (0, 0)) := by rw [heap_setCell_other _ _ _ _ (by simp)]; exact hlb
          have hc2 := blk_cell hlb2 x (by omega)
          have hf2 : (w7.setCell ⟨B, x, none⟩ (.int .i64 (((bs.take k).count x : Nat) + 1))).frozen? ⟨B + 1, x, none⟩ = false := frozen_of_row _ (B + 1) x _ 46 hlb2
          have hcb2 : (w7.setCell ⟨B, x, none⟩ (.int .i64 (((bs.take k).count x : Nat) + 1))).heap[B]? = some (.cells (arrI (tabI 257 fun b => (bs.take (k + 1)).count b)) 46 (0, 0)) := by
            rw [heap_setCell_same _ _ _ _ _ _ hcb, arrI_set]
            have := tabI_set 257 (fun b => (bs.take k).count b) (fun b => (bs.take (k + 1)).count b) x (by omega) (fun c _ hc => by rw [hsn, List.count_append, List.count_singleton]; simp [Ne.symm hc])
            rw [← this]
            have e : (bs.take (k + 1)).count x = (bs.take k).count x + 1 := by rw [hsn, List.count_append, List.count_singleton]; simp
            rw [e]
            rfl
          have hcle : (bs.take k).count x ≤ k := Nat.le_trans List.count_le_length (List.length_take_le _ _)
          generalize hcc : (bs.take k).count x = c at *
          generalize hll : lastIx (bs.take k) x = q at *
          have HR : Hid ((((w7.setCell ⟨B, x, none⟩ (.int .i64 ((c : Nat) + 1))).setCell ⟨B + 1, x, none⟩ (.int .i64 (k : Int))).heap[B]? = some (.cells (arrI (tabI 257 fun b => (bs.take (k + 1)).count b)) 46 (0, 0))) ∧
              (((w7.setCell ⟨B, x, none⟩ (.int .i64 ((c : Nat) + 1))).setCell ⟨B + 1, x, none⟩ (.int .i64 (k : Int))).heap[B + 1]? = some (.cells (arrI (tabI 257 fun b => lastIx (bs.take (k + 1)) b)) 46 (0, 0))) ∧
              Below w1.heap.size w1 ((w7.setCell ⟨B, x, none⟩ (.int .i64 ((c : Nat) + 1))).setCell ⟨B + 1, x, none⟩ (.int .i64 (k : Int))) ∧ B + 1 < ((w7.setCell ⟨B, x, none⟩ (.int .i64 ((c : Nat) + 1))).setCell ⟨B + 1, x, none⟩ (.int .i64 (k : Int))).heap.size) := by
            refine ⟨by rw [heap_setCell_other _ _ _ _ (by simp)]; exact hcb2, ?_, (hB7.setCell (by exact hBlt) _).setCell (by show _ ≤ B + 1; omega) _, by have := hb7.size; have := HI.out.2.2.2; simp only [World.drew] at *; simp [World.setCell]; omega⟩
            rw [heap_setCell_same _ _ _ _ _ _ hlb2, arrI_set]
            have := tabI_set 257 (fun b => lastIx (bs.take k) b) (fun b => lastIx (bs.take (k + 1)) b) x (by omega) (fun c _ hc => by rw [hsn, lastIx_snoc, if_neg (Ne.symm hc)])
            rw [← this]
            have e : lastIx (bs.take (k + 1)) x = k := by rw [hsn, lastIx_snoc, if_pos rfl, List.length_take]; have := HL.out; have : bs.length = len := by rw [HBS.out, bandsOf_len, ← HL.out]
                                                          omega
            rw [e]
          clear hcb hlb hlb2 hcb2 hsn hxat hcc hll hB7 hb7 hB gk iik hcell
          have hx257 : (x : Int) < 257 := by omega
          have HX : Hid (x = lead self (ids.getD k [])) := hx
          clear hx
          go_wp2_with fail
          go_roundw
          case rel => exact ⟨k + 1, by omega, by go_num, HR.out⟩
          case measure => simp [intOf]; omega
        · have hkl : k = len := by omega
          have htk : bs.take k = bs := List.take_of_length_le (by rw [HBS.out, bandsOf_len, ← HL.out]; omega)
          have hbd := HI.out
          rw [htk] at hbd
          obtain ⟨hcb, hlb, hbw, _⟩ := hbd
          have HW : Hid (Below w1.heap.size w1 wr) := hbw
          have HC : Hid (∀ b, b < 257 → wr.cell? ⟨B, b, none⟩ = some (.int .i64 ((bs.count b : Nat) : Int))) := fun b hb => blk_cell hcb b hb
          have HLa : Hid (∀ b, b < 257 → wr.cell? ⟨B + 1, b, none⟩ = some (.int .i64 ((lastIx bs b : Nat) : Int))) := fun b hb => blk_cell hlb b hb
          obtain ⟨own, hown⟩ : ∃ own, own = cntI bs band := ⟨_, rfl⟩
          obtain ⟨fg, hfg⟩ : ∃ fg, fg = (M bs).1 := ⟨_, rfl⟩
          obtain ⟨fe, hfe⟩ : ∃ fe, fe = (M bs).2 := ⟨_, rfl⟩
          rw [← hown, ← hfg, ← hfe]
          have HFG : Hid (fg = (M bs).1) := hfg
          have HFE : Hid (fe = (M bs).2) := hfe
          clear hcb hlb hbw htk hfg hfe HI
          have hcase : (∃ bn : Nat, band = bn ∧ bn < 257 ∧ own = bs.count bn) ∨ (band < 0 ∧ own = 0) ∨ (256 < band ∧ own = 0) := by
            rcases (show band < 0 ∨ 256 < band ∨ (0 ≤ band ∧ band ≤ 256) by omega) with h | h | h
            · exact .inr (.inl ⟨h, by rw [hown, cntI, if_neg (by omega)]⟩)
            · refine .inr (.inr ⟨h, ?_⟩)
              rw [hown, cntI, if_pos (by omega), List.count_eq_zero]
              intro hm
              obtain ⟨i, hi, he⟩ := List.mem_iff_getElem.1 hm
              have h1 := bandsOf_le hs HID.out i
              rw [← HBS.out, at0_lt hi, he] at h1
              omega
            · exact .inl ⟨band.toNat, by omega, by omega, by rw [hown, cntI, if_pos h.1]⟩
          clear hown
          rcases hcase with ⟨bn, rfl, hbn, hown⟩ | ⟨hneg, hown⟩ | ⟨hbig, hown⟩
          all_goals first
            | (have hcc := HC.out bn hbn
               rw [← hown] at hcc
               have hbn' : (bn : Int) ≤ 256 := by omega
               clear hown)
            | subst hown
          all_goals go_wp2_with fail
          all_goals
            go_loop [18, 16, 17] (fun vb vl ve => RelM bs vb vl ve) (fun vb _ _ => (intOf vb + 1).toNat)
            case atStart => exact ⟨257, 0, 0, by omega, vint (by omega), rfl, rfl, rfl⟩
            case round =>
              obtain ⟨c, lg, le, hc, rfl, rfl, rfl, HM⟩ := hrel
              rcases c with _ | c
              · have e0 : (((0 : Nat) : Int) - 1) = -1 := by omega
                rw [e0]
                have h1 : lg = fg := by rw [HFG.out]; exact congrArg Prod.fst HM.out
                have h2 : le = fe := by rw [HFE.out]; exact congrArg Prod.snd HM.out
                clear e0
                subst h1
                subst h2
                go_wp2_with fail
                go_ret
                exact ⟨rfl, hbel.trans (HW.out.mono (by rw [HZ.out]; omega))⟩
              · have e0 : (((c + 1 : Nat) : Int) - 1) = (c : Int) := by omega
                rw [e0]
                clear e0
                have hcc1 := HC.out c (by omega)
                have hll1 := HLa.out c (by omega)
                have hM : Mk bs (257 - c) = stepM bs (lg, le) c := by
                  rw [show 257 - c = (257 - (c + 1)) + 1 by omega, Mk, ← HM.out, show 256 - (257 - (c + 1)) = c by omega]
                have hcl : bs.count c ≤ len := by have h := List.count_le_length (l := bs) (a := c); rw [HBS.out, bandsOf_len, ← HL.out] at h; rw [HBS.out]; exact h
                obtain ⟨ct, hct⟩ : ∃ ct, ct = bs.count c := ⟨_, rfl⟩
                obtain ⟨la, hla⟩ : ∃ la, la = lastIx bs c := ⟨_, rfl⟩
                rw [stepM, ← hct, ← hla] at hM
                rw [← hct] at hcc1 hcl
                rw [← hla] at hll1
                clear hct hla
                have hc257 : (c : Int) < 257 := by omega
                by_cases hgo : 0 < ct ∧ lg ≤ ct
                · rw [if_pos hgo] at hM
                  have HM2 : Hid (Mk bs (257 - c) = (ct, la)) := hM
                  obtain ⟨g1, g2⟩ := hgo
                  clear hM
                  have g1' : (0 : Int) < (ct : Int) := by omega
                  have g2' : (lg : Int) ≤ (ct : Int) := by omega
                  go_wp2_with fail
                  go_round
                  case rel => exact ⟨c, ct, la, by omega, rfl, rfl, rfl, HM2.out.symm⟩
                  case measure => simp [intOf]
                · rw [if_neg hgo] at hM
                  have HM2 : Hid (Mk bs (257 - c) = (lg, le)) := hM
                  clear hM
                  by_cases g1 : 0 < ct
                  · have g2 : decide (lg ≤ ct) = false := by simp; omega
                    have g3 : ¬ lg ≤ ct := by omega
                    clear hgo
                    go_wp2_with fail
                    go_round
                    case rel => exact ⟨c, lg, le, by omega, rfl, rfl, rfl, HM2.out.symm⟩
                    case measure => simp [intOf]
                  · have g3 : decide (0 < ct) = false := by simp; omega
                    clear hgo
                    go_wp2_with fail
                    go_round
                    case rel => exact ⟨c, lg, le, by omega, rfl, rfl, rfl, HM2.out.symm⟩
                    case measure => simp [intOf]
end Go.Proofs.Qxb6612853a
