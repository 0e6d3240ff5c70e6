/-
  The law FnBandsCountsAddUp: the walk.
-/
import Derived.Test.Qxb6612853aL7
import Derived.Test.Qxb6612853aPlain3
namespace Go.Proofs.Qxb6612853a
open Go.RowKit

theorem run_zero47 (w : World) : (zeroValue 47).run Try.prog w = .ok (.agg (arrI (zeros 259))) w := by kernel_rfl
theorem mem_at {bs : List Nat} {y : Nat} (h : y ∈ bs) : ∃ i, i < bs.length ∧ at0 bs i = y := by
  obtain ⟨i, hi, rfl⟩ := List.mem_iff_getElem.1 h
  exact ⟨i, hi, at0_lt hi⟩
theorem bandsOf_255 {self : List Nat} {ids : List (List Nat)} (hs : IsID self) (hids : AllID ids) (h : SortedAway self ids) : ∀ y ∈ bandsOf self ids, y ≤ 255 := by
  intro y hy
  obtain ⟨i, hi, rfl⟩ := mem_at hy
  rw [bandsOf_len] at hi
  rw [bandsOf_at _ _ _ hi]
  have := lead_lt hs (hids i hi) (fun e => h.1 i hi e.symm)
  omega

/-- The first loop's relation. -/
def RelS (bs : List Nat) (B : Nat) (w5 : World) (vb vs : Value) (wr : World) : Prop :=
  ∃ c : Nat, c ≤ 259 ∧ vb = .int .i64 ((c : Int) - 1) ∧ vs = .int .i64 ((sumC bs c : Nat) : Int) ∧ wr.heap[B]? = some (.cells (arrI (tabI 259 fun i => if i < c then cntI bs ((i : Int) - 1) else 0)) 47 (0, 0)) ∧ Below B w5 wr

theorem run_lss {P : Program} (w : World) (t : TypeId) (k : IntKind) (i j : Int) : (binOp .lss t (.int k i) (.int k j)).run P w = .ok (.bool (decide (i < j))) w := by
  simp [binOp, Op.intCmp]
theorem relS_eq {bs : List Nat} {B : Nat} {w5 wr : World} {a s a' s' : Int} (h : RelS bs B w5 (.int .i64 a) (.int .i64 s) wr) (ha : a = a') (hs : s = s') : RelS bs B w5 (.int .i64 a') (.int .i64 s') wr := by
  rw [← ha, ← hs]; exact h

set_option maxRecDepth 20000 in
set_option maxHeartbeats 4000000 in
theorem law8 (self : List Nat) (ids : List (List Nat)) (hs : IsID self) (hids : AllID ids) (ao : Option Addr) (cap : Nat) (w : World) (hat : IdsAt w ao ids) :
    Calls Try.prog 8 #[.agg (idA self), .slice ao ids.length cap] w fun e w' => e = .returned (.bool true) ∧ Below w.heap.size w w' := by
  obtain ⟨len, hlen'⟩ : ∃ n, n = ids.length := ⟨_, rfl⟩
  rw [← hlen']
  have HL : Hid (len = ids.length) := hlen'
  clear hlen'
  have HID : Hid (AllID ids) := hids
  clear hids
  go_enter Try.func8, Try.ntmps8
  go_wp2_with (refine wpList_ld rfl 22 _ rfl w.heap.size 0 rfl (idA self) (Try.isAgg22 _) (by rw [idA_size, hs.1]; exact Try.sizeOf22 _) (HasA.of_block (heap_alloc_new w _)) ?_)
  obtain ⟨w1, hw1⟩ : ∃ x, x = w.alloc (.cells (idA self) 22) := ⟨_, rfl⟩
  rw [← hw1]
  have hz1 : w1.heap.size = w.heap.size + 1 := by rw [hw1]; simp
  have hself : HasA w1 w.heap.size 0 (idA self) := by rw [hw1]; exact HasA.of_block (heap_alloc_new w _)
  have hbel : Below w.heap.size w w1 := by rw [hw1]; exact (Below.refl _ _).alloc (Nat.le_refl _) _
  have hat1 : IdsAt w1 ao ids := hat.below hbel (Nat.le_refl _)
  clear hw1 hat
  have HZ : Hid (w1.heap.size = w.heap.size + 1) := hz1
  clear hz1
  refine (bytes28_c self ao len cap w1).mono ?_
  rintro e w2 ⟨rfl, hb2⟩
  have HB2 : Hid (Below w1.heap.size w1 w2) := hb2
  clear hb2
  cases hok : okBytes len with
  | false =>
    go_wp2_with fail
    go_ret
    exact ⟨rfl, hbel.trans (HB2.out.mono (by rw [HZ.out]; omega))⟩
  | true =>
    have hle := okBytes_le hok
    clear hok
    have hle' : ¬ (32768 : Int) < (len : Int) := by omega
    have gs2 : HasA w2 w.heap.size 0 (idA self) := hself.below HB2.out (by rw [HZ.out]; omega)
    go_wp2_with (refine wpList_ld rfl 22 _ rfl w.heap.size 0 rfl (idA self) (Try.isAgg22 _) (by rw [idA_size, hs.1]; exact Try.sizeOf22 _) gs2 ?_)
    have hso := sorted_c self ids hs HID.out ao cap w2 (hat1.below HB2.out (Nat.le_refl _)) (by rw [← HL.out]; omega)
    rw [← HL.out] at hso
    refine hso.mono ?_
    clear hso
    rintro e w3 ⟨rfl, hb3⟩
    have HB3 : Hid (Below w1.heap.size w1 w3) := HB2.out.trans (hb3.mono HB2.out.size)
    clear hb3
    cases hsrt : sortedB self ids with
    | false =>
      go_wp2_with fail
      go_ret
      exact ⟨rfl, hbel.trans (HB3.out.mono (by rw [HZ.out]; omega))⟩
    | true =>
      have HS : Hid (SortedAway self ids) := sortedB_spec hsrt
      clear hsrt
      have gs3 : HasA w3 w.heap.size 0 (idA self) := hself.below HB3.out (by rw [HZ.out]; omega)
      go_wp2_with (refine wpList_ld rfl 22 _ rfl w.heap.size 0 rfl (idA self) (Try.isAgg22 _) (by rw [idA_size, hs.1]; exact Try.sizeOf22 _) gs3 ?_)
      have hbu := build_c self ids hs HID.out ao cap w3 (hat1.below HB3.out (Nat.le_refl _)) (by rw [← HL.out]; omega)
      rw [← HL.out] at hbu
      refine hbu.mono ?_
      clear hbu
      rintro e w4 ⟨base, tb, size, rfl, hbase, hte, hb4⟩
      have HB4 : Hid (Below w1.heap.size w1 w4) := HB3.out.trans (hb4.mono HB3.out.size)
      clear hb4
      obtain ⟨ae, ce, ht, hnc, hents⟩ := hte.ents HID.out HL.out
      clear hte
      obtain ⟨bs, hbs⟩ : ∃ bs, bs = bandsOf self ids := ⟨_, rfl⟩
      have HBS : Hid (bs = bandsOf self ids) := hbs
      clear hbs
      have h255 : Hid (∀ y ∈ bs, y ≤ 255) := by show ∀ y ∈ bs, y ≤ 255; rw [HBS.out]; exact bandsOf_255 hs HID.out HS.out
      have hcell0 : ∀ wx, Below w4.heap.size w4 wx → ∀ band, Calls Try.prog 27 #[.pointer (some ⟨tb, 0, none⟩), .int .i64 band] wx fun e w' => e = .returned (.tuple #[.int .i64 ((cntI bs band : Nat) : Int), .int .i64 (((M bs).1 : Nat) : Int), .int .i64 (((M bs).2 : Nat) : Int)]) ∧ ∃ m, w' = wx.drewN m := fun wx hwx band =>
        zzbands_c tb len ce ae bs band wx (by omega) (by rw [HBS.out, bandsOf_len]; exact HL.out) (by rw [HBS.out]; exact bandsOf_desc hs HID.out HS.out) (fun i => by rw [HBS.out]; exact bandsOf_le hs HID.out i)
        ((ht.of_block (hwx.block tb ht.lt)).cell36 hs) (fun h0 => by
          obtain ⟨g, hg, _, hglt, hc⟩ := hents h0
          refine ⟨g, hg, fun i hi => ?_⟩
          have hidi := HID.out i (by rw [← HL.out]; exact hi)
          rw [(hc i hi).below hwx hglt 34 (by rw [entA_size hidi]; omega), entA_band hidi, HBS.out, bandsOf_at _ _ _ (by rw [← HL.out]; exact hi)])
      have HCALL : Hid (∀ wx, Below w4.heap.size w4 wx → ∀ band, Calls Try.prog 27 #[.pointer (some ⟨tb, 0, none⟩), .int .i64 band] wx fun e w' => e = .returned (.tuple #[.int .i64 ((cntI bs band : Nat) : Int), .int .i64 (((M bs).1 : Nat) : Int), .int .i64 (((M bs).2 : Nat) : Int)]) ∧ ∃ m, w' = wx.drewN m) := hcell0
      clear ht hnc hents hcell0
      go_wp2_with fail
      refine (HCALL.out w4 (Below.refl _ _) (-1)).mono ?_
      rintro e w5 ⟨rfl, m5, rfl⟩
      have HB5 : Hid (Below w1.heap.size w1 (w4.drewN m5)) := below_dN HB4.out m5
      have HB45 : Hid (Below w4.heap.size w4 (w4.drewN m5)) := below_dN (Below.refl _ _) m5
      have HC5 : Hid (∀ wx, Below (w4.drewN m5).heap.size (w4.drewN m5) wx → ∀ band, Calls Try.prog 27 #[.pointer (some ⟨tb, 0, none⟩), .int .i64 band] wx fun e w' => e = .returned (.tuple #[.int .i64 ((cntI bs band : Nat) : Int), .int .i64 (((M bs).1 : Nat) : Int), .int .i64 (((M bs).2 : Nat) : Int)]) ∧ ∃ m, w' = wx.drewN m) := fun wx hwx => HCALL.out wx (HB45.out.trans hwx)
      clear HCALL HB45
      generalize w4.drewN m5 = w5 at *
      have hz47 := run_zero47
      obtain ⟨fg, hfg⟩ : ∃ fg, fg = (M bs).1 := ⟨_, rfl⟩
      obtain ⟨fe, hfe⟩ : ∃ fe, fe = (M bs).2 := ⟨_, rfl⟩
      rw [← hfg, ← hfe]
      have HFG : Hid (fg = (M bs).1) := hfg
      have HFE : Hid (fe = (M bs).2) := hfe
      rw [← hfg, ← hfe] at HC5
      clear hfg hfe
      go_wp2_with fail
      obtain ⟨w6, hw6⟩ : ∃ x, x = w5.alloc (Obj.cells (arrI (zeros 259)) 47) := ⟨_, rfl⟩
      rw [← hw6]
      have HR6 : Hid (RelS bs w5.heap.size w5 (.int .i64 (-1)) (.int .i64 0) w6) := ⟨0, by omega, vint (by omega), rfl, by
        rw [hw6, heap_alloc_new, zeros_tab]; rfl, by rw [hw6]; exact (Below.refl _ _).alloc (Nat.le_refl _) _⟩
      clear hw6 hz47
      go_loopw [12, 11] (fun vb vs wr => RelS bs w5.heap.size w5 vb vs wr) (fun vb _ _ => (258 - intOf vb).toNat)
      case atStart => exact HR6.out
      case round =>
        obtain ⟨c, hc, rfl, rfl, hblk, hbl⟩ := hrel
        have HBL : Hid (Below w5.heap.size w5 wr) := hbl
        clear hbl
        have hsm : sumC bs c ≤ len := by have h := sumC_le bs (fun y hy => Nat.le_trans (h255.out y hy) (by omega)) c; rwa [HBS.out, bandsOf_len, ← HL.out, ← HBS.out] at h
        by_cases hlt : c < 259
        · obtain ⟨own, hown⟩ : ∃ own, own = cntI bs ((c : Int) - 1) := ⟨_, rfl⟩
          have hof : own ≤ fg := by rw [hown, HFG.out]; exact cntI_le_M bs (fun y hy => Nat.le_trans (h255.out y hy) (by omega)) _
          have hol : own ≤ len := by
            have h := List.count_le_length (l := bs) (a := ((c : Int) - 1).toNat)
            have h2 : bs.length = len := by rw [HBS.out, bandsOf_len, ← HL.out]
            rw [hown]; unfold cntI; split <;> omega
          have hout : (c = 0 ∨ 256 < c) → own = 0 := fun h => by rw [hown]; exact cntI_out bs h255.out _ (by omega)
          have hsum : sumC bs (c + 1) = sumC bs c + own := by rw [sumC, hown]
          generalize sumC bs c = sm at *
          go_wp2_with fail
          refine (HC5.out wr HBL.out _).mono ?_
          rintro e w7 ⟨rfl, m7, rfl⟩
          rw [← hown]
          have hblk7 : (wr.drewN m7).heap[w5.heap.size]? = some (.cells (arrI (tabI 259 fun i => if i < c then cntI bs ((i : Int) - 1) else 0)) 47 (0, 0)) := hblk
          have HB7 : Hid (Below w5.heap.size w5 (wr.drewN m7)) := below_dN HBL.out m7
          generalize wr.drewN m7 = w7 at *
          have hc1 := blk_cell hblk7 c hlt
          have hf1 : w7.frozen? ⟨w5.heap.size, c, none⟩ = false := frozen_of_row w7 _ c _ 47 hblk7
          have HN : Hid (RelS bs w5.heap.size w5 (.int .i64 (((c + 1 : Nat) : Int) - 1)) (.int .i64 ((sm + own : Nat) : Int)) (w7.setCell ⟨w5.heap.size, c, none⟩ (.int .i64 (own : Int)))) := by
            refine ⟨c + 1, by omega, rfl, by rw [hsum], ?_, HB7.out.setCell (by exact Nat.le_refl _) _⟩
            rw [heap_setCell_same _ _ _ _ _ _ hblk7, arrI_set]
            have := tabI_set 259 (fun i => if i < c then cntI bs ((i : Int) - 1) else 0) (fun i => if i < c + 1 then cntI bs ((i : Int) - 1) else 0) c hlt (fun d _ hd => by
              by_cases h : d < c
              · rw [if_pos h, if_pos (by omega)]
              · rw [if_neg h, if_neg (by omega)])
            rw [← this]
            rw [if_pos (by omega), ← hown]
          clear hblk hblk7 hsum hown
          have hof' : (own : Int) ≤ (fg : Int) := by omega
          rcases (show c = 0 ∨ 256 < c ∨ (0 < c ∧ c ≤ 256) by omega) with h | h | h
          · have ho0 := hout (.inl h)
            clear hout
            subst ho0
            subst h
            go_wp2_with fail
            exact ⟨by simpa using HN.out, by simp [intOf]⟩
          · have ho0 := hout (.inr h)
            clear hout
            subst ho0
            have h1 : (255 : Int) < (c : Int) - 1 := by omega
            have h2 : (c : Int) < 259 := by omega
            go_wp2_with fail
            exact ⟨relS_eq HN.out (by omega) (by omega), by simp [intOf]; omega⟩
          · clear hout
            have h1 : (0 : Int) ≤ (c : Int) - 1 := by omega
            have h2 : (c : Int) - 1 ≤ 255 := by omega
            go_wp2_with fail
            exact ⟨relS_eq HN.out (by omega) (by omega), by simp [intOf]; omega⟩
        · have hc259 : c = 259 := by omega
          subst hc259
          have hbl : bs.length = len := by rw [HBS.out, bandsOf_len, ← HL.out]
          have hsl : sumC bs 259 = len := by rw [sumC_all bs (fun y hy => Nat.le_trans (h255.out y hy) (by omega)), hbl]
          rw [hsl]
          have HOW : Hid (∀ i : Nat, i < 258 → wr.cell? ⟨w5.heap.size, i + 1, none⟩ = some (.int .i64 ((bs.count i : Nat) : Int))) := fun i hi => by
            have h := blk_cell hblk (i + 1) (by omega)
            rw [if_pos (by omega)] at h
            rw [h, show (((i + 1 : Nat) : Int) - 1) = (i : Int) by omega, cntI_nat]
          have HBW : Hid (Below w1.heap.size w1 wr) := HB5.out.trans (HBL.out.mono HB5.out.size)
          have HSZ : Hid (w5.heap.size < wr.heap.size) := (Array.getElem?_eq_some_iff.1 hblk).1
          clear hblk hsm hsl hlt hc
          by_cases hn0 : len = 0
          · have hb0 : bs = [] := List.eq_nil_of_length_eq_zero (by omega)
            have hfg0 : fg = 0 := by rw [HFG.out, hb0, M_nil]
            have hfe0 : fe = 0 := by rw [HFE.out, hb0, M_nil]
            clear hbl hb0
            subst hn0
            subst hfg0
            subst hfe0
            go_wp2_with fail
            go_ret
            exact ⟨rfl, hbel.trans (HBW.out.mono (by rw [HZ.out]; omega))⟩
          · obtain ⟨g1, g2, g3, g4, g5⟩ := M_spec bs (fun y hy => Nat.le_trans (h255.out y hy) (by omega)) (by omega)
            rw [← HFG.out] at g1 g3 g5
            rw [← HFE.out] at g2 g3 g4 g5
            rw [hbl] at g2 g4
            obtain ⟨x, hx⟩ : ∃ x, x = at0 bs fe := ⟨_, rfl⟩
            rw [← hx] at g3 g4 g5
            have hx255 : x ≤ 255 := by rw [hx, at0_lt (by omega)]; exact h255.out _ (List.getElem_mem _)
            have HXA : Hid (x = at0 bs fe) := hx
            have G3 : Hid (bs.count x = fg) := g3
            have G4 : Hid (fe + 1 < len → at0 bs (fe + 1) ≠ x) := g4
            have G5 : Hid (∀ b, b < x → bs.count b ≠ fg) := g5
            clear hx g3 g4 g5 hbl
            obtain ⟨b, off, rfl, hblt, hcell⟩ := hat1 (by rw [← HL.out]; omega)
            have hfel : fe < len := g2
            have ge : HasA w1 b (off + fe * 32) (idA (ids.getD fe [])) := hcell fe (by rw [← HL.out]; exact hfel)
            have iie : IsID (ids.getD fe []) := HID.out fe (by rw [← HL.out]; exact hfel)
            have hlx : lead self (ids.getD fe []) = x := by rw [HXA.out, HBS.out, bandsOf_at _ _ _ (by rw [← HL.out]; exact hfel)]
            have hn0' : ((len : Int) == 0) = false := by simp; omega
            have hg1' : ¬ (fg : Int) < 1 := by omega
            have hfe' : ¬ (len : Int) ≤ (fe : Int) := by omega
            clear hn0
            go_wp2_with fail
            refine wp_region_ord (fun w' => Below w1.heap.size w1 w') [(0, false), (1, false), (2, false), (3, false), (4, false), (5, true), (6, false)] (by kernel_rfl) (by kernel_rfl)
              (fun _ _ _ d _ h => by cases d <;> exact h) (by kernel_rfl) rfl ?_
            have hB : Below w1.heap.size w1 wr.drew := HBW.out.drew
            refine ord_val 107 rfl rfl rfl hB (.agg (idA self)) (fun wx hw => exec_load_at wx 22 _ rfl w.heap.size 0 rfl _ (Try.isAgg22 wx) (by rw [idA_size, hs.1]; exact Try.sizeOf22 wx) (hself.below hw (by rw [HZ.out]; omega))) ?_
            simp only [List.set_cons_succ, List.set_cons_zero]
            refine ord_val 108 rfl rfl rfl hB (.slice (some ⟨b, off, none⟩) len cap) (fun _ _ => rfl) ?_
            simp only [List.set_cons_succ, List.set_cons_zero]
            refine ord_val 109 rfl rfl rfl hB (.int .i64 fe) (fun _ _ => rfl) ?_
            simp only [List.set_cons_succ, List.set_cons_zero]
            refine ord_val 110 rfl rfl rfl hB (.pointer (some ⟨b, off + fe * 32, none⟩)) (fun wx _ => exec_idx wx 23 22 32 _ _ rfl b off len cap fe Try.underlying23 (Try.sizeOf22 wx) rfl rfl hfel) ?_
            simp only [List.set_cons_succ, List.set_cons_zero]
            refine ord_val 111 rfl rfl rfl hB (.agg (idA (ids.getD fe []))) (fun wx hw => exec_load_at wx 22 _ rfl b _ rfl _ (Try.isAgg22 wx) (by rw [idA_size, iie.1]; exact Try.sizeOf22 wx) (ge.below hw hblt)) ?_
            simp only [List.set_cons_succ, List.set_cons_zero]
            refine ord_call 112 rfl rfl rfl 15 #[.agg (idA self), .agg (idA (ids.getD fe []))] (exec_call _ 15 _ _ rfl rfl _ rfl Try.call15) (lead_c self _ hs iie _) ?_
            rintro e w7 ⟨rfl, hb7⟩
            have hB7 : Below w1.heap.size w1 w7 := hB.trans (hb7.mono hB.size)
            refine ⟨_, rfl, hB7, ?_⟩
            simp only [List.set_cons_succ, List.set_cons_zero]
            rw [hlx]
            refine ord_val 16 rfl rfl rfl hB7 (.int .i64 (x : Int)) (fun _ _ => rfl) ?_
            simp only [List.set_cons_succ, List.set_cons_zero]
            refine ord_done ?_
            have HOW7 : Hid (∀ i : Nat, i < 258 → w7.cell? ⟨w5.heap.size, i + 1, none⟩ = some (.int .i64 ((bs.count i : Nat) : Int))) := fun i hi => (hb7.cell (p := ⟨w5.heap.size, i + 1, none⟩) (by exact HSZ.out)).trans (HOW.out i hi)
            have HSZ7 : Hid (w5.heap.size < w7.heap.size) := Nat.lt_of_lt_of_le HSZ.out hb7.size
            have HB7 : Hid (Below w1.heap.size w1 w7) := hB7
            clear hB hB7 hb7 hlx
            have hcx := HOW7.out x (by omega)
            rw [G3.out] at hcx
            have hx257 : (x : Int) + 1 < 259 := by omega
            go_wp2_with fail
            refine wp_region_ord (fun w' => Below w1.heap.size w1 w') [(0, false), (1, false), (2, false), (3, false), (4, false), (5, false), (6, false), (7, false), (8, false), (9, false), (10, false), (12, false), (11, true), (13, false), (14, false)] (by kernel_rfl) (by kernel_rfl)
              (fun _ _ _ d _ h => by cases d <;> exact h) (by kernel_rfl) rfl ?_
            have hB8 : Below w1.heap.size w1 w7.drew := HB7.out.drew
            refine ord_val 119 rfl rfl rfl hB8 (.int .i64 fe) (fun _ _ => rfl) ?_
            simp only [List.set_cons_succ, List.set_cons_zero]
            refine ord_val 120 rfl rfl rfl hB8 (.int .i64 ((fe + 1 : Nat) : Int)) (fun wx _ => exec_bin wx .add 3 3 _ _ rfl .i64 fe (.int .i64 1) _ rfl rfl (by rw [run_addi _ _ _ _ (by omega) (by omega)]; congr 2)) ?_
            simp only [List.set_cons_succ, List.set_cons_zero]
            refine ord_val 121 rfl rfl rfl hB8 (.int .i64 len) (fun _ _ => rfl) ?_
            simp only [List.set_cons_succ, List.set_cons_zero]
            by_cases hf1 : fe + 1 < len
            · have ge1 : HasA w1 b (off + (fe + 1) * 32) (idA (ids.getD (fe + 1) [])) := hcell (fe + 1) (by rw [← HL.out]; exact hf1)
              have iie1 : IsID (ids.getD (fe + 1) []) := HID.out (fe + 1) (by rw [← HL.out]; exact hf1)
              refine ord_val 122 rfl rfl rfl hB8 (.bool true) (fun wx _ => exec_bin wx .lss 3 3 _ _ rfl .i64 _ (.int .i64 len) _ rfl rfl (by rw [run_lss, decide_eq_true (by omega)])) ?_
              simp only [List.set_cons_succ, List.set_cons_zero]
              refine ord_val 123 rfl rfl rfl hB8 (.bool true) (fun _ _ => rfl) ?_
              simp only [List.set_cons_succ, List.set_cons_zero]
              refine ord_val 124 rfl rfl rfl hB8 (.agg (idA self)) (fun wx hw => exec_load_at wx 22 _ rfl w.heap.size 0 rfl _ (Try.isAgg22 wx) (by rw [idA_size, hs.1]; exact Try.sizeOf22 wx) (hself.below hw (by rw [HZ.out]; omega))) ?_
              simp only [List.set_cons_succ, List.set_cons_zero]
              refine ord_val 125 rfl rfl rfl hB8 (.slice (some ⟨b, off, none⟩) len cap) (fun _ _ => rfl) ?_
              simp only [List.set_cons_succ, List.set_cons_zero]
              refine ord_val 126 rfl rfl rfl hB8 (.int .i64 fe) (fun _ _ => rfl) ?_
              simp only [List.set_cons_succ, List.set_cons_zero]
              refine ord_val 127 rfl rfl rfl hB8 (.int .i64 ((fe + 1 : Nat) : Int)) (fun wx _ => exec_bin wx .add 3 3 _ _ rfl .i64 fe (.int .i64 1) _ rfl rfl (by rw [run_addi _ _ _ _ (by omega) (by omega)]; congr 2)) ?_
              simp only [List.set_cons_succ, List.set_cons_zero]
              refine ord_val 128 rfl rfl rfl hB8 (.pointer (some ⟨b, off + (fe + 1) * 32, none⟩)) (fun wx _ => exec_idx wx 23 22 32 _ _ rfl b off len cap (fe + 1) Try.underlying23 (Try.sizeOf22 wx) rfl rfl hf1) ?_
              simp only [List.set_cons_succ, List.set_cons_zero]
              refine ord_val 129 rfl rfl rfl hB8 (.agg (idA (ids.getD (fe + 1) []))) (fun wx hw => exec_load_at wx 22 _ rfl b _ rfl _ (Try.isAgg22 wx) (by rw [idA_size, iie1.1]; exact Try.sizeOf22 wx) (ge1.below hw hblt)) ?_
              simp only [List.set_cons_succ, List.set_cons_zero]
              refine ord_val 131 rfl rfl rfl hB8 (.int .i64 (x : Int)) (fun _ _ => rfl) ?_
              simp only [List.set_cons_succ, List.set_cons_zero]
              refine ord_call 130 rfl rfl rfl 15 #[.agg (idA self), .agg (idA (ids.getD (fe + 1) []))] (exec_call _ 15 _ _ rfl rfl _ rfl Try.call15) (lead_c self _ hs iie1 _) ?_
              rintro e w8 ⟨rfl, hb8⟩
              have hB9 : Below w1.heap.size w1 w8 := hB8.trans (hb8.mono hB8.size)
              have hne : lead self (ids.getD (fe + 1) []) ≠ x := by
                have h := G4.out hf1
                rwa [HBS.out, bandsOf_at _ _ _ (by rw [← HL.out]; exact hf1)] at h
              generalize lead self (ids.getD (fe + 1) []) = y at *
              refine ⟨_, rfl, hB9, ?_⟩
              simp only [List.set_cons_succ, List.set_cons_zero]
              refine ord_val 132 rfl rfl rfl hB9 (.bool false) (fun wx _ => exec_bin wx .eql 3 3 _ _ rfl .i64 _ (.int .i64 x) _ rfl rfl (by rw [run_eqi, show ((y : Int) == (x : Int)) = false from by simp; omega])) ?_
              simp only [List.set_cons_succ, List.set_cons_zero]
              refine ord_val 133 rfl rfl rfl hB9 (.bool false) (fun wx _ => exec_pick wx _ _ _ rfl true rfl _ rfl) ?_
              simp only [List.set_cons_succ, List.set_cons_zero]
              refine ord_done ?_
              have HOW8 : Hid (∀ i : Nat, i < 258 → w8.cell? ⟨w5.heap.size, i + 1, none⟩ = some (.int .i64 ((bs.count i : Nat) : Int))) := fun i hi => (hb8.cell (p := ⟨w5.heap.size, i + 1, none⟩) (by exact HSZ7.out)).trans (HOW7.out i hi)
              have HB8 : Hid (Below w1.heap.size w1 w8) := hB9
              clear hB8 hB9 hb8 hne
              go_wp2_with fail
              go_loop [17] (fun v => ∃ k : Nat, k ≤ x ∧ v = .int .i64 k) (fun v => x - (intOf v).toNat)
              case atStart => exact ⟨0, by omega, rfl⟩
              case round =>
                obtain ⟨k, hk, rfl⟩ := hrel
                by_cases hkx : k < x
                · have hck := HOW8.out k (by omega)
                  have hne := G5.out k hkx
                  obtain ⟨ct, hct⟩ : ∃ ct, ct = bs.count k := ⟨_, rfl⟩
                  rw [← hct] at hck hne
                  clear hct
                  have hbe : ((ct : Int) == (fg : Int)) = false := by simp; omega
                  have hk257 : (k : Int) + 1 < 259 := by omega
                  clear hne
                  go_wp2_with fail
                  go_round
                  case rel => exact ⟨k + 1, by omega, by go_num⟩
                  case measure => simp [intOf]; omega
                · go_wp2_with fail
                  go_ret
                  exact ⟨rfl, hbel.trans (HB8.out.mono (by rw [HZ.out]; omega))⟩
            · skip
              refine ord_val 122 rfl rfl rfl hB8 (.bool false) (fun wx _ => exec_bin wx .lss 3 3 _ _ rfl .i64 _ (.int .i64 len) _ rfl rfl (by rw [run_lss, decide_eq_false (by omega)])) ?_
              simp only [List.set_cons_succ, List.set_cons_zero]
              refine ord_val 123 rfl rfl rfl hB8 (.bool false) (fun _ _ => rfl) ?_
              simp only [List.set_cons_succ, List.set_cons_zero]
              refine ord_skip 124 rfl rfl rfl hB8 ?_
              simp only [List.set_cons_succ, List.set_cons_zero]
              refine ord_skip 125 rfl rfl rfl hB8 ?_
              simp only [List.set_cons_succ, List.set_cons_zero]
              refine ord_skip 126 rfl rfl rfl hB8 ?_
              simp only [List.set_cons_succ, List.set_cons_zero]
              refine ord_skip 127 rfl rfl rfl hB8 ?_
              simp only [List.set_cons_succ, List.set_cons_zero]
              refine ord_skip 128 rfl rfl rfl hB8 ?_
              simp only [List.set_cons_succ, List.set_cons_zero]
              refine ord_skip 129 rfl rfl rfl hB8 ?_
              simp only [List.set_cons_succ, List.set_cons_zero]
              refine ord_skip 131 rfl rfl rfl hB8 ?_
              simp only [List.set_cons_succ, List.set_cons_zero]
              refine ord_eff_skip 130 rfl rfl rfl hB8 ?_
              simp only [List.set_cons_succ, List.set_cons_zero]
              refine ord_skip 132 rfl rfl rfl hB8 ?_
              simp only [List.set_cons_succ, List.set_cons_zero]
              refine ord_val 133 rfl rfl rfl hB8 (.bool false) (fun wx _ => exec_pick wx _ _ _ rfl false rfl _ rfl) ?_
              simp only [List.set_cons_succ, List.set_cons_zero]
              refine ord_done ?_
              have HOW8 : Hid (∀ i : Nat, i < 258 → w7.drew.cell? ⟨w5.heap.size, i + 1, none⟩ = some (.int .i64 ((bs.count i : Nat) : Int))) := HOW7.out
              have HB8 : Hid (Below w1.heap.size w1 w7.drew) := hB8
              clear hB8
              go_wp2_with fail
              go_loop [17] (fun v => ∃ k : Nat, k ≤ x ∧ v = .int .i64 k) (fun v => x - (intOf v).toNat)
              case atStart => exact ⟨0, by omega, rfl⟩
              case round =>
                obtain ⟨k, hk, rfl⟩ := hrel
                by_cases hkx : k < x
                · have hck := HOW8.out k (by omega)
                  have hne := G5.out k hkx
                  obtain ⟨ct, hct⟩ : ∃ ct, ct = bs.count k := ⟨_, rfl⟩
                  rw [← hct] at hck hne
                  clear hct
                  have hbe : ((ct : Int) == (fg : Int)) = false := by simp; omega
                  have hk257 : (k : Int) + 1 < 259 := by omega
                  clear hne
                  go_wp2_with fail
                  go_round
                  case rel => exact ⟨k + 1, by omega, by go_num⟩
                  case measure => simp [intOf]; omega
                · go_wp2_with fail
                  go_ret
                  exact ⟨rfl, hbel.trans (HB8.out.mono (by rw [HZ.out]; omega))⟩
end Go.Proofs.Qxb6612853a
