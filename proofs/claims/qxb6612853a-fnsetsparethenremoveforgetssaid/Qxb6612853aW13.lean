/-
  zzLatestPerBand: the walk.
-/
import Derived.Test.Qxb6612853aPlain4
namespace Go.Proofs.Qxb6612853a
open Go.RowKit

/-- A table of ints over the bands. -/
def tabZ (n : Nat) (f : Nat → Int) : List Int := (List.range n).map f
theorem tabZ_len (n : Nat) (f : Nat → Int) : (tabZ n f).length = n := by simp [tabZ]
theorem tabZ_get (n : Nat) (f : Nat → Int) (b : Nat) (h : b < n) : (tabZ n f).getD b 0 = f b := by simp [tabZ, List.getD, h]
theorem tabZ_set (n : Nat) (f g : Nat → Int) (b : Nat) (h : b < n) (v : Int) (hv : g b = v) (hg : ∀ c, c < n → c ≠ b → g c = f c) : (tabZ n f).set b v = tabZ n g := by
  subst hv
  apply List.ext_getElem?
  intro i
  rw [List.getElem?_set]
  by_cases hi : i < n
  · by_cases e : b = i
    · subst e; simp [tabZ, h]
    · rw [if_neg e]; simp [tabZ, hi, hg i hi (fun h => e h.symm)]
  · rw [if_neg (by omega)]; simp [tabZ, hi]
theorem zeros_tabZ (n : Nat) : zeros n = tabZ n (fun _ => 0) := by
  apply List.ext_getElem?
  intro i
  by_cases hi : i < n <;> simp [zeros, tabZ, hi]

/-- A block that is a table of the bands. -/
def TabAt (w : World) (B : Nat) (f : Nat → Int) : Prop := w.heap[B]? = some (.cells (arrI (tabZ 257 f)) 46 (0, 0))
theorem TabAt.cell {w : World} {B : Nat} {f : Nat → Int} (h : TabAt w B f) (b : Nat) (hb : b < 257) : w.cell? ⟨B, b, none⟩ = some (.int .i64 (f b)) := by
  rw [cell_of_row w B b _ 46 (0, 0) h, arrI_get _ _ (by rw [tabZ_len]; exact hb), tabZ_get _ _ _ hb]
theorem TabAt.frozen {w : World} {B : Nat} {f : Nat → Int} (h : TabAt w B f) (b : Nat) : w.frozen? ⟨B, b, none⟩ = false := frozen_of_row w B b _ 46 h
theorem TabAt.set {w : World} {B : Nat} {f : Nat → Int} (h : TabAt w B f) (g : Nat → Int) (b : Nat) (hb : b < 257) (v : Int) (hv : g b = v) (hg : ∀ c, c < 257 → c ≠ b → g c = f c) : TabAt (w.setCell ⟨B, b, none⟩ (.int .i64 v)) B g := by
  unfold TabAt
  rw [heap_setCell_same _ _ _ _ _ _ h, arrI_set, tabZ_set 257 f g b hb v hv hg]
theorem TabAt.other {w : World} {B C : Nat} {f : Nat → Int} (h : TabAt w B f) (hne : C ≠ B) (b : Nat) (v : Value) : TabAt (w.setCell ⟨C, b, none⟩ v) B f := by
  unfold TabAt
  rw [heap_setCell_other _ _ _ _ (by simpa using hne.symm)]
  exact h
theorem TabAt.below {w w' : World} {B K : Nat} {f : Nat → Int} (h : TabAt w B f) (hb : Below K w w') (hK : B < K) : TabAt w' B f := (hb.block B hK).trans h
theorem TabAt.lt {w : World} {B : Nat} {f : Nat → Int} (h : TabAt w B f) : B < w.heap.size := (Array.getElem?_eq_some_iff.1 h).1
theorem TabAt.eq {w : World} {B : Nat} {f g : Nat → Int} (h : TabAt w B f) (e : ∀ b, b < 257 → f b = g b) : TabAt w B g := by
  unfold TabAt
  rw [show w.heap[B]? = _ from h]
  have : tabZ 257 f = tabZ 257 g := List.map_congr_left fun b hb => e b (by simpa using hb)
  rw [this]

theorem zero22 : ∃ i z, Try.prog.info? 22 = some i ∧ i.zero = some z ∧ i.size = 32 ∧ i.bytes = 32 ∧ z.cells.size = 32 := ⟨_, _, rfl, rfl, rfl, rfl, rfl⟩
theorem run_buildSlice23 (w : World) (l : List Nat) (hl : IsID l) : (Instr.buildSlice 23 1 #[(0, .agg (idA l))]).run Try.prog w = .ok (.slice (some ⟨w.heap.size, 0, none⟩) 1 1) (w.alloc (.cells (idA l) 22)) := by
  have hs : (idA l).size = 32 := by rw [idA_size]; exact hl.1
  simp [Instr.buildSlice]
  generalize hz : Array.map _ (Array.range 32) = Z
  have hZ : Z.size = 32 := by rw [← hz]; simp
  rw [fill_step _ _ 0 (.agg (idA l)) [] 0 32 rfl hs (by omega), fill_nil]
  have e : splice Z 0 (Value.agg (idA l)).cells = idA l := by
    simp [splice, Value.cells, hs]
    rw [List.drop_of_length_le (by simp [hZ])]
    simp
  rw [e]
  simp [newRow]


/-- The cells of a row of identities. -/
def idCells (ids : List (List Nat)) : List Value := ids.flatMap fun l => (idA l).toList
theorem idA_one (l : List Nat) : ∀ u ∈ (idA l).toList, u.oneCell' = true := fun u hu => by
  simp [idA] at hu
  obtain ⟨x, _, rfl⟩ := hu
  rfl

theorem gath_id {self : List Nat} {ids : List (List Nat)} (hids : AllID ids) (k : Nat) (hk : k ≤ ids.length) : AllID (gathK self ids k) := by
  rw [allID_iff]
  intro x hx
  unfold gathK at hx
  rw [List.mem_map] at hx
  obtain ⟨i, hi, rfl⟩ := hx
  have hb := bandsOf_len self ids
  have h1 := at_mem_take (bandsOf self ids) i (bandsOf self ids).length (by have := ((firsts_mem _ _ _).1 hi).1; omega) (Nat.le_refl _)
  have h2 := lastIx_spec (bandsOf self ids) _ (bandsOf self ids).length (Nat.le_refl _) h1
  rw [List.take_length] at h2
  exact hids _ (by omega)

theorem own_mono {w : World} {base base' e size : Nat} {v : Value} {n : Nat} {xs : List Value} (ho : w.ownsRow base e size v n xs) (hb : base' ≤ base) : w.ownsRow base' e size v n xs := by
  refine ⟨ho.1, ?_⟩
  rcases ho.2 with h | ⟨g, cap, cur, rfl, hbg, r⟩
  · exact .inl h
  · exact .inr ⟨g, cap, cur, rfl, by omega, r⟩

/-- The loops' relations. -/
def Rel1 (B : Nat) (w1 : World) (v : Value) (wr : World) : Prop := ∃ c : Nat, c ≤ 257 ∧ v = .int .i64 c ∧ TabAt wr B (fun b => if b < c then -1 else 0) ∧ TabAt wr (B + 1) (fun _ => 0) ∧ Below B w1 wr
def Rel2 (bs : List Nat) (len B : Nat) (w1 : World) (v : Value) (wr : World) : Prop := ∃ k : Nat, k ≤ len ∧ v = .int .i64 k ∧ TabAt wr B (fun b => firstF bs b k) ∧ TabAt wr (B + 1) (fun b => ((lastIx (bs.take k) b : Nat) : Int)) ∧ Below B w1 wr
def Rel3 (self : List Nat) (ids : List (List Nat)) (len K : Nat) (w5 : World) (v u : Value) (wr : World) : Prop :=
  ∃ k : Nat, k ≤ len ∧ u = .int .i64 k ∧ wr.ownsRow K 22 32 v (gathK self ids k).length (idCells (gathK self ids k)) ∧ Below K w5 wr

set_option maxRecDepth 20000 in
set_option maxHeartbeats 4000000 in
theorem latest_c (self : List Nat) (ids : List (List Nat)) (hs : IsID self) (hids : AllID ids) (ao : Option Addr) (cap : Nat) (w : World) (hat : IdsAt w ao ids) (hn : ids.length ≤ 32768) :
    Calls Try.prog 17 #[.agg (idA self), .slice ao ids.length cap] w fun e w' => ∃ v, e = .returned v ∧ w'.ownsRow w.heap.size 22 32 v (gathK self ids ids.length).length (idCells (gathK self ids ids.length)) ∧ Below w.heap.size w w' := by
  obtain ⟨len, hlen'⟩ : ∃ n, n = ids.length := ⟨_, rfl⟩
  rw [← hlen'] at hn ⊢
  have HL : Hid (len = ids.length) := hlen'
  clear hlen'
  have HID : Hid (AllID ids) := hids
  clear hids
  have hz46 := run_zero46
  go_enter Try.func17, Try.ntmps17
  go_wp2_with fail
  obtain ⟨w1, hw1⟩ : ∃ x, x = w.alloc (.cells (idA self) 22) := ⟨_, rfl⟩
  rw [← hw1]
  have hz1 : w1.heap.size = w.heap.size + 1 := by rw [hw1]; simp
  have hself : HasA w1 w.heap.size 0 (idA self) := by rw [hw1]; exact HasA.of_block (heap_alloc_new w _)
  have hbel : Below w.heap.size w w1 := by rw [hw1]; exact (Below.refl _ _).alloc (Nat.le_refl _) _
  have hat1 : IdsAt w1 ao ids := hat.below hbel (Nat.le_refl _)
  have hrel0 : Rel1 w1.heap.size w1 (.int .i64 0) ((w1.alloc (Obj.cells (arrI (zeros 257)) 46)).alloc (Obj.cells (arrI (zeros 257)) 46)) := by
    refine ⟨0, by omega, rfl, ?_, ?_, ((Below.refl _ _).alloc (Nat.le_refl _) _).alloc (by simp) _⟩
    · unfold TabAt; rw [heap_alloc2_old, zeros_tabZ]; simp
    · unfold TabAt; rw [heap_alloc2_new, zeros_tabZ]
  clear hw1 hat hz46
  have HR0 : Hid (Rel1 w1.heap.size w1 (.int .i64 0) ((w1.alloc (Obj.cells (arrI (zeros 257)) 46)).alloc (Obj.cells (arrI (zeros 257)) 46))) := hrel0
  clear hrel0
  generalize (w1.alloc (Obj.cells (arrI (zeros 257)) 46)).alloc (Obj.cells (arrI (zeros 257)) 46) = w2 at *
  obtain ⟨B, hBe⟩ : ∃ B, B = w.heap.size + 1 := ⟨_, rfl⟩
  rw [hz1, ← hBe] at HR0
  rw [← hBe]
  have HBE : Hid (B = w1.heap.size) := hBe.trans hz1.symm
  clear hBe
  obtain ⟨bs, hbs⟩ : ∃ bs, bs = bandsOf self ids := ⟨_, rfl⟩
  have HBS : Hid (bs = bandsOf self ids) := hbs
  clear hbs
  have HBLEN : Hid (bs.length = len) := by show bs.length = len; rw [HBS.out, bandsOf_len, ← HL.out]
  go_loopw [7] (fun v wr => Rel1 B w1 v wr) (fun v _ => 257 - (intOf v).toNat)
  case atStart => exact HR0.out
  case round =>
    obtain ⟨c, hc, rfl, hT1, hT2, hbl⟩ := hrel
    by_cases hlt : c < 257
    · have hlt' : (c : Int) < 257 := by omega
      have hcell := hT1.cell c hlt
      simp only [Nat.lt_irrefl, if_false] at hcell
      have hfr := hT1.frozen c
      have HR : Hid (Rel1 B w1 (.int .i64 ((c + 1 : Nat) : Int)) (wr.setCell ⟨B, c, none⟩ (.int .i64 (-1)))) := by
        refine ⟨c + 1, by omega, rfl, hT1.set _ c hlt (-1) (by simp) (fun d _ hd => ?_), hT2.other (by omega) _ _, hbl.setCell (Nat.le_refl _) _⟩
        by_cases e : d < c
        · rw [if_pos e, if_pos (by omega)]
        · rw [if_neg e, if_neg (by omega)]
      clear hT1 hT2 hbl
      go_wp2_with fail
      refine ⟨HR.out, ?_⟩
      simp [intOf]; omega
    · have hc257 : c = 257 := by omega
      subst hc257
      have HR1 : Hid (Rel2 bs len B w1 (.int .i64 0) wr) := ⟨0, by omega, rfl, hT1.eq (fun b hb => by simp [hb, firstF]), hT2.eq (fun b hb => by simp [lastIx, lastFrom]), hbl⟩
      clear hT1 hT2 hbl HR0 hlt hc
      go_wp2_with fail
      go_loopw [8] (fun v wr => Rel2 bs len B w1 v wr) (fun v _ => len - (intOf v).toNat)
      case atStart => exact HR1.out
      case round =>
        clear HR1
        obtain ⟨k, hk, rfl, hT1, hT2, hbl⟩ := hrel
        by_cases hlt : k < len
        · obtain ⟨b, off, rfl, hblt, hcell⟩ := hat1 (by rw [← HL.out]; omega)
          have hlt' : (k : Int) < (len : Int) := by omega
          have gk : HasA w1 b (off + k * 32) (idA (ids.getD k [])) := hcell k (by rw [← HL.out]; exact hlt)
          have iik : IsID (ids.getD k []) := HID.out k (by rw [← HL.out]; exact hlt)
          have HT1 : Hid (TabAt wr B (fun b => firstF bs b k)) := hT1
          have HT2 : Hid (TabAt wr (B + 1) (fun b => ((lastIx (bs.take k) b : Nat) : Int))) := hT2
          have HB : Hid (Below B w1 wr) := hbl
          clear hT1 hT2 hbl hcell
          go_wp2_with fail
          refine wp_region_ord (fun w' => Below w1.heap.size w1 w') [(0, false), (1, false), (2, false), (3, false), (4, false), (5, true), (6, false)] (by kernel_rfl) (by kernel_rfl)
            (fun _ _ _ d _ h => by cases d <;> exact h) (by kernel_rfl) rfl ?_
          have hB : Below w1.heap.size w1 wr.drew := by rw [← HBE.out]; exact HB.out.drew
          refine ord_val 25 rfl rfl rfl hB (.agg (idA self)) (fun wx hw => exec_load_at wx 22 _ rfl w.heap.size 0 rfl _ (Try.isAgg22 wx) (by rw [idA_size, hs.1]; exact Try.sizeOf22 wx) (hself.below hw (by omega))) ?_
          simp only [List.set_cons_succ, List.set_cons_zero]
          refine ord_val 26 rfl rfl rfl hB (.slice (some ⟨b, off, none⟩) len cap) (fun _ _ => rfl) ?_
          simp only [List.set_cons_succ, List.set_cons_zero]
          refine ord_val 27 rfl rfl rfl hB (.int .i64 k) (fun _ _ => rfl) ?_
          simp only [List.set_cons_succ, List.set_cons_zero]
          refine ord_val 28 rfl rfl rfl hB (.pointer (some ⟨b, off + k * 32, none⟩)) (fun wx _ => exec_idx wx 23 22 32 _ _ rfl b off len cap k Try.underlying23 (Try.sizeOf22 wx) rfl rfl hlt) ?_
          simp only [List.set_cons_succ, List.set_cons_zero]
          refine ord_val 29 rfl rfl rfl hB (.agg (idA (ids.getD k []))) (fun wx hw => exec_load_at wx 22 _ rfl b _ rfl _ (Try.isAgg22 wx) (by rw [idA_size, iik.1]; exact Try.sizeOf22 wx) (gk.below hw hblt)) ?_
          simp only [List.set_cons_succ, List.set_cons_zero]
          refine ord_call 30 rfl rfl rfl 15 #[.agg (idA self), .agg (idA (ids.getD k []))] (exec_call _ 15 _ _ rfl rfl _ rfl Try.call15) (lead_c self _ hs iik _) ?_
          rintro e w7 ⟨rfl, hb7⟩
          have hB7 : Below w1.heap.size w1 w7 := hB.trans (hb7.mono hB.size)
          refine ⟨_, rfl, hB7, ?_⟩
          simp only [List.set_cons_succ, List.set_cons_zero]
          obtain ⟨x, hx⟩ : ∃ x, x = lead self (ids.getD k []) := ⟨_, rfl⟩
          rw [← hx]
          refine ord_val 9 rfl rfl rfl hB7 (.int .i64 (x : Int)) (fun _ _ => rfl) ?_
          simp only [List.set_cons_succ, List.set_cons_zero]
          refine ord_done ?_
          have hx256 : x ≤ 256 := by rw [hx]; exact lead_le hs iik
          have hxat : at0 bs k = x := by rw [HBS.out, bandsOf_at _ _ _ (by rw [← HL.out]; exact hlt), hx]
          have hb7' : Below wr.heap.size wr w7 := (Below.refl _ _).drew.trans hb7
          have hT1 : TabAt w7 B (fun b => firstF bs b k) := HT1.out.below hb7' HT1.out.lt
          have hT2 : TabAt w7 (B + 1) (fun b => ((lastIx (bs.take k) b : Nat) : Int)) := HT2.out.below hb7' HT2.out.lt
          have hb8 : Below B w1 w7 := by rw [HBE.out]; exact hB7
          have hkb : k < bs.length := by rw [HBLEN.out]; exact hlt
          have hsn : bs.take (k + 1) = bs.take k ++ [x] := by rw [take_snoc0 _ _ hkb, hxat]
          have hlast : ∀ c, lastIx (bs.take (k + 1)) c = if x = c then k else lastIx (bs.take k) c := fun c => by
            rw [hsn, lastIx_snoc, List.length_take, Nat.min_eq_left (by omega)]
          have hc1 := hT1.cell x (by omega)
          have hf1 := hT1.frozen x
          have hx257 : (x : Int) < 257 := by omega
          have HX : Hid (x = lead self (ids.getD k [])) := hx
          clear hx
          generalize hff : firstF bs x k = p at *
          by_cases hp : p < 0
          · have hT1' : TabAt (w7.setCell ⟨B, x, none⟩ (.int .i64 (k : Int))) B (fun b => firstF bs b (k + 1)) := hT1.set _ x (by omega) k (by simp only [firstF]; rw [if_pos ⟨by rw [hff]; exact hp, hxat⟩]) (fun c _ hc => by simp only [firstF]; rw [if_neg (fun h => hc (by rw [← h.2, hxat]))])
            have hT2' : TabAt (w7.setCell ⟨B, x, none⟩ (.int .i64 (k : Int))) (B + 1) (fun b => ((lastIx (bs.take k) b : Nat) : Int)) := hT2.other (by omega) _ _
            have hc2 := hT2'.cell x (by omega)
            have hf2 := hT2'.frozen x
            have HR : Hid (Rel2 bs len B w1 (.int .i64 ((k + 1 : Nat) : Int)) ((w7.setCell ⟨B, x, none⟩ (.int .i64 (k : Int))).setCell ⟨B + 1, x, none⟩ (.int .i64 (k : Int)))) :=
              ⟨k + 1, by omega, rfl, hT1'.other (by omega) _ _, hT2'.set _ x (by omega) k (by simp only [hlast, if_pos]) (fun c _ hc => by simp only [hlast]; rw [if_neg (Ne.symm hc)]), (hb8.setCell (Nat.le_refl _) _).setCell (by show B ≤ B + 1; omega) _⟩
            clear hb7' hT1 hT2 hT1' hT2' hb8 hB7 hb7 hB gk iik hsn hlast hff hxat hself hbel hkb
            go_wp2_with fail
            refine ⟨HR.out, ?_⟩
            simp [intOf]; omega
          · have hT1' : TabAt w7 B (fun b => firstF bs b (k + 1)) := hT1.eq (fun c _ => by
              show firstF bs c k = firstF bs c (k + 1)
              rw [firstF, if_neg]
              rintro ⟨h1, h2⟩
              rw [hxat] at h2
              rw [← h2, hff] at h1
              exact hp h1)
            have hc2 := hT2.cell x (by omega)
            have hf2 := hT2.frozen x
            have HR : Hid (Rel2 bs len B w1 (.int .i64 ((k + 1 : Nat) : Int)) (w7.setCell ⟨B + 1, x, none⟩ (.int .i64 (k : Int)))) :=
              ⟨k + 1, by omega, rfl, hT1'.other (by omega) _ _, hT2.set _ x (by omega) k (by simp only [hlast, if_pos]) (fun c _ hc => by simp only [hlast]; rw [if_neg (Ne.symm hc)]), hb8.setCell (by show B ≤ B + 1; omega) _⟩
            clear hb7' hT1 hT2 hT1' hb8 hB7 hb7 hB gk iik hsn hlast hff hxat hself hbel hkb
            go_wp2_with fail
            refine ⟨HR.out, ?_⟩
            simp [intOf]; omega
        · have hkl : k = len := by omega
          have htk : bs.take k = bs := List.take_of_length_le (by rw [HBLEN.out]; omega)
          rw [htk] at hT2
          rw [hkl] at hT1
          obtain ⟨K, hKe⟩ : ∃ K, K = wr.heap.size := ⟨_, rfl⟩
          have HT1 : Hid (TabAt wr B (fun b => firstF bs b len)) := hT1
          have HT2 : Hid (TabAt wr (B + 1) (fun b => ((lastIx bs b : Nat) : Int))) := hT2
          have HB5 : Hid (Below B w1 wr) := hbl
          have hBK : B + 1 < K := by rw [hKe]; exact hT2.lt
          clear hT1 hT2 hbl htk
          obtain ⟨i0, z0, hi0, hz0, hsz0, hby0, hzs0⟩ := zero22
          have hmk := run_make (P := Try.prog) wr 23 22 i0 z0 Try.underlying23 hi0 hz0 .i64 .i64 0 16 (by omega) (by omega) (by rw [hby0]; omega) (by omega)
          have e16 : (16 : Int).toNat = 16 := rfl
          rw [hsz0, e16, Int.toNat_zero] at hmk
          have HI : Hid (Try.prog.info? 22 = some i0) := hi0
          have HI1 : Hid (i0.zero = some z0 ∧ i0.size = 32 ∧ i0.bytes = 32 ∧ z0.cells.size = 32) := ⟨hz0, hsz0, hby0, hzs0⟩
          clear hi0 hz0 hsz0 hby0 hzs0
          have HR3 : Hid (Rel3 self ids len K wr (.slice (some ⟨K, 0, none⟩) 0 16) (.int .i64 0) (wr.alloc (.cells (madeCells z0.cells (16 * 32)) 22))) := by
            refine ⟨0, by omega, rfl, ⟨by simp [gathK, firsts, idCells], .inr ⟨K, 16, _, by simp [gathK, firsts], Nat.le_refl _, by rw [hKe]; exact heap_alloc_new wr _, by simp [gathK, firsts], by simp [maxLen], size_madeCells _ _, by simp [gathK, firsts, idCells]⟩⟩, (Below.refl _ _).alloc (by rw [hKe]; exact Nat.le_refl _) _⟩
          go_wp2_with (refine stop_make 23 ?_)
          refine go_on ?_
          refine lst_val (.slice (some ⟨wr.heap.size, 0, none⟩) 0 16) (exec_make wr _ 23 _ _ rfl (.int .i64 0) (.int .i64 16) _ rfl rfl hmk) ?_
          simp only [List.set_cons_succ, List.set_cons_zero]
          rw [← hKe]
          have HKE : Hid (K = wr.heap.size) := hKe
          clear hmk hKe
          have hK1 : K ≤ wr.heap.size := by rw [HKE.out]; exact Nat.le_refl _
          generalize wr.alloc (.cells (madeCells z0.cells (16 * 32)) 22) = w6 at *
          obtain ⟨w5, hw5⟩ : ∃ x, x = wr := ⟨_, rfl⟩
          rw [← hw5] at HR3 HT1 HT2 HB5 hK1 HKE
          clear hw5
          go_wp2_with fail
          go_loopw [10, 11] (fun v u wq => Rel3 self ids len K w5 v u wq) (fun _ u _ => len - (intOf u).toNat)
          case atStart => exact HR3.out
          case round =>
            clear HR3
            obtain ⟨k, hk, rfl, hown, hbl⟩ := hrel
            have HO : Hid (wr.ownsRow K 22 32 u10 (gathK self ids k).length (idCells (gathK self ids k))) := hown
            have HB3 : Hid (Below K w5 wr) := hbl
            clear hown hbl
            by_cases hlt : k < len
            · obtain ⟨b, off, rfl, hblt, hcell⟩ := hat1 (by rw [← HL.out]; omega)
              have hlt' : (k : Int) < (len : Int) := by omega
              have gk : HasA w1 b (off + k * 32) (idA (ids.getD k [])) := hcell k (by rw [← HL.out]; exact hlt)
              have iik : IsID (ids.getD k []) := HID.out k (by rw [← HL.out]; exact hlt)
              have HC : Hid (∀ i, i < ids.length → HasA w1 b (off + i * 32) (idA (ids.getD i []))) := hcell
              clear hcell
              go_wp2_with fail
              refine wp_region_ord (fun w' => Below w1.heap.size w1 w') [(0, false), (1, false), (2, false), (3, false), (4, false), (5, true), (6, false)] (by kernel_rfl) (by kernel_rfl)
                (fun _ _ _ d _ h => by cases d <;> exact h) (by kernel_rfl) rfl ?_
              have hB5w : Below w1.heap.size w1 w5 := by rw [← HBE.out]; exact HB5.out
              have hBe := HBE.out
              have hB : Below w1.heap.size w1 wr.drew := (hB5w.trans (HB3.out.mono (by omega))).drew
              refine ord_val 48 rfl rfl rfl hB (.agg (idA self)) (fun wx hw => exec_load_at wx 22 _ rfl w.heap.size 0 rfl _ (Try.isAgg22 wx) (by rw [idA_size, hs.1]; exact Try.sizeOf22 wx) (hself.below hw (by omega))) ?_
              simp only [List.set_cons_succ, List.set_cons_zero]
              refine ord_val 49 rfl rfl rfl hB (.slice (some ⟨b, off, none⟩) len cap) (fun _ _ => rfl) ?_
              simp only [List.set_cons_succ, List.set_cons_zero]
              refine ord_val 50 rfl rfl rfl hB (.int .i64 k) (fun _ _ => rfl) ?_
              simp only [List.set_cons_succ, List.set_cons_zero]
              refine ord_val 51 rfl rfl rfl hB (.pointer (some ⟨b, off + k * 32, none⟩)) (fun wx _ => exec_idx wx 23 22 32 _ _ rfl b off len cap k Try.underlying23 (Try.sizeOf22 wx) rfl rfl hlt) ?_
              simp only [List.set_cons_succ, List.set_cons_zero]
              refine ord_val 52 rfl rfl rfl hB (.agg (idA (ids.getD k []))) (fun wx hw => exec_load_at wx 22 _ rfl b _ rfl _ (Try.isAgg22 wx) (by rw [idA_size, iik.1]; exact Try.sizeOf22 wx) (gk.below hw hblt)) ?_
              simp only [List.set_cons_succ, List.set_cons_zero]
              refine ord_call 53 rfl rfl rfl 15 #[.agg (idA self), .agg (idA (ids.getD k []))] (exec_call _ 15 _ _ rfl rfl _ rfl Try.call15) (lead_c self _ hs iik _) ?_
              rintro e w7 ⟨rfl, hb7⟩
              have hB7 : Below w1.heap.size w1 w7 := hB.trans (hb7.mono hB.size)
              refine ⟨_, rfl, hB7, ?_⟩
              simp only [List.set_cons_succ, List.set_cons_zero]
              obtain ⟨x, hx⟩ : ∃ x, x = lead self (ids.getD k []) := ⟨_, rfl⟩
              rw [← hx]
              refine ord_val 12 rfl rfl rfl hB7 (.int .i64 (x : Int)) (fun _ _ => rfl) ?_
              simp only [List.set_cons_succ, List.set_cons_zero]
              refine ord_done ?_
              have hx256 : x ≤ 256 := by rw [hx]; exact lead_le hs iik
              have hxat : at0 bs k = x := by rw [HBS.out, bandsOf_at _ _ _ (by rw [← HL.out]; exact hlt), hx]
              have hb7' : Below wr.heap.size wr w7 := (Below.refl _ _).drew.trans hb7
              have hb5 : Below K w5 w7 := HB3.out.trans (hb7'.mono (Nat.le_trans hK1 HB3.out.size))
              have hT1 : TabAt w7 B (fun b => firstF bs b len) := HT1.out.below hb5 (by omega)
              have hT2 : TabAt w7 (B + 1) (fun b => ((lastIx bs b : Nat) : Int)) := HT2.out.below hb5 (by omega)
              have hkb : k < bs.length := by rw [HBLEN.out]; exact hlt
              have hc1 : w7.cell? ⟨B, x, none⟩ = some (.int .i64 (firstF bs x len)) := hT1.cell x (by omega)
              have hc2 : w7.cell? ⟨B + 1, x, none⟩ = some (.int .i64 ((lastIx bs x : Nat) : Int)) := hT2.cell x (by omega)
              have hx257 : (x : Int) < 257 := by omega
              have HX : Hid (x = lead self (ids.getD k [])) := hx
              clear hx
              have hisf := firstF_is bs k len hlt (by rw [HBLEN.out]; exact Nat.le_refl _)
              rw [hxat] at hisf
              have hgs := gathK_succ self ids k
              rw [← HBS.out, hxat] at hgs
              have hlm := lastIx_spec bs x bs.length (Nat.le_refl _) (by rw [← hxat]; exact at_mem_take bs k _ hkb (Nat.le_refl _))
              rw [List.take_length, HBLEN.out] at hlm
              have hown7 := own_below HO.out hb7'
              have HB57 : Hid (Below K w5 w7) := hb5
              have HO7 : Hid (w7.ownsRow K 22 32 u10 (gathK self ids k).length (idCells (gathK self ids k))) := hown7
              generalize firstF bs x len = pf at *
              obtain ⟨q, hqe⟩ : ∃ q, q = lastIx bs x := ⟨_, rfl⟩
              rw [← hqe] at hlm hc2 hgs
              have hqlt := hlm.1
              have HB7 : Hid (Below w1.heap.size w1 w7) := hB7
              clear hBe hqe hlm hb5 hT1 hT2 hown7 hB hB5w hb7 hB7 hb7' hxat
              by_cases hfm : x ∈ bs.take k
              · rw [if_pos hfm, List.append_nil] at hgs
                have hpf : ¬ pf = (k : Int) := fun h => hisf.1 h hfm
                have hpf' : (pf == (k : Int)) = false := by rw [beq_eq_false_iff_ne]; exact hpf
                have HR : Hid (Rel3 self ids len K w5 u10 (.int .i64 ((k + 1 : Nat) : Int)) w7) := ⟨k + 1, by omega, rfl, by rw [hgs]; exact HO7.out, HB57.out⟩
                clear hgs hisf hpf gk iik hself hbel
                go_wp2_with fail
                refine ⟨HR.out, ?_⟩
                simp [intOf]; omega
              · rw [if_neg hfm] at hgs
                have hpf : pf = (k : Int) := hisf.2 hfm
                subst hpf
                have HGS : Hid (gathK self ids (k + 1) = gathK self ids k ++ [ids.getD q []]) := hgs
                clear hgs hisf gk iik
                have iiq : IsID (ids.getD q []) := HID.out q (by rw [← HL.out]; exact hqlt)
                have hq : HasA w7 b (off + q * 32) (idA (ids.getD q [])) := (HC.out q (by rw [← HL.out]; exact hqlt)).below HB7.out hblt
                go_wp2_with (refine stop_idx 23 ?_)
                refine go_on ?_
                refine lst_val _ (exec_idx w7 23 22 32 _ _ rfl b off len cap q Try.underlying23 (Try.sizeOf22 _) rfl rfl hqlt) ?_
                simp only [List.set_cons_succ, List.set_cons_zero]
                refine lst_val _ (exec_load_at w7 22 _ rfl b (off + q * 32) rfl _ (Try.isAgg22 _) (by rw [idA_size, iiq.1]; exact Try.sizeOf22 _) hq) ?_
                simp only [List.set_cons_succ, List.set_cons_zero]
                refine lst_val (.slice (some ⟨w7.heap.size, 0, none⟩) 1 1) (exec_bslice w7 _ 23 1 _ rfl [(0, .agg (idA (ids.getD q [])))] (by simp [Act.eval]) _ (run_buildSlice23 w7 _ iiq)) ?_
                simp only [List.set_cons_succ, List.set_cons_zero]
                have hK7 : K ≤ w7.heap.size := Nat.le_trans hK1 HB57.out.size
                have hown2 : (w7.alloc (.cells (idA (ids.getD q [])) 22)).ownsRow K 22 32 u10 (gathK self ids k).length (idCells (gathK self ids k)) := HO7.out.alloc _
                have hnew : ∀ j u, (idA (ids.getD q [])).toList[j]? = some u → (w7.alloc (.cells (idA (ids.getD q [])) 22)).cell? ((⟨w7.heap.size, 0, none⟩ : Addr).add j) = some u := fun j u hu => by
                  rw [Addr.add_lit, Nat.zero_add, cell_of_row _ _ j _ 22 (0, 0) (heap_alloc_new w7 _)]
                  simpa using hu
                obtain ⟨hz0, hsz0, hby0, hzs0⟩ := HI1.out
                have hgl := gathK_len self ids k
                have h32 : (idA (ids.getD q [])).size = 32 := by rw [idA_size]; exact iiq.1
                obtain ⟨v', w8, hrun, hown8, hgr, _⟩ := run_append_own (P := Try.prog) (w7.alloc (.cells (idA (ids.getD q [])) 22)) K 23 23 22 i0 z0 32 32 Try.underlying23 HI.out hz0 hsz0 hby0 hzs0 (by omega) u10 (gathK self ids k).length (idCells (gathK self ids k)) hown2 ⟨w7.heap.size, 0, none⟩ 1 1 (idA (ids.getD q [])).toList (by rw [Array.length_toList, h32]) hnew (idA_one _)
                  (by unfold maxLen; omega) (by omega) (by have e : (w7.alloc (.cells (idA (ids.getD q [])) 22)).heap.size = w7.heap.size + 1 := by simp
                                                           rw [e]; omega)
                refine lst_val v' (exec_append _ w8 23 (.tmp 59) (.tmp 66) rfl u10 (.slice (some ⟨w7.heap.size, 0, none⟩) 1 1) rfl rfl v' hrun) ?_
                simp only [List.set_cons_succ, List.set_cons_zero]
                have HR : Hid (Rel3 self ids len K w5 v' (.int .i64 ((k + 1 : Nat) : Int)) w8) := by
                  refine ⟨k + 1, by omega, rfl, ?_, (HB57.out.alloc hK7 _).grown hgr (by simp; omega) (fun j hj => (hown2.lt j hj).1)⟩
                  rw [HGS.out, List.length_append]
                  simpa [idCells] using hown8
                clear hown8 hgr hrun hnew hown2 hq hz0 hsz0 hby0 hzs0
                go_wp2_with fail
                refine ⟨HR.out, ?_⟩
                simp [intOf]; omega
            · have hkl3 : k = len := by omega
              go_wp2_with fail
              go_ret
              have hbw := (HBE.out ▸ HB5.out : Below w1.heap.size w1 w5)
              refine ⟨_, rfl, ?_, hbel.trans ((hbw.mono (by omega)).trans (HB3.out.mono (by have := HBE.out; omega)))⟩
              rw [← hkl3]
              exact own_mono HO.out (by have := HBE.out; omega)
end Go.Proofs.Qxb6612853a
