/-
  What the search finds; Holds.
-/
import Derived.Test.Qxb6612853aW15
namespace Go.Proofs.Qxb6612853a
open Go.RowKit

theorem lexLt_trans : ∀ (a b c : List Nat), lexLt a b = true → lexLt b c = true → lexLt a c = true
  | [], _, _, h, _ => by simp [lexLt] at h
  | _ :: _, [], _, h, _ => by simp [lexLt] at h
  | _ :: _, _ :: _, [], _, h => by simp [lexLt] at h
  | x :: xs, y :: ys, z :: zs, h1, h2 => by
    simp only [lexLt] at h1 h2 ⊢
    by_cases e1 : x = y
    · subst e1
      rw [if_pos rfl] at h1
      by_cases e2 : x = z
      · subst e2
        rw [if_pos rfl] at h2 ⊢
        exact lexLt_trans xs ys zs h1 h2
      · rw [if_neg e2] at h2 ⊢
        exact h2
    · rw [if_neg e1] at h1
      have hlt : x < y := by simpa using h1
      by_cases e2 : y = z
      · subst e2
        rw [if_neg e1]
        exact h1
      · rw [if_neg e2] at h2
        have hlt2 : y < z := by simpa using h2
        rw [if_neg (by omega)]
        simp; omega
theorem lexLt_irrefl : ∀ a : List Nat, lexLt a a = false
  | [] => rfl
  | x :: xs => by simp [lexLt, lexLt_irrefl xs]
theorem nearer_trans {self a b c : List Nat} (h1 : nearer self a b = true) (h2 : nearer self b c = true) : nearer self a c = true := lexLt_trans _ _ _ h1 h2
theorem nearer_irrefl (self a : List Nat) : nearer self a a = false := lexLt_irrefl _

theorem SortedAway.far {self : List Nat} {ids : List (List Nat)} (h : SortedAway self ids) (i : Nat) : ∀ d, i + d + 1 < ids.length → nearer self (ids.getD i []) (ids.getD (i + d + 1) []) = true
  | 0, hd => h.2 i hd
  | d + 1, hd => nearer_trans (h.far i d (by omega)) (h.2 (i + d + 1) hd)
theorem SortedAway.lt {self : List Nat} {ids : List (List Nat)} (h : SortedAway self ids) {i j : Nat} (hij : i < j) (hj : j < ids.length) : nearer self (ids.getD i []) (ids.getD j []) = true := by
  have := h.far i (j - i - 1) (by omega)
  rw [show i + (j - i - 1) + 1 = j by omega] at this
  exact this
theorem SortedAway.mono {self : List Nat} {ids : List (List Nat)} (h : SortedAway self ids) (l : List Nat) : ∀ i j, i ≤ j → j < ids.length → (!nearer self (ids.getD i []) l) = true → (!nearer self (ids.getD j []) l) = true := by
  intro i j hij hj hi
  by_cases e : i = j
  · subst e; exact hi
  · cases hc : nearer self (ids.getD j []) l with
    | false => rfl
    | true => rw [nearer_trans (h.lt (by omega) hj) hc] at hi; cases hi

/-- Where the search stops. -/
def Found (self : List Nat) (ids : List (List Nat)) (l : List Nat) (r : Nat) : Prop := r ≤ ids.length ∧ (∀ k, k < r → nearer self (ids.getD k []) l = true) ∧ (∀ k, r ≤ k → k < ids.length → nearer self (ids.getD k []) l = false)
theorem Found.unique {self : List Nat} {ids : List (List Nat)} {l : List Nat} {r s : Nat} (h : Found self ids l r) (h' : Found self ids l s) : r = s := by
  rcases Nat.lt_trichotomy r s with hlt | he | hlt
  · have h1 := h'.2.1 r hlt
    rw [h.2.2 r (Nat.le_refl _) (by have := h'.1; omega)] at h1
    cases h1
  · exact he
  · have h1 := h.2.1 s hlt
    rw [h'.2.2 s (Nat.le_refl _) (by have := h.1; omega)] at h1
    cases h1
theorem Found.at {self : List Nat} {ids : List (List Nat)} {l : List Nat} {r q : Nat} (h : Found self ids l r) (hs : SortedAway self ids) (hq : q < ids.length) (he : ids.getD q [] = l) : r = q := by
  rcases Nat.lt_trichotomy r q with hlt | he' | hlt
  · have h1 := h.2.2 r (Nat.le_refl _) (by omega)
    rw [← he, hs.lt hlt hq] at h1
    cases h1
  · exact he'
  · have h1 := h.2.1 q hlt
    rw [he, nearer_irrefl] at h1
    cases h1

theorem exec_len {P : Program} {ρ : Operand → Value} (w : World) {o : Oper} (t e : TypeId) (x : Operand) (ho : o.op = .call { callee := .builtin .len, args := #[x], argTypes := #[t] }) (ht : P.underlying t = some (.slice e)) (ao : Option Addr) (n cap : Nat) (hx : ρ x = .slice ao n cap) :
    (execOp ρ o).run P w = .ok (.value (.int .i64 (n : Int))) w := by
  have he : P.elem t = e := by simp [Program.elem, ht]
  unfold execOp
  simp only [ho, resolve, invoke, builtin, Sem.run_bind, Sem.run_pure, Result.andThen_ok, List.map_toArray, List.map_cons, List.map_nil, hx, run_len_slice (P := P) _ _ _ _ _ _ (by rw [he]; exact ht)]
  rfl
theorem run_lti {P : Program} (w : World) (t : TypeId) (k : IntKind) (i j : Int) : (binOp .lss t (.int k i) (.int k j)).run P w = .ok (.bool (decide (i < j))) w := by
  simp [binOp, Op.intCmp]

set_option maxHeartbeats 1000000 in
theorem holds_c (self : List Nat) (hs : IsID self) (ids : List (List Nat)) (hids : AllID ids) (hso : SortedAway self ids) (l : List Nat) (hl : IsID l) (tb cap : Nat) (ao : Option Addr) (w : World) (hn : ids.length ≤ 32768)
    (hself : HasA w tb 0 (idA self)) (hc : w.cell? ⟨tb, 36, none⟩ = some (.slice ao ids.length cap)) (hents : EntsAt w ao self ids) :
    Calls Try.prog 36 #[.pointer (some ⟨tb, 0, none⟩), .agg (idA l)] w fun e w' => ∃ r : Nat, e = .returned (.bool (decide (r < ids.length) && (ids.getD r [] == l))) ∧ Found self ids l r ∧ Below w.heap.size w w' := by
  have htl : tb < w.heap.size := block_lt_of_cell hc
  obtain ⟨w1, hw1⟩ : ∃ x, x = w.alloc (.cells (idA l) 27) := ⟨_, rfl⟩
  have hbel : Below w.heap.size w w1 := by rw [hw1]; exact (Below.refl _ _).alloc (Nat.le_refl _) _
  have hz1 : w1.heap.size = w.heap.size + 1 := by rw [hw1]; simp
  have hI1 : HasA w1 w.heap.size 0 (idA l) := by rw [hw1]; exact HasA.of_block (heap_alloc_new w _)
  have hc1 : w1.cell? ⟨tb, 36, none⟩ = some (.slice ao ids.length cap) := (hbel.cell htl).trans hc
  have hents1 : EntsAt w1 ao self ids := hents.below hbel (Nat.le_refl _)
  have hcall := search_c self hs ids hids l hl tb cap ao w1 hn (hself.below hbel htl) hc1 hents1 (hso.mono l)
  have HCALL : Hid (Calls Try.prog 37 #[.pointer (some ⟨tb, 0, none⟩), .agg (idA l)] w1 fun e w' => ∃ r : Nat, e = .returned (.int .i64 (r : Int)) ∧ r ≤ ids.length ∧ (∀ k, k < r → nearer self (ids.getD k []) l = true) ∧ (∀ k, r ≤ k → k < ids.length → nearer self (ids.getD k []) l = false) ∧ Below w1.heap.size w1 w') := hcall
  have HB1 : Hid (Below w.heap.size w w1) := hbel
  have HC1 : Hid (w1.cell? ⟨tb, 36, none⟩ = some (.slice ao ids.length cap)) := hc1
  have HE1 : Hid (EntsAt w1 ao self ids) := hents1
  clear hcall hbel hents hents1 hc hc1
  go_enter Try.func36, Try.ntmps36
  go_wp2_with (refine stop_load 27 ?_)
  rw [← hw1]
  clear hw1
  refine go_on ?_
  refine lst_val _ (exec_load_at w1 27 _ rfl w.heap.size 0 rfl (idA l) (Try.isAgg27 _) (by rw [idA_size, hl.1]; exact Try.sizeOf27 _) hI1) ?_
  simp only [List.set_cons_succ, List.set_cons_zero]
  go_wp2_with fail
  refine HCALL.out.mono ?_
  clear HCALL
  rintro e w2 ⟨r, rfl, hr, hlo, hhi, hb2⟩
  have HF : Hid (Found self ids l r) := ⟨hr, hlo, hhi⟩
  have HB2 : Hid (Below w1.heap.size w1 w2) := hb2
  clear hlo hhi hb2
  go_wp2_with fail
  obtain ⟨n, hne⟩ : ∃ n, n = ids.length := ⟨_, rfl⟩
  have HN : Hid (n = ids.length) := hne
  rw [← hne] at hr hn HC1
  clear hne
  refine wp_region_ord (fun w' => Below w1.heap.size w1 w') [(0, false), (1, false), (2, false), (3, false), (4, false), (5, false), (6, false), (7, false), (8, false), (9, false), (10, false), (11, false), (12, false), (13, false), (14, false), (15, false), (16, false), (17, false), (18, false), (19, false), (20, false)] (by kernel_rfl) (by kernel_rfl)
    (fun _ _ _ d _ h => by cases d <;> exact h) (by kernel_rfl) rfl ?_
  have hB : Below w1.heap.size w1 w2.drew := HB2.out.drew
  refine ord_val 9 rfl rfl rfl hB (.int .i64 (r : Int)) (fun _ _ => rfl) ?_
  simp only [List.set_cons_succ, List.set_cons_zero]
  refine ord_val 10 rfl rfl rfl hB (.pointer (some ⟨tb, 0, none⟩)) (fun _ _ => rfl) ?_
  simp only [List.set_cons_succ, List.set_cons_zero]
  refine ord_val 11 rfl rfl rfl hB (.pointer (some ⟨tb, 0, none⟩)) (fun wx _ => exec_nilck wx _ rfl _ rfl) ?_
  simp only [List.set_cons_succ, List.set_cons_zero]
  refine ord_val 12 rfl rfl rfl hB (.pointer (some ⟨tb, 36, none⟩)) (fun wx _ => exec_field wx 64 _ 3 rfl _ rfl _ (field64_3 wx tb)) ?_
  simp only [List.set_cons_succ, List.set_cons_zero]
  refine ord_val 13 rfl rfl rfl hB (.slice ao n cap) (fun wx hw => exec_load1 wx 61 _ rfl ⟨tb, 36, none⟩ _ rfl (Try.isAgg61 wx) ((hw.cell (by show tb < _; omega)).trans HC1.out)) ?_
  simp only [List.set_cons_succ, List.set_cons_zero]
  refine ord_val 14 rfl rfl rfl hB (.int .i64 (n : Int)) (fun wx _ => exec_len wx 61 74 (.tmp 13) rfl Try.underlying61 ao n cap rfl) ?_
  simp only [List.set_cons_succ, List.set_cons_zero]
  by_cases hrn : r < n
  · obtain ⟨g, rfl, hglt, hent⟩ := HE1.out (by rw [← HN.out]; omega)
    have he := hent r (by rw [← HN.out]; exact hrn)
    have iir := hids r (by rw [← HN.out]; exact hrn)
    obtain ⟨x, hx⟩ : ∃ x, x = ids.getD r [] := ⟨_, rfl⟩
    rw [← hx] at he iir
    have HX : Hid (x = ids.getD r []) := hx
    clear hx hent
    refine ord_val 15 rfl rfl rfl hB (.bool true) (fun wx _ => exec_bin wx .lss 3 3 _ _ rfl .i64 r (.int .i64 (n : Int)) _ rfl rfl (by rw [run_lti, decide_eq_true (by omega)])) ?_
    simp only [List.set_cons_succ, List.set_cons_zero]
    refine ord_val 16 rfl rfl rfl hB (.bool true) (fun _ _ => rfl) ?_
    simp only [List.set_cons_succ, List.set_cons_zero]
    refine ord_val 17 rfl rfl rfl hB (.pointer (some ⟨tb, 0, none⟩)) (fun _ _ => rfl) ?_
    simp only [List.set_cons_succ, List.set_cons_zero]
    refine ord_val 18 rfl rfl rfl hB (.pointer (some ⟨tb, 0, none⟩)) (fun wx _ => exec_nilck wx _ rfl _ rfl) ?_
    simp only [List.set_cons_succ, List.set_cons_zero]
    refine ord_val 19 rfl rfl rfl hB (.pointer (some ⟨tb, 36, none⟩)) (fun wx _ => exec_field wx 64 _ 3 rfl _ rfl _ (field64_3 wx tb)) ?_
    simp only [List.set_cons_succ, List.set_cons_zero]
    refine ord_val 20 rfl rfl rfl hB (.slice (some ⟨g, 0, none⟩) n cap) (fun wx hw => exec_load1 wx 61 _ rfl ⟨tb, 36, none⟩ _ rfl (Try.isAgg61 wx) ((hw.cell (by show tb < _; omega)).trans HC1.out)) ?_
    simp only [List.set_cons_succ, List.set_cons_zero]
    refine ord_val 21 rfl rfl rfl hB (.int .i64 (r : Int)) (fun _ _ => rfl) ?_
    simp only [List.set_cons_succ, List.set_cons_zero]
    refine ord_val 22 rfl rfl rfl hB (.pointer (some ⟨g, 0 + r * 36, none⟩)) (fun wx _ => exec_idx wx 61 74 36 _ _ rfl g 0 n cap r Try.underlying61 (Try.sizeOf74 wx) rfl rfl hrn) ?_
    simp only [List.set_cons_succ, List.set_cons_zero]
    refine ord_val 23 rfl rfl rfl hB (.pointer (some ⟨g, 0 + r * 36, none⟩)) (fun wx _ => exec_field wx 74 _ 0 rfl _ rfl _ (field74_0 wx _ _)) ?_
    simp only [List.set_cons_succ, List.set_cons_zero]
    refine ord_val 24 rfl rfl rfl hB (.pointer (some ⟨g, 0 + r * 36, none⟩)) (fun wx _ => exec_field wx 32 _ 0 rfl _ rfl _ (field32_0 wx _ _)) ?_
    simp only [List.set_cons_succ, List.set_cons_zero]
    refine ord_val 25 rfl rfl rfl hB (.agg (idA x)) (fun wx hw => exec_load_at wx 27 _ rfl g (0 + r * 36) rfl _ (Try.isAgg27 wx) (by rw [idA_size, iir.1]; exact Try.sizeOf27 wx) (peerA_prefix iir (entA_prefix iir (he.below hw hglt)))) ?_
    simp only [List.set_cons_succ, List.set_cons_zero]
    refine ord_val 26 rfl rfl rfl hB (.agg (idA l)) (fun wx hw => exec_load_at wx 27 _ rfl w.heap.size 0 rfl _ (Try.isAgg27 wx) (by rw [idA_size, hl.1]; exact Try.sizeOf27 wx) (hI1.below hw (by omega))) ?_
    simp only [List.set_cons_succ, List.set_cons_zero]
    refine ord_val 27 rfl rfl rfl hB (.bool (x == l)) (fun wx _ => exec_eqid wx 27 27 (.tmp 25) (.tmp 26) rfl x l iir hl Try.underlying27 Try.eqGuardType27 rfl rfl) ?_
    simp only [List.set_cons_succ, List.set_cons_zero]
    refine ord_val 28 rfl rfl rfl hB (.bool (x == l)) (fun wx _ => exec_pick wx _ _ _ rfl true rfl _ rfl) ?_
    simp only [List.set_cons_succ, List.set_cons_zero]
    refine ord_val 4 rfl rfl rfl hB (.bool (x == l)) (fun _ _ => rfl) ?_
    simp only [List.set_cons_succ, List.set_cons_zero]
    refine ord_done ?_
    have HB3 : Hid (Below w1.heap.size w1 w2.drew) := hB
    generalize hxl : (x == l) = bb
    have HXL : Hid ((x == l) = bb) := hxl
    clear hB hxl he
    go_wp2_with fail
    go_ret
    refine ⟨r, ?_, HF.out, HB1.out.trans (HB3.out.mono (by omega))⟩
    rw [← HN.out, ← HX.out, HXL.out, decide_eq_true hrn]
    rfl
  · have hrn' : ¬ (r : Int) < (n : Int) := by omega
    refine ord_val 15 rfl rfl rfl hB (.bool false) (fun wx _ => exec_bin wx .lss 3 3 _ _ rfl .i64 r (.int .i64 (n : Int)) _ rfl rfl (by rw [run_lti, decide_eq_false hrn'])) ?_
    simp only [List.set_cons_succ, List.set_cons_zero]
    refine ord_val 16 rfl rfl rfl hB (.bool false) (fun _ _ => rfl) ?_
    simp only [List.set_cons_succ, List.set_cons_zero]
    refine ord_skip 17 rfl rfl rfl hB ?_
    simp only [List.set_cons_succ, List.set_cons_zero]
    refine ord_skip 18 rfl rfl rfl hB ?_
    simp only [List.set_cons_succ, List.set_cons_zero]
    refine ord_skip 19 rfl rfl rfl hB ?_
    simp only [List.set_cons_succ, List.set_cons_zero]
    refine ord_skip 20 rfl rfl rfl hB ?_
    simp only [List.set_cons_succ, List.set_cons_zero]
    refine ord_skip 21 rfl rfl rfl hB ?_
    simp only [List.set_cons_succ, List.set_cons_zero]
    refine ord_skip 22 rfl rfl rfl hB ?_
    simp only [List.set_cons_succ, List.set_cons_zero]
    refine ord_skip 23 rfl rfl rfl hB ?_
    simp only [List.set_cons_succ, List.set_cons_zero]
    refine ord_skip 24 rfl rfl rfl hB ?_
    simp only [List.set_cons_succ, List.set_cons_zero]
    refine ord_skip 25 rfl rfl rfl hB ?_
    simp only [List.set_cons_succ, List.set_cons_zero]
    refine ord_skip 26 rfl rfl rfl hB ?_
    simp only [List.set_cons_succ, List.set_cons_zero]
    refine ord_skip 27 rfl rfl rfl hB ?_
    simp only [List.set_cons_succ, List.set_cons_zero]
    refine ord_val 28 rfl rfl rfl hB (.bool false) (fun wx _ => exec_pick wx _ _ _ rfl false rfl _ rfl) ?_
    simp only [List.set_cons_succ, List.set_cons_zero]
    refine ord_val 4 rfl rfl rfl hB (.bool false) (fun _ _ => rfl) ?_
    simp only [List.set_cons_succ, List.set_cons_zero]
    refine ord_done ?_
    have HB3 : Hid (Below w1.heap.size w1 w2.drew) := hB
    clear hB
    go_wp2_with fail
    go_ret
    refine ⟨r, ?_, HF.out, HB1.out.trans (HB3.out.mono (by omega))⟩
    rw [← HN.out, decide_eq_false hrn]
    rfl
end Go.Proofs.Qxb6612853a
