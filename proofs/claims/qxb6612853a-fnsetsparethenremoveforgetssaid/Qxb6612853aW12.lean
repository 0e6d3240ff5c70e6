/-
  ZZsetSpare, ZZspares.
-/
import Derived.Test.Qxb6612853aW11
namespace Go.Proofs.Qxb6612853a
open Go.RowKit

theorem TblS.below {w w' : World} {B base tb : Nat} {self : List Nat} {size : Int} {sps : List (List Nat)} (h : TblS w base tb self size sps) (hb : Below B w w') (hB : w.heap.size ≤ B) : TblS w' base tb self size sps := by
  obtain ⟨sp, ht, hbt, ho⟩ := h
  exact ⟨sp, ht.of_block (hb.block tb (Nat.lt_of_lt_of_le ht.lt hB)), hbt, own_below ho hb hB⟩

set_option maxHeartbeats 400000 in
theorem zzsetSpare_c (self : List Nat) (hs : IsID self) (size : Int) (base tb b : Nat) (sps : List (List Nat)) (hid : AllID sps) (l : List Nat) (hl : IsID l) (w : World) (ht : TblS w base tb self size sps) (hn : sps.length ≤ 32768) (hbase : base ≤ w.heap.size) :
    Calls Try.prog 13 #[.pointer (some ⟨tb, 0, none⟩), .agg (peerA l), .int .i64 (b : Int)] w fun e w' => e = .returned (.tuple #[]) ∧ TblS w' base tb self size (setS self sps l b) ∧ Below base w w' := by
  have hbel : Below w.heap.size w (w.alloc (.cells (peerA l) 32)) := (Below.refl _ _).alloc (Nat.le_refl _) _
  have hcall := setSpare_c self hs size base tb b sps hid l hl (w.alloc (.cells (peerA l) 32)) (ht.below hbel (Nat.le_refl _)) hn
  have HB : Hid (Below w.heap.size w (w.alloc (.cells (peerA l) 32))) := hbel
  clear hbel ht hid
  go_enter Try.func13, Try.ntmps13
  go_wp2_with (refine stop_load 32 ?_)
  refine go_on ?_
  refine lst_val _ (exec_load_at _ 32 _ rfl w.heap.size 0 rfl (peerA l) (Try.isAgg32 _) (by rw [peerA_size hl]; exact Try.sizeOf32 _) (HasA.of_block (heap_alloc_new w _))) ?_
  simp only [List.set_cons_succ, List.set_cons_zero]
  go_wp2_with fail
  refine hcall.mono ?_
  clear hcall
  rintro e w' ⟨rfl, h1, h2⟩
  have H1 : Hid (TblS w' base tb self size (setS self sps l b)) := h1
  have H2 : Hid (Below base w w') := (HB.out.mono hbase).trans h2
  clear h1 h2 HB
  go_wp2_with fail
  go_end0
  exact ⟨rfl, H1.out, H2.out⟩

set_option maxHeartbeats 400000 in
theorem zzspares_c (tb : Nat) (sp : Value) (w : World) (hc : w.cell? ⟨tb, 39, none⟩ = some sp) :
    Calls Try.prog 16 #[.pointer (some ⟨tb, 0, none⟩)] w fun e w' => e = .returned sp ∧ w' = w := by
  go_enter Try.func16, Try.ntmps16
  go_wp2_with fail
  go_ret
  exact ⟨rfl, rfl⟩
end Go.Proofs.Qxb6612853a
