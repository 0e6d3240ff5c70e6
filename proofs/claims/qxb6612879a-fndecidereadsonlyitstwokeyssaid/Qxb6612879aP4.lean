/-
  FnDecideReadsOnlyItsTwoKeysSaid: the row.
-/
import Derived.Test.Qxb6612879aL4
import Derived.Test.Qxb6612879aOpen
namespace Go.Proofs.Qxb6612879a
open Go.ChangeShapes Go.WideShapes Go.ChangeAt Go.RowKit

set_option maxRecDepth 100000 in
theorem lifted4 (os : Os) (started : os.Started) (H : Type) (enc : TypeId × Value → H) :
    ReturnsInHanded {} Try.checked os 4 .any (Rows.fnDecideReadsOnlyItsTwoKeysSpec.pre6 enc Try.prog Try.f4 Rows.fnDecideReadsOnlyItsTwoKeysRow.domain false) (Rows.fnDecideReadsOnlyItsTwoKeysSpec.post enc Try.prog Try.f4 false true false false) := by
  refine returnsInHanded_of_change (C := Try.checked) Try.own started (by kernel_rfl) Try.func4
    (ChangeSpec.witness6 (enc := enc) (C := Try.checked) false ⟨#[], #[.int .u16 0, .int .u16 0, .int .u8 0, .int .u32 0, .int .u8 0, .int .u16 0, .slice none 0 0], []⟩ 8 (by kernel_rfl) (by kernel_rfl) (by kernel_rfl) (by kernel_rfl)) ?_
  intro W base args ds gs before hval0 hW hcnd _
  have hval : ∀ (j : Nat) t v, Try.f4.params[j]? = some t → args[j]? = some v → Value.okWide Try.prog W .any base t v := hval0
  have hW' := hW
  obtain ⟨p, q, hA0, hV, rfl, hfz, hnd⟩ := hW
  have hA : DataW.TrodAll enc Try.prog W 0 (fun _ => true) true Try.f4.params.toList args.toList ds p := hA0
  rw [Try.params4] at hA hval
  obtain ⟨v0, v1, v2, v3, v4, v5, v6, d0', d1', d2', d3', d4', d5', d6', p0', p1', p2', p3', p4', p5', p6', rfl, rfl, rfl, h0, h1, h2, h3, h4, h5, h6⟩ := trodAll_seven hA
  obtain ⟨rfl, rfl⟩ := trodVars_none hV
  obtain ⟨e, rfl, rfl, rfl, we⟩ := open_int Try.underlying22 (hval 0 22 v0 rfl rfl) h0
  obtain ⟨o, rfl, rfl, rfl, wo⟩ := open_int Try.underlying22 (hval 1 22 v1 rfl rfl) h1
  obtain ⟨d, rfl, rfl, rfl, wd⟩ := open_int Try.underlying5 (hval 2 5 v2 rfl rfl) h2
  obtain ⟨i, rfl, rfl, rfl, wi⟩ := open_int Try.underlying23 (hval 3 23 v3 rfl rfl) h3
  obtain ⟨p, rfl, rfl, rfl, wp⟩ := open_int Try.underlying5 (hval 4 5 v4 rfl rfl) h4
  obtain ⟨q, rfl, rfl, rfl, wq⟩ := open_int Try.underlying22 (hval 5 22 v5 rfl rfl) h5
  obtain ⟨T, ao, cap, rfl, h8, hat⟩ := open_rows (hval 6 24 v6 rfl rfl) h6
  clear hA0 hval0
  have hlt : ∀ x ∈ [] ++ [] ++ [] ++ [] ++ [] ++ [] ++ p6' ++ [], x.block < W.heap.size := fun x hx => hW'.lt x hx
  have hi := wf_range wi
  have hq := wf_range wq
  simp [IntKind.min, IntKind.max, IntKind.signed, IntKind.bits] at hi hq
  refine (law4 e o d i p q (by omega) (by omega) (by omega) (by omega) T h8 ao cap W hat).mono fun e W' ⟨he, hb⟩ => ?_
  subst he
  refine ⟨_, rfl, _, _, _, [], [] ++ ([] ++ ([] ++ ([] ++ ([] ++ ([] ++ p6'))))), [], hW', ?_, ?_, ?_, hb.frame _, fun h => by cases h⟩
  · exact trodAll_mk1 (shut_bool Try.underlying4 _)
  · exact ⟨[], _, shut_int Try.underlying22 we, ⟨[], _, shut_int Try.underlying22 wo, ⟨[], _, shut_int Try.underlying5 wd, ⟨[], _, shut_int Try.underlying23 wi, ⟨[], _, shut_int Try.underlying5 wp, ⟨[], _, shut_int Try.underlying22 wq, trodAll_mk1 (law_args1 (by kernel_rfl) (of_decide_eq_true (by kernel_rfl)) h6 hb (fun x hx => hlt x (by simp [hx]))), rfl⟩, rfl⟩, rfl⟩, rfl⟩, rfl⟩, rfl⟩
  · exact rfl

theorem decideReadsOnlyItsTwoKeys : Rows.FnDecideReadsOnlyItsTwoKeysSaid :=
  OpenClaim.holds_of_wide 4 Try.f4 rfl rfl rfl rfl rfl rfl rfl ⟨rfl, rfl, rfl, rfl, rfl⟩ rfl rfl rfl rfl rfl (by kernel_rfl) Try.func4 (by kernel_rfl)
    (of_decide_eq_true (by kernel_rfl)) (by unfold Func.isWrapper; first | (rw [if_pos (by decide +kernel)]; kernel_rfl) | (rw [if_neg (by decide +kernel)]; exact ⟨rfl, rfl⟩))
    (fun os started H enc _ => lifted4 os started H enc)
end Go.Proofs.Qxb6612879a
