/-
  FnSetSpareKeepsLatestPerBandSaid: the row.
-/
import Derived.Test.Qxb6612853aL3
import Derived.Test.Qxb6612853aOpen
import Derived.Test.Qxb6612853aOpen
namespace Go.Proofs.Qxb6612853a
open Go.ChangeShapes Go.WideShapes Go.ChangeAt Go.RowKit

set_option maxRecDepth 100000 in
theorem lifted3 (os : Os) (started : os.Started) (H : Type) (enc : TypeId × Value → H) :
    ReturnsInHanded {} Try.checked os 3 .any (Rows.fnSetSpareKeepsLatestPerBandSpec.pre6 enc Try.prog Try.f3 Rows.fnSetSpareKeepsLatestPerBandRow.domain false) (Rows.fnSetSpareKeepsLatestPerBandSpec.post enc Try.prog Try.f3 false true false false) := by
  refine returnsInHanded_of_change (C := Try.checked) Try.own started (by kernel_rfl) Try.func3
    (ChangeSpec.witness6 (enc := enc) (C := Try.checked) false ⟨#[], #[.agg (Array.replicate 32 (.int .u8 0)), .slice none 0 0], []⟩ 8 (by kernel_rfl) (by kernel_rfl) (by kernel_rfl) (by kernel_rfl)) ?_
  intro W base args ds gs before hval0 hW hcnd _
  have hval : ∀ (j : Nat) t v, Try.f3.params[j]? = some t → args[j]? = some v → Value.okWide Try.prog W .any base t v := hval0
  have hW' := hW
  obtain ⟨p, q, hA0, hV, rfl, hfz, hnd⟩ := hW
  have hA : DataW.TrodAll enc Try.prog W 0 (fun _ => true) true Try.f3.params.toList args.toList ds p := hA0
  rw [Try.params3] at hA hval
  obtain ⟨v0, v1, d0, d1, p0, p1, rfl, rfl, rfl, h0, h1⟩ := trodAll_two hA
  obtain ⟨rfl, rfl⟩ := trodVars_none hV
  obtain ⟨self, hself, rfl⟩ := open_id (hval 0 22 v0 rfl rfl) h0
  obtain ⟨ids, ao, cap, rfl, hids, hat⟩ := open_ids (hval 1 23 v1 rfl rfl) h1
  clear hA0 hval0
  have hlt : ∀ x ∈ p0 ++ p1 ++ [], x.block < W.heap.size := fun x hx => hW'.lt x hx
  refine (law3 self ids hself hids ao cap W hat).mono fun e W' ⟨he, hb⟩ => ?_
  subst he
  refine ⟨_, rfl, _, _, _, [], p0 ++ p1, [], hW', ?_, ?_, ?_, hb.frame _, fun h => by cases h⟩
  · exact trodAll_mk1 (shut_bool Try.underlying4 _)
  · exact trodAll_mk2 (law_args1 (by kernel_rfl) (of_decide_eq_true (by kernel_rfl)) h0 hb (fun x hx => hlt x (by simp [hx]))) (law_args1 (by kernel_rfl) (of_decide_eq_true (by kernel_rfl)) h1 hb (fun x hx => hlt x (by simp [hx])))
  · exact rfl

theorem setSpareKeepsLatestPerBand : Rows.FnSetSpareKeepsLatestPerBandSaid :=
  OpenClaim.holds_of_wide 3 Try.f3 rfl rfl rfl rfl rfl rfl rfl ⟨rfl, rfl, rfl, rfl, rfl⟩ rfl rfl rfl rfl rfl (by kernel_rfl) Try.func3 (by kernel_rfl)
    (of_decide_eq_true (by kernel_rfl)) (by unfold Func.isWrapper; first | (rw [if_pos (by decide +kernel)]; kernel_rfl) | (rw [if_neg (by decide +kernel)]; exact ⟨rfl, rfl⟩))
    (fun os started H enc _ => lifted3 os started H enc)
end Go.Proofs.Qxb6612853a
