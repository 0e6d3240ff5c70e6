/-
  '!=' on two peers.
-/
import Derived.Test.Qxb6612853aW8
namespace Go.Proofs.Qxb6612853a
open Go.RowKit

theorem peerA_extract {l : List Nat} (h : IsID l) : (peerA l).extract 0 32 = idA l ∧ (peerA l).extract 32 34 = #[.string ⟨#[]⟩, .string ⟨#[]⟩] := by
  have hs := idA_size l
  rw [h.1] at hs
  unfold peerA
  constructor
  · have e : (idA l).extract 0 32 = idA l := by
      have h32 : (idA l).extract 0 (idA l).size = idA l := Array.extract_size
      rw [hs] at h32
      exact h32
    rw [Array.extract_append, e]
    simp [hs]
  · rw [Array.extract_append]
    simp [hs]

theorem eqFields_cons {P : Program} (w : World) (d : Nat) (xs ys : Array Value) (f : Field) (fs : List Field) (hn : f.name ≠ "_") {a b : Value} {r : Bool} (h1 : (part f.type xs f.offset).run P w = .ok a w) (h2 : (part f.type ys f.offset).run P w = .ok b w) (h3 : (Op.equalIn d f.type a b).run P w = .ok r w) :
    (Op.eqFields d xs ys (f :: fs)).run P w = if r = true then (Op.eqFields d xs ys fs).run P w else .ok false w := by
  simp only [Op.eqFields, hn, ne_eq, not_false_eq_true, if_true, Sem.run_bind, h1, h2, h3, Result.andThen_ok]
  cases r <;> simp

theorem run_equalIn_peer (w : World) (d : Nat) (a b : List Nat) (ha : IsID a) (hb : IsID b) : (Op.equalIn (d + 3) 32 (.agg (peerA a)) (.agg (peerA b))).run Try.prog w = .ok (a == b) w := by
  have e1 : ∀ l, IsID l → (part 27 (peerA l) 0).run Try.prog w = .ok (.agg (idA l)) w := fun l hl => by
    simp [part, (peerA_extract hl).1]
  have e2 : ∀ l, IsID l → (part 30 (peerA l) 32).run Try.prog w = .ok (.agg #[.string ⟨#[]⟩, .string ⟨#[]⟩]) w := fun l hl => by
    simp [part, (peerA_extract hl).2]
  have e3 : (Op.equalIn (d + 2) 30 (.agg #[.string ⟨#[]⟩, .string ⟨#[]⟩]) (.agg #[.string ⟨#[]⟩, .string ⟨#[]⟩])).run Try.prog w = .ok true w := by
    rw [run_equalIn_struct w (d + 1) 30 _ _ (by simp [Program.fieldsOf]) Try.stoodInHeld30]
    simp [Program.fieldsOf, Op.eqFields, part, run_equalIn_string w d 9 _ _ Try.underlying9, run_equalIn_string w d 28 _ _ Try.underlying28]
  have h27 := run_equalIn_id w 27 Try.underlying27 d a b ha.1 hb.1
  rw [run_equalIn_struct w (d + 2) 32 _ _ (by simp [Program.fieldsOf]) Try.stoodInHeld32]
  have hf : (Try.prog.fieldsOf 32).toList = [⟨"ID", 27, 0, false, "", "", 0⟩, ⟨"Address", 30, 32, false, "", "", 32⟩] := by simp [Program.fieldsOf]
  rw [hf, eqFields_cons w (d + 2) (peerA a) (peerA b) ⟨"ID", 27, 0, false, "", "", 0⟩ [⟨"Address", 30, 32, false, "", "", 32⟩] (by decide) (e1 a ha) (e1 b hb) h27, eqFields_cons w (d + 2) (peerA a) (peerA b) ⟨"Address", 30, 32, false, "", "", 32⟩ [] (by decide) (e2 a ha) (e2 b hb) e3]
  cases a == b <;> rfl

theorem exec_neqpeer {ρ : Operand → Value} (w : World) {o : Oper} (ty : TypeId) (x y : Operand) (ho : o.op = .binOp .neq 32 x y ty) (a b : List Nat) (ha : IsID a) (hb : IsID b) (hx : ρ x = .agg (peerA a)) (hy : ρ y = .agg (peerA b)) :
    (execOp ρ o).run Try.prog w = .ok (.value (.bool (!(a == b)))) w := by
  unfold execOp
  simp only [ho, hx, hy, Sem.run_bind, run_eqGuard_agg w .neq 32 x y _ _ Try.eqGuardType32, Result.andThen_ok, run_neq_struct, run_equalIn_peer w 9997 a b ha hb, Sem.run_pure]
end Go.Proofs.Qxb6612853a
