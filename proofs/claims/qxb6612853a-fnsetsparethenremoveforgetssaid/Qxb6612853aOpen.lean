/-
  The arguments opened: an identity, a slice of identities; the frame of a law's row.
-/
import Derived.Test.Qxb6612853aBase
import Derived.ProofKit
import Derived.OpenShut
import Derived.Deep.Slices
namespace Go.Proofs.Qxb6612853a
open Go.ChangeShapes Go.WideShapes Go.ChangeAt Go.RowKit

theorem Try.own : ownKnob Try.prog.godebug = none := by kernel_rfl
theorem Try.laidOut : laidOutB Try.prog = true := by kernel_rfl
theorem Try.cells22 : Try.prog.cellsOf 22 = 32 := by kernel_rfl
theorem Try.cells5 : Try.prog.cellsOf 5 = 1 := by kernel_rfl

theorem id_of_cells (cs : List Value) (hl : cs.length = 32) (h : ∀ i, i < 32 → ∃ n : Int, cs[i]? = some (.int .u8 n) ∧ 0 ≤ n ∧ n < 256) : ∃ l, IsID l ∧ cs.toArray = idA l := by
  refine ⟨cs.map fun v => (intOf v).toNat, ⟨by simp [hl], fun x hx => ?_⟩, ?_⟩
  · obtain ⟨v, hv, rfl⟩ := List.mem_map.1 hx
    obtain ⟨i, hi, rfl⟩ := List.mem_iff_getElem.1 hv
    obtain ⟨n, hn, h0, h1⟩ := h i (by omega)
    rw [List.getElem?_eq_getElem hi] at hn
    simp only [Option.some.injEq] at hn
    rw [hn]
    simp [intOf]; omega
  · unfold idA
    congr 1
    apply List.ext_getElem?
    intro i
    by_cases hi : i < 32
    · obtain ⟨n, hn, h0, h1⟩ := h i hi
      simp only [List.map_map, List.getElem?_map, hn, Option.map_some, Function.comp, intOf]
      congr 2
      omega
    · rw [List.getElem?_eq_none (by omega), List.getElem?_eq_none (by simp; omega)]

section
variable {H : Type} {enc : TypeId × Value → H} {w : World} {base : Nat} {spare : Nat → Bool} {held : Bool}

theorem id_of_trod {fuel : Nat} {cs : List Value} {x : DataW H × List MemPlace} (h : DataW.trod enc Try.prog w base spare held fuel 22 cs = some x) : ∃ l, IsID l ∧ cs.toArray = idA l := by
  obtain ⟨xs, m, _, _, hl, hxl, hx⟩ := DataW.trod_array Try.underlying22 h
  rw [Try.cells22] at hl
  refine id_of_cells cs hl fun i hi => ?_
  have h1 := hx i hi
  rw [Try.cells5, Nat.mul_one, List.getElem?_eq_getElem (by omega)] at h1
  obtain ⟨n, hn, _, hw⟩ := DataW.trod_int Try.underlying5 h1
  refine ⟨n, ?_, ?_⟩
  · have e : (cs.drop i).take 1 = [cs[i]] := by rw [List.drop_eq_getElem_cons (by omega), List.take_succ_cons, List.take_zero]
    rw [e] at hn
    simp only [List.cons.injEq, and_true] at hn
    rw [List.getElem?_eq_getElem (by omega), hn]
  · simp [Lit.wf, IntKind.min, IntKind.max, IntKind.signed, IntKind.bits] at hw
    omega

theorem open_id {r : Reach} {b0 : Nat} {v : Value} {d : DataW H} {ps : List MemPlace} (hval : Value.okWide Try.prog w r b0 22 v) (hd : DataW.Trod enc Try.prog w base spare held 22 v d ps) : ∃ l, IsID l ∧ v = .agg (idA l) := by
  obtain ⟨cs, rfl, hs, _⟩ : ∃ cs, v = .agg cs ∧ cs.size = Try.prog.cellsOf 22 ∧ Row.okWide Try.prog w r b0 22 cs := by
    have := hval
    unfold Value.okWide at this
    rw [Try.underlying22] at this
    exact this
  obtain ⟨fuel, hf⟩ := hd
  obtain ⟨l, hl, he⟩ := id_of_trod hf
  refine ⟨l, hl, ?_⟩
  rw [← he]
  simp [Value.cells]

theorem open_ids {r : Reach} {b0 : Nat} {v : Value} {d : DataW H} {ps : List MemPlace} (hval : Value.okWide Try.prog w r b0 23 v) (hd : DataW.Trod enc Try.prog w 0 (fun _ => true) held 23 v d ps) :
    ∃ (ids : List (List Nat)) (ao : Option Addr) (cap : Nat), v = .slice ao ids.length cap ∧ AllID ids ∧ IdsAt w ao ids := by
  obtain ⟨a0, len, cap, rfl⟩ := okWide_slice Try.underlying23 hval
  obtain ⟨fuel, hf⟩ := hd
  rcases Deep.open_slice Try.underlying23 hf with ⟨hcs, _⟩ | ⟨a, len', cap', m, n, D, Pl, hcs, _, hlc, _, hm, _, hx⟩
  · simp [Value.cells] at hcs
    obtain ⟨rfl, rfl, rfl⟩ := hcs
    exact ⟨[], none, 0, rfl, fun i hi => absurd hi (Nat.not_lt_zero _), fun h => absurd h (Nat.lt_irrefl _)⟩
  · simp [Value.cells] at hcs
    obtain ⟨rfl, rfl, rfl⟩ := hcs
    simp only [if_true] at hm
    have raw : ∀ i, i < len → ∃ l, IsID l ∧ ∀ j, j < 32 → w.cell? (a.add (i * 32 + j)) = (idA l)[j]? := by
      intro i hi
      obtain ⟨cs', h1, h2⟩ := hx i (by omega)
      obtain ⟨l, hl, he⟩ := id_of_trod h2
      rw [Try.cells22] at h1
      obtain ⟨_, hl32, hc⟩ := World.cells?_some h1
      refine ⟨l, hl, fun j hj => ?_⟩
      rw [← Deep.add_add, hc j hj, ← he]
      simp
    obtain ⟨F, hF⟩ := Deep.choose_lt (α := List Nat) (p := fun i l => IsID l ∧ ∀ j, j < 32 → w.cell? (a.add (i * 32 + j)) = (idA l)[j]?) raw
    have hget : ∀ i, i < len → ((List.range len).map F).getD i [] = F i := fun i hi => by simp [List.getD, hi]
    refine ⟨(List.range len).map F, some a, cap, by simp, fun i hi => ?_, fun h0 => ?_⟩
    · have hi' : i < len := by simpa using hi
      rw [hget i hi']
      exact (hF i hi').1
    · have h0' : 0 < len := by simpa using h0
      have hc0 := (hF 0 h0').2 0 (by omega)
      have hi0 := (hF 0 h0').1
      rw [idA_get _ _ (by rw [hi0.1]; omega)] at hc0
      obtain ⟨b, off, sp⟩ := a
      have hsp : sp = none := by simpa [Addr.add] using World.cell?_spot hc0
      subst hsp
      refine ⟨b, off, rfl, ?_, fun i hi => ?_⟩
      · have := World.block_lt_of_cell? w _ hc0
        rwa [Addr.add_lit] at this
      · have hi' : i < len := by simpa using hi
        rw [hget i hi']
        intro j hj
        have hid := (hF i hi').1
        rw [idA_size, hid.1] at hj
        have := (hF i hi').2 j hj
        rw [Addr.add_lit] at this
        rw [← this, Nat.add_assoc]
end

/-- What a law's row asks: the arguments read as they did, nothing old has turned. -/
theorem law_args1 {H : Type} {enc : TypeId × Value → H} {W W' : World} {t : TypeId} {v : Value} {d : DataW H} {ps : List MemPlace} (hr : Try.prog.readableRec t = true) (hrow : t < Try.prog.types.size)
    (h : DataW.Trod enc Try.prog W 0 (fun _ => true) true t v d ps) (hb : Below W.heap.size W W') (hlt : ∀ x ∈ ps, x.block < W.heap.size) : DataW.Trod enc Try.prog W' 0 (fun b => decide (b < W.heap.size)) true t v d ps :=
  Below.trod Try.laidOut hr hrow h hb hlt
end Go.Proofs.Qxb6612853a
