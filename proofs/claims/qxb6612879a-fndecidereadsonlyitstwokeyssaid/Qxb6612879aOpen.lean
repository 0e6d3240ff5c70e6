/-
  The arguments opened: integers, a slice of rows; the frame of a law's row.
-/
import Derived.Test.Qxb6612879aPlain
import Derived.ProofKit
import Derived.OpenShut
import Derived.Deep.Slices
namespace Go.Proofs.Qxb6612879a
open Go.ChangeShapes Go.WideShapes Go.ChangeAt Go.RowKit

theorem Try.own : ownKnob Try.prog.godebug = none := by kernel_rfl
theorem Try.laidOut : laidOutB Try.prog = true := by kernel_rfl
theorem Try.cells48 : Try.prog.cellsOf 48 = 19 := by kernel_rfl
theorem Try.cells46 : Try.prog.cellsOf 46 = 8 := by kernel_rfl
theorem Try.cells30 : Try.prog.cellsOf 30 = 8 := by kernel_rfl
theorem Try.cells5 : Try.prog.cellsOf 5 = 1 := by kernel_rfl
theorem Try.cells22 : Try.prog.cellsOf 22 = 1 := by kernel_rfl
theorem Try.cells23 : Try.prog.cellsOf 23 = 1 := by kernel_rfl
theorem Try.cells4 : Try.prog.cellsOf 4 = 1 := by kernel_rfl

instance : Inhabited Ans := ⟨zeroAns⟩
theorem list19 {α : Type} : ∀ (l : List α), l.length = 19 → ∃ c0 c1 c2 c3 c4 c5 c6 c7 c8 c9 c10 c11 c12 c13 c14 c15 c16 c17 c18, l = [c0, c1, c2, c3, c4, c5, c6, c7, c8, c9, c10, c11, c12, c13, c14, c15, c16, c17, c18]
  | [c0, c1, c2, c3, c4, c5, c6, c7, c8, c9, c10, c11, c12, c13, c14, c15, c16, c17, c18], _ => ⟨c0, c1, c2, c3, c4, c5, c6, c7, c8, c9, c10, c11, c12, c13, c14, c15, c16, c17, c18, rfl⟩

section
variable {H : Type} {enc : TypeId × Value → H} {w : World} {base : Nat} {spare : Nat → Bool} {held : Bool}

theorem int_of {t : TypeId} {k : IntKind} {fuel i : Nat} {c : Value} {xs : List (DataW H × List MemPlace)} (ht : Try.prog.underlying t = some (.int k)) (h : DataW.trod enc Try.prog w base spare held fuel t [c] = xs[i]?) (hi : i < xs.length) : ∃ n, c = .int k n := by
  rw [List.getElem?_eq_getElem hi] at h
  obtain ⟨n, hn, _⟩ := DataW.trod_int ht h
  exact ⟨n, by simpa using hn⟩

theorem row_of_trod {fuel : Nat} {cs : List Value} {x : DataW H × List MemPlace} (h : DataW.trod enc Try.prog w base spare held fuel 48 cs = some x) : ∃ (k : List Int) (a : Ans), k.length = 8 ∧ cs.toArray = rowA k a := by
  obtain ⟨xs, n, _, _, hl, hxl, hf⟩ := DataW.trod_struct Try.underlying48 h
  rw [Try.cells48] at hl
  obtain ⟨c0, c1, c2, c3, c4, c5, c6, c7, c8, c9, c10, c11, c12, c13, c14, c15, c16, c17, c18, rfl⟩ := list19 cs hl
  have hxl5 : xs.length = 5 := hxl
  have f0 : DataW.trod enc Try.prog w base spare held n 30 (([c0, c1, c2, c3, c4, c5, c6, c7, c8, c9, c10, c11, c12, c13, c14, c15, c16, c17, c18].drop 0).take (Try.prog.cellsOf 30)) = xs[0]? := hf 0 _ rfl
  have f1 : DataW.trod enc Try.prog w base spare held n 5 (([c0, c1, c2, c3, c4, c5, c6, c7, c8, c9, c10, c11, c12, c13, c14, c15, c16, c17, c18].drop 8).take (Try.prog.cellsOf 5)) = xs[1]? := hf 1 _ rfl
  have f2 : DataW.trod enc Try.prog w base spare held n 22 (([c0, c1, c2, c3, c4, c5, c6, c7, c8, c9, c10, c11, c12, c13, c14, c15, c16, c17, c18].drop 9).take (Try.prog.cellsOf 22)) = xs[2]? := hf 2 _ rfl
  have f3 : DataW.trod enc Try.prog w base spare held n 46 (([c0, c1, c2, c3, c4, c5, c6, c7, c8, c9, c10, c11, c12, c13, c14, c15, c16, c17, c18].drop 10).take (Try.prog.cellsOf 46)) = xs[3]? := hf 3 _ rfl
  have f4 : DataW.trod enc Try.prog w base spare held n 4 (([c0, c1, c2, c3, c4, c5, c6, c7, c8, c9, c10, c11, c12, c13, c14, c15, c16, c17, c18].drop 18).take (Try.prog.cellsOf 4)) = xs[4]? := hf 4 _ rfl
  simp only [Try.cells30, Try.cells5, Try.cells22, Try.cells46, Try.cells4, List.drop_succ_cons, List.drop_zero, List.take_succ_cons, List.take_zero] at f0 f1 f2 f3 f4
  obtain ⟨nv, rfl⟩ := int_of Try.underlying5 f1 (by omega)
  obtain ⟨npp, rfl⟩ := int_of Try.underlying22 f2 (by omega)
  rw [List.getElem?_eq_getElem (by omega)] at f4 f0 f3
  obtain ⟨bd, hbd, _⟩ := DataW.trod_bool Try.underlying4 f4
  simp only [List.cons.injEq, and_true] at hbd
  subst hbd
  obtain ⟨ys, m, _, _, _, hyl, hk⟩ := DataW.trod_array Try.underlying30 f0
  have g0 := hk 0 (by omega)
  have g1 := hk 1 (by omega)
  have g2 := hk 2 (by omega)
  have g3 := hk 3 (by omega)
  have g4 := hk 4 (by omega)
  have g5 := hk 5 (by omega)
  have g6 := hk 6 (by omega)
  have g7 := hk 7 (by omega)
  simp only [Try.cells5, Nat.mul_one, List.drop_succ_cons, List.drop_zero, List.take_succ_cons, List.take_zero] at g0 g1 g2 g3 g4 g5 g6 g7
  obtain ⟨n0, rfl⟩ := int_of Try.underlying5 g0 (by omega)
  obtain ⟨n1, rfl⟩ := int_of Try.underlying5 g1 (by omega)
  obtain ⟨n2, rfl⟩ := int_of Try.underlying5 g2 (by omega)
  obtain ⟨n3, rfl⟩ := int_of Try.underlying5 g3 (by omega)
  obtain ⟨n4, rfl⟩ := int_of Try.underlying5 g4 (by omega)
  obtain ⟨n5, rfl⟩ := int_of Try.underlying5 g5 (by omega)
  obtain ⟨n6, rfl⟩ := int_of Try.underlying5 g6 (by omega)
  obtain ⟨n7, rfl⟩ := int_of Try.underlying5 g7 (by omega)
  obtain ⟨zs, m2, _, _, _, hzl, hr⟩ := DataW.trod_struct Try.underlying46 f3
  have hzl8 : zs.length = 8 := hzl
  have r0 : DataW.trod enc Try.prog w base spare held m2 5 (([c10, c11, c12, c13, c14, c15, c16, c17].drop 0).take (Try.prog.cellsOf 5)) = zs[0]? := hr 0 _ rfl
  have r1 : DataW.trod enc Try.prog w base spare held m2 23 (([c10, c11, c12, c13, c14, c15, c16, c17].drop 1).take (Try.prog.cellsOf 23)) = zs[1]? := hr 1 _ rfl
  have r2 : DataW.trod enc Try.prog w base spare held m2 5 (([c10, c11, c12, c13, c14, c15, c16, c17].drop 2).take (Try.prog.cellsOf 5)) = zs[2]? := hr 2 _ rfl
  have r3 : DataW.trod enc Try.prog w base spare held m2 5 (([c10, c11, c12, c13, c14, c15, c16, c17].drop 3).take (Try.prog.cellsOf 5)) = zs[3]? := hr 3 _ rfl
  have r4 : DataW.trod enc Try.prog w base spare held m2 22 (([c10, c11, c12, c13, c14, c15, c16, c17].drop 4).take (Try.prog.cellsOf 22)) = zs[4]? := hr 4 _ rfl
  have r5 : DataW.trod enc Try.prog w base spare held m2 22 (([c10, c11, c12, c13, c14, c15, c16, c17].drop 5).take (Try.prog.cellsOf 22)) = zs[5]? := hr 5 _ rfl
  have r6 : DataW.trod enc Try.prog w base spare held m2 5 (([c10, c11, c12, c13, c14, c15, c16, c17].drop 6).take (Try.prog.cellsOf 5)) = zs[6]? := hr 6 _ rfl
  have r7 : DataW.trod enc Try.prog w base spare held m2 22 (([c10, c11, c12, c13, c14, c15, c16, c17].drop 7).take (Try.prog.cellsOf 22)) = zs[7]? := hr 7 _ rfl
  simp only [Try.cells5, Try.cells22, Try.cells23, List.drop_succ_cons, List.drop_zero, List.take_succ_cons, List.take_zero] at r0 r1 r2 r3 r4 r5 r6 r7
  obtain ⟨m0', rfl⟩ := int_of Try.underlying5 r0 (by omega)
  obtain ⟨m1', rfl⟩ := int_of Try.underlying23 r1 (by omega)
  obtain ⟨m2', rfl⟩ := int_of Try.underlying5 r2 (by omega)
  obtain ⟨m3', rfl⟩ := int_of Try.underlying5 r3 (by omega)
  obtain ⟨m4', rfl⟩ := int_of Try.underlying22 r4 (by omega)
  obtain ⟨m5', rfl⟩ := int_of Try.underlying22 r5 (by omega)
  obtain ⟨m6', rfl⟩ := int_of Try.underlying5 r6 (by omega)
  obtain ⟨m7', rfl⟩ := int_of Try.underlying22 r7 (by omega)
  exact ⟨[n0, n1, n2, n3, n4, n5, n6, n7], ⟨nv, npp, m0', m1', m2', m3', m4', m5', m6', m7', bd⟩, rfl, rfl⟩

theorem open_rows {r : Reach} {b0 : Nat} {v : Value} {d : DataW H} {ps : List MemPlace} (hval : Value.okWide Try.prog w r b0 24 v) (hd : DataW.Trod enc Try.prog w 0 (fun _ => true) held 24 v d ps) :
    ∃ (T : List Row) (ao : Option Addr) (cap : Nat), v = .slice ao T.length cap ∧ T8 T ∧ RowsAt w ao T := by
  obtain ⟨a0, len, cap, rfl⟩ := okWide_slice Try.underlying24 hval
  obtain ⟨fuel, hf⟩ := hd
  rcases Deep.open_slice Try.underlying24 hf with ⟨hcs, _⟩ | ⟨a, len', cap', m, n, D, Pl, hcs, _, hlc, _, hm, _, hx⟩
  · simp [Value.cells] at hcs
    obtain ⟨rfl, rfl, rfl⟩ := hcs
    exact ⟨[], none, 0, rfl, fun i hi => absurd hi (Nat.not_lt_zero _), fun h => absurd h (Nat.lt_irrefl _)⟩
  · simp [Value.cells] at hcs
    obtain ⟨rfl, rfl, rfl⟩ := hcs
    simp only [if_true] at hm
    have raw : ∀ i, i < len → ∃ x : Row, x.1.length = 8 ∧ ∀ j, j < 19 → w.cell? (a.add (i * 19 + j)) = (rowA x.1 x.2)[j]? := by
      intro i hi
      obtain ⟨cs', h1, h2⟩ := hx i (by omega)
      obtain ⟨k, an, hk, he⟩ := row_of_trod h2
      rw [Try.cells48] at h1
      obtain ⟨_, hl19, hc⟩ := World.cells?_some h1
      refine ⟨(k, an), hk, fun j hj => ?_⟩
      rw [← Deep.add_add, hc j hj, ← he]
      simp
    obtain ⟨F, hF⟩ := Deep.choose_lt (α := Row) (p := fun i x => x.1.length = 8 ∧ ∀ j, j < 19 → w.cell? (a.add (i * 19 + j)) = (rowA x.1 x.2)[j]?) raw
    have hget : ∀ i, i < len → ((List.range len).map F).getD i row0 = F i := fun i hi => by simp [List.getD, hi]
    refine ⟨(List.range len).map F, some a, cap, by simp, fun i hi => ?_, fun h0 => ?_⟩
    · have hi' : i < len := by simpa using hi
      rw [hget i hi']
      exact (hF i hi').1
    · have h0' : 0 < len := by simpa using h0
      have hc0 := (hF 0 h0').2 0 (by omega)
      have hs0 := rowA_size (hF 0 h0').1 (F 0).2
      rw [Array.getElem?_eq_getElem (by rw [hs0]; omega)] at hc0
      obtain ⟨b, off, sp⟩ := a
      have hsp : sp = none := by simpa [Addr.add] using World.cell?_spot hc0
      subst hsp
      refine ⟨b, off, rfl, ?_, fun i hi => ?_⟩
      · have := World.block_lt_of_cell? w _ hc0
        rwa [Addr.add_lit] at this
      · have hi' : i < len := by simpa using hi
        rw [hget i hi']
        intro j hj
        rw [rowA_size (hF i hi').1] at hj
        have := (hF i hi').2 j hj
        rw [Addr.add_lit] at this
        rw [← this, Nat.add_assoc]

theorem wf_range {k : IntKind} {n : Int} (h : (Lit.int k n).wf = true) : k.min ≤ n ∧ n ≤ k.max := by
  simpa [Lit.wf] using h
end

/-- What a law's row asks: the arguments read as they did, nothing old has turned. -/
theorem law_args1 {H : Type} {enc : TypeId × Value → H} {W W' : World} {t : TypeId} {v : Value} {d : DataW H} {ps : List MemPlace} (hr : Try.prog.readableRec t = true) (hrow : t < Try.prog.types.size)
    (h : DataW.Trod enc Try.prog W 0 (fun _ => true) true t v d ps) (hb : Below W.heap.size W W') (hlt : ∀ x ∈ ps, x.block < W.heap.size) : DataW.Trod enc Try.prog W' 0 (fun b => decide (b < W.heap.size)) true t v d ps :=
  Below.trod Try.laidOut hr hrow h hb hlt

section
variable {H : Type} {enc : TypeId × Value → H} {P : Program} {w : World} {base : Nat} {spare : Nat → Bool} {held : Bool}
theorem trodAll_six {t0 t1 t2 t3 t4 t5 : TypeId} {args : Array Value} {ds : List (DataW H)} {ps : List MemPlace} (h : DataW.TrodAll enc P w base spare held [t0, t1, t2, t3, t4, t5] args.toList ds ps) :
    ∃ v0 v1 v2 v3 v4 v5 d0 d1 d2 d3 d4 d5 p0 p1 p2 p3 p4 p5, args = #[v0, v1, v2, v3, v4, v5] ∧ ds = [d0, d1, d2, d3, d4, d5] ∧ ps = p0 ++ p1 ++ p2 ++ p3 ++ p4 ++ p5 ∧ DataW.Trod enc P w base spare held t0 v0 d0 p0 ∧ DataW.Trod enc P w base spare held t1 v1 d1 p1 ∧ DataW.Trod enc P w base spare held t2 v2 d2 p2 ∧ DataW.Trod enc P w base spare held t3 v3 d3 p3 ∧ DataW.Trod enc P w base spare held t4 v4 d4 p4 ∧ DataW.Trod enc P w base spare held t5 v5 d5 p5 := by
  obtain ⟨v0, vs0, d0, ds0, p0, q0, hargs, rfl, rfl, hd0, h0⟩ := trodAll_cons h
  obtain ⟨v1, vs1, d1, ds1, p1, q1, rfl, rfl, rfl, hd1, h1⟩ := trodAll_cons h0
  obtain ⟨v2, vs2, d2, ds2, p2, q2, rfl, rfl, rfl, hd2, h2⟩ := trodAll_cons h1
  obtain ⟨v3, vs3, d3, ds3, p3, q3, rfl, rfl, rfl, hd3, h3⟩ := trodAll_cons h2
  obtain ⟨v4, vs4, d4, ds4, p4, q4, rfl, rfl, rfl, hd4, h4⟩ := trodAll_cons h3
  obtain ⟨v5, vs5, d5, ds5, p5, q5, rfl, rfl, rfl, hd5, h5⟩ := trodAll_cons h4
  obtain ⟨rfl, rfl, rfl⟩ := trodAll_nil h5
  exact ⟨v0, v1, v2, v3, v4, v5, d0, d1, d2, d3, d4, d5, p0, p1, p2, p3, p4, p5, by cases args; simp_all, rfl, by simp, hd0, hd1, hd2, hd3, hd4, hd5⟩
theorem trodAll_seven {t0 t1 t2 t3 t4 t5 t6 : TypeId} {args : Array Value} {ds : List (DataW H)} {ps : List MemPlace} (h : DataW.TrodAll enc P w base spare held [t0, t1, t2, t3, t4, t5, t6] args.toList ds ps) :
    ∃ v0 v1 v2 v3 v4 v5 v6 d0 d1 d2 d3 d4 d5 d6 p0 p1 p2 p3 p4 p5 p6, args = #[v0, v1, v2, v3, v4, v5, v6] ∧ ds = [d0, d1, d2, d3, d4, d5, d6] ∧ ps = p0 ++ p1 ++ p2 ++ p3 ++ p4 ++ p5 ++ p6 ∧ DataW.Trod enc P w base spare held t0 v0 d0 p0 ∧ DataW.Trod enc P w base spare held t1 v1 d1 p1 ∧ DataW.Trod enc P w base spare held t2 v2 d2 p2 ∧ DataW.Trod enc P w base spare held t3 v3 d3 p3 ∧ DataW.Trod enc P w base spare held t4 v4 d4 p4 ∧ DataW.Trod enc P w base spare held t5 v5 d5 p5 ∧ DataW.Trod enc P w base spare held t6 v6 d6 p6 := by
  obtain ⟨v0, vs0, d0, ds0, p0, q0, hargs, rfl, rfl, hd0, h0⟩ := trodAll_cons h
  obtain ⟨v1, vs1, d1, ds1, p1, q1, rfl, rfl, rfl, hd1, h1⟩ := trodAll_cons h0
  obtain ⟨v2, vs2, d2, ds2, p2, q2, rfl, rfl, rfl, hd2, h2⟩ := trodAll_cons h1
  obtain ⟨v3, vs3, d3, ds3, p3, q3, rfl, rfl, rfl, hd3, h3⟩ := trodAll_cons h2
  obtain ⟨v4, vs4, d4, ds4, p4, q4, rfl, rfl, rfl, hd4, h4⟩ := trodAll_cons h3
  obtain ⟨v5, vs5, d5, ds5, p5, q5, rfl, rfl, rfl, hd5, h5⟩ := trodAll_cons h4
  obtain ⟨v6, vs6, d6, ds6, p6, q6, rfl, rfl, rfl, hd6, h6⟩ := trodAll_cons h5
  obtain ⟨rfl, rfl, rfl⟩ := trodAll_nil h6
  exact ⟨v0, v1, v2, v3, v4, v5, v6, d0, d1, d2, d3, d4, d5, d6, p0, p1, p2, p3, p4, p5, p6, by cases args; simp_all, rfl, by simp, hd0, hd1, hd2, hd3, hd4, hd5, hd6⟩
end
end Go.Proofs.Qxb6612879a
