/-
  Keys and answers compared; maps from keys to answers.
-/
import Derived.Test.Qxb6612879aW1
import Derived.WideKeyRuns
namespace Go.Proofs.Qxb6612879a
open Go.RowKit

theorem run_eqItems_key {P : Program} (w : World) (he : P.underlying 5 = some (.int .u8)) (hc : P.cellsOf 5 = 1) (d : Nat) (a b : List Int) (ha : a.length = 8) (hb : b.length = 8) : ∀ (n i : Nat), i + n = 8 →
    (Op.eqItems (d + 1) 5 (P.cellsOf 5) (keyA a) (keyA b) (List.range' i n)).run P w = .ok ((a.drop i) == (b.drop i)) w
  | 0, i, h => by
    have : i = 8 := by omega
    subst this
    simp [Op.eqItems, List.drop_of_length_le, ha, hb]
  | n + 1, i, h => by
    have ih := run_eqItems_key w he hc d a b ha hb n (i + 1) (by omega)
    have pa : ∀ l : List Int, (hl : l.length = 8) → (part 5 (keyA l) (i * P.cellsOf 5)).run P w = .ok (.int .u8 (l[i]'(by omega))) w := by
      intro l hl
      rw [hc, Nat.mul_one]
      have hg : (keyA l)[i]? = some (.int .u8 (l[i]'(by omega))) := by simp [keyA, show i < l.length by omega]
      simp [part, isAgg, run_underlying he, hg]
    rw [List.range'_succ]
    simp only [Op.eqItems, Sem.run_bind, pa a ha, pa b hb, Result.andThen_ok, run_equalIn_int w d 5 .u8 .u8 _ _ he]
    have ea : a.drop i = a[i] :: a.drop (i + 1) := List.drop_eq_getElem_cons (by omega)
    have eb : b.drop i = b[i] :: b.drop (i + 1) := List.drop_eq_getElem_cons (by omega)
    rw [ea, eb, List.cons_beq_cons]
    by_cases e : a[i] = b[i]
    · simp [e, ih]
    · have e2 : (a[i] == b[i]) = false := by simp [e]
      simp [e2]

theorem run_equalIn_key (w : World) (t : TypeId) (ht : Try.prog.underlying t = some (.array 8 5)) (d : Nat) (a b : List Int) (ha : a.length = 8) (hb : b.length = 8) :
    (Op.equalIn (d + 2) t (.agg (keyA a)) (.agg (keyA b))).run Try.prog w = .ok (a == b) w := by
  obtain ⟨i, hi⟩ := info_of_underlying (P := Try.prog) (t := 5) Try.underlying5
  rw [run_equalIn_array w (d + 1) (keyA a) (keyA b) ht hi, List.range_eq_range', run_eqItems_key w Try.underlying5 (by kernel_rfl) d a b ha hb 8 0 rfl]
  simp

/-- '==' on two keys. -/
theorem exec_eqkey {ρ : Operand → Value} (w : World) {o : Oper} (t ty : TypeId) (x y : Operand) (ho : o.op = .binOp .eql t x y ty) (a b : List Int) (ha : a.length = 8) (hb : b.length = 8)
    (ht : Try.prog.underlying t = some (.array 8 5)) (hg : Try.prog.eqGuardType Try.prog.depth t = false) (hx : ρ x = .agg (keyA a)) (hy : ρ y = .agg (keyA b)) :
    (execOp ρ o).run Try.prog w = .ok (.value (.bool (a == b))) w := by
  unfold execOp
  simp only [ho, hx, hy, Sem.run_bind, run_eqGuard_agg w .eql t x y _ _ hg, Result.andThen_ok, run_eql_struct, run_equalIn_key w t ht 9998 a b ha hb, Sem.run_pure]

/-- An answer. -/
structure Ans where
  v : Int
  pp : Int
  d : Int
  i : Int
  p : Int
  k : Int
  lo : Int
  hi : Int
  rv : Int
  rp : Int
  df : Bool
deriving DecidableEq
/-- .. its cells. -/
def ansA (a : Ans) : Array Value := #[.int .u8 a.v, .int .u16 a.pp, .int .u8 a.d, .int .u32 a.i, .int .u8 a.p, .int .u8 a.k, .int .u16 a.lo, .int .u16 a.hi, .int .u8 a.rv, .int .u16 a.rp, .bool a.df]
def zeroAns : Ans := ⟨0, 0, 0, 0, 0, 0, 0, 0, 0, 0, false⟩
def deny : Ans := ⟨0, 0, 0, 0, 0, 0, 0, 0, 0, 0, true⟩
theorem ansA_one (a : Ans) : ∀ u ∈ (ansA a).toList, u.oneCell' = true := fun u hu => by
  simp [ansA] at hu
  rcases hu with rfl | rfl | rfl | rfl | rfl | rfl | rfl | rfl | rfl | rfl | rfl <;> rfl

theorem run_zero39 (w : World) : (zeroValue 39).run Try.prog w = .ok (.agg (ansA zeroAns)) w := by kernel_rfl

theorem checkKey5 (w : World) (emp : Bool) (n : Nat) (x : Int) : (Instr.checkKey emp (n + 1) 5 (.int .u8 x)).run Try.prog w = .ok () w := by
  simp [Instr.checkKey, run_underlying (P := Try.prog) Try.underlying5]
theorem checkKeyN (w : World) (emp : Bool) (n : Nat) (l : List Int) (hl : l.length = 8) : (Instr.checkKey emp (n + 2) 50 (.agg (keyA l))).run Try.prog w = .ok () w := by
  have pa : ∀ i, (hi : i < 8) → (part 5 (keyA l) i).run Try.prog w = .ok (.int .u8 (l[i]'(by omega))) w := fun i hi => by
    have hg : (keyA l)[i]? = some (.int .u8 (l[i]'(by omega))) := by simp [keyA, show i < l.length by omega]
    simp [part, isAgg, run_underlying (P := Try.prog) Try.underlying5, hg]
  have hr : List.range' 0 8 = [0, 1, 2, 3, 4, 5, 6, 7] := rfl
  rw [Instr.checkKey]
  simp only [Sem.run_bind, run_underlying (P := Try.prog) Try.underlying50, Result.andThen_ok, Std.Legacy.Range.forIn_eq_forIn_range', Std.Legacy.Range.size, Nat.sub_zero, Nat.add_one_sub_one, Nat.div_one]
  rw [hr]
  simp only [List.forIn_cons, List.forIn_nil, Sem.run_bind, Try.sizeOf5, Result.andThen_ok, Nat.mul_one, pa 0 (by omega), pa 1 (by omega), pa 2 (by omega), pa 3 (by omega), pa 4 (by omega), pa 5 (by omega), pa 6 (by omega), pa 7 (by omega), checkKey5, Sem.run_pure]
theorem checkKey50 (w : World) (emp : Bool) (l : List Int) (hl : l.length = 8) : (Instr.checkKey emp 10000 50 (.agg (keyA l))).run Try.prog w = .ok () w := checkKeyN w emp 9998 l hl

/-- A map as a list of keys and answers: the first of a key counts. -/
def getM : List (List Int × Ans) → List Int → Option Ans
  | [], _ => none
  | (k, a) :: r, x => if k = x then some a else getM r x
def putM : List (List Int × Ans) → List Int → Ans → List (List Int × Ans)
  | [], x, b => [(x, b)]
  | (k, a) :: r, x, b => if k = x then (x, b) :: r else (k, a) :: putM r x b
theorem getM_putM : ∀ (m : List (List Int × Ans)) (x : List Int) (b : Ans) (y : List Int), getM (putM m x b) y = if x = y then some b else getM m y
  | [], x, b, y => by simp [putM, getM]
  | (k, a) :: r, x, b, y => by
    by_cases h : k = x
    · subst h
      simp only [putM, if_pos, getM]
      by_cases e : k = y
      · simp [e]
      · simp [e]
    · simp only [putM, if_neg h, getM, getM_putM r x b y]
      by_cases e : k = y
      · subst e
        simp [Ne.symm h]
      · simp [e]

/-- All keys of a map are eight bytes. -/
def Keys8 (m : List (List Int × Ans)) : Prop := ∀ p ∈ m, p.1.length = 8
theorem Keys8.put {m : List (List Int × Ans)} (h : Keys8 m) {x : List Int} (hx : x.length = 8) (b : Ans) : Keys8 (putM m x b) := by
  induction m with
  | nil => intro p hp; simp [putM] at hp; rw [hp]; exact hx
  | cons q r ih =>
    obtain ⟨k, a⟩ := q
    intro p hp
    by_cases e : k = x
    · simp only [putM, if_pos e] at hp
      rcases List.mem_cons.1 hp with rfl | hp
      · exact hx
      · exact h p (by simp [hp])
    · simp only [putM, if_neg e] at hp
      rcases List.mem_cons.1 hp with rfl | hp
      · exact h _ (by simp)
      · exact ih (fun z hz => h z (by simp [hz])) p hp

def entOf (e : MapEntry) : Value × Value := (e.key, e.val)
def valOf (p : List Int × Ans) : Value × Value := (.agg (keyA p.1), .agg (ansA p.2))
/-- Block b is the map m. -/
def MapAt (w : World) (b : Nat) (m : List (List Int × Ans)) : Prop :=
  Keys8 m ∧ ∃ (es : Array MapEntry) (clock : Nat), w.heap[b]? = some (.map es clock) ∧ es.toList.map entOf = m.map valOf

theorem run_find (w : World) (x : List Int) (hx : x.length = 8) : ∀ (es : List MapEntry) (m : List (List Int × Ans)) (i : Nat), Keys8 m → es.map entOf = m.map valOf →
    (getM m x = none ∧ (Instr.findAsking 50 (.agg (keyA x)) es i).run Try.prog w = .ok none w ∧ putM m x = fun b => m ++ [(x, b)]) ∨
    (∃ j a, getM m x = some a ∧ (Instr.findAsking 50 (.agg (keyA x)) es i).run Try.prog w = .ok (some (i + j, .agg (ansA a))) w ∧ j < es.length ∧ (es[j]?.map (·.key)) = some (.agg (keyA x)) ∧ ∀ b, putM m x b = m.set j (x, b))
  | [], [], i, _, _ => .inl ⟨rfl, by simp [Instr.findAsking], rfl⟩
  | [], _ :: _, _, _, h => by simp at h
  | _ :: _, [], _, _, h => by simp at h
  | e :: es, (k, a) :: m, i, hk, h => by
    simp only [List.map_cons, List.cons.injEq] at h
    obtain ⟨he, hr⟩ := h
    have hkey : e.key = .agg (keyA k) := congrArg Prod.fst he
    have hval : e.val = .agg (ansA a) := congrArg Prod.snd he
    have hk8 : k.length = 8 := hk (k, a) (by simp)
    have heq : (Op.equal 50 (.agg (keyA x)) e.key).run Try.prog w = .ok (x == k) w := by
      rw [hkey]
      exact run_equalIn_key w 50 Try.underlying50 9998 x k hx hk8
    by_cases e1 : k = x
    · subst e1
      refine .inr ⟨0, a, by simp [getM], ?_, by simp, by simp [hkey], fun b => by simp [putM]⟩
      simp [Instr.findAsking, heq, hval]
    · have e2 : (x == k) = false := by rw [beq_eq_false_iff_ne]; exact fun h => e1 h.symm
      rcases run_find w x hx es m (i + 1) (fun p hp => hk p (by simp [hp])) hr with ⟨h1, h2, h3⟩ | ⟨j, a', h1, h2, h3, h4, h5⟩
      · refine .inl ⟨by simp [getM, e1, h1], by simp [Instr.findAsking, heq, e2, h2], ?_⟩
        funext b
        simp [putM, e1, h3]
      · refine .inr ⟨j + 1, a', by simp [getM, e1, h1], ?_, by simpa using h3, by simpa using h4, fun b => by simp [putM, e1, h5]⟩
        simp [Instr.findAsking, heq, e2, h2]
        omega

theorem same_key (n : Nat) (x : List Int) : Instr.sameBits (n + 1) (.agg (keyA x)) (.agg (keyA x)) = true := by
  simp only [Instr.sameBits, beq_self_eq_true, Bool.true_and, List.all_eq_true]
  intro p hp
  have h1 : p.1 = p.2 := by
    have := List.mem_iff_getElem.1 hp
    obtain ⟨i, hi, rfl⟩ := this
    simp
  have h2 : p.1 ∈ (keyA x).toList := (List.of_mem_zip hp).1
  obtain ⟨a, b⟩ := p
  simp only at h1 h2
  subst h1
  simp [keyA] at h2
  obtain ⟨y, _, rfl⟩ := h2
  simp [Instr.sameBits]

theorem under41 : Try.prog.underlying 41 = some (.map 50 39) := Try.underlying41
theorem wide50 : (match Try.prog.underlying 50 with | some (.array _ _) | some (.struct _) => true | _ => false) = true := by rw [Try.underlying50]

theorem run_lookup (w : World) (b : Nat) (m : List (List Int × Ans)) (hm : MapAt w b m) (x : List Int) (hx : x.length = 8) :
    (Instr.lookup 41 (.map (some b)) (.agg (keyA x)) true).run Try.prog w = .ok (.tuple #[.agg (ansA ((getM m x).getD zeroAns)), .bool (getM m x).isSome]) w := by
  obtain ⟨hk, es, clock, hb, he⟩ := hm
  have hck := checkKey50 w es.isEmpty x hx
  have hfk := run_findKey_eq (P := Try.prog) w (k := 50) wide50 (.agg (keyA x)) es.toList
  rcases run_find w x hx es.toList m 0 hk he with ⟨h1, h2, _⟩ | ⟨j, a, h1, h2, _⟩
  · rw [h2] at hfk
    simp [Instr.lookup, run_underlying (P := Try.prog) under41, MapKept.run_getObj_map hb, hck, hfk, h1, Result.andThen]
    rfl
  · rw [h2] at hfk
    simp [Instr.lookup, run_underlying (P := Try.prog) under41, MapKept.run_getObj_map hb, hck, hfk, h1, Result.andThen]

def setB (w : World) (b : Nat) (o : Obj) : World := { w with heap := w.heap.setIfInBounds b o }
theorem run_setObj_b {P : Program} {w : World} {r : Nat} {es : Array MapEntry} {clock : Nat} (hb : w.heap[r]? = some (.map es clock)) (o : Obj) : (setObj r o).run P w = .ok () (setB w r o) := by
  simp [setObj, Sem.run, hb, setB]
theorem setB_same {w : World} {b : Nat} {o o' : Obj} (hb : w.heap[b]? = some o') : (setB w b o).heap[b]? = some o := by
  have := (Array.getElem?_eq_some_iff.1 hb).1
  simp [setB, this]
theorem setB_grown (w : World) (b : Nat) (o : Obj) : w.grownBy (setB w b o) (some b) :=
  ⟨rfl, rfl, rfl, by simp [setB], fun k _ hk => by
    have : b ≠ k := fun e => hk (by rw [e])
    simp [setB, this]⟩

theorem run_update (w : World) (b : Nat) (m : List (List Int × Ans)) (hm : MapAt w b m) (x : List Int) (hx : x.length = 8) (a : Ans) :
    ∃ w', (Instr.mapUpdate 41 (.map (some b)) (.agg (keyA x)) (.agg (ansA a))).run Try.prog w = .ok () w' ∧ MapAt w' b (putM m x a) ∧ w.grownBy w' (some b) := by
  obtain ⟨hk, es, clock, hb, he⟩ := hm
  have hck := checkKey50 w false x hx
  have hfk := run_findKey_eq (P := Try.prog) w (k := 50) wide50 (.agg (keyA x)) es.toList
  rcases run_find w x hx es.toList m 0 hk he with ⟨h1, h2, h3⟩ | ⟨j, a0, h1, h2, h3, h4, h5⟩
  · rw [h2] at hfk
    refine ⟨setB w b (.map (es.push { key := .agg (keyA x), val := .agg (ansA a), born := clock }) (clock + 1)), ?_, ⟨hk.put hx a, _, _, setB_same hb, ?_⟩, setB_grown _ _ _⟩
    · simp [Instr.mapUpdate, run_underlying (P := Try.prog) under41, MapKept.run_getObj_map hb, hck, hfk, run_setObj_b hb, Result.andThen]
    · rw [h3]
      simp [he, entOf, valOf]
  · rw [h2] at hfk
    have hst : (Instr.keyThatStays (((es[0 + j]?).map (·.key)).getD (.agg (keyA x))) (.agg (keyA x))).run Try.prog w = .ok (.agg (keyA x)) w := by
      have e : ((es[0 + j]?).map (·.key)) = some (.agg (keyA x)) := by
        rw [Nat.zero_add]
        simpa using h4
      rw [e, Option.getD_some, Instr.keyThatStays, if_pos (same_key 9999 x)]
      simp
    refine ⟨setB w b (.map (es.modify (0 + j) fun e => { e with key := .agg (keyA x), val := .agg (ansA a) }) clock), ?_, ⟨hk.put hx a, _, _, setB_same hb, ?_⟩, setB_grown _ _ _⟩
    · simp only [Instr.mapUpdate, Sem.run_bind, run_underlying (P := Try.prog) under41, Result.andThen_ok, MapKept.run_getObj_map hb, hck, hfk, hst, run_setObj_b hb]
    · rw [h5, Nat.zero_add]
      apply List.ext_getElem?
      intro q
      have hq := congrArg (fun l : List (Value × Value) => l[q]?) he
      simp only [List.getElem?_map] at hq
      simp only [List.getElem?_map, List.getElem?_set, Array.getElem?_toList, Array.getElem?_modify]
      by_cases e : j = q
      · subst e
        have hj : j < es.size := by simpa using h3
        have hjm : j < m.length := by
          have := congrArg List.length he
          simp at this
          omega
        simp [hj, hjm, entOf, valOf]
      · simp only [if_neg e]
        simpa using hq
theorem run_mkmap (w : World) (n : Int) : (Instr.makeMap 41 (some (.int .i64 n))).run Try.prog w = .ok (.map (some w.heap.size)) (w.alloc (.map #[] 0)) := by
  simp [Instr.makeMap, run_underlying (P := Try.prog) under41, go_sem]
theorem mapAt_made (w : World) : MapAt (w.alloc (.map #[] 0)) w.heap.size [] := ⟨fun p hp => by simp at hp, #[], 0, heap_alloc_new w _, rfl⟩
theorem MapAt.below {w w' : World} {b B : Nat} {m : List (List Int × Ans)} (h : MapAt w b m) (hb : Below B w w') (hlt : b < B) : MapAt w' b m := by
  obtain ⟨hk, es, clock, hh, he⟩ := h
  exact ⟨hk, es, clock, (hb.block b hlt).trans hh, he⟩
theorem MapAt.lt {w : World} {b : Nat} {m : List (List Int × Ans)} (h : MapAt w b m) : b < w.heap.size := by
  obtain ⟨_, _, _, hh, _⟩ := h
  exact (Array.getElem?_eq_some_iff.1 hh).1
end Go.Proofs.Qxb6612879a
