/-
  (*Table).bands, ZZbands.
-/
import Derived.Test.Qxb6612853aW6
import Derived.Test.Qxb6612853aPlain2
namespace Go.Proofs.Qxb6612853a
open Go.RowKit

/-- The i-th block of a row of blocks. -/
theorem flat_get (f : List Nat → List Value) (sz : Nat) (ids : List (List Nat)) (hf : ∀ i, i < ids.length → (f (ids.getD i [])).length = sz) : ∀ (i j : Nat), i < ids.length → j < sz → (ids.flatMap f)[i * sz + j]? = (f (ids.getD i []))[j]? := by
  induction ids with
  | nil => intro i j hi; simp at hi
  | cons x xs ih =>
    intro i j hi hj
    have h0 : (f x).length = sz := by simpa using hf 0 (by simp)
    rw [List.flatMap_cons]
    cases i with
    | zero =>
      rw [List.getElem?_append_left (by omega)]
      simp
    | succ i =>
      rw [List.getElem?_append_right (by rw [h0, Nat.succ_mul]; omega), h0, show (i + 1) * sz + j - sz = i * sz + j by rw [Nat.succ_mul]; omega]
      rw [ih (fun k hk => by simpa using hf (k + 1) (by simpa using hk)) i j (by simpa using hi) hj]
      simp

/-- Where a table's entries lie. -/
theorem TblE.ents {w : World} {base tb n : Nat} {self : List Nat} {size : Int} {ids : List (List Nat)} (hids : AllID ids) (hn : n = ids.length) (h : TblE w base tb self size n (entCells self ids)) :
    ∃ ao cap, IsTbl w tb self size (.slice ao n cap) (.slice none 0 0) ∧ n ≤ cap ∧ (0 < n → ∃ g, ao = some ⟨g, 0, none⟩ ∧ base ≤ g ∧ g < w.heap.size ∧ ∀ i, i < n → HasA w g (i * 36) (entA (ids.getD i []) (lead self (ids.getD i [])))) := by
  obtain ⟨ent, ht, _, ho⟩ := h
  rcases ho.2 with ⟨rfl, h0⟩ | ⟨g, cap, cur, rfl, hb, hg, hnc, _⟩
  · subst h0
    exact ⟨none, 0, ht, Nat.le_refl _, fun hc => absurd hc (Nat.lt_irrefl _)⟩
  · refine ⟨some ⟨g, 0, none⟩, cap, ht, hnc, fun _ => ⟨g, rfl, hb, (Array.getElem?_eq_some_iff.1 hg).1, fun i hi j hj => ?_⟩⟩
    have hid : IsID (ids.getD i []) := hids i (by omega)
    rw [entA_size hid] at hj
    rw [ho.cellAt (i * 36 + j) (by omega)]
    rw [entCells, flat_get (fun l => (entA l (lead self l)).toList) 36 ids (fun k hk => by rw [Array.length_toList, entA_size (hids k hk)]) i j (by omega) hj]
    simp

theorem entA_band {l : List Nat} (h : IsID l) (b : Nat) : (entA l b)[34]? = some (.int .i64 (b : Int)) := by
  have := peerA_size h
  simp [entA, this]

theorem vtup {a b c a' b' c' : Int} (h1 : a = a') (h2 : b = b') (h3 : c = c') : Ending.returned (.tuple #[.int .i64 a, .int .i64 b, .int .i64 c]) = .returned (.tuple #[.int .i64 a', .int .i64 b', .int .i64 c']) := by rw [h1, h2, h3]

theorem M_nil : M [] = (0, 0) := Mk_const [] 0 (fun b _ => rfl) 257 (by omega) (by omega)

set_option maxHeartbeats 4000000 in
theorem bands_c (tb n cap : Nat) (ao : Option Addr) (bs : List Nat) (band : Int) (w : World) (hn : n ≤ 32768) (hlen : n = bs.length) (hd : Desc bs) (h256 : ∀ i, at0 bs i ≤ 256)
    (hc : w.cell? ⟨tb, 36, none⟩ = some (.slice ao n cap))
    (hb : 0 < n → ∃ g, ao = some ⟨g, 0, none⟩ ∧ ∀ i, i < n → w.cell? ⟨g, i * 36 + 34, none⟩ = some (.int .i64 ((at0 bs i : Nat) : Int))) :
    Calls Try.prog 41 #[.pointer (some ⟨tb, 0, none⟩), .int .i64 band] w fun e w' => e = .returned (.tuple #[.int .i64 ((cntI bs band : Nat) : Int), .int .i64 (((M bs).1 : Nat) : Int), .int .i64 (((M bs).2 : Nat) : Int)]) ∧ ∃ m, w' = w.drewN m := by
  have HL : Hid (n = bs.length) := hlen
  have HD : Hid (Desc bs) := hd
  have H256 : Hid (∀ i, at0 bs i ≤ 256) := h256
  clear hlen hd h256
  go_enter Try.func41, Try.ntmps41
  go_wp2_with fail
  go_loopw [7, 4, 5, 6] (fun s o l e wr => ∃ k own lg le : Nat, k ≤ n ∧ s = .int .i64 k ∧ o = .int .i64 own ∧ l = .int .i64 lg ∧ e = .int .i64 le ∧ Hid (own = cntI (bs.take k) band ∧ (lg, le) = M (bs.take k) ∧ CutAt bs k) ∧ ∃ m, wr = w.drewN m) (fun s _ _ _ _ => n - (intOf s).toNat)
  case atStart => exact ⟨0, 0, 0, 0, by omega, rfl, rfl, rfl, rfl, ⟨by simp [cntI], by rw [List.take_zero, M_nil], fun _ i hi => absurd hi (Nat.not_lt_zero _)⟩, 0, rfl⟩
  case round =>
    obtain ⟨k, own, lg, le, hk, rfl, rfl, rfl, rfl, HI, m, rfl⟩ := hrel
    by_cases hlt : k < n
    · have hlt' : (k : Int) < (n : Int) := by omega
      obtain ⟨g, rfl, hb'⟩ := hb (by omega)
      have HB : Hid (∀ i, i < n → w.cell? ⟨g, i * 36 + 34, none⟩ = some (.int .i64 ((at0 bs i : Nat) : Int))) := hb'
      clear hb hb'
      have hc2 := HB.out k hlt
      go_wp2_with fail
      go_loopw [8] (fun s wr => ∃ j : Nat, k ≤ j ∧ j < n ∧ s = .int .i64 j ∧ Hid (∀ i, k ≤ i → i ≤ j → at0 bs i = at0 bs k) ∧ ∃ m, wr = w.drewN m) (fun s _ => n - (intOf s).toNat)
      case atStart => exact ⟨k, Nat.le_refl _, hlt, rfl, fun i h1 h2 => by rw [show i = k by omega], _, rfl⟩
      case round =>
        obtain ⟨j, hkj, hjn, rfl, HR, m, rfl⟩ := hrel
        by_cases hgo : j + 1 < n ∧ at0 bs (j + 1) = at0 bs k
        · obtain ⟨hj1, hjk⟩ := hgo
          have HJ : Hid (at0 bs (j + 1) = at0 bs k) := hjk
          have hbe : (((at0 bs (j + 1) : Nat) : Int) == ((at0 bs k : Nat) : Int)) = true := by rw [hjk]; simp
          clear hjk
          have hj1' : (j : Int) + 1 < (n : Int) := by omega
          have hc1 := HB.out (j + 1) hj1
          go_wp2_with fail
          go_quiet (fail)
          go_wp2_with fail
          go_roundw
          case rel => exact ⟨j + 1, by omega, hj1, by go_num, fun i h1 h2 => by
                        by_cases e : i = j + 1
                        · subst e; exact HJ.out
                        · exact HR.out i h1 (by omega), _, rfl⟩
          case measure => simp [intOf]; omega
        · have hne : j + 1 < bs.length → at0 bs (j + 1) ≠ at0 bs k := fun h e => hgo ⟨by rw [HL.out]; exact h, e⟩
          have st := scan_step bs k j band hkj (by rw [← HL.out]; exact hjn) HI.out.2.2 HR.out (H256.out k)
          have HN : Hid (CutAt bs (j + 1)) := cut_next bs k j HD.out hkj hne HR.out
          rw [← HI.out.1, ← HI.out.2.1] at st
          have hlg := (M_le_len (bs.take k) 257).1
          rw [show (Mk (bs.take k) 257).1 = lg from (congrArg Prod.fst HI.out.2.1).symm] at hlg
          have hlgn : lg ≤ n := by have : (bs.take k).length ≤ k := List.length_take_le _ _; omega
          clear hne hlg
          by_cases hge : lg ≤ j - k + 1
          all_goals by_cases heq : ((at0 bs k : Nat) : Int) = band
          all_goals by_cases hj1 : j + 1 < n
          all_goals first
            | (have hbe : (((at0 bs (j + 1) : Nat) : Int) == ((at0 bs k : Nat) : Int)) = false := by
                 have : at0 bs (j + 1) ≠ at0 bs k := fun e => hgo ⟨hj1, e⟩
                 simp; omega
               have hj1' : (j : Int) + 1 < (n : Int) := by omega
               have hc1 := HB.out (j + 1) hj1)
            | (have hj1' : decide ((j : Int) + 1 < (n : Int)) = false := by simp; omega)
          all_goals
            have HS : Hid (M (bs.take (j + 1)) = (if (lg, le).1 ≤ j - k + 1 then (j - k + 1, j) else (lg, le)) ∧ cntI (bs.take (j + 1)) band = (if ((at0 bs k : Nat) : Int) = band then j - k + 1 else own)) := st
            clear st hgo
            first
              | (rw [if_pos heq] at HS; have hbb : (((at0 bs k : Nat) : Int) == band) = true := by simpa using heq)
              | (rw [if_neg heq] at HS; have hbb : (((at0 bs k : Nat) : Int) == band) = false := by simpa using heq)
            clear heq
            first
              | (rw [if_pos hge] at HS; have hgi : (lg : Int) ≤ (j : Int) - (k : Int) + 1 := by omega)
              | (rw [if_neg hge] at HS; have hgi : (j : Int) - (k : Int) + 1 < (lg : Int) := by omega)
            clear hge
            go_wp2_with fail
            go_quiet (fail)
            go_wp2_with fail
            go_roundw
            case rel => exact ⟨j + 1, cntI (bs.take (j + 1)) band, (M (bs.take (j + 1))).1, (M (bs.take (j + 1))).2, by omega, by go_num, vint (by have h := HS.out.2; omega), vint (by have h := congrArg Prod.fst HS.out.1; dsimp only at h; omega), vint (by have h := congrArg Prod.snd HS.out.1; dsimp only at h; omega), ⟨rfl, rfl, HN.out⟩, _, rfl⟩
            case measure => simp [intOf]; omega
    · go_wp2_with fail
      go_ret3
      have hkl : k = n := by omega
      obtain ⟨h1, h2, _⟩ := HI.out
      rw [hkl, List.take_of_length_le (by rw [← HL.out]; omega)] at h1 h2
      exact ⟨vtup (by rw [h1]) (by rw [← h2]) (by rw [← h2]), _, rfl⟩

set_option maxHeartbeats 400000 in
theorem zzbands_c (tb n cap : Nat) (ao : Option Addr) (bs : List Nat) (band : Int) (w : World) (hn : n ≤ 32768) (hlen : n = bs.length) (hd : Desc bs) (h256 : ∀ i, at0 bs i ≤ 256)
    (hc : w.cell? ⟨tb, 36, none⟩ = some (.slice ao n cap))
    (hb : 0 < n → ∃ g, ao = some ⟨g, 0, none⟩ ∧ ∀ i, i < n → w.cell? ⟨g, i * 36 + 34, none⟩ = some (.int .i64 ((at0 bs i : Nat) : Int))) :
    Calls Try.prog 27 #[.pointer (some ⟨tb, 0, none⟩), .int .i64 band] w fun e w' => e = .returned (.tuple #[.int .i64 ((cntI bs band : Nat) : Int), .int .i64 (((M bs).1 : Nat) : Int), .int .i64 (((M bs).2 : Nat) : Int)]) ∧ ∃ m, w' = w.drewN m := by
  have hcall := bands_c tb n cap ao bs band w hn hlen hd h256 hc hb
  clear hd h256 hc hb
  have HL : Hid (n = bs.length) := hlen
  clear hlen
  go_enter Try.func27, Try.ntmps27
  go_wp2_with fail
  refine hcall.mono ?_
  rintro e w' ⟨rfl, m, rfl⟩
  clear hcall
  go_wp2_with fail
  go_ret3
  exact ⟨rfl, m, rfl⟩
end Go.Proofs.Qxb6612853a
