import Derived.Test.Qxb6605425aDoorSeqs
namespace Go.Proofs.Qxb6605425aDoor
open Go.RowKit

theorem pos_get {O r : List Int} {i : Nat} {c : Int} (h : O.drop i = c :: r) : i < O.length ∧ O.getD i 0 = c ∧ O.drop (i + 1) = r := by
  have hi : i < O.length := by
    rcases Nat.lt_or_ge i O.length with h1 | h1
    · exact h1
    · rw [List.drop_eq_nil_of_le h1] at h
      cases h
  rw [List.drop_eq_getElem_cons hi] at h
  simp only [List.cons.injEq] at h
  refine ⟨hi, ?_, h.2⟩
  simp [List.getD, hi, h.1]

theorem pos_app {O A r : List Int} {i : Nat} (h : O.drop i = A ++ r) : O.drop (i + A.length) = r := by
  rw [← List.drop_drop, h]
  simp

theorem pos_at {O A r : List Int} {i j : Nat} (h : O.drop i = A ++ r) (hj : j < A.length) : i + j < O.length ∧ O.getD (i + j) 0 = A.getD j 0 := by
  have hl := congrArg List.length h
  simp only [List.length_drop, List.length_append] at hl
  refine ⟨by omega, ?_⟩
  have e : (O.drop i)[j]? = (A ++ r)[j]? := by rw [h]
  rw [List.getElem?_drop, List.getElem?_append_left hj] at e
  simp [List.getD, e]

/-- The first j digits of u, as a number. -/
def pre (u j : Nat) : Nat := u / 10 ^ (Lib.nDigits u - j)

theorem pre_zero (u : Nat) : pre u 0 = 0 := by
  unfold pre
  exact Nat.div_eq_of_lt (by simpa using Lib.lt_pow_nDigits u)

theorem pre_all (u : Nat) : pre u (Lib.nDigits u) = u := by simp [pre]

theorem dig_at (u j : Nat) (h : j < Lib.nDigits u) : (decI (u : Int)).getD j 0 = 48 + ((u / 10 ^ (Lib.nDigits u - 1 - j) % 10 : Nat) : Int) := by
  have hj : j < (Lib.decDigits u).length := by rw [Lib.decDigits_length]; exact h
  have e : (Lib.decDigits u)[j]? = some (Lib.dg u (Lib.nDigits u - 1 - j)) := by
    rw [Lib.decDigits_eq]
    simp [h]
  unfold decI
  rw [List.getD, Int.toNat_natCast, List.getElem?_map, e]
  simp only [Option.map_some, Option.getD_some, Lib.dg]
  rw [UInt8.toNat_ofNat']
  have : u / 10 ^ (Lib.nDigits u - 1 - j) % 10 < 10 := Nat.mod_lt _ (by omega)
  omega

theorem pre_step (u j : Nat) (h : j < Lib.nDigits u) : ((pre u (j + 1) : Nat) : Int) = (pre u j : Nat) * 10 + ((decI (u : Int)).getD j 0 - 48) := by
  rw [dig_at u j h]
  unfold pre
  have e : Lib.nDigits u - j = (Lib.nDigits u - 1 - j) + 1 := by omega
  have e2 : Lib.nDigits u - (j + 1) = Lib.nDigits u - 1 - j := by omega
  rw [e, e2, Nat.pow_succ, ← Nat.div_div_eq_div_mul]
  omega

theorem pre_le (u j : Nat) : pre u j ≤ u := Nat.div_le_self _ _

theorem dig_range (u j : Nat) (h : j < Lib.nDigits u) : 48 ≤ (decI (u : Int)).getD j 0 ∧ (decI (u : Int)).getD j 0 ≤ 57 := by
  rw [dig_at u j h]
  have : u / 10 ^ (Lib.nDigits u - 1 - j) % 10 < 10 := Nat.mod_lt _ (by omega)
  omega

theorem nDigits_lo (u : Nat) (h : 1 < Lib.nDigits u) : 10 ^ (Lib.nDigits u - 1) ≤ u := by
  induction u using Nat.strongRecOn with
  | _ u ih =>
    by_cases h10 : u < 10
    · rw [Lib.nDigits_small h10] at h; omega
    · rw [Lib.nDigits_big h10] at h ⊢
      by_cases h1 : 1 < Lib.nDigits (u / 10)
      · have := ih (u / 10) (by omega) h1
        obtain ⟨k, hk⟩ : ∃ k, Lib.nDigits (u / 10) = k + 1 := ⟨Lib.nDigits (u / 10) - 1, by omega⟩
        rw [hk] at this ⊢
        simp only [Nat.add_sub_cancel] at this ⊢
        rw [Nat.pow_succ]
        omega
      · have h2 := Lib.nDigits_pos (u / 10)
        have : Lib.nDigits (u / 10) = 1 := by omega
        rw [this]
        simp
        omega

/-- A numeral that opens with 0 is 0 itself. -/
theorem lead_zero (u : Nat) (h : (decI (u : Int)).getD 0 0 = 48) : Lib.nDigits u = 1 := by
  have hp := Lib.nDigits_pos u
  rw [dig_at u 0 (by omega)] at h
  by_cases h1 : 1 < Lib.nDigits u
  · have lo := nDigits_lo u h1
    have hi := Lib.lt_pow_nDigits u
    obtain ⟨k, hk⟩ : ∃ k, Lib.nDigits u = k + 1 := ⟨Lib.nDigits u - 1, by omega⟩
    rw [hk] at h lo hi
    simp only [Nat.add_sub_cancel, Nat.sub_zero] at h lo
    rw [Nat.pow_succ] at hi
    have q1 : 1 ≤ u / 10 ^ k := (Nat.le_div_iff_mul_le (Nat.pow_pos (by omega))).2 (by omega)
    have q2 : u / 10 ^ k < 10 := (Nat.div_lt_iff_lt_mul (Nat.pow_pos (by omega))).2 (by omega)
    omega
  · omega

theorem decI_length (u : Nat) : (decI (u : Int)).length = Lib.nDigits u := by
  unfold decI
  rw [List.length_map, Lib.decDigits_length, Int.toNat_natCast]

/-- What stands behind the k-th number. -/
def after (us : List Int) (k : Nat) : List Int := bodyF true (us.drop (k + 1)) ++ [93]

theorem body_at {us : List Int} {k : Nat} (h : k < us.length) (f : Bool) : bodyF f (us.drop k) ++ [93] = (if f then [44] else []) ++ (decI (us.getD k 0) ++ after us k) := by
  rw [List.drop_eq_getElem_cons h, bodyF]
  simp [after, List.getD, h]

theorem after_last {us : List Int} {k : Nat} (h : k + 1 = us.length) : after us k = [93] := by
  unfold after
  rw [List.drop_eq_nil_of_le (by omega)]
  rfl

theorem after_more {us : List Int} {k : Nat} (h : k + 1 < us.length) : after us k = 44 :: (decI (us.getD (k + 1) 0) ++ after us (k + 1)) := by
  have := body_at h true
  unfold after at this ⊢
  rw [this]
  simp

end Go.Proofs.Qxb6605425aDoor
