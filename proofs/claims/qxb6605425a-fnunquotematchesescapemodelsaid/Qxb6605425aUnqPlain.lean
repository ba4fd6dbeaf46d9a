import Derived.Test.Qxb6605425aParts
namespace Go.Proofs.Qxb6605425a
open Go.RowKit

/-- The one-pass reader of a quoted text: 'esc': the byte before was a backslash that escapes; 'acc': what has been read. -/
def unqM : List Int → Bool → List Int → Option (List Int × List Int)
  | [], _, _ => none
  | c :: t, true, acc => unqM t false (acc ++ [c])
  | c :: t, false, acc => if c = 34 then some (acc, t) else if c = 92 then unqM t true acc else unqM t false (acc ++ [c])

theorem drop_at {zs : List Int} {k : Nat} (h : k < zs.length) : zs.drop k = zs.getD k 0 :: zs.drop (k + 1) := by
  rw [List.drop_eq_getElem_cons h]
  simp [List.getD, h]

theorem unqM_end (esc : Bool) (acc : List Int) : unqM [] esc acc = none := by cases esc <;> rfl

theorem unqM_quote {zs acc : List Int} {k : Nat} (h : k < zs.length) (hc : zs.getD k 0 = 34) : unqM (zs.drop k) false acc = some (acc, zs.drop (k + 1)) := by
  rw [drop_at h, unqM, if_pos hc]

theorem unqM_plain {zs acc : List Int} {k : Nat} (h : k < zs.length) (hc : zs.getD k 0 ≠ 34) (hc' : zs.getD k 0 ≠ 92) : unqM (zs.drop k) false acc = unqM (zs.drop (k + 1)) false (acc ++ [zs.getD k 0]) := by
  rw [drop_at h, unqM, if_neg hc, if_neg hc']

theorem unqM_slash {zs acc : List Int} {k : Nat} (h : k < zs.length) (hc : zs.getD k 0 = 92) : unqM (zs.drop k) false acc = unqM (zs.drop (k + 1)) true acc := by
  rw [drop_at h, unqM, if_neg (by omega), if_pos hc]

theorem unqM_esc {zs acc : List Int} {k : Nat} (h : k < zs.length) : unqM (zs.drop k) true acc = unqM (zs.drop (k + 1)) false (acc ++ [zs.getD k 0]) := by
  rw [drop_at h, unqM]

/-- A backslash as the very last byte: it is written, and no quote comes. -/
theorem unqM_last {zs acc acc' : List Int} {k : Nat} (h : k + 1 = zs.length) (hc : zs.getD k 0 = 92) : unqM (zs.drop k) false acc = unqM (zs.drop (k + 1)) false acc' := by
  rw [unqM_slash (by omega) hc, List.drop_eq_nil_of_le (by omega), unqM_end, unqM_end]

theorem unqM_two {zs acc : List Int} {k : Nat} (h : k + 1 < zs.length) (hc : zs.getD k 0 = 92) : unqM (zs.drop k) false acc = unqM (zs.drop (k + 2)) false (acc ++ [zs.getD (k + 1) 0]) := by
  rw [unqM_slash (by omega) hc, unqM_esc h]

/-- No quote and no backslash so far: what has been read is what stands there. -/
theorem unqM_run {zs : List Int} {k : Nat} (hk : k ≤ zs.length) (h1 : 1 ≤ k) (h : ∀ j, 1 ≤ j → j < k → zs.getD j 0 ≠ 34 ∧ zs.getD j 0 ≠ 92) : unqM (zs.drop 1) false [] = unqM (zs.drop k) false ((zs.take k).drop 1) := by
  induction k with
  | zero => omega
  | succ k ih =>
    by_cases e : k = 0
    · subst e
      rw [List.drop_eq_nil_of_le (as := zs.take 1) (by simp; omega)]
    · rw [ih (by omega) (by omega) (fun j a b => h j a (by omega)), unqM_plain (by omega) (h k (by omega) (by omega)).1 (h k (by omega) (by omega)).2]
      congr 1
      rw [List.take_succ_eq_append_getElem (by omega), List.drop_append_of_le_length (by simp; omega)]
      simp [List.getD, show k < zs.length by omega]

def quo : List Int → List Int
  | [] => []
  | c :: t => if c = 34 ∨ c = 92 then 92 :: c :: quo t else c :: quo t

theorem unqM_quo (v tail acc : List Int) : unqM (quo v ++ 34 :: tail) false acc = some (acc ++ v, tail) := by
  induction v generalizing acc with
  | nil => simp [quo, unqM]
  | cons c t ih =>
    unfold quo
    by_cases h : c = 34 ∨ c = 92
    · rw [if_pos h]
      simp [unqM, ih]
    · rw [if_neg h]
      simp only [not_or] at h
      simp [unqM, ih, h]

theorem quo_append (a b : List Int) : quo (a ++ b) = quo a ++ quo b := by
  induction a with
  | nil => rfl
  | cons c t ih =>
    simp only [List.cons_append, quo]
    split <;> simp [ih]

theorem quo_take {z : List Int} {k : Nat} (h : k < z.length) : quo (z.take (k + 1)) = quo (z.take k) ++ quo [z.getD k 0] := by
  rw [List.take_succ_eq_append_getElem h, quo_append]
  simp [List.getD, h]

theorem quo_len (a : List Int) : (quo a).length ≤ 2 * a.length := by
  induction a with
  | nil => simp [quo]
  | cons c t ih =>
    simp only [quo]
    split <;> simp <;> omega

end Go.Proofs.Qxb6605425a
