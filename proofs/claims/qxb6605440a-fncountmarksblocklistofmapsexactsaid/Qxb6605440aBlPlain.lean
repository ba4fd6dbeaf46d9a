import Derived.Test.Qxb6605440aCmStep
import Derived.Lib.ItoaNum
namespace Go.Proofs.Qxb6605440a
open Go.RowKit

/-- A byte of a word: visible ASCII, no separator. -/
def wordC (c : Int) : Prop := 33 ≤ c ∧ c ≤ 126 ∧ sepB c = false

theorem pos_get {O r : List Int} {i : Nat} {c : Int} (h : O.drop i = c :: r) : i < O.length ∧ ch O i = c ∧ O.drop (i + 1) = r := by
  have hi : i < O.length := by
    rcases Nat.lt_or_ge i O.length with h1 | h1
    · exact h1
    · rw [List.drop_eq_nil_of_le h1] at h
      cases h
  rw [List.drop_eq_getElem_cons hi] at h
  simp only [List.cons.injEq] at h
  refine ⟨hi, ?_, h.2⟩
  simp [ch, List.getD, hi, h.1]

theorem word_plain {c : Int} (h : wordC c) : plainC c := by
  obtain ⟨_, _, h3⟩ := h
  simp [sepB] at h3
  unfold plainC
  omega

theorem word_starts {T : List Int} {i : Nat} (h1 : 14 ≤ ch T i) (h2 : ch T i ≤ 126) : startsB T i = false := by
  unfold startsB
  have e1 : (ch T i == 13) = false := by simp; omega
  have e2 : (ch T i == 10) = false := by simp; omega
  have e3 : (ch T i == 194) = false := by simp; omega
  have e4 : (ch T i == 226) = false := by simp; omega
  rw [e1, e2, e3, e4]
  rfl

theorem word_ends {T : List Int} {i : Nat} (h1 : 14 ≤ ch T i) (h2 : ch T i ≤ 126) : endsB T i = false := by
  unfold endsB
  have e1 : (ch T i == 13) = false := by simp; omega
  have e2 : (ch T i == 10) = false := by simp; omega
  have e3 : (ch T i == 133) = false := by simp; omega
  have e4 : (ch T i == 168) = false := by simp; omega
  have e5 : (ch T i == 169) = false := by simp; omega
  rw [e1, e2, e3, e4, e5]
  rfl

theorem opens_next (T : List Int) (k : Nat) : opensB T (k + 1) = (sepB (ch T k) || endsB T k) := by
  simp [opensB, endSepB]

theorem next_marks (T : List Int) (k : Nat) : marksTo T (k + 1) = step T k (marksTo T k) := rfl

theorem run_sep {T : List Int} {p : Nat} {c : Int} {rest : List Int} {s : St} (hT : T.drop p = c :: rest) (hc : c = 32 ∨ c = 10 ∨ c = 13) (hs : marksTo T p = s) :
    marksTo T (p + 1) = s ∧ T.drop (p + 1) = rest ∧ opensB T (p + 1) = true := by
  obtain ⟨_, h2, h3⟩ := pos_get hT
  have hsep : sepB (ch T p) = true := by rw [h2]; rcases hc with rfl | rfl | rfl <;> rfl
  refine ⟨?_, h3, by rw [opens_next, hsep]; rfl⟩
  rw [next_marks, hs]
  obtain ⟨N, A, C, l, m, d⟩ := s
  exact st_rest (by rw [h2]; unfold plainC; omega) (by unfold restB; rw [hsep]; rfl)

/-- The rest of a word counts nothing. -/
theorem run_mid {T : List Int} (t : List Int) {p : Nat} {rest : List Int} {s : St} (hT : T.drop p = t ++ rest) (ht : ∀ x ∈ t, wordC x) (ho : t ≠ [] → opensB T p = false) (hs : marksTo T p = s) :
    marksTo T (p + t.length) = s ∧ T.drop (p + t.length) = rest := by
  induction t generalizing p with
  | nil => exact ⟨hs, hT⟩
  | cons c t ih =>
    obtain ⟨_, h2, h3⟩ := pos_get (show T.drop p = c :: (t ++ rest) from hT)
    have hc := ht c List.mem_cons_self
    have hop := ho (by simp)
    have hst : marksTo T (p + 1) = s := by
      rw [next_marks, hs]
      obtain ⟨N, A, C, l, m, d⟩ := s
      exact st_rest (by rw [h2]; exact word_plain hc) (by unfold restB; rw [hop]; simp)
    have ho2 : opensB T (p + 1) = false := by
      rw [opens_next, h2, hc.2.2, word_ends (by rw [h2]; have := hc.1; omega) (by rw [h2]; exact hc.2.1)]
      rfl
    have := ih h3 (fun x hx => ht x (List.mem_cons_of_mem _ hx)) (fun _ => ho2) hst
    rw [List.length_cons, show p + (t.length + 1) = p + 1 + t.length by omega]
    exact this

theorem run_word {T : List Int} {p : Nat} {c : Int} (t : List Int) {rest : List Int} {N A C : Nat} {l m d : Bool} (hT : T.drop p = c :: (t ++ rest)) (hc : wordC c) (h45 : c ≠ 45) (ht : ∀ x ∈ t, wordC x) (ho : opensB T p = true)
    (hs : marksTo T p = ⟨N, A, C, l, m, d⟩) : marksTo T (p + 1 + t.length) = ⟨N + 1, A + hit (namedB T p && c == 42), C + hit (namedB T p && c == 38), l, m, d⟩ ∧ T.drop (p + 1 + t.length) = rest := by
  obtain ⟨_, h2, h3⟩ := pos_get hT
  have hr : restB T p = false := by
    unfold restB
    rw [ho, h2, hc.2.2, word_starts (by rw [h2]; have := hc.1; omega) (by rw [h2]; exact hc.2.1)]
    rfl
  have hb : blockB T p = false := by
    unfold blockB
    rw [h2]
    have : (c == 45) = false := by simp [h45]
    rw [this]
    rfl
  have hst : marksTo T (p + 1) = ⟨N + 1, A + hit (namedB T p && c == 42), C + hit (namedB T p && c == 38), l, m, d⟩ := by
    rw [next_marks, hs, st_word (by rw [h2]; exact word_plain hc) hr hb, h2]
  exact run_mid t h3 ht (fun _ => by rw [opens_next, h2, hc.2.2, word_ends (by rw [h2]; have := hc.1; omega) (by rw [h2]; exact hc.2.1)]; rfl) hst

/-- Where a word byte follows a blank: what skipTo finds. -/
theorem skip_one {T : List Int} {p : Nat} {c : Int} {rest : List Int} (hT : T.drop p = 32 :: c :: rest) (hc : wordC c) : skipTo T p = p + 1 ∧ p + 1 < T.length ∧ ch T (p + 1) = c := by
  obtain ⟨h1, h2, h3⟩ := pos_get hT
  obtain ⟨h4, h5, _⟩ := pos_get h3
  have hb : blankB (ch T p) = true := by rw [h2]; rfl
  have hn : blankB (ch T (p + 1)) = false := by
    rw [h5]
    unfold blankB
    have := hc.1
    simp
    omega
  exact ⟨by rw [skip_step h1 hb, skip_stop h4 hn], h4, h5⟩

theorem run_colon {T : List Int} {p : Nat} {c : Int} {rest : List Int} {N A C : Nat} {m d : Bool} (hT : T.drop p = 58 :: 32 :: c :: rest) (hc : wordC c) (hs : marksTo T p = ⟨N, A, C, false, m, d⟩) :
    marksTo T (p + 1) = ⟨N + hit d, A, C, false, m, false⟩ ∧ T.drop (p + 1) = 32 :: c :: rest := by
  obtain ⟨_, h2, h3⟩ := pos_get hT
  obtain ⟨s1, s2, s3⟩ := skip_one h3 hc
  have hv : valB T p = true := by
    unfold valB
    rw [s1, s3, word_starts (by rw [s3]; have := hc.1; omega) (by rw [s3]; exact hc.2.1)]
    have e1 : decide (p + 1 + 1 = T.length) = false := by simp; omega
    rw [e1]
    have := hc.2.2
    simp [sepB] at this
    simp
    omega
  refine ⟨?_, h3⟩
  rw [next_marks, hs, st_colon h2]
  unfold colonN
  rw [hv]
  simp [hit]

theorem run_dash {T : List Int} {p : Nat} {c : Int} {rest : List Int} {N A C : Nat} {l m d : Bool} (hT : T.drop p = 45 :: 32 :: c :: rest) (hc : wordC c) (h45 : c ≠ 45) (ho : opensB T p = true) (hs : marksTo T p = ⟨N, A, C, l, m, d⟩) :
    marksTo T (p + 1) = ⟨N, A, C, l, m, true⟩ ∧ T.drop (p + 1) = 32 :: c :: rest := by
  obtain ⟨_, h2, h3⟩ := pos_get hT
  obtain ⟨s1, s2, s3⟩ := skip_one h3 hc
  obtain ⟨_, h5, _⟩ := pos_get h3
  have hr : restB T p = false := by
    unfold restB
    rw [ho, h2, word_starts (by rw [h2]; decide) (by rw [h2]; decide)]
    rfl
  have hb : blockB T p = true := by
    unfold blockB
    rw [ho, h2, h5]
    simp [blankB]
  have hw : ownsB T p = false := by
    unfold ownsB
    rw [s1, word_starts (by rw [s3]; have := hc.1; omega) (by rw [s3]; exact hc.2.1)]
    have e1 : decide (p + 1 + 1 = T.length) = false := by simp; omega
    have e2 : blockB T (p + 1 + 1) = false := by
      unfold blockB
      rw [s3]
      have : (c == 45) = false := by simp [h45]
      rw [this]
      rfl
    rw [e1, e2]
    rfl
  refine ⟨?_, h3⟩
  rw [next_marks, hs, st_owed (by rw [h2]; unfold plainC; omega) hr hb hw]

end Go.Proofs.Qxb6605440a
