import Derived.Test.Qxb6605440aBlPlain
namespace Go.Proofs.Qxb6605440a
open Go.RowKit

/-- A number's decimal digits, as bytes. -/
def digs (x : Nat) : List Int := (Lib.decDigits x).map fun b => (b.toNat : Int)

theorem digs_small {x : Nat} (h : x < 10) : digs x = [48 + (x : Int)] := by
  unfold digs
  rw [Lib.decDigits_one h]
  simp only [List.map_cons, List.map_nil]
  rw [UInt8.toNat_ofNat']
  congr 1
  omega

theorem digs_big {x : Nat} (h : ¬ x < 10) : digs x = digs (x / 10) ++ [48 + ((x % 10 : Nat) : Int)] := by
  unfold digs
  rw [Lib.decDigits, dif_neg h, List.map_append]
  congr 1
  simp only [List.map_cons, List.map_nil]
  rw [UInt8.toNat_ofNat']
  congr 1
  have := Nat.mod_lt x (show 10 > 0 by omega)
  omega

theorem digs_range (x : Nat) : ∀ y ∈ digs x, 48 ≤ y ∧ y ≤ 57 := by
  induction x using Nat.strongRecOn with
  | _ x ih =>
    intro y hy
    by_cases h : x < 10
    · rw [digs_small h] at hy
      simp at hy
      omega
    · rw [digs_big h] at hy
      rcases List.mem_append.1 hy with hy | hy
      · exact ih (x / 10) (by omega) y hy
      · simp at hy
        have := Nat.mod_lt x (show 10 > 0 by omega)
        omega

theorem digit_word {y : Int} (h : 48 ≤ y ∧ y ≤ 57) : wordC y := by
  refine ⟨by omega, by omega, ?_⟩
  unfold sepB
  simp
  omega

theorem digs_word (x : Nat) : ∀ y ∈ digs x, wordC y := fun y hy => digit_word (digs_range x y hy)

def tailW (i j : Nat) : List Int := digs i ++ [120] ++ digs j

theorem tail_word (i j : Nat) : ∀ y ∈ tailW i j, wordC y := by
  intro y hy
  unfold tailW at hy
  rcases List.mem_append.1 hy with hy | hy
  · rcases List.mem_append.1 hy with hy | hy
    · exact digs_word i y hy
    · simp at hy
      subst hy
      exact ⟨by decide, by decide, rfl⟩
  · exact digs_word j y hy

/-- A value: plain, an alias (mark 1), anchored (mark 2). -/
def preL (m : Int) (i j : Nat) : List Int := if m = 1 then [42] else if m = 2 then [38, 97] ++ tailW i j ++ [32] else []
def valL (m : Int) (i j : Nat) : List Int := preL m i j ++ [118] ++ tailW i j

/-- The nodes of one value. -/
def pv (m : Int) : Nat := if m = 2 then 2 else 1

theorem val_head (m : Int) (i j : Nat) (rest : List Int) : ∃ c r, valL m i j ++ rest = c :: r ∧ wordC c ∧ c ≠ 45 := by
  unfold valL preL
  by_cases h1 : m = 1
  · rw [if_pos h1]; exact ⟨42, _, rfl, ⟨by decide, by decide, rfl⟩, by decide⟩
  · rw [if_neg h1]
    by_cases h2 : m = 2
    · rw [if_pos h2]; exact ⟨38, _, rfl, ⟨by decide, by decide, rfl⟩, by decide⟩
    · rw [if_neg h2]; exact ⟨118, _, rfl, ⟨by decide, by decide, rfl⟩, by decide⟩

theorem named_of {T : List Int} {p : Nat} {a c : Int} {r : List Int} (h : T.drop p = a :: c :: r) (hc : nameB c = true) : namedB T p = true := by
  obtain ⟨_, _, h3⟩ := pos_get h
  obtain ⟨h4, h5, _⟩ := pos_get h3
  unfold namedB
  rw [h5, hc]
  simp
  omega

theorem run_val {T : List Int} {p : Nat} (m : Int) (i j : Nat) {rest : List Int} {N A C : Nat} {l mm d : Bool} (hT : T.drop p = valL m i j ++ rest) (ho : opensB T p = true) (hs : marksTo T p = ⟨N, A, C, l, mm, d⟩) :
    marksTo T (p + (valL m i j).length) = ⟨N + pv m, A + hit (m == 1), C + hit (m == 2), l, mm, d⟩ ∧ T.drop (p + (valL m i j).length) = rest := by
  have w118 : wordC 118 := ⟨by decide, by decide, rfl⟩
  unfold valL preL at hT ⊢
  by_cases h1 : m = 1
  · rw [if_pos h1] at hT ⊢
    subst h1
    have hn := named_of (p := p) (a := 42) (c := 118) (r := tailW i j ++ rest) hT rfl
    have h := run_word (T := T) (p := p) (c := 42) (118 :: tailW i j) (rest := rest) hT ⟨by decide, by decide, rfl⟩ (by decide) (fun x hx => by rcases List.mem_cons.1 hx with rfl | hx; exact w118; exact tail_word i j x hx) ho hs
    rw [hn] at h
    have e : ([42] ++ [118] ++ tailW i j : List Int).length = 1 + (118 :: tailW i j).length := by simp; omega
    rw [e, ← Nat.add_assoc]
    exact h
  · rw [if_neg h1] at hT ⊢
    by_cases h2 : m = 2
    · rw [if_pos h2] at hT ⊢
      subst h2
      have hn := named_of (p := p) (a := 38) (c := 97) (r := tailW i j ++ (32 :: 118 :: tailW i j ++ rest)) (by rw [hT]; simp) rfl
      have h := run_word (T := T) (p := p) (c := 38) (97 :: tailW i j) (rest := 32 :: 118 :: (tailW i j ++ rest)) (by rw [hT]; simp) ⟨by decide, by decide, rfl⟩ (by decide) (fun x hx => by rcases List.mem_cons.1 hx with rfl | hx; exact ⟨by decide, by decide, rfl⟩; exact tail_word i j x hx) ho hs
      rw [hn] at h
      obtain ⟨k1, k2⟩ := h
      obtain ⟨k3, k4, k5⟩ := run_sep k2 (.inl rfl) k1
      have h' := run_word (tailW i j) k4 w118 (by decide) (tail_word i j) k5 k3
      have e : ([38, 97] ++ tailW i j ++ [32] ++ [118] ++ tailW i j : List Int).length = 1 + (97 :: tailW i j).length + 1 + 1 + (tailW i j).length := by simp; omega
      rw [e, show p + (1 + (97 :: tailW i j).length + 1 + 1 + (tailW i j).length) = p + 1 + (97 :: tailW i j).length + 1 + 1 + (tailW i j).length by omega]
      refine ⟨?_, h'.2⟩
      rw [h'.1]
      simp [hit, pv]
    · rw [if_neg h2] at hT ⊢
      have h := run_word (T := T) (p := p) (c := 118) (tailW i j) (rest := rest) hT w118 (by decide) (tail_word i j) ho hs
      have e : ([] ++ [118] ++ tailW i j : List Int).length = 1 + (tailW i j).length := by simp; omega
      rw [e, ← Nat.add_assoc]
      refine ⟨?_, h.2⟩
      rw [h.1]
      simp [hit, pv, h1, h2]

/-- The line's end: LF, or CR LF. -/
def nlL (crlf : Bool) : List Int := if crlf then [13, 10] else [10]

theorem run_nl {T : List Int} {p : Nat} (crlf : Bool) {rest : List Int} {s : St} (hT : T.drop p = nlL crlf ++ rest) (hs : marksTo T p = s) :
    marksTo T (p + (nlL crlf).length) = s ∧ T.drop (p + (nlL crlf).length) = rest ∧ opensB T (p + (nlL crlf).length) = true := by
  cases crlf with
  | false => exact run_sep (c := 10) hT (.inr (.inl rfl)) hs
  | true =>
    obtain ⟨k1, k2, _⟩ := run_sep (c := 13) (rest := 10 :: rest) hT (.inr (.inr rfl)) hs
    exact run_sep (c := 10) k2 (.inr (.inl rfl)) k1

/-- One key and its value. -/
def pairL (m : Int) (crlf : Bool) (i j : Nat) : List Int := (if j = 0 then [45, 32] else [32, 32]) ++ [107] ++ digs j ++ [58, 32] ++ valL m i j ++ nlL crlf

theorem run_key {T : List Int} {p : Nat} (m : Int) (crlf : Bool) (i j : Nat) {rest : List Int} {N A C : Nat} {mm d : Bool} (hT : T.drop p = [107] ++ digs j ++ [58, 32] ++ valL m i j ++ nlL crlf ++ rest) (ho : opensB T p = true) (hs : marksTo T p = ⟨N, A, C, false, mm, d⟩) :
    marksTo T (p + ([107] ++ digs j ++ [58, 32] ++ valL m i j ++ nlL crlf).length) = ⟨N + 1 + hit d + pv m, A + hit (m == 1), C + hit (m == 2), false, mm, false⟩ ∧
    T.drop (p + ([107] ++ digs j ++ [58, 32] ++ valL m i j ++ nlL crlf).length) = rest ∧ opensB T (p + ([107] ++ digs j ++ [58, 32] ++ valL m i j ++ nlL crlf).length) = true := by
  have hk : namedB T p = namedB T p := rfl
  obtain ⟨k1, k2⟩ := run_word (c := 107) (digs j) (rest := 58 :: 32 :: (valL m i j ++ (nlL crlf ++ rest))) (by rw [hT]; simp) ⟨by decide, by decide, rfl⟩ (by decide) (digs_word j) ho hs
  obtain ⟨c, r, hv, hc, h45⟩ := val_head m i j (nlL crlf ++ rest)
  rw [hv] at k2
  have hk1 : marksTo T (p + 1 + (digs j).length) = ⟨N + 1, A, C, false, mm, d⟩ := by
    rw [k1]
    have z1 : hit (namedB T p && (107 : Int) == 42) = 0 := by simp [hit]
    have z2 : hit (namedB T p && (107 : Int) == 38) = 0 := by simp [hit]
    rw [z1, z2]
    rfl
  obtain ⟨k3, k4⟩ := run_colon k2 hc hk1
  obtain ⟨k5, k6, k7⟩ := run_sep k4 (.inl rfl) k3
  rw [← hv] at k6
  obtain ⟨k8, k9⟩ := run_val m i j k6 k7 k5
  obtain ⟨k10, k11, k12⟩ := run_nl crlf k9 k8
  have e : p + ([107] ++ digs j ++ [58, 32] ++ valL m i j ++ nlL crlf).length = p + 1 + (digs j).length + 1 + 1 + (valL m i j).length + (nlL crlf).length := by simp; omega
  rw [e]
  exact ⟨k10, k11, k12⟩

theorem run_first {T : List Int} {p : Nat} (m : Int) (crlf : Bool) (i : Nat) {rest : List Int} {N A C : Nat} {mm d : Bool} (hT : T.drop p = pairL m crlf i 0 ++ rest) (ho : opensB T p = true) (hs : marksTo T p = ⟨N, A, C, false, mm, d⟩) :
    marksTo T (p + (pairL m crlf i 0).length) = ⟨N + 2 + pv m, A + hit (m == 1), C + hit (m == 2), false, mm, false⟩ ∧ T.drop (p + (pairL m crlf i 0).length) = rest ∧ opensB T (p + (pairL m crlf i 0).length) = true := by
  unfold pairL at hT ⊢
  rw [if_pos rfl] at hT ⊢
  obtain ⟨k1, k2⟩ := run_dash (c := 107) (rest := digs 0 ++ [58, 32] ++ valL m i 0 ++ nlL crlf ++ rest) (by rw [hT]; simp) ⟨by decide, by decide, rfl⟩ (by decide) ho hs
  obtain ⟨k3, k4, k5⟩ := run_sep k2 (.inl rfl) k1
  have h := run_key m crlf i 0 (rest := rest) (by rw [k4]; simp) k5 k3
  have e : p + ([45, 32] ++ [107] ++ digs 0 ++ [58, 32] ++ valL m i 0 ++ nlL crlf).length = p + 1 + 1 + ([107] ++ digs 0 ++ [58, 32] ++ valL m i 0 ++ nlL crlf).length := by simp; omega
  rw [e]
  refine ⟨?_, h.2⟩
  rw [h.1]
  simp [hit]

theorem run_later {T : List Int} {p : Nat} (m : Int) (crlf : Bool) (i j : Nat) (hj : 0 < j) {rest : List Int} {N A C : Nat} {mm : Bool} (hT : T.drop p = pairL m crlf i j ++ rest) (hs : marksTo T p = ⟨N, A, C, false, mm, false⟩) :
    marksTo T (p + (pairL m crlf i j).length) = ⟨N + 1 + pv m, A + hit (m == 1), C + hit (m == 2), false, mm, false⟩ ∧ T.drop (p + (pairL m crlf i j).length) = rest ∧ opensB T (p + (pairL m crlf i j).length) = true := by
  unfold pairL at hT ⊢
  rw [if_neg (by omega)] at hT ⊢
  obtain ⟨k1, k2, _⟩ := run_sep (c := 32) (rest := 32 :: ([107] ++ digs j ++ [58, 32] ++ valL m i j ++ nlL crlf ++ rest)) (by rw [hT]; simp) (.inl rfl) hs
  obtain ⟨k3, k4, k5⟩ := run_sep k2 (.inl rfl) k1
  have h := run_key m crlf i j (rest := rest) k4 k5 k3
  have e : p + ([32, 32] ++ [107] ++ digs j ++ [58, 32] ++ valL m i j ++ nlL crlf).length = p + 1 + 1 + ([107] ++ digs j ++ [58, 32] ++ valL m i j ++ nlL crlf).length := by simp; omega
  rw [e]
  refine ⟨?_, h.2⟩
  rw [h.1]
  simp [hit]

/-- The first k keys of a row. -/
def rowTo (m : Int) (crlf : Bool) (i : Nat) : Nat → List Int
  | 0 => []
  | k + 1 => rowTo m crlf i k ++ pairL m crlf i k

/-- A row without keys. -/
def itemL (m : Int) (crlf : Bool) (i : Nat) : List Int := [45, 32] ++ valL m i 0 ++ nlL crlf

def rowL (m : Int) (crlf : Bool) (cols i : Nat) : List Int := (if cols = 0 then itemL m crlf i else []) ++ rowTo m crlf i cols

def textTo (m : Int) (crlf : Bool) (cols : Nat) : Nat → List Int
  | 0 => []
  | r + 1 => textTo m crlf cols r ++ rowL m crlf cols r

theorem run_row {T : List Int} {p : Nat} (m : Int) (crlf : Bool) (i : Nat) (k : Nat) (hk : 0 < k) {rest : List Int} {N A C : Nat} {mm d : Bool} (hT : T.drop p = rowTo m crlf i k ++ rest) (ho : opensB T p = true) (hs : marksTo T p = ⟨N, A, C, false, mm, d⟩) :
    marksTo T (p + (rowTo m crlf i k).length) = ⟨N + (1 + k * (1 + pv m)), A + k * hit (m == 1), C + k * hit (m == 2), false, mm, false⟩ ∧ T.drop (p + (rowTo m crlf i k).length) = rest ∧ opensB T (p + (rowTo m crlf i k).length) = true := by
  induction k generalizing rest with
  | zero => omega
  | succ k ih =>
    by_cases h0 : k = 0
    · subst h0
      have h := run_first m crlf i (rest := rest) (by simpa [rowTo] using hT) ho hs
      simp only [rowTo, List.nil_append]
      refine ⟨?_, h.2⟩
      rw [h.1]
      simp
      omega
    · have hT' : T.drop p = rowTo m crlf i k ++ (pairL m crlf i k ++ rest) := by rw [hT]; simp [rowTo]
      obtain ⟨a1, a2, a3⟩ := ih (by omega) hT'
      have h := run_later m crlf i k (by omega) a2 a1
      rw [rowTo, List.length_append, ← Nat.add_assoc]
      refine ⟨?_, h.2⟩
      rw [h.1, Nat.succ_mul, Nat.succ_mul, Nat.succ_mul]
      congr 1 <;> omega

theorem run_item {T : List Int} {p : Nat} (m : Int) (crlf : Bool) (i : Nat) {rest : List Int} {N A C : Nat} {l mm d : Bool} (hT : T.drop p = itemL m crlf i ++ rest) (ho : opensB T p = true) (hs : marksTo T p = ⟨N, A, C, l, mm, d⟩) :
    marksTo T (p + (itemL m crlf i).length) = ⟨N + pv m, A + hit (m == 1), C + hit (m == 2), l, mm, true⟩ ∧ T.drop (p + (itemL m crlf i).length) = rest ∧ opensB T (p + (itemL m crlf i).length) = true := by
  unfold itemL at hT ⊢
  obtain ⟨c, r, hv, hc, h45⟩ := val_head m i 0 (nlL crlf ++ rest)
  have hT' : T.drop p = 45 :: 32 :: c :: r := by rw [hT, ← hv]; simp
  obtain ⟨k1, k2⟩ := run_dash hT' hc h45 ho hs
  obtain ⟨k3, k4, k5⟩ := run_sep k2 (.inl rfl) k1
  rw [← hv] at k4
  obtain ⟨k8, k9⟩ := run_val m i 0 k4 k5 k3
  have h := run_nl crlf k9 k8
  have e : p + ([45, 32] ++ valL m i 0 ++ nlL crlf).length = p + 1 + 1 + (valL m i 0).length + (nlL crlf).length := by simp; omega
  rw [e]
  exact h

/-- The nodes of one row; its values. -/
def rowN (m : Int) (cols : Nat) : Nat := if cols = 0 then pv m else 1 + cols * (1 + pv m)
def rowV (cols : Nat) : Nat := if cols = 0 then 1 else cols

theorem run_text {T : List Int} (m : Int) (crlf : Bool) (cols r : Nat) {rest : List Int} (hT : T = textTo m crlf cols r ++ rest) :
    ∃ d, marksTo T (textTo m crlf cols r).length = ⟨2 + r * rowN m cols, r * rowV cols * hit (m == 1), r * rowV cols * hit (m == 2), false, false, d⟩ ∧ T.drop (textTo m crlf cols r).length = rest ∧ opensB T (textTo m crlf cols r).length = true := by
  induction r generalizing rest with
  | zero =>
    refine ⟨false, ?_, by simp [textTo, hT], by simp [textTo, opensB]⟩
    simp [textTo, marksTo]
  | succ r ih =>
    obtain ⟨d, a1, a2, a3⟩ := ih (rest := rowL m crlf cols r ++ rest) (by rw [hT]; simp [textTo])
    rw [textTo, List.length_append]
    by_cases hc : cols = 0
    · have e : rowL m crlf cols r = itemL m crlf r := by unfold rowL; rw [if_pos hc, hc]; simp [rowTo]
      rw [e] at a2 ⊢
      have h := run_item m crlf r a2 a3 a1
      refine ⟨true, ?_, h.2⟩
      rw [h.1]
      unfold rowN rowV
      rw [if_pos hc, if_pos hc, Nat.succ_mul, Nat.mul_one, Nat.mul_one, Nat.succ_mul, Nat.succ_mul]
      congr 1 <;> omega
    · have e : rowL m crlf cols r = rowTo m crlf r cols := by unfold rowL; rw [if_neg hc]; simp
      rw [e] at a2 ⊢
      have h := run_row m crlf r cols (by omega) a2 a3 a1
      refine ⟨false, ?_, h.2⟩
      rw [h.1]
      unfold rowN rowV
      rw [if_neg hc, if_neg hc, Nat.succ_mul, Nat.succ_mul, Nat.add_mul, Nat.add_mul]
      congr 1 <;> omega

theorem marks_text (m : Int) (crlf : Bool) (cols r : Nat) :
    (marksTo (textTo m crlf cols r) (textTo m crlf cols r).length).nodes = 2 + r * rowN m cols ∧ (marksTo (textTo m crlf cols r) (textTo m crlf cols r).length).aliases = r * rowV cols * hit (m == 1) ∧ (marksTo (textTo m crlf cols r) (textTo m crlf cols r).length).anchors = r * rowV cols * hit (m == 2) := by
  obtain ⟨d, h, _⟩ := run_text (T := textTo m crlf cols r) m crlf cols r (rest := []) (by simp)
  rw [h]
  exact ⟨rfl, rfl, rfl⟩

end Go.Proofs.Qxb6605440a
