import Derived.Test.Qxb6605440aCmStep
namespace Go.Proofs.Qxb6605440a
open Go.RowKit

/-- The length of the line break that begins at i. -/
def brkN (T : List Int) (i : Nat) : Nat :=
  if ch T i = 13 ∨ ch T i = 10 then 1
  else if ch T i = 194 ∧ ch T (i + 1) = 133 then 2
  else if ch T i = 226 ∧ ch T (i + 1) = 128 ∧ (ch T (i + 2) = 168 ∨ ch T (i + 2) = 169) then 3
  else 0

theorem brk_cases (T : List Int) (i : Nat) :
    (brkN T i = 1 ∧ (ch T i = 13 ∨ ch T i = 10)) ∨ (brkN T i = 2 ∧ ch T i = 194 ∧ ch T (i + 1) = 133) ∨
    (brkN T i = 3 ∧ ch T i = 226 ∧ ch T (i + 1) = 128 ∧ (ch T (i + 2) = 168 ∨ ch T (i + 2) = 169)) ∨ (brkN T i = 0 ∧ startsB T i = false ∧ ch T i ≠ 13 ∧ ch T i ≠ 10) := by
  unfold brkN
  by_cases h1 : ch T i = 13 ∨ ch T i = 10
  · left; rw [if_pos h1]; exact ⟨rfl, h1⟩
  · rw [if_neg h1]
    by_cases h2 : ch T i = 194 ∧ ch T (i + 1) = 133
    · right; left; rw [if_pos h2]; exact ⟨rfl, h2⟩
    · rw [if_neg h2]
      by_cases h3 : ch T i = 226 ∧ ch T (i + 1) = 128 ∧ (ch T (i + 2) = 168 ∨ ch T (i + 2) = 169)
      · right; right; left; rw [if_pos h3]; exact ⟨rfl, h3⟩
      · right; right; right
        rw [if_neg h3]
        refine ⟨rfl, ?_, by omega, by omega⟩
        unfold startsB
        simp
        omega

/-- No longer line break reaches over k. -/
def Al (T : List Int) (k : Nat) : Prop := (1 ≤ k → brkN T (k - 1) ≤ 1) ∧ (2 ≤ k → brkN T (k - 2) ≤ 2)

theorem ends_al {T : List Int} {k : Nat} (h : Al T k) (h13 : ch T k ≠ 13) (h10 : ch T k ≠ 10) : endsB T k = false := by
  unfold endsB
  have e1 : (ch T k == 13) = false := by simp [h13]
  have e2 : (ch T k == 10) = false := by simp [h10]
  rw [e1, e2]
  simp only [Bool.false_or]
  have a1 : (ch T k == 133 && decide (1 ≤ k) && ch T (k - 1) == 194) = false := by
    rw [Bool.eq_false_iff]
    intro hc
    simp at hc
    obtain ⟨⟨h1, h2⟩, h3⟩ := hc
    have := h.1 h2
    have hb : brkN T (k - 1) = 2 := by
      unfold brkN
      rw [if_neg (by omega), if_pos ⟨h3, by rw [show k - 1 + 1 = k by omega]; exact h1⟩]
    omega
  have a2 : ((ch T k == 168 || ch T k == 169) && decide (2 ≤ k) && ch T (k - 2) == 226 && ch T (k - 1) == 128) = false := by
    rw [Bool.eq_false_iff]
    intro hc
    simp at hc
    obtain ⟨⟨⟨h1, h2⟩, h3⟩, h4⟩ := hc
    have := h.2 h2
    have hb : brkN T (k - 2) = 3 := by
      unfold brkN
      rw [if_neg (by omega), if_neg (by omega), if_pos ⟨h3, by rw [show k - 2 + 1 = k - 1 by omega]; exact h4, by rw [show k - 2 + 2 = k by omega]; exact h1⟩]
    omega
  rw [a1, a2]
  rfl

theorem opens_succ (T : List Int) (k : Nat) : opensB T (k + 1) = (sepB (ch T k) || endsB T k) := by
  simp [opensB, endSepB]

structure RM (T : List Int) (k lo hi al an : Nat) : Prop where
  al : (marksTo T k).aliases = al
  an : (marksTo T k).anchors = an
  lo : lo ≤ (marksTo T k).nodes
  hi : (marksTo T k).nodes ≤ hi
  ok : Al T k

theorem mk_succ (T : List Int) (k : Nat) : marksTo T (k + 1) = step T k (marksTo T k) := rfl

theorem st_rest' {T : List Int} {i : Nat} (s : St) (h : plainC (ch T i)) (hr : restB T i = true) : step T i s = s := st_rest (N := s.nodes) (A := s.aliases) (C := s.anchors) (l := s.lists) (m := s.maps) (d := s.owed) h hr

theorem rest_mid {T : List Int} {i : Nat} (h : sepB (ch T i) = false) (he : endsB T i = false) : restB T (i + 1) = true := by
  unfold restB
  rw [opens_succ, h, he]
  simp

theorem al_succ {T : List Int} {k : Nat} (h : Al T k) (hb : brkN T k ≤ 1) : Al T (k + 1) := by
  refine ⟨fun _ => by simpa using hb, fun h2 => ?_⟩
  have := h.1 (by omega)
  rw [show k + 1 - 2 = k - 1 by omega]
  omega

theorem brk_of {T : List Int} {i : Nat} (h1 : ch T i ≠ 13) (h2 : ch T i ≠ 10) (h3 : ch T i ≠ 194) (h4 : ch T i ≠ 226) : brkN T i = 0 := by
  unfold brkN
  rw [if_neg (by omega), if_neg (by omega), if_neg (by omega)]

/-- Over a line break nothing is counted, and a word may begin behind it. -/
theorem rm_brk {T : List Int} {k lo hi al an q : Nat} (h : RM T k lo hi al an) (hk : k < T.length) (hq : brkN T k = q) (h0 : 0 < q) : k + q ≤ T.length ∧ RM T (k + q) lo hi al an ∧ opensB T (k + q) = true := by
  have past : ∀ j, ch T j ≠ 0 → j < T.length := fun j hj => by
    rcases Nat.lt_or_ge j T.length with h1 | h1
    · exact h1
    · exact absurd (ch_past h1) hj
  rcases brk_cases T k with ⟨e, c⟩ | ⟨e, c, c1⟩ | ⟨e, c, c1, c2⟩ | ⟨e, _⟩
  · obtain rfl : q = 1 := by omega
    have hs : sepB (ch T k) = true := by rcases c with c | c <;> rw [c] <;> rfl
    have hst : step T k (marksTo T k) = marksTo T k := st_rest' _ (by unfold plainC; omega) (by unfold restB; rw [hs]; rfl)
    refine ⟨by omega, ⟨?_, ?_, ?_, ?_, al_succ h.ok (by omega)⟩, by rw [opens_succ, hs]; rfl⟩
    · rw [mk_succ, hst]; exact h.al
    · rw [mk_succ, hst]; exact h.an
    · rw [mk_succ, hst]; exact h.lo
    · rw [mk_succ, hst]; exact h.hi
  · obtain rfl : q = 2 := by omega
    have hst0 : startsB T k = true := by unfold startsB; rw [c, c1]; rfl
    have hs0 : sepB (ch T k) = false := by rw [c]; rfl
    have hs1 : sepB (ch T (k + 1)) = false := by rw [c1]; rfl
    have he0 : endsB T k = false := by unfold endsB; rw [c]; rfl
    have e1 : step T k (marksTo T k) = marksTo T k := st_rest' _ (by unfold plainC; omega) (by unfold restB; rw [hs0, hst0]; rfl)
    have e2 : step T (k + 1) (marksTo T k) = marksTo T k := st_rest' _ (by unfold plainC; omega) (rest_mid hs0 he0)
    have e3 : marksTo T (k + 2) = marksTo T k := by rw [show k + 2 = (k + 1) + 1 from rfl, mk_succ, mk_succ, e1, e2]
    have hl := past (k + 1) (by rw [c1]; decide)
    refine ⟨by omega, ⟨by rw [e3]; exact h.al, by rw [e3]; exact h.an, by rw [e3]; exact h.lo, by rw [e3]; exact h.hi, ?_⟩, ?_⟩
    · refine ⟨fun _ => ?_, fun _ => ?_⟩
      · rw [show k + 2 - 1 = k + 1 by omega, brk_of (by omega) (by omega) (by omega) (by omega)]; omega
      · rw [show k + 2 - 2 = k by omega]; omega
    · rw [show k + 2 = (k + 1) + 1 from rfl, opens_succ]
      have : endsB T (k + 1) = true := by unfold endsB; rw [c1, show k + 1 - 1 = k by omega, c]; simp
      rw [this]; simp
  · obtain rfl : q = 3 := by omega
    have hst0 : startsB T k = true := by
      unfold startsB
      rw [c, c1]
      rcases c2 with c2 | c2 <;> rw [c2] <;> rfl
    have hs0 : sepB (ch T k) = false := by rw [c]; rfl
    have hs1 : sepB (ch T (k + 1)) = false := by rw [c1]; rfl
    have hs2 : sepB (ch T (k + 2)) = false := by rcases c2 with c2 | c2 <;> rw [c2] <;> rfl
    have he0 : endsB T k = false := by unfold endsB; rw [c]; rfl
    have he1 : endsB T (k + 1) = false := by unfold endsB; rw [c1]; rfl
    have e1 : step T k (marksTo T k) = marksTo T k := st_rest' _ (by unfold plainC; omega) (by unfold restB; rw [hs0, hst0]; rfl)
    have e2 : step T (k + 1) (marksTo T k) = marksTo T k := st_rest' _ (by unfold plainC; omega) (rest_mid hs0 he0)
    have e2' : step T (k + 2) (marksTo T k) = marksTo T k := st_rest' _ (by unfold plainC; omega) (rest_mid hs1 he1)
    have e3 : marksTo T (k + 3) = marksTo T k := by rw [show k + 3 = ((k + 1) + 1) + 1 from rfl, mk_succ, mk_succ, mk_succ, e1, e2, e2']
    have hl := past (k + 2) (by rcases c2 with c2 | c2 <;> rw [c2] <;> decide)
    refine ⟨by omega, ⟨by rw [e3]; exact h.al, by rw [e3]; exact h.an, by rw [e3]; exact h.lo, by rw [e3]; exact h.hi, ?_⟩, ?_⟩
    · refine ⟨fun _ => ?_, fun _ => ?_⟩
      · rw [show k + 3 - 1 = k + 2 by omega, brk_of (by omega) (by omega) (by omega) (by omega)]; omega
      · rw [show k + 3 - 2 = k + 1 by omega, brk_of (by omega) (by omega) (by omega) (by omega)]; omega
    · rw [show k + 3 = (k + 2) + 1 from rfl, opens_succ]
      have : endsB T (k + 2) = true := by
        unfold endsB
        rw [show k + 2 - 1 = k + 1 by omega, show k + 2 - 2 = k by omega, c, c1]
        rcases c2 with c2 | c2 <;> rw [c2] <;> simp
      rw [this]; simp
  · omega

theorem rm_sepC {T : List Int} {k lo hi al an lo' hi' : Nat} (h : RM T k lo hi al an) (hb : brkN T k = 0) (hs : sepB (ch T k) = true)
    (ha : (step T k (marksTo T k)).aliases = (marksTo T k).aliases) (hn : (step T k (marksTo T k)).anchors = (marksTo T k).anchors)
    (hl : lo' ≤ (step T k (marksTo T k)).nodes) (hh : (step T k (marksTo T k)).nodes ≤ hi') : RM T (k + 1) lo' hi' al an ∧ opensB T (k + 1) = true := by
  refine ⟨⟨?_, ?_, hl, hh, al_succ h.ok (by omega)⟩, by rw [opens_succ, hs]; rfl⟩
  · rw [mk_succ, ha]; exact h.al
  · rw [mk_succ, hn]; exact h.an

theorem rm_open {T : List Int} {k lo hi al an : Nat} (h : RM T k lo hi al an) (hb : brkN T k = 0) (hc : ch T k = 91 ∨ ch T k = 123) : RM T (k + 1) (lo + 1) (hi + 1) al an ∧ opensB T (k + 1) = true := by
  have e : step T k (marksTo T k) = _ := st_open (N := (marksTo T k).nodes) (A := (marksTo T k).aliases) (C := (marksTo T k).anchors) (l := (marksTo T k).lists) (m := (marksTo T k).maps) (d := (marksTo T k).owed) hc
  have h1 := h.lo
  have h2 := h.hi
  exact rm_sepC h hb (by rcases hc with c | c <;> rw [c] <;> rfl) (by rw [e]) (by rw [e]) (by rw [e]; simp; omega) (by rw [e]; simp; omega)

theorem rm_quest {T : List Int} {k lo hi al an : Nat} (h : RM T k lo hi al an) (hb : brkN T k = 0) (hc : ch T k = 63) : RM T (k + 1) (lo + 3) (hi + 3) al an ∧ opensB T (k + 1) = true := by
  have e : step T k (marksTo T k) = _ := st_quest (N := (marksTo T k).nodes) (A := (marksTo T k).aliases) (C := (marksTo T k).anchors) (l := (marksTo T k).lists) (m := (marksTo T k).maps) (d := (marksTo T k).owed) hc
  have h1 := h.lo
  have h2 := h.hi
  exact rm_sepC h hb (by rw [hc]; rfl) (by rw [e]) (by rw [e]) (by rw [e]; simp; omega) (by rw [e]; simp; omega)

theorem rm_colon {T : List Int} {k lo hi al an : Nat} (h : RM T k lo hi al an) (hb : brkN T k = 0) (hc : ch T k = 58) : RM T (k + 1) lo (hi + 3) al an ∧ opensB T (k + 1) = true := by
  have e : step T k (marksTo T k) = _ := st_colon (N := (marksTo T k).nodes) (A := (marksTo T k).aliases) (C := (marksTo T k).anchors) (l := (marksTo T k).lists) (m := (marksTo T k).maps) (d := (marksTo T k).owed) hc
  have h1 := h.lo
  have h2 := h.hi
  have h3 := colon_le T k (marksTo T k).lists (marksTo T k).owed
  exact rm_sepC h hb (by rw [hc]; rfl) (by rw [e]) (by rw [e]) (by rw [e]; simp; omega) (by rw [e]; simp; omega)

theorem rm_comma {T : List Int} {k lo hi al an : Nat} (h : RM T k lo hi al an) (hb : brkN T k = 0) (hc : ch T k = 44 ∨ ch T k = 125) : RM T (k + 1) lo (hi + 1) al an ∧ opensB T (k + 1) = true := by
  have e : step T k (marksTo T k) = _ := st_comma (N := (marksTo T k).nodes) (A := (marksTo T k).aliases) (C := (marksTo T k).anchors) (l := (marksTo T k).lists) (m := (marksTo T k).maps) (d := (marksTo T k).owed) hc
  have h1 := h.lo
  have h2 := h.hi
  have h3 := hit_le (marksTo T k).maps
  exact rm_sepC h hb (by rcases hc with c | c <;> rw [c] <;> rfl) (by rw [e]) (by rw [e]) (by rw [e]; simp; omega) (by rw [e]; simp; omega)

theorem rm_sep {T : List Int} {k lo hi al an : Nat} (h : RM T k lo hi al an) (hb : brkN T k = 0) (hp : plainC (ch T k)) (hs : sepB (ch T k) = true) : RM T (k + 1) lo hi al an ∧ opensB T (k + 1) = true := by
  have e : step T k (marksTo T k) = marksTo T k := st_rest' _ hp (by unfold restB; rw [hs]; rfl)
  exact rm_sepC h hb hs (by rw [e]) (by rw [e]) (by rw [e]; exact h.lo) (by rw [e]; exact h.hi)

theorem rm_mid {T : List Int} {k lo hi al an : Nat} (h : RM T k lo hi al an) (hb : brkN T k = 0) (hp : plainC (ch T k)) (hs : sepB (ch T k) = false) (hst : opensB T k = false) : RM T (k + 1) lo hi al an ∧ opensB T (k + 1) = false := by
  have hc := brk_cases T k
  have h13 : ch T k ≠ 13 ∧ ch T k ≠ 10 := by omega
  have e : step T k (marksTo T k) = marksTo T k := st_rest' _ hp (by unfold restB; rw [hst]; simp)
  refine ⟨⟨by rw [mk_succ, e]; exact h.al, by rw [mk_succ, e]; exact h.an, by rw [mk_succ, e]; exact h.lo, by rw [mk_succ, e]; exact h.hi, al_succ h.ok (by omega)⟩, ?_⟩
  rw [opens_succ, hs, ends_al h.ok h13.1 h13.2]; rfl

theorem rm_word {T : List Int} {k lo hi al an : Nat} (h : RM T k lo hi al an) (hb : brkN T k = 0) (hp : plainC (ch T k)) (hs : sepB (ch T k) = false) (hst : opensB T k = true) :
    RM T (k + 1) (lo + hit (ch T k != 45)) (hi + 1) (al + hit (namedB T k && ch T k == 42)) (an + hit (namedB T k && ch T k == 38)) ∧ opensB T (k + 1) = false := by
  have hc := brk_cases T k
  have h13 : ch T k ≠ 13 ∧ ch T k ≠ 10 := by omega
  have hS : startsB T k = false := by
    rcases hc with ⟨e, _⟩ | ⟨e, _⟩ | ⟨e, _⟩ | ⟨_, e, _⟩
    · omega
    · omega
    · omega
    · exact e
  have hr : restB T k = false := by unfold restB; rw [hs, hS, hst]; rfl
  have h1 := h.lo
  have h2 := h.hi
  have ho : opensB T (k + 1) = false := by rw [opens_succ, hs, ends_al h.ok h13.1 h13.2]; rfl
  have h45 := hit_le (ch T k != 45)
  cases hbl : blockB T k with
  | false =>
    have e : step T k (marksTo T k) = _ := st_word (N := (marksTo T k).nodes) (A := (marksTo T k).aliases) (C := (marksTo T k).anchors) (l := (marksTo T k).lists) (m := (marksTo T k).maps) (d := (marksTo T k).owed) hp hr hbl
    refine ⟨⟨?_, ?_, ?_, ?_, al_succ h.ok (by omega)⟩, ho⟩
    · rw [mk_succ, e, ← h.al]
    · rw [mk_succ, e, ← h.an]
    · rw [mk_succ, e]; simp; omega
    · rw [mk_succ, e]; simp; omega
  | true =>
    have hc45 : ch T k = 45 := by
      unfold blockB at hbl
      simp at hbl
      exact hbl.1.1
    have z1 : hit (ch T k != 45) = 0 := by rw [hc45]; rfl
    have z2 : hit (namedB T k && ch T k == 42) = 0 := by rw [hc45]; simp [hit]
    have z3 : hit (namedB T k && ch T k == 38) = 0 := by rw [hc45]; simp [hit]
    rw [z1, z2, z3]
    cases how : ownsB T k with
    | true =>
      have e : step T k (marksTo T k) = _ := st_owns (N := (marksTo T k).nodes) (A := (marksTo T k).aliases) (C := (marksTo T k).anchors) (l := (marksTo T k).lists) (m := (marksTo T k).maps) (d := (marksTo T k).owed) hp hr hbl how
      refine ⟨⟨by rw [mk_succ, e]; exact h.al, by rw [mk_succ, e]; exact h.an, by rw [mk_succ, e]; simp; omega, by rw [mk_succ, e]; simp; omega, al_succ h.ok (by omega)⟩, ho⟩
    | false =>
      have e : step T k (marksTo T k) = _ := st_owed (N := (marksTo T k).nodes) (A := (marksTo T k).aliases) (C := (marksTo T k).anchors) (l := (marksTo T k).lists) (m := (marksTo T k).maps) (d := (marksTo T k).owed) hp hr hbl how
      refine ⟨⟨by rw [mk_succ, e]; exact h.al, by rw [mk_succ, e]; exact h.an, by rw [mk_succ, e]; simp; omega, by rw [mk_succ, e]; simp; omega, al_succ h.ok (by omega)⟩, ho⟩

end Go.Proofs.Qxb6605440a
