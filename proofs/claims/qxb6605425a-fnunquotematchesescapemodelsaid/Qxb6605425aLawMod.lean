import Derived.Test.Qxb6605425aLawInv
import Derived.Test.Qxb6605425aMod
namespace Go.Proofs.Qxb6605425a
open Go.RowKit

theorem unqM_len (l : List Int) (esc : Bool) (acc x y : List Int) (h : unqM l esc acc = some (x, y)) : x.length ≤ acc.length + l.length := by
  induction l generalizing esc acc with
  | nil => rw [unqM_end] at h; cases h
  | cons c t ih =>
    cases esc with
    | true =>
      rw [unqM] at h
      have := ih _ _ h
      simp at this ⊢
      omega
    | false =>
      rw [unqM] at h
      by_cases h34 : c = 34
      · rw [if_pos h34] at h
        simp at h
        obtain ⟨rfl, _⟩ := h
        simp
      · rw [if_neg h34] at h
        by_cases h92 : c = 92
        · rw [if_pos h92] at h
          have := ih _ _ h
          simp at this ⊢
          omega
        · rw [if_neg h92] at h
          have := ih _ _ h
          simp at this ⊢
          omega

theorem zz6_yes (a0 : Option Addr) (n0 c0 : Nat) (w : World) (h : n0 ≤ 1048576) :
    Calls Try.prog 6 #[.slice a0 n0 c0] w fun e w' => e = .returned (.bool true) ∧ w = w' := by
  go_enter Try.func6, Try.ntmps6
  go_wp2
  go_ret
  exact ⟨rfl, rfl⟩

theorem zz6_no (a0 : Option Addr) (n0 c0 : Nat) (w : World) (h : ¬ n0 ≤ 1048576) (hm0 : n0 ≤ 9223372036854775807) :
    Calls Try.prog 6 #[.slice a0 n0 c0] w fun e w' => e = .returned (.bool false) ∧ w = w' := by
  go_enter Try.func6, Try.ntmps6
  go_wp2
  go_ret
  exact ⟨rfl, rfl⟩

set_option maxHeartbeats 800000 in
theorem law3 (a0 : Option Addr) (n0 c0 : Nat) (z0 : List Int) (w : World) (hn0 : z0.length = n0) (hs0 : Seg .u8 w a0 z0)
    (hnil0 : a0 = none → n0 = 0) (hm0 : n0 ≤ 9223372036854775807) :
    Calls Try.prog 3 #[.slice a0 n0 c0] w fun e w' => e = .returned (.bool true) ∧ Below w.heap.size w w' := by
  have q22 : ∀ (w : World) (a : Option Addr) (n c n' c' : Nat), (binOp .eql 22 (.slice a n c) (.slice none n' c')).run Try.prog w = .ok (.bool a.isNone) w := fun w a n c n' c' => Lib.run_eql_slice_nil w _ _ a n c n' c' Try.underlying22
  by_cases h : n0 ≤ 1048576
  · have HS0 : Hid _ := hs0
    have HN0 : Hid _ := hn0
    have HA0 : Hid _ := hnil0
    clear hs0 hn0 hnil0
    go_enter Try.func3, Try.ntmps3
    go_wp2_with fail
    refine (zz6_yes _ _ _ _ h).mono ?_
    rintro e w' ⟨rfl, rfl⟩
    go_wp2_with fail
    refine (clone7 _ _ _ z0 _ HN0.out HS0.out HA0.out (by omega)).mono ?_
    rintro e w1 ⟨a0', c0', rfl, hs0, hc0, hc0', hb1⟩
    clear HS0 HA0
    go_wp2_with fail
    refine (mod8 _ _ _ z0 _ HN0.out hs0 (by omega)).mono ?_
    rintro e w2 ⟨hb2, h2⟩
    generalize hr : unqM (z0.drop 1) false [] = r at h2
    have HR : Hid _ := hr
    clear hr
    have hs0' := hs0.below hb2 (Nat.le_refl _)
    have hb := hb1.trans (hb2.mono hb1.size)
    clear hs0 hb1 hb2
    rcases r with _ | ⟨x, y⟩
    · subst h2
      go_wp2_with fail
      refine (zz9 _ _ _ z0 _ HN0.out hs0' hc0 (by omega) (by omega)).mono ?_
      rintro e w3 ⟨hb3, h3⟩
      rw [HR.out] at h3
      subst h3
      have hbf := hb.trans (hb3.mono hb.size)
      clear hb hb3 HR hs0'
      go_wp2
      go_ret
      exact ⟨rfl, hbf⟩
    · obtain ⟨a1, n1, c1, j, he, hx, hj, hy, hsx⟩ := h2
      subst he
      have HX : Hid _ := hx
      have HY : Hid _ := hy
      clear hx hy
      rcases hs0' with hs0' | ⟨b, o, ha, hs0'⟩
      · rw [hs0'] at hj
        simp at hj
      · rw [ha]
        have hjn : j < n0 := by have := HN0.out; omega
        have HS : Hid _ := hs0'
        clear hs0' ha hj
        go_wp2_with fail
        refine (zz9 _ _ _ z0 _ HN0.out (.inr ⟨b, o, rfl, HS.out⟩) hc0 (by omega) (by omega)).mono ?_
        rintro e w3 ⟨hb3, h3⟩
        rw [HR.out] at h3
        obtain ⟨q1, m1, d1, q2, m2, d2, he, e1, e2, s1, s2⟩ := h3
        subst he
        obtain rfl : m1 = n1 := e1.symm.trans HX.out
        have hsx3 := hsx.below hb3 (Nat.le_refl _)
        have hbf := hb.trans (hb3.mono hb.size)
        have hxl : m1 ≤ 4194304 := by
          have h1 := unqM_len _ _ _ _ _ HR.out
          have h2 := HN0.out
          have h3 := HX.out
          simp at h1
          omega
        obtain rfl : m2 = n0 - (j + 1) := by
          have h1 := HN0.out
          rw [← e2, HY.out]
          simp
          omega
        have HST : ∀ (a : Option Addr), (c0' ≠ j + 1 → a = some ⟨b, o + (j + 1), none⟩) → Seg .u8 w3 a y := fun a ha => by
          rw [HY.out]
          exact (Seg.tail (c := c0') HS.out (by have := HN0.out; omega) ha).below hb3 (Nat.le_refl _)
        have HST' : Hid _ := HST
        clear hb hb3 hsx HR HS HST e1 e2
        go_wp2_with fail
        refine (same10 _ _ _ _ _ x _ HX.out s1 hsx3 hxl).mono ?_
        rintro e w8 ⟨rfl, hb8⟩
        go_wp2_with fail
        all_goals
          refine (same10 _ _ _ _ _ y _ (by have h1 := HN0.out; rw [HY.out, List.length_drop]; omega) (s2.below hb8 (Nat.le_refl _)) ((HST'.out _ (by first | (intro h; rfl) | (intro h; omega))).below hb8 (Nat.le_refl _)) (by omega)).mono ?_
          rintro e w9 ⟨rfl, hb9⟩
          have hbg : Below w.heap.size w w9 := (hbf.trans (hb8.mono hbf.size)).trans (hb9.mono (Nat.le_trans hbf.size hb8.size))
          clear hb8 hb9 hbf
          go_wp2
          go_ret
          exact ⟨rfl, hbg⟩
  · go_enter Try.func3, Try.ntmps3
    go_wp2_with fail
    refine (zz6_no _ _ _ _ h hm0).mono ?_
    rintro e w' ⟨rfl, rfl⟩
    go_wp2
    go_ret
    exact ⟨rfl, Below.refl _ _⟩

end Go.Proofs.Qxb6605425a
