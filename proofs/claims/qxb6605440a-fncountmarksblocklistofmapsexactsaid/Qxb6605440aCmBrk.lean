import Derived.Test.Qxb6605440aCmA
import Derived.Test.Qxb6605440aCmModel
namespace Go.Proofs.Qxb6605440a
open Go.RowKit

theorem brk_1 {T : List Int} {i : Nat} (h : ch T i = 13 ∨ ch T i = 10) : brkN T i = 1 := by unfold brkN; rw [if_pos h]
theorem brk_2 {T : List Int} {i : Nat} (h : ch T i = 194) (h1 : ch T (i + 1) = 133) : brkN T i = 2 := by unfold brkN; rw [if_neg (by omega), if_pos ⟨h, h1⟩]
theorem brk_2n {T : List Int} {i : Nat} (h : ch T i = 194) (h1 : ch T (i + 1) ≠ 133) : brkN T i = 0 := by unfold brkN; rw [if_neg (by omega), if_neg (by omega), if_neg (by omega)]
theorem brk_3 {T : List Int} {i : Nat} (h : ch T i = 226) (h1 : ch T (i + 1) = 128) (h2 : ch T (i + 2) = 168 ∨ ch T (i + 2) = 169) : brkN T i = 3 := by unfold brkN; rw [if_neg (by omega), if_neg (by omega), if_pos ⟨h, h1, h2⟩]
theorem brk_3n {T : List Int} {i : Nat} (h : ch T i = 226) (h1 : ch T (i + 1) ≠ 128 ∨ (ch T (i + 2) ≠ 168 ∧ ch T (i + 2) ≠ 169)) : brkN T i = 0 := by unfold brkN; rw [if_neg (by omega), if_neg (by omega), if_neg (by omega)]

theorem ret_i {a b : Nat} (h : a = b) : Ending.returned (.int .i64 (a : Int)) = .returned (.int .i64 (b : Int)) := by rw [h]

set_option maxHeartbeats 800000 in
theorem brk20 (b o c n i : Nat) (x : Int) (T : List Int) (w : World) (hn : T.length = n) (hT : Txt w b o T) (hx : x = (i : Int)) (hi : i < n) (hnm : n ≤ 4194304) :
    Calls Try.prog 20 #[.slice (some ⟨b, o, none⟩) n c, .int .i64 x] w fun e w' => e = .returned (.int .i64 (brkN T i : Nat)) ∧ w = w' := by
  subst hx
  have g0 := hT i (by omega)
  have HN : Hid (T.length = n) := hn
  have G : Hid (Txt w b o T) := hT
  clear hn hT
  generalize hc0 : ch T i = c0 at g0
  have HC0 : Hid _ := hc0
  clear hc0
  by_cases h13 : c0 = 13
  · subst h13
    have HB : Hid (brkN T i = 1) := brk_1 (.inl HC0.out)
    go_enter Try.func20, Try.ntmps20
    go_wp2
    go_ret
    exact ⟨by rw [HB.out]; rfl, rfl⟩
  · have h13' : (c0 == 13) = false := by simp [h13]
    by_cases h10 : c0 = 10
    · subst h10
      have HB : Hid (brkN T i = 1) := brk_1 (.inr HC0.out)
      clear h13
      go_enter Try.func20, Try.ntmps20
      go_wp2
      go_ret
      exact ⟨by rw [HB.out]; rfl, rfl⟩
    · have h10' : (c0 == 10) = false := by simp [h10]
      by_cases h194 : c0 = 194
      · subst h194
        clear h13 h10
        by_cases h1 : i + 1 < n
        · have g1 := G.out (i + 1) (by have := HN.out; omega)
          generalize hc1 : ch T (i + 1) = c1 at g1
          by_cases h133 : c1 = 133
          · have HB : Hid (brkN T i = 2) := brk_2 HC0.out (hc1.trans h133)
            subst h133
            clear hc1
            go_enter Try.func20, Try.ntmps20
            go_wp2
            go_ret
            exact ⟨by rw [HB.out]; rfl, rfl⟩
          · have HB : Hid (brkN T i = 0) := brk_2n HC0.out (by rw [hc1]; exact h133)
            have h133' : (c1 == 133) = false := by simp [h133]
            clear hc1 h133
            go_enter Try.func20, Try.ntmps20
            go_wp2
            go_ret
            exact ⟨by rw [HB.out]; rfl, rfl⟩
        · have HB : Hid (brkN T i = 0) := brk_2n HC0.out (by rw [ch_past (by have := HN.out; omega)]; decide)
          go_enter Try.func20, Try.ntmps20
          go_wp2
          go_ret
          exact ⟨by rw [HB.out]; rfl, rfl⟩
      · have h194' : (c0 == 194) = false := by simp [h194]
        by_cases h226 : c0 = 226
        · subst h226
          clear h13 h10 h194
          by_cases h1 : i + 2 < n
          · have g1 := G.out (i + 1) (by have := HN.out; omega)
            have g2 := G.out (i + 2) (by have := HN.out; omega)
            have hi1 : i + 1 < n := by omega
            generalize hc1 : ch T (i + 1) = c1 at g1
            generalize hc2 : ch T (i + 2) = c2 at g2
            by_cases h128 : c1 = 128
            · by_cases h168 : c2 = 168
              · have HB : Hid (brkN T i = 3) := brk_3 HC0.out (hc1.trans h128) (.inl (hc2.trans h168))
                subst h128 h168
                clear hc1 hc2
                go_enter Try.func20, Try.ntmps20
                go_wp2
                go_ret
                exact ⟨by rw [HB.out]; rfl, rfl⟩
              · have h168' : (c2 == 168) = false := by simp [h168]
                by_cases h169 : c2 = 169
                · have HB : Hid (brkN T i = 3) := brk_3 HC0.out (hc1.trans h128) (.inr (hc2.trans h169))
                  subst h128 h169
                  clear hc1 hc2 h168
                  go_enter Try.func20, Try.ntmps20
                  go_wp2
                  go_ret
                  exact ⟨by rw [HB.out]; rfl, rfl⟩
                · have HB : Hid (brkN T i = 0) := brk_3n HC0.out (.inr ⟨by rw [hc2]; exact h168, by rw [hc2]; exact h169⟩)
                  have h169' : (c2 == 169) = false := by simp [h169]
                  subst h128
                  clear hc1 hc2 h168 h169
                  go_enter Try.func20, Try.ntmps20
                  go_wp2
                  go_ret
                  exact ⟨by rw [HB.out]; rfl, rfl⟩
            · have HB : Hid (brkN T i = 0) := brk_3n HC0.out (.inl (by rw [hc1]; exact h128))
              have h128' : (c1 == 128) = false := by simp [h128]
              clear hc1 hc2 h128
              go_enter Try.func20, Try.ntmps20
              go_wp2
              go_ret
              exact ⟨by rw [HB.out]; rfl, rfl⟩
          · have HB : Hid (brkN T i = 0) := brk_3n HC0.out (.inr (by rw [ch_past (by have := HN.out; omega)]; decide))
            go_enter Try.func20, Try.ntmps20
            go_wp2
            go_ret
            exact ⟨by rw [HB.out]; rfl, rfl⟩
        · have HB : Hid (brkN T i = 0) := brk_of (by rw [HC0.out]; exact h13) (by rw [HC0.out]; exact h10) (by rw [HC0.out]; exact h194) (by rw [HC0.out]; exact h226)
          have h226' : (c0 == 226) = false := by simp [h226]
          clear h13 h10 h194 h226
          go_enter Try.func20, Try.ntmps20
          go_wp2
          go_ret
          exact ⟨by rw [HB.out]; rfl, rfl⟩

end Go.Proofs.Qxb6605440a
