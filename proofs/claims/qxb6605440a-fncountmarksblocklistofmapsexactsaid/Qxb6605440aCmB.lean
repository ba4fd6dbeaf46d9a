import Derived.Test.Qxb6605440aCmA
namespace Go.Proofs.Qxb6605440a
open Go.RowKit

set_option maxHeartbeats 800000 in
theorem starts25 (b o c n i : Nat) (x : Int) (T : List Int) (w : World) (hn : T.length = n) (hT : Txt w b o T) (hx : x = (i : Int)) (hi : i < n) (hnm : n ≤ 4194304) :
    Calls Try.prog 25 #[.slice (some ⟨b, o, none⟩) n c, .int .i64 x] w fun e w' => e = .returned (.bool (startsB T i)) ∧ w = w' := by
  subst hx
  have g0 := hT i (by omega)
  have HN : Hid (T.length = n) := hn
  have HS : Hid (startsB T i = (ch T i == 13 || ch T i == 10 || (ch T i == 194 && ch T (i + 1) == 133) || (ch T i == 226 && ch T (i + 1) == 128 && (ch T (i + 2) == 168 || ch T (i + 2) == 169)))) := rfl
  have G : Hid (Txt w b o T) := hT
  clear hn hT
  generalize startsB T i = r at HS
  generalize ch T i = c0 at g0 HS
  by_cases h13 : c0 = 13
  · subst h13
    go_enter Try.func25, Try.ntmps25
    go_wp2
    go_ret
    exact ⟨ret_bool (by rw [HS.out]; rfl), rfl⟩
  · have h13' : (c0 == 13) = false := by simp [h13]
    by_cases h10 : c0 = 10
    · subst h10
      go_enter Try.func25, Try.ntmps25
      go_wp2
      go_ret
      exact ⟨ret_bool (by rw [HS.out]; rfl), rfl⟩
    · have h10' : (c0 == 10) = false := by simp [h10]
      clear h13 h10
      by_cases h194 : c0 = 194
      · subst h194
        by_cases h1 : i + 1 < n
        · have g1 := G.out (i + 1) (by have := HN.out; omega)
          generalize ch T (i + 1) = c1 at g1 HS
          go_enter Try.func25, Try.ntmps25
          go_wp2
          go_ret
          exact ⟨ret_bool (by rw [HS.out]; simp), rfl⟩
        · have e1 : ch T (i + 1) = 0 := ch_past (by have := HN.out; omega)
          rw [e1] at HS
          clear e1
          go_enter Try.func25, Try.ntmps25
          go_wp2
          go_ret
          exact ⟨ret_bool (by rw [HS.out]; rfl), rfl⟩
      · have h194' : (c0 == 194) = false := by simp [h194]
        clear h194
        by_cases h226 : c0 = 226
        · subst h226
          by_cases h1 : i + 2 < n
          · have g1 := G.out (i + 1) (by have := HN.out; omega)
            have g2 := G.out (i + 2) (by have := HN.out; omega)
            generalize ch T (i + 1) = c1 at g1 HS
            generalize ch T (i + 2) = c2 at g2 HS
            have h1' : i + 1 < n := by omega
            by_cases h128 : c1 = 128
            · subst h128
              by_cases h168 : c2 = 168
              · subst h168
                go_enter Try.func25, Try.ntmps25
                go_wp2
                go_ret
                exact ⟨ret_bool (by rw [HS.out]; rfl), rfl⟩
              · have h168' : (c2 == 168) = false := by simp [h168]
                clear h168
                go_enter Try.func25, Try.ntmps25
                go_wp2
                go_ret
                exact ⟨ret_bool (by rw [HS.out]; simp [h168']), rfl⟩
            · have h128' : (c1 == 128) = false := by simp [h128]
              clear h128
              go_enter Try.func25, Try.ntmps25
              go_wp2
              go_ret
              exact ⟨ret_bool (by rw [HS.out]; simp [h128']), rfl⟩
          · have e2 : ch T (i + 2) = 0 := ch_past (by have := HN.out; omega)
            rw [e2] at HS
            clear e2
            go_enter Try.func25, Try.ntmps25
            go_wp2
            go_ret
            exact ⟨ret_bool (by rw [HS.out]; simp), rfl⟩
        · have h226' : (c0 == 226) = false := by simp [h226]
          clear h226
          go_enter Try.func25, Try.ntmps25
          go_wp2
          go_ret
          exact ⟨ret_bool (by rw [HS.out]; simp [h13', h10', h194', h226']), rfl⟩

set_option maxHeartbeats 800000 in
theorem ends31 (b o c n i : Nat) (x : Int) (T : List Int) (w : World) (hn : T.length = n) (hT : Txt w b o T) (hx : x = (i : Int)) (hi : i < n) (hnm : n ≤ 4194304) :
    Calls Try.prog 31 #[.slice (some ⟨b, o, none⟩) n c, .int .i64 x] w fun e w' => e = .returned (.bool (endsB T i)) ∧ w = w' := by
  subst hx
  have g0 := hT i (by omega)
  have HN : Hid (T.length = n) := hn
  have HS : Hid (endsB T i = (ch T i == 13 || ch T i == 10 || (ch T i == 133 && decide (1 ≤ i) && ch T (i - 1) == 194) || ((ch T i == 168 || ch T i == 169) && decide (2 ≤ i) && ch T (i - 2) == 226 && ch T (i - 1) == 128))) := rfl
  have G : Hid (Txt w b o T) := hT
  clear hn hT
  generalize endsB T i = r at HS
  generalize ch T i = c0 at g0 HS
  by_cases h13 : c0 = 13
  · subst h13
    go_enter Try.func31, Try.ntmps31
    go_wp2
    go_ret
    exact ⟨ret_bool (by rw [HS.out]; rfl), rfl⟩
  · have h13' : (c0 == 13) = false := by simp [h13]
    by_cases h10 : c0 = 10
    · subst h10
      go_enter Try.func31, Try.ntmps31
      go_wp2
      go_ret
      exact ⟨ret_bool (by rw [HS.out]; rfl), rfl⟩
    · have h10' : (c0 == 10) = false := by simp [h10]
      clear h13 h10
      by_cases h133 : c0 = 133
      · subst h133
        by_cases h1 : 1 ≤ i
        · have g1 := G.out (i - 1) (by have := HN.out; omega)
          generalize ch T (i - 1) = c1 at g1 HS
          go_enter Try.func31, Try.ntmps31
          go_wp2
          go_ret
          exact ⟨ret_bool (by rw [HS.out]; simp [h1]), rfl⟩
        · go_enter Try.func31, Try.ntmps31
          go_wp2
          go_ret
          exact ⟨ret_bool (by rw [HS.out]; simp; omega), rfl⟩
      · have h133' : (c0 == 133) = false := by simp [h133]
        clear h133
        by_cases h168 : c0 = 168 ∨ c0 = 169
        · by_cases h2 : 2 ≤ i
          · have g1 := G.out (i - 1) (by have := HN.out; omega)
            have g2 := G.out (i - 2) (by have := HN.out; omega)
            generalize ch T (i - 1) = c1 at g1 HS
            generalize ch T (i - 2) = c2 at g2 HS
            by_cases h226 : c2 = 226
            · subst h226
              rcases h168 with rfl | rfl
              all_goals
                go_enter Try.func31, Try.ntmps31
                go_wp2
                go_ret
                exact ⟨ret_bool (by rw [HS.out]; simp [h2]), rfl⟩
            · have h226' : (c2 == 226) = false := by simp [h226]
              clear h226
              rcases h168 with rfl | rfl
              all_goals
                go_enter Try.func31, Try.ntmps31
                go_wp2
                go_ret
                exact ⟨ret_bool (by rw [HS.out]; simp [h226']), rfl⟩
          · rcases h168 with rfl | rfl
            all_goals
              go_enter Try.func31, Try.ntmps31
              go_wp2
              go_ret
              exact ⟨ret_bool (by rw [HS.out]; simp; omega), rfl⟩
        · have h168' : (c0 == 168) = false := by simp; omega
          have h169' : (c0 == 169) = false := by simp; omega
          clear h168
          go_enter Try.func31, Try.ntmps31
          go_wp2
          go_ret
          exact ⟨ret_bool (by rw [HS.out]; simp [h13', h10', h133', h168', h169']), rfl⟩

end Go.Proofs.Qxb6605440a
