import Derived.Test.Qxb6605440aCmB
namespace Go.Proofs.Qxb6605440a
open Go.RowKit

set_option maxHeartbeats 800000 in
theorem endsep26 (b o c n i : Nat) (x : Int) (T : List Int) (w : World) (hn : T.length = n) (hT : Txt w b o T) (hx : x = (i : Int)) (hi : i < n) (hnm : n ≤ 4194304) :
    Calls Try.prog 26 #[.slice (some ⟨b, o, none⟩) n c, .int .i64 x] w fun e w' => e = .returned (.bool (endSepB T i)) ∧ w = w' := by
  subst hx
  have g0 := hT i (by omega)
  have HN : Hid (T.length = n) := hn
  have G : Hid (Txt w b o T) := hT
  have HS : Hid (endSepB T i = (sepB (ch T i) || endsB T i)) := rfl
  clear hn hT
  generalize endSepB T i = r at HS
  generalize ch T i = c0 at g0 HS
  cases hs : sepB c0 with
  | true =>
    have HC : Hid _ := hs
    clear hs
    go_enter Try.func26, Try.ntmps26
    go_wp2_with (go_at_call 24; refine (sep24 _ _).mono ?_; rw [HC.out]; rintro e w' ⟨rfl, rfl⟩)
    go_ret
    exact ⟨ret_bool (by rw [HS.out, HC.out]; rfl), rfl⟩
  | false =>
    have HC : Hid _ := hs
    clear hs
    generalize hr : endsB T i = r2 at HS
    have HR : Hid _ := hr
    clear hr
    go_enter Try.func26, Try.ntmps26
    go_wp2_with (first
      | (go_at_call 24; refine (sep24 _ _).mono ?_; rw [HC.out]; rintro e w' ⟨rfl, rfl⟩)
      | (go_at_call 31; refine (ends31 b o c n i _ T _ HN.out G.out rfl hi hnm).mono ?_; rw [HR.out]; rintro e w' ⟨rfl, rfl⟩))
    go_ret
    exact ⟨ret_bool (by rw [HS.out, HC.out]; simp), rfl⟩

set_option maxHeartbeats 800000 in
theorem block27 (b o c n i : Nat) (x : Int) (T : List Int) (w : World) (hn : T.length = n) (hT : Txt w b o T) (hx : x = (i : Int)) (hi : i < n) (hnm : n ≤ 4194304) :
    Calls Try.prog 27 #[.slice (some ⟨b, o, none⟩) n c, .int .i64 x] w fun e w' => e = .returned (.bool (blockB T i)) ∧ w = w' := by
  subst hx
  have g0 := hT i (by omega)
  have HN : Hid (T.length = n) := hn
  have G : Hid (Txt w b o T) := hT
  have HS : Hid (blockB T i = (ch T i == 45 && opensB T i && (decide (i + 1 = T.length) || blankB (ch T (i + 1)) || startsB T (i + 1)))) := rfl
  clear hn hT
  generalize blockB T i = r at HS
  generalize ch T i = c0 at g0 HS
  by_cases h45 : c0 = 45
  · subst h45
    -- what stands before it
    have hop : (opensB T i = true ∧ (i = 0 ∨ (0 < i ∧ endSepB T (i - 1) = true))) ∨ (opensB T i = false ∧ 0 < i ∧ endSepB T (i - 1) = false) := by
      unfold opensB
      by_cases h0 : i = 0
      · left; simp [h0]
      · cases he : endSepB T (i - 1)
        · right; simp [h0]; omega
        · left; simp [h0]; omega
    rcases hop with ⟨ho, hq⟩ | ⟨ho, h0, he⟩
    · rw [ho] at HS
      clear ho
      by_cases h1 : i + 1 < n
      · have g1 := G.out (i + 1) (by have := HN.out; omega)
        have hd : Hid (decide (i + 1 = T.length) = false) := by show _ = _; simp; have := HN.out; omega
        rw [hd.out] at HS
        clear hd
        generalize ch T (i + 1) = c1 at g1 HS
        cases hb : blankB c1 with
        | true =>
          have HB : Hid _ := hb
          clear hb
          rcases hq with h0 | ⟨h0, he⟩
          · have h0' : i ≤ 0 := by omega
            clear h0
            go_enter Try.func27, Try.ntmps27
            go_wp2_with (go_at_call 32; refine (blank32 _ _).mono ?_; rw [HB.out]; rintro e w' ⟨rfl, rfl⟩)
            go_ret
            exact ⟨ret_bool (by rw [HS.out, HB.out]; rfl), rfl⟩
          · have HE : Hid _ := he
            clear he
            go_enter Try.func27, Try.ntmps27
            go_wp2_with (first
              | (go_at_call 26; refine (endsep26 b o c n (i - 1) _ T _ HN.out G.out (by omega) (by omega) hnm).mono ?_; rw [HE.out]; rintro e w' ⟨rfl, rfl⟩)
              | (go_at_call 32; refine (blank32 _ _).mono ?_; rw [HB.out]; rintro e w' ⟨rfl, rfl⟩))
            go_ret
            exact ⟨ret_bool (by rw [HS.out, HB.out]; rfl), rfl⟩
        | false =>
          have HB : Hid _ := hb
          clear hb
          generalize hst : startsB T (i + 1) = st at HS
          have HST : Hid _ := hst
          clear hst
          rcases hq with h0 | ⟨h0, he⟩
          · have h0' : i ≤ 0 := by omega
            clear h0
            go_enter Try.func27, Try.ntmps27
            go_wp2_with (first
              | (go_at_call 32; refine (blank32 _ _).mono ?_; rw [HB.out]; rintro e w' ⟨rfl, rfl⟩)
              | (go_at_call 25; refine (starts25 b o c n (i + 1) _ T _ HN.out G.out (by omega) (by omega) hnm).mono ?_; rw [HST.out]; rintro e w' ⟨rfl, rfl⟩))
            go_ret
            exact ⟨ret_bool (by rw [HS.out, HB.out]; simp; intro h; omega), rfl⟩
          · have HE : Hid _ := he
            clear he
            go_enter Try.func27, Try.ntmps27
            go_wp2_with (first
              | (go_at_call 26; refine (endsep26 b o c n (i - 1) _ T _ HN.out G.out (by omega) (by omega) hnm).mono ?_; rw [HE.out]; rintro e w' ⟨rfl, rfl⟩)
              | (go_at_call 32; refine (blank32 _ _).mono ?_; rw [HB.out]; rintro e w' ⟨rfl, rfl⟩)
              | (go_at_call 25; refine (starts25 b o c n (i + 1) _ T _ HN.out G.out (by omega) (by omega) hnm).mono ?_; rw [HST.out]; rintro e w' ⟨rfl, rfl⟩))
            go_ret
            exact ⟨ret_bool (by rw [HS.out, HB.out]; simp; intro h; omega), rfl⟩
      · have hd : Hid (decide (i + 1 = T.length) = true) := by show _ = _; simp; have := HN.out; omega
        rw [hd.out] at HS
        clear hd
        rcases hq with h0 | ⟨h0, he⟩
        · have h0' : i ≤ 0 := by omega
          clear h0
          go_enter Try.func27, Try.ntmps27
          go_wp2
          go_ret
          exact ⟨ret_bool (by rw [HS.out]; simp), rfl⟩
        · have HE : Hid _ := he
          clear he
          go_enter Try.func27, Try.ntmps27
          go_wp2_with (go_at_call 26; refine (endsep26 b o c n (i - 1) _ T _ HN.out G.out (by omega) (by omega) hnm).mono ?_; rw [HE.out]; rintro e w' ⟨rfl, rfl⟩)
          go_ret
          exact ⟨ret_bool (by rw [HS.out]; simp), rfl⟩
    · have HE : Hid _ := he
      rw [ho] at HS
      clear he ho
      go_enter Try.func27, Try.ntmps27
      go_wp2_with (go_at_call 26; refine (endsep26 b o c n (i - 1) _ T _ HN.out G.out (by omega) (by omega) hnm).mono ?_; rw [HE.out]; rintro e w' ⟨rfl, rfl⟩)
      go_ret
      exact ⟨ret_bool (by rw [HS.out]; simp), rfl⟩
  · have h45' : (c0 == 45) = false := by simp [h45]
    have h45n : (c0 != 45) = true := by simp [h45]
    clear h45
    go_enter Try.func27, Try.ntmps27
    go_wp2
    go_ret
    exact ⟨ret_bool (by rw [HS.out, h45']; rfl), rfl⟩

end Go.Proofs.Qxb6605440a
