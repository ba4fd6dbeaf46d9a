import Derived.Test.Qxb6605425aDoorBack
import Derived.Test.Qxb6605425aDoorLawLen
import Derived.Test.Qxb6605425aDoorSame
namespace Go.Proofs.Qxb6605425aDoor
open Go.RowKit

theorem zz5_yes (a0 a1 : Option Addr) (n0 c0 n1 c1 : Nat) (w : World) (h : n0 + n1 ≤ 1048576) :
    Calls Tryd.prog 5 #[.slice a0 n0 c0, .slice a1 n1 c1] w fun e w' => e = .returned (.bool true) ∧ w = w' := by
  go_enter Tryd.func5, Tryd.ntmps5
  go_wp2
  go_ret
  exact ⟨rfl, rfl⟩

theorem zz5_no (a0 a1 : Option Addr) (n0 c0 n1 c1 : Nat) (w : World) (h : ¬ n0 + n1 ≤ 1048576) (hm0 : n0 ≤ 9223372036854775807) (hm1 : n1 ≤ 9223372036854775807) :
    Calls Tryd.prog 5 #[.slice a0 n0 c0, .slice a1 n1 c1] w fun e w' => e = .returned (.bool false) ∧ w = w' := by
  by_cases h1 : n0 ≤ 1048576
  · by_cases h2 : n1 ≤ 1048576
    · go_enter Tryd.func5, Tryd.ntmps5
      go_wp2
      go_ret
      exact ⟨rfl, rfl⟩
    · go_enter Tryd.func5, Tryd.ntmps5
      go_wp2
      go_ret
      exact ⟨rfl, rfl⟩
  · go_enter Tryd.func5, Tryd.ntmps5
    go_wp2
    go_ret
    exact ⟨rfl, rfl⟩

theorem bodyF_len (f : Bool) (us : List Int) (h : ∀ z ∈ us, 0 ≤ z ∧ z < 18446744073709551616) : (bodyF f us).length ≤ 21 * us.length := by
  induction us generalizing f with
  | nil => simp [bodyF]
  | cons z t ih =>
    have h1 := ih true (fun x hx => h x (List.mem_cons_of_mem _ hx))
    have h2 := decI_len z (h z List.mem_cons_self).2
    unfold bodyF
    simp only [List.length_append, List.length_cons]
    have h3 : (if f = true then [(44 : Int)] else []).length ≤ 1 := by cases f <;> simp
    omega

set_option maxHeartbeats 800000 in
theorem law3 (a0 a1 : Option Addr) (n0 c0 n1 c1 : Nat) (z0 us : List Int) (w : World) (hn0 : z0.length = n0) (hn1 : us.length = n1) (hs0 : Seg .u8 w a0 z0) (hs1 : Seg .u64 w a1 us) (hu : ∀ z ∈ us, 0 ≤ z ∧ z < 18446744073709551616)
    (hnil0 : a0 = none → n0 = 0) (hnil1 : a1 = none → n1 = 0) (hm0 : n0 ≤ 9223372036854775807) (hm1 : n1 ≤ 9223372036854775807) (htab : Lib.TabIs Tryd.prog w powName .u64 Lib.pow10Tab) :
    Calls Tryd.prog 3 #[.slice a0 n0 c0, .slice a1 n1 c1] w fun e w' => e = .returned (.bool true) ∧ Below w.heap.size w w' := by
  have HT : Hid (Lib.TabBelow Tryd.prog w.heap.size w powName .u64 Lib.pow10Tab) := Lib.tabBelow_of_tabIs htab
  have HS0 : Hid _ := hs0
  have HS1 : Hid _ := hs1
  have HN0 : Hid _ := hn0
  have HN1 : Hid _ := hn1
  have HA0 : Hid _ := hnil0
  have HA1 : Hid _ := hnil1
  have HU : Hid _ := hu
  clear htab hs0 hs1 hn0 hn1 hnil0 hnil1 hu
  by_cases h : n0 + n1 ≤ 1048576
  · by_cases h1 : n1 ≤ 131072
    · by_cases h2 : n0 + 8 * n1 ≤ 1048576
      · go_enter Tryd.func3, Tryd.ntmps3
        go_wp2_with fail
        refine (zz5_yes _ _ _ _ _ _ _ h).mono ?_
        rintro e w' ⟨rfl, rfl⟩
        go_wp2_with fail
        refine (clone6 _ _ _ z0 _ HN0.out HS0.out HA0.out (by omega)).mono ?_
        rintro e w1 ⟨a0', rfl, hs0, hnil0, hb1⟩
        have HA : Hid _ := hnil0
        clear hnil0
        go_wp2_with fail
        refine (clone7 _ _ _ us _ HN1.out (Seg.below HS1.out hb1 (Nat.le_refl _)) HA1.out (by omega)).mono ?_
        rintro e w2 ⟨a1', rfl, hs1, hnil1, hb2⟩
        have hs0' := hs0.below hb2 (Nat.le_refl _)
        have hb := hb1.trans (hb2.mono hb1.size)
        clear hs0 hb1 hb2 HS0 HS1 HA0 HA1 hnil1
        go_wp2_with fail
        refine (clone6 _ _ _ z0 _ HN0.out hs0' HA.out (by omega)).mono ?_
        rintro e w3 ⟨a3, rfl, hs3, hnil3, hb3⟩
        have hs0'' := hs0'.below hb3 (Nat.le_refl _)
        have hs1' := hs1.below hb3 (Nat.le_refl _)
        have hb4 := hb.trans (hb3.mono hb.size)
        clear hs0' hs1 hb hb3 hnil3
        go_wp2_with fail
        refine (zz8_of _ _ _ _ (seqs13 a0' n0 z0 a1' n1 n1 us _ HN0.out hs0'' HA.out HN1.out hs1' HU.out (by omega) (by omega) (HT.out _ hb4))).mono ?_
        rintro e w5 ⟨v5, rfl, hown, hb5⟩
        generalize hO : z0 ++ [91] ++ bodyF false us ++ [93] = O at hown
        obtain ⟨l, hl⟩ : ∃ l, O.length = l := ⟨_, rfl⟩
        rw [hl] at hown
        obtain ⟨av, cv, rfl, hseg, hcv, hcv'⟩ := owns_seg hown
        have hbf := hb4.trans (hb5.mono hb4.size)
        have hs3' := hs3.below hb5 (Nat.le_refl _)
        have hs1'' := hs1'.below hb5 (Nat.le_refl _)
        have hll : n0 + 2 ≤ l ∧ l ≤ 8388608 := by
          have h1 := bodyF_len false us HU.out
          have h2 := HN0.out
          have h3 := HN1.out
          rw [← hl, ← hO]
          simp only [List.length_append, List.length_cons, List.length_nil]
          omega
        obtain ⟨hl1, hl2⟩ := hll
        have HLl : Hid _ := hl
        have HO : Hid _ := hO
        clear hs0'' hs1' hs3 hb4 hb5 hown HT HA hl hO
        rcases hseg with hseg | ⟨b, o, rfl, hc⟩
        · rw [hseg] at HLl
          have := HLl.out
          simp at this
          omega
        · have HC : Hid _ := hc
          clear hc
          have hseg0 : Seg .u8 w5 (some ⟨b, o, none⟩) z0 := by
            have h1 : Seg .u8 w5 (some ⟨b, o + 0, none⟩) ((O.take n0).drop 0) := Seg.mid HC.out (by have := HLl.out; omega)
            have h2 : (O.take n0).drop 0 = z0 := by
              rw [← HO.out, ← HN0.out]
              simp
            rw [h2, Nat.add_zero] at h1
            exact h1
          have HD : Hid (O.drop n0 = 91 :: (bodyF false us ++ [93])) := by
            show _ = _
            rw [← HO.out, ← HN0.out]
            simp
          go_wp2_with fail
          refine (same9 _ _ _ _ _ z0 _ HN0.out hseg0 hs3' (by omega)).mono ?_
          rintro e w6 ⟨rfl, hb6⟩
          have hs1q := hs1''.below hb6 (Nat.le_refl _)
          have hbg := hbf.trans (hb6.mono hbf.size)
          have HC6 : Hid (∀ i, i < O.length → w6.cell? ⟨b, o + i, none⟩ = some (.int .u8 (O.getD i 0))) := fun i hi => (hb6.cell (p := ⟨b, o + i, none⟩) (World.block_lt_of_cell? w5 _ (HC.out i hi))).trans (HC.out i hi)
          clear hseg0 hs3' hs1'' hbf hb6 HC HO
          go_wp2_with fail
          refine (back10 b o cv l n0 O _ n1 n1 us _ HLl.out HC6.out HD.out HN1.out hs1q HU.out hl2 h1).mono ?_
          rintro e w7 ⟨rfl, rfl⟩
          go_wp2
          go_ret
          exact ⟨rfl, hbg⟩
      · go_enter Tryd.func3, Tryd.ntmps3
        go_wp2_with fail
        refine (zz5_yes _ _ _ _ _ _ _ h).mono ?_
        rintro e w' ⟨rfl, rfl⟩
        go_wp2
        go_ret
        exact ⟨rfl, Below.refl _ _⟩
    · go_enter Tryd.func3, Tryd.ntmps3
      go_wp2_with fail
      refine (zz5_yes _ _ _ _ _ _ _ h).mono ?_
      rintro e w' ⟨rfl, rfl⟩
      go_wp2
      go_ret
      exact ⟨rfl, Below.refl _ _⟩
  · go_enter Tryd.func3, Tryd.ntmps3
    go_wp2_with fail
    refine (zz5_no _ _ _ _ _ _ _ h hm0 hm1).mono ?_
    rintro e w' ⟨rfl, rfl⟩
    go_wp2
    go_ret
    exact ⟨rfl, Below.refl _ _⟩

end Go.Proofs.Qxb6605425aDoor
