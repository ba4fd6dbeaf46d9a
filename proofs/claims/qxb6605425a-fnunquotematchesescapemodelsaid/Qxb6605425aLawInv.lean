import Derived.Test.Qxb6605425aUnq
import Derived.Test.Qxb6605425aSame
namespace Go.Proofs.Qxb6605425a
open Go.RowKit

/-- The empty slice, nil or not: there is no quote. -/
theorem unq15e (a : Option Addr) (c : Nat) (w : World) :
    Calls Try.prog 15 #[.slice a 0 c] w (UnqEnd (unqM (([] : List Int).drop 1) false []) w) := by
  go_enter Try.func15, Try.ntmps15
  go_wp2
  go_loop [5] (fun i => i = .int .i64 1) (fun _ => 0)
  case atStart => rfl
  case round =>
    subst hrel
    go_wp2
    go_ret3
    exact ⟨Below.refl _ _, rfl⟩

theorem unq15a (a : Option Addr) (c n : Nat) (zs : List Int) (w : World) (hn : zs.length = n) (hs : Seg .u8 w a zs) (hnc : n ≤ c) (hcm : c ≤ 9223372036854775807) (hnm : n ≤ 4194304) :
    Calls Try.prog 15 #[.slice a n c] w (UnqEnd (unqM (zs.drop 1) false []) w) := by
  rcases hs with rfl | ⟨b, o, rfl, hs⟩
  · simp at hn
    subst hn
    exact unq15e a c w
  · exact unq15 b o c n zs w hn hs hnc hcm hnm

theorem zz9_of (a : Option Addr) (c n : Nat) (r : Option (List Int × List Int)) (w : World) (h15 : Hid (Calls Try.prog 15 #[.slice a n c] w (UnqEnd r w))) :
    Calls Try.prog 9 #[.slice a n c] w (UnqEnd r w) := by
  go_enter Try.func9, Try.ntmps9
  go_wp2_with fail
  refine (show Calls Try.prog 15 #[.slice a n c] w (UnqEnd r w) from h15).mono ?_
  clear h15
  rintro e w' ⟨hb, h⟩
  rcases r with _ | ⟨x, y⟩
  · subst h
    go_wp2
    go_ret3
    exact ⟨hb, rfl⟩
  · obtain ⟨a1, n1, c1, a2, n2, c2, rfl, h1, h2, h3, h4⟩ := h
    have H1 : Hid _ := h1
    have H2 : Hid _ := h2
    clear h1 h2
    go_wp2
    go_ret3
    exact ⟨hb, a1, n1, c1, a2, n2, c2, rfl, H1.out, H2.out, h3, h4⟩

theorem zz9 (a : Option Addr) (c n : Nat) (zs : List Int) (w : World) (hn : zs.length = n) (hs : Seg .u8 w a zs) (hnc : n ≤ c) (hcm : c ≤ 9223372036854775807) (hnm : n ≤ 4194304) :
    Calls Try.prog 9 #[.slice a n c] w (UnqEnd (unqM (zs.drop 1) false []) w) :=
  zz9_of a c n _ w (unq15a a c n zs w hn hs hnc hcm hnm)

theorem zz11_yes (a0 a1 : Option Addr) (n0 c0 n1 c1 : Nat) (w : World) (h : n0 + n1 ≤ 1048576) :
    Calls Try.prog 11 #[.slice a0 n0 c0, .slice a1 n1 c1] w fun e w' => e = .returned (.bool true) ∧ w = w' := by
  go_enter Try.func11, Try.ntmps11
  go_wp2
  go_ret
  exact ⟨rfl, rfl⟩

theorem zz11_no (a0 a1 : Option Addr) (n0 c0 n1 c1 : Nat) (w : World) (h : ¬ n0 + n1 ≤ 1048576) (hm0 : n0 ≤ 9223372036854775807) (hm1 : n1 ≤ 9223372036854775807) :
    Calls Try.prog 11 #[.slice a0 n0 c0, .slice a1 n1 c1] w fun e w' => e = .returned (.bool false) ∧ w = w' := by
  by_cases h1 : n0 ≤ 1048576
  · by_cases h2 : n1 ≤ 1048576
    · go_enter Try.func11, Try.ntmps11
      go_wp2
      go_ret
      exact ⟨rfl, rfl⟩
    · go_enter Try.func11, Try.ntmps11
      go_wp2
      go_ret
      exact ⟨rfl, rfl⟩
  · go_enter Try.func11, Try.ntmps11
    go_wp2
    go_ret
    exact ⟨rfl, rfl⟩

set_option maxHeartbeats 800000 in
theorem law4 (a0 a1 : Option Addr) (n0 c0 n1 c1 : Nat) (z0 z1 : List Int) (w : World) (hn0 : z0.length = n0) (hn1 : z1.length = n1) (hs0 : Seg .u8 w a0 z0) (hs1 : Seg .u8 w a1 z1)
    (hnil0 : a0 = none → n0 = 0) (hnil1 : a1 = none → n1 = 0) (hm0 : n0 ≤ 9223372036854775807) (hm1 : n1 ≤ 9223372036854775807) :
    Calls Try.prog 4 #[.slice a0 n0 c0, .slice a1 n1 c1] w fun e w' => e = .returned (.bool true) ∧ Below w.heap.size w w' := by
  by_cases h : n0 + n1 ≤ 1048576
  · by_cases h0 : n0 ≤ 524288
    · by_cases h1 : n1 ≤ 524288
      · obtain ⟨i0, hi, hz0, hz1, hz2⟩ := info_parts Try.info5
        have HS0 : Hid _ := hs0
        have HS1 : Hid _ := hs1
        have HN0 : Hid _ := hn0
        have HN1 : Hid _ := hn1
        have HA0 : Hid _ := hnil0
        have HA1 : Hid _ := hnil1
        clear hs0 hs1 hn0 hn1 hnil0 hnil1
        go_enter Try.func4, Try.ntmps4
        go_wp2_with fail
        refine (zz11_yes _ _ _ _ _ _ _ h).mono ?_
        rintro e w' ⟨rfl, rfl⟩
        go_wp2_with fail
        refine (clone7 _ _ _ z0 _ HN0.out HS0.out HA0.out (by omega)).mono ?_
        rintro e w1 ⟨a0', c0', rfl, hs0, hc0, hc0', hb1⟩
        go_wp2_with fail
        refine (clone7 _ _ _ z1 _ HN1.out (Seg.below HS1.out hb1 (Nat.le_refl _)) HA1.out (by omega)).mono ?_
        rintro e w2 ⟨a1', c1', rfl, hs1, hc1, hc1', hb2⟩
        have hs0' := hs0.below hb2 (Nat.le_refl _)
        have hb := hb1.trans (hb2.mono hb1.size)
        clear hs0 hb1 hb2 HS0 HS1 HA0 HA1
        go_wp2_with (at_make; refine wpList_make_own _ rfl _ _ 22 rfl w2.heap.size 5 i0 (.int .u8 0) 1 Try.underlying22 hi hz0 hz1 _ _ _ (2 * n0 + 2 + n1) rfl rfl (by omega) ?b2 ?b3 (Nat.le_refl _) ?_)
        case b2 => rw [hz2]; omega
        case b3 => unfold maxLen; omega
        intro w3 hown hgrow
        have hb3 : Below w2.heap.size w2 w3 := (Below.refl _ _).grown hgrow (Nat.le_refl _) (fun k h => by cases h)
        clear hgrow
        go_wp2_with (at_builtin; refine wpList_append_one _ w2 .u8 22 5 i0 1 Try.underlying22 hi hz0 hz1 hz2 (by omega) rfl (.tmp 35) (.tmp 36) rfl w2.heap.size _ [] 34 rfl rfl hown hb3 (Nat.le_refl _) (by simp) ?_; intro v4 w4 hown4 hb4)
        clear hown hb3
        go_loopw [5, 6] (fun v i wr => ∃ (k : Nat) (acc : List Int), k ≤ n0 ∧ i = .int .i64 k ∧ Hid (acc = 34 :: quo (z0.take k)) ∧ acc.length ≤ 2 * k + 1 ∧ wr.ownsRow w2.heap.size 5 1 v acc.length (acc.map (Value.int .u8)) ∧ Below w2.heap.size w2 wr) (fun _ i _ => n0 - (intOf i).toNat)
        case atStart => exact ⟨0, [34], by omega, rfl, rfl, by simp, hown4, hb4⟩
        case round =>
          clear hown4 hb4
          obtain ⟨k, acc, hk, rfl, HA, hacc, hown, hbr⟩ := hrel
          by_cases hlt : k < n0
          · rcases hs0' with hs0' | ⟨b, o, ha0, hs0'⟩
            · have := HN0.out
              subst hs0'
              simp at this
              omega
            · have g0 := hs0' k (by have := HN0.out; omega)
              have hblk : b < w2.heap.size := World.block_lt_of_cell? w2 _ g0
              have HT : Hid (quo (z0.take (k + 1)) = quo (z0.take k) ++ quo [z0.getD k 0]) := quo_take (by have := HN0.out; omega)
              generalize z0.getD k 0 = d at g0 HT
              have g1 := (hbr.cell (p := ⟨b, o + k, none⟩) hblk).trans g0
              rw [ha0]
              clear ha0 hs0' hs1
              by_cases hd : d = 34 ∨ d = 92
              · have HT2 : Hid ((acc ++ [92]) ++ [d] = 34 :: quo (z0.take (k + 1))) := by
                  show _ = _
                  rw [HT.out, HA.out]
                  simp [quo, hd]
                clear HT
                rcases hd with rfl | rfl
                all_goals
                  go_wp2_with (first
                    | (at_builtin; refine wpList_append_one _ w2 .u8 22 5 i0 1 Try.underlying22 hi hz0 hz1 hz2 (by omega) rfl (.tmp 56) (.tmp 57) rfl w2.heap.size _ acc 92 rfl rfl hown hbr (Nat.le_refl _) (by omega) ?_; intro v5 w5 hown5 hb5; have g5 := (hb5.cell (p := ⟨b, o + k, none⟩) hblk).trans g0)
                    | (at_builtin; refine wpList_append_one _ w2 .u8 22 5 i0 1 Try.underlying22 hi hz0 hz1 hz2 (by omega) rfl (.tmp 59) (.tmp 64) rfl w2.heap.size _ (acc ++ [92]) _ rfl rfl hown5 hb5 (Nat.le_refl _) (by simp; omega) ?_; intro v6 w6 hown6 hb6))
                  go_roundw
                  case rel => exact ⟨k + 1, _, by omega, by go_num, HT2, by simp; omega, hown6, hb6⟩
                  case measure => simp [intOf]; omega
              · have HT2 : Hid (acc ++ [d] = 34 :: quo (z0.take (k + 1))) := by
                  show _ = _
                  rw [HT.out, HA.out]
                  simp [quo, hd]
                have h34 : (d == 34) = false := by simp; omega
                have h92 : (d == 92) = false := by simp; omega
                clear HT hd
                go_wp2_with (at_builtin; refine wpList_append_one _ w2 .u8 22 5 i0 1 Try.underlying22 hi hz0 hz1 hz2 (by omega) rfl (.tmp 59) (.tmp 64) rfl w2.heap.size _ acc d rfl rfl hown hbr (Nat.le_refl _) (by omega) ?_; intro v6 w6 hown6 hb6)
                go_roundw
                case rel => exact ⟨k + 1, _, by omega, by go_num, HT2, by simp; omega, hown6, hb6⟩
                case measure => simp [intOf]; omega
          · have hke : k = n0 := by omega
            have HT : Hid (acc ++ [34] = 34 :: quo z0 ++ [34] ++ z1.take 0) := by
              show _ = _
              rw [HA.out, hke, List.take_of_length_le (by have := HN0.out; omega)]
              simp
            clear HA hke
            go_wp2_with (at_builtin; refine wpList_append_one _ w2 .u8 22 5 i0 1 Try.underlying22 hi hz0 hz1 hz2 (by omega) rfl (.tmp 66) (.tmp 67) rfl w2.heap.size _ acc 34 rfl rfl hown hbr (Nat.le_refl _) (by omega) ?_; intro v5 w5 hown5 hb5)
            clear hown hbr
            go_loopw [5, 7] (fun v i wr => ∃ (j : Nat) (acc : List Int), j ≤ n1 ∧ i = .int .i64 j ∧ Hid (acc = 34 :: quo z0 ++ [34] ++ z1.take j) ∧ acc.length ≤ 2 * k + 2 + j ∧ wr.ownsRow w2.heap.size 5 1 v acc.length (acc.map (Value.int .u8)) ∧ Below w2.heap.size w2 wr) (fun _ i _ => n1 - (intOf i).toNat)
            case atStart => exact ⟨0, _, by omega, rfl, HT, by simp; omega, hown5, hb5⟩
            case round =>
              clear hown5 hb5 HT
              obtain ⟨j, acc, hj, rfl, HA, hacc, hown, hbr⟩ := hrel
              by_cases hlt1 : j < n1
              · rcases hs1 with hs1 | ⟨b, o, ha1, hs1⟩
                · have := HN1.out
                  subst hs1
                  simp at this
                  omega
                · have g0 := hs1 j (by have := HN1.out; omega)
                  have hblk : b < w2.heap.size := World.block_lt_of_cell? w2 _ g0
                  have HT : Hid (acc ++ [z1.getD j 0] = 34 :: quo z0 ++ [34] ++ z1.take (j + 1)) := by
                    have h' : j < z1.length := by have := HN1.out; omega
                    show _ = _
                    rw [HA.out, List.take_succ_eq_append_getElem h']
                    simp [List.getD, h']
                  generalize z1.getD j 0 = d at g0 HT
                  have g1 := (hbr.cell (p := ⟨b, o + j, none⟩) hblk).trans g0
                  rw [ha1]
                  clear ha1 hs1 hs0' HA
                  go_wp2_with (at_builtin; refine wpList_append_one _ w2 .u8 22 5 i0 1 Try.underlying22 hi hz0 hz1 hz2 (by omega) rfl (.tmp 75) (.tmp 80) rfl w2.heap.size _ acc d rfl rfl hown hbr (Nat.le_refl _) (by omega) ?_; intro v6 w6 hown6 hb6)
                  go_roundw
                  case rel => exact ⟨j + 1, _, by omega, by go_num, HT, by simp; omega, hown6, hb6⟩
                  case measure => simp [intOf]; omega
              · have HU : Hid (unqM (acc.drop 1) false [] = some (z0, z1)) := by
                  show _ = _
                  rw [HA.out, show j = n1 by omega, List.take_of_length_le (by have := HN1.out; omega)]
                  simpa using unqM_quo z0 z1 []
                obtain ⟨av, cv, hv, hseg, hcv, hcv'⟩ := owns_seg hown
                rw [hv]
                clear hown hv HA
                have hbb : Below w.heap.size w wr := hb.trans (hbr.mono hb.size)
                have hs0w := hs0'.below hbr (Nat.le_refl _)
                have hs1w := hs1.below hbr (Nat.le_refl _)
                clear hs0' hs1
                go_wp2_with fail
                refine (zz9 _ _ _ acc _ rfl hseg hcv hcv' (by omega)).mono ?_
                rintro e w7 ⟨hb7, h7⟩
                rw [HU.out] at h7
                obtain ⟨q1, m1, d1, q2, m2, d2, he, e1, e2, s1, s2⟩ := h7
                subst he
                obtain rfl : m1 = n0 := e1.symm.trans HN0.out
                obtain rfl : m2 = n1 := e2.symm.trans HN1.out
                clear e1 e2 HU hseg
                have hs0v := hs0w.below hb7 (Nat.le_refl _)
                have hs1v := hs1w.below hb7 (Nat.le_refl _)
                clear hs0w hs1w
                go_wp2_with fail
                refine (same10 _ _ _ _ _ z0 _ HN0.out s1 hs0v (by omega)).mono ?_
                rintro e w8 ⟨rfl, hb8⟩
                go_wp2_with fail
                refine (same10 _ _ _ _ _ z1 _ HN1.out (s2.below hb8 (Nat.le_refl _)) (hs1v.below hb8 (Nat.le_refl _)) (by omega)).mono ?_
                rintro e w9 ⟨rfl, hb9⟩
                have hbf : Below w.heap.size w w9 := ((hbb.trans (hb7.mono hbb.size)).trans (hb8.mono (Nat.le_trans hbb.size hb7.size))).trans (hb9.mono (Nat.le_trans (Nat.le_trans hbb.size hb7.size) hb8.size))
                clear hb7 hb8 hb9 hbb
                go_wp2
                go_ret
                exact ⟨rfl, hbf⟩
      · go_enter Try.func4, Try.ntmps4
        go_wp2_with fail
        refine (zz11_yes _ _ _ _ _ _ _ h).mono ?_
        rintro e w' ⟨rfl, rfl⟩
        go_wp2
        go_ret
        exact ⟨rfl, Below.refl _ _⟩
    · go_enter Try.func4, Try.ntmps4
      go_wp2_with fail
      refine (zz11_yes _ _ _ _ _ _ _ h).mono ?_
      rintro e w' ⟨rfl, rfl⟩
      go_wp2
      go_ret
      exact ⟨rfl, Below.refl _ _⟩
  · go_enter Try.func4, Try.ntmps4
    go_wp2_with fail
    refine (zz11_no _ _ _ _ _ _ _ h hm0 hm1).mono ?_
    rintro e w' ⟨rfl, rfl⟩
    go_wp2
    go_ret
    exact ⟨rfl, Below.refl _ _⟩

end Go.Proofs.Qxb6605425a
