import Derived.Test.Qxb6605425aDoorSeqs
import Derived.Test.Qxb6605425aDoorDigits
namespace Go.Proofs.Qxb6605425aDoor
open Go.RowKit

theorem zz11_yes (a0 a1 : Option Addr) (n0 c0 n1 c1 : Nat) (w : World) (h : n0 + n1 ≤ 1048576) :
    Calls Tryd.prog 11 #[.slice a0 n0 c0, .slice a1 n1 c1] w fun e w' => e = .returned (.bool true) ∧ w = w' := by
  go_enter Tryd.func11, Tryd.ntmps11
  go_wp2
  go_ret
  exact ⟨rfl, rfl⟩

theorem zz11_no (a0 a1 : Option Addr) (n0 c0 n1 c1 : Nat) (w : World) (h : ¬ n0 + n1 ≤ 1048576) (hm0 : n0 ≤ 9223372036854775807) (hm1 : n1 ≤ 9223372036854775807) :
    Calls Tryd.prog 11 #[.slice a0 n0 c0, .slice a1 n1 c1] w fun e w' => e = .returned (.bool false) ∧ w = w' := by
  by_cases h1 : n0 ≤ 1048576
  · by_cases h2 : n1 ≤ 1048576
    · go_enter Tryd.func11, Tryd.ntmps11
      go_wp2
      go_ret
      exact ⟨rfl, rfl⟩
    · go_enter Tryd.func11, Tryd.ntmps11
      go_wp2
      go_ret
      exact ⟨rfl, rfl⟩
  · go_enter Tryd.func11, Tryd.ntmps11
    go_wp2
    go_ret
    exact ⟨rfl, rfl⟩

theorem zz8_of (v1 v2 : Value) (out : List Int) (w : World) (h13 : Hid (Calls Tryd.prog 13 #[v1, v2] w (SeqEnd out w))) :
    Calls Tryd.prog 8 #[v1, v2] w (SeqEnd out w) := by
  go_enter Tryd.func8, Tryd.ntmps8
  go_wp2_with fail
  refine (show Calls Tryd.prog 13 #[v1, v2] w (SeqEnd out w) from h13).mono ?_
  clear h13
  rintro e w' ⟨v', rfl, h1, h2⟩
  go_wp2
  go_ret
  exact ⟨v', rfl, h1, h2⟩

theorem decI_nDigits (z : Int) : (decI z).length = Lib.nDigits z.toNat := by
  unfold decI
  rw [List.length_map, Lib.decDigits_length]

theorem out_first (zs b : List Int) {n : Nat} (h : zs.length = n) : (zs ++ [91] ++ b ++ [93]).getD n 0 = 91 := by
  subst h
  simp [List.getD]

theorem out_last (zs b : List Int) {l : Nat} (h : (zs ++ [91] ++ b ++ [93]).length = l) : (zs ++ [91] ++ b ++ [93]).getD (l - 1) 0 = 93 := by
  subst h
  simp [List.getD]

set_option maxHeartbeats 800000 in
theorem law4 (a0 a1 : Option Addr) (n0 c0 n1 c1 : Nat) (z0 us : List Int) (w : World) (hn0 : z0.length = n0) (hn1 : us.length = n1) (hs0 : Seg .u8 w a0 z0) (hs1 : Seg .u64 w a1 us) (hu : ∀ z ∈ us, 0 ≤ z ∧ z < 18446744073709551616)
    (hnil0 : a0 = none → n0 = 0) (hnil1 : a1 = none → n1 = 0) (hm0 : n0 ≤ 9223372036854775807) (hm1 : n1 ≤ 9223372036854775807) (htab : Lib.TabIs Tryd.prog w powName .u64 Lib.pow10Tab) :
    Calls Tryd.prog 4 #[.slice a0 n0 c0, .slice a1 n1 c1] w fun e w' => e = .returned (.bool true) ∧ Below w.heap.size w w' := by
  have HT : Hid (Lib.TabBelow Tryd.prog w.heap.size w powName .u64 Lib.pow10Tab) := Lib.tabBelow_of_tabIs htab
  have HS0 : Hid _ := hs0
  have HS1 : Hid _ := hs1
  have HN0 : Hid _ := hn0
  have HN1 : Hid _ := hn1
  have HA0 : Hid _ := hnil0
  have HA1 : Hid _ := hnil1
  have HU : Hid _ := hu
  clear htab hs0 hs1 hn0 hn1 hnil0 hnil1 hu
  by_cases h : n0 + n1 ≤ 1048576
  · by_cases h1 : n1 ≤ 131072
    · by_cases h2 : n0 + 8 * n1 ≤ 1048576
      · go_enter Tryd.func4, Tryd.ntmps4
        go_wp2_with fail
        refine (zz11_yes _ _ _ _ _ _ _ h).mono ?_
        rintro e w' ⟨rfl, rfl⟩
        go_wp2_with fail
        refine (clone6 _ _ _ z0 _ HN0.out HS0.out HA0.out (by omega)).mono ?_
        rintro e w1 ⟨a0', rfl, hs0, hnil0, hb1⟩
        go_wp2_with fail
        refine (clone7 _ _ _ us _ HN1.out (Seg.below HS1.out hb1 (Nat.le_refl _)) HA1.out (by omega)).mono ?_
        rintro e w2 ⟨a1', rfl, hs1, hnil1, hb2⟩
        have hs0' := hs0.below hb2 (Nat.le_refl _)
        have hb := hb1.trans (hb2.mono hb1.size)
        have HA : Hid _ := hnil0
        clear hs0 hb1 hb2 HS0 HS1 HA0 HA1 hnil0 hnil1
        go_wp2
        go_loopw [6, 7] (fun v i wr => ∃ (k L : Nat), k ≤ n1 ∧ i = .int .i64 k ∧ Hid (L = n0 + 2 + (bodyF false (us.take k)).length) ∧ L ≤ n0 + 2 + 21 * k ∧ v = .int .i64 L ∧ w2 = wr) (fun _ i _ => n1 - (intOf i).toNat)
        case atStart => exact ⟨0, n0 + 2, by omega, rfl, rfl, by omega, by go_num, rfl⟩
        case round =>
          obtain ⟨k, L, hk, rfl, HL, hL, rfl, rfl⟩ := hrel
          by_cases hlt : k < n1
          · rcases hs1 with hs1 | ⟨b, o, ha, hs1⟩
            · have := HN1.out
              subst hs1
              simp at this
              omega
            · have hkz : k < us.length := by have := HN1.out; omega
              have g1 := hs1 k hkz
              have hz : 0 ≤ us.getD k 0 ∧ us.getD k 0 < 18446744073709551616 := HU.out _ (by simp [List.getD, hkz])
              have hl := decI_len _ hz.2
              rw [decI_nDigits] at hl
              by_cases hk0 : k = 0
              · have hk0' : k ≤ 0 := by omega
                have HB : Hid (L + Lib.nDigits (us.getD k 0).toNat = n0 + 2 + (bodyF false (us.take (k + 1))).length) := by
                  show _ = _
                  rw [HL.out, hk0, body_take0 (by omega), List.length_append, decI_nDigits]
                  omega
                generalize us.getD k 0 = z at g1 hz HB hl
                have HZ : Hid (0 ≤ z ∧ z < 18446744073709551616) := hz
                generalize hD : Lib.nDigits z.toNat = D at hl HB
                have HD : Hid _ := hD
                rw [ha]
                clear hz hkz hs1 ha hk0 hD
                go_wp2_with (go_at_call 12; refine (digits12 z.toNat z _ (by have := HZ.out; omega) (by have := HZ.out; omega)).mono ?_; rw [HD.out]; rintro e w' ⟨rfl, rfl⟩)
                go_roundw
                case rel => exact ⟨k + 1, L + D, by omega, by go_num, HB, by omega, by go_num, trivial⟩
                case measure => simp [intOf]; omega
              · have HB : Hid (L + Lib.nDigits (us.getD k 0).toNat + 1 = n0 + 2 + (bodyF false (us.take (k + 1))).length) := by
                  show _ = _
                  rw [HL.out, body_take hkz (by omega), List.length_append, List.length_append, decI_nDigits]
                  simp
                  omega
                have hk0' : 0 < k := by omega
                generalize us.getD k 0 = z at g1 hz HB hl
                have HZ : Hid (0 ≤ z ∧ z < 18446744073709551616) := hz
                generalize hD : Lib.nDigits z.toNat = D at hl HB
                have HD : Hid _ := hD
                rw [ha]
                clear hz hkz hs1 ha hk0 hD
                go_wp2_with (go_at_call 12; refine (digits12 z.toNat z _ (by have := HZ.out; omega) (by have := HZ.out; omega)).mono ?_; rw [HD.out]; rintro e w' ⟨rfl, rfl⟩)
                go_roundw
                case rel => exact ⟨k + 1, L + D + 1, by omega, by go_num, HB, by omega, by go_num, trivial⟩
                case measure => simp [intOf]; omega
          · have HO : Hid ((z0 ++ [91] ++ bodyF false us ++ [93]).length = L) := by
              show _ = _
              rw [HL.out, List.take_of_length_le (by have := HN1.out; omega)]
              simp [HN0.out]
              omega
            have hLp : 1 ≤ L ∧ n0 < L := by
              have h1 := HL.out
              constructor <;> omega
            go_wp2_with fail
            refine (zz8_of _ _ _ _ (seqs13 a0' n0 z0 a1' n1 n1 us _ HN0.out hs0' HA.out HN1.out hs1 HU.out (by omega) (by omega) (HT.out _ hb))).mono ?_
            rintro e w3 ⟨v3, rfl, hown, hb3⟩
            rw [HO.out] at hown
            obtain ⟨av, cv, rfl, hseg, hcv, hcv'⟩ := owns_seg hown
            have hbf := hb.trans (hb3.mono hb.size)
            rcases hseg with hseg | ⟨b, o, rfl, hc⟩
            · simp at hseg
            · have gN : w3.cell? ⟨b, o + n0, none⟩ = some (.int .u8 91) := by
                rw [hc n0 (by rw [HO.out]; omega), out_first z0 _ HN0.out]
              have gL : w3.cell? ⟨b, o + (L - 1), none⟩ = some (.int .u8 93) := by
                rw [hc (L - 1) (by rw [HO.out]; omega), out_last z0 _ HO.out]
              clear hc hown hb hb3 hs0' hs1 HL HO HT HU HA
              obtain ⟨hL1, hL2⟩ := hLp
              go_wp2
              go_ret
              exact ⟨rfl, hbf⟩
      · go_enter Tryd.func4, Tryd.ntmps4
        go_wp2_with fail
        refine (zz11_yes _ _ _ _ _ _ _ h).mono ?_
        rintro e w' ⟨rfl, rfl⟩
        go_wp2
        go_ret
        exact ⟨rfl, Below.refl _ _⟩
    · go_enter Tryd.func4, Tryd.ntmps4
      go_wp2_with fail
      refine (zz11_yes _ _ _ _ _ _ _ h).mono ?_
      rintro e w' ⟨rfl, rfl⟩
      go_wp2
      go_ret
      exact ⟨rfl, Below.refl _ _⟩
  · go_enter Tryd.func4, Tryd.ntmps4
    go_wp2_with fail
    refine (zz11_no _ _ _ _ _ _ _ h hm0 hm1).mono ?_
    rintro e w' ⟨rfl, rfl⟩
    go_wp2
    go_ret
    exact ⟨rfl, Below.refl _ _⟩

end Go.Proofs.Qxb6605425aDoor
