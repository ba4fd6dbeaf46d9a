import Derived.Test.Qxb6605425aDoorBackPlain
namespace Go.Proofs.Qxb6605425aDoor
open Go.RowKit

theorem ret_bool {a b : Bool} (h : a = b) : Ending.returned (.bool a) = .returned (.bool b) := by rw [h]

set_option maxRecDepth 100000 in
set_option maxHeartbeats 4000000 in
theorem back10 (b o c l n : Nat) (O : List Int) (a2 : Option Addr) (m c2 : Nat) (us : List Int) (w : World) (hl : O.length = l) (hc : ∀ i, i < O.length → w.cell? ⟨b, o + i, none⟩ = some (.int .u8 (O.getD i 0)))
    (hO : O.drop n = 91 :: (bodyF false us ++ [93])) (hm : us.length = m) (hs2 : Seg .u64 w a2 us) (hu : ∀ z ∈ us, 0 ≤ z ∧ z < 18446744073709551616) (hlm : l ≤ 8388608) (hmm : m ≤ 131072) :
    Calls Tryd.prog 10 #[.slice (some ⟨b, o, none⟩) l c, .int .i64 n, .slice a2 m c2] w fun e w' => e = .returned (.bool true) ∧ w = w' := by
  have HC : Hid _ := hc
  have HS2 : Hid _ := hs2
  have HM : Hid _ := hm
  have HU : Hid _ := hu
  have HL : Hid _ := hl
  have HO : Hid _ := hO
  obtain ⟨p1, p2, p3⟩ := pos_get hO
  have g0 := hc n p1
  rw [p2] at g0
  have hnl : n < l := by omega
  clear hc hs2 hm hu hl hO p1 p2
  by_cases h0 : m = 0
  · obtain rfl : us = [] := List.eq_nil_of_length_eq_zero (HM.out.trans h0)
    have p4 : O.drop (n + 1) = 93 :: [] := p3
    obtain ⟨q1, q2, q3⟩ := pos_get p4
    have g1 := HC.out (n + 1) q1
    rw [q2] at g1
    have q4 := congrArg List.length q3
    simp only [List.length_drop, List.length_nil] at q4
    have hl1 : n + 2 ≤ l := by have := HL.out; omega
    have hl2 : l ≤ n + 2 := by have := HL.out; omega
    have hm0 : m ≤ 0 := by omega
    clear p3 p4 q1 q2 q3 q4 h0
    go_enter Tryd.func10, Tryd.ntmps10
    go_wp2
    go_ret
    exact ⟨ret_bool (by simp; omega), rfl⟩
  · have p4 : O.drop (n + 1) = decI (us.getD 0 0) ++ after us 0 := by
      rw [p3]
      have := body_at (us := us) (k := 0) (by have := HM.out; omega) false
      simpa using this
    clear p3
    have hz := HU.out (us.getD 0 0) (by have := HM.out; simp [List.getD, show 0 < us.length by omega])
    have hdg : ∀ z : Int, 0 ≤ z → z = (z.toNat : Int) := fun z h => by omega
    have e0 := hdg _ hz.1
    have np := Lib.nDigits_pos (us.getD 0 0).toNat
    have r1 := pos_at (j := 0) p4 (by rw [e0, decI_length]; omega)
    have r2 := dig_range (us.getD 0 0).toNat 0 (by omega)
    rw [← e0, ← r1.2] at r2
    have g1 := HC.out (n + 1) (by simpa using r1.1)
    rw [Nat.add_zero] at r2 r1
    have hl1 : n + 1 < l := by have := HL.out; omega
    generalize O.getD (n + 1) 0 = c0 at g1 r2
    have h93 : (c0 == 93) = false := by simp; omega
    have HP : Hid (O.drop (n + 1) = decI (us.getD 0 0) ++ after us 0) := p4
    clear p4 r1 hz hdg e0 np r2
    go_enter Tryd.func10, Tryd.ntmps10
    go_wp2
    clear g0 g1 h93
    go_loop [7, 8] (fun si sk => ∃ (i k : Nat), k < m ∧ i < l ∧ si = .int .i64 i ∧ sk = .int .i64 k ∧ Hid (O.drop i = decI (us.getD k 0) ++ after us k)) (fun _ sk => m - (intOf sk).toNat)
    case atStart => exact ⟨n + 1, 0, by omega, by omega, by go_num, rfl, HP⟩
    case round =>
      clear HP
      obtain ⟨i, k, hk, hi, rfl, rfl, HP⟩ := hrel
      have hkz : k < us.length := by have := HM.out; omega
      have hz := HU.out (us.getD k 0) (by simp [List.getD, hkz])
      rcases HS2 with hs2 | ⟨b2, o2, ha2, hs2⟩
      · rw [hs2] at hkz
        simp at hkz
      · have gz := hs2 k hkz
        generalize hzz : us.getD k 0 = z at hz HP gz
        obtain ⟨u, hu⟩ : ∃ u : Nat, z = (u : Int) := ⟨z.toNat, by omega⟩
        have HZU : Hid (z = (u : Int)) := hu
        have hP := HP.out
        rw [hu] at hP
        obtain ⟨L, hL⟩ : ∃ L, L = Lib.nDigits u := ⟨_, rfl⟩
        have HLn : Hid (L = Lib.nDigits u) := hL
        have hL1 : 1 ≤ L := by have := Lib.nDigits_pos u; omega
        have dl : (decI (u : Int)).length = L := by rw [decI_length, hL]
        have r1 := pos_at (j := 0) hP (by omega)
        have r2 := dig_range u 0 (by omega)
        rw [← r1.2, Nat.add_zero] at r2
        have g1 := HC.out i (by simpa using r1.1)
        have HE : Hid (O.drop (i + L) = after us k) := by
          have := pos_app hP
          rw [dl] at this
          exact this
        have HP2 : Hid (O.drop i = decI (u : Int) ++ after us k) := hP
        have h00 : O.getD i 0 = (decI (u : Int)).getD 0 0 := by simpa using r1.2
        generalize hc0 : O.getD i 0 = c0 at g1 r2 h00
        have HAF : Hid ((k + 1 = m ∧ after us k = [93]) ∨ (k + 1 < m ∧ after us k = 44 :: (decI (us.getD (k + 1) 0) ++ after us (k + 1)))) := by
          have h1 := HM.out
          by_cases e : k + 1 = m
          · exact .inl ⟨e, after_last (by omega)⟩
          · exact .inr ⟨by omega, after_more (by omega)⟩
        rw [ha2]
        have hcase : (c0 = 48 ∧ i + 1 < l ∧ ∃ c1, w.cell? ⟨b, o + (i + 1), none⟩ = some (.int .u8 c1) ∧ (c1 = 93 ∨ c1 = 44)) ∨ (c0 == 48) = false := by
          by_cases h48 : c0 = 48
          · left
            have h1L : L = 1 := by rw [hL]; exact lead_zero u (by rw [← h00]; exact h48)
            have hE := HE.out
            rw [h1L] at hE
            have hq : ∃ c1 r, O.drop (i + 1) = c1 :: r ∧ (c1 = 93 ∨ c1 = 44) := by
              rcases HAF.out with ⟨_, e⟩ | ⟨_, e⟩
              · exact ⟨93, [], hE.trans e, .inl rfl⟩
              · exact ⟨44, _, hE.trans e, .inr rfl⟩
            obtain ⟨c1, r, hq, hc1⟩ := hq
            obtain ⟨t1, t2, _⟩ := pos_get hq
            have g2 := HC.out (i + 1) t1
            rw [t2] at g2
            exact ⟨h48, by have := HL.out; omega, c1, g2, hc1⟩
          · right
            simp [h48]
        clear h00 hc0 r1 dl hP hL hu hzz hkz hs2 ha2
        rcases hcase with ⟨rfl, hil, c1, g2, rfl | rfl⟩ | h48
        all_goals
          go_wp2
          clear g1 r2
          try clear g2
          go_loop [7, 9] (fun si sv => ∃ (p j : Nat) (V : Int), j ≤ L ∧ p < l ∧ 0 ≤ V ∧ si = .int .i64 p ∧ sv = .int .u64 V ∧ Hid (p = i + j) ∧ Hid (V = ((pre u j : Nat) : Int))) (fun si _ => l - (intOf si).toNat)
          case atStart => exact ⟨i, 0, 0, by omega, by omega, by omega, rfl, rfl, rfl, by show _ = _; rw [pre_zero]; rfl⟩
          case round =>
            obtain ⟨p, j, V, hj, hp, hV, rfl, rfl, Hp, HV⟩ := hrel
            by_cases hjL : j < L
            · have hj1 : j < Lib.nDigits u := by have := HLn.out; omega
              have s1 := pos_at (j := j) HP2.out (by rw [decI_length]; exact hj1)
              rw [← Hp.out] at s1
              have s2 := dig_range u j hj1
              have s3 := pre_step u j hj1
              have s4 := pre_le u (j + 1)
              rw [← s1.2] at s2 s3
              have g3 := HC.out p s1.1
              generalize O.getD p 0 = d at g3 s2 s3
              have HV2 : Hid (V * 10 + (d - 48) = ((pre u (j + 1) : Nat) : Int)) := by show _ = _; rw [s3, HV.out]
              have hV2 : V * 10 + (d - 48) ≤ 18446744073709551615 := by have h1 := HV2.out; have h2 := HZU.out; omega
              have hpl : p + 1 < l := by
                have h1 := HL.out
                have h2 := HE.out
                have h3 := congrArg List.length h2
                rw [List.length_drop] at h3
                have h4 : 1 ≤ (after us k).length := by unfold after; simp
                have h5 := Hp.out
                omega
              have Hp2 : Hid (p + 1 = i + (j + 1)) := by have := Hp.out; show _ = _; omega
              obtain ⟨s2a, s2b⟩ := s2
              clear s1 s3 s4 HV Hp hj1 hz gz
              go_wp2
              go_round
              case rel => exact ⟨p + 1, j + 1, _, by omega, by omega, by omega, by go_num, rfl, Hp2, HV2⟩
              case measure => simp [intOf]; omega
            · have hjL' : j = L := by omega
              have hVz : V = z := by rw [HV.out, hjL', HLn.out, pre_all, HZU.out]
              have hpi : p = i + L := by rw [Hp.out, hjL']
              have hE := HE.out
              rw [← hpi] at hE
              subst hVz
              have haf := HAF.out
              clear HV Hp hjL' hpi HLn HZU HP2 HP HAF HE hz
              rcases haf with ⟨hkm, hA⟩ | ⟨hkm, hA⟩
              · rw [hA] at hE
                obtain ⟨t1, t2, t3⟩ := pos_get hE
                have g3 := HC.out p t1
                rw [t2] at g3
                have t4 := congrArg List.length t3
                simp only [List.length_drop, List.length_nil] at t4
                have hl2 : l ≤ p + 1 := by have := HL.out; omega
                have hk1 : k + 1 ≤ m := by omega
                have hk2 : m ≤ k + 1 := by omega
                clear t1 t2 t3 t4 hE hA hkm
                go_wp2
                go_ret
                exact ⟨ret_bool (by simp; omega), rfl⟩
              · rw [hA] at hE
                obtain ⟨t1, t2, t3⟩ := pos_get hE
                have g3 := HC.out p t1
                rw [t2] at g3
                have hpl : p + 1 < l := by
                  have h1 := HL.out
                  have h3 := congrArg List.length t3
                  rw [List.length_drop, List.length_append] at h3
                  have h4 : 1 ≤ (after us (k + 1)).length := by unfold after; simp
                  omega
                have HN : Hid (O.drop (p + 1) = decI (us.getD (k + 1) 0) ++ after us (k + 1)) := t3
                clear t1 t2 t3 hE hA
                go_wp2
                go_round
                case rel => exact ⟨p + 1, k + 1, by omega, by omega, by go_num, by go_num, HN⟩
                case measure => simp [intOf]; omega

end Go.Proofs.Qxb6605425aDoor
