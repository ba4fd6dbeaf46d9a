import Derived.Test.Qxb6605440aCmC
namespace Go.Proofs.Qxb6605440a
open Go.RowKit

theorem ret_int' {k : IntKind} {a b : Int} (h : a = b) : Ending.returned (.int k a) = .returned (.int k b) := by rw [h]

set_option maxHeartbeats 800000 in
theorem skip29 (b o c n i : Nat) (x : Int) (T : List Int) (w : World) (hn : T.length = n) (hT : Txt w b o T) (hx : x = (i : Int)) (hi : i ≤ n) (hnm : n ≤ 4194304) :
    Calls Try.prog 29 #[.slice (some ⟨b, o, none⟩) n c, .int .i64 x] w fun e w' => e = .returned (.int .i64 (skipTo T i : Nat)) ∧ w = w' := by
  subst hx
  have HN : Hid (T.length = n) := hn
  have G : Hid (Txt w b o T) := hT
  clear hn hT
  generalize hK : skipTo T i = K
  have HK : Hid _ := hK
  clear hK
  go_enter Try.func29, Try.ntmps29
  go_wp2
  go_loop [1] (fun s => ∃ k : Nat, k ≤ n ∧ s = .int .i64 k ∧ Hid (skipTo T k = K)) (fun s => n - (intOf s).toNat)
  case atStart => exact ⟨i, hi, rfl, HK⟩
  case round =>
    clear HK
    obtain ⟨k, hk, rfl, HK⟩ := hrel
    by_cases hlt : k < n
    · have g0 := G.out k (by have := HN.out; omega)
      have H1 : Hid (k < T.length) := by show _ < _; have := HN.out; omega
      have Hst := fun h => skip_step (T := T) (i := k) H1.out h
      have Hsp := fun h => skip_stop (T := T) (i := k) H1.out h
      generalize ch T k = c0 at g0 Hst Hsp
      cases hb : blankB c0 with
      | true =>
        have HB : Hid _ := hb
        have HK2 : Hid (skipTo T (k + 1) = K) := (Hst hb).symm.trans HK.out
        clear hb Hst Hsp HK
        go_wp2_with (go_at_call 32; refine (blank32 _ _).mono ?_; rw [HB.out]; rintro e w' ⟨rfl, rfl⟩)
        go_round
        case rel => exact ⟨k + 1, by omega, by go_num, HK2⟩
        case measure => simp [intOf]; omega
      | false =>
        have HB : Hid _ := hb
        have HK2 : Hid (k = K) := (Hsp hb).symm.trans HK.out
        clear hb Hst Hsp HK
        go_wp2_with (go_at_call 32; refine (blank32 _ _).mono ?_; rw [HB.out]; rintro e w' ⟨rfl, rfl⟩)
        go_ret
        exact ⟨by rw [← HK2.out]; rfl, rfl⟩
    · have HK2 : Hid (k = K) := (skip_end (T := T) (by have := HN.out; omega)).symm.trans HK.out
      clear HK
      go_wp2
      go_ret
      exact ⟨by rw [← HK2.out]; rfl, rfl⟩

set_option maxHeartbeats 800000 in
theorem val30 (b o c n i : Nat) (x : Int) (T : List Int) (w : World) (hn : T.length = n) (hT : Txt w b o T) (hx : x = (i : Int)) (hi : i < n) (hnm : n ≤ 4194304) :
    Calls Try.prog 30 #[.slice (some ⟨b, o, none⟩) n c, .int .i64 x] w fun e w' => e = .returned (.bool (valB T i)) ∧ w = w' := by
  subst hx
  have HN : Hid (T.length = n) := hn
  have G : Hid (Txt w b o T) := hT
  have hk := skip_le (T := T) (i := i + 1) (by omega)
  have HS : Hid (valB T i = (!(decide (skipTo T (i + 1) = T.length) || startsB T (skipTo T (i + 1))) && !(ch T (skipTo T (i + 1)) == 44 || ch T (skipTo T (i + 1)) == 93 || ch T (skipTo T (i + 1)) == 125 || ch T (skipTo T (i + 1)) == 58 || ch T (skipTo T (i + 1)) == 63))) := rfl
  generalize valB T i = r at HS
  generalize hK : skipTo T (i + 1) = K at HS hk
  have HK : Hid _ := hK
  rw [hn] at hk
  have hkn : K ≤ n := by omega
  clear hn hT hK hk
  by_cases hlt : K < n
  · have g0 := G.out K (by have := HN.out; omega)
    have hd : Hid (decide (K = T.length) = false) := by show _ = _; simp; have := HN.out; omega
    rw [hd.out] at HS
    generalize ch T K = c0 at g0 HS
    cases hst : startsB T K with
    | true =>
      have HST : Hid _ := hst
      rw [hst] at HS
      clear hst hd
      go_enter Try.func30, Try.ntmps30
      go_wp2_with (first
        | (go_at_call 29; refine (skip29 b o c n (i + 1) _ T _ HN.out G.out (by omega) (by omega) hnm).mono ?_; rw [HK.out]; rintro e w' ⟨rfl, rfl⟩)
        | (go_at_call 25; refine (starts25 b o c n K _ T _ HN.out G.out rfl hlt hnm).mono ?_; rw [HST.out]; rintro e w' ⟨rfl, rfl⟩))
      go_ret
      exact ⟨ret_bool (by rw [HS.out]; rfl), rfl⟩
    | false =>
      have HST : Hid _ := hst
      rw [hst] at HS
      clear hst hd
      go_enter Try.func30, Try.ntmps30
      go_wp2_with (first
        | (go_at_call 29; refine (skip29 b o c n (i + 1) _ T _ HN.out G.out (by omega) (by omega) hnm).mono ?_; rw [HK.out]; rintro e w' ⟨rfl, rfl⟩)
        | (go_at_call 25; refine (starts25 b o c n K _ T _ HN.out G.out rfl hlt hnm).mono ?_; rw [HST.out]; rintro e w' ⟨rfl, rfl⟩))
      all_goals
        go_ret
        exact ⟨ret_bool (by rw [HS.out]; simp [*]), rfl⟩
  · have hd : Hid (decide (K = T.length) = true) := by show _ = _; simp; have := HN.out; omega
    rw [hd.out] at HS
    have hK1 : n ≤ K := by omega
    clear hd
    go_enter Try.func30, Try.ntmps30
    go_wp2_with (go_at_call 29; refine (skip29 b o c n (i + 1) _ T _ HN.out G.out (by omega) (by omega) hnm).mono ?_; rw [HK.out]; rintro e w' ⟨rfl, rfl⟩)
    go_ret
    exact ⟨ret_bool (by rw [HS.out]; simp), rfl⟩

set_option maxHeartbeats 800000 in
theorem colon23 (b o c n i : Nat) (x : Int) (lists owed : Bool) (T : List Int) (w : World) (hn : T.length = n) (hT : Txt w b o T) (hx : x = (i : Int)) (hi : i < n) (hnm : n ≤ 4194304) :
    Calls Try.prog 23 #[.slice (some ⟨b, o, none⟩) n c, .int .i64 x, .bool lists, .bool owed] w fun e w' => e = .returned (.int .i64 (colonN T i lists owed : Nat)) ∧ w = w' := by
  have HN : Hid (T.length = n) := hn
  have G : Hid (Txt w b o T) := hT
  have HX : Hid (x = (i : Int)) := hx
  have HS : Hid (colonN T i lists owed = (if valB T i then 0 else 1) + (if lists then 1 else 0) + (if owed then 1 else 0)) := rfl
  clear hn hT hx
  generalize colonN T i lists owed = r at HS
  cases hv : valB T i with
  | true =>
    have HV : Hid _ := hv
    rw [hv] at HS
    clear hv
    cases lists <;> cases owed
    all_goals
      go_enter Try.func23, Try.ntmps23
      go_wp2_with (go_at_call 30; refine (val30 b o c n i _ T _ HN.out G.out HX.out hi hnm).mono ?_; rw [HV.out]; rintro e w' ⟨rfl, rfl⟩)
      go_ret
      exact ⟨by rw [HS.out]; rfl, rfl⟩
  | false =>
    have HV : Hid _ := hv
    rw [hv] at HS
    clear hv
    cases lists <;> cases owed
    all_goals
      go_enter Try.func23, Try.ntmps23
      go_wp2_with (go_at_call 30; refine (val30 b o c n i _ T _ HN.out G.out HX.out hi hnm).mono ?_; rw [HV.out]; rintro e w' ⟨rfl, rfl⟩)
      go_ret
      exact ⟨by rw [HS.out]; rfl, rfl⟩

end Go.Proofs.Qxb6605440a
