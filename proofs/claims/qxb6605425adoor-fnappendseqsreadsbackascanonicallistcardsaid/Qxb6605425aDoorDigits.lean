import Derived.Test.Qxb6605425aDoorClone
import Derived.Lib.ItoaNum
namespace Go.Proofs.Qxb6605425aDoor
open Go.RowKit

/-- What the counting loop knows: n digits so far, p the power that is asked next. -/
def DigRel (v : Nat) (n : Nat) (p : Int) : Prop := (n < 20 → p = ((10 ^ n : Nat) : Int)) ∧ (n = 1 ∨ 10 ^ (n - 1) ≤ v)

theorem pow_lt20 {n : Nat} (h : n < 20) : 10 ^ n ≤ 10000000000000000000 := by
  have : 10 ^ n ≤ 10 ^ 19 := Nat.pow_le_pow_right (by omega) (by omega)
  simpa using this

theorem dig_step {v n : Nat} {p : Int} (h : DigRel v n p) (hn : n < 20) (hp : p ≤ (v : Int)) : DigRel v (n + 1) (IntKind.u64.wrap (p * 10)) := by
  have e := h.1 hn
  refine ⟨fun h1 => ?_, .inr ?_⟩
  · have hb := pow_lt20 h1
    have : p * 10 = ((10 ^ (n + 1) : Nat) : Int) := by
      rw [e, Nat.pow_succ]
      omega
    rw [this]
    generalize 10 ^ (n + 1) = q at hb
    simp [IntKind.wrap, IntKind.signed, IntKind.bits]
    omega
  · rw [e] at hp
    show 10 ^ n ≤ v
    omega

theorem dig_end {v n : Nat} {p : Int} (h : DigRel v n p) (h1 : 1 ≤ n) (hv : v < 18446744073709551616) (hn : n ≤ 20) (hp : n < 20 → (v : Int) < p) : n = Lib.nDigits v := by
  have hlt : v < 10 ^ n := by
    by_cases h20 : n < 20
    · have := hp h20
      rw [h.1 h20] at this
      omega
    · have : n = 20 := by omega
      subst this
      have : (10 : Nat) ^ 20 = 100000000000000000000 := by rfl
      omega
  rcases h.2 with rfl | h2
  · exact (Lib.nDigits_small (by simpa using hlt)).symm
  · obtain ⟨k, rfl⟩ : ∃ k, n = k + 1 := ⟨n - 1, by omega⟩
    exact (Lib.nDigits_unique k v (by simpa using h2) hlt).symm

set_option maxHeartbeats 400000 in
theorem digits12 (u : Nat) (v : Int) (w : World) (hv : v = (u : Int)) (hu : u < 18446744073709551616) :
    Calls Tryd.prog 12 #[.int .u64 v] w fun e w' => e = .returned (.int .i64 (Lib.nDigits u : Nat)) ∧ w = w' := by
  have HV : Hid (v = (u : Int)) := hv
  have HU : Hid (u < 18446744073709551616) := hu
  obtain ⟨N, hN⟩ : ∃ N, N = Lib.nDigits u := ⟨_, rfl⟩
  have HN : Hid (N = Lib.nDigits u) := hN
  rw [← hN]
  clear hv hu hN
  go_enter Tryd.func12, Tryd.ntmps12
  go_wp2
  go_loop [3, 4] (fun n p => ∃ (k : Nat) (q : Int), 1 ≤ k ∧ k ≤ 20 ∧ n = .int .i64 k ∧ p = .int .u64 q ∧ Hid (DigRel u k q)) (fun n _ => 20 - (intOf n).toNat)
  case atStart => exact ⟨1, 10, by omega, by omega, rfl, rfl, ⟨fun _ => rfl, .inl rfl⟩⟩
  case round =>
    obtain ⟨k, q, h1, h2, rfl, rfl, HR⟩ := hrel
    by_cases hk : k < 20
    · by_cases hq : q ≤ v
      · have HR' : Hid (DigRel u (k + 1) (IntKind.u64.wrap (q * 10))) := dig_step HR.out hk (by rw [← HV.out]; exact hq)
        clear HR
        go_wp2
        go_round
        case rel => exact ⟨k + 1, _, by omega, by omega, by go_num, rfl, HR'⟩
        case measure => simp [intOf]; omega
      · have HE : Hid (k = N) := (dig_end HR.out h1 HU.out h2 (fun _ => by rw [← HV.out]; omega)).trans HN.out.symm
        go_wp2
        go_ret
        exact ⟨by rw [← HE.out]; rfl, rfl⟩
    · have HE : Hid (k = N) := (dig_end HR.out h1 HU.out h2 (fun h => by omega)).trans HN.out.symm
      go_wp2
      go_ret
      exact ⟨by rw [← HE.out]; rfl, rfl⟩

end Go.Proofs.Qxb6605425aDoor
