import Derived.Test.Qxb6605440aCmBrk
import Derived.OwnWalk
namespace Go.Proofs.Qxb6605440a
open Go.RowKit

theorem results_four {fn : Func} {t u v x : Tmp} (h : fn.results = #[.tmp t, .tmp u, .tmp v, .tmp x]) (tmps : Array Value) (P : Program) (w : World) :
    (results fn tmps).run P w = .ok (.tuple #[tmps.getD t undef, tmps.getD u undef, tmps.getD v undef, tmps.getD x undef]) w := by
  simp [results, h]

def ModelEnd (T : List Int) (n : Nat) (w : World) (e : Ending) (w' : World) : Prop :=
  w = w' ∧ ∃ lo hi : Nat, e = .returned (.tuple #[.int .i64 lo, .int .i64 hi, .int .i64 (marksTo T n).aliases, .int .i64 (marksTo T n).anchors]) ∧ lo ≤ (marksTo T n).nodes ∧ (marksTo T n).nodes ≤ hi ∧ hi ≤ 2 + 4 * n

theorem rm_start (T : List Int) : RM T 0 2 2 0 0 := ⟨rfl, rfl, Nat.le_refl _, Nat.le_refl _, fun h => by omega, fun h => by omega⟩

set_option maxRecDepth 100000 in
set_option maxHeartbeats 4000000 in
theorem model15 (b o c n : Nat) (T : List Int) (w : World) (hn : T.length = n) (hT : Txt w b o T) (hnm : n ≤ 1048576) :
    Calls Try.prog 15 #[.slice (some ⟨b, o, none⟩) n c] w (ModelEnd T n w) := by
  have HN : Hid (T.length = n) := hn
  have G : Hid (Txt w b o T) := hT
  clear hn hT
  go_enter Try.func15, Try.ntmps15
  go_wp2
  go_loop [6, 7, 8, 9, 10, 11] (fun slo shi sal san sst si => ∃ (k lo hi al an : Nat) (st : Bool), k ≤ n ∧ lo ≤ 2 + 4 * k ∧ hi ≤ 2 + 4 * k ∧ al ≤ k ∧ an ≤ k ∧ slo = .int .i64 lo ∧ shi = .int .i64 hi ∧ sal = .int .i64 al ∧ san = .int .i64 an ∧ sst = .bool st ∧ si = .int .i64 k ∧ Hid (RM T k lo hi al an) ∧ Hid (opensB T k = st)) (fun _ _ _ _ _ si => n - (intOf si).toNat)
  case atStart => exact ⟨0, 2, 2, 0, 0, true, by omega, by omega, by omega, by omega, by omega, rfl, rfl, rfl, rfl, rfl, rfl, rm_start T, rfl⟩
  case round =>
    obtain ⟨k, lo, hi, al, an, st, hk, hlo, hhi, hal, han, rfl, rfl, rfl, rfl, rfl, rfl, HR, HO⟩ := hrel
    by_cases hlt : k < n
    · have HKT : Hid (k < T.length) := by show _ < _; have := HN.out; omega
      by_cases hq0 : 0 < brkN T k
      · have h1 := rm_brk HR.out HKT.out rfl hq0
        have h3 : brkN T k ≤ 3 := by have := brk_cases T k; omega
        generalize hq : brkN T k = q at h1 hq0 h3
        have HQ : Hid _ := hq
        have hkq : k + q ≤ n := by have := HN.out; omega
        have HR2 : Hid _ := h1.2.1
        have HO2 : Hid _ := h1.2.2
        clear h1 hq HR HO
        go_wp2_with (first | (go_at_call 20; refine (brk20 b o c n k _ T _ HN.out G.out rfl hlt (by omega)).mono ?_; rw [HQ.out]; rintro e w' ⟨rfl, rfl⟩))
        go_round
        case rel => exact ⟨k + q, lo, hi, al, an, true, by omega, by omega, by omega, by omega, by omega, by go_num, by go_num, by go_num, by go_num, rfl, by go_num, HR2, HO2⟩
        case measure => simp [intOf]; omega
      · have hq : brkN T k = 0 := by omega
        have HQ : Hid _ := hq
        clear hq0 hq
        have g0 := G.out k HKT.out
        generalize hc0 : ch T k = c0 at g0
        have HC0 : Hid _ := hc0
        clear hc0
        by_cases h91 : c0 = 91
        · subst h91
          have HSE : Hid (sepB 91 = true) := rfl
          have h1 := rm_open HR.out HQ.out (.inl HC0.out)
          have HR2 : Hid _ := h1.1
          have HO2 : Hid _ := h1.2
          clear h1 HR HO
          go_wp2_with (first | (go_at_call 20; refine (brk20 b o c n k _ T _ HN.out G.out rfl hlt (by omega)).mono ?_; rw [HQ.out]; rintro e w' ⟨rfl, rfl⟩) | (go_at_call 21; refine (sep21 _ _).mono ?_; rw [HSE.out]; rintro e w' ⟨rfl, rfl⟩))
          go_round
          case rel => exact ⟨k + 1, lo + 1, hi + 1, al, an, true, by omega, by omega, by omega, by omega, by omega, by go_num, by go_num, by go_num, by go_num, rfl, by go_num, HR2, HO2⟩
          case measure => simp [intOf]; omega
        have h91' : (c0 == 91) = false := by simp [h91]
        by_cases h123 : c0 = 123
        · subst h123
          have HSE : Hid (sepB 123 = true) := rfl
          have h1 := rm_open HR.out HQ.out (.inr HC0.out)
          have HR2 : Hid _ := h1.1
          have HO2 : Hid _ := h1.2
          clear h1 HR HO
          go_wp2_with (first | (go_at_call 20; refine (brk20 b o c n k _ T _ HN.out G.out rfl hlt (by omega)).mono ?_; rw [HQ.out]; rintro e w' ⟨rfl, rfl⟩) | (go_at_call 21; refine (sep21 _ _).mono ?_; rw [HSE.out]; rintro e w' ⟨rfl, rfl⟩))
          go_round
          case rel => exact ⟨k + 1, lo + 1, hi + 1, al, an, true, by omega, by omega, by omega, by omega, by omega, by go_num, by go_num, by go_num, by go_num, rfl, by go_num, HR2, HO2⟩
          case measure => simp [intOf]; omega
        have h123' : (c0 == 123) = false := by simp [h123]
        by_cases h63 : c0 = 63
        · subst h63
          have HSE : Hid (sepB 63 = true) := rfl
          have h1 := rm_quest HR.out HQ.out HC0.out
          have HR2 : Hid _ := h1.1
          have HO2 : Hid _ := h1.2
          clear h1 HR HO
          go_wp2_with (first | (go_at_call 20; refine (brk20 b o c n k _ T _ HN.out G.out rfl hlt (by omega)).mono ?_; rw [HQ.out]; rintro e w' ⟨rfl, rfl⟩) | (go_at_call 21; refine (sep21 _ _).mono ?_; rw [HSE.out]; rintro e w' ⟨rfl, rfl⟩))
          go_round
          case rel => exact ⟨k + 1, lo + 3, hi + 3, al, an, true, by omega, by omega, by omega, by omega, by omega, by go_num, by go_num, by go_num, by go_num, rfl, by go_num, HR2, HO2⟩
          case measure => simp [intOf]; omega
        have h63' : (c0 == 63) = false := by simp [h63]
        by_cases h58 : c0 = 58
        · subst h58
          have HSE : Hid (sepB 58 = true) := rfl
          have h1 := rm_colon HR.out HQ.out HC0.out
          have HR2 : Hid _ := h1.1
          have HO2 : Hid _ := h1.2
          clear h1 HR HO
          go_wp2_with (first | (go_at_call 20; refine (brk20 b o c n k _ T _ HN.out G.out rfl hlt (by omega)).mono ?_; rw [HQ.out]; rintro e w' ⟨rfl, rfl⟩) | (go_at_call 21; refine (sep21 _ _).mono ?_; rw [HSE.out]; rintro e w' ⟨rfl, rfl⟩))
          go_round
          case rel => exact ⟨k + 1, lo, hi + 3, al, an, true, by omega, by omega, by omega, by omega, by omega, by go_num, by go_num, by go_num, by go_num, rfl, by go_num, HR2, HO2⟩
          case measure => simp [intOf]; omega
        have h58' : (c0 == 58) = false := by simp [h58]
        by_cases h44 : c0 = 44
        · subst h44
          have HSE : Hid (sepB 44 = true) := rfl
          have h1 := rm_comma HR.out HQ.out (.inl HC0.out)
          have HR2 : Hid _ := h1.1
          have HO2 : Hid _ := h1.2
          clear h1 HR HO
          go_wp2_with (first | (go_at_call 20; refine (brk20 b o c n k _ T _ HN.out G.out rfl hlt (by omega)).mono ?_; rw [HQ.out]; rintro e w' ⟨rfl, rfl⟩) | (go_at_call 21; refine (sep21 _ _).mono ?_; rw [HSE.out]; rintro e w' ⟨rfl, rfl⟩))
          go_round
          case rel => exact ⟨k + 1, lo, hi + 1, al, an, true, by omega, by omega, by omega, by omega, by omega, by go_num, by go_num, by go_num, by go_num, rfl, by go_num, HR2, HO2⟩
          case measure => simp [intOf]; omega
        have h44' : (c0 == 44) = false := by simp [h44]
        by_cases h125 : c0 = 125
        · subst h125
          have HSE : Hid (sepB 125 = true) := rfl
          have h1 := rm_comma HR.out HQ.out (.inr HC0.out)
          have HR2 : Hid _ := h1.1
          have HO2 : Hid _ := h1.2
          clear h1 HR HO
          go_wp2_with (first | (go_at_call 20; refine (brk20 b o c n k _ T _ HN.out G.out rfl hlt (by omega)).mono ?_; rw [HQ.out]; rintro e w' ⟨rfl, rfl⟩) | (go_at_call 21; refine (sep21 _ _).mono ?_; rw [HSE.out]; rintro e w' ⟨rfl, rfl⟩))
          go_round
          case rel => exact ⟨k + 1, lo, hi + 1, al, an, true, by omega, by omega, by omega, by omega, by omega, by go_num, by go_num, by go_num, by go_num, rfl, by go_num, HR2, HO2⟩
          case measure => simp [intOf]; omega
        have h125' : (c0 == 125) = false := by simp [h125]
        have HPL : Hid (plainC (ch T k)) := by show plainC _; rw [HC0.out]; exact ⟨h91, h123, h44, h125, h63, h58⟩
        clear h91 h123 h63 h58 h44 h125
        cases hse : sepB c0 with
        | true =>
          have HSE : Hid _ := hse
          have h1 := rm_sep HR.out HQ.out HPL.out (by rw [HC0.out]; exact hse)
          have HR2 : Hid _ := h1.1
          have HO2 : Hid _ := h1.2
          clear h1 HR HO hse HPL
          go_wp2_with (first | (go_at_call 20; refine (brk20 b o c n k _ T _ HN.out G.out rfl hlt (by omega)).mono ?_; rw [HQ.out]; rintro e w' ⟨rfl, rfl⟩) | (go_at_call 21; refine (sep21 _ _).mono ?_; rw [HSE.out]; rintro e w' ⟨rfl, rfl⟩))
          go_round
          case rel => exact ⟨k + 1, lo, hi, al, an, true, by omega, by omega, by omega, by omega, by omega, by go_num, by go_num, by go_num, by go_num, rfl, by go_num, HR2, HO2⟩
          case measure => simp [intOf]; omega
        | false =>
          have HSE : Hid _ := hse
          cases st with
          | false =>
            have h1 := rm_mid HR.out HQ.out HPL.out (by rw [HC0.out]; exact hse) HO.out
            have HR2 : Hid _ := h1.1
            have HO2 : Hid _ := h1.2
            clear h1 HR HO hse HPL
            go_wp2_with (first | (go_at_call 20; refine (brk20 b o c n k _ T _ HN.out G.out rfl hlt (by omega)).mono ?_; rw [HQ.out]; rintro e w' ⟨rfl, rfl⟩) | (go_at_call 21; refine (sep21 _ _).mono ?_; rw [HSE.out]; rintro e w' ⟨rfl, rfl⟩))
            go_round
            case rel => exact ⟨k + 1, lo, hi, al, an, false, by omega, by omega, by omega, by omega, by omega, by go_num, by go_num, by go_num, by go_num, rfl, by go_num, HR2, HO2⟩
            case measure => simp [intOf]; omega
          | true =>
            have h1 := rm_word HR.out HQ.out HPL.out (by rw [HC0.out]; exact hse) HO.out
            rw [HC0.out] at h1
            have HW : Hid _ := h1.1
            have HO2 : Hid _ := h1.2
            clear h1 HR HO hse HPL
            by_cases h1 : k + 1 < n
            · have g1 := G.out (k + 1) (by have := HN.out; omega)
              have hnb : namedB T k = nameB (ch T (k + 1)) := by unfold namedB; rw [decide_eq_true (by have := HN.out; omega)]; rfl
              rw [hnb] at HW
              clear hnb
              generalize ch T (k + 1) = c1 at g1 HW
              cases hnm1 : nameB c1 with
              | false =>
                have HNM : Hid _ := hnm1
                rw [hnm1] at HW
                have HW2 : Hid (RM T (k + 1) (lo + hit (c0 != 45)) (hi + 1) al an) := HW
                clear hnm1 HW
                by_cases h45 : c0 = 45
                · subst h45
                  have HR2 : Hid (RM T (k + 1) lo (hi + 1) al an) := HW2
                  clear HW2
                  go_wp2_with (first | (go_at_call 20; refine (brk20 b o c n k _ T _ HN.out G.out rfl hlt (by omega)).mono ?_; rw [HQ.out]; rintro e w' ⟨rfl, rfl⟩) | (go_at_call 21; refine (sep21 _ _).mono ?_; rw [HSE.out]; rintro e w' ⟨rfl, rfl⟩) | (go_at_call 22; refine (name22 _ _).mono ?_; rw [HNM.out]; rintro e w' ⟨rfl, rfl⟩))
                  go_round
                  case rel => exact ⟨k + 1, lo, hi + 1, al, an, false, by omega, by omega, by omega, by omega, by omega, by go_num, by go_num, by go_num, by go_num, rfl, by go_num, HR2, HO2⟩
                  case measure => simp [intOf]; omega
                · have h45' : (c0 == 45) = false := by simp [h45]
                  have h45n : (c0 != 45) = true := by simp [h45]
                  rw [h45n] at HW2
                  have HR2 : Hid (RM T (k + 1) (lo + 1) (hi + 1) al an) := HW2
                  clear HW2 h45
                  go_wp2_with (first | (go_at_call 20; refine (brk20 b o c n k _ T _ HN.out G.out rfl hlt (by omega)).mono ?_; rw [HQ.out]; rintro e w' ⟨rfl, rfl⟩) | (go_at_call 21; refine (sep21 _ _).mono ?_; rw [HSE.out]; rintro e w' ⟨rfl, rfl⟩) | (go_at_call 22; refine (name22 _ _).mono ?_; rw [HNM.out]; rintro e w' ⟨rfl, rfl⟩))
                  go_round
                  case rel => exact ⟨k + 1, lo + 1, hi + 1, al, an, false, by omega, by omega, by omega, by omega, by omega, by go_num, by go_num, by go_num, by go_num, rfl, by go_num, HR2, HO2⟩
                  case measure => simp [intOf]; omega
              | true =>
                have HNM : Hid _ := hnm1
                rw [hnm1] at HW
                clear hnm1
                by_cases h42 : c0 = 42
                · subst h42
                  have HR2 : Hid (RM T (k + 1) (lo + 1) (hi + 1) (al + 1) an) := HW
                  clear HW
                  go_wp2_with (first | (go_at_call 20; refine (brk20 b o c n k _ T _ HN.out G.out rfl hlt (by omega)).mono ?_; rw [HQ.out]; rintro e w' ⟨rfl, rfl⟩) | (go_at_call 21; refine (sep21 _ _).mono ?_; rw [HSE.out]; rintro e w' ⟨rfl, rfl⟩) | (go_at_call 22; refine (name22 _ _).mono ?_; rw [HNM.out]; rintro e w' ⟨rfl, rfl⟩))
                  go_round
                  case rel => exact ⟨k + 1, lo + 1, hi + 1, al + 1, an, false, by omega, by omega, by omega, by omega, by omega, by go_num, by go_num, by go_num, by go_num, rfl, by go_num, HR2, HO2⟩
                  case measure => simp [intOf]; omega
                · have h42' : (c0 == 42) = false := by simp [h42]
                  by_cases h38 : c0 = 38
                  · subst h38
                    have HR2 : Hid (RM T (k + 1) (lo + 1) (hi + 1) al (an + 1)) := HW
                    clear HW h42
                    go_wp2_with (first | (go_at_call 20; refine (brk20 b o c n k _ T _ HN.out G.out rfl hlt (by omega)).mono ?_; rw [HQ.out]; rintro e w' ⟨rfl, rfl⟩) | (go_at_call 21; refine (sep21 _ _).mono ?_; rw [HSE.out]; rintro e w' ⟨rfl, rfl⟩) | (go_at_call 22; refine (name22 _ _).mono ?_; rw [HNM.out]; rintro e w' ⟨rfl, rfl⟩))
                    go_round
                    case rel => exact ⟨k + 1, lo + 1, hi + 1, al, an + 1, false, by omega, by omega, by omega, by omega, by omega, by go_num, by go_num, by go_num, by go_num, rfl, by go_num, HR2, HO2⟩
                    case measure => simp [intOf]; omega
                  · have h38' : (c0 == 38) = false := by simp [h38]
                    rw [h42', h38'] at HW
                    have HW2 : Hid (RM T (k + 1) (lo + hit (c0 != 45)) (hi + 1) al an) := HW
                    clear HW h42 h38
                    by_cases h45 : c0 = 45
                    · subst h45
                      have HR2 : Hid (RM T (k + 1) lo (hi + 1) al an) := HW2
                      clear HW2
                      go_wp2_with (first | (go_at_call 20; refine (brk20 b o c n k _ T _ HN.out G.out rfl hlt (by omega)).mono ?_; rw [HQ.out]; rintro e w' ⟨rfl, rfl⟩) | (go_at_call 21; refine (sep21 _ _).mono ?_; rw [HSE.out]; rintro e w' ⟨rfl, rfl⟩) | (go_at_call 22; refine (name22 _ _).mono ?_; rw [HNM.out]; rintro e w' ⟨rfl, rfl⟩))
                      go_round
                      case rel => exact ⟨k + 1, lo, hi + 1, al, an, false, by omega, by omega, by omega, by omega, by omega, by go_num, by go_num, by go_num, by go_num, rfl, by go_num, HR2, HO2⟩
                      case measure => simp [intOf]; omega
                    · have h45' : (c0 == 45) = false := by simp [h45]
                      have h45n : (c0 != 45) = true := by simp [h45]
                      rw [h45n] at HW2
                      have HR2 : Hid (RM T (k + 1) (lo + 1) (hi + 1) al an) := HW2
                      clear HW2 h45
                      go_wp2_with (first | (go_at_call 20; refine (brk20 b o c n k _ T _ HN.out G.out rfl hlt (by omega)).mono ?_; rw [HQ.out]; rintro e w' ⟨rfl, rfl⟩) | (go_at_call 21; refine (sep21 _ _).mono ?_; rw [HSE.out]; rintro e w' ⟨rfl, rfl⟩) | (go_at_call 22; refine (name22 _ _).mono ?_; rw [HNM.out]; rintro e w' ⟨rfl, rfl⟩))
                      go_round
                      case rel => exact ⟨k + 1, lo + 1, hi + 1, al, an, false, by omega, by omega, by omega, by omega, by omega, by go_num, by go_num, by go_num, by go_num, rfl, by go_num, HR2, HO2⟩
                      case measure => simp [intOf]; omega
            · have h1' : n ≤ k + 1 := by omega
              have hnb : namedB T k = false := by unfold namedB; rw [decide_eq_false (by have := HN.out; omega)]; rfl
              rw [hnb] at HW
              have HW2 : Hid (RM T (k + 1) (lo + hit (c0 != 45)) (hi + 1) al an) := HW
              clear hnb HW
              by_cases h45 : c0 = 45
              · subst h45
                have HR2 : Hid (RM T (k + 1) lo (hi + 1) al an) := HW2
                clear HW2
                go_wp2_with (first | (go_at_call 20; refine (brk20 b o c n k _ T _ HN.out G.out rfl hlt (by omega)).mono ?_; rw [HQ.out]; rintro e w' ⟨rfl, rfl⟩) | (go_at_call 21; refine (sep21 _ _).mono ?_; rw [HSE.out]; rintro e w' ⟨rfl, rfl⟩))
                go_round
                case rel => exact ⟨k + 1, lo, hi + 1, al, an, false, by omega, by omega, by omega, by omega, by omega, by go_num, by go_num, by go_num, by go_num, rfl, by go_num, HR2, HO2⟩
                case measure => simp [intOf]; omega
              · have h45' : (c0 == 45) = false := by simp [h45]
                have h45n : (c0 != 45) = true := by simp [h45]
                rw [h45n] at HW2
                have HR2 : Hid (RM T (k + 1) (lo + 1) (hi + 1) al an) := HW2
                clear HW2 h45
                go_wp2_with (first | (go_at_call 20; refine (brk20 b o c n k _ T _ HN.out G.out rfl hlt (by omega)).mono ?_; rw [HQ.out]; rintro e w' ⟨rfl, rfl⟩) | (go_at_call 21; refine (sep21 _ _).mono ?_; rw [HSE.out]; rintro e w' ⟨rfl, rfl⟩))
                go_round
                case rel => exact ⟨k + 1, lo + 1, hi + 1, al, an, false, by omega, by omega, by omega, by omega, by omega, by go_num, by go_num, by go_num, by go_num, rfl, by go_num, HR2, HO2⟩
                case measure => simp [intOf]; omega
    · have hkn : k = n := by omega
      subst hkn
      go_wp2
      refine bodyPost_ret (results_four rfl _ _ _) rfl ?_
      exact ⟨rfl, lo, hi, by rw [HR.out.al, HR.out.an]; rfl, HR.out.lo, HR.out.hi, hhi⟩

end Go.Proofs.Qxb6605440a
