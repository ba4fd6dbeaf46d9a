import Derived.Test.Qxb6605440aCmD
import Derived.Test.Qxb6605440aCmStep
import Derived.Deep.RegionWith
import Derived.RegionTactic
namespace Go.Proofs.Qxb6605440a
open Go.RowKit

theorem res_set {B : Nat} {w wr : World} (r0 : wr.cell? ⟨B, 0, none⟩ = some (.int .i64 0)) (r1 : wr.cell? ⟨B, 1, none⟩ = some (.int .i64 0)) (r2 : wr.cell? ⟨B, 2, none⟩ = some (.int .i64 0)) (hb : Below B w wr) (N A C : Int) :
    (((wr.setCell ⟨B, 0, none⟩ (.int .i64 N)).setCell ⟨B, 1, none⟩ (.int .i64 A)).setCell ⟨B, 2, none⟩ (.int .i64 C)).cell? ⟨B, 0, none⟩ = some (.int .i64 N) ∧
    (((wr.setCell ⟨B, 0, none⟩ (.int .i64 N)).setCell ⟨B, 1, none⟩ (.int .i64 A)).setCell ⟨B, 2, none⟩ (.int .i64 C)).cell? ⟨B, 1, none⟩ = some (.int .i64 A) ∧
    (((wr.setCell ⟨B, 0, none⟩ (.int .i64 N)).setCell ⟨B, 1, none⟩ (.int .i64 A)).setCell ⟨B, 2, none⟩ (.int .i64 C)).cell? ⟨B, 2, none⟩ = some (.int .i64 C) ∧
    Below B w (((wr.setCell ⟨B, 0, none⟩ (.int .i64 N)).setCell ⟨B, 1, none⟩ (.int .i64 A)).setCell ⟨B, 2, none⟩ (.int .i64 C)) := by
  have a0 := World.cell?_setCell_same wr ⟨B, 0, none⟩ (.int .i64 N) r0
  have a1 := (World.cell?_setCell_other wr ⟨B, 0, none⟩ ⟨B, 1, none⟩ (.int .i64 N) (by simp)).trans r1
  have a2 := (World.cell?_setCell_other wr ⟨B, 0, none⟩ ⟨B, 2, none⟩ (.int .i64 N) (by simp)).trans r2
  have b1 := World.cell?_setCell_same _ ⟨B, 1, none⟩ (.int .i64 A) a1
  have b0 := (World.cell?_setCell_other _ ⟨B, 1, none⟩ ⟨B, 0, none⟩ (.int .i64 A) (by simp)).trans a0
  have b2 := (World.cell?_setCell_other _ ⟨B, 1, none⟩ ⟨B, 2, none⟩ (.int .i64 A) (by simp)).trans a2
  refine ⟨?_, ?_, World.cell?_setCell_same _ ⟨B, 2, none⟩ (.int .i64 C) b2, ((hb.setCell (Nat.le_refl _) _).setCell (Nat.le_refl _) _).setCell (Nat.le_refl _) _⟩
  · exact (World.cell?_setCell_other _ ⟨B, 2, none⟩ ⟨B, 0, none⟩ (.int .i64 C) (by simp)).trans b0
  · exact (World.cell?_setCell_other _ ⟨B, 2, none⟩ ⟨B, 1, none⟩ (.int .i64 C) (by simp)).trans b1

set_option maxRecDepth 100000 in
set_option maxHeartbeats 4000000 in
theorem marks19 (b o c n : Nat) (T : List Int) (w : World) (hn : T.length = n) (hT : Txt w b o T) (hnm : n ≤ 1048576) :
    Calls Try.prog 19 #[.slice (some ⟨b, o, none⟩) n c] w fun e w' => e = .returned (.agg #[.int .i64 (marksTo T n).nodes, .int .i64 (marksTo T n).aliases, .int .i64 (marksTo T n).anchors]) ∧ Below w.heap.size w w' := by
  have HN : Hid (T.length = n) := hn
  have G : Hid (Txt w b o T) := hT
  clear hn hT
  go_enter Try.func19, Try.ntmps19
  go_wp2
  go_loopw [4, 5, 6, 13] (fun sl sm so si wr => ∃ (k N A C : Nat) (l m d : Bool), k ≤ n ∧ sl = .bool l ∧ sm = .bool m ∧ so = .bool d ∧ si = .int .i64 k ∧ Hid (marksTo T k = ⟨N, A, C, l, m, d⟩) ∧ N ≤ 2 + 3 * k ∧ A ≤ k ∧ C ≤ k ∧ Hid (Mem w.heap.size N A C w wr)) (fun _ _ _ si _ => n - (intOf si).toNat)
  case atStart => exact ⟨0, 2, 0, 0, false, false, false, by omega, rfl, rfl, rfl, rfl, rfl, by omega, by omega, by omega, mem_start w 40⟩
  case round =>
    obtain ⟨k, N, A, C, l, m, d, hk, rfl, rfl, rfl, rfl, HS, hN, hA, hC, HM⟩ := hrel
    by_cases hlt : k < n
    · have GR : Hid (Txt wr b o T) := G.out.below HM.out.bel (Nat.le_refl _)
      have g0 := GR.out k (by have := HN.out; omega)
      have m0 := HM.out.c0
      have m1 := HM.out.c1
      have m2 := HM.out.c2
      have f0 := HM.out.f 0
      have f1 := HM.out.f 1
      have f2 := HM.out.f 2
      have HNX : Hid (marksTo T (k + 1) = step T k ⟨N, A, C, l, m, d⟩) := by show step T k (marksTo T k) = _; rw [HS.out]
      generalize hc0 : ch T k = c0 at g0
      have HC0 : Hid _ := hc0
      clear hc0 HS
      by_cases h91 : c0 = 91
      · subst h91
        have HNX2 : Hid (marksTo T (k + 1) = ⟨N + 1, A, C, true, m, d⟩) := by
          show _ = _
          rw [HNX.out, st_open (.inl HC0.out), HC0.out]
          simp
        clear HNX
        cases l <;> cases m
        all_goals
          as_aux_lemma =>
            go_wp2
            go_roundw
            case rel => exact ⟨k + 1, N + 1, A, C, _, _, _, by omega, rfl, rfl, rfl, by go_num, HNX2, by omega, by omega, by omega, HM.out.set0 _ (by omega)⟩
            case measure => simp [intOf]; omega
      · have h91' : (c0 == 91) = false := by simp [h91]
        by_cases h123 : c0 = 123
        · subst h123
          have HNX2 : Hid (marksTo T (k + 1) = ⟨N + 1, A, C, l, true, d⟩) := by
            show _ = _
            rw [HNX.out, st_open (.inr HC0.out), HC0.out]
            simp
          clear HNX h91
          cases l <;> cases m
          all_goals
            as_aux_lemma =>
              go_wp2
              go_roundw
              case rel => exact ⟨k + 1, N + 1, A, C, _, _, _, by omega, rfl, rfl, rfl, by go_num, HNX2, by omega, by omega, by omega, HM.out.set0 _ (by omega)⟩
              case measure => simp [intOf]; omega
        · have h123' : (c0 == 123) = false := by simp [h123]
          clear h91 h123
          by_cases h44 : c0 = 44 ∨ c0 = 125
          · have HNX2 : Hid (marksTo T (k + 1) = ⟨N + hit m, A, C, l, m, d⟩) := by
              show _ = _
              rw [HNX.out, st_comma (by rw [HC0.out]; exact h44)]
            clear HNX
            cases m
            · rcases h44 with rfl | rfl
              all_goals
                as_aux_lemma =>
                  go_wp2
                  go_roundw
                  case rel => exact ⟨k + 1, N, A, C, l, false, d, by omega, rfl, rfl, rfl, by go_num, HNX2, by omega, by omega, by omega, HM.out⟩
                  case measure => simp [intOf]; omega
            · rcases h44 with rfl | rfl
              all_goals
                as_aux_lemma =>
                  go_wp2
                  go_roundw
                  case rel => exact ⟨k + 1, N + 1, A, C, l, true, d, by omega, rfl, rfl, rfl, by go_num, HNX2, by omega, by omega, by omega, HM.out.set0 _ (by omega)⟩
                  case measure => simp [intOf]; omega
          · have h44' : (c0 == 44) = false := by simp; omega
            have h125' : (c0 == 125) = false := by simp; omega
            by_cases h63 : c0 = 63
            · subst h63
              have HNX2 : Hid (marksTo T (k + 1) = ⟨N + 3, A, C, l, m, d⟩) := by
                show _ = _
                rw [HNX.out, st_quest HC0.out]
              clear HNX h44
              as_aux_lemma =>
                go_wp2
                go_roundw
                case rel => exact ⟨k + 1, N + 3, A, C, l, m, d, by omega, rfl, rfl, rfl, by go_num, HNX2, by omega, by omega, by omega, HM.out.set0 _ (by omega)⟩
                case measure => simp [intOf]; omega
            · have h63' : (c0 == 63) = false := by simp [h63]
              by_cases h58 : c0 = 58
              · subst h58
                have HNX2 : Hid (marksTo T (k + 1) = ⟨N + colonN T k l d, A, C, l, m, false⟩) := by
                  show _ = _
                  rw [HNX.out, st_colon HC0.out]
                have hco := colon_le T k l d
                generalize hcn : colonN T k l d = q at HNX2 hco
                have HCN : Hid _ := hcn
                have GRD : Hid (Txt wr.drew b o T) := fun i hi => GR.out i hi
                clear HNX hcn h44 h63
                go_wp2_with fail
                go_region_with (go_at_call 23; refine (colon23 b o c n k _ l d T _ HN.out GRD.out rfl hlt (by omega)).mono ?_; rw [HCN.out]; rintro e w' ⟨rfl, rfl⟩)
                all_goals
                  as_aux_lemma =>
                    go_wp2
                    go_roundw
                    case rel => exact ⟨k + 1, N + q, A, C, l, m, false, by omega, rfl, rfl, rfl, by go_num, HNX2, by omega, by omega, by omega, (HM.out.set0 (N + q) (by omega)).drew⟩
                    case measure => simp [intOf]; omega
              · have h58' : (c0 == 58) = false := by simp [h58]
                have HPL : Hid (plainC (ch T k)) := by
                  show plainC _
                  rw [HC0.out]
                  simp at h91' h123'
                  exact ⟨h91', h123', by omega, by omega, h63, h58⟩
                clear h44 h63 h58
                have HRS : Hid (restB T k = (sepB c0 || startsB T k || !opensB T k)) := by show _ = _; rw [← HC0.out]; rfl
                cases hse : sepB c0 with
                | true =>
                  have HSE : Hid _ := hse
                  have HR : Hid (restB T k = true) := by show _ = _; rw [HRS.out, hse]; rfl
                  have HNX2 : Hid (marksTo T (k + 1) = ⟨N, A, C, l, m, d⟩) := by show _ = _; rw [HNX.out, st_rest HPL.out HR.out]
                  clear hse HNX HRS HR
                  as_aux_lemma =>
                    go_wp2_with (first | (go_at_call 24; refine (sep24 _ _).mono ?_; rw [HSE.out]; rintro e w' ⟨rfl, rfl⟩))
                    go_roundw
                    case rel => exact ⟨k + 1, N, A, C, l, m, d, by omega, rfl, rfl, rfl, by go_num, HNX2, by omega, by omega, by omega, HM.out⟩
                    case measure => simp [intOf]; omega
                | false =>
                  have HSE : Hid _ := hse
                  rw [hse] at HRS
                  clear hse
                  cases hst : startsB T k with
                  | true =>
                    have HST : Hid _ := hst
                    have HR : Hid (restB T k = true) := by show _ = _; rw [HRS.out, hst]; rfl
                    have HNX2 : Hid (marksTo T (k + 1) = ⟨N, A, C, l, m, d⟩) := by show _ = _; rw [HNX.out, st_rest HPL.out HR.out]
                    clear hst HNX HRS HR
                    as_aux_lemma =>
                      go_wp2_with (first | (go_at_call 24; refine (sep24 _ _).mono ?_; rw [HSE.out]; rintro e w' ⟨rfl, rfl⟩) | (go_at_call 25; refine (starts25 b o c n k _ T _ HN.out GR.out rfl hlt (by omega)).mono ?_; rw [HST.out]; rintro e w' ⟨rfl, rfl⟩))
                      go_roundw
                      case rel => exact ⟨k + 1, N, A, C, l, m, d, by omega, rfl, rfl, rfl, by go_num, HNX2, by omega, by omega, by omega, HM.out⟩
                      case measure => simp [intOf]; omega
                  | false =>
                    have HST : Hid _ := hst
                    rw [hst] at HRS
                    clear hst
                    have hop : (opensB T k = true ∧ (k ≤ 0 ∨ (0 < k ∧ endSepB T (k - 1) = true))) ∨ (opensB T k = false ∧ 0 < k ∧ endSepB T (k - 1) = false) := by
                      unfold opensB
                      by_cases h0 : k = 0
                      · left; simp [h0]
                      · cases he : endSepB T (k - 1)
                        · right; simp [h0]; omega
                        · left; simp [h0]; omega
                    rcases hop with ⟨hop, hq⟩ | ⟨hop, h0, he⟩
                    · have HR : Hid (restB T k = false) := by show _ = _; rw [HRS.out, hop]; rfl
                      clear hop HRS
                      cases hbl : blockB T k with
                      | false =>
                        have HBL : Hid _ := hbl
                        have hw := st_word (N := N) (A := A) (C := C) (l := l) (m := m) (d := d) HPL.out HR.out hbl
                        rw [HC0.out] at hw
                        have HW : Hid _ := hw
                        clear hbl hw HPL HR
                        by_cases h1 : k + 1 < n
                        · have g1 := GR.out (k + 1) (by have := HN.out; omega)
                          have HNB : Hid (namedB T k = nameB (ch T (k + 1))) := by show _ = _; unfold namedB; rw [decide_eq_true (by have := HN.out; omega)]; rfl
                          generalize ch T (k + 1) = c1 at g1 HNB
                          cases hnm1 : nameB c1 with
                          | false =>
                            have HNM : Hid _ := hnm1
                            have HNX2 : Hid (marksTo T (k + 1) = ⟨N + 1, A, C, l, m, d⟩) := by show _ = _; rw [HNX.out, HW.out, HNB.out, hnm1]; rfl
                            clear hnm1 HNX HW HNB
                            rcases hq with h0 | ⟨h0, he⟩
                            · as_aux_lemma =>
                                go_wp2_with (first | (go_at_call 24; refine (sep24 _ _).mono ?_; rw [HSE.out]; rintro e w' ⟨rfl, rfl⟩) | (go_at_call 25; refine (starts25 b o c n k _ T _ HN.out GR.out rfl hlt (by omega)).mono ?_; rw [HST.out]; rintro e w' ⟨rfl, rfl⟩) | (go_at_call 27; refine (block27 b o c n k _ T _ HN.out GR.out rfl hlt (by omega)).mono ?_; rw [HBL.out]; rintro e w' ⟨rfl, rfl⟩) | (go_at_call 28; refine (name28 _ _).mono ?_; rw [HNM.out]; rintro e w' ⟨rfl, rfl⟩))
                                go_roundw
                                case rel => exact ⟨k + 1, N + 1, A, C, l, m, d, by omega, rfl, rfl, rfl, by go_num, HNX2, by omega, by omega, by omega, HM.out.set0 _ (by omega)⟩
                                case measure => simp [intOf]; omega
                            · have HE : Hid _ := he
                              clear he
                              as_aux_lemma =>
                                go_wp2_with (first | (go_at_call 24; refine (sep24 _ _).mono ?_; rw [HSE.out]; rintro e w' ⟨rfl, rfl⟩) | (go_at_call 25; refine (starts25 b o c n k _ T _ HN.out GR.out rfl hlt (by omega)).mono ?_; rw [HST.out]; rintro e w' ⟨rfl, rfl⟩) | (go_at_call 26; refine (endsep26 b o c n (k - 1) _ T _ HN.out GR.out (by omega) (by omega) (by omega)).mono ?_; rw [HE.out]; rintro e w' ⟨rfl, rfl⟩) | (go_at_call 27; refine (block27 b o c n k _ T _ HN.out GR.out rfl hlt (by omega)).mono ?_; rw [HBL.out]; rintro e w' ⟨rfl, rfl⟩) | (go_at_call 28; refine (name28 _ _).mono ?_; rw [HNM.out]; rintro e w' ⟨rfl, rfl⟩))
                                go_roundw
                                case rel => exact ⟨k + 1, N + 1, A, C, l, m, d, by omega, rfl, rfl, rfl, by go_num, HNX2, by omega, by omega, by omega, HM.out.set0 _ (by omega)⟩
                                case measure => simp [intOf]; omega
                          | true =>
                            have HNM : Hid _ := hnm1
                            have HN2 : Hid (marksTo T (k + 1) = ⟨N + 1, A + hit (c0 == 42), C + hit (c0 == 38), l, m, d⟩) := by show _ = _; rw [HNX.out, HW.out, HNB.out, hnm1]; rfl
                            clear hnm1 HNX HW HNB
                            by_cases h42 : c0 = 42
                            · subst h42
                              have HNX2 : Hid (marksTo T (k + 1) = ⟨N + 1, A + 1, C, l, m, d⟩) := HN2
                              clear HN2
                              rcases hq with h0 | ⟨h0, he⟩
                              · as_aux_lemma =>
                                  go_wp2_with (first | (go_at_call 24; refine (sep24 _ _).mono ?_; rw [HSE.out]; rintro e w' ⟨rfl, rfl⟩) | (go_at_call 25; refine (starts25 b o c n k _ T _ HN.out GR.out rfl hlt (by omega)).mono ?_; rw [HST.out]; rintro e w' ⟨rfl, rfl⟩) | (go_at_call 27; refine (block27 b o c n k _ T _ HN.out GR.out rfl hlt (by omega)).mono ?_; rw [HBL.out]; rintro e w' ⟨rfl, rfl⟩) | (go_at_call 28; refine (name28 _ _).mono ?_; rw [HNM.out]; rintro e w' ⟨rfl, rfl⟩))
                                  go_roundw
                                  case rel => exact ⟨k + 1, N + 1, A + 1, C, l, m, d, by omega, rfl, rfl, rfl, by go_num, HNX2, by omega, by omega, by omega, (HM.out.set0 (N + 1) (by omega)).set1 _ (by omega)⟩
                                  case measure => simp [intOf]; omega
                              · have HE : Hid _ := he
                                clear he
                                as_aux_lemma =>
                                  go_wp2_with (first | (go_at_call 24; refine (sep24 _ _).mono ?_; rw [HSE.out]; rintro e w' ⟨rfl, rfl⟩) | (go_at_call 25; refine (starts25 b o c n k _ T _ HN.out GR.out rfl hlt (by omega)).mono ?_; rw [HST.out]; rintro e w' ⟨rfl, rfl⟩) | (go_at_call 26; refine (endsep26 b o c n (k - 1) _ T _ HN.out GR.out (by omega) (by omega) (by omega)).mono ?_; rw [HE.out]; rintro e w' ⟨rfl, rfl⟩) | (go_at_call 27; refine (block27 b o c n k _ T _ HN.out GR.out rfl hlt (by omega)).mono ?_; rw [HBL.out]; rintro e w' ⟨rfl, rfl⟩) | (go_at_call 28; refine (name28 _ _).mono ?_; rw [HNM.out]; rintro e w' ⟨rfl, rfl⟩))
                                  go_roundw
                                  case rel => exact ⟨k + 1, N + 1, A + 1, C, l, m, d, by omega, rfl, rfl, rfl, by go_num, HNX2, by omega, by omega, by omega, (HM.out.set0 (N + 1) (by omega)).set1 _ (by omega)⟩
                                  case measure => simp [intOf]; omega
                            · have h42' : (c0 == 42) = false := by simp [h42]
                              rw [h42'] at HN2
                              clear h42
                              by_cases h38 : c0 = 38
                              · subst h38
                                have HNX2 : Hid (marksTo T (k + 1) = ⟨N + 1, A, C + 1, l, m, d⟩) := HN2
                                clear HN2
                                rcases hq with h0 | ⟨h0, he⟩
                                · as_aux_lemma =>
                                    go_wp2_with (first | (go_at_call 24; refine (sep24 _ _).mono ?_; rw [HSE.out]; rintro e w' ⟨rfl, rfl⟩) | (go_at_call 25; refine (starts25 b o c n k _ T _ HN.out GR.out rfl hlt (by omega)).mono ?_; rw [HST.out]; rintro e w' ⟨rfl, rfl⟩) | (go_at_call 27; refine (block27 b o c n k _ T _ HN.out GR.out rfl hlt (by omega)).mono ?_; rw [HBL.out]; rintro e w' ⟨rfl, rfl⟩) | (go_at_call 28; refine (name28 _ _).mono ?_; rw [HNM.out]; rintro e w' ⟨rfl, rfl⟩))
                                    go_roundw
                                    case rel => exact ⟨k + 1, N + 1, A, C + 1, l, m, d, by omega, rfl, rfl, rfl, by go_num, HNX2, by omega, by omega, by omega, (HM.out.set0 (N + 1) (by omega)).set2 _ (by omega)⟩
                                    case measure => simp [intOf]; omega
                                · have HE : Hid _ := he
                                  clear he
                                  as_aux_lemma =>
                                    go_wp2_with (first | (go_at_call 24; refine (sep24 _ _).mono ?_; rw [HSE.out]; rintro e w' ⟨rfl, rfl⟩) | (go_at_call 25; refine (starts25 b o c n k _ T _ HN.out GR.out rfl hlt (by omega)).mono ?_; rw [HST.out]; rintro e w' ⟨rfl, rfl⟩) | (go_at_call 26; refine (endsep26 b o c n (k - 1) _ T _ HN.out GR.out (by omega) (by omega) (by omega)).mono ?_; rw [HE.out]; rintro e w' ⟨rfl, rfl⟩) | (go_at_call 27; refine (block27 b o c n k _ T _ HN.out GR.out rfl hlt (by omega)).mono ?_; rw [HBL.out]; rintro e w' ⟨rfl, rfl⟩) | (go_at_call 28; refine (name28 _ _).mono ?_; rw [HNM.out]; rintro e w' ⟨rfl, rfl⟩))
                                    go_roundw
                                    case rel => exact ⟨k + 1, N + 1, A, C + 1, l, m, d, by omega, rfl, rfl, rfl, by go_num, HNX2, by omega, by omega, by omega, (HM.out.set0 (N + 1) (by omega)).set2 _ (by omega)⟩
                                    case measure => simp [intOf]; omega
                              · have h38' : (c0 == 38) = false := by simp [h38]
                                rw [h38'] at HN2
                                have HNX2 : Hid (marksTo T (k + 1) = ⟨N + 1, A, C, l, m, d⟩) := HN2
                                clear h38 HN2
                                rcases hq with h0 | ⟨h0, he⟩
                                · as_aux_lemma =>
                                    go_wp2_with (first | (go_at_call 24; refine (sep24 _ _).mono ?_; rw [HSE.out]; rintro e w' ⟨rfl, rfl⟩) | (go_at_call 25; refine (starts25 b o c n k _ T _ HN.out GR.out rfl hlt (by omega)).mono ?_; rw [HST.out]; rintro e w' ⟨rfl, rfl⟩) | (go_at_call 27; refine (block27 b o c n k _ T _ HN.out GR.out rfl hlt (by omega)).mono ?_; rw [HBL.out]; rintro e w' ⟨rfl, rfl⟩) | (go_at_call 28; refine (name28 _ _).mono ?_; rw [HNM.out]; rintro e w' ⟨rfl, rfl⟩))
                                    go_roundw
                                    case rel => exact ⟨k + 1, N + 1, A, C, l, m, d, by omega, rfl, rfl, rfl, by go_num, HNX2, by omega, by omega, by omega, HM.out.set0 _ (by omega)⟩
                                    case measure => simp [intOf]; omega
                                · have HE : Hid _ := he
                                  clear he
                                  as_aux_lemma =>
                                    go_wp2_with (first | (go_at_call 24; refine (sep24 _ _).mono ?_; rw [HSE.out]; rintro e w' ⟨rfl, rfl⟩) | (go_at_call 25; refine (starts25 b o c n k _ T _ HN.out GR.out rfl hlt (by omega)).mono ?_; rw [HST.out]; rintro e w' ⟨rfl, rfl⟩) | (go_at_call 26; refine (endsep26 b o c n (k - 1) _ T _ HN.out GR.out (by omega) (by omega) (by omega)).mono ?_; rw [HE.out]; rintro e w' ⟨rfl, rfl⟩) | (go_at_call 27; refine (block27 b o c n k _ T _ HN.out GR.out rfl hlt (by omega)).mono ?_; rw [HBL.out]; rintro e w' ⟨rfl, rfl⟩) | (go_at_call 28; refine (name28 _ _).mono ?_; rw [HNM.out]; rintro e w' ⟨rfl, rfl⟩))
                                    go_roundw
                                    case rel => exact ⟨k + 1, N + 1, A, C, l, m, d, by omega, rfl, rfl, rfl, by go_num, HNX2, by omega, by omega, by omega, HM.out.set0 _ (by omega)⟩
                                    case measure => simp [intOf]; omega
                        · have h1' : n ≤ k + 1 := by omega
                          have HNX2 : Hid (marksTo T (k + 1) = ⟨N + 1, A, C, l, m, d⟩) := by
                            show _ = _
                            have e : namedB T k = false := by unfold namedB; rw [decide_eq_false (by have := HN.out; omega)]; rfl
                            rw [HNX.out, HW.out, e]
                            rfl
                          clear HNX HW
                          rcases hq with h0 | ⟨h0, he⟩
                          · as_aux_lemma =>
                              go_wp2_with (first | (go_at_call 24; refine (sep24 _ _).mono ?_; rw [HSE.out]; rintro e w' ⟨rfl, rfl⟩) | (go_at_call 25; refine (starts25 b o c n k _ T _ HN.out GR.out rfl hlt (by omega)).mono ?_; rw [HST.out]; rintro e w' ⟨rfl, rfl⟩) | (go_at_call 27; refine (block27 b o c n k _ T _ HN.out GR.out rfl hlt (by omega)).mono ?_; rw [HBL.out]; rintro e w' ⟨rfl, rfl⟩))
                              go_roundw
                              case rel => exact ⟨k + 1, N + 1, A, C, l, m, d, by omega, rfl, rfl, rfl, by go_num, HNX2, by omega, by omega, by omega, HM.out.set0 _ (by omega)⟩
                              case measure => simp [intOf]; omega
                          · have HE : Hid _ := he
                            clear he
                            as_aux_lemma =>
                              go_wp2_with (first | (go_at_call 24; refine (sep24 _ _).mono ?_; rw [HSE.out]; rintro e w' ⟨rfl, rfl⟩) | (go_at_call 25; refine (starts25 b o c n k _ T _ HN.out GR.out rfl hlt (by omega)).mono ?_; rw [HST.out]; rintro e w' ⟨rfl, rfl⟩) | (go_at_call 26; refine (endsep26 b o c n (k - 1) _ T _ HN.out GR.out (by omega) (by omega) (by omega)).mono ?_; rw [HE.out]; rintro e w' ⟨rfl, rfl⟩) | (go_at_call 27; refine (block27 b o c n k _ T _ HN.out GR.out rfl hlt (by omega)).mono ?_; rw [HBL.out]; rintro e w' ⟨rfl, rfl⟩))
                              go_roundw
                              case rel => exact ⟨k + 1, N + 1, A, C, l, m, d, by omega, rfl, rfl, rfl, by go_num, HNX2, by omega, by omega, by omega, HM.out.set0 _ (by omega)⟩
                              case measure => simp [intOf]; omega
                      | true =>
                        have HBL : Hid _ := hbl
                        have HOW : Hid (ownsB T k = (decide (skipTo T (k + 1) = T.length) || startsB T (skipTo T (k + 1)) || blockB T (skipTo T (k + 1)))) := rfl
                        have hkk := skip_le (T := T) (i := k + 1) (by have := HN.out; omega)
                        rw [HN.out] at hkk
                        generalize hK : skipTo T (k + 1) = K at HOW hkk
                        have HK : Hid _ := hK
                        obtain ⟨hKa, hKb⟩ := hkk
                        clear hbl hK
                        by_cases hK2 : K < n
                        · have e : decide (K = T.length) = false := decide_eq_false (by have := HN.out; omega)
                          rw [e] at HOW
                          clear e
                          cases hst2 : startsB T K with
                          | true =>
                            have HST2 : Hid _ := hst2
                            rw [hst2] at HOW
                            have HNX2 : Hid (marksTo T (k + 1) = ⟨N + 1, A, C, l, m, d⟩) := by show _ = _; rw [HNX.out, st_owns HPL.out HR.out HBL.out (by rw [HOW.out]; rfl)]
                            clear hst2 HNX HOW HPL HR
                            rcases hq with h0 | ⟨h0, he⟩
                            · as_aux_lemma =>
                                go_wp2_with (first | (go_at_call 24; refine (sep24 _ _).mono ?_; rw [HSE.out]; rintro e w' ⟨rfl, rfl⟩) | (go_at_call_of 25 (Value.int IntKind.i64 (k : Int)); refine (starts25 b o c n k _ T _ HN.out GR.out rfl hlt (by omega)).mono ?_; rw [HST.out]; rintro e w' ⟨rfl, rfl⟩) | (go_at_call_of 25 (Value.int IntKind.i64 (K : Int)); refine (starts25 b o c n K _ T _ HN.out GR.out rfl hK2 (by omega)).mono ?_; rw [HST2.out]; rintro e w' ⟨rfl, rfl⟩) | (go_at_call_of 27 (Value.int IntKind.i64 (k : Int)); refine (block27 b o c n k _ T _ HN.out GR.out rfl hlt (by omega)).mono ?_; rw [HBL.out]; rintro e w' ⟨rfl, rfl⟩) | (go_at_call 29; refine (skip29 b o c n (k + 1) _ T _ HN.out GR.out (by omega) (by omega) (by omega)).mono ?_; rw [HK.out]; rintro e w' ⟨rfl, rfl⟩))
                                go_roundw
                                case rel => exact ⟨k + 1, N + 1, A, C, l, m, d, by omega, rfl, rfl, rfl, by go_num, HNX2, by omega, by omega, by omega, HM.out.set0 _ (by omega)⟩
                                case measure => simp [intOf]; omega
                            · have HE : Hid _ := he
                              clear he
                              as_aux_lemma =>
                                go_wp2_with (first | (go_at_call 24; refine (sep24 _ _).mono ?_; rw [HSE.out]; rintro e w' ⟨rfl, rfl⟩) | (go_at_call_of 25 (Value.int IntKind.i64 (k : Int)); refine (starts25 b o c n k _ T _ HN.out GR.out rfl hlt (by omega)).mono ?_; rw [HST.out]; rintro e w' ⟨rfl, rfl⟩) | (go_at_call_of 25 (Value.int IntKind.i64 (K : Int)); refine (starts25 b o c n K _ T _ HN.out GR.out rfl hK2 (by omega)).mono ?_; rw [HST2.out]; rintro e w' ⟨rfl, rfl⟩) | (go_at_call 26; refine (endsep26 b o c n (k - 1) _ T _ HN.out GR.out (by omega) (by omega) (by omega)).mono ?_; rw [HE.out]; rintro e w' ⟨rfl, rfl⟩) | (go_at_call_of 27 (Value.int IntKind.i64 (k : Int)); refine (block27 b o c n k _ T _ HN.out GR.out rfl hlt (by omega)).mono ?_; rw [HBL.out]; rintro e w' ⟨rfl, rfl⟩) | (go_at_call 29; refine (skip29 b o c n (k + 1) _ T _ HN.out GR.out (by omega) (by omega) (by omega)).mono ?_; rw [HK.out]; rintro e w' ⟨rfl, rfl⟩))
                                go_roundw
                                case rel => exact ⟨k + 1, N + 1, A, C, l, m, d, by omega, rfl, rfl, rfl, by go_num, HNX2, by omega, by omega, by omega, HM.out.set0 _ (by omega)⟩
                                case measure => simp [intOf]; omega
                          | false =>
                            have HST2 : Hid _ := hst2
                            rw [hst2] at HOW
                            clear hst2
                            cases hbl2 : blockB T K with
                            | true =>
                              have HBL2 : Hid _ := hbl2
                              have HNX2 : Hid (marksTo T (k + 1) = ⟨N + 1, A, C, l, m, d⟩) := by show _ = _; rw [HNX.out, st_owns HPL.out HR.out HBL.out (by rw [HOW.out, hbl2]; rfl)]
                              clear hbl2 HNX HOW HPL HR
                              rcases hq with h0 | ⟨h0, he⟩
                              · as_aux_lemma =>
                                  go_wp2_with (first | (go_at_call 24; refine (sep24 _ _).mono ?_; rw [HSE.out]; rintro e w' ⟨rfl, rfl⟩) | (go_at_call_of 25 (Value.int IntKind.i64 (k : Int)); refine (starts25 b o c n k _ T _ HN.out GR.out rfl hlt (by omega)).mono ?_; rw [HST.out]; rintro e w' ⟨rfl, rfl⟩) | (go_at_call_of 25 (Value.int IntKind.i64 (K : Int)); refine (starts25 b o c n K _ T _ HN.out GR.out rfl hK2 (by omega)).mono ?_; rw [HST2.out]; rintro e w' ⟨rfl, rfl⟩) | (go_at_call_of 27 (Value.int IntKind.i64 (k : Int)); refine (block27 b o c n k _ T _ HN.out GR.out rfl hlt (by omega)).mono ?_; rw [HBL.out]; rintro e w' ⟨rfl, rfl⟩) | (go_at_call_of 27 (Value.int IntKind.i64 (K : Int)); refine (block27 b o c n K _ T _ HN.out GR.out rfl hK2 (by omega)).mono ?_; rw [HBL2.out]; rintro e w' ⟨rfl, rfl⟩) | (go_at_call 29; refine (skip29 b o c n (k + 1) _ T _ HN.out GR.out (by omega) (by omega) (by omega)).mono ?_; rw [HK.out]; rintro e w' ⟨rfl, rfl⟩))
                                  go_roundw
                                  case rel => exact ⟨k + 1, N + 1, A, C, l, m, d, by omega, rfl, rfl, rfl, by go_num, HNX2, by omega, by omega, by omega, HM.out.set0 _ (by omega)⟩
                                  case measure => simp [intOf]; omega
                              · have HE : Hid _ := he
                                clear he
                                as_aux_lemma =>
                                  go_wp2_with (first | (go_at_call 24; refine (sep24 _ _).mono ?_; rw [HSE.out]; rintro e w' ⟨rfl, rfl⟩) | (go_at_call_of 25 (Value.int IntKind.i64 (k : Int)); refine (starts25 b o c n k _ T _ HN.out GR.out rfl hlt (by omega)).mono ?_; rw [HST.out]; rintro e w' ⟨rfl, rfl⟩) | (go_at_call_of 25 (Value.int IntKind.i64 (K : Int)); refine (starts25 b o c n K _ T _ HN.out GR.out rfl hK2 (by omega)).mono ?_; rw [HST2.out]; rintro e w' ⟨rfl, rfl⟩) | (go_at_call 26; refine (endsep26 b o c n (k - 1) _ T _ HN.out GR.out (by omega) (by omega) (by omega)).mono ?_; rw [HE.out]; rintro e w' ⟨rfl, rfl⟩) | (go_at_call_of 27 (Value.int IntKind.i64 (k : Int)); refine (block27 b o c n k _ T _ HN.out GR.out rfl hlt (by omega)).mono ?_; rw [HBL.out]; rintro e w' ⟨rfl, rfl⟩) | (go_at_call_of 27 (Value.int IntKind.i64 (K : Int)); refine (block27 b o c n K _ T _ HN.out GR.out rfl hK2 (by omega)).mono ?_; rw [HBL2.out]; rintro e w' ⟨rfl, rfl⟩) | (go_at_call 29; refine (skip29 b o c n (k + 1) _ T _ HN.out GR.out (by omega) (by omega) (by omega)).mono ?_; rw [HK.out]; rintro e w' ⟨rfl, rfl⟩))
                                  go_roundw
                                  case rel => exact ⟨k + 1, N + 1, A, C, l, m, d, by omega, rfl, rfl, rfl, by go_num, HNX2, by omega, by omega, by omega, HM.out.set0 _ (by omega)⟩
                                  case measure => simp [intOf]; omega
                            | false =>
                              have HBL2 : Hid _ := hbl2
                              have HNX2 : Hid (marksTo T (k + 1) = ⟨N, A, C, l, m, true⟩) := by show _ = _; rw [HNX.out, st_owed HPL.out HR.out HBL.out (by rw [HOW.out, hbl2]; rfl)]
                              clear hbl2 HNX HOW HPL HR
                              rcases hq with h0 | ⟨h0, he⟩
                              · as_aux_lemma =>
                                  go_wp2_with (first | (go_at_call 24; refine (sep24 _ _).mono ?_; rw [HSE.out]; rintro e w' ⟨rfl, rfl⟩) | (go_at_call_of 25 (Value.int IntKind.i64 (k : Int)); refine (starts25 b o c n k _ T _ HN.out GR.out rfl hlt (by omega)).mono ?_; rw [HST.out]; rintro e w' ⟨rfl, rfl⟩) | (go_at_call_of 25 (Value.int IntKind.i64 (K : Int)); refine (starts25 b o c n K _ T _ HN.out GR.out rfl hK2 (by omega)).mono ?_; rw [HST2.out]; rintro e w' ⟨rfl, rfl⟩) | (go_at_call_of 27 (Value.int IntKind.i64 (k : Int)); refine (block27 b o c n k _ T _ HN.out GR.out rfl hlt (by omega)).mono ?_; rw [HBL.out]; rintro e w' ⟨rfl, rfl⟩) | (go_at_call_of 27 (Value.int IntKind.i64 (K : Int)); refine (block27 b o c n K _ T _ HN.out GR.out rfl hK2 (by omega)).mono ?_; rw [HBL2.out]; rintro e w' ⟨rfl, rfl⟩) | (go_at_call 29; refine (skip29 b o c n (k + 1) _ T _ HN.out GR.out (by omega) (by omega) (by omega)).mono ?_; rw [HK.out]; rintro e w' ⟨rfl, rfl⟩))
                                  go_roundw
                                  case rel => exact ⟨k + 1, N, A, C, l, m, true, by omega, rfl, rfl, rfl, by go_num, HNX2, by omega, by omega, by omega, HM.out⟩
                                  case measure => simp [intOf]; omega
                              · have HE : Hid _ := he
                                clear he
                                as_aux_lemma =>
                                  go_wp2_with (first | (go_at_call 24; refine (sep24 _ _).mono ?_; rw [HSE.out]; rintro e w' ⟨rfl, rfl⟩) | (go_at_call_of 25 (Value.int IntKind.i64 (k : Int)); refine (starts25 b o c n k _ T _ HN.out GR.out rfl hlt (by omega)).mono ?_; rw [HST.out]; rintro e w' ⟨rfl, rfl⟩) | (go_at_call_of 25 (Value.int IntKind.i64 (K : Int)); refine (starts25 b o c n K _ T _ HN.out GR.out rfl hK2 (by omega)).mono ?_; rw [HST2.out]; rintro e w' ⟨rfl, rfl⟩) | (go_at_call 26; refine (endsep26 b o c n (k - 1) _ T _ HN.out GR.out (by omega) (by omega) (by omega)).mono ?_; rw [HE.out]; rintro e w' ⟨rfl, rfl⟩) | (go_at_call_of 27 (Value.int IntKind.i64 (k : Int)); refine (block27 b o c n k _ T _ HN.out GR.out rfl hlt (by omega)).mono ?_; rw [HBL.out]; rintro e w' ⟨rfl, rfl⟩) | (go_at_call_of 27 (Value.int IntKind.i64 (K : Int)); refine (block27 b o c n K _ T _ HN.out GR.out rfl hK2 (by omega)).mono ?_; rw [HBL2.out]; rintro e w' ⟨rfl, rfl⟩) | (go_at_call 29; refine (skip29 b o c n (k + 1) _ T _ HN.out GR.out (by omega) (by omega) (by omega)).mono ?_; rw [HK.out]; rintro e w' ⟨rfl, rfl⟩))
                                  go_roundw
                                  case rel => exact ⟨k + 1, N, A, C, l, m, true, by omega, rfl, rfl, rfl, by go_num, HNX2, by omega, by omega, by omega, HM.out⟩
                                  case measure => simp [intOf]; omega
                        · have hK1 : n ≤ K := by omega
                          have HNX2 : Hid (marksTo T (k + 1) = ⟨N + 1, A, C, l, m, d⟩) := by
                            show _ = _
                            rw [HNX.out, st_owns HPL.out HR.out HBL.out (by rw [HOW.out, decide_eq_true (by have := HN.out; omega)]; rfl)]
                          clear HNX HOW HPL HR
                          rcases hq with h0 | ⟨h0, he⟩
                          · as_aux_lemma =>
                              go_wp2_with (first | (go_at_call 24; refine (sep24 _ _).mono ?_; rw [HSE.out]; rintro e w' ⟨rfl, rfl⟩) | (go_at_call_of 25 (Value.int IntKind.i64 (k : Int)); refine (starts25 b o c n k _ T _ HN.out GR.out rfl hlt (by omega)).mono ?_; rw [HST.out]; rintro e w' ⟨rfl, rfl⟩) | (go_at_call_of 27 (Value.int IntKind.i64 (k : Int)); refine (block27 b o c n k _ T _ HN.out GR.out rfl hlt (by omega)).mono ?_; rw [HBL.out]; rintro e w' ⟨rfl, rfl⟩) | (go_at_call 29; refine (skip29 b o c n (k + 1) _ T _ HN.out GR.out (by omega) (by omega) (by omega)).mono ?_; rw [HK.out]; rintro e w' ⟨rfl, rfl⟩))
                              go_roundw
                              case rel => exact ⟨k + 1, N + 1, A, C, l, m, d, by omega, rfl, rfl, rfl, by go_num, HNX2, by omega, by omega, by omega, HM.out.set0 _ (by omega)⟩
                              case measure => simp [intOf]; omega
                          · have HE : Hid _ := he
                            clear he
                            as_aux_lemma =>
                              go_wp2_with (first | (go_at_call 24; refine (sep24 _ _).mono ?_; rw [HSE.out]; rintro e w' ⟨rfl, rfl⟩) | (go_at_call_of 25 (Value.int IntKind.i64 (k : Int)); refine (starts25 b o c n k _ T _ HN.out GR.out rfl hlt (by omega)).mono ?_; rw [HST.out]; rintro e w' ⟨rfl, rfl⟩) | (go_at_call 26; refine (endsep26 b o c n (k - 1) _ T _ HN.out GR.out (by omega) (by omega) (by omega)).mono ?_; rw [HE.out]; rintro e w' ⟨rfl, rfl⟩) | (go_at_call_of 27 (Value.int IntKind.i64 (k : Int)); refine (block27 b o c n k _ T _ HN.out GR.out rfl hlt (by omega)).mono ?_; rw [HBL.out]; rintro e w' ⟨rfl, rfl⟩) | (go_at_call 29; refine (skip29 b o c n (k + 1) _ T _ HN.out GR.out (by omega) (by omega) (by omega)).mono ?_; rw [HK.out]; rintro e w' ⟨rfl, rfl⟩))
                              go_roundw
                              case rel => exact ⟨k + 1, N + 1, A, C, l, m, d, by omega, rfl, rfl, rfl, by go_num, HNX2, by omega, by omega, by omega, HM.out.set0 _ (by omega)⟩
                              case measure => simp [intOf]; omega
                    · have HR : Hid (restB T k = true) := by show _ = _; rw [HRS.out, hop]; rfl
                      have HNX2 : Hid (marksTo T (k + 1) = ⟨N, A, C, l, m, d⟩) := by show _ = _; rw [HNX.out, st_rest HPL.out HR.out]
                      have HE : Hid _ := he
                      clear HNX HRS HR hop he
                      as_aux_lemma =>
                        go_wp2_with (first | (go_at_call 24; refine (sep24 _ _).mono ?_; rw [HSE.out]; rintro e w' ⟨rfl, rfl⟩) | (go_at_call 25; refine (starts25 b o c n k _ T _ HN.out GR.out rfl hlt (by omega)).mono ?_; rw [HST.out]; rintro e w' ⟨rfl, rfl⟩) | (go_at_call 26; refine (endsep26 b o c n (k - 1) _ T _ HN.out GR.out (by omega) (by omega) (by omega)).mono ?_; rw [HE.out]; rintro e w' ⟨rfl, rfl⟩))
                        go_roundw
                        case rel => exact ⟨k + 1, N, A, C, l, m, d, by omega, rfl, rfl, rfl, by go_num, HNX2, by omega, by omega, by omega, HM.out⟩
                        case measure => simp [intOf]; omega
    · have hkn : k = n := by omega
      have m0 := HM.out.c0
      have m1 := HM.out.c1
      have m2 := HM.out.c2
      have r0 := HM.out.r0
      have r1 := HM.out.r1
      have r2 := HM.out.r2
      have f0 := HM.out.g 0
      have f1 := HM.out.g 1
      have f2 := HM.out.g 2
      have hbr := HM.out.bel
      have HF : Hid (marksTo T n = ⟨N, A, C, l, m, d⟩) := by rw [← hkn]; exact HS
      clear HS hkn
      go_wp2
      have hW := res_set r0 r1 r2 hbr N A C
      generalize ((wr.setCell ⟨w.heap.size, 0, none⟩ (.int .i64 N)).setCell ⟨w.heap.size, 1, none⟩ (.int .i64 A)).setCell ⟨w.heap.size, 2, none⟩ (.int .i64 C) = W at hW ⊢
      obtain ⟨q0, q1, q2, q3⟩ := hW
      exact bodyPost_ret (v := .agg #[.int .i64 N, .int .i64 A, .int .i64 C]) (by simp [results, Try.results19, go_sem, q0, q1, q2]) rfl ⟨by rw [HF.out], q3⟩

end Go.Proofs.Qxb6605440a
