import Derived.Test.Qxb6605425aRows
import Derived.Test.Qxb6605425aParts
import Derived.Test.Qxb6605425aUnqPlain
import Derived.Test.Qxb6605425aClone
import Derived.WalkKit
import Derived.WalkSmall
import Derived.WalkSpells
import Derived.Deep.QuietTactic
import Derived.BigQuiet
namespace Go.Proofs.Qxb6605425a
open Go.RowKit

def UnqEnd (r : Option (List Int × List Int)) (w : World) (e : Ending) (w' : World) : Prop :=
  Below w.heap.size w w' ∧
  match r with
  | none => e = .returned (.tuple #[.slice none 0 0, .slice none 0 0, .bool false])
  | some (x, y) => ∃ a1 n1 c1 a2 n2 c2, e = .returned (.tuple #[.slice a1 n1 c1, .slice a2 n2 c2, .bool true]) ∧ x.length = n1 ∧ y.length = n2 ∧ Seg .u8 w' a1 x ∧ Seg .u8 w' a2 y

set_option maxHeartbeats 400000 in
theorem unq15 (b o c n : Nat) (zs : List Int) (w : World) (hn : zs.length = n) (hs : ∀ i, i < zs.length → w.cell? ⟨b, o + i, none⟩ = some (.int .u8 (zs.getD i 0))) (hnc : n ≤ c) (hcm : c ≤ 9223372036854775807) (hnm : n ≤ 4194304) :
    Calls Try.prog 15 #[.slice (some ⟨b, o, none⟩) n c] w (UnqEnd (unqM (zs.drop 1) false []) w) := by
  obtain ⟨i0, hi, hz0, hz1, hz2⟩ := info_parts Try.info5
  generalize hr : unqM (zs.drop 1) false [] = r
  have Hr : Hid (unqM (zs.drop 1) false [] = r) := hr
  have HS : Hid (∀ i, i < zs.length → w.cell? ⟨b, o + i, none⟩ = some (.int .u8 (zs.getD i 0))) := hs
  clear hr hs
  go_enter Try.func15, Try.ntmps15
  go_wp2
  go_loopw [5] (fun i wr => ∃ k : Nat, 1 ≤ k ∧ (k ≤ n ∨ k = 1) ∧ i = .int .i64 k ∧ w = wr ∧ Hid (∀ j, 1 ≤ j → j < k → zs.getD j 0 ≠ 34 ∧ zs.getD j 0 ≠ 92)) (fun i _ => n - (intOf i).toNat)
  case atStart => exact ⟨1, by omega, by omega, rfl, rfl, fun j a b => by omega⟩
  case round =>
    obtain ⟨k, hk1, hk, rfl, rfl, HN⟩ := hrel
    by_cases hlt : k < n
    · have g1 := HS.out k (by omega)
      generalize hd : zs.getD k 0 = d at g1
      have Hd : Hid (zs.getD k 0 = d) := hd
      clear hd
      by_cases h34 : d = 34
      · subst h34
        go_wp2
        go_quiet (fail)
        go_wp2
        all_goals
          go_ret3
          have h1 := unqM_quote (zs := zs) (acc := (zs.take k).drop 1) (by omega) Hd.out
          rw [← unqM_run (by omega) hk1 HN.out, Hr.out] at h1
          rw [h1]
          refine ⟨below_drewN (Below.refl _ _) _, _, _, _, _, _, _, rfl, ?_, ?_, ?_, ?_⟩
          · simp; omega
          · simp; omega
          · exact (Seg.mid HS.out (by omega)).below (below_drewN (Below.refl _ _) _) (Nat.le_refl _)
          · exact (Seg.tail (c := c) HS.out (by omega) (by first | (intro h; rfl) | (intro h; omega))).below (below_drewN (Below.refl _ _) _) (Nat.le_refl _)
      · have h34' : (d == 34) = false := by simp [h34]
        clear h34
        by_cases h92 : d = 92
        · subst h92
          go_wp2
          go_loopw [6, 7] (fun v j wr' => ∃ (q : Nat) (acc : List Int), 1 ≤ q ∧ q ≤ n ∧ j = .int .i64 q ∧ acc.length + 1 ≤ q ∧ wr'.ownsRow w.heap.size 5 1 v acc.length (acc.map (Value.int .u8)) ∧ Below w.heap.size w wr' ∧ Hid (unqM (zs.drop q) false acc = r)) (fun _ j _ => n - (intOf j).toNat)
          case atStart => exact ⟨1, [], by omega, by omega, rfl, by simp, World.ownsRow_nil _ _ _ _, Below.refl _ _, Hr⟩
          case round =>
            clear g1 Hd h34'
            obtain ⟨q, acc, hq1, hq, rfl, hacc, hown, hb, HR⟩ := hrel
            by_cases hlt2 : q < n
            · have g1 := (hb.cell (p := ⟨b, o + q, none⟩) (World.block_lt_of_cell? w _ (HS.out q (by omega)))).trans (HS.out q (by omega))
              generalize hd : zs.getD q 0 = d at g1
              have Hd : Hid (zs.getD q 0 = d) := hd
              clear hd
              obtain ⟨av, cv, hv, hseg, _, _⟩ := owns_seg hown
              by_cases h34 : d = 34
              · subst h34
                rw [hv]
                clear hown
                go_wp2
                go_quiet (fail)
                go_wp2
                all_goals
                  go_ret3
                  have h1 := HR.out
                  rw [unqM_quote (by omega) Hd.out] at h1
                  rw [← h1]
                  refine ⟨below_drewN hb _, _, _, _, _, _, _, rfl, rfl, ?_, hseg.below (below_drewN (Below.refl _ _) _) (Nat.le_refl _), ?_⟩
                  · simp; omega
                  · exact (Seg.tail (c := c) HS.out (by omega) (by first | (intro h; rfl) | (intro h; omega))).below (below_drewN hb _) (Nat.le_refl _)
              · have h34' : (d == 34) = false := by simp [h34]
                by_cases h92 : d = 92
                · subst h92
                  by_cases hq2 : q + 1 < n
                  · have g2 := (hb.cell (p := ⟨b, o + (q + 1), none⟩) (World.block_lt_of_cell? w _ (HS.out (q + 1) (by omega)))).trans (HS.out (q + 1) (by omega))
                    have HR' := HR.out
                    rw [unqM_two (by omega) Hd.out] at HR'
                    generalize hd2 : zs.getD (q + 1) 0 = d2 at g2 HR'
                    have HR2 : Hid _ := HR'
                    clear HR' hd2 hseg hv HR h34'
                    go_wp2_with (at_builtin; refine wpList_append_one _ w .u8 22 5 i0 1 Try.underlying22 hi hz0 hz1 hz2 (by omega) rfl (.tmp 61) (.tmp 66) rfl w.heap.size _ acc d2 rfl rfl hown hb (Nat.le_refl _) (by omega) ?_; intro v' w1 hown1 hb1)
                    go_roundw
                    case rel => exact ⟨q + 2, acc ++ [d2], by omega, by omega, by go_num, by simp; omega, hown1, hb1, HR2⟩
                    case measure => simp [intOf]; omega
                  · have HR' := HR.out
                    rw [unqM_last (acc' := acc ++ [92]) (by omega) Hd.out] at HR'
                    have HR2 : Hid _ := HR'
                    clear HR' hseg hv HR h34'
                    go_wp2_with (at_builtin; refine wpList_append_one _ w .u8 22 5 i0 1 Try.underlying22 hi hz0 hz1 hz2 (by omega) rfl (.tmp 61) (.tmp 66) rfl w.heap.size _ acc 92 rfl rfl hown hb (Nat.le_refl _) (by omega) ?_; intro v' w1 hown1 hb1)
                    go_roundw
                    case rel => exact ⟨q + 1, acc ++ [92], by omega, by omega, by go_num, by simp; omega, hown1, hb1, HR2⟩
                    case measure => simp [intOf]; omega
                · have h92' : (d == 92) = false := by simp [h92]
                  have HR' := HR.out
                  rw [unqM_plain (by omega) (by rw [Hd.out]; exact h34) (by rw [Hd.out]; exact h92), Hd.out] at HR'
                  have HR2 : Hid _ := HR'
                  clear HR' hseg hv HR h34 h92
                  go_wp2_with (at_builtin; refine wpList_append_one _ w .u8 22 5 i0 1 Try.underlying22 hi hz0 hz1 hz2 (by omega) rfl (.tmp 61) (.tmp 66) rfl w.heap.size _ acc d rfl rfl hown hb (Nat.le_refl _) (by omega) ?_; intro v' w1 hown1 hb1)
                  go_roundw
                  case rel => exact ⟨q + 1, acc ++ [d], by omega, by omega, by go_num, by simp; omega, hown1, hb1, HR2⟩
                  case measure => simp [intOf]; omega
            · go_wp2
              go_ret3
              refine ⟨hb, ?_⟩
              have : r = none := by
                rw [← HR.out, List.drop_eq_nil_of_le (by omega), unqM_end]
              rw [this]
              rfl
        · have h92' : (d == 92) = false := by simp [h92]
          have HN' : Hid (∀ j, 1 ≤ j → j < k + 1 → zs.getD j 0 ≠ 34 ∧ zs.getD j 0 ≠ 92) := by
            intro j hj1 hj2
            by_cases e : j = k
            · subst e; rw [Hd.out]; exact ⟨by simpa using h34', h92⟩
            · exact HN.out j hj1 (by omega)
          clear h92 HN
          go_wp2
          go_roundw
          case rel => exact ⟨k + 1, by omega, by omega, by go_num, trivial, HN'⟩
          case measure => simp [intOf]; omega
    · go_wp2
      go_ret3
      refine ⟨Below.refl _ _, ?_⟩
      have : r = none := by
        rw [← Hr.out]
        rcases hk with hk | hk
        · rw [unqM_run (by omega) hk1 HN.out, List.drop_eq_nil_of_le (by omega), unqM_end]
        · rw [List.drop_eq_nil_of_le (by omega), unqM_end]
      rw [this]
      rfl

end Go.Proofs.Qxb6605425a
