import Derived.Test.Qxb6605425aClone
import Derived.Laws.BytesArg
import Derived.Deep.QuietTactic
import Derived.BigQuiet
import Derived.Deep.Light
import Derived.WalkSmall
namespace Go.Proofs.Qxb6605425a
open Go.RowKit

/-- An ASCII letter in upper case. -/
def up (d : Int) : Int := if 97 ≤ d ∧ d ≤ 122 then d - 32 else d

/-- The bytes of a string, as numbers. -/
def sb (s : ByteArray) : List Int := s.data.toList.map fun b => (b.toNat : Int)

theorem sb_len (s : ByteArray) : (sb s).length = s.size := by simp [sb]

theorem sb_at (s : ByteArray) (k : Nat) (h : k < s.size) : (sb s).getD k 0 = (s[k].toNat : Int) := by
  have h' : k < s.data.toList.length := h
  simp only [sb, List.getD, List.getElem?_map, List.getElem?_eq_getElem h', Option.map_some, Option.getD_some]
  rfl

def FoldEnd (zs ys : List Int) (w : World) (e : Ending) (w' : World) : Prop :=
  Below w.heap.size w w' ∧ e = .returned (.bool (decide (zs.map up = ys.map up)))

theorem fold_no {zs ys : List Int} {k : Nat} (h1 : k < zs.length) (h2 : k < ys.length) (h : up (zs.getD k 0) ≠ up (ys.getD k 0)) : decide (zs.map up = ys.map up) = false := by
  rw [decide_eq_false_iff_not]
  intro e
  apply h
  have e1 : (zs.map up)[k]? = (ys.map up)[k]? := by rw [e]
  simp [h1, h2] at e1
  simpa [List.getD, h1, h2] using e1

theorem fold_step {zs ys : List Int} {k : Nat} (h1 : k < zs.length) (h2 : k < ys.length) (h : up (zs.getD k 0) = up (ys.getD k 0)) (hp : (zs.take k).map up = (ys.take k).map up) : (zs.take (k + 1)).map up = (ys.take (k + 1)).map up := by
  rw [List.take_succ_eq_append_getElem h1, List.take_succ_eq_append_getElem h2, List.map_append, List.map_append, hp]
  simp [List.getD, h1, h2] at h
  simp [h]

set_option maxHeartbeats 800000 in
theorem fold17 (a : Option Addr) (c n : Nat) (zs : List Int) (s : ByteArray) (w : World) (hn : zs.length = n) (hs : Seg .u8 w a zs) (hz : ∀ d ∈ zs, 0 ≤ d ∧ d ≤ 255) (hnm : n ≤ 4194304) (hsm : s.size ≤ 4194304) :
    Calls Try.prog 17 #[.slice a n c, .string s] w (FoldEnd zs (sb s) w) := by
  have HS : Hid (Seg .u8 w a zs) := hs
  have HN : Hid (zs.length = n) := hn
  have HZ : Hid (∀ d ∈ zs, 0 ≤ d ∧ d ≤ 255) := hz
  clear hs hn hz
  by_cases hl : n = s.size
  · have hl' : ((n : Int) != (s.size : Int)) = false := by simp [hl]
    have HL : Hid (n = s.size) := hl
    have hls : n ≤ s.size := by omega
    clear hl
    go_enter Try.func17, Try.ntmps17
    go_wp2
    go_loopw [15] (fun i wr => ∃ k : Nat, k ≤ n ∧ i = .int .i64 k ∧ Below w.heap.size w wr ∧ Hid ((zs.take k).map up = ((sb s).take k).map up)) (fun i _ => n - (intOf i).toNat)
    case atStart => exact ⟨0, by omega, rfl, Below.refl _ _, rfl⟩
    case round =>
      obtain ⟨k, hk, rfl, hb, HP⟩ := hrel
      by_cases hlt : k < n
      · rcases HS with HS | ⟨b, o, ha, HS⟩
        · have := HN.out
          subst HS
          simp at this
          omega
        · have hkz : k < zs.length := by have := HN.out; omega
          have g0 := HS k hkz
          have g1 := (hb.cell (p := ⟨b, o + k, none⟩) (World.block_lt_of_cell? w _ g0)).trans g0
          have hd0 : 0 ≤ zs.getD k 0 ∧ zs.getD k 0 ≤ 255 := HZ.out _ (by simp [List.getD, hkz])
          generalize hd : zs.getD k 0 = d at g1 hd0
          have Hd : Hid (zs.getD k 0 = d) := hd
          rw [ha]
          have HKZ : Hid (k < zs.length) := hkz
          have hks : k < s.size := by omega
          have hks' : (k : Int) < (s.size : Int) := by omega
          clear hd ha HS g0 hkz HZ
          have hy : (s[k].toNat : Int) ≤ 255 := by have := s[k].toNat_lt; omega
          go_wp2
          go_quiet (fail)
          go_wp2
          all_goals first
            | (go_roundw
               case rel =>
                 refine ⟨k + 1, by omega, by go_num, below_drewN hb _, fold_step HKZ.out (by rw [sb_len]; exact hks) ?_ HP.out⟩
                 rw [Hd.out, sb_at s k hks]
                 go_light
                 unfold up
                 simp only [beq_iff_eq, beq_eq_false_iff_ne, bne_eq_false_iff_eq, ne_eq] at *
                 split <;> split <;> omega
               case measure => simp [intOf]; omega)
            | (go_ret
               refine ⟨below_drewN hb _, ?_⟩
               rw [fold_no HKZ.out (by rw [sb_len]; exact hks) ?_]
               · rfl
               · rw [Hd.out, sb_at s k hks]
                 go_light
                 unfold up
                 simp only [beq_eq_false_iff_ne, bne_iff_ne, bne_eq_false_iff_eq, ne_eq] at *
                 split <;> split <;> omega)
      · have hP := HP.out
        rw [List.take_of_length_le (by have := HN.out; omega), List.take_of_length_le (by rw [sb_len]; have := HL.out; omega)] at hP
        have HP' : Hid _ := hP
        clear hP HP
        go_wp2
        go_ret
        refine ⟨hb, ?_⟩
        rw [decide_eq_true HP'.out]
        rfl
  · have hl' : ((n : Int) != (s.size : Int)) = true := by simp; omega
    have HD : Hid (decide (zs.map up = (sb s).map up) = false) := by
      show _ = _
      rw [decide_eq_false_iff_not]
      intro e
      have := congrArg List.length e
      simp [sb_len, HN.out] at this
      exact hl this
    clear hl
    go_enter Try.func17, Try.ntmps17
    go_wp2
    go_ret
    refine ⟨Below.refl _ _, ?_⟩
    rw [HD.out]
    rfl

end Go.Proofs.Qxb6605425a
