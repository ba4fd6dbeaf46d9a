import Derived.Test.Qxb6605425aFold
namespace Go.Proofs.Qxb6605425a
open Go.RowKit

theorem up16 (d : Int) (w : World) (h0 : 0 ≤ d) (h1 : d ≤ 255) :
    Calls Try.prog 16 #[.int .u8 d] w fun e w' => e = .returned (.int .u8 (up d)) ∧ w = w' := by
  by_cases h : 97 ≤ d ∧ d ≤ 122
  · obtain ⟨ha, hb⟩ := h
    have HU : Hid (up d = d - 32) := by show _ = _; unfold up; rw [if_pos ⟨ha, hb⟩]
    go_enter Try.func16, Try.ntmps16
    go_wp2
    go_ret
    exact ⟨by rw [HU.out]; rfl, rfl⟩
  · have HU : Hid (up d = d) := by show _ = _; unfold up; rw [if_neg h]
    by_cases ha : 97 ≤ d
    · have hb : ¬ d ≤ 122 := by omega
      clear h
      go_enter Try.func16, Try.ntmps16
      go_wp2
      go_ret
      exact ⟨by rw [HU.out]; rfl, rfl⟩
    · clear h
      go_enter Try.func16, Try.ntmps16
      go_wp2
      go_ret
      exact ⟨by rw [HU.out]; rfl, rfl⟩

def UpEnd (us : List Int) (w : World) (e : Ending) (w' : World) : Prop :=
  Below w.heap.size w w' ∧ e = .returned (.string (strOfNums us))

set_option maxHeartbeats 800000 in
theorem upstr13 (a : Option Addr) (c n : Nat) (zs : List Int) (w : World) (hn : zs.length = n) (hs : Seg .u8 w a zs) (hz : ∀ d ∈ zs, 0 ≤ d ∧ d ≤ 255) (hnm : n ≤ 4194304) :
    Calls Try.prog 13 #[.slice a n c] w (UpEnd (zs.map up) w) := by
  obtain ⟨i0, hi, hz0, hz1, hz2⟩ := info_parts Try.info5
  have HS : Hid (Seg .u8 w a zs) := hs
  have HN : Hid (zs.length = n) := hn
  have HZ : Hid (∀ d ∈ zs, 0 ≤ d ∧ d ≤ 255) := hz
  obtain ⟨us, hus⟩ : ∃ us, us = zs.map up := ⟨_, rfl⟩
  have HU : Hid (us = zs.map up) := hus
  have HUN : Hid (us.length = n) := by show _ = _; rw [hus]; simpa using hn
  rw [← hus]
  clear hs hn hz hus
  go_enter Try.func13, Try.ntmps13
  go_wp2_with (at_make; refine wpList_make_full _ rfl _ _ 22 rfl w.heap.size 5 i0 (.int .u8 0) 1 Try.underlying22 hi hz0 hz1 _ _ _ _ n rfl rfl (by omega) (by omega) ?b2 ?b3 (Nat.le_refl _) ?_)
  case b2 => rw [hz2]; omega
  case b3 => unfold maxLen; omega
  intro w0 hown0 hgrow0
  have hb0 : Below w.heap.size w w0 := (Below.refl _ _).grown hgrow0 (Nat.le_refl _) (fun k h => by cases h)
  have hown1 : w0.ownsRow w.heap.size 5 1 (.slice (some ⟨w.heap.size, 0, none⟩) n n) n ((us.take 0 ++ List.replicate (n - 0) 0).map (Value.int .u8)) := by
    rw [toList_madeCells_one] at hown0
    simpa using hown0
  clear hown0 hgrow0
  go_wp2
  go_loopw [4] (fun i wr => ∃ k : Nat, k ≤ n ∧ i = .int .i64 k ∧ wr.ownsRow w.heap.size 5 1 (.slice (some ⟨w.heap.size, 0, none⟩) n n) n ((us.take k ++ List.replicate (n - k) 0).map (Value.int .u8)) ∧ Below w.heap.size w wr) (fun i _ => n - (intOf i).toNat)
  case atStart => exact ⟨0, by omega, rfl, hown1, hb0⟩
  case round =>
    clear hown1 hb0
    obtain ⟨k, hk, rfl, hown, hb⟩ := hrel
    by_cases hlt : k < n
    · rcases HS with HS | ⟨b, o, ha, HS⟩
      · have := HN.out
        subst HS
        simp at this
        omega
      · have hkz : k < zs.length := by have := HN.out; omega
        have g0 := HS k hkz
        have g1 := (hb.cell (p := ⟨b, o + k, none⟩) (World.block_lt_of_cell? w _ g0)).trans g0
        have hd0 : 0 ≤ zs.getD k 0 ∧ zs.getD k 0 ≤ 255 := HZ.out _ (by simp [List.getD, hkz])
        have hu : us.getD k 0 = up (zs.getD k 0) := by rw [HU.out]; simp [List.getD, hkz]
        generalize zs.getD k 0 = d at g1 hd0 hu
        have f1 := hown.frozenAt k
        have ce := (hown.cellAt k (by omega)).trans (cell_step HUN.out hlt)
        have R : Hid ((wr.setCell ⟨w.heap.size, k, none⟩ (.int .u8 (up d))).ownsRow w.heap.size 5 1 (.slice (some ⟨w.heap.size, 0, none⟩) n n) n ((us.take (k + 1) ++ List.replicate (n - (k + 1)) 0).map (Value.int .u8))) := by
          have R := (hown.stored k (.int .u8 (us.getD k 0))).1
          rw [set_step HUN.out hlt, hu] at R
          exact R
        have RB := hb.setCell (p := ⟨w.heap.size, k, none⟩) (Nat.le_refl _) (.int .u8 (up d))
        rw [ha]
        clear HS hown hkz g0 ha hu HU HZ
        go_wp2_with (go_at_call 16; refine (up16 _ _ hd0.1 hd0.2).mono ?_; rintro e w' ⟨rfl, rfl⟩)
        go_roundw
        case rel => exact ⟨k + 1, by omega, by go_num, R.out, RB⟩
        case measure => simp [intOf]; omega
    · have : k = n := by omega
      subst this
      rw [List.take_of_length_le (by have := HUN.out; omega)] at hown
      simp only [Nat.sub_self, List.replicate_zero, List.append_nil] at hown
      have kc : (convert 22 9 (.slice (some ⟨w.heap.size, 0, none⟩) k k)).run Try.prog wr = .ok (.string (strOfNums us)) wr :=
        run_convert_bytes_arg wr 22 5 Try.underlying22 Try.underlying5 w.heap.size 0 k k us HUN.out (by
          intro i hi
          rw [Nat.zero_add, hown.cellAt i (by omega)]
          have : i < us.length := by have := HUN.out; omega
          simp [List.getD, this]) 9 Try.underlying9
      clear hown
      go_wp2
      go_ret
      exact ⟨hb, rfl⟩

end Go.Proofs.Qxb6605425a
