import Derived.Test.Qxb6605440aRune
import Derived.Lib.AppendStr
import Derived.Laws.BytesArg
namespace Go.Proofs.Qxb6605440a
open Go.RowKit

theorem Try.info5 : (Try.prog.info? 5).map (fun i => (i.zero, i.size, i.bytes)) = some (some (.int .u8 0), 1, 1) := by kernel_rfl

theorem zz12_yes (r u : Int) (s : ByteArray) (w : World) (h : s.size ≤ 1048576) :
    Calls Try.prog 12 #[.int .i32 r, .int .u8 u, .string s] w fun e w' => e = .returned (.bool true) ∧ w = w' := by
  go_enter Try.func12, Try.ntmps12
  go_wp2
  go_ret
  exact ⟨rfl, rfl⟩

theorem zz12_no (r u : Int) (s : ByteArray) (w : World) (h : ¬ s.size ≤ 1048576) (hm : s.size ≤ 9223372036854775807) :
    Calls Try.prog 12 #[.int .i32 r, .int .u8 u, .string s] w fun e w' => e = .returned (.bool false) ∧ w = w' := by
  go_enter Try.func12, Try.ntmps12
  go_wp2
  go_ret
  exact ⟨rfl, rfl⟩

/-- The first k digits have been written, each in whatever case. -/
def DigAcc (R k : Nat) (acc : List Int) : Prop :=
  ∃ b0 b1 b2 b3 : Bool, acc = ([92, 117, hexd (R / 4096 % 16) b0, hexd (R / 256 % 16) b1, hexd (R / 16 % 16) b2, hexd (R % 16) b3] : List Int).take (2 + k)

theorem dig_step (R k : Nat) (acc : List Int) (up : Bool) (h : DigAcc R k acc) (hk : k < 4) : DigAcc R (k + 1) (acc ++ [hexd (R / 16 ^ (3 - k) % 16) up]) := by
  obtain ⟨b0, b1, b2, b3, rfl⟩ := h
  have hc : k = 0 ∨ k = 1 ∨ k = 2 ∨ k = 3 := by omega
  rcases hc with rfl | rfl | rfl | rfl
  · exact ⟨up, b1, b2, b3, rfl⟩
  · exact ⟨b0, up, b2, b3, rfl⟩
  · exact ⟨b0, b1, up, b3, rfl⟩
  · exact ⟨b0, b1, b2, up, by simp⟩

theorem hexd_range (q : Nat) (up : Bool) (h : q < 16) : 0 ≤ hexd q up ∧ hexd q up ≤ 255 := by
  unfold hexd
  split
  · omega
  · split <;> omega

theorem strCells_sb (s : ByteArray) : Lib.strCells s = (sb s).map (Value.int .u8) := by
  simp [Lib.strCells, sb]

theorem sb_bytes (s : ByteArray) : ∀ d ∈ sb s, 0 ≤ d ∧ d ≤ 255 := by
  intro d hd
  obtain ⟨b, _, rfl⟩ := List.mem_map.1 hd
  have := b.toNat_lt
  exact ⟨by omega, by omega⟩

theorem sb_strOfNums {zs : List Int} (hz : ∀ d ∈ zs, 0 ≤ d ∧ d ≤ 255) : sb (strOfNums zs) = zs := by
  unfold sb
  rw [strOfNums_data, List.map_map]
  conv => rhs; rw [← List.map_id zs]
  apply List.map_congr_left
  intro d hd
  have := hz d hd
  simp only [Function.comp, id]
  rw [UInt8.toNat_ofNat']
  omega

theorem val_hex (R : Nat) (h : R < 65536) : val [R / 4096 % 16, R / 256 % 16, R / 16 % 16, R % 16] = R := by
  simp [val]
  omega

set_option maxHeartbeats 800000 in
theorem law4 (r u : Int) (s : ByteArray) (w : World) (_hu : 0 ≤ u ∧ u ≤ 255) (hm : s.size ≤ 9223372036854775807) :
    Calls Try.prog 4 #[.int .i32 r, .int .u8 u, .string s] w fun e w' => e = .returned (.bool true) ∧ Below w.heap.size w w' := by
  by_cases h : s.size ≤ 1048576
  · by_cases hr0 : r < 0
    · go_enter Try.func4, Try.ntmps4
      go_wp2_with fail
      refine (zz12_yes _ _ _ _ h).mono ?_
      rintro e w' ⟨rfl, rfl⟩
      go_wp2
      go_ret
      exact ⟨rfl, Below.refl _ _⟩
    · by_cases hr1 : r ≤ 65535
      · obtain ⟨R, hR⟩ : ∃ R : Nat, r = (R : Int) := ⟨r.toNat, by omega⟩
        have HR : Hid (r = (R : Int)) := hR
        have hR1 : R ≤ 65535 := by omega
        clear hR
        obtain ⟨i0, hi, hz0, hz1, hz2⟩ := info_parts Try.info5
        go_enter Try.func4, Try.ntmps4
        go_wp2_with fail
        refine (zz12_yes _ _ _ _ h).mono ?_
        rintro e w' ⟨rfl, rfl⟩
        go_wp2_with (at_make; refine wpList_make_own _ rfl _ _ 30 rfl w.heap.size 5 i0 (.int .u8 0) 1 Try.underlying30 hi hz0 hz1 _ _ _ (6 + s.size) rfl rfl (by omega) ?b2 ?b3 (Nat.le_refl _) ?_)
        case b2 => rw [hz2]; omega
        case b3 => unfold maxLen; omega
        intro w3 hown hgrow
        have hb3 : Below w.heap.size w w3 := (Below.refl _ _).grown hgrow (Nat.le_refl _) (fun k h => by cases h)
        clear hgrow
        have hsz := hb3.size
        go_wp2_with (at_builtin; refine wpList_append_own _ rfl (.tmp 29) (.tmp 30) 30 rfl w.heap.size 5 i0 (.int .u8 0) 1 1 Try.underlying30 hi hz0 hz1 hz2 rfl (by decide) _ 0 [] rfl (hown.alloc _) ⟨w3.heap.size, 0, none⟩ 2 2 [.int .u8 92, .int .u8 117] rfl rfl (cell_two_new _ _ _ _) (by intro u hu; simp at hu; rcases hu with rfl | rfl <;> rfl) (by unfold maxLen; omega) (by omega) (by simp; omega) ?_)
        intro v4 w4 hown4 hgrow4 _
        have hb4 : Below w.heap.size w w4 := (hb3.alloc hb3.size _).grown hgrow4 (by simp; omega) (fun j hj => (hown.lt j hj).1)
        clear hgrow4 hown hb3 hsz
        go_wp2
        go_loopw [7, 8] (fun v i wr => ∃ (k : Nat) (acc : List Int), k ≤ 4 ∧ i = .int .i64 k ∧ Hid (DigAcc R k acc) ∧ acc.length ≤ 2 + k ∧ wr.ownsRow w.heap.size 5 1 v acc.length (acc.map (Value.int .u8)) ∧ Below w.heap.size w wr) (fun _ i _ => 4 - (intOf i).toNat)
        case atStart => exact ⟨0, [92, 117], by omega, rfl, ⟨true, true, true, true, rfl⟩, by simp, by simpa using hown4, hb4⟩
        case round =>
          clear hown4 hb4
          obtain ⟨k, acc, hk, rfl, HA, hacc, hown, hb⟩ := hrel
          by_cases hlt : k < 4
          · have hc : k = 0 ∨ k = 1 ∨ k = 2 ∨ k = 3 := by omega
            rcases hc with rfl | rfl | rfl | rfl
            · go_wp2_with (first
                | (go_at_call 11; refine (hex11 _ (R / 4096) (by rw [HR.out]; omega) (by omega) _ _).mono ?_; rintro e w' ⟨rfl, rfl⟩)
                | (at_builtin; refine wpList_append_one _ w .u8 30 5 i0 1 Try.underlying30 hi hz0 hz1 hz2 (by omega) rfl (.tmp 36) (.tmp 50) rfl w.heap.size _ acc _ rfl rfl hown hb (Nat.le_refl _) (by omega) ?_; intro v5 w5 hown5 hb5))
              go_roundw
              case rel => exact ⟨1, _, by omega, by go_num, dig_step R 0 acc _ HA.out (by omega), by simp; omega, hown5, hb5⟩
              case measure => simp [intOf]
            · go_wp2_with (first
                | (go_at_call 11; refine (hex11 _ (R / 256) (by rw [HR.out]; omega) (by omega) _ _).mono ?_; rintro e w' ⟨rfl, rfl⟩)
                | (at_builtin; refine wpList_append_one _ w .u8 30 5 i0 1 Try.underlying30 hi hz0 hz1 hz2 (by omega) rfl (.tmp 36) (.tmp 50) rfl w.heap.size _ acc _ rfl rfl hown hb (Nat.le_refl _) (by omega) ?_; intro v5 w5 hown5 hb5))
              go_roundw
              case rel => exact ⟨2, _, by omega, by go_num, dig_step R 1 acc _ HA.out (by omega), by simp; omega, hown5, hb5⟩
              case measure => simp [intOf]
            · go_wp2_with (first
                | (go_at_call 11; refine (hex11 _ (R / 16) (by rw [HR.out]; omega) (by omega) _ _).mono ?_; rintro e w' ⟨rfl, rfl⟩)
                | (at_builtin; refine wpList_append_one _ w .u8 30 5 i0 1 Try.underlying30 hi hz0 hz1 hz2 (by omega) rfl (.tmp 36) (.tmp 50) rfl w.heap.size _ acc _ rfl rfl hown hb (Nat.le_refl _) (by omega) ?_; intro v5 w5 hown5 hb5))
              go_roundw
              case rel => exact ⟨3, _, by omega, by go_num, dig_step R 2 acc _ HA.out (by omega), by simp; omega, hown5, hb5⟩
              case measure => simp [intOf]
            · go_wp2_with (first
                | (go_at_call 11; refine (hex11 _ R HR.out (by omega) _ _).mono ?_; rintro e w' ⟨rfl, rfl⟩)
                | (at_builtin; refine wpList_append_one _ w .u8 30 5 i0 1 Try.underlying30 hi hz0 hz1 hz2 (by omega) rfl (.tmp 36) (.tmp 50) rfl w.heap.size _ acc _ rfl rfl hown hb (Nat.le_refl _) (by omega) ?_; intro v5 w5 hown5 hb5))
              go_roundw
              case rel => exact ⟨4, _, by omega, by go_num, (by show DigAcc _ _ _; simpa using dig_step R 3 acc _ HA.out (by omega)), by simp; omega, hown5, hb5⟩
              case measure => simp [intOf]
          · have hk4 : k = 4 := by omega
            have hA := HA.out
            rw [hk4] at hA
            obtain ⟨b0, b1, b2, b3, hacc4⟩ := hA
            have HA4 : Hid (acc = [92, 117, hexd (R / 4096 % 16) b0, hexd (R / 256 % 16) b1, hexd (R / 16 % 16) b2, hexd (R % 16) b3]) := hacc4
            clear hacc4 hk4 HA
            have hsz := hb.size
            go_wp2_with (at_builtin; refine Lib.wpList_append_own_string _ rfl (.tmp 52) (.tmp 53) 30 9 rfl w.heap.size 5 i0 Try.underlying30 Try.underlying9 hi hz0 hz1 hz2 _ _ _ rfl hown s rfl (by unfold maxLen; omega) (by omega) hb.size ?_)
            intro v5 w5 hown5 hgrow5 _
            have hb5 : Below w.heap.size w w5 := hb.grown hgrow5 hb.size (fun j hj => (hown.lt j hj).1)
            obtain ⟨T, hT⟩ : ∃ T, T = acc ++ sb s := ⟨_, rfl⟩
            have hown6 : w5.ownsRow w.heap.size 5 1 v5 (acc.length + s.size) (T.map (Value.int .u8)) := by
              rw [hT, List.map_append, ← strCells_sb]
              exact hown5
            have hTl : T.length = acc.length + s.size := by rw [hT, List.length_append, sb_len]
            have hT2 : T = 92 :: 117 :: hexd (R / 4096 % 16) b0 :: hexd (R / 256 % 16) b1 :: hexd (R / 16 % 16) b2 :: hexd (R % 16) b3 :: sb s := by
              rw [hT, HA4.out]
              rfl
            have hTr : ∀ d ∈ T, 0 ≤ d ∧ d ≤ 255 := by
              intro d hd
              rw [hT2] at hd
              simp only [List.mem_cons] at hd
              rcases hd with rfl | rfl | rfl | rfl | rfl | rfl | hd
              · omega
              · omega
              · exact hexd_range _ _ (Nat.mod_lt _ (by omega))
              · exact hexd_range _ _ (Nat.mod_lt _ (by omega))
              · exact hexd_range _ _ (Nat.mod_lt _ (by omega))
              · exact hexd_range _ _ (Nat.mod_lt _ (by omega))
              · exact sb_bytes s d hd
            obtain ⟨av, cv, rfl, hseg, hcv, hcv'⟩ := owns_seg hown6
            rcases hseg with hseg | ⟨g, o, rfl, hc⟩
            · rw [hT2] at hseg
              cases hseg
            · have kc : (convert 30 9 (.slice (some ⟨g, o, none⟩) (acc.length + s.size) cv)).run Try.prog w5 = .ok (.string (strOfNums T)) w5 :=
                run_convert_bytes_arg w5 30 5 Try.underlying30 Try.underlying5 g o _ cv T hTl (fun i hi => hc i (by omega)) 9 Try.underlying9
              have HS : Hid (sb (strOfNums T) = 92 :: 117 :: hexd (R / 4096 % 16) b0 :: hexd (R / 256 % 16) b1 :: hexd (R / 16 % 16) b2 :: hexd (R % 16) b3 :: sb s) := by
                show _ = _
                rw [sb_strOfNums hTr]
                exact hT2
              have hsz2 : (strOfNums T).size ≤ 4194304 := by rw [strOfNums_size]; omega
              have hsR : R < 65536 := by omega
              clear hown hown5 hown6 hgrow5 hT hT2 hTr hTl hc HA4
              generalize strOfNums T = t at kc HS hsz2
              go_wp2_with fail
              refine (zz8 t r _ (by rw [HR.out, ← val_hex R hsR]; exact rune18 t _ _ _ _ b0 b1 b2 b3 (sb s) _ (Nat.mod_lt _ (by omega)) (Nat.mod_lt _ (by omega)) (Nat.mod_lt _ (by omega)) (Nat.mod_lt _ (by omega)) HS.out hsz2)).mono ?_
              rintro e w6 ⟨hb6, rfl⟩
              have hbf := hb5.trans (hb6.mono hb5.size)
              clear hb5 hb6 kc
              go_wp2
              go_ret
              exact ⟨rfl, hbf⟩
      · go_enter Try.func4, Try.ntmps4
        go_wp2_with fail
        refine (zz12_yes _ _ _ _ h).mono ?_
        rintro e w' ⟨rfl, rfl⟩
        go_wp2
        go_ret
        exact ⟨rfl, Below.refl _ _⟩
  · go_enter Try.func4, Try.ntmps4
    go_wp2_with fail
    refine (zz12_no _ _ _ _ h hm).mono ?_
    rintro e w' ⟨rfl, rfl⟩
    go_wp2
    go_ret
    exact ⟨rfl, Below.refl _ _⟩

end Go.Proofs.Qxb6605440a
