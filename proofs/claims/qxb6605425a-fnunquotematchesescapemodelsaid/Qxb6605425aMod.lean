import Derived.Test.Qxb6605425aUnq
namespace Go.Proofs.Qxb6605425a
open Go.RowKit

def ModEnd (r : Option (List Int × List Int)) (zs : List Int) (w : World) (e : Ending) (w' : World) : Prop :=
  Below w.heap.size w w' ∧
  match r with
  | none => e = .returned (.tuple #[.slice none 0 0, .int .i64 0, .bool false])
  | some (x, y) => ∃ (a1 : Option Addr) (n1 c1 j : Nat), e = .returned (.tuple #[.slice a1 n1 c1, .int .i64 j, .bool true]) ∧ x.length = n1 ∧ j < zs.length ∧ y = zs.drop (j + 1) ∧ Seg .u8 w' a1 x

set_option maxHeartbeats 800000 in
theorem mod8 (a : Option Addr) (c n : Nat) (zs : List Int) (w : World) (hn : zs.length = n) (hs : Seg .u8 w a zs) (hnm : n ≤ 4194304) :
    Calls Try.prog 8 #[.slice a n c] w (ModEnd (unqM (zs.drop 1) false []) zs w) := by
  obtain ⟨i0, hi, hz0, hz1, hz2⟩ := info_parts Try.info5
  generalize hr : unqM (zs.drop 1) false [] = r
  have Hr : Hid (unqM (zs.drop 1) false [] = r) := hr
  have HS : Hid (Seg .u8 w a zs) := hs
  have HN : Hid (zs.length = n) := hn
  clear hr hs hn
  go_enter Try.func8, Try.ntmps8
  go_wp2_with (at_make; refine wpList_make_own _ rfl _ _ 22 rfl w.heap.size 5 i0 (.int .u8 0) 1 Try.underlying22 hi hz0 hz1 _ _ _ n rfl rfl (by omega) ?b2 ?b3 (Nat.le_refl _) ?_)
  case b2 => rw [hz2]; omega
  case b3 => unfold maxLen; omega
  intro w0 hown0 hgrow0
  have hb0 : Below w.heap.size w w0 := (Below.refl _ _).grown hgrow0 (Nat.le_refl _) (fun k h => by cases h)
  clear hgrow0
  go_wp2
  go_loopw [5, 6, 7] (fun v s i wr => ∃ (k : Nat) (acc : List Int) (esc : Bool), 1 ≤ k ∧ (k ≤ n ∨ k = 1) ∧ s = .bool esc ∧ i = .int .i64 k ∧ acc.length + 1 ≤ k ∧ wr.ownsRow w.heap.size 5 1 v acc.length (acc.map (Value.int .u8)) ∧ Below w.heap.size w wr ∧ Hid (unqM (zs.drop k) esc acc = r)) (fun _ _ i _ => n - (intOf i).toNat)
  case atStart => exact ⟨1, [], false, by omega, by omega, rfl, rfl, by simp, hown0, hb0, Hr⟩
  case round =>
    clear hown0 hb0 Hr
    obtain ⟨k, acc, esc, hk1, hk, rfl, rfl, hacc, hown, hb, HR⟩ := hrel
    by_cases hlt : k < n
    · rcases HS with HS | ⟨b, o, ha, HS⟩
      · have := HN.out
        subst HS
        simp at this
        omega
      · have hkz : k < zs.length := by have := HN.out; omega
        have g0 := HS k hkz
        have g1 := (hb.cell (p := ⟨b, o + k, none⟩) (World.block_lt_of_cell? w _ g0)).trans g0
        generalize hd : zs.getD k 0 = d at g1
        have Hd : Hid (zs.getD k 0 = d) := hd
        rw [ha]
        have HKZ : Hid (k < zs.length) := hkz
        clear hd ha HS g0 hkz
        cases esc with
        | true =>
          have HR' := HR.out
          rw [unqM_esc HKZ.out, Hd.out] at HR'
          have HR2 : Hid _ := HR'
          clear HR' HR HKZ
          go_wp2_with (at_builtin; refine wpList_append_one _ w .u8 22 5 i0 1 Try.underlying22 hi hz0 hz1 hz2 (by omega) rfl (.tmp 23) (.tmp 25) rfl w.heap.size _ acc d rfl rfl hown hb (Nat.le_refl _) (by omega) ?_; intro v' w1 hown1 hb1)
          go_roundw
          case rel => exact ⟨k + 1, acc ++ [d], false, by omega, by omega, rfl, by go_num, by simp; omega, hown1, hb1, HR2⟩
          case measure => simp [intOf]; omega
        | false =>
          by_cases h34 : d = 34
          · subst h34
            obtain ⟨av, cv, hv, hseg, _, _⟩ := owns_seg hown
            rw [hv]
            clear hown hv
            go_wp2
            go_ret3
            have h1 := HR.out
            rw [unqM_quote HKZ.out Hd.out] at h1
            rw [← h1]
            exact ⟨hb, _, _, _, k, rfl, rfl, HKZ.out, rfl, hseg⟩
          · have h34' : (d == 34) = false := by simp [h34]
            by_cases h92 : d = 92
            · subst h92
              have HR' := HR.out
              rw [unqM_slash HKZ.out Hd.out] at HR'
              have HR2 : Hid _ := HR'
              clear HR' HR h34 HKZ
              go_wp2
              go_roundw
              case rel => exact ⟨k + 1, acc, true, by omega, by omega, rfl, by go_num, by omega, hown, hb, HR2⟩
              case measure => simp [intOf]; omega
            · have h92' : (d == 92) = false := by simp [h92]
              have HR' := HR.out
              rw [unqM_plain HKZ.out (by rw [Hd.out]; exact h34) (by rw [Hd.out]; exact h92), Hd.out] at HR'
              have HR2 : Hid _ := HR'
              clear HR' HR h34 h92 HKZ
              go_wp2_with (at_builtin; refine wpList_append_one _ w .u8 22 5 i0 1 Try.underlying22 hi hz0 hz1 hz2 (by omega) rfl (.tmp 33) (.tmp 35) rfl w.heap.size _ acc d rfl rfl hown hb (Nat.le_refl _) (by omega) ?_; intro v' w1 hown1 hb1)
              go_roundw
              case rel => exact ⟨k + 1, acc ++ [d], false, by omega, by omega, rfl, by go_num, by simp; omega, hown1, hb1, HR2⟩
              case measure => simp [intOf]; omega
    · have hrn : r = none := by
        rw [← HR.out, List.drop_eq_nil_of_le (by have := HN.out; omega), unqM_end]
      subst hrn
      clear HR
      go_wp2
      go_ret3
      exact ⟨hb, rfl⟩

end Go.Proofs.Qxb6605425a
