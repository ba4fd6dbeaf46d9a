import Derived.Test.Qxb6605425aUp
import Derived.Lib.ConvBytes
namespace Go.Proofs.Qxb6605425a
open Go.RowKit

theorem zz12_yes (a0 : Option Addr) (n0 c0 : Nat) (s : ByteArray) (w : World) (h : n0 + s.size ≤ 1048576) :
    Calls Try.prog 12 #[.slice a0 n0 c0, .string s] w fun e w' => e = .returned (.bool true) ∧ w = w' := by
  go_enter Try.func12, Try.ntmps12
  go_wp2
  go_ret
  exact ⟨rfl, rfl⟩

theorem zz12_no (a0 : Option Addr) (n0 c0 : Nat) (s : ByteArray) (w : World) (h : ¬ n0 + s.size ≤ 1048576) (hm0 : n0 ≤ 9223372036854775807) (hm1 : s.size ≤ 9223372036854775807) :
    Calls Try.prog 12 #[.slice a0 n0 c0, .string s] w fun e w' => e = .returned (.bool false) ∧ w = w' := by
  by_cases h1 : n0 ≤ 1048576
  · by_cases h2 : s.size ≤ 1048576
    · go_enter Try.func12, Try.ntmps12
      go_wp2
      go_ret
      exact ⟨rfl, rfl⟩
    · go_enter Try.func12, Try.ntmps12
      go_wp2
      go_ret
      exact ⟨rfl, rfl⟩
  · go_enter Try.func12, Try.ntmps12
    go_wp2
    go_ret
    exact ⟨rfl, rfl⟩

theorem zz14 (a : Option Addr) (c n : Nat) (zs : List Int) (s : ByteArray) (w : World) (hn : zs.length = n) (hs : Seg .u8 w a zs) (hz : ∀ d ∈ zs, 0 ≤ d ∧ d ≤ 255) (hnm : n ≤ 4194304) (hsm : s.size ≤ 4194304) :
    Calls Try.prog 14 #[.slice a n c, .string s] w (FoldEnd zs (sb s) w) := by
  have HN : Hid _ := hn
  have HZ : Hid _ := hz
  clear hn hz
  go_enter Try.func14, Try.ntmps14
  go_wp2_with fail
  refine (fold17 a c n zs s w HN.out hs HZ.out hnm hsm).mono ?_
  rintro e w' ⟨hb, rfl⟩
  go_wp2
  go_ret
  exact ⟨hb, rfl⟩

theorem bytes_below (w : World) (e : TypeId) (s : ByteArray) : Below w.heap.size w (Lib.bytesWorld w e s) :=
  ⟨rfl, rfl, rfl, by rw [Lib.bytesWorld_size]; omega, fun k hk => Lib.bytesWorld_at_old w e s k hk⟩

theorem bytes_seg (w : World) (e : TypeId) (s : ByteArray) : Seg .u8 (Lib.bytesWorld w e s) (some ⟨w.heap.size, 0, none⟩) (sb s) := by
  refine .inr ⟨w.heap.size, 0, rfl, fun i hi => ?_⟩
  rw [sb_len] at hi
  rw [Nat.zero_add, Lib.bytesWorld_cell w e s i hi]
  have h' : i < s.data.toList.length := hi
  simp [sb, List.getD, List.getElem?_map, List.getElem?_eq_getElem h']

theorem sb_bytes (s : ByteArray) : ∀ d ∈ sb s, 0 ≤ d ∧ d ≤ 255 := by
  intro d hd
  obtain ⟨b, _, rfl⟩ := List.mem_map.1 hd
  have := b.toNat_lt
  exact ⟨by omega, by omega⟩

theorem up_bytes {zs : List Int} (h : ∀ d ∈ zs, 0 ≤ d ∧ d ≤ 255) : ∀ d ∈ zs.map up, 0 ≤ d ∧ d ≤ 255 := by
  intro d hd
  obtain ⟨b, hb, rfl⟩ := List.mem_map.1 hd
  have := h b hb
  unfold up
  split <;> omega

theorem strOfNums_inj {xs ys : List Int} (hx : ∀ d ∈ xs, 0 ≤ d ∧ d ≤ 255) (hy : ∀ d ∈ ys, 0 ≤ d ∧ d ≤ 255) (h : strOfNums xs = strOfNums ys) : xs = ys := by
  have e := congrArg (fun s : ByteArray => s.data.toList) h
  simp only [strOfNums_data] at e
  have g : ∀ (zs : List Int), (∀ d ∈ zs, 0 ≤ d ∧ d ≤ 255) → (zs.map fun n => UInt8.ofNat n.toNat).map (fun b => (b.toNat : Int)) = zs := by
    intro zs hz
    rw [List.map_map]
    conv => rhs; rw [← List.map_id zs]
    apply List.map_congr_left
    intro d hd
    have := hz d hd
    simp only [Function.comp, id]
    rw [UInt8.toNat_ofNat']
    omega
  rw [← g xs hx, e, g ys hy]

set_option maxHeartbeats 800000 in
theorem law5 (a0 : Option Addr) (n0 c0 : Nat) (z0 : List Int) (s : ByteArray) (w : World) (hn0 : z0.length = n0) (hs0 : Seg .u8 w a0 z0) (hz : ∀ d ∈ z0, 0 ≤ d ∧ d ≤ 255)
    (hnil0 : a0 = none → n0 = 0) (hm0 : n0 ≤ 9223372036854775807) (hm1 : s.size ≤ 9223372036854775807) :
    Calls Try.prog 5 #[.slice a0 n0 c0, .string s] w fun e w' => e = .returned (.bool true) ∧ Below w.heap.size w w' := by
  by_cases h : n0 + s.size ≤ 1048576
  · by_cases h0 : n0 ≤ 524288
    · by_cases h1 : s.size ≤ 524288
      · have HS0 : Hid _ := hs0
        have HN0 : Hid _ := hn0
        have HA0 : Hid _ := hnil0
        have HZ : Hid _ := hz
        have kb : ∀ w : World, (convert 9 22 (.string s)).run Try.prog w = .ok (.slice (some ⟨w.heap.size, 0, none⟩) s.size (grownCap w s.size 0 5)) (Lib.bytesWorld w 5 s) := fun w => Lib.run_convert_string_bytes w 9 22 5 s Try.underlying9 Try.underlying22 Try.underlying5
        clear hs0 hn0 hnil0 hz
        go_enter Try.func5, Try.ntmps5
        go_wp2_with fail
        refine (zz12_yes _ _ _ _ _ h).mono ?_
        rintro e w' ⟨rfl, rfl⟩
        go_wp2_with fail
        refine (clone7 _ _ _ z0 _ HN0.out HS0.out HA0.out (by omega)).mono ?_
        rintro e w1 ⟨a0', c0', rfl, hs0, hc0, hc0', hb1⟩
        clear HS0 HA0
        go_wp2_with fail
        refine (upstr13 _ _ _ z0 _ HN0.out hs0 HZ.out (by omega)).mono ?_
        rintro e w2 ⟨hb2, rfl⟩
        have hs0' := hs0.below hb2 (Nat.le_refl _)
        have hb := hb1.trans (hb2.mono hb1.size)
        clear hs0 hb1 hb2
        go_wp2_with fail
        refine (upstr13 _ _ _ (sb s) _ (sb_len s) (bytes_seg _ _ _) (sb_bytes s) (by omega)).mono ?_
        rintro e w3 ⟨hb3, rfl⟩
        have hb4 := (bytes_below w2 5 s).trans (hb3.mono (bytes_below w2 5 s).size)
        have hs0'' := hs0'.below hb4 (Nat.le_refl _)
        have hb5 := hb.trans (hb4.mono hb.size)
        clear hs0' hb hb3 hb4 kb
        by_cases hq : z0.map up = (sb s).map up
        · rw [hq]
          have HD : Hid (decide (z0.map up = (sb s).map up) = true) := decide_eq_true hq
          clear hq
          go_wp2_with fail
          refine (zz14 _ _ _ z0 _ _ HN0.out hs0'' HZ.out (by omega) (by omega)).mono ?_
          rintro e w6 ⟨hb6, he⟩
          rw [HD.out] at he
          subst he
          have hbf := hb5.trans (hb6.mono hb5.size)
          clear hb5 hb6
          go_wp2
          go_ret
          exact ⟨rfl, hbf⟩
        · have hne : strOfNums (z0.map up) ≠ strOfNums ((sb s).map up) := fun e => hq (strOfNums_inj (up_bytes HZ.out) (up_bytes (sb_bytes s)) e)
          have HD : Hid (decide (z0.map up = (sb s).map up) = false) := decide_eq_false hq
          generalize strOfNums (z0.map up) = t1 at hne ⊢
          generalize strOfNums ((sb s).map up) = t2 at hne ⊢
          have hnl : (t1.toList == t2.toList) = false := by
            rw [beq_eq_false_iff_ne]
            intro e
            rw [ByteArray.toList_eq, ByteArray.toList_eq] at e
            exact hne (ByteArray.ext (Array.toList_inj.1 e))
          clear hq hne
          go_wp2_with fail
          refine (zz14 _ _ _ z0 _ _ HN0.out hs0'' HZ.out (by omega) (by omega)).mono ?_
          rintro e w6 ⟨hb6, he⟩
          rw [HD.out] at he
          subst he
          have hbf := hb5.trans (hb6.mono hb5.size)
          clear hb5 hb6
          go_wp2
          go_ret
          exact ⟨rfl, hbf⟩
      · go_enter Try.func5, Try.ntmps5
        go_wp2_with fail
        refine (zz12_yes _ _ _ _ _ h).mono ?_
        rintro e w' ⟨rfl, rfl⟩
        go_wp2
        go_ret
        exact ⟨rfl, Below.refl _ _⟩
    · go_enter Try.func5, Try.ntmps5
      go_wp2_with fail
      refine (zz12_yes _ _ _ _ _ h).mono ?_
      rintro e w' ⟨rfl, rfl⟩
      go_wp2
      go_ret
      exact ⟨rfl, Below.refl _ _⟩
  · go_enter Try.func5, Try.ntmps5
    go_wp2_with fail
    refine (zz12_no _ _ _ _ _ h hm0 hm1).mono ?_
    rintro e w' ⟨rfl, rfl⟩
    go_wp2
    go_ret
    exact ⟨rfl, Below.refl _ _⟩

end Go.Proofs.Qxb6605425a
