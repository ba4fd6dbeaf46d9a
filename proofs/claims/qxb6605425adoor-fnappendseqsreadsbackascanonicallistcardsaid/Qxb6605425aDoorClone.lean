import Derived.Test.Qxb6605425aDoorRows
import Derived.Test.Qxb6605425aDoorParts
import Derived.WalkKit
import Derived.WalkSmall
import Derived.WalkSpells
namespace Go.Proofs.Qxb6605425aDoor
open Go.RowKit

theorem Tryd.info5 : (Tryd.prog.info? 5).map (fun i => (i.zero, i.size, i.bytes)) = some (some (.int .u8 0), 1, 1) := by kernel_rfl

theorem set_step {k : IntKind} {zs : List Int} {i n : Nat} (hn : zs.length = n) (hi : i < n) :
    (((zs.take i ++ List.replicate (n - i) 0).map (Value.int k)).set i (.int k (zs.getD i 0))) = (zs.take (i + 1) ++ List.replicate (n - (i + 1)) 0).map (Value.int k) := by
  have h : i < zs.length := by omega
  rw [show Value.int k (zs.getD i 0) = (Value.int k) (zs.getD i 0) from rfl, ← List.map_set]
  congr 1
  rw [show n - i = (n - (i + 1)) + 1 by omega, List.replicate_succ]
  rw [List.set_append_right _ _ (by simp [List.length_take]; omega)]
  simp [List.length_take, Nat.min_eq_left (Nat.le_of_lt h), List.getD, h]
  rw [List.take_succ_eq_append_getElem h, List.append_assoc]
  rfl

theorem cell_step {k : IntKind} {zs : List Int} {i n : Nat} (hn : zs.length = n) (hi : i < n) :
    ((zs.take i ++ List.replicate (n - i) 0).map (Value.int k))[i]? = some (.int k 0) := by
  have h : i < zs.length := by omega
  rw [show n - i = (n - (i + 1)) + 1 by omega, List.replicate_succ]
  simp [List.length_take, Nat.min_eq_left (Nat.le_of_lt h)]

/-- How a call ends that hands back the numbers zs in memory of its own, without spare room. -/
def Gives (k : IntKind) (zs : List Int) (n : Nat) (w : World) (e : Ending) (w' : World) : Prop :=
  ∃ a', e = .returned (.slice a' n n) ∧ Seg k w' a' zs ∧ (a' = none → n = 0) ∧ Below w.heap.size w w'

set_option maxHeartbeats 400000 in
theorem clone6 (a : Option Addr) (c n : Nat) (zs : List Int) (w : World) (hn : zs.length = n) (hs : Seg .u8 w a zs) (hnil : a = none → n = 0) (hl : n ≤ 4194304) :
    Calls Tryd.prog 6 #[.slice a n c] w (Gives .u8 zs n w) := by
  have q22 : ∀ (w : World) (a : Option Addr) (n c n' c' : Nat), (binOp .eql 22 (.slice a n c) (.slice none n' c')).run Tryd.prog w = .ok (.bool a.isNone) w := fun w a n c n' c' => Lib.run_eql_slice_nil w _ _ a n c n' c' Tryd.underlying22
  obtain ⟨i0, hi, hz0, hz1, hz2⟩ := info_parts Tryd.info5
  cases a with
  | none =>
    have := hnil rfl
    subst this
    have : zs = [] := List.eq_nil_of_length_eq_zero hn
    subst this
    clear hn
    go_enter Tryd.func6, Tryd.ntmps6
    go_wp2
    go_ret
    exact ⟨_, rfl, Seg.nil, fun _ => rfl, Below.refl _ _⟩
  | some x =>
    clear hnil
    rcases hs with hs | ⟨b, o, hx, hs⟩
    · subst hs
      simp at hn
      subst hn
      go_enter Tryd.func6, Tryd.ntmps6
      go_wp2_with (at_make; refine wpList_make_full _ rfl _ _ 22 rfl w.heap.size 5 i0 (.int .u8 0) 1 Tryd.underlying22 hi hz0 hz1 _ _ _ _ 0 rfl rfl (by omega) (by omega) ?b2 ?b3 (Nat.le_refl _) ?_)
      case b2 => rw [hz2]; omega
      case b3 => unfold maxLen; omega
      intro w0 hown0 hgrow0
      have hb0 : Below w.heap.size w w0 := (Below.refl _ _).grown hgrow0 (Nat.le_refl _) (fun k h => by cases h)
      clear hown0 hgrow0
      go_wp2
      go_loop [4] (fun i => i = .int .i64 0) (fun _ => 0)
      case atStart => exact rfl
      case round =>
        subst hrel
        go_wp2
        go_ret
        exact ⟨_, rfl, Seg.nil, fun _ => rfl, hb0⟩
    · obtain rfl := Option.some.inj hx
      clear hx
      go_enter Tryd.func6, Tryd.ntmps6
      go_wp2_with (at_make; refine wpList_make_full _ rfl _ _ 22 rfl w.heap.size 5 i0 (.int .u8 0) 1 Tryd.underlying22 hi hz0 hz1 _ _ _ _ n rfl rfl (by omega) (by omega) ?b2 ?b3 (Nat.le_refl _) ?_)
      case b2 => rw [hz2]; omega
      case b3 => unfold maxLen; omega
      intro w0 hown0 hgrow0
      have hb0 : Below w.heap.size w w0 := (Below.refl _ _).grown hgrow0 (Nat.le_refl _) (fun k h => by cases h)
      have hown1 : w0.ownsRow w.heap.size 5 1 (.slice (some ⟨w.heap.size, 0, none⟩) n n) n ((zs.take 0 ++ List.replicate (n - 0) 0).map (Value.int .u8)) := by
        rw [toList_madeCells_one] at hown0
        simpa using hown0
      clear hown0 hgrow0
      go_wp2
      go_loopw [4] (fun i wr => ∃ k : Nat, k ≤ n ∧ i = .int .i64 k ∧ wr.ownsRow w.heap.size 5 1 (.slice (some ⟨w.heap.size, 0, none⟩) n n) n ((zs.take k ++ List.replicate (n - k) 0).map (Value.int .u8)) ∧ Below w.heap.size w wr) (fun i _ => n - (intOf i).toNat)
      case atStart => exact ⟨0, by omega, rfl, hown1, hb0⟩
      case round =>
        obtain ⟨k, hk, rfl, hown, hb⟩ := hrel
        by_cases hlt : k < n
        · have g1 := (hb.cell (p := ⟨b, o + k, none⟩) (World.block_lt_of_cell? w _ (hs k (by omega)))).trans (hs k (by omega))
          have f1 := hown.frozenAt k
          have ce := (hown.cellAt k (by omega)).trans (cell_step hn hlt)
          have R : Hid ((wr.setCell ⟨w.heap.size, k, none⟩ (.int .u8 (zs.getD k 0))).ownsRow w.heap.size 5 1 (.slice (some ⟨w.heap.size, 0, none⟩) n n) n ((zs.take (k + 1) ++ List.replicate (n - (k + 1)) 0).map (Value.int .u8))) := by
            have R := (hown.stored k (.int .u8 (zs.getD k 0))).1
            rw [set_step hn hlt] at R
            exact R
          have RB := hb.setCell (p := ⟨w.heap.size, k, none⟩) (Nat.le_refl _) (.int .u8 (zs.getD k 0))
          clear hs hn hown hown1
          go_wp2
          go_roundw
          case rel => exact ⟨k + 1, by omega, by go_num, R.out, RB⟩
          case measure => simp [intOf]; omega
        · go_wp2
          go_ret
          have : k = n := by omega
          subst this
          rw [List.take_of_length_le (by omega)] at hown
          simp only [Nat.sub_self, List.replicate_zero, List.append_nil] at hown
          exact ⟨_, rfl, Seg.of_owns hown, fun h => (by cases h), hb⟩

end Go.Proofs.Qxb6605425aDoor
