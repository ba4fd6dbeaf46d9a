import Derived.Test.Qxb6605425aDoorRows
import Derived.Test.Qxb6605425aDoorParts
import Derived.WalkKit
import Derived.Deep.QuietTactic
import Derived.BigQuiet
import Derived.WalkSmall
namespace Go.Proofs.Qxb6605425aDoor
open Go.RowKit

set_option maxHeartbeats 400000 in
theorem same9 (a1 a2 : Option Addr) (c1 c2 n : Nat) (zs : List Int) (w : World) (hn : zs.length = n) (h1 : Seg .u8 w a1 zs) (h2 : Seg .u8 w a2 zs) (hl : n ≤ 4194304) :
    Calls Tryd.prog 9 #[.slice a1 n c1, .slice a2 n c2] w fun e w' => e = .returned (.bool true) ∧ Below w.heap.size w w' := by
  rcases h1 with h1 | ⟨b1, o1, rfl, h1⟩
  · subst h1
    simp at hn
    subst hn
    go_enter Tryd.func9, Tryd.ntmps9
    go_wp2
    go_loopw [5] (fun i wr => i = .int .i64 0 ∧ Below w.heap.size w wr) (fun _ _ => 0)
    case atStart => exact ⟨rfl, Below.refl _ _⟩
    case round =>
      obtain ⟨rfl, hb⟩ := hrel
      go_wp2
      go_ret
      exact ⟨rfl, hb⟩
  · rcases h2 with h2 | ⟨b2, o2, rfl, h2⟩
    · subst h2
      simp at hn
      subst hn
      go_enter Tryd.func9, Tryd.ntmps9
      go_wp2
      go_loopw [5] (fun i wr => i = .int .i64 0 ∧ Below w.heap.size w wr) (fun _ _ => 0)
      case atStart => exact ⟨rfl, Below.refl _ _⟩
      case round =>
        obtain ⟨rfl, hb⟩ := hrel
        go_wp2
        go_ret
        exact ⟨rfl, hb⟩
    · subst hn
      go_enter Tryd.func9, Tryd.ntmps9
      go_wp2
      go_loopw [5] (fun i wr => ∃ k : Nat, k ≤ zs.length ∧ i = .int .i64 k ∧ Below w.heap.size w wr) (fun i _ => zs.length - (intOf i).toNat)
      case atStart => exact ⟨0, by omega, rfl, Below.refl _ _⟩
      case round =>
        obtain ⟨k, hk, rfl, hb⟩ := hrel
        by_cases hlt : k < zs.length
        · have g1 := (hb.cell (p := ⟨b1, o1 + k, none⟩) (World.block_lt_of_cell? w _ (h1 k hlt))).trans (h1 k hlt)
          have g2 := (hb.cell (p := ⟨b2, o2 + k, none⟩) (World.block_lt_of_cell? w _ (h2 k hlt))).trans (h2 k hlt)
          clear h1 h2
          go_wp2
          go_quiet (fail)
          go_wp2
          go_roundw
          case rel => exact ⟨k + 1, by omega, by go_num, below_drewN hb _⟩
          case measure => simp [intOf]; omega
        · go_wp2
          go_ret
          exact ⟨rfl, hb⟩

end Go.Proofs.Qxb6605425aDoor
