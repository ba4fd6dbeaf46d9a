import Derived.Test.Qxb6605440aRows
import Derived.Test.Qxb6605440aCmPlain
import Derived.WalkKit
import Derived.WalkSpells
namespace Go.Proofs.Qxb6605440a
open Go.RowKit

theorem sep24 (c : Int) (w : World) : Calls Try.prog 24 #[.int .u8 c] w fun e w' => e = .returned (.bool (sepB c)) ∧ w = w' := by
  go_enter Try.func24, Try.ntmps24
  go_wp2
  all_goals
    go_ret
    exact ⟨ret_bool (by simp only [sepB]; simp [*]), rfl⟩

theorem sep21 (c : Int) (w : World) : Calls Try.prog 21 #[.int .u8 c] w fun e w' => e = .returned (.bool (sepB c)) ∧ w = w' := by
  go_enter Try.func21, Try.ntmps21
  go_wp2
  all_goals
    go_ret
    exact ⟨ret_bool (by simp only [sepB]; simp [*]), rfl⟩

theorem name28 (c : Int) (w : World) : Calls Try.prog 28 #[.int .u8 c] w fun e w' => e = .returned (.bool (nameB c)) ∧ w = w' := by
  go_enter Try.func28, Try.ntmps28
  go_wp2
  all_goals
    go_ret
    exact ⟨ret_bool (by simp only [nameB]; simp [*]), rfl⟩

theorem name22 (c : Int) (w : World) : Calls Try.prog 22 #[.int .u8 c] w fun e w' => e = .returned (.bool (nameB c)) ∧ w = w' := by
  go_enter Try.func22, Try.ntmps22
  go_wp2
  all_goals
    go_ret
    exact ⟨ret_bool (by simp only [nameB]; simp [*]), rfl⟩

theorem blank32 (c : Int) (w : World) : Calls Try.prog 32 #[.int .u8 c] w fun e w' => e = .returned (.bool (blankB c)) ∧ w = w' := by
  by_cases h : (c == 32) = true
  · go_enter Try.func32, Try.ntmps32
    go_wp2
    go_ret
    exact ⟨ret_bool (by simp [blankB, h]), rfl⟩
  · have h' : (c == 32) = false := by simpa using h
    go_enter Try.func32, Try.ntmps32
    go_wp2
    go_ret
    exact ⟨ret_bool (by simp [blankB, h']), rfl⟩

end Go.Proofs.Qxb6605440a
