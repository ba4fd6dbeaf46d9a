import Derived.Test.Qxb6605440aRows
import Derived.Test.Qxb6605440aParts
import Derived.Lib.QuoteBits
import Derived.Laws.BitsAllLaws
import Derived.WalkKit
import Derived.WalkSpells
namespace Go.Proofs.Qxb6605440a
open Go.RowKit

/-- One hexadecimal digit, in either case. -/
def hexd (q : Nat) (up : Bool) : Int := if q < 10 then 48 + q else if up then 55 + q else 87 + q

theorem low_at (q : Nat) (h : q < (⟨#[48, 49, 50, 51, 52, 53, 54, 55, 56, 57, 97, 98, 99, 100, 101, 102]⟩ : ByteArray).size) :
    (((⟨#[48, 49, 50, 51, 52, 53, 54, 55, 56, 57, 97, 98, 99, 100, 101, 102]⟩ : ByteArray)[q]'h).toNat : Int) = hexd q false := by
  have h' : q < 16 := h
  have hc : q = 0 ∨ q = 1 ∨ q = 2 ∨ q = 3 ∨ q = 4 ∨ q = 5 ∨ q = 6 ∨ q = 7 ∨ q = 8 ∨ q = 9 ∨ q = 10 ∨ q = 11 ∨ q = 12 ∨ q = 13 ∨ q = 14 ∨ q = 15 := by omega
  rcases hc with rfl | rfl | rfl | rfl | rfl | rfl | rfl | rfl | rfl | rfl | rfl | rfl | rfl | rfl | rfl | rfl <;> rfl

theorem upp_at (q : Nat) (h : q < (⟨#[48, 49, 50, 51, 52, 53, 54, 55, 56, 57, 65, 66, 67, 68, 69, 70]⟩ : ByteArray).size) :
    (((⟨#[48, 49, 50, 51, 52, 53, 54, 55, 56, 57, 65, 66, 67, 68, 69, 70]⟩ : ByteArray)[q]'h).toNat : Int) = hexd q true := by
  have h' : q < 16 := h
  have hc : q = 0 ∨ q = 1 ∨ q = 2 ∨ q = 3 ∨ q = 4 ∨ q = 5 ∨ q = 6 ∨ q = 7 ∨ q = 8 ∨ q = 9 ∨ q = 10 ∨ q = 11 ∨ q = 12 ∨ q = 13 ∨ q = 14 ∨ q = 15 := by omega
  rcases hc with rfl | rfl | rfl | rfl | rfl | rfl | rfl | rfl | rfl | rfl | rfl | rfl | rfl | rfl | rfl | rfl <;> rfl

theorem ret_int {k : IntKind} {a b : Int} (h : a = b) : Ending.returned (.int k a) = .returned (.int k b) := by rw [h]

set_option maxHeartbeats 400000 in
theorem hex11 (v : Int) (x : Nat) (hv : v = (x : Int)) (hx : x < 2147483648) (up : Bool) (w : World) :
    Calls Try.prog 11 #[.int .i32 v, .bool up] w fun e w' => e = .returned (.int .u8 (hexd (x % 16) up)) ∧ w = w' := by
  have hb : bits .and .i32 v 15 = ((x % 16 : Nat) : Int) := by rw [hv]; exact Lib.and15_i32 x hx
  have hq : x % 16 < 16 := Nat.mod_lt _ (by omega)
  generalize x % 16 = q at hb hq
  clear hv hx
  cases up
  · go_enter Try.func11, Try.ntmps11
    go_wp2
    go_ret
    exact ⟨ret_int (low_at q _), rfl⟩
  · go_enter Try.func11, Try.ntmps11
    go_wp2
    go_ret
    exact ⟨ret_int (upp_at q _), rfl⟩

end Go.Proofs.Qxb6605440a
