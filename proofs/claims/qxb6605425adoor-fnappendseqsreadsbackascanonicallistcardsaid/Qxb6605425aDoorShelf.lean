/-
  The shelf's contract on internal/strconv.AppendUint at base 10, laid at this dump in plain words (written by the kit's lay-shelf and lay-plain tools for this program; cut to the one laying that is used, its names turned), and strconv.AppendUint over it.
-/
import Derived.Shelf.LaysM
import Derived.Shelf.Strconv.AppendInt10
import Derived.Test.Qxb6605425aDoorRows
import Derived.WalkKit
namespace Go.Proofs.Qxb6605425aDoor
open Go.Shelf Go.RowKit

def laysM288_ren : Go.Shelf.Ren := ⟨fun | 288 => 15 | 283 => 16 | 284 => 17 | 285 => 18 | 286 => 19 | 129 => 21 | 317 => 20 | 318 => 22 | 319 => 23 | 320 => 24 | 337 => 25 | 338 => 26 | n => n, fun | 37 => 22 | 53 => 31 | 3 => 3 | 4 => 4 | 9 => 9 | 171 => 34 | 0 => 0 | 173 => 36 | 212 => 40 | 51 => 41 | 5 => 5 | 20 => 20 | 213 => 42 | 46 => 44 | 232 => 47 | 233 => 48 | n => n, fun | 17 => 0 | 18 => 1 | 19 => 2 | n => n⟩
theorem laysM288 : Go.Proofs.LaysM.n288 Tryd.prog laysM288_ren := {
  mixed := by kernel_rfl
  f129 := Tryd.func21.trans (congrArg some (by kernel_rfl))
  f283 := Tryd.func16.trans (congrArg some (by kernel_rfl))
  f284 := Tryd.func17.trans (congrArg some (by kernel_rfl))
  f285 := Tryd.func18.trans (congrArg some (by kernel_rfl))
  f286 := Tryd.func19.trans (congrArg some (by kernel_rfl))
  f288 := Tryd.func15.trans (congrArg some (by kernel_rfl))
  f317 := Tryd.func20.trans (congrArg some (by kernel_rfl))
  f318 := Tryd.func22.trans (congrArg some (by kernel_rfl))
  f319 := Tryd.func23.trans (congrArg some (by kernel_rfl))
  f320 := Tryd.func24.trans (congrArg some (by kernel_rfl))
  f337 := Tryd.func25.trans (congrArg some (by kernel_rfl))
  f338 := Tryd.func26.trans (congrArg some (by kernel_rfl))
  t0 := Tryd.underlying0
  a0 := Tryd.isAgg0
  z0 := Tryd.sizeOf0
  v0 := Tryd.zeroValue0
  t3 := Tryd.underlying3
  a3 := Tryd.isAgg3
  z3 := Tryd.sizeOf3
  v3 := Tryd.zeroValue3
  t4 := Tryd.underlying4
  a4 := Tryd.isAgg4
  z4 := Tryd.sizeOf4
  v4 := Tryd.zeroValue4
  t5 := Tryd.underlying5
  a5 := Tryd.isAgg5
  z5 := Tryd.sizeOf5
  v5 := Tryd.zeroValue5
  t9 := Tryd.underlying9
  a9 := Tryd.isAgg9
  z9 := Tryd.sizeOf9
  v9 := Tryd.zeroValue9
  t20 := Tryd.underlying20
  a20 := Tryd.isAgg20
  z20 := Tryd.sizeOf20
  v20 := Tryd.zeroValue20
  t37 := Tryd.underlying22
  a37 := Tryd.isAgg22
  z37 := Tryd.sizeOf22
  v37 := Tryd.zeroValue22
  t46 := Tryd.underlying44
  a46 := Tryd.isAgg44
  z46 := Tryd.sizeOf44
  v46 := Tryd.zeroValue44
  t51 := Tryd.underlying41
  a51 := Tryd.isAgg41
  z51 := Tryd.sizeOf41
  v51 := Tryd.zeroValue41
  t53 := Tryd.underlying31
  a53 := Tryd.isAgg31
  z53 := Tryd.sizeOf31
  v53 := Tryd.zeroValue31
  t171 := Tryd.underlying34
  a171 := Tryd.isAgg34
  z171 := Tryd.sizeOf34
  v171 := Tryd.zeroValue34
  t173 := Tryd.underlying36
  a173 := Tryd.isAgg36
  z173 := Tryd.sizeOf36
  v173 := Tryd.zeroValue36
  t212 := Tryd.underlying40
  a212 := Tryd.isAgg40
  z212 := Tryd.sizeOf40
  v212 := Tryd.zeroValue40
  t213 := Tryd.underlying42
  a213 := Tryd.isAgg42
  z213 := Tryd.sizeOf42
  t232 := Tryd.underlying47
  a232 := Tryd.isAgg47
  z232 := Tryd.sizeOf47
  v232 := Tryd.zeroValue47
  t233 := Tryd.underlying48
  a233 := Tryd.isAgg48
  z233 := Tryd.sizeOf48
  v233 := Tryd.zeroValue48
  g17 := by kernel_rfl
  g18 := by kernel_rfl
  g19 := by kernel_rfl
  i0 := by kernel_rfl
  i3 := by kernel_rfl
  i4 := by kernel_rfl
  i5 := by kernel_rfl
  i9 := by kernel_rfl
  i20 := by kernel_rfl
  i37 := by kernel_rfl
  i46 := by kernel_rfl
  i51 := by kernel_rfl
  i53 := by kernel_rfl
  i171 := by kernel_rfl
  i173 := by kernel_rfl
  i212 := by kernel_rfl
  i232 := by kernel_rfl
  i233 := by kernel_rfl
  m17 := by kernel_rfl
  m18 := by kernel_rfl
  m19 := by kernel_rfl }

/-- The name of the third listed variable, as the row bears it. -/
def powName : String := (Rows.fnAppendSeqsLengthIsClosedFormRow.laid.map (fun x => x.1)).getD 2 ""

theorem app15 (B n u : Nat) (hu64 : u < 18446744073709551616) (sv : Value) (xs : List Value) (w : World) (hown : w.ownsRow B 5 1 sv n xs) (hBw : B ≤ w.heap.size) (hlim : n + 20 ≤ 140737488355328) (htab : Lib.TabIs Tryd.prog w powName .u64 Lib.pow10Tab) :
    Calls Tryd.prog 15 #[sv, .int .u64 u, .int .i64 10] w fun e w' => ∃ v', e = .returned v' ∧ w'.ownsRow B 5 1 v' (n + (Lib.decDigits u).length) (xs ++ Lib.byteCells (Lib.decDigits u)) ∧ Below B w w' ∧ Lib.OthersKept 5 none w w' :=
  Any.internal_strconv_AppendUint_10 laysM288 B n u hu64 sv xs w hown hBw hlim htab

def AppEnd (B n : Nat) (xs : List Value) (ds : List UInt8) (w : World) (e : Ending) (w' : World) : Prop :=
  ∃ v', e = .returned v' ∧ w'.ownsRow B 5 1 v' (n + ds.length) (xs ++ Lib.byteCells ds) ∧ Below B w w'

theorem app14 (B n u : Nat) (z : Int) (hz : z = (u : Int)) (hu64 : u < 18446744073709551616) (sv : Value) (xs : List Value) (w : World) (hown : w.ownsRow B 5 1 sv n xs) (hBw : B ≤ w.heap.size) (hlim : n + 20 ≤ 140737488355328) (htab : Lib.TabIs Tryd.prog w powName .u64 Lib.pow10Tab) :
    Calls Tryd.prog 14 #[sv, .int .u64 z, .int .i64 10] w (AppEnd B n xs (Lib.decDigits u) w) := by
  have HZ : Hid (z = (u : Int)) := hz
  have HT : Hid (Lib.TabIs Tryd.prog w powName .u64 Lib.pow10Tab) := htab
  have HU : Hid (u < 18446744073709551616) := hu64
  clear hz htab hu64
  go_enter Tryd.func14, Tryd.ntmps14
  go_wp2_with fail
  rw [HZ.out]
  refine (app15 B n u HU.out sv xs w hown hBw hlim HT.out).mono ?_
  rintro e w' ⟨v', rfl, h1, h2, _⟩
  go_wp2
  go_ret
  exact ⟨v', rfl, h1, h2⟩

end Go.Proofs.Qxb6605425aDoor
