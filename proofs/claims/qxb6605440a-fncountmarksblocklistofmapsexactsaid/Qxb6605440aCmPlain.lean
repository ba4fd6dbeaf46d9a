import Derived.Test.Qxb6605440aParts
namespace Go.Proofs.Qxb6605440a
open Go.RowKit

/-- The byte at i, 0 past the end. -/
def ch (T : List Int) (i : Nat) : Int := T.getD i 0

def sepB (c : Int) : Bool := c == 32 || c == 9 || c == 13 || c == 10 || c == 91 || c == 93 || c == 123 || c == 125 || c == 44 || c == 58 || c == 63
def nameB (c : Int) : Bool := !(c == 32 || c == 9 || c == 13 || c == 10 || c == 91 || c == 93 || c == 123 || c == 125 || c == 44)
def blankB (c : Int) : Bool := c == 32 || c == 9

/-- A line break begins at i. -/
def startsB (T : List Int) (i : Nat) : Bool :=
  ch T i == 13 || ch T i == 10 || (ch T i == 194 && ch T (i + 1) == 133) || (ch T i == 226 && ch T (i + 1) == 128 && (ch T (i + 2) == 168 || ch T (i + 2) == 169))

/-- A line break ends at i. -/
def endsB (T : List Int) (i : Nat) : Bool :=
  ch T i == 13 || ch T i == 10 || (ch T i == 133 && decide (1 ≤ i) && ch T (i - 1) == 194) || ((ch T i == 168 || ch T i == 169) && decide (2 ≤ i) && ch T (i - 2) == 226 && ch T (i - 1) == 128)

def endSepB (T : List Int) (i : Nat) : Bool := sepB (ch T i) || endsB T i

/-- A word may begin at i, by what stands before it. -/
def opensB (T : List Int) (i : Nat) : Bool := decide (i = 0) || endSepB T (i - 1)

def blockB (T : List Int) (i : Nat) : Bool :=
  ch T i == 45 && opensB T i && (decide (i + 1 = T.length) || blankB (ch T (i + 1)) || startsB T (i + 1))

/-- The first index from i on that holds no blank, or the length. -/
def skipTo (T : List Int) (i : Nat) : Nat := i + ((T.drop i).takeWhile blankB).length

def valB (T : List Int) (i : Nat) : Bool :=
  !(decide (skipTo T (i + 1) = T.length) || startsB T (skipTo T (i + 1))) && !(ch T (skipTo T (i + 1)) == 44 || ch T (skipTo T (i + 1)) == 93 || ch T (skipTo T (i + 1)) == 125 || ch T (skipTo T (i + 1)) == 58 || ch T (skipTo T (i + 1)) == 63)

def colonN (T : List Int) (i : Nat) (lists owed : Bool) : Nat := (if valB T i then 0 else 1) + (if lists then 1 else 0) + (if owed then 1 else 0)

theorem ch_past {T : List Int} {i : Nat} (h : T.length ≤ i) : ch T i = 0 := by
  unfold ch
  rw [List.getD, List.getElem?_eq_none h]
  rfl

theorem skip_le {T : List Int} {i : Nat} (h : i ≤ T.length) : i ≤ skipTo T i ∧ skipTo T i ≤ T.length := by
  unfold skipTo
  have := (List.takeWhile_sublist (p := blankB) (l := T.drop i)).length_le
  rw [List.length_drop] at this
  omega

theorem skip_step {T : List Int} {i : Nat} (h : i < T.length) (hb : blankB (ch T i) = true) : skipTo T i = skipTo T (i + 1) := by
  unfold skipTo
  rw [List.drop_eq_getElem_cons h, List.takeWhile_cons]
  have e : ch T i = T[i] := by simp [ch, List.getD, h]
  rw [e] at hb
  rw [if_pos hb, List.length_cons]
  omega

theorem skip_stop {T : List Int} {i : Nat} (h : i < T.length) (hb : blankB (ch T i) = false) : skipTo T i = i := by
  unfold skipTo
  rw [List.drop_eq_getElem_cons h, List.takeWhile_cons]
  have e : ch T i = T[i] := by simp [ch, List.getD, h]
  rw [e] at hb
  rw [if_neg (by simp [hb])]
  simp

theorem skip_end {T : List Int} {i : Nat} (h : i = T.length) : skipTo T i = i := by
  unfold skipTo
  rw [List.drop_eq_nil_of_le (by omega)]
  simp

/-- The text lies in memory, a byte a cell. -/
def Txt (w : World) (b o : Nat) (T : List Int) : Prop := ∀ i, i < T.length → w.cell? ⟨b, o + i, none⟩ = some (.int .u8 (ch T i))

theorem ret_bool {a b : Bool} (h : a = b) : Ending.returned (.bool a) = .returned (.bool b) := by rw [h]

end Go.Proofs.Qxb6605440a
