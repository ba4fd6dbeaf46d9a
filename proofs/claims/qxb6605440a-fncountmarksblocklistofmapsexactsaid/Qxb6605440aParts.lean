import Derived.WalkKit
import Derived.Maps.AppendAt
import Derived.WalkSpells
import Derived.OpenShut
namespace Go.Proofs.Qxb6605440a
open Go.RowKit

/-- The address leads to the numbers zs (of kind k), each in a cell of its own. -/
def Seg (k : IntKind) (w : World) (a : Option Addr) (zs : List Int) : Prop :=
  zs = [] ∨ ∃ b off, a = some ⟨b, off, none⟩ ∧ ∀ i, i < zs.length → w.cell? ⟨b, off + i, none⟩ = some (.int k (zs.getD i 0))

theorem Seg.below {k : IntKind} {w w' : World} {a : Option Addr} {zs : List Int} (h : Seg k w a zs) {B : Nat} (hb : Below B w w') (hB : w.heap.size ≤ B) : Seg k w' a zs := by
  rcases h with h | ⟨b, off, h, hc⟩
  · exact .inl h
  · refine .inr ⟨b, off, h, fun i hi => ?_⟩
    have h1 := hc i hi
    rw [hb.cell (Nat.lt_of_lt_of_le (World.block_lt_of_cell? w _ h1) hB)]
    exact h1

theorem Seg.of_owns {w : World} {base : Nat} {e : TypeId} {k : IntKind} {g n cap : Nat} {zs : List Int}
    (h : w.ownsRow base e 1 (.slice (some ⟨g, 0, none⟩) n cap) n (zs.map (Value.int k))) : Seg k w (some ⟨g, 0, none⟩) zs := by
  refine .inr ⟨g, 0, rfl, fun i hi => ?_⟩
  have hl := h.1
  simp only [List.length_map] at hl
  have := h.cellAt i (by omega)
  rw [Nat.zero_add, this]
  simp [hi, List.getD]

theorem Seg.nil {k : IntKind} {w : World} {a : Option Addr} : Seg k w a [] := .inl rfl

/-- What a cut of a slice leads to. -/
theorem Seg.mid {k : IntKind} {w : World} {b off i : Nat} {zs : List Int} (h : ∀ i, i < zs.length → w.cell? ⟨b, off + i, none⟩ = some (.int k (zs.getD i 0))) (hi : i ≤ zs.length) {m : Nat} :
    Seg k w (some ⟨b, off + m, none⟩) ((zs.take i).drop m) := by
  refine .inr ⟨b, off + m, rfl, fun j hj => ?_⟩
  simp only [List.length_drop, List.length_take] at hj
  rw [Nat.add_assoc, h (m + j) (by omega)]
  simp [List.getD, show m + j < i by omega]

theorem Seg.tail {k : IntKind} {w : World} {b off c i : Nat} {a : Option Addr} {zs : List Int} (h : ∀ i, i < zs.length → w.cell? ⟨b, off + i, none⟩ = some (.int k (zs.getD i 0))) (hc : zs.length ≤ c) (ha : c ≠ i → a = some ⟨b, off + i, none⟩) :
    Seg k w a (zs.drop i) := by
  by_cases e : zs.length ≤ i
  · left; exact List.drop_eq_nil_of_le e
  · rw [ha (by omega)]
    refine .inr ⟨b, off + i, rfl, fun j hj => ?_⟩
    simp only [List.length_drop] at hj
    rw [Nat.add_assoc, h (i + j) (by omega)]
    simp [List.getD]

theorem owns_seg {w : World} {base : Nat} {e : TypeId} {k : IntKind} {v : Value} {n : Nat} {zs : List Int} (h : w.ownsRow base e 1 v n (zs.map (Value.int k))) :
    ∃ a c, v = .slice a n c ∧ Seg k w a zs ∧ n ≤ c ∧ c ≤ 9223372036854775807 := by
  have hl := h.1
  simp only [List.length_map] at hl
  rcases h.2 with ⟨hv, hn⟩ | ⟨g, cap, cur, hv, _, _, h1, h2, _⟩
  · subst hn
    exact ⟨_, _, hv, .inl (List.eq_nil_of_length_eq_zero (by omega)), by omega, by omega⟩
  · subst hv
    exact ⟨_, _, rfl, Seg.of_owns h, h1, by unfold maxLen at h2; omega⟩

/-- 'out = append(out, x)', one number: what is owned behind it, and that old memory stands. -/
theorem wpList_append_one {P : Program} (w w0 : World) {ops : Array Oper} {rest : List Oper} {o : Oper} {a : Act} {Q : Exit → Act → World → Prop}
    (k : IntKind) (t e : TypeId) (i : TypeInfo) (bytes : Nat) (ht : P.underlying t = some (.slice e)) (hi : P.info? e = some i) (hz : i.zero = some (.int k 0)) (hsize : i.size = 1) (hby : i.bytes = bytes) (hb8 : bytes ≤ 8)
    (hg : o.guard = none) (s x : Operand) (hop : o.op = Op.call { callee := Callee.builtin Builtin.append, args := #[s, x], argTypes := #[t, t] })
    (base : Nat) (v : Value) (acc : List Int) (d : Int) (hs : a.eval s = v) (hx : a.eval x = .slice (some ⟨w.heap.size, 0, none⟩) 1 1)
    (hown : w.ownsRow base e 1 v acc.length (acc.map (Value.int k))) (hbel : Below base w0 w) (hbase : base ≤ w0.heap.size) (hlen : acc.length ≤ 16777216)
    (h : ∀ v' w', w'.ownsRow base e 1 v' (acc ++ [d]).length ((acc ++ [d]).map (Value.int k)) → Below base w0 w' → wpList P ops Q rest (a.put o.dst v') w') :
    wpList P ops Q (o :: rest) a (w.alloc (.cells #[.int k d] e)) := by
  have hsz := hbel.size
  refine wpList_append_own _ hg s x t hop base e i (.int k 0) 1 bytes ht hi hz hsize hby rfl (by decide) v acc.length _ hs (hown.alloc _) ⟨w.heap.size, 0, none⟩ 1 1 [.int k d] hx rfl (cell_one_new _ _ _) (by intro u hu; simp at hu; subst hu; rfl)
    (by unfold maxLen; omega) (Nat.le_trans (Nat.mul_le_mul_left _ hb8) (by omega)) (by simp; omega) ?_
  intro v' w' h1 h2 _
  refine h v' w' (by simpa using h1) ?_
  exact (hbel.alloc (by omega) _).grown h2 (by simp; omega) (fun j hj => (hown.lt j hj).1)

/-- From the cells up to the capacity to the elements. -/
theorem seg_of_cells {w : World} {x : Addr} {k : IntKind} {zs : List Int} (len : Nat) (hc : ∀ i, i < zs.length → w.cell? (x.add i) = some (.int k (zs.getD i 0))) : Seg k w (some x) (zs.take len) := by
  by_cases h : 0 < (zs.take len).length
  · simp only [List.length_take] at h
    obtain ⟨b, off, rfl, h2⟩ := ints_at hc (by omega)
    refine .inr ⟨b, off, rfl, fun i hi => ?_⟩
    simp only [List.length_take] at hi
    rw [h2 i (by omega)]
    simp [List.getD, show i < len by omega]
  · exact .inl (List.eq_nil_of_length_eq_zero (by omega))

end Go.Proofs.Qxb6605440a
