import Derived.Test.Qxb6605440aCmPlain
namespace Go.Proofs.Qxb6605440a
open Go.RowKit

/-- What countMarks holds while it reads. -/
structure St where
  nodes : Nat
  aliases : Nat
  anchors : Nat
  lists : Bool
  maps : Bool
  owed : Bool

def hit (b : Bool) : Nat := if b then 1 else 0

/-- A block entry's own node: nothing, a line break or another entry follows on its line. -/
def ownsB (T : List Int) (i : Nat) : Bool := decide (skipTo T (i + 1) = T.length) || startsB T (skipTo T (i + 1)) || blockB T (skipTo T (i + 1))

/-- No word begins at i. -/
def restB (T : List Int) (i : Nat) : Bool := sepB (ch T i) || startsB T i || !opensB T i

def namedB (T : List Int) (i : Nat) : Bool := decide (i + 1 < T.length) && nameB (ch T (i + 1))

def step (T : List Int) (i : Nat) (s : St) : St :=
  if ch T i = 91 ∨ ch T i = 123 then { s with nodes := s.nodes + 1, lists := s.lists || ch T i == 91, maps := s.maps || ch T i == 123 }
  else if ch T i = 44 ∨ ch T i = 125 then { s with nodes := s.nodes + hit s.maps }
  else if ch T i = 63 then { s with nodes := s.nodes + 3 }
  else if ch T i = 58 then { s with nodes := s.nodes + colonN T i s.lists s.owed, owed := false }
  else if restB T i then s
  else if !blockB T i then { s with nodes := s.nodes + 1, aliases := s.aliases + hit (namedB T i && ch T i == 42), anchors := s.anchors + hit (namedB T i && ch T i == 38) }
  else if ownsB T i then { s with nodes := s.nodes + 1 }
  else { s with owed := true }

def marksTo (T : List Int) : Nat → St
  | 0 => ⟨2, 0, 0, false, false, false⟩
  | k + 1 => step T k (marksTo T k)

theorem colon_le (T : List Int) (i : Nat) (l o : Bool) : colonN T i l o ≤ 3 := by
  unfold colonN
  cases l <;> cases o <;> cases valB T i <;> simp

theorem hit_le (b : Bool) : hit b ≤ 1 := by cases b <;> simp [hit]

theorem step_le (T : List Int) (i : Nat) (s : St) : (step T i s).nodes ≤ s.nodes + 3 ∧ (step T i s).aliases ≤ s.aliases + 1 ∧ (step T i s).anchors ≤ s.anchors + 1 ∧ s.nodes ≤ (step T i s).nodes := by
  unfold step
  have h1 := colon_le T i s.lists s.owed
  have h2 := hit_le s.maps
  have h3 := hit_le (namedB T i && ch T i == 42)
  have h4 := hit_le (namedB T i && ch T i == 38)
  split
  · simp
  · split
    · simp; omega
    · split
      · simp
      · split
        · simp; omega
        · split
          · simp
          · split
            · simp; omega
            · split <;> simp

theorem marks_le (T : List Int) (k : Nat) : (marksTo T k).nodes ≤ 2 + 3 * k ∧ (marksTo T k).aliases ≤ k ∧ (marksTo T k).anchors ≤ k := by
  induction k with
  | zero => simp [marksTo]
  | succ k ih =>
    have := step_le T k (marksTo T k)
    show (step T k (marksTo T k)).nodes ≤ _ ∧ (step T k (marksTo T k)).aliases ≤ _ ∧ (step T k (marksTo T k)).anchors ≤ _
    omega

/-- countMarks's own memory: the struct m in block B + 1 holds the three counts; the result's block B lies below it. -/
structure Mem (B N A C : Nat) (w wr : World) : Prop where
  c0 : wr.cell? ⟨B + 1, 0, none⟩ = some (.int .i64 N)
  c1 : wr.cell? ⟨B + 1, 1, none⟩ = some (.int .i64 A)
  c2 : wr.cell? ⟨B + 1, 2, none⟩ = some (.int .i64 C)
  f : ∀ j, wr.frozen? ⟨B + 1, j, none⟩ = false
  r0 : wr.cell? ⟨B, 0, none⟩ = some (.int .i64 0)
  r1 : wr.cell? ⟨B, 1, none⟩ = some (.int .i64 0)
  r2 : wr.cell? ⟨B, 2, none⟩ = some (.int .i64 0)
  g : ∀ j, wr.frozen? ⟨B, j, none⟩ = false
  bel : Below B w wr

theorem Mem.set0 {B N A C : Nat} {w wr : World} (h : Mem B N A C w wr) (M : Nat) {z : Int} (hz : z = (M : Int)) : Mem B M A C w (wr.setCell ⟨B + 1, 0, none⟩ (.int .i64 z)) := by
  subst hz
  refine ⟨World.cell?_setCell_same _ _ _ h.c0, ?_, ?_, ?_, ?_, ?_, ?_, ?_, h.bel.setCell (by show B ≤ B + 1; omega) _⟩
  · exact (World.cell?_setCell_other _ _ _ _ (by simp)).trans h.c1
  · exact (World.cell?_setCell_other _ _ _ _ (by simp)).trans h.c2
  · exact fun j => (World.frozen?_setCell _ _ _ _).trans (h.f j)
  · exact (World.cell?_setCell_other _ _ _ _ (by simp)).trans h.r0
  · exact (World.cell?_setCell_other _ _ _ _ (by simp)).trans h.r1
  · exact (World.cell?_setCell_other _ _ _ _ (by simp)).trans h.r2
  · exact fun j => (World.frozen?_setCell _ _ _ _).trans (h.g j)

theorem Mem.set1 {B N A C : Nat} {w wr : World} (h : Mem B N A C w wr) (M : Nat) {z : Int} (hz : z = (M : Int)) : Mem B N M C w (wr.setCell ⟨B + 1, 1, none⟩ (.int .i64 z)) := by
  subst hz
  refine ⟨?_, World.cell?_setCell_same _ _ _ h.c1, ?_, ?_, ?_, ?_, ?_, ?_, h.bel.setCell (by show B ≤ B + 1; omega) _⟩
  · exact (World.cell?_setCell_other _ _ _ _ (by simp)).trans h.c0
  · exact (World.cell?_setCell_other _ _ _ _ (by simp)).trans h.c2
  · exact fun j => (World.frozen?_setCell _ _ _ _).trans (h.f j)
  · exact (World.cell?_setCell_other _ _ _ _ (by simp)).trans h.r0
  · exact (World.cell?_setCell_other _ _ _ _ (by simp)).trans h.r1
  · exact (World.cell?_setCell_other _ _ _ _ (by simp)).trans h.r2
  · exact fun j => (World.frozen?_setCell _ _ _ _).trans (h.g j)

theorem Mem.set2 {B N A C : Nat} {w wr : World} (h : Mem B N A C w wr) (M : Nat) {z : Int} (hz : z = (M : Int)) : Mem B N A M w (wr.setCell ⟨B + 1, 2, none⟩ (.int .i64 z)) := by
  subst hz
  refine ⟨?_, ?_, World.cell?_setCell_same _ _ _ h.c2, ?_, ?_, ?_, ?_, ?_, h.bel.setCell (by show B ≤ B + 1; omega) _⟩
  · exact (World.cell?_setCell_other _ _ _ _ (by simp)).trans h.c0
  · exact (World.cell?_setCell_other _ _ _ _ (by simp)).trans h.c1
  · exact fun j => (World.frozen?_setCell _ _ _ _).trans (h.f j)
  · exact (World.cell?_setCell_other _ _ _ _ (by simp)).trans h.r0
  · exact (World.cell?_setCell_other _ _ _ _ (by simp)).trans h.r1
  · exact (World.cell?_setCell_other _ _ _ _ (by simp)).trans h.r2
  · exact fun j => (World.frozen?_setCell _ _ _ _).trans (h.g j)

theorem Mem.drew {B N A C : Nat} {w wr : World} (h : Mem B N A C w wr) : Mem B N A C w wr.drew :=
  ⟨h.c0, h.c1, h.c2, h.f, h.r0, h.r1, h.r2, h.g, h.bel.drew⟩

theorem mem_start (w : World) (t : TypeId) : Mem w.heap.size 2 0 0 w ((w.alloc (.cells #[.int .i64 0, .int .i64 0, .int .i64 0] t)).alloc (.cells #[.int .i64 2, .int .i64 0, .int .i64 0] t)) := by
  have hs : (w.alloc (.cells #[.int .i64 0, .int .i64 0, .int .i64 0] t)).heap.size = w.heap.size + 1 := by simp
  refine ⟨?_, ?_, ?_, ?_, ?_, ?_, ?_, ?_, ((Below.refl _ _).alloc (Nat.le_refl _) _).alloc (by simp) _⟩
  · rw [← hs, World.cell?_alloc_new]; rfl
  · rw [← hs, World.cell?_alloc_new]; rfl
  · rw [← hs, World.cell?_alloc_new]; rfl
  · intro j; rw [← hs]; exact World.frozen?_alloc_new _ _ _ _
  · rw [World.cell?_alloc_past _ _ _ (by simp), World.cell?_alloc_new]; rfl
  · rw [World.cell?_alloc_past _ _ _ (by simp), World.cell?_alloc_new]; rfl
  · rw [World.cell?_alloc_past _ _ _ (by simp), World.cell?_alloc_new]; rfl
  · intro j; rw [World.frozen?_alloc_past _ _ _ (by simp)]; exact World.frozen?_alloc_new _ _ _ _

theorem st_open {T : List Int} {i N A C : Nat} {l m d : Bool} (h : ch T i = 91 ∨ ch T i = 123) : step T i ⟨N, A, C, l, m, d⟩ = ⟨N + 1, A, C, l || ch T i == 91, m || ch T i == 123, d⟩ := by
  unfold step; rw [if_pos h]
theorem st_comma {T : List Int} {i N A C : Nat} {l m d : Bool} (h : ch T i = 44 ∨ ch T i = 125) : step T i ⟨N, A, C, l, m, d⟩ = ⟨N + hit m, A, C, l, m, d⟩ := by
  unfold step; rw [if_neg (by omega), if_pos h]
theorem st_quest {T : List Int} {i N A C : Nat} {l m d : Bool} (h : ch T i = 63) : step T i ⟨N, A, C, l, m, d⟩ = ⟨N + 3, A, C, l, m, d⟩ := by
  unfold step; rw [if_neg (by omega), if_neg (by omega), if_pos h]
theorem st_colon {T : List Int} {i N A C : Nat} {l m d : Bool} (h : ch T i = 58) : step T i ⟨N, A, C, l, m, d⟩ = ⟨N + colonN T i l d, A, C, l, m, false⟩ := by
  unfold step; rw [if_neg (by omega), if_neg (by omega), if_neg (by omega), if_pos h]

/-- Not one of the six bytes that count by themselves. -/
def plainC (c : Int) : Prop := c ≠ 91 ∧ c ≠ 123 ∧ c ≠ 44 ∧ c ≠ 125 ∧ c ≠ 63 ∧ c ≠ 58

theorem st_rest {T : List Int} {i N A C : Nat} {l m d : Bool} (h : plainC (ch T i)) (hr : restB T i = true) : step T i ⟨N, A, C, l, m, d⟩ = ⟨N, A, C, l, m, d⟩ := by
  obtain ⟨h1, h2, h3, h4, h5, h6⟩ := h
  unfold step; rw [if_neg (by omega), if_neg (by omega), if_neg (by omega), if_neg (by omega), if_pos hr]
theorem st_word {T : List Int} {i N A C : Nat} {l m d : Bool} (h : plainC (ch T i)) (hr : restB T i = false) (hb : blockB T i = false) : step T i ⟨N, A, C, l, m, d⟩ = ⟨N + 1, A + hit (namedB T i && ch T i == 42), C + hit (namedB T i && ch T i == 38), l, m, d⟩ := by
  obtain ⟨h1, h2, h3, h4, h5, h6⟩ := h
  unfold step; rw [if_neg (by omega), if_neg (by omega), if_neg (by omega), if_neg (by omega), if_neg (by simp [hr]), if_pos (by simp [hb])]
theorem st_owns {T : List Int} {i N A C : Nat} {l m d : Bool} (h : plainC (ch T i)) (hr : restB T i = false) (hb : blockB T i = true) (ho : ownsB T i = true) : step T i ⟨N, A, C, l, m, d⟩ = ⟨N + 1, A, C, l, m, d⟩ := by
  obtain ⟨h1, h2, h3, h4, h5, h6⟩ := h
  unfold step; rw [if_neg (by omega), if_neg (by omega), if_neg (by omega), if_neg (by omega), if_neg (by simp [hr]), if_neg (by simp [hb]), if_pos ho]
theorem st_owed {T : List Int} {i N A C : Nat} {l m d : Bool} (h : plainC (ch T i)) (hr : restB T i = false) (hb : blockB T i = true) (ho : ownsB T i = false) : step T i ⟨N, A, C, l, m, d⟩ = ⟨N, A, C, l, m, true⟩ := by
  obtain ⟨h1, h2, h3, h4, h5, h6⟩ := h
  unfold step; rw [if_neg (by omega), if_neg (by omega), if_neg (by omega), if_neg (by omega), if_neg (by simp [hr]), if_neg (by simp [hb]), if_neg (by simp [ho])]

theorem Txt.below {w w' : World} {b o : Nat} {T : List Int} (h : Txt w b o T) {B : Nat} (hb : Below B w w') (hB : w.heap.size ≤ B) : Txt w' b o T := fun i hi =>
  (hb.cell (p := ⟨b, o + i, none⟩) (Nat.lt_of_lt_of_le (World.block_lt_of_cell? w _ (h i hi)) hB)).trans (h i hi)

end Go.Proofs.Qxb6605440a
