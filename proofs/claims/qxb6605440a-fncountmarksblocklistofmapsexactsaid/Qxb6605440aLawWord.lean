import Derived.Test.Qxb6605440aCmMod
import Derived.Test.Qxb6605440aCmWalk
import Derived.Laws.CopyOwn
import Derived.Deep.QuietTactic
import Derived.BigQuiet
import Derived.WalkSmall
namespace Go.Proofs.Qxb6605440a
open Go.RowKit

theorem Try.infoByte : (Try.prog.info? 5).map (fun i => (i.zero, i.size, i.bytes)) = some (some (.int .u8 0), 1, 1) := by kernel_rfl

theorem zz13_yes (a0 : Option Addr) (n0 c0 : Nat) (w : World) (h : n0 ≤ 1048576) :
    Calls Try.prog 13 #[.slice a0 n0 c0] w fun e w' => e = .returned (.bool true) ∧ w = w' := by
  go_enter Try.func13, Try.ntmps13
  go_wp2
  go_ret
  exact ⟨rfl, rfl⟩

theorem zz13_no (a0 : Option Addr) (n0 c0 : Nat) (w : World) (h : ¬ n0 ≤ 1048576) (hm0 : n0 ≤ 9223372036854775807) :
    Calls Try.prog 13 #[.slice a0 n0 c0] w fun e w' => e = .returned (.bool false) ∧ w = w' := by
  go_enter Try.func13, Try.ntmps13
  go_wp2
  go_ret
  exact ⟨rfl, rfl⟩

def CountEnd (T : List Int) (n : Nat) (w : World) (e : Ending) (w' : World) : Prop :=
  Below w.heap.size w w' ∧ e = .returned (.tuple #[.int .i64 (marksTo T n).nodes, .int .i64 (marksTo T n).aliases, .int .i64 (marksTo T n).anchors])

theorem zz14_of (v : Value) (N A C : Nat) (w : World) (h19 : Hid (Calls Try.prog 19 #[v] w fun e w' => e = .returned (.agg #[.int .i64 N, .int .i64 A, .int .i64 C]) ∧ Below w.heap.size w w')) :
    Calls Try.prog 14 #[v] w fun e w' => e = .returned (.tuple #[.int .i64 N, .int .i64 A, .int .i64 C]) ∧ Below w.heap.size w w' := by
  go_enter Try.func14, Try.ntmps14
  go_wp2_with fail
  refine (show Calls Try.prog 19 #[v] w (fun e w' => e = .returned (.agg #[.int .i64 N, .int .i64 A, .int .i64 C]) ∧ Below w.heap.size w w') from h19).mono ?_
  clear h19
  rintro e w1 ⟨rfl, hb⟩
  go_wp2
  go_quiet (fail)
  go_wp2
  go_ret3
  exact ⟨rfl, below_drewN (hb.alloc hb.size _) _⟩

/-- The empty text, at whatever address. -/
theorem marks19e (a : Option Addr) (c : Nat) (w : World) :
    Calls Try.prog 19 #[.slice a 0 c] w fun e w' => e = .returned (.agg #[.int .i64 2, .int .i64 0, .int .i64 0]) ∧ Below w.heap.size w w' := by
  go_enter Try.func19, Try.ntmps19
  go_wp2
  go_loop [13] (fun i => i = .int .i64 0) (fun _ => 0)
  case atStart => rfl
  case round =>
    subst hrel
    go_wp2
    exact bodyPost_ret (v := .agg #[.int .i64 2, .int .i64 0, .int .i64 0]) (by simp [results, Try.results19, go_sem]) rfl ⟨rfl, ((Below.refl _ _).alloc (Nat.le_refl _) _).alloc (by simp) _⟩

theorem model15e (a : Option Addr) (c : Nat) (w : World) :
    Calls Try.prog 15 #[.slice a 0 c] w (ModelEnd [] 0 w) := by
  go_enter Try.func15, Try.ntmps15
  go_wp2
  go_loop [6, 7, 8, 9, 11] (fun l h a n i => l = .int .i64 2 ∧ h = .int .i64 2 ∧ a = .int .i64 0 ∧ n = .int .i64 0 ∧ i = .int .i64 0) (fun _ _ _ _ _ => 0)
  case atStart => exact ⟨rfl, rfl, rfl, rfl, rfl⟩
  case round =>
    obtain ⟨rfl, rfl, rfl, rfl, rfl⟩ := hrel
    go_wp2
    refine bodyPost_ret (results_four rfl _ _ _) rfl ?_
    exact ⟨rfl, 2, 2, rfl, Nat.le_refl _, Nat.le_refl _, by omega⟩

/-- A row that is owned to its end is known whole. -/
theorem whole_row {w : World} {base e g n : Nat} {xs : List Value} (h : w.ownsRow base e 1 (.slice (some ⟨g, 0, none⟩) n n) n xs) : w.heap[g]? = some (.cells xs.toArray e (0, 0)) := by
  have hl := h.1
  rcases h.2 with ⟨h', _⟩ | ⟨g', cap', cur, h', _, hg, _, _, hcs, htake⟩
  · simp at h'
  · simp only [Value.slice.injEq, Option.some.injEq, Addr.mk.injEq, and_true, true_and] at h'
    obtain ⟨rfl, rfl⟩ := h'
    rw [hg]
    have : cur.toList = xs := by rw [← htake, List.take_of_length_le (by rw [Array.length_toList, hcs]; omega)]
    rw [← this]

theorem txt_of_row {w : World} {g : Nat} {e : TypeId} {T : List Int} (h : w.heap[g]? = some (.cells (T.map (Value.int .u8)).toArray e (0, 0))) : Txt w g 0 T := by
  intro i hi
  rw [Nat.zero_add, cell_of_row w g i _ e (0, 0) h]
  simp [ch, List.getD, hi]

theorem copy_run {w0 : World} {g n c : Nat} {x : Addr} {T : List Int} (hn : T.length = n) (hs : Seg .u8 w0 (some x) T) (hg : w0.heap[g]? = some (.cells (List.replicate n (Value.int .u8 0)).toArray 5 (0, 0))) :
    ∃ w4, (Builtin.copy_ #[30, 30] 3 #[.slice (some ⟨g, 0, none⟩) n n, .slice (some x) n c]).run Try.prog w0 = .ok (.int .i64 n) w4 ∧ Txt w4 g 0 T ∧ Below g w0 w4 := by
  have hsz : (Try.prog.info? 5).map (·.size) = some 1 := by
    obtain ⟨i0, hi, _, hz1, _⟩ := info_parts Try.infoByte
    rw [hi]
    simp [hz1]
  rcases hs with hs | ⟨b, o, hx, hs⟩
  · subst hs
    simp at hn
    subst hn
    exact ⟨w0, run_copy_none w0 30 30 3 5 _ _ 0 0 0 c Try.underlying30 hsz rfl, fun i hi => by simp at hi, Below.refl _ _⟩
  · obtain rfl := Option.some.inj hx
    have hr := run_copy_row (P := Try.prog) w0 30 30 3 5 g 0 n n ⟨b, o, none⟩ n c (List.replicate n (Value.int .u8 0)).toArray 5 (T.map (Value.int .u8)) Try.underlying30 hsz hg (by simp [hn])
      (fun j v hj => by
        have hjl : j < T.length := by
          have := (List.getElem?_eq_some_iff.1 hj).1
          simpa using this
        rw [Addr.add_lit, hs j hjl, ← hj]
        simp [List.getD, hjl]) (by simp [hn]) (ints_oneCell _ _)
    have e : List.take 0 (List.replicate n (Value.int .u8 0)).toArray.toList ++ T.map (Value.int .u8) ++ List.drop (0 + (T.map (Value.int .u8)).length) (List.replicate n (Value.int .u8 0)).toArray.toList = T.map (Value.int .u8) := by
      simp [hn]
    rw [e] at hr
    refine ⟨w0.setRow g (T.map (Value.int .u8)).toArray, by rw [hr]; simp [hn, goInt], ?_, below_setRow (Below.refl _ _) (Nat.le_refl _) _⟩
    exact txt_of_row (e := 5) (setRow_heap w0 g _ _ 5 (0, 0) hg)

set_option maxHeartbeats 800000 in
/-- Behind the copy: the counts against the model. -/
theorem law5 (a0 : Option Addr) (n c : Nat) (T : List Int) (w : World) (hn : T.length = n) (hs : Seg .u8 w a0 T) (hnil : a0 = none → n = 0) (hm : n ≤ 9223372036854775807) :
    Calls Try.prog 5 #[.slice a0 n c] w fun e w' => e = .returned (.bool true) ∧ Below w.heap.size w w' := by
  have q30 : ∀ (w : World) (a : Option Addr) (n c n' c' : Nat), (binOp .neq 30 (.slice a n c) (.slice none n' c')).run Try.prog w = .ok (.bool (!a.isNone)) w := fun w a n c n' c' => run_neq_slice_nil_any w _ _ a n c n' c' Try.underlying30
  by_cases h : n ≤ 1048576
  · obtain ⟨i0, hi, hz0, hz1, hz2⟩ := info_parts Try.infoByte
    cases a0 with
    | none =>
      have := hnil rfl
      subst this
      have : T = [] := List.eq_nil_of_length_eq_zero hn
      subst this
      clear hn hs hnil
      go_enter Try.func5, Try.ntmps5
      go_wp2_with fail
      refine (zz13_yes _ _ _ _ h).mono ?_
      rintro e w' ⟨rfl, rfl⟩
      go_wp2_with fail
      refine (zz14_of _ 2 0 0 _ (marks19e none c _)).mono ?_
      rintro e w1 ⟨rfl, hb1⟩
      go_wp2_with fail
      refine (model15e none c _).mono ?_
      rintro e w2 ⟨rfl, lo, hi', rfl, h1, h2, _⟩
      have h1' : lo ≤ 2 := h1
      have h2' : 2 ≤ hi' := h2
      have e1 : (marksTo [] 0).aliases = 0 := rfl
      have e2 : (marksTo [] 0).anchors = 0 := rfl
      rw [e1, e2]
      clear h1 h2 e1 e2
      go_wp2
      go_ret
      exact ⟨by simp; omega, hb1⟩
    | some x =>
      have HN : Hid _ := hn
      have HS : Hid _ := hs
      clear hn hs hnil
      go_enter Try.func5, Try.ntmps5
      go_wp2_with fail
      refine (zz13_yes _ _ _ _ h).mono ?_
      rintro e w' ⟨rfl, rfl⟩
      go_wp2_with (at_make; refine wpList_make_full _ rfl _ _ 30 rfl w.heap.size 5 i0 (.int .u8 0) 1 Try.underlying30 hi hz0 hz1 _ _ _ _ n rfl rfl (by omega) (by omega) ?b2 ?b3 (Nat.le_refl _) ?_)
      case b2 => rw [hz2]; omega
      case b3 => unfold maxLen; omega
      intro w0 hown0 hgrow0
      have hb0 : Below w.heap.size w w0 := (Below.refl _ _).grown hgrow0 (Nat.le_refl _) (fun k h => by cases h)
      rw [toList_madeCells_one] at hown0
      have HG : Hid (w0.heap[w.heap.size]? = some (.cells (List.replicate n (Value.int .u8 0)).toArray 5 (0, 0))) := whole_row (by simpa using hown0)
      clear hown0 hgrow0
      obtain ⟨w4, hrun, hT4, hb4⟩ := copy_run (c := c) HN.out (Seg.below HS.out hb0 (Nat.le_refl _)) HG.out
      have hb5 : Below w.heap.size w w4 := hb0.trans hb4
      have HT4 : Hid (Txt w4 w.heap.size 0 T) := hT4
      clear HG HS hT4 hb0 hb4
      go_wp2_with fail
      clear hrun
      refine (zz14_of _ _ _ _ _ (marks19 w.heap.size 0 n n T _ HN.out HT4.out h)).mono ?_
      rintro e w6 ⟨rfl, hb6⟩
      have hb7 := hb5.trans (hb6.mono hb5.size)
      have HT6 : Hid (Txt w6 w.heap.size 0 T) := Txt.below HT4.out hb6 (Nat.le_refl _)
      clear hb5 hb6 HT4
      go_wp2_with fail
      refine (model15 w.heap.size 0 n n T _ HN.out HT6.out h).mono ?_
      rintro e w8 ⟨rfl, lo, hi', rfl, h1, h2, h3⟩
      have hl := marks_le T n
      generalize (marksTo T n).nodes = N at h1 h2 hl
      generalize (marksTo T n).aliases = A at hl
      generalize (marksTo T n).anchors = C at hl
      clear HN HT6
      go_wp2
      go_ret
      exact ⟨by simp, hb7⟩
  · go_enter Try.func5, Try.ntmps5
    go_wp2_with fail
    refine (zz13_no _ _ _ _ h hm).mono ?_
    rintro e w' ⟨rfl, rfl⟩
    go_wp2
    go_ret
    exact ⟨rfl, Below.refl _ _⟩

end Go.Proofs.Qxb6605440a
