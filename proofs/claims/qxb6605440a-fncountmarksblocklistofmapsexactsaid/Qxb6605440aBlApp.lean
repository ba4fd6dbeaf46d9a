import Derived.Test.Qxb6605440aRows
import Derived.Test.Qxb6605440aBlText
import Derived.Test.Qxb6605440aParts
import Derived.Lib.AppendStr
import Derived.WalkKit
import Derived.WalkSpells
import Derived.WalkSmall
namespace Go.Proofs.Qxb6605440a
open Go.RowKit

theorem Try.infoB : (Try.prog.info? 5).map (fun i => (i.zero, i.size, i.bytes)) = some (some (.int .u8 0), 1, 1) := by kernel_rfl

/-- 'out = append(out, x, y)', two numbers. -/
theorem wpList_append_two {P : Program} (w w0 : World) {ops : Array Oper} {rest : List Oper} {o : Oper} {a : Act} {Q : Exit → Act → World → Prop}
    (k : IntKind) (t e : TypeId) (i : TypeInfo) (bytes : Nat) (ht : P.underlying t = some (.slice e)) (hi : P.info? e = some i) (hz : i.zero = some (.int k 0)) (hsize : i.size = 1) (hby : i.bytes = bytes) (hb8 : bytes ≤ 8)
    (hg : o.guard = none) (s x : Operand) (hop : o.op = Op.call { callee := Callee.builtin Builtin.append, args := #[s, x], argTypes := #[t, t] })
    (base : Nat) (v : Value) (acc : List Int) (d d' : Int) (hs : a.eval s = v) (hx : a.eval x = .slice (some ⟨w.heap.size, 0, none⟩) 2 2)
    (hown : w.ownsRow base e 1 v acc.length (acc.map (Value.int k))) (hbel : Below base w0 w) (hbase : base ≤ w0.heap.size) (hlen : acc.length ≤ 16777216)
    (h : ∀ v' w', w'.ownsRow base e 1 v' (acc ++ [d, d']).length ((acc ++ [d, d']).map (Value.int k)) → Below base w0 w' → wpList P ops Q rest (a.put o.dst v') w') :
    wpList P ops Q (o :: rest) a (w.alloc (.cells #[.int k d, .int k d'] e)) := by
  have hsz := hbel.size
  refine wpList_append_own _ hg s x t hop base e i (.int k 0) 1 bytes ht hi hz hsize hby rfl (by decide) v acc.length _ hs (hown.alloc _) ⟨w.heap.size, 0, none⟩ 2 2 [.int k d, .int k d'] hx rfl (cell_two_new _ _ _ _) (by intro u hu; simp at hu; rcases hu with rfl | rfl <;> rfl)
    (by unfold maxLen; omega) (Nat.le_trans (Nat.mul_le_mul_left _ hb8) (by omega)) (by simp; omega) ?_
  intro v' w' h1 h2 _
  refine h v' w' (by simpa using h1) ?_
  exact (hbel.alloc (by omega) _).grown h2 (by simp; omega) (fun j hj => (hown.lt j hj).1)

theorem digs_len (k : Nat) : ∀ x, x < 10 ^ (k + 1) → (digs x).length ≤ k + 1 := by
  induction k with
  | zero => intro x h; rw [digs_small (by omega)]; simp
  | succ k ih =>
    intro x h
    by_cases hx : x < 10
    · rw [digs_small hx]; simp
    · rw [digs_big hx, List.length_append]
      have h1 : x / 10 < 10 ^ (k + 1) := by
        rw [Nat.pow_succ] at h
        exact Nat.div_lt_of_lt_mul (by omega)
      have := ih _ h1
      simp
      omega

theorem digs5 {x : Nat} (h : x ≤ 16384) : (digs x).length ≤ 5 := digs_len 4 x (by omega)

/-- A row of bytes has been appended to: what is handed back. -/
def AppEnd (base : Nat) (w0 : World) (T : List Int) (e : Ending) (w' : World) : Prop :=
  ∃ v, e = .returned v ∧ w'.ownsRow base 5 1 v T.length (T.map (Value.int .u8)) ∧ Below base w0 w'

theorem int17 (x : Nat) : ∀ (X : Int) (base : Nat) (w0 w : World) (v : Value) (acc : List Int), X = (x : Int) → x ≤ 16384 → acc.length ≤ 8388608 → base ≤ w0.heap.size →
    w.ownsRow base 5 1 v acc.length (acc.map (Value.int .u8)) → Below base w0 w → Calls Try.prog 17 #[v, .int .i64 X] w (AppEnd base w0 (acc ++ digs x)) := by
  induction x using Nat.strongRecOn with
  | _ x ih =>
    intro X base w0 w v acc hX hx ha hbase hown hb
    obtain ⟨i0, hi, hz0, hz1, hz2⟩ := info_parts Try.infoB
    by_cases h : x < 10
    · have HD : Hid _ := digs_small h
      clear ih
      subst hX
      go_enter Try.func17, Try.ntmps17
      go_wp2_with (at_builtin; refine wpList_append_one _ w0 .u8 30 5 i0 1 Try.underlying30 hi hz0 hz1 hz2 (by omega) rfl (.tmp 11) (.tmp 16) rfl base _ acc _ rfl rfl hown hb hbase (by omega) ?_; intro v5 w5 hown5 hb5)
      go_ret
      refine ⟨_, rfl, ?_, hb5⟩
      rw [HD.out, show (48 + (x : Int)) = 48 + (x : Int) % 10 by omega]
      exact hown5
    · have IH : Hid (∀ (X : Int) (base : Nat) (w0 w : World) (v : Value) (acc : List Int), X = ((x / 10 : Nat) : Int) → x / 10 ≤ 16384 → acc.length ≤ 8388608 → base ≤ w0.heap.size →
          w.ownsRow base 5 1 v acc.length (acc.map (Value.int .u8)) → Below base w0 w → Calls Try.prog 17 #[v, .int .i64 X] w (AppEnd base w0 (acc ++ digs (x / 10)))) := ih (x / 10) (by omega)
      have HD : Hid _ := digs_big h
      have hl := digs5 (x := x / 10) (by omega)
      clear ih
      subst hX
      go_enter Try.func17, Try.ntmps17
      go_wp2_with fail
      refine (IH.out _ base w0 _ _ acc (by omega) (by omega) ha hbase hown hb).mono ?_
      rintro e w5 ⟨v5, rfl, hown5, hb5⟩
      go_wp2_with (at_builtin; refine wpList_append_one _ w0 .u8 30 5 i0 1 Try.underlying30 hi hz0 hz1 hz2 (by omega) rfl (.tmp 11) (.tmp 16) rfl base _ (acc ++ digs (x / 10)) _ rfl rfl hown5 hb5 hbase (by simp only [List.length_append]; omega) ?_; intro v6 w6 hown6 hb6)
      go_ret
      refine ⟨_, rfl, ?_, hb6⟩
      rw [HD.out, show ((x % 10 : Nat) : Int) = (x : Int) % 10 by omega, ← List.append_assoc]
      exact hown6

theorem val16 (m : Int) (i j : Nat) (I J : Int) (base : Nat) (w0 w : World) (v : Value) (acc : List Int) (hI : I = (i : Int)) (hJ : J = (j : Int)) (hi1 : i ≤ 16384) (hj1 : j ≤ 16384) (hm : 0 ≤ m ∧ m ≤ 255) (ha : acc.length ≤ 4194304) (hbase : base ≤ w0.heap.size)
    (hown : w.ownsRow base 5 1 v acc.length (acc.map (Value.int .u8))) (hb : Below base w0 w) :
    Calls Try.prog 16 #[v, .int .u8 m, .int .i64 I, .int .i64 J] w (AppEnd base w0 (acc ++ valL m i j)) := by
  obtain ⟨i0, hi, hz0, hz1, hz2⟩ := info_parts Try.infoB
  have hli := digs5 hi1
  have hlj := digs5 hj1
  have HI : Hid _ := hI
  have HJ : Hid _ := hJ
  have b1 : 0 ≤ I ∧ I ≤ 16384 := by omega
  have b2 : 0 ≤ J ∧ J ≤ 16384 := by omega
  clear hI hJ
  by_cases h1 : m = 1
  · subst h1
    have HV : Hid (acc ++ valL 1 i j = acc ++ [42] ++ [118] ++ digs i ++ [120] ++ digs j) := by show _ = _; simp [valL, preL, tailW]
    go_enter Try.func16, Try.ntmps16
    go_wp2_with (first
      | (at_builtin; refine wpList_append_one _ w0 .u8 30 5 i0 1 Try.underlying30 hi hz0 hz1 hz2 (by omega) rfl (.tmp 11) (.tmp 12) rfl base _ (acc) _ rfl rfl hown hb hbase (by (try simp only [List.length_append, List.length_cons, List.length_nil]); omega) ?_; intro v1 x1 hown1 hb1; clear hown hb)
      | (at_builtin; refine wpList_append_one _ w0 .u8 30 5 i0 1 Try.underlying30 hi hz0 hz1 hz2 (by omega) rfl (.tmp 31) (.tmp 32) rfl base _ (acc ++ [42]) _ rfl rfl hown1 hb1 hbase (by (try simp only [List.length_append, List.length_cons, List.length_nil]); omega) ?_; intro v2 x2 hown2 hb2; clear hown1 hb1))
    refine (int17 i _ base w0 _ _ (acc ++ [42] ++ [118]) HI.out hi1 (by (try simp only [List.length_append, List.length_cons, List.length_nil]); omega) hbase hown2 hb2).mono ?_
    clear hown2 hb2
    rintro e x3 ⟨v3, rfl, hown3, hb3⟩
    go_wp2_with (first
      | (at_builtin; refine wpList_append_one _ w0 .u8 30 5 i0 1 Try.underlying30 hi hz0 hz1 hz2 (by omega) rfl (.tmp 37) (.tmp 38) rfl base _ (acc ++ [42] ++ [118] ++ digs i) _ rfl rfl hown3 hb3 hbase (by (try simp only [List.length_append, List.length_cons, List.length_nil]); omega) ?_; intro v4 x4 hown4 hb4; clear hown3 hb3))
    refine (int17 j _ base w0 _ _ (acc ++ [42] ++ [118] ++ digs i ++ [120]) HJ.out hj1 (by (try simp only [List.length_append, List.length_cons, List.length_nil]); omega) hbase hown4 hb4).mono ?_
    clear hown4 hb4
    rintro e x5 ⟨v5, rfl, hown5, hb5⟩
    go_wp2
    go_ret
    refine ⟨_, rfl, ?_, hb5⟩
    rw [HV.out]
    exact hown5
  by_cases h2 : m = 2
  · subst h2
    have HV : Hid (acc ++ valL 2 i j = acc ++ [38, 97] ++ digs i ++ [120] ++ digs j ++ [32] ++ [118] ++ digs i ++ [120] ++ digs j) := by show _ = _; simp [valL, preL, tailW]
    go_enter Try.func16, Try.ntmps16
    go_wp2_with (first
      | (at_builtin; refine wpList_append_two _ w0 .u8 30 5 i0 1 Try.underlying30 hi hz0 hz1 hz2 (by omega) rfl (.tmp 16) (.tmp 17) rfl base _ (acc) _ _ rfl rfl hown hb hbase (by (try simp only [List.length_append, List.length_cons, List.length_nil]); omega) ?_; intro v1 x1 hown1 hb1; clear hown hb))
    refine (int17 i _ base w0 _ _ (acc ++ [38, 97]) HI.out hi1 (by (try simp only [List.length_append, List.length_cons, List.length_nil]); omega) hbase hown1 hb1).mono ?_
    clear hown1 hb1
    rintro e x2 ⟨v2, rfl, hown2, hb2⟩
    go_wp2_with (first
      | (at_builtin; refine wpList_append_one _ w0 .u8 30 5 i0 1 Try.underlying30 hi hz0 hz1 hz2 (by omega) rfl (.tmp 22) (.tmp 23) rfl base _ (acc ++ [38, 97] ++ digs i) _ rfl rfl hown2 hb2 hbase (by (try simp only [List.length_append, List.length_cons, List.length_nil]); omega) ?_; intro v3 x3 hown3 hb3; clear hown2 hb2))
    refine (int17 j _ base w0 _ _ (acc ++ [38, 97] ++ digs i ++ [120]) HJ.out hj1 (by (try simp only [List.length_append, List.length_cons, List.length_nil]); omega) hbase hown3 hb3).mono ?_
    clear hown3 hb3
    rintro e x4 ⟨v4, rfl, hown4, hb4⟩
    go_wp2_with (first
      | (at_builtin; refine wpList_append_one _ w0 .u8 30 5 i0 1 Try.underlying30 hi hz0 hz1 hz2 (by omega) rfl (.tmp 28) (.tmp 29) rfl base _ (acc ++ [38, 97] ++ digs i ++ [120] ++ digs j) _ rfl rfl hown4 hb4 hbase (by (try simp only [List.length_append, List.length_cons, List.length_nil]); omega) ?_; intro v5 x5 hown5 hb5; clear hown4 hb4)
      | (at_builtin; refine wpList_append_one _ w0 .u8 30 5 i0 1 Try.underlying30 hi hz0 hz1 hz2 (by omega) rfl (.tmp 31) (.tmp 32) rfl base _ (acc ++ [38, 97] ++ digs i ++ [120] ++ digs j ++ [32]) _ rfl rfl hown5 hb5 hbase (by (try simp only [List.length_append, List.length_cons, List.length_nil]); omega) ?_; intro v6 x6 hown6 hb6; clear hown5 hb5))
    refine (int17 i _ base w0 _ _ (acc ++ [38, 97] ++ digs i ++ [120] ++ digs j ++ [32] ++ [118]) HI.out hi1 (by (try simp only [List.length_append, List.length_cons, List.length_nil]); omega) hbase hown6 hb6).mono ?_
    clear hown6 hb6
    rintro e x7 ⟨v7, rfl, hown7, hb7⟩
    go_wp2_with (first
      | (at_builtin; refine wpList_append_one _ w0 .u8 30 5 i0 1 Try.underlying30 hi hz0 hz1 hz2 (by omega) rfl (.tmp 37) (.tmp 38) rfl base _ (acc ++ [38, 97] ++ digs i ++ [120] ++ digs j ++ [32] ++ [118] ++ digs i) _ rfl rfl hown7 hb7 hbase (by (try simp only [List.length_append, List.length_cons, List.length_nil]); omega) ?_; intro v8 x8 hown8 hb8; clear hown7 hb7))
    refine (int17 j _ base w0 _ _ (acc ++ [38, 97] ++ digs i ++ [120] ++ digs j ++ [32] ++ [118] ++ digs i ++ [120]) HJ.out hj1 (by (try simp only [List.length_append, List.length_cons, List.length_nil]); omega) hbase hown8 hb8).mono ?_
    clear hown8 hb8
    rintro e x9 ⟨v9, rfl, hown9, hb9⟩
    go_wp2
    go_ret
    refine ⟨_, rfl, ?_, hb9⟩
    rw [HV.out]
    exact hown9
  · have h1' := h1
    have HV : Hid (acc ++ valL m i j = acc ++ [118] ++ digs i ++ [120] ++ digs j) := by show _ = _; simp [valL, preL, tailW, h1, h2]
    go_enter Try.func16, Try.ntmps16
    go_wp2_with (first
      | (at_builtin; refine wpList_append_one _ w0 .u8 30 5 i0 1 Try.underlying30 hi hz0 hz1 hz2 (by omega) rfl (.tmp 31) (.tmp 32) rfl base _ (acc) _ rfl rfl hown hb hbase (by (try simp only [List.length_append, List.length_cons, List.length_nil]); omega) ?_; intro v1 x1 hown1 hb1; clear hown hb))
    refine (int17 i _ base w0 _ _ (acc ++ [118]) HI.out hi1 (by (try simp only [List.length_append, List.length_cons, List.length_nil]); omega) hbase hown1 hb1).mono ?_
    clear hown1 hb1
    rintro e x2 ⟨v2, rfl, hown2, hb2⟩
    go_wp2_with (first
      | (at_builtin; refine wpList_append_one _ w0 .u8 30 5 i0 1 Try.underlying30 hi hz0 hz1 hz2 (by omega) rfl (.tmp 37) (.tmp 38) rfl base _ (acc ++ [118] ++ digs i) _ rfl rfl hown2 hb2 hbase (by (try simp only [List.length_append, List.length_cons, List.length_nil]); omega) ?_; intro v3 x3 hown3 hb3; clear hown2 hb2))
    refine (int17 j _ base w0 _ _ (acc ++ [118] ++ digs i ++ [120]) HJ.out hj1 (by (try simp only [List.length_append, List.length_cons, List.length_nil]); omega) hbase hown3 hb3).mono ?_
    clear hown3 hb3
    rintro e x4 ⟨v4, rfl, hown4, hb4⟩
    go_wp2
    go_ret
    refine ⟨_, rfl, ?_, hb4⟩
    rw [HV.out]
    exact hown4

end Go.Proofs.Qxb6605440a
