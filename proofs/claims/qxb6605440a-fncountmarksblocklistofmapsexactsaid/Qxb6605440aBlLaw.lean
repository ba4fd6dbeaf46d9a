import Derived.Test.Qxb6605440aLawWord
import Derived.Test.Qxb6605440aBlApp
import Derived.Deep.LoopGhost
namespace Go.Proofs.Qxb6605440a
open Go.RowKit

theorem nl_len (crlf : Bool) : (nlL crlf).length ≤ 2 := by cases crlf <;> decide

theorem val_len (m : Int) {i j : Nat} (hi : i ≤ 16384) (hj : j ≤ 16384) : (valL m i j).length ≤ 26 := by
  have h1 := digs5 hi
  have h2 := digs5 hj
  unfold valL preL tailW
  split
  · simp; omega
  · split
    · simp; omega
    · simp; omega

theorem pair_len (m : Int) (crlf : Bool) {i j : Nat} (hi : i ≤ 16384) (hj : j ≤ 16384) : (pairL m crlf i j).length ≤ 40 := by
  have h1 := val_len m hi hj
  have h2 := digs5 hj
  have h3 := nl_len crlf
  unfold pairL
  split
  · simp; omega
  · simp; omega

theorem row_len (m : Int) (crlf : Bool) {i : Nat} (hi : i ≤ 16384) (k : Nat) (hk : k ≤ 16384) : (rowTo m crlf i k).length ≤ 40 * k := by
  induction k with
  | zero => simp [rowTo]
  | succ k ih =>
    have h1 := ih (by omega)
    have h2 := pair_len m crlf (i := i) (j := k) hi (by omega)
    simp only [rowTo, List.length_append]
    omega

theorem text_len (m : Int) (crlf : Bool) {C : Nat} (hC : C ≤ 16384) (k : Nat) (hk : k ≤ 16384) : (textTo m crlf C k).length ≤ 40 * (k * (C + 1)) := by
  induction k with
  | zero => simp [textTo]
  | succ k ih =>
    have h1 := ih (by omega)
    have h2 := row_len m crlf (i := k) (by omega) C hC
    have h3 : (rowL m crlf C k).length ≤ 40 * (C + 1) := by
      have h4 := val_len m (i := k) (j := 0) (by omega) (by omega)
      have h5 := nl_len crlf
      unfold rowL itemL
      split
      · simp; omega
      · simp; omega
    have e : (k + 1) * (C + 1) = k * (C + 1) + (C + 1) := Nat.succ_mul k (C + 1)
    rw [textTo, List.length_append, e]
    omega

theorem text_bound (m : Int) (crlf : Bool) {R C : Nat} (hR : R ≤ 16384) (hC : C ≤ 16384) (hp : R * (C + 1) ≤ 16384) {k : Nat} (hk : k ≤ R) : (textTo m crlf C k).length ≤ 655360 := by
  have h1 := text_len m crlf hC k (by omega)
  have h2 : k * (C + 1) ≤ R * (C + 1) := Nat.mul_le_mul_right _ hk
  omega

theorem part_bound (m : Int) (crlf : Bool) {R C : Nat} (hR : R ≤ 16384) (hC : C ≤ 16384) (hp : R * (C + 1) ≤ 16384) {k j : Nat} (hk : k < R) (hj : j ≤ C) : (textTo m crlf C k ++ rowTo m crlf k j).length ≤ 655360 := by
  have h1 := text_len m crlf hC k (by omega)
  have h2 : (k + 1) * (C + 1) ≤ R * (C + 1) := Nat.mul_le_mul_right _ hk
  have h3 := row_len m crlf (i := k) (by omega) j (by omega)
  rw [Nat.succ_mul] at h2
  rw [List.length_append]
  omega

theorem row_first {m : Int} {crlf : Bool} {C k j : Nat} {acc : List Int} (h : acc = textTo m crlf C k ++ rowTo m crlf k j) (h0 : j = 0) :
    acc ++ [45, 32] ++ [107] ++ digs j ++ [58, 32] ++ valL m k j ++ nlL crlf = textTo m crlf C k ++ rowTo m crlf k (j + 1) := by
  subst h0
  rw [h]
  simp [rowTo, pairL]

theorem row_next {m : Int} {crlf : Bool} {C k j : Nat} {acc : List Int} (h : acc = textTo m crlf C k ++ rowTo m crlf k j) (h0 : ¬ j = 0) :
    acc ++ [32, 32] ++ [107] ++ digs j ++ [58, 32] ++ valL m k j ++ nlL crlf = textTo m crlf C k ++ rowTo m crlf k (j + 1) := by
  rw [h]
  simp [rowTo, pairL, h0]

theorem row_done {m : Int} {crlf : Bool} {C k : Nat} (h : ¬ C = 0) : textTo m crlf C k ++ rowTo m crlf k C = textTo m crlf C (k + 1) := by
  simp [textTo, rowL, h]

theorem item_next {m : Int} {crlf : Bool} {k : Nat} {acc : List Int} (h : acc = textTo m crlf 0 k) : acc ++ [45, 32] ++ valL m k 0 ++ nlL crlf = textTo m crlf 0 (k + 1) := by
  rw [h]
  simp [textTo, rowL, itemL, rowTo]

theorem nl_cells (crlf : Bool) : Lib.strCells (if crlf then ⟨#[13, 10]⟩ else ⟨#[10]⟩) = (nlL crlf).map (Value.int .u8) := by cases crlf <;> rfl

/-- 'out = append(out, nl...)'. -/
theorem wpList_append_nl {P : Program} (w w0 : World) {ops : Array Oper} {rest : List Oper} {o : Oper} {a : Act} {Q : Exit → Act → World → Prop}
    (t u e : TypeId) (i : TypeInfo) (ht : P.underlying t = some (.slice e)) (hu : P.underlying u = some .string) (hi : P.info? e = some i) (hz : i.zero = some (.int .u8 0)) (hsize : i.size = 1) (hby : i.bytes = 1)
    (hg : o.guard = none) (s x : Operand) (hop : o.op = Op.call { callee := Callee.builtin Builtin.append, args := #[s, x], argTypes := #[t, u] })
    (base : Nat) (v : Value) (acc L : List Int) (str : ByteArray) (hs : a.eval s = v) (hx : a.eval x = .string str) (hL : Lib.strCells str = L.map (Value.int .u8)) (hsz : str.size = L.length)
    (hown : w.ownsRow base e 1 v acc.length (acc.map (Value.int .u8))) (hbel : Below base w0 w) (hbase : base ≤ w0.heap.size) (hlen : acc.length ≤ 16777216) (hlen2 : L.length ≤ 16777216)
    (h : ∀ v' w', w'.ownsRow base e 1 v' (acc ++ L).length ((acc ++ L).map (Value.int .u8)) → Below base w0 w' → wpList P ops Q rest (a.put o.dst v') w') :
    wpList P ops Q (o :: rest) a w := by
  have hsz2 := hbel.size
  refine Lib.wpList_append_own_string _ hg s x t u hop base e i ht hu hi hz hsize hby v _ _ hs hown str hx (by unfold maxLen; omega) (by omega) (by omega) ?_
  intro v' w' h1 h2 _
  refine h v' w' ?_ (hbel.grown h2 (by omega) (fun j hj => (hown.lt j hj).1))
  rw [List.length_append, List.map_append, ← hL, ← hsz]
  exact h1

theorem count_of_row {w : World} {base : Nat} {v : Value} {T : List Int} (h : w.ownsRow base 5 1 v T.length (T.map (Value.int .u8))) (hn : T.length ≤ 1048576) :
    Calls Try.prog 14 #[v] w fun e w' => e = .returned (.tuple #[.int .i64 (marksTo T T.length).nodes, .int .i64 (marksTo T T.length).aliases, .int .i64 (marksTo T T.length).anchors]) ∧ Below w.heap.size w w' := by
  obtain ⟨a, c, rfl, hs, _, _⟩ := owns_seg h
  rcases hs with rfl | ⟨b, o, rfl, hc⟩
  · exact zz14_of _ 2 0 0 _ (marks19e a c _)
  · exact zz14_of _ _ _ _ _ (marks19 b o c T.length T _ rfl (fun i hi => hc i hi) hn)

theorem prod1 {R C : Nat} (hp : (R : Int) * ((C : Int) + 1) ≤ 16384) : 0 ≤ (R : Int) * (C : Int) ∧ (R : Int) * (C : Int) ≤ 16384 := by
  rw [Int.mul_add, Int.mul_one] at hp
  exact ⟨Int.mul_nonneg (by omega) (by omega), by omega⟩

theorem prod2 {R C : Nat} (hp : (R : Int) * ((C : Int) + 1) ≤ 16384) : 0 ≤ (R : Int) * (1 + (C : Int) * 2) ∧ (R : Int) * (1 + (C : Int) * 2) ≤ 65536 := by
  have h := prod1 hp
  rw [Int.mul_add, Int.mul_one] at hp
  rw [Int.mul_add, Int.mul_one, ← Int.mul_assoc]
  omega

theorem prod3 {R C : Nat} (hp : (R : Int) * ((C : Int) + 1) ≤ 16384) : 0 ≤ (R : Int) * (1 + (C : Int) * 3) ∧ (R : Int) * (1 + (C : Int) * 3) ≤ 65536 := by
  have h := prod1 hp
  rw [Int.mul_add, Int.mul_one] at hp
  rw [Int.mul_add, Int.mul_one, ← Int.mul_assoc]
  omega

set_option maxRecDepth 100000 in
set_option maxHeartbeats 4000000 in
/-- Rows without keys. -/
theorem main6z_false (R : Nat) (m : Int) (w : World) (hm : 0 ≤ m ∧ m ≤ 255) (hR : R ≤ 16384) :
    Calls Try.prog 6 #[.int .i64 (R : Int), .int .i64 0, .int .u8 m, .bool false] w fun e w' => e = .returned (.bool true) ∧ Below w.heap.size w w' := by
  obtain ⟨i0, hi, hz0, hz1, hz2⟩ := info_parts Try.infoB
  go_enter Try.func6, Try.ntmps6
  go_wp2
  go_loopg [10, 11] R (fun g v i wr => ∃ (k : Nat) (acc : List Int), k ≤ R ∧ g + k = R ∧ i = .int .i64 k ∧ Hid (acc = textTo m false 0 k) ∧ acc.length ≤ 655360 ∧ wr.ownsRow w.heap.size 5 1 v acc.length (acc.map (Value.int .u8)) ∧ Below w.heap.size w wr)
  case atStart => exact ⟨0, [], by omega, by omega, rfl, rfl, by simp, ⟨rfl, .inl ⟨rfl, rfl⟩⟩, Below.refl _ _⟩
  case round =>
    obtain ⟨k, acc, hk, hgk, rfl, HA, hacc, hown, hb⟩ := hrel
    by_cases hlt : k < R
    · have hval := val_len m (i := k) (j := 0) (by omega) (by omega)
      go_wp2_with (first
        | (at_builtin; refine wpList_append_two _ w .u8 30 5 i0 1 Try.underlying30 hi hz0 hz1 hz2 (by omega) rfl (.tmp 48) (.tmp 49) rfl w.heap.size _ (acc) _ _ rfl rfl hown hb (Nat.le_refl _) (by (try simp only [List.length_append, List.length_cons, List.length_nil]); omega) ?_; intro va1 xa1 howna1 hba1; clear hown hb))
      refine (val16 m k 0 _ _ w.heap.size w _ _ (acc ++ [45, 32]) rfl rfl (by omega) (by omega) hm (by (try simp only [List.length_append, List.length_cons, List.length_nil]); omega) (Nat.le_refl _) howna1 hba1).mono ?_
      clear howna1 hba1
      rintro e xa2 ⟨va2, rfl, howna2, hba2⟩
      go_wp2_with (first
        | (at_builtin; refine wpList_append_nl _ w 30 9 5 i0 Try.underlying30 Try.underlying9 hi hz0 hz1 hz2 rfl (.tmp 55) (.tmp 56) rfl w.heap.size _ (acc ++ [45, 32] ++ valL m k 0) (nlL false) ⟨#[10]⟩ rfl rfl (nl_cells false) rfl howna2 hba2 (Nat.le_refl _) (by (try simp only [List.length_append, List.length_cons, List.length_nil]); omega) (by decide) ?_; intro va3 xa3 howna3 hba3; clear howna2 hba2))
      have HA2 : Hid (acc ++ [45, 32] ++ valL m k 0 ++ nlL false = textTo m false 0 (k + 1)) := item_next HA.out
      have hb2 : (acc ++ [45, 32] ++ valL m k 0 ++ nlL false).length ≤ 655360 := by rw [HA2.out]; exact text_bound m false hR (by omega) (by omega) hlt
      go_loopg [10, 12] 0 (fun g v j wr => j = .int .i64 0 ∧ wr.ownsRow w.heap.size 5 1 v (acc ++ [45, 32] ++ valL m k 0 ++ nlL false).length ((acc ++ [45, 32] ++ valL m k 0 ++ nlL false).map (Value.int .u8)) ∧ Below w.heap.size w wr)
      case atStart => exact ⟨rfl, howna3, hba3⟩
      case round =>
        clear howna3 hba3
        obtain ⟨rfl, hown2, hb3⟩ := hrel
        go_wp2
        go_roundg (R - (k + 1))
        case rel => exact ⟨k + 1, _, by omega, by omega, by go_num, HA2.out, hb2, hown2, hb3⟩
        case measure => omega
    · have HA2 : Hid (acc = textTo m false 0 R) := by show _ = _; rw [HA.out, show k = R by omega]
      clear HA
      have hn := marks_text m false 0 R
      rw [← HA2.out] at hn
      clear HA2
      go_wp2_with fail
      refine (count_of_row hown (by omega)).mono ?_
      rintro e w6 ⟨rfl, hb6⟩
      have hbf := hb.trans (hb6.mono hb.size)
      clear hown hb hb6
      generalize (marksTo acc acc.length).nodes = n1 at hn ⊢
      generalize (marksTo acc acc.length).aliases = n2 at hn ⊢
      generalize (marksTo acc acc.length).anchors = n3 at hn ⊢
      obtain ⟨e1, e2, e3⟩ := hn
      clear hacc
      by_cases h1 : m = 1
      · subst h1
        have f1 : (n1 : Int) = 2 + (R : Int) := by rw [e1]; simp [rowN, pv]
        have f2 : (n2 : Int) = (R : Int) := by rw [e2]; simp [rowV, hit]
        have f3 : (n3 : Int) = 0 := by rw [e3]; simp [rowV, hit]
        clear e1 e2 e3
        rw [f1, f2, f3]
        clear f1 f2 f3
        go_wp2
        go_ret
        exact ⟨rfl, hbf⟩
      by_cases h2 : m = 2
      · subst h2
        have f1 : (n1 : Int) = 2 + (R : Int) * 2 := by rw [e1]; simp [rowN, pv]
        have f2 : (n2 : Int) = 0 := by rw [e2]; simp [rowV, hit]
        have f3 : (n3 : Int) = (R : Int) := by rw [e3]; simp [rowV, hit]
        clear e1 e2 e3
        rw [f1, f2, f3]
        clear f1 f2 f3
        go_wp2
        go_ret
        exact ⟨rfl, hbf⟩
      · have h1' := h1
        have f1 : (n1 : Int) = 2 + (R : Int) := by rw [e1]; simp [rowN, pv, h2]
        have f2 : (n2 : Int) = 0 := by rw [e2]; simp [rowV, hit, h1]
        have f3 : (n3 : Int) = 0 := by rw [e3]; simp [rowV, hit, h2]
        clear e1 e2 e3
        rw [f1, f2, f3]
        clear f1 f2 f3
        go_wp2
        go_ret
        exact ⟨rfl, hbf⟩

set_option maxRecDepth 100000 in
set_option maxHeartbeats 4000000 in
/-- Rows with keys. -/
theorem main6_false (R C : Nat) (m : Int) (w : World) (hm : 0 ≤ m ∧ m ≤ 255) (hR : R ≤ 16384) (hC : C ≤ 16384) (hc0 : ¬ C = 0) (hp : (R : Int) * ((C : Int) + 1) ≤ 16384) :
    Calls Try.prog 6 #[.int .i64 (R : Int), .int .i64 (C : Int), .int .u8 m, .bool false] w fun e w' => e = .returned (.bool true) ∧ Below w.heap.size w w' := by
  have hp0 : 0 ≤ (R : Int) * ((C : Int) + 1) := Int.mul_nonneg (by omega) (by omega)
  have HP : Hid (R * (C + 1) ≤ 16384) := by show _ ≤ _; exact_mod_cast hp
  have hcz : ((C : Int) == 0) = false := by simp; omega
  have hc1 : 0 < (C : Int) := by omega
  obtain ⟨i0, hi, hz0, hz1, hz2⟩ := info_parts Try.infoB
  go_enter Try.func6, Try.ntmps6
  go_wp2
  go_loopg [10, 11] R (fun g v i wr => ∃ (k : Nat) (acc : List Int), k ≤ R ∧ g + k = R ∧ i = .int .i64 k ∧ Hid (acc = textTo m false C k) ∧ acc.length ≤ 655360 ∧ wr.ownsRow w.heap.size 5 1 v acc.length (acc.map (Value.int .u8)) ∧ Below w.heap.size w wr)
  case atStart => exact ⟨0, [], by omega, by omega, rfl, rfl, by simp, ⟨rfl, .inl ⟨rfl, rfl⟩⟩, Below.refl _ _⟩
  case round =>
    obtain ⟨k, acc, hk, hgk, rfl, HA, hacc, hown, hb⟩ := hrel
    by_cases hlt : k < R
    · have HQ : Hid (acc = textTo m false C k ++ rowTo m false k 0) := by show _ = _; rw [HA.out]; simp [rowTo]
      go_wp2
      go_loopg [10, 12] C (fun g v j wr => ∃ (q : Nat) (acc : List Int), q ≤ C ∧ g + q = C ∧ j = .int .i64 q ∧ Hid (acc = textTo m false C k ++ rowTo m false k q) ∧ acc.length ≤ 655360 ∧ wr.ownsRow w.heap.size 5 1 v acc.length (acc.map (Value.int .u8)) ∧ Below w.heap.size w wr)
      case atStart => exact ⟨0, acc, by omega, by omega, rfl, HQ.out, hacc, hown, hb⟩
      case round =>
        clear hown hb HQ HA hacc
        obtain ⟨q, acc, hq, hgq, rfl, HA, hacc, hown, hb⟩ := hrel
        have hval := val_len m (i := k) (j := q) (by omega) (by omega)
        have hdig := digs5 (x := q) (by omega)
        by_cases hqC : q < C
        · by_cases hq0 : q = 0
          · subst hq0
            go_wp2_with (first
              | (at_builtin; refine wpList_append_two _ w .u8 30 5 i0 1 Try.underlying30 hi hz0 hz1 hz2 (by omega) rfl (.tmp 65) (.tmp 66) rfl w.heap.size _ (acc) _ _ rfl rfl hown hb (Nat.le_refl _) (by (try simp only [List.length_append, List.length_cons, List.length_nil]); omega) ?_; intro vb1 xb1 hownb1 hbb1; clear hown hb)
              | (at_builtin; refine wpList_append_one _ w .u8 30 5 i0 1 Try.underlying30 hi hz0 hz1 hz2 (by omega) rfl (.tmp 71) (.tmp 72) rfl w.heap.size _ (acc ++ [45, 32]) _ rfl rfl hownb1 hbb1 (Nat.le_refl _) (by (try simp only [List.length_append, List.length_cons, List.length_nil]); omega) ?_; intro vb2 xb2 hownb2 hbb2; clear hownb1 hbb1))
            refine (int17 0 _ w.heap.size w _ _ (acc ++ [45, 32] ++ [107]) rfl (by omega) (by (try simp only [List.length_append, List.length_cons, List.length_nil]); omega) (Nat.le_refl _) hownb2 hbb2).mono ?_
            clear hownb2 hbb2
            rintro e xb3 ⟨vb3, rfl, hownb3, hbb3⟩
            go_wp2_with (first
              | (at_builtin; refine wpList_append_two _ w .u8 30 5 i0 1 Try.underlying30 hi hz0 hz1 hz2 (by omega) rfl (.tmp 77) (.tmp 78) rfl w.heap.size _ (acc ++ [45, 32] ++ [107] ++ digs 0) _ _ rfl rfl hownb3 hbb3 (Nat.le_refl _) (by (try simp only [List.length_append, List.length_cons, List.length_nil]); omega) ?_; intro vb4 xb4 hownb4 hbb4; clear hownb3 hbb3))
            refine (val16 m k 0 _ _ w.heap.size w _ _ (acc ++ [45, 32] ++ [107] ++ digs 0 ++ [58, 32]) rfl rfl (by omega) (by omega) hm (by (try simp only [List.length_append, List.length_cons, List.length_nil]); omega) (Nat.le_refl _) hownb4 hbb4).mono ?_
            clear hownb4 hbb4
            rintro e xb5 ⟨vb5, rfl, hownb5, hbb5⟩
            go_wp2_with (first
              | (at_builtin; refine wpList_append_nl _ w 30 9 5 i0 Try.underlying30 Try.underlying9 hi hz0 hz1 hz2 rfl (.tmp 85) (.tmp 86) rfl w.heap.size _ (acc ++ [45, 32] ++ [107] ++ digs 0 ++ [58, 32] ++ valL m k 0) (nlL false) ⟨#[10]⟩ rfl rfl (nl_cells false) rfl hownb5 hbb5 (Nat.le_refl _) (by (try simp only [List.length_append, List.length_cons, List.length_nil]); omega) (by decide) ?_; intro vb6 xb6 hownb6 hbb6; clear hownb5 hbb5))
            have HA2 : Hid (acc ++ [45, 32] ++ [107] ++ digs 0 ++ [58, 32] ++ valL m k 0 ++ nlL false = textTo m false C k ++ rowTo m false k (0 + 1)) := row_first HA.out rfl
            have hb2 : (acc ++ [45, 32] ++ [107] ++ digs 0 ++ [58, 32] ++ valL m k 0 ++ nlL false).length ≤ 655360 := by rw [HA2.out]; exact part_bound m false hR hC HP.out hlt hqC
            go_roundg (C - (0 + 1))
            case rel => exact ⟨0 + 1, _, by omega, by omega, by go_num, HA2.out, hb2, hownb6, hbb6⟩
            case measure => omega
          · have hq1 : ¬ (q : Int) = 0 := by omega
            go_wp2_with (first
              | (at_builtin; refine wpList_append_two _ w .u8 30 5 i0 1 Try.underlying30 hi hz0 hz1 hz2 (by omega) rfl (.tmp 68) (.tmp 69) rfl w.heap.size _ (acc) _ _ rfl rfl hown hb (Nat.le_refl _) (by (try simp only [List.length_append, List.length_cons, List.length_nil]); omega) ?_; intro vc1 xc1 hownc1 hbc1; clear hown hb)
              | (at_builtin; refine wpList_append_one _ w .u8 30 5 i0 1 Try.underlying30 hi hz0 hz1 hz2 (by omega) rfl (.tmp 71) (.tmp 72) rfl w.heap.size _ (acc ++ [32, 32]) _ rfl rfl hownc1 hbc1 (Nat.le_refl _) (by (try simp only [List.length_append, List.length_cons, List.length_nil]); omega) ?_; intro vc2 xc2 hownc2 hbc2; clear hownc1 hbc1))
            refine (int17 q _ w.heap.size w _ _ (acc ++ [32, 32] ++ [107]) rfl (by omega) (by (try simp only [List.length_append, List.length_cons, List.length_nil]); omega) (Nat.le_refl _) hownc2 hbc2).mono ?_
            clear hownc2 hbc2
            rintro e xc3 ⟨vc3, rfl, hownc3, hbc3⟩
            go_wp2_with (first
              | (at_builtin; refine wpList_append_two _ w .u8 30 5 i0 1 Try.underlying30 hi hz0 hz1 hz2 (by omega) rfl (.tmp 77) (.tmp 78) rfl w.heap.size _ (acc ++ [32, 32] ++ [107] ++ digs q) _ _ rfl rfl hownc3 hbc3 (Nat.le_refl _) (by (try simp only [List.length_append, List.length_cons, List.length_nil]); omega) ?_; intro vc4 xc4 hownc4 hbc4; clear hownc3 hbc3))
            refine (val16 m k q _ _ w.heap.size w _ _ (acc ++ [32, 32] ++ [107] ++ digs q ++ [58, 32]) rfl rfl (by omega) (by omega) hm (by (try simp only [List.length_append, List.length_cons, List.length_nil]); omega) (Nat.le_refl _) hownc4 hbc4).mono ?_
            clear hownc4 hbc4
            rintro e xc5 ⟨vc5, rfl, hownc5, hbc5⟩
            go_wp2_with (first
              | (at_builtin; refine wpList_append_nl _ w 30 9 5 i0 Try.underlying30 Try.underlying9 hi hz0 hz1 hz2 rfl (.tmp 85) (.tmp 86) rfl w.heap.size _ (acc ++ [32, 32] ++ [107] ++ digs q ++ [58, 32] ++ valL m k q) (nlL false) ⟨#[10]⟩ rfl rfl (nl_cells false) rfl hownc5 hbc5 (Nat.le_refl _) (by (try simp only [List.length_append, List.length_cons, List.length_nil]); omega) (by decide) ?_; intro vc6 xc6 hownc6 hbc6; clear hownc5 hbc5))
            have HA2 : Hid (acc ++ [32, 32] ++ [107] ++ digs q ++ [58, 32] ++ valL m k q ++ nlL false = textTo m false C k ++ rowTo m false k (q + 1)) := row_next HA.out hq0
            have hb2 : (acc ++ [32, 32] ++ [107] ++ digs q ++ [58, 32] ++ valL m k q ++ nlL false).length ≤ 655360 := by rw [HA2.out]; exact part_bound m false hR hC HP.out hlt hqC
            go_roundg (C - (q + 1))
            case rel => exact ⟨q + 1, _, by omega, by omega, by go_num, HA2.out, hb2, hownc6, hbc6⟩
            case measure => omega
        · have HA2 : Hid (acc = textTo m false C (k + 1)) := by show _ = _; rw [HA.out, show q = C by omega]; exact row_done hc0
          go_wp2
          go_roundg (R - (k + 1))
          case rel => exact ⟨k + 1, acc, by omega, by omega, by go_num, HA2.out, hacc, hown, hb⟩
          case measure => omega
    · have HA2 : Hid (acc = textTo m false C R) := by show _ = _; rw [HA.out, show k = R by omega]
      clear HA
      have hn := marks_text m false C R
      rw [← HA2.out] at hn
      clear HA2
      go_wp2_with fail
      refine (count_of_row hown (by omega)).mono ?_
      rintro e w6 ⟨rfl, hb6⟩
      have hbf := hb.trans (hb6.mono hb.size)
      clear hown hb hb6
      generalize (marksTo acc acc.length).nodes = n1 at hn ⊢
      generalize (marksTo acc acc.length).aliases = n2 at hn ⊢
      generalize (marksTo acc acc.length).anchors = n3 at hn ⊢
      obtain ⟨e1, e2, e3⟩ := hn
      clear hacc
      by_cases h1 : m = 1
      · subst h1
        have f1 : (n1 : Int) = 2 + (R : Int) * (1 + (C : Int) * 2) := by rw [e1]; simp [rowN, pv, hc0]
        have f2 : (n2 : Int) = (R : Int) * (C : Int) := by rw [e2]; simp [rowV, hit, hc0]
        have f3 : (n3 : Int) = 0 := by rw [e3]; simp [rowV, hit, hc0]
        have p1 : 0 ≤ (R : Int) * (C : Int) ∧ (R : Int) * (C : Int) ≤ 16384 := prod1 hp
        have p2 : 0 ≤ (R : Int) * (1 + (C : Int) * 2) ∧ (R : Int) * (1 + (C : Int) * 2) ≤ 65536 := prod2 hp
        clear e1 e2 e3
        rw [f1, f2, f3]
        clear f1 f2 f3
        go_wp2
        go_ret
        exact ⟨rfl, hbf⟩
      by_cases h2 : m = 2
      · subst h2
        have f1 : (n1 : Int) = 2 + (R : Int) * (1 + (C : Int) * 3) := by rw [e1]; simp [rowN, pv, hc0]
        have f2 : (n2 : Int) = 0 := by rw [e2]; simp [rowV, hit, hc0]
        have f3 : (n3 : Int) = (R : Int) * (C : Int) := by rw [e3]; simp [rowV, hit, hc0]
        have p1 : 0 ≤ (R : Int) * (C : Int) ∧ (R : Int) * (C : Int) ≤ 16384 := prod1 hp
        have p2 : 0 ≤ (R : Int) * (1 + (C : Int) * 3) ∧ (R : Int) * (1 + (C : Int) * 3) ≤ 65536 := prod3 hp
        clear e1 e2 e3
        rw [f1, f2, f3]
        clear f1 f2 f3
        go_wp2
        go_ret
        exact ⟨rfl, hbf⟩
      · have h1' := h1
        have f1 : (n1 : Int) = 2 + (R : Int) * (1 + (C : Int) * 2) := by rw [e1]; simp [rowN, pv, h2, hc0]
        have f2 : (n2 : Int) = 0 := by rw [e2]; simp [rowV, hit, h1, hc0]
        have f3 : (n3 : Int) = 0 := by rw [e3]; simp [rowV, hit, h2, hc0]
        have p1 : 0 ≤ (R : Int) * (C : Int) ∧ (R : Int) * (C : Int) ≤ 16384 := prod1 hp
        have p2 : 0 ≤ (R : Int) * (1 + (C : Int) * 2) ∧ (R : Int) * (1 + (C : Int) * 2) ≤ 65536 := prod2 hp
        clear e1 e2 e3
        rw [f1, f2, f3]
        clear f1 f2 f3
        go_wp2
        go_ret
        exact ⟨rfl, hbf⟩

set_option maxRecDepth 100000 in
set_option maxHeartbeats 4000000 in
/-- Rows without keys. -/
theorem main6z_true (R : Nat) (m : Int) (w : World) (hm : 0 ≤ m ∧ m ≤ 255) (hR : R ≤ 16384) :
    Calls Try.prog 6 #[.int .i64 (R : Int), .int .i64 0, .int .u8 m, .bool true] w fun e w' => e = .returned (.bool true) ∧ Below w.heap.size w w' := by
  obtain ⟨i0, hi, hz0, hz1, hz2⟩ := info_parts Try.infoB
  go_enter Try.func6, Try.ntmps6
  go_wp2
  go_loopg [10, 11] R (fun g v i wr => ∃ (k : Nat) (acc : List Int), k ≤ R ∧ g + k = R ∧ i = .int .i64 k ∧ Hid (acc = textTo m true 0 k) ∧ acc.length ≤ 655360 ∧ wr.ownsRow w.heap.size 5 1 v acc.length (acc.map (Value.int .u8)) ∧ Below w.heap.size w wr)
  case atStart => exact ⟨0, [], by omega, by omega, rfl, rfl, by simp, ⟨rfl, .inl ⟨rfl, rfl⟩⟩, Below.refl _ _⟩
  case round =>
    obtain ⟨k, acc, hk, hgk, rfl, HA, hacc, hown, hb⟩ := hrel
    by_cases hlt : k < R
    · have hval := val_len m (i := k) (j := 0) (by omega) (by omega)
      go_wp2_with (first
        | (at_builtin; refine wpList_append_two _ w .u8 30 5 i0 1 Try.underlying30 hi hz0 hz1 hz2 (by omega) rfl (.tmp 48) (.tmp 49) rfl w.heap.size _ (acc) _ _ rfl rfl hown hb (Nat.le_refl _) (by (try simp only [List.length_append, List.length_cons, List.length_nil]); omega) ?_; intro va1 xa1 howna1 hba1; clear hown hb))
      refine (val16 m k 0 _ _ w.heap.size w _ _ (acc ++ [45, 32]) rfl rfl (by omega) (by omega) hm (by (try simp only [List.length_append, List.length_cons, List.length_nil]); omega) (Nat.le_refl _) howna1 hba1).mono ?_
      clear howna1 hba1
      rintro e xa2 ⟨va2, rfl, howna2, hba2⟩
      go_wp2_with (first
        | (at_builtin; refine wpList_append_nl _ w 30 9 5 i0 Try.underlying30 Try.underlying9 hi hz0 hz1 hz2 rfl (.tmp 55) (.tmp 56) rfl w.heap.size _ (acc ++ [45, 32] ++ valL m k 0) (nlL true) ⟨#[13, 10]⟩ rfl rfl (nl_cells true) rfl howna2 hba2 (Nat.le_refl _) (by (try simp only [List.length_append, List.length_cons, List.length_nil]); omega) (by decide) ?_; intro va3 xa3 howna3 hba3; clear howna2 hba2))
      have HA2 : Hid (acc ++ [45, 32] ++ valL m k 0 ++ nlL true = textTo m true 0 (k + 1)) := item_next HA.out
      have hb2 : (acc ++ [45, 32] ++ valL m k 0 ++ nlL true).length ≤ 655360 := by rw [HA2.out]; exact text_bound m true hR (by omega) (by omega) hlt
      go_loopg [10, 12] 0 (fun g v j wr => j = .int .i64 0 ∧ wr.ownsRow w.heap.size 5 1 v (acc ++ [45, 32] ++ valL m k 0 ++ nlL true).length ((acc ++ [45, 32] ++ valL m k 0 ++ nlL true).map (Value.int .u8)) ∧ Below w.heap.size w wr)
      case atStart => exact ⟨rfl, howna3, hba3⟩
      case round =>
        clear howna3 hba3
        obtain ⟨rfl, hown2, hb3⟩ := hrel
        go_wp2
        go_roundg (R - (k + 1))
        case rel => exact ⟨k + 1, _, by omega, by omega, by go_num, HA2.out, hb2, hown2, hb3⟩
        case measure => omega
    · have HA2 : Hid (acc = textTo m true 0 R) := by show _ = _; rw [HA.out, show k = R by omega]
      clear HA
      have hn := marks_text m true 0 R
      rw [← HA2.out] at hn
      clear HA2
      go_wp2_with fail
      refine (count_of_row hown (by omega)).mono ?_
      rintro e w6 ⟨rfl, hb6⟩
      have hbf := hb.trans (hb6.mono hb.size)
      clear hown hb hb6
      generalize (marksTo acc acc.length).nodes = n1 at hn ⊢
      generalize (marksTo acc acc.length).aliases = n2 at hn ⊢
      generalize (marksTo acc acc.length).anchors = n3 at hn ⊢
      obtain ⟨e1, e2, e3⟩ := hn
      clear hacc
      by_cases h1 : m = 1
      · subst h1
        have f1 : (n1 : Int) = 2 + (R : Int) := by rw [e1]; simp [rowN, pv]
        have f2 : (n2 : Int) = (R : Int) := by rw [e2]; simp [rowV, hit]
        have f3 : (n3 : Int) = 0 := by rw [e3]; simp [rowV, hit]
        clear e1 e2 e3
        rw [f1, f2, f3]
        clear f1 f2 f3
        go_wp2
        go_ret
        exact ⟨rfl, hbf⟩
      by_cases h2 : m = 2
      · subst h2
        have f1 : (n1 : Int) = 2 + (R : Int) * 2 := by rw [e1]; simp [rowN, pv]
        have f2 : (n2 : Int) = 0 := by rw [e2]; simp [rowV, hit]
        have f3 : (n3 : Int) = (R : Int) := by rw [e3]; simp [rowV, hit]
        clear e1 e2 e3
        rw [f1, f2, f3]
        clear f1 f2 f3
        go_wp2
        go_ret
        exact ⟨rfl, hbf⟩
      · have h1' := h1
        have f1 : (n1 : Int) = 2 + (R : Int) := by rw [e1]; simp [rowN, pv, h2]
        have f2 : (n2 : Int) = 0 := by rw [e2]; simp [rowV, hit, h1]
        have f3 : (n3 : Int) = 0 := by rw [e3]; simp [rowV, hit, h2]
        clear e1 e2 e3
        rw [f1, f2, f3]
        clear f1 f2 f3
        go_wp2
        go_ret
        exact ⟨rfl, hbf⟩

set_option maxRecDepth 100000 in
set_option maxHeartbeats 4000000 in
/-- Rows with keys. -/
theorem main6_true (R C : Nat) (m : Int) (w : World) (hm : 0 ≤ m ∧ m ≤ 255) (hR : R ≤ 16384) (hC : C ≤ 16384) (hc0 : ¬ C = 0) (hp : (R : Int) * ((C : Int) + 1) ≤ 16384) :
    Calls Try.prog 6 #[.int .i64 (R : Int), .int .i64 (C : Int), .int .u8 m, .bool true] w fun e w' => e = .returned (.bool true) ∧ Below w.heap.size w w' := by
  have hp0 : 0 ≤ (R : Int) * ((C : Int) + 1) := Int.mul_nonneg (by omega) (by omega)
  have HP : Hid (R * (C + 1) ≤ 16384) := by show _ ≤ _; exact_mod_cast hp
  have hcz : ((C : Int) == 0) = false := by simp; omega
  have hc1 : 0 < (C : Int) := by omega
  obtain ⟨i0, hi, hz0, hz1, hz2⟩ := info_parts Try.infoB
  go_enter Try.func6, Try.ntmps6
  go_wp2
  go_loopg [10, 11] R (fun g v i wr => ∃ (k : Nat) (acc : List Int), k ≤ R ∧ g + k = R ∧ i = .int .i64 k ∧ Hid (acc = textTo m true C k) ∧ acc.length ≤ 655360 ∧ wr.ownsRow w.heap.size 5 1 v acc.length (acc.map (Value.int .u8)) ∧ Below w.heap.size w wr)
  case atStart => exact ⟨0, [], by omega, by omega, rfl, rfl, by simp, ⟨rfl, .inl ⟨rfl, rfl⟩⟩, Below.refl _ _⟩
  case round =>
    obtain ⟨k, acc, hk, hgk, rfl, HA, hacc, hown, hb⟩ := hrel
    by_cases hlt : k < R
    · have HQ : Hid (acc = textTo m true C k ++ rowTo m true k 0) := by show _ = _; rw [HA.out]; simp [rowTo]
      go_wp2
      go_loopg [10, 12] C (fun g v j wr => ∃ (q : Nat) (acc : List Int), q ≤ C ∧ g + q = C ∧ j = .int .i64 q ∧ Hid (acc = textTo m true C k ++ rowTo m true k q) ∧ acc.length ≤ 655360 ∧ wr.ownsRow w.heap.size 5 1 v acc.length (acc.map (Value.int .u8)) ∧ Below w.heap.size w wr)
      case atStart => exact ⟨0, acc, by omega, by omega, rfl, HQ.out, hacc, hown, hb⟩
      case round =>
        clear hown hb HQ HA hacc
        obtain ⟨q, acc, hq, hgq, rfl, HA, hacc, hown, hb⟩ := hrel
        have hval := val_len m (i := k) (j := q) (by omega) (by omega)
        have hdig := digs5 (x := q) (by omega)
        by_cases hqC : q < C
        · by_cases hq0 : q = 0
          · subst hq0
            go_wp2_with (first
              | (at_builtin; refine wpList_append_two _ w .u8 30 5 i0 1 Try.underlying30 hi hz0 hz1 hz2 (by omega) rfl (.tmp 65) (.tmp 66) rfl w.heap.size _ (acc) _ _ rfl rfl hown hb (Nat.le_refl _) (by (try simp only [List.length_append, List.length_cons, List.length_nil]); omega) ?_; intro vb1 xb1 hownb1 hbb1; clear hown hb)
              | (at_builtin; refine wpList_append_one _ w .u8 30 5 i0 1 Try.underlying30 hi hz0 hz1 hz2 (by omega) rfl (.tmp 71) (.tmp 72) rfl w.heap.size _ (acc ++ [45, 32]) _ rfl rfl hownb1 hbb1 (Nat.le_refl _) (by (try simp only [List.length_append, List.length_cons, List.length_nil]); omega) ?_; intro vb2 xb2 hownb2 hbb2; clear hownb1 hbb1))
            refine (int17 0 _ w.heap.size w _ _ (acc ++ [45, 32] ++ [107]) rfl (by omega) (by (try simp only [List.length_append, List.length_cons, List.length_nil]); omega) (Nat.le_refl _) hownb2 hbb2).mono ?_
            clear hownb2 hbb2
            rintro e xb3 ⟨vb3, rfl, hownb3, hbb3⟩
            go_wp2_with (first
              | (at_builtin; refine wpList_append_two _ w .u8 30 5 i0 1 Try.underlying30 hi hz0 hz1 hz2 (by omega) rfl (.tmp 77) (.tmp 78) rfl w.heap.size _ (acc ++ [45, 32] ++ [107] ++ digs 0) _ _ rfl rfl hownb3 hbb3 (Nat.le_refl _) (by (try simp only [List.length_append, List.length_cons, List.length_nil]); omega) ?_; intro vb4 xb4 hownb4 hbb4; clear hownb3 hbb3))
            refine (val16 m k 0 _ _ w.heap.size w _ _ (acc ++ [45, 32] ++ [107] ++ digs 0 ++ [58, 32]) rfl rfl (by omega) (by omega) hm (by (try simp only [List.length_append, List.length_cons, List.length_nil]); omega) (Nat.le_refl _) hownb4 hbb4).mono ?_
            clear hownb4 hbb4
            rintro e xb5 ⟨vb5, rfl, hownb5, hbb5⟩
            go_wp2_with (first
              | (at_builtin; refine wpList_append_nl _ w 30 9 5 i0 Try.underlying30 Try.underlying9 hi hz0 hz1 hz2 rfl (.tmp 85) (.tmp 86) rfl w.heap.size _ (acc ++ [45, 32] ++ [107] ++ digs 0 ++ [58, 32] ++ valL m k 0) (nlL true) ⟨#[13, 10]⟩ rfl rfl (nl_cells true) rfl hownb5 hbb5 (Nat.le_refl _) (by (try simp only [List.length_append, List.length_cons, List.length_nil]); omega) (by decide) ?_; intro vb6 xb6 hownb6 hbb6; clear hownb5 hbb5))
            have HA2 : Hid (acc ++ [45, 32] ++ [107] ++ digs 0 ++ [58, 32] ++ valL m k 0 ++ nlL true = textTo m true C k ++ rowTo m true k (0 + 1)) := row_first HA.out rfl
            have hb2 : (acc ++ [45, 32] ++ [107] ++ digs 0 ++ [58, 32] ++ valL m k 0 ++ nlL true).length ≤ 655360 := by rw [HA2.out]; exact part_bound m true hR hC HP.out hlt hqC
            go_roundg (C - (0 + 1))
            case rel => exact ⟨0 + 1, _, by omega, by omega, by go_num, HA2.out, hb2, hownb6, hbb6⟩
            case measure => omega
          · have hq1 : ¬ (q : Int) = 0 := by omega
            go_wp2_with (first
              | (at_builtin; refine wpList_append_two _ w .u8 30 5 i0 1 Try.underlying30 hi hz0 hz1 hz2 (by omega) rfl (.tmp 68) (.tmp 69) rfl w.heap.size _ (acc) _ _ rfl rfl hown hb (Nat.le_refl _) (by (try simp only [List.length_append, List.length_cons, List.length_nil]); omega) ?_; intro vc1 xc1 hownc1 hbc1; clear hown hb)
              | (at_builtin; refine wpList_append_one _ w .u8 30 5 i0 1 Try.underlying30 hi hz0 hz1 hz2 (by omega) rfl (.tmp 71) (.tmp 72) rfl w.heap.size _ (acc ++ [32, 32]) _ rfl rfl hownc1 hbc1 (Nat.le_refl _) (by (try simp only [List.length_append, List.length_cons, List.length_nil]); omega) ?_; intro vc2 xc2 hownc2 hbc2; clear hownc1 hbc1))
            refine (int17 q _ w.heap.size w _ _ (acc ++ [32, 32] ++ [107]) rfl (by omega) (by (try simp only [List.length_append, List.length_cons, List.length_nil]); omega) (Nat.le_refl _) hownc2 hbc2).mono ?_
            clear hownc2 hbc2
            rintro e xc3 ⟨vc3, rfl, hownc3, hbc3⟩
            go_wp2_with (first
              | (at_builtin; refine wpList_append_two _ w .u8 30 5 i0 1 Try.underlying30 hi hz0 hz1 hz2 (by omega) rfl (.tmp 77) (.tmp 78) rfl w.heap.size _ (acc ++ [32, 32] ++ [107] ++ digs q) _ _ rfl rfl hownc3 hbc3 (Nat.le_refl _) (by (try simp only [List.length_append, List.length_cons, List.length_nil]); omega) ?_; intro vc4 xc4 hownc4 hbc4; clear hownc3 hbc3))
            refine (val16 m k q _ _ w.heap.size w _ _ (acc ++ [32, 32] ++ [107] ++ digs q ++ [58, 32]) rfl rfl (by omega) (by omega) hm (by (try simp only [List.length_append, List.length_cons, List.length_nil]); omega) (Nat.le_refl _) hownc4 hbc4).mono ?_
            clear hownc4 hbc4
            rintro e xc5 ⟨vc5, rfl, hownc5, hbc5⟩
            go_wp2_with (first
              | (at_builtin; refine wpList_append_nl _ w 30 9 5 i0 Try.underlying30 Try.underlying9 hi hz0 hz1 hz2 rfl (.tmp 85) (.tmp 86) rfl w.heap.size _ (acc ++ [32, 32] ++ [107] ++ digs q ++ [58, 32] ++ valL m k q) (nlL true) ⟨#[13, 10]⟩ rfl rfl (nl_cells true) rfl hownc5 hbc5 (Nat.le_refl _) (by (try simp only [List.length_append, List.length_cons, List.length_nil]); omega) (by decide) ?_; intro vc6 xc6 hownc6 hbc6; clear hownc5 hbc5))
            have HA2 : Hid (acc ++ [32, 32] ++ [107] ++ digs q ++ [58, 32] ++ valL m k q ++ nlL true = textTo m true C k ++ rowTo m true k (q + 1)) := row_next HA.out hq0
            have hb2 : (acc ++ [32, 32] ++ [107] ++ digs q ++ [58, 32] ++ valL m k q ++ nlL true).length ≤ 655360 := by rw [HA2.out]; exact part_bound m true hR hC HP.out hlt hqC
            go_roundg (C - (q + 1))
            case rel => exact ⟨q + 1, _, by omega, by omega, by go_num, HA2.out, hb2, hownc6, hbc6⟩
            case measure => omega
        · have HA2 : Hid (acc = textTo m true C (k + 1)) := by show _ = _; rw [HA.out, show q = C by omega]; exact row_done hc0
          go_wp2
          go_roundg (R - (k + 1))
          case rel => exact ⟨k + 1, acc, by omega, by omega, by go_num, HA2.out, hacc, hown, hb⟩
          case measure => omega
    · have HA2 : Hid (acc = textTo m true C R) := by show _ = _; rw [HA.out, show k = R by omega]
      clear HA
      have hn := marks_text m true C R
      rw [← HA2.out] at hn
      clear HA2
      go_wp2_with fail
      refine (count_of_row hown (by omega)).mono ?_
      rintro e w6 ⟨rfl, hb6⟩
      have hbf := hb.trans (hb6.mono hb.size)
      clear hown hb hb6
      generalize (marksTo acc acc.length).nodes = n1 at hn ⊢
      generalize (marksTo acc acc.length).aliases = n2 at hn ⊢
      generalize (marksTo acc acc.length).anchors = n3 at hn ⊢
      obtain ⟨e1, e2, e3⟩ := hn
      clear hacc
      by_cases h1 : m = 1
      · subst h1
        have f1 : (n1 : Int) = 2 + (R : Int) * (1 + (C : Int) * 2) := by rw [e1]; simp [rowN, pv, hc0]
        have f2 : (n2 : Int) = (R : Int) * (C : Int) := by rw [e2]; simp [rowV, hit, hc0]
        have f3 : (n3 : Int) = 0 := by rw [e3]; simp [rowV, hit, hc0]
        have p1 : 0 ≤ (R : Int) * (C : Int) ∧ (R : Int) * (C : Int) ≤ 16384 := prod1 hp
        have p2 : 0 ≤ (R : Int) * (1 + (C : Int) * 2) ∧ (R : Int) * (1 + (C : Int) * 2) ≤ 65536 := prod2 hp
        clear e1 e2 e3
        rw [f1, f2, f3]
        clear f1 f2 f3
        go_wp2
        go_ret
        exact ⟨rfl, hbf⟩
      by_cases h2 : m = 2
      · subst h2
        have f1 : (n1 : Int) = 2 + (R : Int) * (1 + (C : Int) * 3) := by rw [e1]; simp [rowN, pv, hc0]
        have f2 : (n2 : Int) = 0 := by rw [e2]; simp [rowV, hit, hc0]
        have f3 : (n3 : Int) = (R : Int) * (C : Int) := by rw [e3]; simp [rowV, hit, hc0]
        have p1 : 0 ≤ (R : Int) * (C : Int) ∧ (R : Int) * (C : Int) ≤ 16384 := prod1 hp
        have p2 : 0 ≤ (R : Int) * (1 + (C : Int) * 3) ∧ (R : Int) * (1 + (C : Int) * 3) ≤ 65536 := prod3 hp
        clear e1 e2 e3
        rw [f1, f2, f3]
        clear f1 f2 f3
        go_wp2
        go_ret
        exact ⟨rfl, hbf⟩
      · have h1' := h1
        have f1 : (n1 : Int) = 2 + (R : Int) * (1 + (C : Int) * 2) := by rw [e1]; simp [rowN, pv, h2, hc0]
        have f2 : (n2 : Int) = 0 := by rw [e2]; simp [rowV, hit, h1, hc0]
        have f3 : (n3 : Int) = 0 := by rw [e3]; simp [rowV, hit, h2, hc0]
        have p1 : 0 ≤ (R : Int) * (C : Int) ∧ (R : Int) * (C : Int) ≤ 16384 := prod1 hp
        have p2 : 0 ≤ (R : Int) * (1 + (C : Int) * 2) ∧ (R : Int) * (1 + (C : Int) * 2) ≤ 65536 := prod2 hp
        clear e1 e2 e3
        rw [f1, f2, f3]
        clear f1 f2 f3
        go_wp2
        go_ret
        exact ⟨rfl, hbf⟩

set_option maxRecDepth 100000 in
theorem law6 (a0 a1 m : Int) (crlf : Bool) (w : World) (hm : 0 ≤ m ∧ m ≤ 255) :
    Calls Try.prog 6 #[.int .i64 a0, .int .i64 a1, .int .u8 m, .bool crlf] w fun e w' => e = .returned (.bool true) ∧ Below w.heap.size w w' := by
  by_cases h0 : a0 < 0
  · go_enter Try.func6, Try.ntmps6
    go_wp2
    go_ret
    exact ⟨rfl, Below.refl _ _⟩
  by_cases h1 : a1 < 0
  · go_enter Try.func6, Try.ntmps6
    go_wp2
    go_ret
    exact ⟨rfl, Below.refl _ _⟩
  by_cases h2 : 16384 < a0
  · go_enter Try.func6, Try.ntmps6
    go_wp2
    go_ret
    exact ⟨rfl, Below.refl _ _⟩
  by_cases h3 : 16384 < a1
  · go_enter Try.func6, Try.ntmps6
    go_wp2
    go_ret
    exact ⟨rfl, Below.refl _ _⟩
  by_cases h4 : 16384 < a0 * (a1 + 1)
  · have h5 : a0 * (a1 + 1) ≤ 16384 * 16385 := Int.mul_le_mul (by omega) (by omega) (by omega) (by omega)
    go_enter Try.func6, Try.ntmps6
    go_wp2
    go_ret
    exact ⟨rfl, Below.refl _ _⟩
  obtain ⟨R, rfl⟩ : ∃ R : Nat, a0 = (R : Int) := ⟨a0.toNat, by omega⟩
  obtain ⟨C, rfl⟩ : ∃ C : Nat, a1 = (C : Int) := ⟨a1.toNat, by omega⟩
  by_cases hc : C = 0
  · subst hc
    cases crlf with
    | false => exact main6z_false R m w hm (by omega)
    | true => exact main6z_true R m w hm (by omega)
  · cases crlf with
    | false => exact main6_false R C m w hm (by omega) (by omega) hc (by omega)
    | true => exact main6_true R C m w hm (by omega) (by omega) hc (by omega)

end Go.Proofs.Qxb6605440a
