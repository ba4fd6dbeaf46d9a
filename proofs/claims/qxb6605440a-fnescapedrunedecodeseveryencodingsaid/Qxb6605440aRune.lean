import Derived.Test.Qxb6605440aHex
import Derived.Lib.ConvBytes
import Derived.WalkSmall
namespace Go.Proofs.Qxb6605440a
open Go.RowKit

/-- The bytes of a string, as numbers. -/
def sb (s : ByteArray) : List Int := s.data.toList.map fun b => (b.toNat : Int)

theorem sb_len (s : ByteArray) : (sb s).length = s.size := by simp [sb]

theorem sb_at (s : ByteArray) (k : Nat) (h : k < s.size) : (s[k].toNat : Int) = (sb s).getD k 0 := by
  have h' : k < s.data.toList.length := h
  simp only [sb, List.getD, List.getElem?_map, List.getElem?_eq_getElem h', Option.map_some, Option.getD_some]
  rfl

theorem sb_extract (s : ByteArray) (a b : Nat) : sb (s.extract a b) = ((sb s).drop a).take (b - a) := by
  simp only [sb, ByteArray.data_extract, Array.toList_extract, List.extract_eq_take_drop, List.map_take, List.map_drop]

theorem bytes_below (w : World) (e : TypeId) (s : ByteArray) : Below w.heap.size w (Lib.bytesWorld w e s) :=
  ⟨rfl, rfl, rfl, by rw [Lib.bytesWorld_size]; omega, fun k hk => Lib.bytesWorld_at_old w e s k hk⟩

theorem bytes_cell (w : World) (e : TypeId) (s : ByteArray) (i : Nat) (hi : i < s.size) : (Lib.bytesWorld w e s).cell? ⟨w.heap.size, i, none⟩ = some (.int .u8 ((sb s).getD i 0)) := by
  rw [Lib.bytesWorld_cell w e s i hi]
  have h' : i < s.data.toList.length := hi
  simp [sb, List.getD, List.getElem?_map, List.getElem?_eq_getElem h']

/-- The number of hexadecimal digits. -/
def val (l : List Nat) : Nat := l.foldl (fun a q => a * 16 + q) 0

theorem val_snoc (l : List Nat) (q : Nat) : val (l ++ [q]) = val l * 16 + q := by simp [val, List.foldl_append]

theorem fold_lt (l : List Nat) (h : ∀ q ∈ l, q < 16) (a : Nat) : l.foldl (fun a q => a * 16 + q) a < (a + 1) * 16 ^ l.length := by
  induction l generalizing a with
  | nil => simp
  | cons q t ih =>
    have h1 := ih (fun x hx => h x (List.mem_cons_of_mem _ hx)) (a * 16 + q)
    have h2 := h q List.mem_cons_self
    rw [List.foldl_cons, List.length_cons, Nat.pow_succ, Nat.mul_comm (16 ^ t.length) 16, ← Nat.mul_assoc]
    exact Nat.lt_of_lt_of_le h1 (Nat.mul_le_mul_right _ (by omega))

theorem val_lt (l : List Nat) (h : ∀ q ∈ l, q < 16) : val l < 16 ^ l.length := by
  have := fold_lt l h 0
  simpa [val] using this

def RuneEnd (r : Int) (w : World) (e : Ending) (w' : World) : Prop := Below w.heap.size w w' ∧ e = .returned (.tuple #[.int .i32 r, .bool true])

set_option maxHeartbeats 800000 in
theorem rune18 (s : ByteArray) (q0 q1 q2 q3 : Nat) (b0 b1 b2 b3 : Bool) (rest : List Int) (w : World) (h0 : q0 < 16) (h1 : q1 < 16) (h2 : q2 < 16) (h3 : q3 < 16)
    (hs : sb s = 92 :: 117 :: hexd q0 b0 :: hexd q1 b1 :: hexd q2 b2 :: hexd q3 b3 :: rest) (hsm : s.size ≤ 4194304) :
    Calls Try.prog 18 #[.string s] w (RuneEnd (val [q0, q1, q2, q3] : Nat) w) := by
  have hl := sb_len s
  rw [hs] at hl
  simp only [List.length_cons] at hl
  have h6 : 6 ≤ s.size := by omega
  have e0 : ((s[0]'(Nat.lt_of_lt_of_le (by decide) h6)).toNat : Int) = 92 := by rw [sb_at, hs]; rfl
  have e1 : ((s[1]'(Nat.lt_of_lt_of_le (by decide) h6)).toNat : Int) = 117 := by rw [sb_at, hs]; rfl
  have hx : sb (s.extract 2 6) = [hexd q0 b0, hexd q1 b1, hexd q2 b2, hexd q3 b3] := by rw [sb_extract, hs]; rfl
  have hxl : (s.extract 2 6).size = 4 := by rw [← sb_len, hx]; rfl
  have kb : (convert 9 30 (.string (s.extract 2 6))).run Try.prog w = .ok (.slice (some ⟨w.heap.size, 0, none⟩) (s.extract 2 6).size (grownCap w (s.extract 2 6).size 0 5)) (Lib.bytesWorld w 5 (s.extract 2 6)) := Lib.run_convert_string_bytes w 9 30 5 _ Try.underlying9 Try.underlying30 Try.underlying5
  have HX : Hid _ := hx
  have HL : Hid _ := hxl
  have HS : Hid _ := hs
  rw [hxl] at kb
  clear hl hs hx
  go_enter Try.func18, Try.ntmps18
  go_wp2
  have hbW := bytes_below w 5 (s.extract 2 6)
  obtain ⟨qs, hqs⟩ : ∃ qs, qs = [q0, q1, q2, q3] := ⟨_, rfl⟩
  obtain ⟨bs, hbs⟩ : ∃ bs, bs = [b0, b1, b2, b3] := ⟨_, rfl⟩
  have HQ : Hid (qs = [q0, q1, q2, q3]) := hqs
  have G : Hid (∀ k, k < 4 → (Lib.bytesWorld w 5 (s.extract 2 6)).cell? ⟨w.heap.size, k, none⟩ = some (.int .u8 (hexd (qs.getD k 0) (bs.getD k false)))) := by
    intro k hk
    rw [bytes_cell w 5 _ k (by omega), HX.out, hqs, hbs]
    have hc : k = 0 ∨ k = 1 ∨ k = 2 ∨ k = 3 := by omega
    rcases hc with rfl | rfl | rfl | rfl <;> rfl
  have HB : Hid (∀ q ∈ qs, q < 16) := by
    intro q hq
    rw [hqs] at hq
    simp at hq
    omega
  have HQL : Hid (qs.length = 4) := by show _ = _; rw [hqs]; rfl
  generalize Lib.bytesWorld w 5 (s.extract 2 6) = W at G hbW
  clear hqs hbs kb hxl HX HL HS e0 e1 h0 h1 h2 h3
  go_loop [4, 24] (fun sr si => ∃ (k V : Nat), k ≤ 4 ∧ V < 65536 ∧ si = .int .i64 k ∧ sr = .int .i32 V ∧ Hid (V = val (qs.take k))) (fun _ si => 4 - (intOf si).toNat)
  case atStart => exact ⟨0, 0, by omega, by omega, rfl, rfl, rfl⟩
  case round =>
    obtain ⟨k, V, hk, hV, rfl, rfl, HV⟩ := hrel
    by_cases hlt : k < 4
    · have g1 := G.out k hlt
      have hkl : k < qs.length := by have := HQL.out; omega
      have hq16 : qs.getD k 0 < 16 := HB.out _ (by simp [List.getD, hkl])
      have hV2 : V < 4096 := by
        rw [HV.out]
        have h1 := val_lt (qs.take k) (fun q hq => HB.out q (List.mem_of_mem_take hq))
        rw [List.length_take, Nat.min_eq_left (by omega)] at h1
        have h2 : 16 ^ k ≤ 16 ^ 3 := Nat.pow_le_pow_right (by omega) (by omega)
        omega
      have HV2 : Hid (V * 16 + qs.getD k 0 = val (qs.take (k + 1))) := by
        show _ = _
        rw [HV.out, List.take_succ_eq_append_getElem hkl, val_snoc]
        simp [List.getD, hkl]
      generalize qs.getD k 0 = q at g1 hq16 HV2
      generalize bs.getD k false = up at g1
      have ho : bits .or .i32 ((V : Int) * 16) (q : Int) = ((V * 16 + q : Nat) : Int) := by
        have h1 := (bits_nat .i32 31 (by decide) wraps_i32 (V * 16) q (by omega) (by omega)).2
        rw [nat_join 4 (V * 16) q (by omega) (by omega)] at h1
        simpa using h1
      clear hkl HV
      by_cases h10 : q < 10
      · rw [show hexd q up = 48 + (q : Int) by simp [hexd, h10]] at g1
        go_wp2
        go_round
        case rel => exact ⟨k + 1, V * 16 + q, by omega, by omega, by go_num, by rw [show 48 + (q : Int) - 48 = q by omega, ho], HV2⟩
        case measure => simp [intOf]; omega
      · cases up with
        | true =>
          rw [show hexd q true = 55 + (q : Int) by simp [hexd, h10]] at g1
          go_wp2
          go_round
          case rel => exact ⟨k + 1, V * 16 + q, by omega, by omega, by go_num, by rw [show 55 + (q : Int) - 55 = q by omega, ho], HV2⟩
          case measure => simp [intOf]; omega
        | false =>
          rw [show hexd q false = 87 + (q : Int) by simp [hexd, h10]] at g1
          go_wp2
          go_round
          case rel => exact ⟨k + 1, V * 16 + q, by omega, by omega, by go_num, by rw [show 87 + (q : Int) - 87 = q by omega, ho], HV2⟩
          case measure => simp [intOf]; omega
    · have HF : Hid (V = val [q0, q1, q2, q3]) := by
        show _ = _
        rw [HV.out, List.take_of_length_le (by have := HQL.out; omega), HQ.out]
      clear HV
      go_wp2
      go_ret2
      rw [← HF.out]
      exact ⟨hbW, rfl⟩

theorem zz8 (s : ByteArray) (r : Int) (w : World) (h18 : Hid (Calls Try.prog 18 #[.string s] w (RuneEnd r w))) :
    Calls Try.prog 8 #[.string s] w (RuneEnd r w) := by
  go_enter Try.func8, Try.ntmps8
  go_wp2_with fail
  refine (show Calls Try.prog 18 #[.string s] w (RuneEnd r w) from h18).mono ?_
  clear h18
  rintro e w' ⟨hb, rfl⟩
  go_wp2
  go_ret2
  exact ⟨hb, rfl⟩

end Go.Proofs.Qxb6605440a
