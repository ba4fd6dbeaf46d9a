import Derived.Test.Qxb6605425aDoorShelf
import Derived.Test.Qxb6605425aDoorCloneU
import Derived.ArgAppend
import Derived.Lib.ItoaLen
namespace Go.Proofs.Qxb6605425aDoor
open Go.RowKit

/-- A number's decimal digits, as bytes. -/
def decI (z : Int) : List Int := (Lib.decDigits z.toNat).map fun b => (b.toNat : Int)

/-- The numbers parted by commas; 'f': a comma stands ahead of the first too. -/
def bodyF : Bool → List Int → List Int
  | _, [] => []
  | f, z :: t => (if f then [44] else []) ++ decI z ++ bodyF true t

theorem bodyF_snoc (f : Bool) (us : List Int) (z : Int) : bodyF f (us ++ [z]) = bodyF f us ++ (if f || !us.isEmpty then [44] else []) ++ decI z := by
  induction us generalizing f with
  | nil => simp [bodyF]
  | cons c t ih =>
    simp [bodyF, ih]

theorem decI_len (z : Int) (h : z < 18446744073709551616) : (decI z).length ≤ 20 := by
  unfold decI
  rw [List.length_map, Lib.decDigits_length]
  exact Lib.nDigits_le20 _ (by omega)

theorem byteCells_decI (z : Int) : Lib.byteCells (Lib.decDigits z.toNat) = (decI z).map (Value.int .u8) := by
  simp [Lib.byteCells, decI, List.map_map, Function.comp]

theorem owns_mono {w : World} {B B' : Nat} {e : TypeId} {s : Nat} {v : Value} {n : Nat} {xs : List Value} (h : w.ownsRow B e s v n xs) (hB : B' ≤ B) : w.ownsRow B' e s v n xs := by
  obtain ⟨h1, h2⟩ := h
  refine ⟨h1, ?_⟩
  rcases h2 with h2 | ⟨g, cap, cur, hv, hg, r⟩
  · exact .inl h2
  · exact .inr ⟨g, cap, cur, hv, Nat.le_trans hB hg, r⟩

theorem body_take0 {us : List Int} (h : 0 < us.length) : bodyF false (us.take (0 + 1)) = bodyF false (us.take 0) ++ decI (us.getD 0 0) := by
  cases us with
  | nil => simp at h
  | cons c t => simp [bodyF]

theorem body_take {us : List Int} {k : Nat} (h : k < us.length) (hk : 0 < k) : bodyF false (us.take (k + 1)) = bodyF false (us.take k) ++ [44] ++ decI (us.getD k 0) := by
  rw [List.take_succ_eq_append_getElem h, bodyF_snoc]
  have : (us.take k).isEmpty = false := by
    rw [List.isEmpty_eq_false_iff]
    intro e
    have h1 := congrArg List.length e
    rw [List.length_take, List.length_nil] at h1
    omega
  simp [this, List.getD, h]

def SeqEnd (out : List Int) (w : World) (e : Ending) (w' : World) : Prop :=
  ∃ v', e = .returned v' ∧ w'.ownsRow w.heap.size 5 1 v' out.length (out.map (Value.int .u8)) ∧ Below w.heap.size w w'

theorem seg_cells {k : IntKind} {w : World} {a : Option Addr} {zs : List Int} (h : Seg k w a zs) : ∀ b, a = some b → ∀ j u, (zs.map (Value.int k))[j]? = some u → w.cell? (b.add j) = some u := by
  intro b hb j u hj
  have hjl : j < zs.length := by
    have := (List.getElem?_eq_some_iff.1 hj).1
    simpa using this
  rcases h with h | ⟨b', o, h, hc⟩
  · subst h; simp at hjl
  · rw [hb] at h
    obtain rfl := Option.some.inj h
    rw [Addr.add_lit, hc j hjl, ← hj]
    simp [List.getD, hjl]

set_option maxHeartbeats 800000 in
theorem seqs13 (a : Option Addr) (n : Nat) (zs : List Int) (a2 : Option Addr) (m c2 : Nat) (us : List Int) (w : World) (hn : zs.length = n) (hs : Seg .u8 w a zs) (hnil : a = none → n = 0)
    (hm : us.length = m) (hs2 : Seg .u64 w a2 us) (hu : ∀ z ∈ us, 0 ≤ z ∧ z < 18446744073709551616) (hnl : n ≤ 1048576) (hml : m ≤ 131072) (htab : Lib.TabIs Tryd.prog w powName .u64 Lib.pow10Tab) :
    Calls Tryd.prog 13 #[.slice a n n, .slice a2 m c2] w (SeqEnd (zs ++ [91] ++ bodyF false us ++ [93]) w) := by
  obtain ⟨i0, hi, hz0, hz1, hz2⟩ := info_parts Tryd.info5
  have HT : Hid (Lib.TabBelow Tryd.prog w.heap.size w powName .u64 Lib.pow10Tab) := Lib.tabBelow_of_tabIs htab
  have HS2 : Hid (Seg .u64 w a2 us) := hs2
  have HM : Hid (us.length = m) := hm
  have HU : Hid (∀ z ∈ us, 0 ≤ z ∧ z < 18446744073709551616) := hu
  have HN : Hid (zs.length = n) := hn
  have HS : Hid (Seg .u8 w a zs) := hs
  have HA : Hid (a = none → n = 0) := hnil
  clear htab hs2 hm hu hn hs hnil
  go_enter Tryd.func13, Tryd.ntmps13
  go_wp2_with (at_builtin; refine wpList_append_grows _ rfl (.tmp 7) (.tmp 8) 22 rfl 5 i0 (.int .u8 0) 1 1 Tryd.underlying22 hi hz0 hz1 hz2 rfl (by decide) a n n (zs.map (Value.int .u8)) rfl (fun h => ⟨HA.out h, HA.out h⟩) (by simpa using HN.out) (seg_cells (Seg.below HS.out ((Below.refl _ _).alloc (Nat.le_refl _) _) (Nat.le_refl _))) ⟨w.heap.size, 0, none⟩ 1 1 [.int .u8 91] rfl rfl (cell_one_new _ _ _) (by intro u hu; simp at hu; subst hu; rfl) (by omega) (by unfold maxLen; omega) (by omega) ?_)
  intro v0 w0 hown0 hgrow0
  have hown1 : w0.ownsRow w.heap.size 5 1 v0 (zs ++ [91]).length ((zs ++ [91]).map (Value.int .u8)) := by
    have h1 := HN.out
    rw [show (zs ++ [(91 : Int)]).length = n + 1 by simp [h1]]
    exact owns_mono (by simpa using hown0) (by simp)
  have hb0 : Below w.heap.size w w0 := ((Below.refl _ _).alloc (Nat.le_refl _) _).grown hgrow0 (by simp) (fun k h => by cases h)
  have HL0 : Hid (zs.length = n) := HN
  clear hown0 hgrow0 HS HA HN
  go_wp2
  go_loopw [0, 12] (fun v i wr => ∃ (k : Nat) (acc : List Int), k ≤ m ∧ i = .int .i64 k ∧ Hid (acc = zs ++ [91] ++ bodyF false (us.take k)) ∧ acc.length ≤ n + 1 + 21 * k ∧ wr.ownsRow w.heap.size 5 1 v acc.length (acc.map (Value.int .u8)) ∧ Below w.heap.size w wr) (fun _ i _ => m - (intOf i).toNat)
  case atStart => exact ⟨0, zs ++ [91], by omega, rfl, by show _ = _; simp [bodyF], by have := HL0.out; simp; omega, hown1, hb0⟩
  case round =>
    clear hown1 hb0
    obtain ⟨k, acc, hk, rfl, HA, hacc, hown, hb⟩ := hrel
    by_cases hlt : k < m
    · rcases HS2 with hs2 | ⟨b, o, ha, hs2⟩
      · have := HM.out
        subst hs2
        simp at this
        omega
      · have hkz : k < us.length := by have := HM.out; omega
        have g0 := hs2 k hkz
        have g1 := (hb.cell (p := ⟨b, o + k, none⟩) (World.block_lt_of_cell? w _ g0)).trans g0
        have hz : 0 ≤ us.getD k 0 ∧ us.getD k 0 < 18446744073709551616 := HU.out _ (by simp [List.getD, hkz])
        by_cases hk0 : k = 0
        · have hk0' : k ≤ 0 := by omega
          have HB : Hid (bodyF false (us.take (k + 1)) = bodyF false (us.take k) ++ decI (us.getD k 0)) := by
            show _ = _
            rw [hk0]
            exact body_take0 (by omega)
          generalize us.getD k 0 = z at g1 hz HB
          have HZ : Hid (0 ≤ z ∧ z < 18446744073709551616) := hz
          have hT := HT.out wr hb
          have HT' : Hid (Lib.TabIs Tryd.prog wr powName .u64 Lib.pow10Tab) := hT
          rw [ha]
          clear hz hkz g0 ha hs2 hT HU hk0
          go_wp2_with fail
          refine (app14 w.heap.size acc.length z.toNat z (by have := HZ.out; omega) (by have := HZ.out; omega) _ _ wr hown hb.size (by omega) HT'.out).mono ?_
          rintro e w1 ⟨v1, rfl, hown1, hb1⟩
          rw [byteCells_decI, ← List.map_append] at hown1
          have hl := decI_len z HZ.out.2
          have hown2 : w1.ownsRow w.heap.size 5 1 v1 (acc ++ decI z).length ((acc ++ decI z).map (Value.int .u8)) := by
            have e : (Lib.decDigits z.toNat).length = (decI z).length := by simp [decI]
            rw [e] at hown1
            rw [List.length_append]
            exact hown1
          have HA2 : Hid (acc ++ decI z = zs ++ [91] ++ bodyF false (us.take (k + 1))) := by
            show _ = _
            rw [HB.out, HA.out]
            simp
          have hb2 := hb.trans hb1
          clear hown1 hb1 hown HB HA HT'
          go_wp2
          go_roundw
          case rel => exact ⟨k + 1, acc ++ decI z, by omega, by go_num, HA2, by simp; omega, hown2, hb2⟩
          case measure => simp [intOf]; omega
        · have HB : Hid (bodyF false (us.take (k + 1)) = bodyF false (us.take k) ++ [44] ++ decI (us.getD k 0)) := body_take hkz (by omega)
          generalize us.getD k 0 = z at g1 hz HB
          have HZ : Hid (0 ≤ z ∧ z < 18446744073709551616) := hz
          rw [ha]
          clear hz hkz g0 ha hs2 HU
          go_wp2_with (at_builtin; refine wpList_append_one _ w .u8 22 5 i0 1 Tryd.underlying22 hi hz0 hz1 hz2 (by omega) rfl (.tmp 19) (.tmp 20) rfl w.heap.size _ acc 44 rfl rfl hown hb (Nat.le_refl _) (by omega) ?_; intro v3 w3 hown3 hb3)
          have hT := HT.out w3 hb3
          have HT' : Hid (Lib.TabIs Tryd.prog w3 powName .u64 Lib.pow10Tab) := hT
          clear hT
          refine (app14 w.heap.size (acc ++ [44]).length z.toNat z (by have := HZ.out; omega) (by have := HZ.out; omega) _ _ w3 hown3 hb3.size (by simp; omega) HT'.out).mono ?_
          rintro e w1 ⟨v1, rfl, hown1, hb1⟩
          rw [byteCells_decI, ← List.map_append] at hown1
          have hl := decI_len z HZ.out.2
          have hown2 : w1.ownsRow w.heap.size 5 1 v1 (acc ++ [44] ++ decI z).length ((acc ++ [44] ++ decI z).map (Value.int .u8)) := by
            have e : (Lib.decDigits z.toNat).length = (decI z).length := by simp [decI]
            rw [e] at hown1
            rw [List.length_append]
            exact hown1
          have HA2 : Hid (acc ++ [44] ++ decI z = zs ++ [91] ++ bodyF false (us.take (k + 1))) := by
            show _ = _
            rw [HB.out, HA.out]
            simp
          have hb2 := hb3.trans hb1
          clear hown1 hb1 hown HB HA HT' hown3 hb3
          go_wp2
          go_roundw
          case rel => exact ⟨k + 1, acc ++ [44] ++ decI z, by omega, by go_num, HA2, by simp; omega, hown2, hb2⟩
          case measure => simp [intOf]; omega
    · have HA2 : Hid (acc ++ [93] = zs ++ [91] ++ bodyF false us ++ [93]) := by
        show _ = _
        rw [HA.out, List.take_of_length_le (by have := HM.out; omega)]
      clear HA HU HS2 HT
      go_wp2_with (at_builtin; refine wpList_append_one _ w .u8 22 5 i0 1 Tryd.underlying22 hi hz0 hz1 hz2 (by omega) rfl (.tmp 26) (.tmp 27) rfl w.heap.size _ acc 93 rfl rfl hown hb (Nat.le_refl _) (by omega) ?_; intro v3 w3 hown3 hb3)
      go_ret
      rw [HA2.out] at hown3
      exact ⟨_, rfl, hown3, hb3⟩

end Go.Proofs.Qxb6605425aDoor
