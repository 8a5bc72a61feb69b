/-
  THE WALKS of seat b6602430a: strings.IndexAny of the two marks at every string.
-/
import Derived.Test.Qxb6602430aRune
import Derived.Lib.OthersKept
import Derived.Lib.IndexAny
namespace Go.Proofs.Qxb6602430a.Walks
open Go.RowKit
open Go.Proofs.Qxb6602430a
set_option linter.unusedVariables false

/-- the bytes that one step of a range over a string passes over -/
theorem decode_skip (s : ByteArray) (pos : Nat) (h : pos < s.size) (ha : 128 ≤ (s[pos]'h).toNat) :
    1 ≤ (Utf8.decode s pos).2 ∧ pos + (Utf8.decode s pos).2 ≤ s.size ∧ ∀ k, 0 < k → k < (Utf8.decode s pos).2 → 128 ≤ (s.get! (pos + k)).toNat := by
  have hn : ¬ (s[pos]'h).toNat < 128 := by omega
  simp only [Utf8.decode, get_at s pos h, hn, if_false]
  repeat' split
  all_goals simp_all
  all_goals refine ⟨by omega, fun k hk1 hk2 => ?_⟩
  all_goals first | omega | (rcases (show k = 1 ∨ k = 2 ∨ k = 3 from by omega) with rfl | rfl | rfl <;> omega)

theorem ret_int {k : IntKind} {a b : Int} (h : a = b) : Ending.returned (.int k a) = .returned (.int k b) := by rw [h]
theorem zero49 : ∀ w, (zeroValue 49).run Try.prog w = .ok (.agg (Array.replicate 256 (.bool false))) w := fun w => by kernel_rfl

/-- the two marks -/
def marks : List UInt8 := [47, 63]

theorem not_mark {b : UInt8} (h : 128 ≤ b.toNat) : marks.contains b = false := by
  rw [Bool.eq_false_iff]
  intro e
  simp only [marks, List.contains_cons, List.contains_nil, Bool.or_false, Bool.or_eq_true, beq_iff_eq] at e
  rcases e with e | e <;> (rw [e] at h; revert h; decide)

theorem noAny_skip {s : ByteArray} {i n : Nat} (h : Lib.NoAny s.data.toList marks i) (hi : i < s.size) (h0 : 128 ≤ (s[i]'hi).toNat) (hn : i + n ≤ s.size) (hb : ∀ k, 0 < k → k < n → 128 ≤ (s.get! (i + k)).toNat) : Lib.NoAny s.data.toList marks (i + n) := by
  intro j b hj hjb
  rcases (show j < i ∨ i ≤ j from by omega) with h1 | h1
  · exact h j b h1 hjb
  · refine not_mark ?_
    obtain ⟨k, rfl⟩ : ∃ k, j = i + k := ⟨j - i, by omega⟩
    have hlt : i + k < s.size := by omega
    have hbe : s[i + k] = b := by
      have := Lib.data_getElem? s (i + k) hlt
      rw [this] at hjb
      exact Option.some.inj hjb
    rcases (show k = 0 ∨ 0 < k from by omega) with h2 | h2
    · subst h2
      rw [← hbe]
      exact h0
    · have h3 := hb k h2 (by omega)
      have h4 : s.get! (i + k) = s[i + k] := by
        have := get_at s (i + k) hlt
        exact this
      rw [h4, hbe] at h3
      exact h3

theorem rune_high_below (r : Int) (w : World) (h0 : 128 ≤ r) (h1 : r ≤ 1114111) :
    Calls Try.prog 40 #[.string ⟨#[47, 63]⟩, .int .i32 r] w fun e w' => e = .returned (.int .i64 (-1)) ∧ Below w.heap.size w w' := by
  by_cases h2 : r = 65533
  · subst h2
    exact (rune_err w).mono fun e w' ⟨he, q, hq⟩ => ⟨he, by rw [hq]; exact (Below.refl _ _).alloc (Nat.le_refl _) _⟩
  · exact (rune_high r w h0 h1 (by simpa using h2)).mono fun e w' ⟨he, q, hq⟩ => ⟨he, by rw [hq]; exact ⟨rfl, rfl, rfl, Nat.le_refl _, fun _ _ => rfl⟩⟩

set_option maxHeartbeats 4000000 in
set_option maxRecDepth 1000000 in
/-- strings.IndexAny of the two marks, s of at most 8 bytes -/
theorem any_short (s : ByteArray) (w : World) (h8 : s.size ≤ 8) :
    Calls Try.prog 33 #[.string s, .string ⟨#[47, 63]⟩] w fun e w' => e = .returned (.int .i64 (Lib.indexAny s.data.toList marks)) ∧ Below w.heap.size w w' := by
  have h8z : decide ((8 : Int) < (s.size : Int)) = false := decide_eq_false (by omega)
  have H41 : Hid (∀ w, Calls Try.prog 41 #[.int .i64 (s.size : Int)] w fun e w' => e = .returned (.bool false) ∧ w' = w) := fun w => h8z ▸ Try.strings_shouldUseASCIISet (s.size : Int) w
  go_enter Try.func33, Try.ntmps33
  go_wp2_with (go_at_call 41; refine (Hid.out H41 _).mono ?_; rintro e w' ⟨rfl, hw⟩; rw [hw]; clear hw)
  go_loopg [9, 10] s.size (fun g _ _ wx => ∃ i : Nat, i + g = s.size ∧ Hid (wx.heap[w.heap.size]? = some (.stringIter s i) ∧ Below w.heap.size w wx ∧ Lib.NoAny s.data.toList marks i))
  case atStart => exact ⟨0, by omega, World.iter_heap w s 0, (Below.refl _ _).alloc (Nat.le_refl _) _, Lib.NoAny.zero _ _⟩
  case round =>
    obtain ⟨i, hig, hrelN⟩ := hrel
    cases gk with
    | zero =>
      have hnx := fun ty => Lib.run_next_end_at (P := Try.prog) wr w.heap.size s i ty hrelN.out.1 (by omega)
      go_wp2
      go_ret
      exact ⟨ret_int (by rw [Lib.indexAny_none (by rw [← Lib.size_eq, show s.size = i from by omega]; exact hrelN.out.2.2)]), hrelN.out.2.1⟩
    | succ g =>
      have hi : i < s.size := by omega
      have hnx := fun ty => Lib.run_next_any_at (P := Try.prog) wr w.heap.size s i ty hrelN.out.1 hi
      have HW : Hid (∀ p, (wr.iterAt w.heap.size s p).heap[w.heap.size]? = some (.stringIter s p) ∧ Below w.heap.size w (wr.iterAt w.heap.size s p) ∧ w.heap.size < (wr.iterAt w.heap.size s p).heap.size) := fun p =>
        ⟨Lib.iterAt_heap wr w.heap.size s i p hrelN.out.1, Lib.below_iterAt hrelN.out.2.1 (Nat.le_refl _) s p, by rw [Lib.iterAt_size]; exact (Array.getElem?_eq_some_iff.1 hrelN.out.1).1⟩
      by_cases hx : (s[i]'hi).toNat < 128
      · rw [decode_ascii s i hi hx] at hnx
        obtain ⟨x, hxe⟩ : ∃ x : UInt8, s[i]'hi = x := ⟨_, rfl⟩
        rw [hxe] at hnx hx
        have Hx : Hid (s.data.toList[i]? = some x) := by unfold Hid; rw [← hxe]; exact Lib.data_getElem? s i hi
        clear hxe
        have hcon := Lib.contains_iff_indexByte marks x
        have hback : ((x.toNat : Int)).toNat.toUInt8 = x := by simp
        have H40 : Hid (∀ w, Calls Try.prog 40 #[.string ⟨#[47, 63]⟩, .int .i32 (x.toNat : Int)] w fun e w' => e = .returned (.int .i64 (Lib.indexByte marks x)) ∧ w' = w) := fun w => by
          have h := Try.strings_IndexRune_ascii ⟨#[47, 63]⟩ (x.toNat : Int) w (by omega) (by omega)
          rw [hback] at h
          exact h
        clear hback
        generalize Lib.indexByte marks x = ib at hcon H40
        cases hin : marks.contains x
        · rw [hin] at hcon
          have hlt : ib < 0 := by have := of_decide_eq_false hcon.symm; omega
          clear hcon
          go_wp2_with (go_at_call 40; refine (Hid.out H40 _).mono ?_; rintro e w' ⟨rfl, hw⟩; rw [hw]; clear hw)
          go_roundg g
          case measure => omega
          case rel => exact ⟨i + 1, by omega, (HW.out _).1, (HW.out _).2.1, hrelN.out.2.2.succ Hx.out hin⟩
        · rw [hin] at hcon
          have hge : (0 : Int) ≤ ib := of_decide_eq_true hcon.symm
          clear hcon
          go_wp2_with (go_at_call 40; refine (Hid.out H40 _).mono ?_; rintro e w' ⟨rfl, hw⟩; rw [hw]; clear hw)
          go_ret
          exact ⟨ret_int (by rw [Lib.indexAny_hit hrelN.out.2.2 Hx.out hin]), (HW.out _).2.1⟩
      · have hd1 := (decode_high s i hi (by omega)).1
        have hd2 := Lib.rune_le s i
        have hsk := decode_skip s i hi (by omega)
        have HNA : Hid (Lib.NoAny s.data.toList marks (i + (Utf8.decode s i).2)) := noAny_skip hrelN.out.2.2 hi (by omega) hsk.2.1 hsk.2.2
        have hs1 := hsk.1
        have hs2 := hsk.2.1
        clear hsk hx
        generalize Utf8.decode s i = d at hnx hd1 hd2 HNA hs1 hs2
        obtain ⟨r, n⟩ := d
        have H40 : Hid (∀ w, Calls Try.prog 40 #[.string ⟨#[47, 63]⟩, .int .i32 (r : Int)] w fun e w' => e = .returned (.int .i64 (-1)) ∧ Below w.heap.size w w') := fun w => rune_high_below (r : Int) w (by simp only at hd1; omega) (by simp only at hd2; omega)
        simp only at hnx hs1 hs2 HNA
        clear hd1 hd2
        go_wp2_with (go_at_call 40; refine (Hid.out H40 _).mono ?_; rintro e w' ⟨rfl, hw⟩; have HW2 : Hid (w'.heap[w.heap.size]? = some (.stringIter s (i + n)) ∧ Below w.heap.size w w') := ⟨(hw.block _ (HW.out _).2.2).trans (HW.out _).1, (HW.out _).2.1.trans (hw.mono (Nat.le_of_lt (HW.out _).2.2))⟩; clear hw)
        go_roundg (s.size - (i + n))
        case measure => omega
        case rel => exact ⟨i + n, by omega, HW2.out.1, HW2.out.2, HNA.out⟩

/-- strings.IndexAny of the two marks, at every string -/
theorem any_all (s : ByteArray) (w : World) (hs : s.size ≤ 2097152) :
    Calls Try.prog 33 #[.string s, .string ⟨#[47, 63]⟩] w fun e w' => e = .returned (.int .i64 (Lib.indexAny s.data.toList marks)) ∧ Below w.heap.size w w' := by
  by_cases h8 : s.size ≤ 8
  · exact any_short s w h8
  · refine (Try.strings_IndexAny_long zero49 s ⟨#[47, 63]⟩ w (by decide) (by omega) (by omega) (by decide) (fun j b hb => ?_)).mono fun e w' ⟨he, hw⟩ => ⟨he, ?_⟩
    · rcases (show j = 0 ∨ j = 1 ∨ 2 ≤ j from by omega) with rfl | rfl | h
      · simp at hb; subst hb; decide
      · simp at hb; subst hb; decide
      · rw [List.getElem?_eq_none (by simpa using h)] at hb; cases hb
    · rw [hw]
      exact ((Below.refl _ _).alloc (Nat.le_refl _) _).alloc (by simp) _

end Go.Proofs.Qxb6602430a.Walks
