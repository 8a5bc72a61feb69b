/-
  THE WALKS of seat b6601609a, on: limits.commentEnd.
-/
import Derived.Test.Qxb6601609aWalks2
namespace Go.Proofs.Qxb6601609a.Walks
open Go.RowKit
open Go.Proofs.Qxb6601609a
set_option linter.unusedVariables false

/-- the bytes as numbers -/
def nums (L : List UInt8) : List Int := L.map fun b => (b.toNat : Int)
theorem nums_len (L : List UInt8) : (nums L).length = L.length := by simp [nums]
theorem nums_get (L : List UInt8) (i : Nat) : (nums L).getD i 0 = ((L.getD i 0).toNat : Int) := by
  simp only [nums, List.getD_eq_getElem?_getD, List.getElem?_map]
  cases L[i]? <;> rfl
theorem nums_range (L : List UInt8) : ∀ x ∈ nums L, 0 ≤ x ∧ x < 256 := by
  intro x hx
  simp only [nums, List.mem_map] at hx
  obtain ⟨b, _, rfl⟩ := hx
  have := b.toNat_lt
  omega
theorem nums_bytes (L : List UInt8) : Lib.bytesOf (nums L) = L := by
  simp only [Lib.bytesOf, nums, List.map_map]
  conv => rhs; rw [← List.map_id L]
  apply List.map_congr_left
  intro b _
  simp

/-- '[]byte(s)': a new row that holds s's bytes. -/
theorem conv_bytes (s : ByteArray) (w : World) : ∃ (W1 : World) (cap : Nat), (convert 9 24 (.string s)).run Try.prog w = .ok (.slice (some ⟨w.heap.size, 0, none⟩) s.size cap) W1 ∧ Below w.heap.size w W1 ∧ Holds W1 w.heap.size s.data.toList := by
  refine ⟨_, _, run_bytes_of_string w 9 24 5 s Try.underlying9 Try.underlying24 Try.underlying5, ?_, ?_⟩
  · exact ((Below.refl _ w).drew).alloc (Nat.le_refl _) _
  · intro i hi
    have hsz : i < s.size := by rw [Lib.size_eq]; exact hi
    show (World.alloc w.drew _).cell? ⟨w.drew.heap.size, i, none⟩ = _
    rw [World.cell?_alloc_mark]
    unfold bytesRow
    rw [Array.getElem?_append_left (by simpa using hsz), Array.getElem?_map]
    rw [List.getD_eq_getElem?_getD, List.getElem?_eq_getElem hi]
    have : s.data[i]? = some (s.data.toList[i]) := by
      rw [Array.getElem?_eq_getElem (by simpa using hsz)]; simp
    rw [this]; rfl

theorem Holds.below {w w' : World} {g : Nat} {L : List UInt8} (h : Holds w g L) (hb : Below w.heap.size w w') : Holds w' g L := fun i hi =>
  (hb.cell (World.block_lt_of_cell? _ _ (h i hi))).trans (h i hi)

theorem idx_at (g n : Nat) (L : List UInt8) (g2 cap : Nat) (s : ByteArray) (w : World) (m : Int) (hn : L.length = n) (hn2 : n ≤ 1048576) (hs : s.size ≤ 1048576) (h1 : Holds w g L) (h2 : Holds w g2 s.data.toList) (hm : w.cell? ⟨0, 0, none⟩ = some (.int .i64 m)) :
    Calls Try.prog 31 #[.slice (some ⟨g, 0, none⟩) n n, .slice (some ⟨g2, 0, none⟩) s.size cap] w fun e w' => e = .returned (.int .i64 (Lib.index L s.data.toList)) ∧ ∃ q, w' = w.drewN q := by
  have hz : s.size = s.data.toList.length := Lib.size_eq s
  have h := Try.bytes_Index_at ⟨g, 0, none⟩ ⟨g2, 0, none⟩ n n s.size cap (nums L) (nums s.data.toList) m w (by rw [nums_len, hn]) (by rw [nums_len, hz]) (nums_range _) (nums_range _)
    (fun i hi => by rw [Go.WideShapes.add_plain, Nat.zero_add, nums_get]; exact h1 i (by omega)) (fun i hi => by rw [Go.WideShapes.add_plain, Nat.zero_add, nums_get]; exact h2 i (by omega)) (Nat.le_refl _) (by omega) (by omega) hm
  rw [nums_bytes, nums_bytes] at h
  exact h

theorem idxb_at (g n c : Nat) (L : List UInt8) (w : World) (hn : n ≤ L.length) (h1 : Holds w g L) :
    Calls Try.prog 32 #[.slice (some ⟨g, 0, none⟩) n c, .int .u8 0] w fun e w' => e = .returned (.int .i64 (Lib.indexByte (L.take n) 0)) ∧ w' = w := by
  have h := Try.bytes_IndexByte_at ⟨g, 0, none⟩ n c (nums (L.take n)) 0 w (by rw [nums_len, List.length_take]; omega)
    (fun i hi => by rw [Go.WideShapes.add_plain, Nat.zero_add, nums_get]; rw [h1 i (by omega)]; simp [List.getD_eq_getElem?_getD, hi])
  rw [nums_bytes] at h
  exact h

set_option maxHeartbeats 2000000 in
/-- commentEnd, the closing not found -/
theorem comment_none (g n cap : Nat) (s : ByteArray) (w W1 : World) (nul : Int) (hn2 : n ≤ 1048576) (hs : s.size ≤ 1048576) (hnul : nul = -1 ∨ (0 ≤ nul ∧ nul ≤ n))
    (hrun : (convert 9 24 (.string s)).run Try.prog w = .ok (.slice (some ⟨w.heap.size, 0, none⟩) s.size cap) W1)
    (Hi : Hid (Calls Try.prog 31 #[.slice (some ⟨g, 0, none⟩) n n, .slice (some ⟨w.heap.size, 0, none⟩) s.size cap] W1 fun e w' => e = .returned (.int .i64 (-1)) ∧ ∃ q, w' = W1.drewN q))
    (Hb : Hid (∀ q, Calls Try.prog 32 #[.slice (some ⟨g, 0, none⟩) n n, .int .u8 0] (W1.drewN q) fun e w' => e = .returned (.int .i64 nul) ∧ w' = W1.drewN q)) :
    Calls Try.prog 28 #[.slice (some ⟨g, 0, none⟩) n n, .string s] w fun e w' => e = .returned (.int .i64 (if 0 ≤ nul then nul + 1 else n)) ∧ ∃ q, w' = W1.drewN q := by
  rcases hnul with rfl | ⟨h0, h1⟩
  · go_enter Try.func28, Try.ntmps28
    go_wp2_with (first | (go_at_call 31; refine (Hid.out Hi).mono ?_; rintro e w' ⟨rfl, q, rfl⟩) | (go_at_call 32; refine (Hid.out Hb _).mono ?_; rintro e w' ⟨rfl, rfl⟩))
    go_ret
    exact ⟨rfl, q, rfl⟩
  · go_enter Try.func28, Try.ntmps28
    go_wp2_with (first | (go_at_call 31; refine (Hid.out Hi).mono ?_; rintro e w' ⟨rfl, q, rfl⟩) | (go_at_call 32; refine (Hid.out Hb _).mono ?_; rintro e w' ⟨rfl, rfl⟩))
    go_ret
    exact ⟨rfl, q, rfl⟩

set_option maxHeartbeats 2000000 in
/-- commentEnd, the closing found at st -/
theorem comment_some (g n cap st : Nat) (s : ByteArray) (w W1 : World) (nul : Int) (ten : Bool) (hn2 : n ≤ 1048576) (hst : st ≤ n) (hs : s.size ≤ 1048576) (hnul : nul = -1 ∨ (0 ≤ nul ∧ nul ≤ n))
    (hten : (s.toList == [10]) = ten)
    (hrun : (convert 9 24 (.string s)).run Try.prog w = .ok (.slice (some ⟨w.heap.size, 0, none⟩) s.size cap) W1)
    (Hi : Hid (Calls Try.prog 31 #[.slice (some ⟨g, 0, none⟩) n n, .slice (some ⟨w.heap.size, 0, none⟩) s.size cap] W1 fun e w' => e = .returned (.int .i64 st) ∧ ∃ q, w' = W1.drewN q))
    (Hb : Hid (∀ q, Calls Try.prog 32 #[.slice (some ⟨g, 0, none⟩) st n, .int .u8 0] (W1.drewN q) fun e w' => e = .returned (.int .i64 nul) ∧ w' = W1.drewN q)) :
    Calls Try.prog 28 #[.slice (some ⟨g, 0, none⟩) n n, .string s] w fun e w' => e = .returned (.int .i64 (if 0 ≤ nul then nul + 1 else if st < n ∧ ten = false then (st : Int) + s.size else st)) ∧ ∃ q, w' = W1.drewN q := by
  rcases hnul with rfl | ⟨h0, h1⟩
  · have e0 : (if (0 : Int) ≤ -1 then (-1 : Int) + 1 else if st < n ∧ ten = false then (st : Int) + s.size else st) = if st < n ∧ ten = false then (st : Int) + s.size else st := if_neg (by omega)
    rw [e0]
    clear e0
    by_cases hlt : st < n
    · cases ten with
      | true =>
        have e1 : (if st < n ∧ true = false then (st : Int) + s.size else st) = st := if_neg (fun h => by cases h.2)
        rw [e1]
        clear e1
        go_enter Try.func28, Try.ntmps28
        go_wp2_with (first | (go_at_call 31; refine (Hid.out Hi).mono ?_; rintro e w' ⟨rfl, q, rfl⟩) | (go_at_call 32; refine (Hid.out Hb _).mono ?_; rintro e w' ⟨rfl, rfl⟩))
        go_ret
        exact ⟨rfl, q, rfl⟩
      | false =>
        have e1 : (if st < n ∧ false = false then (st : Int) + s.size else st) = (st : Int) + s.size := if_pos ⟨hlt, rfl⟩
        rw [e1]
        clear e1
        go_enter Try.func28, Try.ntmps28
        go_wp2_with (first | (go_at_call 31; refine (Hid.out Hi).mono ?_; rintro e w' ⟨rfl, q, rfl⟩) | (go_at_call 32; refine (Hid.out Hb _).mono ?_; rintro e w' ⟨rfl, rfl⟩))
        go_ret
        exact ⟨rfl, q, rfl⟩
    · have e1 : (if st < n ∧ ten = false then (st : Int) + s.size else st) = st := if_neg (fun h => hlt h.1)
      rw [e1]
      clear e1
      have hd : decide ((st : Int) < (n : Int)) = false := decide_eq_false (by omega)
      have hge : (n : Int) ≤ (st : Int) := by omega
      clear hten
      go_enter Try.func28, Try.ntmps28
      go_wp2_with (first | (go_at_call 31; refine (Hid.out Hi).mono ?_; rintro e w' ⟨rfl, q, rfl⟩) | (go_at_call 32; refine (Hid.out Hb _).mono ?_; rintro e w' ⟨rfl, rfl⟩))
      go_ret
      exact ⟨rfl, q, rfl⟩
  · have e0 : (if (0 : Int) ≤ nul then nul + 1 else if st < n ∧ ten = false then (st : Int) + s.size else st) = nul + 1 := if_pos h0
    rw [e0]
    clear e0 hten
    go_enter Try.func28, Try.ntmps28
    go_wp2_with (first | (go_at_call 31; refine (Hid.out Hi).mono ?_; rintro e w' ⟨rfl, q, rfl⟩) | (go_at_call 32; refine (Hid.out Hb _).mono ?_; rintro e w' ⟨rfl, rfl⟩))
    go_ret
    exact ⟨rfl, q, rfl⟩

/-- limits.commentEnd at a row of its own -/
theorem comment_any (g n : Nat) (L : List UInt8) (s : ByteArray) (w : World) (m : Int) (hn : L.length = n) (hn2 : n ≤ 1048576) (hs : s.size ≤ 1048576) (hc : Holds w g L) (hm : w.cell? ⟨0, 0, none⟩ = some (.int .i64 m)) :
    Calls Try.prog 28 #[.slice (some ⟨g, 0, none⟩) n n, .string s] w fun e w' => e = .returned (.int .i64 (Law.ce L s.data.toList)) ∧ Below w.heap.size w w' := by
  obtain ⟨W1, cap, hrun, hbel, hh⟩ := conv_bytes s w
  have hz : s.size = s.data.toList.length := Lib.size_eq s
  have hc1 : Holds W1 g L := hc.below hbel
  have hm1 : W1.cell? ⟨0, 0, none⟩ = some (.int .i64 m) := (hbel.cell (World.block_lt_of_cell? _ _ hm)).trans hm
  have hi := idx_at g n L w.heap.size cap s W1 m hn hn2 hs hc1 hh hm1
  have hnul : ∀ k : Nat, Lib.indexByte (L.take k) 0 = -1 ∨ (0 ≤ Lib.indexByte (L.take k) 0 ∧ Lib.indexByte (L.take k) 0 ≤ n) := fun k => by
    have h1 := Lib.indexByte_ge (L.take k) 0
    have h2 := Law.indexByte_le (L.take k) 0
    rw [List.length_take] at h2
    omega
  have fin : ∀ (r : Int), r = Law.ce L s.data.toList → (Calls Try.prog 28 #[.slice (some ⟨g, 0, none⟩) n n, .string s] w fun e w' => e = .returned (.int .i64 r) ∧ ∃ q, w' = W1.drewN q) →
      Calls Try.prog 28 #[.slice (some ⟨g, 0, none⟩) n n, .string s] w fun e w' => e = .returned (.int .i64 (Law.ce L s.data.toList)) ∧ Below w.heap.size w w' := fun r hr h =>
    h.mono fun e w' ⟨he, q, hq⟩ => ⟨by rw [he, hr], by rw [hq]; exact ⟨hbel.os, hbel.tape, hbel.output, hbel.size, hbel.block⟩⟩
  rcases Lib.index_spec L s.data.toList with ⟨h, _⟩ | ⟨i, h, hi2, _⟩
  · rw [h] at hi
    refine fin _ ?_ (comment_none g n cap s w W1 (Lib.indexByte (L.take n) 0) hn2 hs (hnul n) hrun hi (fun q => idxb_at g n n L (W1.drewN q) (by omega) hc1))
    have hstop : Law.stop L s.data.toList = n := by unfold Law.stop; rw [h, if_pos (by omega), hn]
    unfold Law.ce
    rw [hstop]
    split
    · rfl
    · rw [if_neg (by omega)]
  · rw [h] at hi
    refine fin _ ?_ (comment_some g n cap i s w W1 (Lib.indexByte (L.take i) 0) (s.toList == [10]) hn2 (by omega) hs (hnul i) rfl hrun hi (fun q => idxb_at g i n L (W1.drewN q) (by omega) hc1))
    have hstop : Law.stop L s.data.toList = i := by unfold Law.stop; rw [h, if_neg (by omega)]; simp
    unfold Law.ce
    rw [hstop, hn, ← hz]
    have e : ((s.toList == [10]) = false) ↔ ¬ s.data.toList = [10] := by rw [Lib.toList_data]; simp
    simp only [e]

/-- limits.commentEnd at nil -/
theorem comment_nil (s : ByteArray) (w : World) (hs : s.size ≤ 1048576) :
    Calls Try.prog 28 #[.slice none 0 0, .string s] w fun e w' => e = .returned (.int .i64 0) ∧ Below w.heap.size w w' := by
  obtain ⟨W1, cap, hrun, hbel, hh⟩ := conv_bytes s w
  have hz : s.size = s.data.toList.length := Lib.size_eq s
  have Hi : Hid (Calls Try.prog 31 #[.slice none 0 0, .slice (some ⟨w.heap.size, 0, none⟩) s.size cap] W1 fun e w' => e = .returned (.int .i64 (if s.size = 0 then 0 else -1)) ∧ w' = W1) :=
    Try.bytes_Index_nil (some ⟨w.heap.size, 0, none⟩) s.size cap W1 (by omega) (fun h1 => ⟨w.heap.size, 0, _, rfl, hh 0 (by omega)⟩)
  have Hb : Hid (Calls Try.prog 32 #[.slice none 0 0, .int .u8 0] W1 fun e w' => e = .returned (.int .i64 (-1)) ∧ w' = W1) := Try.bytes_IndexByte_nil 0 W1
  have HB : Hid (Below w.heap.size w W1) := hbel
  clear hz hh hbel
  by_cases h0 : s.size = 0
  · rw [if_pos h0] at Hi
    clear h0
    go_enter Try.func28, Try.ntmps28
    go_wp2_with (first | (go_at_call 31; refine (Hid.out Hi).mono ?_; rintro e w' ⟨rfl, rfl⟩) | (go_at_call 32; refine (Hid.out Hb).mono ?_; rintro e w' ⟨rfl, rfl⟩))
    go_ret
    exact ⟨rfl, HB.out⟩
  · rw [if_neg h0] at Hi
    clear h0
    go_enter Try.func28, Try.ntmps28
    go_wp2_with (first | (go_at_call 31; refine (Hid.out Hi).mono ?_; rintro e w' ⟨rfl, rfl⟩) | (go_at_call 32; refine (Hid.out Hb).mono ?_; rintro e w' ⟨rfl, rfl⟩))
    go_ret
    exact ⟨rfl, HB.out⟩

/-- the scanner at nil -/
theorem scan_nil (s : ByteArray) (w : World) : Calls Try.prog 13 #[.slice none 0 0, .string s] w fun e w' => e = .returned (.int .i64 0) ∧ w' = w := by
  go_enter Try.func13, Try.ntmps13
  go_wp2
  refine wp_loop_rounds 1 ?_
  rw [rounds_succ]
  go_wp2
  go_ret
  exact ⟨rfl, rfl⟩

/-- the copy of nil -/
theorem clone_nil (w : World) : Calls Try.prog 11 #[.slice none 0 0] w fun e w' => e = .returned (.slice none 0 0) ∧ w' = w := by
  have hnil : ∀ (W : World) (a : Option Addr) (n c n' c' : Nat), (binOp .eql 24 (.slice a n c) (.slice none n' c')).run Try.prog W = .ok (.bool a.isNone) W := fun W a n c n' c' => Lib.run_eql_slice_nil W _ _ a n c n' c' Try.underlying24
  go_enter Try.func11, Try.ntmps11
  go_wp2
  go_ret
  exact ⟨rfl, rfl⟩

end Go.Proofs.Qxb6601609a.Walks
