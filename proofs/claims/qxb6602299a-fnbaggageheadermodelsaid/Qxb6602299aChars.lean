/-
  THE WALKS of seat b6602299a: the functions of one byte; the tokens.
-/
import Derived.Test.Qxb6602299aRows
import Derived.Test.Qxb6602299aShelf
import Derived.Test.Qxb6602299aLaw
import Derived.WalkKit
import Derived.WalkLawsBesides
namespace Go.Proofs.Qxb6602299a.Walks
open Go.RowKit
open Go.Proofs.Qxb6602299a
set_option linter.unusedVariables false

theorem ret_bool {a b : Bool} (h : a = b) : Ending.returned (.bool a) = .returned (.bool b) := by rw [h]
theorem ret_int {k : IntKind} {a b : Int} (h : a = b) : Ending.returned (.int k a) = .returned (.int k b) := by rw [h]

theorem tch_in {n : Nat} (h : (97 ≤ n ∧ n ≤ 122) ∨ (65 ≤ n ∧ n ≤ 90) ∨ (48 ≤ n ∧ n ≤ 57) ∨ n = 33 ∨ n = 35 ∨ n = 36 ∨ n = 37 ∨ n = 38 ∨ n = 39 ∨ n = 42 ∨ n = 43 ∨ n = 45 ∨ n = 46 ∨ n = 94 ∨ n = 95 ∨ n = 96 ∨ n = 124 ∨ n = 126) : Law.tch n = true := by
  unfold Law.tch
  simp only [Bool.or_eq_true, Bool.and_eq_true, decide_eq_true_eq, beq_iff_eq]
  omega
theorem tch_out {n : Nat} (h : ¬ ((97 ≤ n ∧ n ≤ 122) ∨ (65 ≤ n ∧ n ≤ 90) ∨ (48 ≤ n ∧ n ≤ 57) ∨ n = 33 ∨ n = 35 ∨ n = 36 ∨ n = 37 ∨ n = 38 ∨ n = 39 ∨ n = 42 ∨ n = 43 ∨ n = 45 ∨ n = 46 ∨ n = 94 ∨ n = 95 ∨ n = 96 ∨ n = 124 ∨ n = 126)) : Law.tch n = false := by
  rw [Bool.eq_false_iff]
  unfold Law.tch
  simp only [ne_eq, Bool.or_eq_true, Bool.and_eq_true, decide_eq_true_eq, beq_iff_eq]
  omega

set_option maxHeartbeats 2000000 in
/-- zzBagTokenChar -/
theorem tokenChar (n : Nat) (hn : n < 256) (w : World) : Calls Try.prog 23 #[.int .u8 (n : Int)] w fun e w' => e = .returned (.bool (Law.tch n)) ∧ w' = w := by
  generalize hR : Law.tch n = R
  have HR : Hid (Law.tch n = R) := hR
  clear hR
  rcases (show n < 48 ∨ (48 ≤ n ∧ n ≤ 57) ∨ (58 ≤ n ∧ n < 65) ∨ (65 ≤ n ∧ n ≤ 90) ∨ (91 ≤ n ∧ n < 97) ∨ (97 ≤ n ∧ n ≤ 122) ∨ 123 ≤ n from by omega) with h | ⟨h1, h2⟩ | ⟨h1, h2⟩ | ⟨h1, h2⟩ | ⟨h1, h2⟩ | ⟨h1, h2⟩ | h
  all_goals
    go_enter Try.func23, Try.ntmps23
    go_wp2
  all_goals
    go_ret
    exact ⟨ret_bool (by rw [← HR.out]; first | (refine (tch_in ?_).symm; omega) | (refine (tch_in ?_).symm; simp_all; done) | (refine (tch_in ?_).symm; simp_all; omega) | (refine (tch_out ?_).symm; simp_all; omega)), rfl⟩

theorem pln_in {n : Nat} (h : 33 ≤ n ∧ n ≤ 126 ∧ ¬ n = 34 ∧ ¬ n = 44 ∧ ¬ n = 59 ∧ ¬ n = 92 ∧ ¬ n = 37) : Law.pln n = true := by
  unfold Law.pln
  simp only [Bool.and_eq_true, Bool.not_eq_true', decide_eq_true_eq, beq_eq_false_iff_ne, ne_eq]
  omega
theorem pln_out {n : Nat} (h : ¬ (33 ≤ n ∧ n ≤ 126 ∧ ¬ n = 34 ∧ ¬ n = 44 ∧ ¬ n = 59 ∧ ¬ n = 92 ∧ ¬ n = 37)) : Law.pln n = false := by
  rw [Bool.eq_false_iff]
  unfold Law.pln
  simp only [ne_eq, Bool.and_eq_true, Bool.not_eq_true', decide_eq_true_eq, beq_eq_false_iff_ne]
  omega

set_option maxHeartbeats 2000000 in
/-- zzBagPlain -/
theorem plain_any (n : Nat) (hn : n < 256) (w : World) : Calls Try.prog 17 #[.int .u8 (n : Int)] w fun e w' => e = .returned (.bool (Law.pln n)) ∧ w' = w := by
  generalize hR : Law.pln n = R
  have HR : Hid (Law.pln n = R) := hR
  clear hR
  rcases (show n < 33 ∨ (33 ≤ n ∧ n ≤ 126) ∨ 127 ≤ n from by omega) with h | ⟨h1, h2⟩ | h
  all_goals
    go_enter Try.func17, Try.ntmps17
    go_wp2
  all_goals
    go_ret
    exact ⟨ret_bool (by rw [← HR.out]; first | (refine (pln_out ?_).symm; omega) | (refine (pln_out ?_).symm; simp_all; done) | (refine (pln_out ?_).symm; simp_all; omega) | (refine (pln_in ?_).symm; simp_all; omega)), rfl⟩

/-- what isBaggageOctet says of a byte that is no percent sign -/
theorem octet_any (n : Nat) (hn : n < 256) (hp : ¬ n = 37) (w : World) : Calls Try.prog 31 #[.int .u8 (n : Int)] w fun e w' => e = .returned (.bool (Law.pln n)) ∧ w' = w := by
  by_cases h : 33 ≤ n ∧ n ≤ 126 ∧ ¬ n = 34 ∧ ¬ n = 44 ∧ ¬ n = 59 ∧ ¬ n = 92
  · obtain ⟨h1, h2, h3, h4, h5, h6⟩ := h
    rw [pln_in ⟨h1, h2, h3, h4, h5, h6, hp⟩]
    have b3 : ((n : Int) != 34) = true := by rw [bne_iff_ne]; omega
    have b4 : ((n : Int) != 44) = true := by rw [bne_iff_ne]; omega
    have b5 : ((n : Int) != 59) = true := by rw [bne_iff_ne]; omega
    have b6 : ((n : Int) != 92) = true := by rw [bne_iff_ne]; omega
    clear h3 h4 h5 h6 hp
    go_enter Try.func31, Try.ntmps31
    go_wp2
    go_ret
    exact ⟨rfl, rfl⟩
  · rw [pln_out (by omega)]
    rcases (show n < 33 ∨ 126 < n ∨ n = 34 ∨ n = 44 ∨ n = 59 ∨ n = 92 from by omega) with h1 | h1 | rfl | rfl | rfl | rfl
    · have d1 : decide ((33 : Int) ≤ (n : Int)) = false := decide_eq_false (by omega)
      go_enter Try.func31, Try.ntmps31
      go_wp2
      go_ret
      exact ⟨rfl, rfl⟩
    · have d1 : decide ((n : Int) ≤ 126) = false := decide_eq_false (by omega)
      have d2 : (33 : Int) ≤ (n : Int) := by omega
      go_enter Try.func31, Try.ntmps31
      go_wp2
      go_ret
      exact ⟨rfl, rfl⟩
    all_goals
      clear h hp hn
      go_enter Try.func31, Try.ntmps31
      go_wp2
      go_ret
      exact ⟨rfl, rfl⟩

/-- isLowerLetter, isDigit -/
theorem lower_yes (n : Nat) (w : World) (h1 : 97 ≤ n) (h2 : n ≤ 122) : Calls Try.prog 28 #[.int .u8 (n : Int)] w fun e w' => e = .returned (.bool true) ∧ w' = w := by
  go_enter Try.func28, Try.ntmps28
  go_wp2
  go_ret
  exact ⟨ret_bool (decide_eq_true (by omega)), rfl⟩
theorem lower_no (n : Nat) (w : World) (h : ¬ (97 ≤ n ∧ n ≤ 122)) : Calls Try.prog 28 #[.int .u8 (n : Int)] w fun e w' => e = .returned (.bool false) ∧ w' = w := by
  rcases (show n < 97 ∨ (97 ≤ n ∧ 122 < n) from by omega) with h1 | ⟨h1, h2⟩
  · have d1 : decide ((97 : Int) ≤ (n : Int)) = false := decide_eq_false (by omega)
    go_enter Try.func28, Try.ntmps28
    go_wp2
    go_ret
    exact ⟨rfl, rfl⟩
  · have d1 : decide ((n : Int) ≤ 122) = false := decide_eq_false (by omega)
    go_enter Try.func28, Try.ntmps28
    go_wp2
    go_ret
    exact ⟨rfl, rfl⟩
theorem digit_yes (n : Nat) (w : World) (h1 : 48 ≤ n) (h2 : n ≤ 57) : Calls Try.prog 29 #[.int .u8 (n : Int)] w fun e w' => e = .returned (.bool true) ∧ w' = w := by
  go_enter Try.func29, Try.ntmps29
  go_wp2
  go_ret
  exact ⟨ret_bool (decide_eq_true (by omega)), rfl⟩
theorem digit_no (n : Nat) (w : World) (h : ¬ (48 ≤ n ∧ n ≤ 57)) : Calls Try.prog 29 #[.int .u8 (n : Int)] w fun e w' => e = .returned (.bool false) ∧ w' = w := by
  rcases (show n < 48 ∨ (48 ≤ n ∧ 57 < n) from by omega) with h1 | ⟨h1, h2⟩
  · have d1 : decide ((48 : Int) ≤ (n : Int)) = false := decide_eq_false (by omega)
    go_enter Try.func29, Try.ntmps29
    go_wp2
    go_ret
    exact ⟨rfl, rfl⟩
  · have d1 : decide ((n : Int) ≤ 57) = false := decide_eq_false (by omega)
    go_enter Try.func29, Try.ntmps29
    go_wp2
    go_ret
    exact ⟨rfl, rfl⟩

/-- zzBagHexUpper at a half byte -/
theorem hex_any (n : Nat) (hn : n < 16) (w : World) : Calls Try.prog 24 #[.int .u8 (n : Int)] w fun e w' => e = .returned (.int .u8 (Law.hex n : Nat)) ∧ w' = w := by
  unfold Law.hex
  by_cases h : n < 10
  · rw [if_pos h]
    have e : ((48 + n : Nat) : Int) = 48 + (n : Int) := by omega
    rw [e]
    clear e
    go_enter Try.func24, Try.ntmps24
    go_wp2
    go_ret
    exact ⟨rfl, rfl⟩
  · rw [if_neg h]
    have e : ((55 + n : Nat) : Int) = 65 + ((n : Int) - 10) := by omega
    rw [e]
    clear e
    go_enter Try.func24, Try.ntmps24
    go_wp2
    go_ret
    exact ⟨rfl, rfl⟩

end Go.Proofs.Qxb6602299a.Walks
