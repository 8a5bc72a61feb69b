/-
  THE WALKS of seat b6602430a: the scheme's characters; the scheme; the longest scheme ahead.
-/
import Derived.Test.Qxb6602430aAny
import Derived.Test.Qxb6602430aLaw
namespace Go.Proofs.Qxb6602430a.Walks
open Go.RowKit
open Go.Proofs.Qxb6602430a
set_option linter.unusedVariables false

theorem ret_bool {a b : Bool} (h : a = b) : Ending.returned (.bool a) = .returned (.bool b) := by rw [h]

theorem letter_yes {n : Nat} (h : (97 ≤ n ∧ n ≤ 122) ∨ (65 ≤ n ∧ n ≤ 90)) : Law.letter n = true := by
  unfold Law.letter
  simp only [Bool.or_eq_true, Bool.and_eq_true, decide_eq_true_eq]
  omega
theorem letter_no {n : Nat} (h : ¬ ((97 ≤ n ∧ n ≤ 122) ∨ (65 ≤ n ∧ n ≤ 90))) : Law.letter n = false := by
  rw [Bool.eq_false_iff]
  unfold Law.letter
  simp only [ne_eq, Bool.or_eq_true, Bool.and_eq_true, decide_eq_true_eq]
  omega
theorem schc_yes {n : Nat} (h : (97 ≤ n ∧ n ≤ 122) ∨ (65 ≤ n ∧ n ≤ 90) ∨ (48 ≤ n ∧ n ≤ 57) ∨ n = 43 ∨ n = 45 ∨ n = 46) : Law.schc n = true := by
  unfold Law.schc Law.letter
  simp only [Bool.or_eq_true, Bool.and_eq_true, decide_eq_true_eq, beq_iff_eq]
  omega
theorem schc_no {n : Nat} (h : ¬ ((97 ≤ n ∧ n ≤ 122) ∨ (65 ≤ n ∧ n ≤ 90) ∨ (48 ≤ n ∧ n ≤ 57) ∨ n = 43 ∨ n = 45 ∨ n = 46)) : Law.schc n = false := by
  rw [Bool.eq_false_iff]
  unfold Law.schc Law.letter
  simp only [ne_eq, Bool.or_eq_true, Bool.and_eq_true, decide_eq_true_eq, beq_iff_eq]
  omega

/-- where a byte lies, with what the tests ask, in the walk's form -/
theorem classes (n : Nat) :
    (97 ≤ n ∧ n ≤ 122) ∨ (65 ≤ n ∧ n ≤ 90 ∧ decide ((97 : Int) ≤ (n : Int)) = false) ∨
    ((48 ≤ n ∧ n ≤ 57 ∨ n = 43 ∨ n = 45 ∨ n = 46) ∧ n < 65 ∧ decide ((97 : Int) ≤ (n : Int)) = false ∧ decide ((65 : Int) ≤ (n : Int)) = false) ∨
    (¬ (48 ≤ n ∧ n ≤ 57 ∨ n = 43 ∨ n = 45 ∨ n = 46) ∧ n < 65 ∧ decide ((97 : Int) ≤ (n : Int)) = false ∧ decide ((65 : Int) ≤ (n : Int)) = false) ∨
    (91 ≤ n ∧ n < 97 ∧ decide ((97 : Int) ≤ (n : Int)) = false ∧ decide ((n : Int) ≤ 90) = false) ∨
    (123 ≤ n ∧ decide ((n : Int) ≤ 122) = false ∧ decide ((n : Int) ≤ 90) = false) := by
  simp only [decide_eq_false_iff_not]
  omega

set_option maxHeartbeats 1000000 in
/-- zzIsSchemeChar, first -/
theorem char_first (n : Nat) (hn : n < 256) (w : World) : Calls Try.prog 29 #[.int .u8 (n : Int), .bool true] w fun e w' => e = .returned (.bool (Law.letter n)) ∧ w' = w := by
  rcases classes n with ⟨h1, h2⟩ | ⟨h1, h2, h3⟩ | ⟨_, h1, h2, h3⟩ | ⟨_, h1, h2, h3⟩ | ⟨h0, h1, h2, h3⟩ | ⟨h1, h2, h3⟩
  · rw [letter_yes (by omega)]
    go_enter Try.func29, Try.ntmps29
    go_wp2
    go_ret
    exact ⟨rfl, rfl⟩
  · rw [letter_yes (by omega)]
    go_enter Try.func29, Try.ntmps29
    go_wp2
    go_ret
    exact ⟨rfl, rfl⟩
  all_goals
    rw [letter_no (by omega)]
    go_enter Try.func29, Try.ntmps29
    go_wp2
    go_ret
    exact ⟨rfl, rfl⟩

set_option maxHeartbeats 2000000 in
/-- zzIsSchemeChar, not first -/
theorem char_rest (n : Nat) (hn : n < 256) (w : World) : Calls Try.prog 29 #[.int .u8 (n : Int), .bool false] w fun e w' => e = .returned (.bool (Law.schc n)) ∧ w' = w := by
  rcases classes n with ⟨h1, h2⟩ | ⟨h1, h2, h3⟩ | ⟨h0, h1, h2, h3⟩ | ⟨h0, h1, h2, h3⟩ | ⟨h0, h1, h2, h3⟩ | ⟨h1, h2, h3⟩
  · rw [schc_yes (by omega)]
    go_enter Try.func29, Try.ntmps29
    go_wp2
    go_ret
    exact ⟨rfl, rfl⟩
  · rw [schc_yes (by omega)]
    go_enter Try.func29, Try.ntmps29
    go_wp2
    go_ret
    exact ⟨rfl, rfl⟩
  · rw [schc_yes (by omega)]
    rcases h0 with ⟨a, b⟩ | rfl | rfl | rfl
    all_goals
      go_enter Try.func29, Try.ntmps29
      go_wp2
      go_ret
      exact ⟨ret_bool (by first | rfl | (simp; omega)), rfl⟩
  · rw [schc_no (by omega)]
    have b43 : ((n : Int) == 43) = false := beq_eq_false_iff_ne.2 (by omega)
    have b45 : ((n : Int) == 45) = false := beq_eq_false_iff_ne.2 (by omega)
    have b46 : ((n : Int) == 46) = false := beq_eq_false_iff_ne.2 (by omega)
    rcases (show (n < 48 ∧ decide ((48 : Int) ≤ (n : Int)) = false) ∨ (48 ≤ n ∧ decide ((n : Int) ≤ 57) = false) from by simp only [decide_eq_false_iff_not]; omega) with ⟨a, b⟩ | ⟨a, b⟩
    all_goals
      clear h0
      go_enter Try.func29, Try.ntmps29
      go_wp2
      go_ret
      exact ⟨ret_bool (by first | rfl | (simp; omega)), rfl⟩
  all_goals
    rw [schc_no (by omega)]
    have b43 : ((n : Int) == 43) = false := beq_eq_false_iff_ne.2 (by omega)
    have b45 : ((n : Int) == 45) = false := beq_eq_false_iff_ne.2 (by omega)
    have b46 : ((n : Int) == 46) = false := beq_eq_false_iff_ne.2 (by omega)
    have b57 : decide ((n : Int) ≤ 57) = false := decide_eq_false (by omega)
    go_enter Try.func29, Try.ntmps29
    go_wp2
    go_ret
    exact ⟨ret_bool (by first | rfl | (simp; omega)), rfl⟩

theorem drop_cons (s : ByteArray) (k : Nat) (h : k < s.size) : s.data.toList.drop k = s[k] :: s.data.toList.drop (k + 1) := by
  rw [List.drop_eq_getElem_cons (by simpa using h)]; rfl
theorem empty_of (s : ByteArray) (h : s.size = 0) : s.data.toList = [] := List.length_eq_zero_iff.1 (by rw [← Lib.size_eq]; exact h)

theorem tw_go (s : ByteArray) (k : Nat) (h : k < s.size) (hc : Law.schc s[k].toNat = true) :
    k + ((s.data.toList.drop k).takeWhile fun b => Law.schc b.toNat).length = (k + 1) + ((s.data.toList.drop (k + 1)).takeWhile fun b => Law.schc b.toNat).length := by
  rw [drop_cons s k h, List.takeWhile_cons, if_pos hc]
  simp; omega
theorem tw_stop (s : ByteArray) (k : Nat) (h : k < s.size) (hc : Law.schc s[k].toNat = false) :
    k + ((s.data.toList.drop k).takeWhile fun b => Law.schc b.toNat).length = k := by
  rw [drop_cons s k h, List.takeWhile_cons, if_neg (by rw [hc]; simp)]
  simp

set_option maxHeartbeats 2000000 in
/-- zzSchemePrefixLen -/
theorem prefixLen_any (s : ByteArray) (w : World) (hs : s.size ≤ 2097152) :
    Calls Try.prog 10 #[.string s] w fun e w' => e = .returned (.int .i64 (Law.spl s.data.toList : Nat)) ∧ w' = w := by
  by_cases h0 : s.size = 0
  · have hb : ((s.size : Int) == 0) = true := beq_iff_eq.2 (by omega)
    rw [empty_of s h0]
    clear h0
    go_enter Try.func10, Try.ntmps10
    go_wp2
    go_ret
    exact ⟨rfl, rfl⟩
  · have hb : ((s.size : Int) == 0) = false := beq_eq_false_iff_ne.2 (by omega)
    have hp : 0 < s.size := by omega
    have hpi : (0 : Int) < (s.size : Int) := by omega
    have hb0 : s[0].toNat < 256 := s[0].toNat_lt
    have hh : s.data.toList = s[0] :: s.data.toList.drop 1 := by have := drop_cons s 0 hp; simpa using this
    have H29 : Hid (∀ w, Calls Try.prog 29 #[.int .u8 (s[0].toNat : Int), .bool true] w fun e w' => e = .returned (.bool (Law.letter s[0].toNat)) ∧ w' = w) := fun w => char_first _ hb0 w
    clear h0
    cases hl : Law.letter s[0].toNat with
    | false =>
      rw [hl] at H29
      have HF : Hid (Law.spl s.data.toList = 0) := by unfold Hid; rw [hh]; simp [Law.spl, hl]
      rw [HF.out]
      clear hl hh
      go_enter Try.func10, Try.ntmps10
      go_wp2_with (go_at_call 29; refine (Hid.out H29 _).mono ?_; rintro e w' ⟨rfl, rfl⟩)
      go_ret
      exact ⟨rfl, rfl⟩
    | true =>
      rw [hl] at H29
      have HF : Hid (1 + ((s.data.toList.drop 1).takeWhile fun b => Law.schc b.toNat).length = Law.spl s.data.toList) := by unfold Hid; conv => rhs; rw [hh]
                                                                                                                            simp [Law.spl, hl]
      generalize Law.spl s.data.toList = R at HF
      clear hl hh
      go_enter Try.func10, Try.ntmps10
      go_wp2_with (go_at_call 29; refine (Hid.out H29 _).mono ?_; rintro e w' ⟨rfl, rfl⟩)
      go_loop [3] (fun i => ∃ k : Nat, 1 ≤ k ∧ k ≤ s.size ∧ i = .int .i64 k ∧ Hid (k + ((s.data.toList.drop k).takeWhile fun b => Law.schc b.toNat).length = R)) (fun i => s.size - (intOf i).toNat)
      case atStart => exact ⟨1, by omega, by omega, rfl, HF.out⟩
      case round =>
        obtain ⟨k, hk1, hk, rfl, hrel⟩ := hrel
        by_cases hlt : k < s.size
        · have hlti : (k : Int) < (s.size : Int) := by omega
          have hbk : s[k].toNat < 256 := s[k].toNat_lt
          have H30 : Hid (∀ w, Calls Try.prog 29 #[.int .u8 (s[k].toNat : Int), .bool false] w fun e w' => e = .returned (.bool (Law.schc s[k].toNat)) ∧ w' = w) := fun w => char_rest _ hbk w
          cases hc : Law.schc s[k].toNat with
          | true =>
            rw [hc] at H30
            have HG : Hid _ := tw_go s k hlt hc
            clear hc
            go_wp2_with (go_at_call 29; refine (Hid.out H30 _).mono ?_; rintro e w' ⟨rfl, rfl⟩)
            go_round
            case rel => exact ⟨k + 1, by omega, by omega, by go_num, by unfold Hid; rw [← HG.out]; exact hrel.out⟩
            case measure => simp [intOf]; omega
          | false =>
            rw [hc] at H30
            have HG : Hid _ := tw_stop s k hlt hc
            clear hc
            go_wp2_with (go_at_call 29; refine (Hid.out H30 _).mono ?_; rintro e w' ⟨rfl, rfl⟩)
            go_ret
            exact ⟨ret_int (by rw [← hrel.out, HG.out]), rfl⟩
        · have hd : decide ((k : Int) < (s.size : Int)) = false := decide_eq_false (by omega)
          go_wp2
          go_ret
          exact ⟨ret_int (by rw [← hrel.out, List.drop_eq_nil_of_le (by rw [← Lib.size_eq]; omega)]; simp), rfl⟩

end Go.Proofs.Qxb6602430a.Walks
