/-
  THE WALKS of seat b6602299a: the two tests for a token.
-/
import Derived.Test.Qxb6602299aChars
import Derived.Lib.IndexMore
namespace Go.Proofs.Qxb6602299a.Walks
open Go.RowKit
open Go.Proofs.Qxb6602299a
set_option linter.unusedVariables false

theorem drop_cons (s : ByteArray) (k : Nat) (h : k < s.size) : s.data.toList.drop k = s[k] :: s.data.toList.drop (k + 1) := by
  rw [List.drop_eq_getElem_cons (by simpa using h)]; rfl

theorem idx_mem : ∀ (l : List UInt8) (c : UInt8), 0 ≤ Lib.indexByte l c ↔ c ∈ l
  | [], c => by simp [Lib.indexByte]
  | b :: l, c => by
    have ih := idx_mem l c
    have hge := Lib.indexByte_ge l c
    unfold Lib.indexByte
    by_cases hb : b = c
    · simp [hb]
    · have hb' : (b == c) = false := by simpa using hb
      have hc : ¬ c = b := fun e => hb e.symm
      rw [hb']
      simp only [Bool.false_eq_true, if_false, List.mem_cons, hc, false_or]
      rw [← ih]
      by_cases hm : Lib.indexByte l c = -1
      · simp [hm]
      · have hm' : (Lib.indexByte l c == -1) = false := by simpa using hm
        rw [hm']
        simp only [Bool.false_eq_true, if_false]
        omega

def marks : List UInt8 := [33, 35, 36, 37, 38, 39, 42, 43, 45, 46, 94, 95, 96, 124, 126]

theorem marks_mem (c : UInt8) : c ∈ marks ↔ (let n := c.toNat; n = 33 ∨ n = 35 ∨ n = 36 ∨ n = 37 ∨ n = 38 ∨ n = 39 ∨ n = 42 ∨ n = 43 ∨ n = 45 ∨ n = 46 ∨ n = 94 ∨ n = 95 ∨ n = 96 ∨ n = 124 ∨ n = 126) := by
  simp only [marks, List.mem_cons, List.not_mem_nil, or_false, ← UInt8.toNat_inj]
  rfl

/-- the answer of strings.IndexByte over the marks -/
theorem marks_idx (c : UInt8) (w : World) : Calls Try.prog 30 #[.string ⟨#[33, 35, 36, 37, 38, 39, 42, 43, 45, 46, 94, 95, 96, 124, 126]⟩, .int .u8 (c.toNat : Int)] w fun e w' => e = .returned (.int .i64 (Lib.indexByte marks c)) ∧ w' = w := by
  have h := Try.strings_IndexByte ⟨#[33, 35, 36, 37, 38, 39, 42, 43, 45, 46, 94, 95, 96, 124, 126]⟩ (c.toNat : Int) w
  have e : ((c.toNat : Int)).toNat.toUInt8 = c := by simp
  rw [e] at h
  exact h

theorem all_go (s : ByteArray) (k : Nat) (h : k < s.size) (hd : Law.tch s[k].toNat = true) : (s.data.toList.drop k).all (fun c => Law.tch c.toNat) = (s.data.toList.drop (k + 1)).all (fun c => Law.tch c.toNat) := by
  rw [drop_cons s k h, List.all_cons, hd]; simp
theorem all_stop (s : ByteArray) (k : Nat) (h : k < s.size) (hd : Law.tch s[k].toNat = false) : (s.data.toList.drop k).all (fun c => Law.tch c.toNat) = false := by
  rw [drop_cons s k h, List.all_cons, hd]; simp

theorem empty_of (s : ByteArray) (h : s.size = 0) : s.data.toList = [] := List.length_eq_zero_iff.1 (by rw [← Lib.size_eq]; exact h)

set_option maxHeartbeats 2000000 in
/-- spanweave.isToken -/
theorem isToken_any (s : ByteArray) (w : World) (hs : s.size ≤ 1048576) :
    Calls Try.prog 26 #[.string s] w fun e w' => e = .returned (.bool (Law.tok s.data.toList)) ∧ w' = w := by
  have hz : s.size = s.data.toList.length := Lib.size_eq s
  by_cases h0 : s.size = 0
  · have HF : Hid (Law.tok s.data.toList = false) := by unfold Hid; rw [empty_of s h0]; rfl
    rw [HF.out]
    have he : s.toList.isEmpty = true := by rw [Lib.toList_data, empty_of s h0]; rfl
    clear h0 hz
    go_enter Try.func26, Try.ntmps26
    go_wp2
    go_ret
    exact ⟨rfl, rfl⟩
  · have he : s.toList.isEmpty = false := by rw [Lib.toList_data, List.isEmpty_eq_false_iff]; intro e; rw [e] at hz; exact h0 hz
    have HF : Hid (Law.tok s.data.toList = s.data.toList.all fun c => Law.tch c.toNat) := by unfold Hid Law.tok; rw [Lib.toList_data] at he; rw [he]; rfl
    rw [HF.out]
    generalize hR : (s.data.toList.all fun c => Law.tch c.toNat) = R
    have HR : Hid ((s.data.toList.all fun c => Law.tch c.toNat) = R) := hR
    clear hR h0 hz HF
    go_enter Try.func26, Try.ntmps26
    go_wp2
    go_loop [3] (fun i => ∃ k : Nat, k ≤ s.size ∧ i = .int .i64 k ∧ Hid (((s.data.toList.drop k).all fun c => Law.tch c.toNat) = R)) (fun i => s.size - (intOf i).toNat)
    case atStart => exact ⟨0, Nat.zero_le _, rfl, HR.out⟩
    case round =>
      obtain ⟨k, hk, rfl, hrel⟩ := hrel
      by_cases hlt : k < s.size
      · have Hgo : Hid (Law.tch s[k].toNat = true → ((s.data.toList.drop k).all fun c => Law.tch c.toNat) = ((s.data.toList.drop (k + 1)).all fun c => Law.tch c.toNat)) := all_go s k hlt
        have Hst : Hid (Law.tch s[k].toNat = false → ((s.data.toList.drop k).all fun c => Law.tch c.toNat) = false) := all_stop s k hlt
        have hb : s[k].toNat < 256 := s[k].toNat_lt
        have Hi : Hid (∀ w, Calls Try.prog 30 #[.string ⟨#[33, 35, 36, 37, 38, 39, 42, 43, 45, 46, 94, 95, 96, 124, 126]⟩, .int .u8 (s[k].toNat : Int)] w fun e w' => e = .returned (.int .i64 (Lib.indexByte marks s[k])) ∧ w' = w) := fun w => marks_idx s[k] w
        have Hm : Hid (0 ≤ Lib.indexByte marks s[k] ↔ s[k] ∈ marks) := idx_mem marks s[k]
        have Hmm : Hid (s[k] ∈ marks ↔ _) := marks_mem s[k]
        have hge := Lib.indexByte_ge marks s[k]
        generalize Lib.indexByte marks s[k] = r at Hi Hm hge
        by_cases c1 : 97 ≤ s[k].toNat ∧ s[k].toNat ≤ 122
        · obtain ⟨a1, a2⟩ := c1
          have H1 : Hid (∀ w, Calls Try.prog 28 #[.int .u8 (s[k].toNat : Int)] w fun e w' => e = .returned (.bool true) ∧ w' = w) := fun w => lower_yes _ w a1 a2
          have HT : Hid (Law.tch s[k].toNat = true) := tch_in (by omega)
          clear Hi Hm Hmm Hst
          go_wp2_with (go_at_call 28; refine (Hid.out H1 _).mono ?_; rintro e w' ⟨rfl, rfl⟩)
          go_round
          case rel => exact ⟨k + 1, by omega, by go_num, by unfold Hid; rw [← Hgo.out HT.out]; exact hrel.out⟩
          case measure => simp [intOf]; omega
        · have H1 : Hid (∀ w, Calls Try.prog 28 #[.int .u8 (s[k].toNat : Int)] w fun e w' => e = .returned (.bool false) ∧ w' = w) := fun w => lower_no _ w c1
          by_cases c2 : 65 ≤ s[k].toNat ∧ s[k].toNat ≤ 90
          · obtain ⟨a1, a2⟩ := c2
            have HT : Hid (Law.tch s[k].toNat = true) := tch_in (by omega)
            clear Hi Hm Hmm Hst c1
            go_wp2_with (go_at_call 28; refine (Hid.out H1 _).mono ?_; rintro e w' ⟨rfl, rfl⟩)
            go_round
            case rel => exact ⟨k + 1, by omega, by go_num, by unfold Hid; rw [← Hgo.out HT.out]; exact hrel.out⟩
            case measure => simp [intOf]; omega
          · have hup : (s[k].toNat < 65 ∧ decide ((65 : Int) ≤ (s[k].toNat : Int)) = false) ∨ (65 ≤ s[k].toNat ∧ decide ((s[k].toNat : Int) ≤ 90) = false) := by
              rcases (show s[k].toNat < 65 ∨ (65 ≤ s[k].toNat ∧ 90 < s[k].toNat) from by omega) with h | h
              · exact .inl ⟨h, decide_eq_false (by omega)⟩
              · exact .inr ⟨h.1, decide_eq_false (by omega)⟩
            by_cases c3 : 48 ≤ s[k].toNat ∧ s[k].toNat ≤ 57
            · have H2 : Hid (∀ w, Calls Try.prog 29 #[.int .u8 (s[k].toNat : Int)] w fun e w' => e = .returned (.bool true) ∧ w' = w) := fun w => digit_yes _ w c3.1 c3.2
              have HT : Hid (Law.tch s[k].toNat = true) := tch_in (by omega)
              clear Hi Hm Hmm Hst c1 c2 c3
              rcases hup with ⟨a1, a2⟩ | ⟨a1, a2⟩
              all_goals
                go_wp2_with (first | (go_at_call 28; refine (Hid.out H1 _).mono ?_; rintro e w' ⟨rfl, rfl⟩) | (go_at_call 29; refine (Hid.out H2 _).mono ?_; rintro e w' ⟨rfl, rfl⟩))
                go_round
                case rel => exact ⟨k + 1, by omega, by go_num, by unfold Hid; rw [← Hgo.out HT.out]; exact hrel.out⟩
                case measure => simp [intOf]; omega
            · have H2 : Hid (∀ w, Calls Try.prog 29 #[.int .u8 (s[k].toNat : Int)] w fun e w' => e = .returned (.bool false) ∧ w' = w) := fun w => digit_no _ w c3
              by_cases c4 : 0 ≤ r
              · have HT : Hid (Law.tch s[k].toNat = true) := tch_in (by have := Hmm.out.1 (Hm.out.1 c4); omega)
                clear Hm Hmm Hst c1 c2 c3
                rcases hup with ⟨a1, a2⟩ | ⟨a1, a2⟩
                all_goals
                  go_wp2_with (first | (go_at_call 28; refine (Hid.out H1 _).mono ?_; rintro e w' ⟨rfl, rfl⟩) | (go_at_call 29; refine (Hid.out H2 _).mono ?_; rintro e w' ⟨rfl, rfl⟩) | (go_at_call 30; refine (Hid.out Hi _).mono ?_; rintro e w' ⟨rfl, rfl⟩))
                  go_round
                  case rel => exact ⟨k + 1, by omega, by go_num, by unfold Hid; rw [← Hgo.out HT.out]; exact hrel.out⟩
                  case measure => simp [intOf]; omega
              · have c4' : r < 0 := by omega
                have HT : Hid (Law.tch s[k].toNat = false) := tch_out (by
                  have : ¬ s[k] ∈ marks := fun h => c4 (Hm.out.2 h)
                  rw [Hmm.out] at this
                  omega)
                clear Hm Hmm Hgo c1 c2 c3 c4
                rcases hup with ⟨a1, a2⟩ | ⟨a1, a2⟩
                all_goals
                  go_wp2_with (first | (go_at_call 28; refine (Hid.out H1 _).mono ?_; rintro e w' ⟨rfl, rfl⟩) | (go_at_call 29; refine (Hid.out H2 _).mono ?_; rintro e w' ⟨rfl, rfl⟩) | (go_at_call 30; refine (Hid.out Hi _).mono ?_; rintro e w' ⟨rfl, rfl⟩))
                  go_ret
                  exact ⟨ret_bool (by rw [← hrel.out]; exact (Hst.out HT.out).symm), rfl⟩
      · go_wp2
        go_ret
        exact ⟨ret_bool (by rw [← hrel.out, List.drop_eq_nil_of_le (by rw [← Lib.size_eq]; omega)]; rfl), rfl⟩

set_option maxHeartbeats 2000000 in
/-- zzBagToken -/
theorem bagToken_any (s : ByteArray) (w : World) (hs : s.size ≤ 1048576) :
    Calls Try.prog 12 #[.string s] w fun e w' => e = .returned (.bool (Law.tok s.data.toList)) ∧ w' = w := by
  have hz : s.size = s.data.toList.length := Lib.size_eq s
  by_cases h0 : s.size = 0
  · have HF : Hid (Law.tok s.data.toList = false) := by unfold Hid; rw [empty_of s h0]; rfl
    rw [HF.out]
    have hb : ((s.size : Int) == 0) = true := beq_iff_eq.2 (by omega)
    clear h0 hz
    go_enter Try.func12, Try.ntmps12
    go_wp2
    go_ret
    exact ⟨rfl, rfl⟩
  · have hb : ((s.size : Int) == 0) = false := beq_eq_false_iff_ne.2 (by omega)
    have HF : Hid (Law.tok s.data.toList = s.data.toList.all fun c => Law.tch c.toNat) := by
      unfold Hid Law.tok
      rw [show s.data.toList.isEmpty = false from by rw [List.isEmpty_eq_false_iff]; intro e; rw [e] at hz; exact h0 hz]; rfl
    rw [HF.out]
    generalize hR : (s.data.toList.all fun c => Law.tch c.toNat) = R
    have HR : Hid ((s.data.toList.all fun c => Law.tch c.toNat) = R) := hR
    clear hR h0 hz HF
    go_enter Try.func12, Try.ntmps12
    go_wp2
    go_loop [3] (fun i => ∃ k : Nat, k ≤ s.size ∧ i = .int .i64 k ∧ Hid (((s.data.toList.drop k).all fun c => Law.tch c.toNat) = R)) (fun i => s.size - (intOf i).toNat)
    case atStart => exact ⟨0, Nat.zero_le _, rfl, HR.out⟩
    case round =>
      obtain ⟨k, hk, rfl, hrel⟩ := hrel
      by_cases hlt : k < s.size
      · have Hgo : Hid (Law.tch s[k].toNat = true → ((s.data.toList.drop k).all fun c => Law.tch c.toNat) = ((s.data.toList.drop (k + 1)).all fun c => Law.tch c.toNat)) := all_go s k hlt
        have Hst : Hid (Law.tch s[k].toNat = false → ((s.data.toList.drop k).all fun c => Law.tch c.toNat) = false) := all_stop s k hlt
        have hb : s[k].toNat < 256 := s[k].toNat_lt
        have H1 : Hid (∀ w, Calls Try.prog 23 #[.int .u8 (s[k].toNat : Int)] w fun e w' => e = .returned (.bool (Law.tch s[k].toNat)) ∧ w' = w) := fun w => tokenChar _ hb w
        cases hT : Law.tch s[k].toNat with
        | true =>
          rw [hT] at H1
          have HT : Hid (Law.tch s[k].toNat = true) := hT
          clear hT Hst
          go_wp2_with (go_at_call 23; refine (Hid.out H1 _).mono ?_; rintro e w' ⟨rfl, rfl⟩)
          go_round
          case rel => exact ⟨k + 1, by omega, by go_num, by unfold Hid; rw [← Hgo.out HT.out]; exact hrel.out⟩
          case measure => simp [intOf]; omega
        | false =>
          rw [hT] at H1
          have HT : Hid (Law.tch s[k].toNat = false) := hT
          clear hT Hgo
          go_wp2_with (go_at_call 23; refine (Hid.out H1 _).mono ?_; rintro e w' ⟨rfl, rfl⟩)
          go_ret
          exact ⟨ret_bool (by rw [← hrel.out]; exact (Hst.out HT.out).symm), rfl⟩
      · go_wp2
        go_ret
        exact ⟨ret_bool (by rw [← hrel.out, List.drop_eq_nil_of_le (by rw [← Lib.size_eq]; omega)]; rfl), rfl⟩

end Go.Proofs.Qxb6602299a.Walks
