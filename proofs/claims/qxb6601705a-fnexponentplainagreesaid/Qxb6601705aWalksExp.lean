/-
  THE WALKS, on: figure.exponent and its door.
-/
import Derived.Test.Qxb6601705aWalks
namespace Go.Proofs.Qxb6601705a.Walks
open Go.RowKit
open Go.Proofs.Qxb6601705a
set_option linter.unusedVariables false

/-- what figure.exponent reads behind its sign -/
def unsign (s : ByteArray) : ByteArray := if h : 0 < s.size then (if s[0].toNat = 43 ∨ s[0].toNat = 45 then s.extract 1 s.size else s) else s

theorem all_go (e : ByteArray) (k : Nat) (h : k < e.size) (hd : Law.dig e[k] = true) : (e.data.toList.drop k).all Law.dig = (e.data.toList.drop (k + 1)).all Law.dig := by
  rw [drop_cons e k h, List.all_cons, hd]; simp
theorem all_stop (e : ByteArray) (k : Nat) (h : k < e.size) (hd : Law.dig e[k] = false) : (e.data.toList.drop k).all Law.dig = false := by
  rw [drop_cons e k h, List.all_cons, hd]; simp

set_option maxHeartbeats 2000000 in
/-- figure.exponent where no sign stands ahead -/
theorem exp_bare (s : ByteArray) (w : World) (hs : s.size ≤ 1048576) (hn : ∀ h : 0 < s.size, ¬ (s[0].toNat = 43) ∧ ¬ (s[0].toNat = 45)) :
    Calls Try.prog 22 #[.string s] w fun e w' => e = .returned (.bool (Law.expD s.data.toList)) ∧ w' = w := by
  have hz : s.size = s.data.toList.length := Lib.size_eq s
  by_cases h0 : s.size = 0
  · have HF : Hid (Law.expD s.data.toList = false) := by unfold Hid Law.expD; rw [← hz, h0]; rfl
    rw [HF.out]
    have b0 : ((s.size : Int) == 0) = true := by simp [h0]
    have c0 : ¬ (0 : Int) < (s.size : Int) := by omega
    have d0 : decide ((0 : Int) < (s.size : Int)) = false := decide_eq_false c0
    clear hn h0 hz
    go_enter Try.func22, Try.ntmps22
    go_wp2
    go_ret
    exact ⟨rfl, rfl⟩
  · have hp : 0 < s.size := by omega
    obtain ⟨n1, n2⟩ := hn hp
    have m1 : ((s[0].toNat : Int) == 43) = false := by simp; omega
    have m2 : ((s[0].toNat : Int) == 45) = false := by simp; omega
    have c0 : (0 : Int) < (s.size : Int) := by omega
    have b0 : ((s.size : Int) == 0) = false := beq_eq_false_iff_ne.2 (by omega)
    clear hn n1 n2
    by_cases h2 : 2 < s.size
    · have HF : Hid (Law.expD s.data.toList = false) := by
        unfold Hid Law.expD; rw [← hz]
        have : decide ((2 : Int) < (s.size : Int)) = true := by simp; omega
        rw [this]; simp
      rw [HF.out]
      have i2 : (2 : Int) < (s.size : Int) := by omega
      clear h2 h0 hz
      go_enter Try.func22, Try.ntmps22
      go_wp2
      go_ret
      exact ⟨rfl, rfl⟩
    · have HF : Hid (Law.expD s.data.toList = s.data.toList.all Law.dig) := by
        unfold Hid Law.expD; rw [← hz, b0]
        have : decide ((2 : Int) < (s.size : Int)) = false := by simp; omega
        rw [this]; simp
      rw [HF.out]
      have i2 : (s.size : Int) ≤ 2 := by omega
      generalize hR : s.data.toList.all Law.dig = R
      have HR : Hid (s.data.toList.all Law.dig = R) := hR
      clear hR h2 h0 hz HF
      go_enter Try.func22, Try.ntmps22
      go_wp2
      go_loop [3] (fun i => ∃ k : Nat, k ≤ s.size ∧ i = .int .i64 k ∧ Hid ((s.data.toList.drop k).all Law.dig = R)) (fun i => s.size - (intOf i).toNat)
      case atStart => exact ⟨0, Nat.zero_le _, rfl, HR.out⟩
      case round =>
        obtain ⟨k, hk, rfl, hrel⟩ := hrel
        by_cases hlt : k < s.size
        · have Hgo : Hid (Law.dig s[k] = true → (s.data.toList.drop k).all Law.dig = (s.data.toList.drop (k + 1)).all Law.dig) := all_go s k hlt
          have Hst : Hid (Law.dig s[k] = false → (s.data.toList.drop k).all Law.dig = false) := all_stop s k hlt
          by_cases hd : (48 : Int) ≤ (s[k].toNat : Int) ∧ (s[k].toNat : Int) ≤ 57
          · obtain ⟨hd1, hd2⟩ := hd
            go_wp2
            go_round
            case rel => exact ⟨k + 1, by omega, by go_num, by unfold Hid; rw [← Hgo.out (dig_yes hd1 hd2)]; exact hrel.out⟩
            case measure => simp [intOf]; omega
          · have HS : Hid (Law.dig s[k] = false) := dig_no hd
            rcases (show (s[k].toNat : Int) < 48 ∨ 57 < (s[k].toNat : Int) from by omega) with h1 | h1
            all_goals
              go_wp2
              go_ret
              exact ⟨ret_bool (by rw [← hrel.out]; exact (Hst.out HS.out).symm), rfl⟩
        · go_wp2
          go_ret
          exact ⟨ret_bool (by rw [← hrel.out, List.drop_eq_nil_of_le (by simp; omega)]; rfl), rfl⟩

set_option maxHeartbeats 2000000 in
/-- figure.exponent behind a minus -/
theorem exp_minus (s : ByteArray) (w : World) (hs : s.size ≤ 1048576) (hp : 0 < s.size) (hm : s[0].toNat = 45) :
    Calls Try.prog 22 #[.string s] w fun e w' => e = .returned (.bool (Law.expD (s.data.toList.drop 1))) ∧ w' = w := by
  have m1 : ((s[0].toNat : Int) == 43) = false := beq_eq_false_iff_ne.2 (by omega)
  have m2 : ((s[0].toNat : Int) == 45) = true := beq_iff_eq.2 (by omega)
  have c0 : (0 : Int) < (s.size : Int) := by omega
  clear hm
  have hz : (s.data.toList.drop 1).length = s.size - 1 := by rw [List.length_drop, ← Lib.size_eq]
  by_cases h1 : s.size - 1 = 0
  · have HF : Hid (Law.expD (s.data.toList.drop 1) = false) := by unfold Hid Law.expD; rw [hz, h1]; rfl
    rw [HF.out]
    clear hz
    go_enter Try.func22, Try.ntmps22
    go_wp2
    go_ret
    exact ⟨rfl, rfl⟩
  · have b0 : (((s.size - 1 : Nat) : Int) == 0) = false := beq_eq_false_iff_ne.2 (by omega)
    by_cases h2 : 2 < s.size - 1
    · have i2 : (2 : Int) < ((s.size - 1 : Nat) : Int) := by omega
      have HF : Hid (Law.expD (s.data.toList.drop 1) = false) := by
        unfold Hid Law.expD; rw [hz, decide_eq_true i2]; simp
      rw [HF.out]
      clear hz
      go_enter Try.func22, Try.ntmps22
      go_wp2
      go_ret
      exact ⟨rfl, rfl⟩
    · have i2 : ((s.size - 1 : Nat) : Int) ≤ 2 := by omega
      have HF : Hid (Law.expD (s.data.toList.drop 1) = (s.data.toList.drop 1).all Law.dig) := by
        unfold Hid Law.expD; rw [hz, b0, decide_eq_false (by omega)]; simp
      rw [HF.out]
      generalize hR : (s.data.toList.drop 1).all Law.dig = R
      have HR : Hid ((s.data.toList.drop 1).all Law.dig = R) := hR
      clear hR h2 hz HF
      go_enter Try.func22, Try.ntmps22
      go_wp2
      go_loop [3] (fun i => ∃ k : Nat, k ≤ s.size - 1 ∧ i = .int .i64 k ∧ Hid (((s.extract 1 s.size).data.toList.drop k).all Law.dig = R)) (fun i => s.size - (intOf i).toNat)
      case atStart => exact ⟨0, Nat.zero_le _, rfl, by unfold Hid; rw [Lib.extract_to_end]; exact HR.out⟩
      case round =>
        obtain ⟨k, hk, rfl, hrel⟩ := hrel
        by_cases hlt : k < s.size - 1
        · have hlt' : k < (s.extract 1 s.size).size := by rw [ByteArray.size_extract]; omega
          have Hgo : Hid (Law.dig (s.extract 1 s.size)[k] = true → ((s.extract 1 s.size).data.toList.drop k).all Law.dig = ((s.extract 1 s.size).data.toList.drop (k + 1)).all Law.dig) := all_go _ k hlt'
          have Hst : Hid (Law.dig (s.extract 1 s.size)[k] = false → ((s.extract 1 s.size).data.toList.drop k).all Law.dig = false) := all_stop _ k hlt'
          by_cases hd : (48 : Int) ≤ ((s.extract 1 s.size)[k].toNat : Int) ∧ ((s.extract 1 s.size)[k].toNat : Int) ≤ 57
          · obtain ⟨hd1, hd2⟩ := hd
            go_wp2
            go_round
            case rel => exact ⟨k + 1, by omega, by go_num, by unfold Hid; rw [← Hgo.out (dig_yes hd1 hd2)]; exact hrel.out⟩
            case measure => simp [intOf]; omega
          · have HS : Hid (Law.dig (s.extract 1 s.size)[k] = false) := dig_no hd
            rcases (show ((s.extract 1 s.size)[k].toNat : Int) < 48 ∨ 57 < ((s.extract 1 s.size)[k].toNat : Int) from by omega) with h1 | h1
            all_goals
              go_wp2
              go_ret
              exact ⟨ret_bool (by rw [← hrel.out]; exact (Hst.out HS.out).symm), rfl⟩
        · go_wp2
          go_ret
          exact ⟨ret_bool (by rw [← hrel.out, List.drop_eq_nil_of_le (by rw [← Lib.size_eq, ByteArray.size_extract]; omega)]; rfl), rfl⟩

end Go.Proofs.Qxb6601705a.Walks
