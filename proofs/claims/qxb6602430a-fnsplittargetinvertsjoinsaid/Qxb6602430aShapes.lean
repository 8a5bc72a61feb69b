/-
  THE WALKS of seat b6602430a: isScheme; bytes and shapes.
-/
import Derived.Test.Qxb6602430aChars
import Derived.Deep.QuietTactic
import Derived.BigQuiet
namespace Go.Proofs.Qxb6602430a.Walks
open Go.RowKit
open Go.Proofs.Qxb6602430a
set_option linter.unusedVariables false

/-- isScheme's answer, read from place k on -/
def From (s : ByteArray) (k : Nat) (R : Bool) : Prop := if k = 0 then Law.isS s.data.toList = R else (s.data.toList.drop k).all (fun b => Law.schc b.toNat) = R

theorem from_go (s : ByteArray) (k : Nat) (R : Bool) (h : k < s.size) (hc : (k = 0 ∧ Law.letter s[k].toNat = true) ∨ (¬ k = 0 ∧ Law.schc s[k].toNat = true)) (hf : From s k R) : From s (k + 1) R := by
  unfold From at hf ⊢
  rw [if_neg (by omega)]
  rcases hc with ⟨rfl, hl⟩ | ⟨h0, hl⟩
  · rw [if_pos rfl] at hf
    have hh : s.data.toList = s[0] :: s.data.toList.drop 1 := by have := drop_cons s 0 h; simpa using this
    rw [← hf]
    conv => rhs; rw [hh]
    simp only [Law.isS, hl, Bool.true_and]
  · rw [if_neg h0] at hf
    rw [drop_cons s k h, List.all_cons, hl, Bool.true_and] at hf
    exact hf
theorem from_stop (s : ByteArray) (k : Nat) (R : Bool) (h : k < s.size) (hc : (k = 0 ∧ Law.letter s[k].toNat = false) ∨ (¬ k = 0 ∧ Law.schc s[k].toNat = false)) (hf : From s k R) : R = false := by
  unfold From at hf
  rcases hc with ⟨rfl, hl⟩ | ⟨h0, hl⟩
  · rw [if_pos rfl] at hf
    have hh : s.data.toList = s[0] :: s.data.toList.drop 1 := by have := drop_cons s 0 h; simpa using this
    rw [← hf, hh]
    simp only [Law.isS, hl, Bool.false_and]
  · rw [if_neg h0] at hf
    rw [drop_cons s k h, List.all_cons, hl, Bool.false_and] at hf
    exact hf.symm
theorem from_end (s : ByteArray) (k : Nat) (R : Bool) (h : s.size ≤ k) (hp : 0 < s.size) (hf : From s k R) : R = true := by
  unfold From at hf
  rw [if_neg (by omega), List.drop_eq_nil_of_le (by rw [← Lib.size_eq]; exact h)] at hf
  exact hf.symm

set_option maxHeartbeats 4000000 in
/-- httpmsg.isScheme -/
theorem isScheme_any (s : ByteArray) (w : World) (hs : s.size ≤ 2097152) :
    Calls Try.prog 32 #[.string s] w fun e w' => e = .returned (.bool (Law.isS s.data.toList)) ∧ w' = w := by
  by_cases h0 : s.size = 0
  · have he : s.toList.isEmpty = true := by rw [Lib.toList_data, empty_of s h0]; rfl
    have hle : (s.size : Int) ≤ 0 := by omega
    rw [empty_of s h0]
    clear h0
    go_enter Try.func32, Try.ntmps32
    go_wp2
    refine wp_loop_rounds 1 ?_
    rw [rounds_succ]
    go_wp2
    go_ret
    exact ⟨rfl, rfl⟩
  · have hp : 0 < s.size := by omega
    have he : s.toList.isEmpty = false := by
      rw [Lib.toList_data, List.isEmpty_eq_false_iff]
      intro e
      have := Lib.size_eq s
      rw [e, List.length_nil] at this
      omega
    generalize hR : Law.isS s.data.toList = R
    have HR : Hid (From s 0 R) := by unfold Hid From; rw [if_pos rfl]; exact hR
    clear hR h0
    go_enter Try.func32, Try.ntmps32
    go_wp2
    go_loop [3] (fun i => ∃ k : Nat, k ≤ s.size ∧ i = .int .i64 k ∧ Hid (From s k R)) (fun i => s.size - (intOf i).toNat)
    case atStart => exact ⟨0, Nat.zero_le _, rfl, HR.out⟩
    case round =>
      obtain ⟨k, hk, rfl, hrel⟩ := hrel
      by_cases hlt : k < s.size
      · have Hgo : Hid ((k = 0 ∧ Law.letter s[k].toNat = true) ∨ (¬ k = 0 ∧ Law.schc s[k].toNat = true) → From s (k + 1) R) := fun h => from_go s k R hlt h hrel.out
        have Hst : Hid ((k = 0 ∧ Law.letter s[k].toNat = false) ∨ (¬ k = 0 ∧ Law.schc s[k].toNat = false) → R = false) := fun h => from_stop s k R hlt h hrel.out
        have hb : s[k].toNat < 256 := s[k].toNat_lt
        rcases classes s[k].toNat with ⟨h1, h2⟩ | ⟨h1, h2, h3⟩ | ⟨h4, h1, h2, h3⟩ | ⟨h4, h1, h2, h3⟩ | ⟨h4, h1, h2, h3⟩ | ⟨h1, h2, h3⟩
        · have HG : Hid (From s (k + 1) R) := Hgo.out (by by_cases h : k = 0; exact .inl ⟨h, letter_yes (by omega)⟩; exact .inr ⟨h, schc_yes (by omega)⟩)
          clear Hgo Hst
          go_wp2
          go_round
          case rel => exact ⟨k + 1, by omega, by go_num, HG.out⟩
          case measure => simp [intOf]; omega
        · have HG : Hid (From s (k + 1) R) := Hgo.out (by by_cases h : k = 0; exact .inl ⟨h, letter_yes (by omega)⟩; exact .inr ⟨h, schc_yes (by omega)⟩)
          clear Hgo Hst
          go_wp2
          go_round
          case rel => exact ⟨k + 1, by omega, by go_num, HG.out⟩
          case measure => simp [intOf]; omega
        · by_cases hk0 : k = 0
          · have HG : Hid (R = false) := Hst.out (.inl ⟨hk0, letter_no (by omega)⟩)
            have hkb : ((k : Int) == 0) = true := beq_iff_eq.2 (by omega)
            clear Hgo Hst h4 hk0
            go_wp2
            go_ret
            exact ⟨ret_bool HG.out.symm, rfl⟩
          · have HG : Hid (From s (k + 1) R) := Hgo.out (.inr ⟨hk0, schc_yes (by omega)⟩)
            have hkb : ((k : Int) == 0) = false := beq_eq_false_iff_ne.2 (by omega)
            clear Hgo Hst hk0
            rcases (show (48 ≤ s[k].toNat ∧ s[k].toNat ≤ 57) ∨ (s[k].toNat < 48 ∧ decide ((48 : Int) ≤ (s[k].toNat : Int)) = false ∧ ((s[k].toNat : Int) == 43) = true) ∨ (s[k].toNat < 48 ∧ decide ((48 : Int) ≤ (s[k].toNat : Int)) = false ∧ ((s[k].toNat : Int) == 43) = false ∧ ((s[k].toNat : Int) == 45) = true) ∨ (s[k].toNat < 48 ∧ decide ((48 : Int) ≤ (s[k].toNat : Int)) = false ∧ ((s[k].toNat : Int) == 43) = false ∧ ((s[k].toNat : Int) == 45) = false ∧ ((s[k].toNat : Int) == 46) = true) from by simp only [decide_eq_false_iff_not, beq_iff_eq, beq_eq_false_iff_ne, ne_eq]; omega) with ⟨a, b⟩ | ⟨a, b, c⟩ | ⟨a, b, c, d⟩ | ⟨a, b, c, d, e⟩
            all_goals
              clear h4
              go_wp2
              go_round
              case rel => exact ⟨k + 1, by omega, by go_num, HG.out⟩
              case measure => simp [intOf]; omega
        all_goals
          have HG : Hid (R = false) := Hst.out (by by_cases h : k = 0; exact .inl ⟨h, letter_no (by omega)⟩; exact .inr ⟨h, schc_no (by omega)⟩)
          have b43 : ((s[k].toNat : Int) == 43) = false := beq_eq_false_iff_ne.2 (by omega)
          have b45 : ((s[k].toNat : Int) == 45) = false := beq_eq_false_iff_ne.2 (by omega)
          have b46 : ((s[k].toNat : Int) == 46) = false := beq_eq_false_iff_ne.2 (by omega)
          have bd : (s[k].toNat < 48 ∧ decide ((48 : Int) ≤ (s[k].toNat : Int)) = false) ∨ (48 ≤ s[k].toNat ∧ decide ((s[k].toNat : Int) ≤ 57) = false) := by simp only [decide_eq_false_iff_not]; omega
          clear Hgo Hst
          by_cases hk0 : k = 0
          · have hkb : ((k : Int) == 0) = true := beq_iff_eq.2 (by omega)
            clear hk0 bd
            go_wp2
            go_ret
            exact ⟨ret_bool HG.out.symm, rfl⟩
          · have hkb : ((k : Int) == 0) = false := beq_eq_false_iff_ne.2 (by omega)
            clear hk0
            rcases bd with ⟨a, b⟩ | ⟨a, b⟩
            all_goals try (exfalso; omega)
            all_goals
              go_wp2
              go_ret
              exact ⟨ret_bool HG.out.symm, rfl⟩
      · have HG : Hid (R = true) := from_end s k R (by omega) hp hrel.out
        go_wp2
        go_ret
        exact ⟨ret_bool (by rw [HG.out]), rfl⟩

/-! ### zzHasByte -/
theorem cont_go (s : ByteArray) (c : UInt8) (k : Nat) (h : k < s.size) (hc : ¬ s[k] = c) : (s.data.toList.drop k).contains c = (s.data.toList.drop (k + 1)).contains c := by
  have hc' : ¬ c = s[k] := fun e => hc e.symm
  rw [drop_cons s k h, List.contains_cons]
  have : (c == s[k]) = false := by simpa using hc'
  rw [this, Bool.false_or]
theorem cont_hit (s : ByteArray) (c : UInt8) (k : Nat) (h : k < s.size) (hc : s[k] = c) : (s.data.toList.drop k).contains c = true := by
  rw [drop_cons s k h, List.contains_cons, hc]
  simp

set_option maxHeartbeats 1000000 in
theorem hasByte_any (s : ByteArray) (c : UInt8) (n : Int) (hn : (c.toNat : Int) = n) (w : World) (hs : s.size ≤ 2097152) :
    Calls Try.prog 35 #[.string s, .int .u8 n] w fun e w' => e = .returned (.bool (s.data.toList.contains c)) ∧ w' = w := by
  generalize hR : s.data.toList.contains c = R
  have HR : Hid (s.data.toList.contains c = R) := hR
  have HN : Hid ((c.toNat : Int) = n) := hn
  clear hR hn
  go_enter Try.func35, Try.ntmps35
  go_wp2
  go_loop [5] (fun i => ∃ k : Nat, k ≤ s.size ∧ i = .int .i64 k ∧ Hid ((s.data.toList.drop k).contains c = R)) (fun i => s.size - (intOf i).toNat)
  case atStart => exact ⟨0, Nat.zero_le _, rfl, HR.out⟩
  case round =>
    obtain ⟨k, hk, rfl, hrel⟩ := hrel
    by_cases hlt : k < s.size
    · by_cases hc : s[k] = c
      · have hb : ((s[k].toNat : Int) == n) = true := by rw [← HN.out, hc]; simp
        have HG : Hid (R = true) := by unfold Hid; rw [← hrel.out]; exact cont_hit s c k hlt hc
        clear hc
        go_wp2
        go_ret
        exact ⟨ret_bool HG.out.symm, rfl⟩
      · have hb : ((s[k].toNat : Int) == n) = false := by
          rw [beq_eq_false_iff_ne, ← HN.out]
          intro e
          exact hc (UInt8.toNat_inj.1 (by omega))
        have HG : Hid ((s.data.toList.drop k).contains c = (s.data.toList.drop (k + 1)).contains c) := cont_go s c k hlt hc
        clear hc
        go_wp2
        go_round
        case rel => exact ⟨k + 1, by omega, by go_num, by unfold Hid; rw [← HG.out]; exact hrel.out⟩
        case measure => simp [intOf]; omega
    · go_wp2
      go_ret
      exact ⟨ret_bool (by rw [← hrel.out, List.drop_eq_nil_of_le (by rw [← Lib.size_eq]; omega)]; rfl), rfl⟩

end Go.Proofs.Qxb6602430a.Walks
