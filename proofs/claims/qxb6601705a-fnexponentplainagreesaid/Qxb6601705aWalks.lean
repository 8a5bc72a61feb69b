/-
  THE WALKS: figure.plain, figure.exponent, zzPlainModel and their doors, each by a plain function of Qxb6601705aLaw.
-/
import Derived.Test.Qxb6601705aRows
import Derived.Test.Qxb6601705aShelf
import Derived.Test.Qxb6601705aLaw
import Derived.WalkKit
import Derived.WalkLawsBesides
namespace Go.Proofs.Qxb6601705a.Walks
open Go.RowKit
open Go.Proofs.Qxb6601705a
set_option linter.unusedVariables false

theorem drop_cons (s : ByteArray) (k : Nat) (h : k < s.size) : s.data.toList.drop k = s[k] :: s.data.toList.drop (k + 1) := by
  rw [List.drop_eq_getElem_cons (by simpa using h)]; rfl

theorem dig_yes {c : UInt8} (h1 : (48 : Int) ≤ (c.toNat : Int)) (h2 : (c.toNat : Int) ≤ 57) : Law.dig c = true := by
  unfold Law.dig; simp; omega
theorem dig_no {c : UInt8} (h : ¬ ((48 : Int) ≤ (c.toNat : Int) ∧ (c.toNat : Int) ≤ 57)) : Law.dig c = false := by
  unfold Law.dig; simp; omega

theorem ok_go (d : ByteArray) (p : Int) (k : Nat) (h : k < d.size) (hd : Law.dig d[k] = true ∨ (k : Int) = p) :
    Law.okFrom p k (d.data.toList.drop k) = Law.okFrom p ((k + 1 : Nat) : Int) (d.data.toList.drop (k + 1)) := by
  rw [drop_cons d k h]
  simp only [Law.okFrom]
  have e : (Law.dig d[k] || (k : Int) == p) = true := by rcases hd with h | h <;> simp [h]
  rw [e]; simp

theorem ok_stop (d : ByteArray) (p : Int) (k : Nat) (h : k < d.size) (hd : Law.dig d[k] = false) (hp : ¬ (k : Int) = p) :
    Law.okFrom p k (d.data.toList.drop k) = false := by
  rw [drop_cons d k h]
  simp only [Law.okFrom]
  have e : ((k : Int) == p) = false := by simpa using hp
  rw [hd, e]; simp

theorem ret_bool {a b : Bool} (h : a = b) : Ending.returned (.bool a) = .returned (.bool b) := by rw [h]

set_option maxHeartbeats 1000000 in
/-- figure.plain, the text behind the minus and the point's place as letters. -/
theorem plain_core (s d : ByteArray) (p : Int) (w : World) (hs : d.size ≤ 1048576) (hp : -1 ≤ p) (hp2 : p ≤ d.size)
    (Ht : Hid (∀ w, Calls Try.prog 25 #[.string s, .string ⟨#[45]⟩] w fun e w' => e = .returned (.string d) ∧ w' = w))
    (Hi : Hid (∀ w, Calls Try.prog 26 #[.string d, .int .u8 46] w fun e w' => e = .returned (.int .i64 p) ∧ w' = w)) :
    Calls Try.prog 24 #[.string s] w fun e w' => e = .returned (.bool (!(p == 0 || p == (d.size : Int) - 1 || (d.size : Int) == 0) && Law.okFrom p 0 d.data.toList)) ∧ w' = w := by
  by_cases c1 : (p == 0) = true
  · go_enter Try.func24, Try.ntmps24
    go_wp2_with (first | (go_at_call 25; refine (Ht.out _).mono ?_; rintro e w' ⟨rfl, rfl⟩) | (go_at_call 26; refine (Hi.out _).mono ?_; rintro e w' ⟨rfl, rfl⟩))
    go_ret
    exact ⟨ret_bool (by simp [c1]), rfl⟩
  · have c1' : (p == 0) = false := by simpa using c1
    clear c1
    by_cases c2 : (p == (d.size : Int) - 1) = true
    · go_enter Try.func24, Try.ntmps24
      go_wp2_with (first | (go_at_call 25; refine (Ht.out _).mono ?_; rintro e w' ⟨rfl, rfl⟩) | (go_at_call 26; refine (Hi.out _).mono ?_; rintro e w' ⟨rfl, rfl⟩))
      go_ret
      exact ⟨ret_bool (by simp [c2]), rfl⟩
    · have c2' : (p == (d.size : Int) - 1) = false := by simpa using c2
      clear c2
      by_cases c3 : ((d.size : Int) == 0) = true
      · go_enter Try.func24, Try.ntmps24
        go_wp2_with (first | (go_at_call 25; refine (Ht.out _).mono ?_; rintro e w' ⟨rfl, rfl⟩) | (go_at_call 26; refine (Hi.out _).mono ?_; rintro e w' ⟨rfl, rfl⟩))
        go_ret
        exact ⟨ret_bool (by simp [c3]), rfl⟩
      · have c3' : ((d.size : Int) == 0) = false := by simpa using c3
        clear c3
        have HF : Hid ((!(p == 0 || p == (d.size : Int) - 1 || (d.size : Int) == 0) && Law.okFrom p 0 d.data.toList) = Law.okFrom p 0 d.data.toList) := by
          unfold Hid; rw [c1', c2', c3']; rfl
        rw [HF.out]
        clear HF
        generalize hR : Law.okFrom p 0 d.data.toList = R
        have HR : Hid (Law.okFrom p 0 d.data.toList = R) := hR
        clear hR
        go_enter Try.func24, Try.ntmps24
        go_wp2_with (first | (go_at_call 25; refine (Ht.out _).mono ?_; rintro e w' ⟨rfl, rfl⟩) | (go_at_call 26; refine (Hi.out _).mono ?_; rintro e w' ⟨rfl, rfl⟩))
        go_loop [5] (fun i => ∃ k : Nat, k ≤ d.size ∧ i = .int .i64 k ∧ Hid (Law.okFrom p k (d.data.toList.drop k) = R)) (fun i => d.size - (intOf i).toNat)
        case atStart => exact ⟨0, Nat.zero_le _, rfl, HR.out⟩
        case round =>
          obtain ⟨k, hk, rfl, hrel⟩ := hrel
          by_cases hlt : k < d.size
          · have hgo := ok_go d p k hlt
            have hst := ok_stop d p k hlt
            have Hgo : Hid (Law.dig d[k] = true ∨ (k : Int) = p → Law.okFrom p k (d.data.toList.drop k) = Law.okFrom p ((k + 1 : Nat) : Int) (d.data.toList.drop (k + 1))) := hgo
            have Hst : Hid (Law.dig d[k] = false → ¬ (k : Int) = p → Law.okFrom p k (d.data.toList.drop k) = false) := hst
            clear hgo hst
            by_cases hd : (48 : Int) ≤ (d[k].toNat : Int) ∧ (d[k].toNat : Int) ≤ 57
            · obtain ⟨hd1, hd2⟩ := hd
              go_wp2
              go_round
              case rel => exact ⟨k + 1, by omega, by go_num, by unfold Hid; rw [← Hgo.out (.inl (dig_yes hd1 hd2))]; exact hrel.out⟩
              case measure => simp [intOf]; omega
            · have hdn : Law.dig d[k] = false := dig_no hd
              have Hdn : Hid (Law.dig d[k] = false) := hdn
              clear hdn
              by_cases hkp : ((k : Int) != p) = true
              · have hkp' : ¬ (k : Int) = p := by simpa using hkp
                have Hkp : Hid (¬ (k : Int) = p) := hkp'
                clear hkp'
                rcases (show (d[k].toNat : Int) < 48 ∨ 57 < (d[k].toNat : Int) from by omega) with h1 | h1
                all_goals
                  go_wp2
                  go_ret
                  exact ⟨ret_bool (by rw [← hrel.out]; exact (Hst.out Hdn.out Hkp.out).symm), rfl⟩
              · have hkp1 : ((k : Int) != p) = false := by simpa using hkp
                have hkp' : (k : Int) = p := by simpa using hkp
                have Hkp : Hid ((k : Int) = p) := hkp'
                clear hkp' hkp
                rcases (show (d[k].toNat : Int) < 48 ∨ 57 < (d[k].toNat : Int) from by omega) with h1 | h1
                all_goals
                  go_wp2
                  go_round
                  case rel => exact ⟨k + 1, by omega, by go_num, by unfold Hid; rw [← Hgo.out (.inr Hkp.out)]; exact hrel.out⟩
                  case measure => simp [intOf]; omega
          · go_wp2
            go_ret
            exact ⟨ret_bool (by rw [← hrel.out, List.drop_eq_nil_of_le (by simp; omega)]; rfl), rfl⟩

theorem trim_le (l : List UInt8) : (Law.trim l).length ≤ l.length := by
  unfold Law.trim Lib.trimPrefix
  split
  · simp
  · exact Nat.le_refl _

/-- figure.plain -/
theorem plain_any (s : ByteArray) (w : World) (hs : s.size ≤ 1048576) :
    Calls Try.prog 24 #[.string s] w fun e w' => e = .returned (.bool (Law.plainD (Law.trim s.data.toList))) ∧ w' = w := by
  have hl := trim_le s.data.toList
  have hz : s.size = s.data.toList.length := Lib.size_eq s
  have hd : (⟨(Law.trim s.data.toList).toArray⟩ : ByteArray).size = (Law.trim s.data.toList).length := by simp [ByteArray.size]
  have h := plain_core s ⟨(Law.trim s.data.toList).toArray⟩ (Lib.indexByte (Law.trim s.data.toList) 46) w (by omega) (Lib.indexByte_ge _ _) (by rw [hd]; exact Law.indexByte_le _ _)
    (fun w => Try.strings_TrimPrefix s ⟨#[45]⟩ w) (fun w => Try.strings_IndexByte ⟨(Law.trim s.data.toList).toArray⟩ 46 w)
  rw [hd] at h
  exact h

/-- figure.ZZplain -/
theorem zzplain_any (s : ByteArray) (w : World) (hs : s.size ≤ 1048576) :
    Calls Try.prog 17 #[.string s] w fun e w' => e = .returned (.bool (Law.plainD (Law.trim s.data.toList))) ∧ w' = w := by
  have H : Hid (∀ w, Calls Try.prog 24 #[.string s] w fun e w' => e = .returned (.bool (Law.plainD (Law.trim s.data.toList))) ∧ w' = w) := fun w => plain_any s w hs
  generalize Law.plainD (Law.trim s.data.toList) = R at H
  go_enter Try.func17, Try.ntmps17
  go_wp2_with (go_at_call 24; refine (H.out _).mono ?_; rintro e w' ⟨rfl, rfl⟩)
  go_ret
  exact ⟨rfl, rfl⟩

theorem acc_go (s : ByteArray) (k : Nat) (h : k < s.size) (st st' : Nat) (hs : Law.step st s[k] = some st') :
    Law.acc st (s.data.toList.drop k) = Law.acc st' (s.data.toList.drop (k + 1)) := by
  rw [drop_cons s k h]; simp only [Law.acc, hs]
theorem acc_stop (s : ByteArray) (k : Nat) (h : k < s.size) (st : Nat) (hs : Law.step st s[k] = none) :
    Law.acc st (s.data.toList.drop k) = false := by
  rw [drop_cons s k h]; simp only [Law.acc, hs]


theorem st_dig (st : Nat) (c : UInt8) (h : Law.dig c = true) (h4 : st ≤ 4) : Law.step st c = some (if st ≤ 2 then 2 else 4) := by
  have hn : ¬ c.toNat = 45 := by intro e; unfold Law.dig at h; simp at h; omega
  have hm : ¬ c.toNat = 46 := by intro e; unfold Law.dig at h; simp at h; omega
  rcases (show st = 0 ∨ st = 1 ∨ st = 2 ∨ st = 3 ∨ st = 4 from by omega) with rfl | rfl | rfl | rfl | rfl <;> simp [Law.step, h, hn, hm]
theorem st_none (st : Nat) (c : UInt8) (h : Law.dig c = false) (h4 : st ≤ 4) (h0 : st = 0 → ¬ c.toNat = 45) (h2 : st = 2 → ¬ c.toNat = 46) : Law.step st c = none := by
  rcases (show st = 0 ∨ st = 1 ∨ st = 2 ∨ st = 3 ∨ st = 4 from by omega) with rfl | rfl | rfl | rfl | rfl <;> simp_all [Law.step]

set_option maxHeartbeats 2000000 in
/-- zzPlainModel -/
theorem model_any (s : ByteArray) (w : World) (hs : s.size ≤ 1048576) :
    Calls Try.prog 18 #[.string s] w fun e w' => e = .returned (.bool (Law.acc 0 s.data.toList)) ∧ w' = w := by
  generalize hR : Law.acc 0 s.data.toList = R
  have HR : Hid (Law.acc 0 s.data.toList = R) := hR
  clear hR
  go_enter Try.func18, Try.ntmps18
  go_wp2
  go_loop [3, 4] (fun t i => ∃ k st : Nat, k ≤ s.size ∧ st ≤ 4 ∧ i = .int .i64 k ∧ t = .int .i64 st ∧ Hid (Law.acc st (s.data.toList.drop k) = R)) (fun _ i => s.size - (intOf i).toNat)
  case atStart => exact ⟨0, 0, Nat.zero_le _, Nat.zero_le _, rfl, rfl, HR.out⟩
  case round =>
    obtain ⟨k, st, hk, hst4, rfl, rfl, hrel⟩ := hrel
    by_cases hlt : k < s.size
    · have Hgo : Hid (∀ st st' : Nat, Law.step st s[k] = some st' → Law.acc st (s.data.toList.drop k) = Law.acc st' (s.data.toList.drop (k + 1))) := fun st st' => acc_go s k hlt st st'
      have Hst : Hid (∀ st : Nat, Law.step st s[k] = none → Law.acc st (s.data.toList.drop k) = false) := fun st => acc_stop s k hlt st
      rcases (show st = 0 ∨ st = 1 ∨ st = 2 ∨ st = 3 ∨ st = 4 from by omega) with rfl | rfl | rfl | rfl | rfl
      · by_cases hm : (s[k].toNat : Int) = 45
        · have hb : ((s[k].toNat : Int) == 45) = true := by simpa using hm
          have hm' : s[k].toNat = 45 := by omega
          have h48 : (s[k].toNat : Int) < 48 := by omega
          have HS : Hid (Law.step 0 s[k] = some 1) := by unfold Hid; simp [Law.step, hm']
          clear hm hm'
          go_wp2
          go_round
          case rel => exact ⟨k + 1, 1, by omega, by omega, by go_num, by first | rfl | go_num, by unfold Hid; rw [← Hgo.out _ _ HS.out]; exact hrel.out⟩
          case measure => simp [intOf]; omega
        · have hb : ((s[k].toNat : Int) == 45) = false := by simpa using hm
          have hm' : ¬ s[k].toNat = 45 := by omega
          have HM : Hid (¬ s[k].toNat = 45) := hm'
          clear hm hm'
          by_cases hd : (48 : Int) ≤ (s[k].toNat : Int) ∧ (s[k].toNat : Int) ≤ 57
          · obtain ⟨hd1, hd2⟩ := hd
            have HS : Hid (Law.step 0 s[k] = some 2) := st_dig 0 _ (dig_yes hd1 hd2) (by omega)
            go_wp2
            go_round
            case rel => exact ⟨k + 1, 2, by omega, by omega, by go_num, by first | rfl | go_num, by unfold Hid; rw [← Hgo.out _ _ HS.out]; exact hrel.out⟩
            case measure => simp [intOf]; omega
          · have HS : Hid (Law.step 0 s[k] = none) := st_none 0 _ (dig_no hd) (by omega) (fun _ => HM.out) (fun h => by omega)
            rcases (show (s[k].toNat : Int) < 48 ∨ (57 < (s[k].toNat : Int) ∧ decide ((s[k].toNat : Int) ≤ 57) = false) from by simp; omega) with h1 | ⟨h1, hq⟩
            all_goals
              go_wp2
              go_ret
              exact ⟨ret_bool (by rw [← hrel.out]; exact (Hst.out _ HS.out).symm), rfl⟩
      · by_cases hd : (48 : Int) ≤ (s[k].toNat : Int) ∧ (s[k].toNat : Int) ≤ 57
        · obtain ⟨hd1, hd2⟩ := hd
          have HS : Hid (Law.step 1 s[k] = some 2) := st_dig 1 _ (dig_yes hd1 hd2) (by omega)
          go_wp2
          go_round
          case rel => exact ⟨k + 1, 2, by omega, by omega, by go_num, by first | rfl | go_num, by unfold Hid; rw [← Hgo.out _ _ HS.out]; exact hrel.out⟩
          case measure => simp [intOf]; omega
        · have HS : Hid (Law.step 1 s[k] = none) := st_none 1 _ (dig_no hd) (by omega) (fun h => by omega) (fun h => by omega)
          rcases (show (s[k].toNat : Int) < 48 ∨ (57 < (s[k].toNat : Int) ∧ decide ((s[k].toNat : Int) ≤ 57) = false) from by simp; omega) with h1 | ⟨h1, hq⟩
          all_goals
            go_wp2
            go_ret
            exact ⟨ret_bool (by rw [← hrel.out]; exact (Hst.out _ HS.out).symm), rfl⟩
      · by_cases hm : (s[k].toNat : Int) = 46
        · have hb : ((s[k].toNat : Int) == 46) = true := by simpa using hm
          have hm' : s[k].toNat = 46 := by omega
          have h48 : (s[k].toNat : Int) < 48 := by omega
          have HS : Hid (Law.step 2 s[k] = some 3) := by unfold Hid; simp [Law.step, hm']
          clear hm hm'
          go_wp2
          go_round
          case rel => exact ⟨k + 1, 3, by omega, by omega, by go_num, by first | rfl | go_num, by unfold Hid; rw [← Hgo.out _ _ HS.out]; exact hrel.out⟩
          case measure => simp [intOf]; omega
        · have hb : ((s[k].toNat : Int) == 46) = false := by simpa using hm
          have hm' : ¬ s[k].toNat = 46 := by omega
          have HM : Hid (¬ s[k].toNat = 46) := hm'
          clear hm hm'
          by_cases hd : (48 : Int) ≤ (s[k].toNat : Int) ∧ (s[k].toNat : Int) ≤ 57
          · obtain ⟨hd1, hd2⟩ := hd
            have HS : Hid (Law.step 2 s[k] = some 2) := st_dig 2 _ (dig_yes hd1 hd2) (by omega)
            go_wp2
            go_round
            case rel => exact ⟨k + 1, 2, by omega, by omega, by go_num, by first | rfl | go_num, by unfold Hid; rw [← Hgo.out _ _ HS.out]; exact hrel.out⟩
            case measure => simp [intOf]; omega
          · have HS : Hid (Law.step 2 s[k] = none) := st_none 2 _ (dig_no hd) (by omega) (fun h => by omega) (fun _ => HM.out)
            rcases (show (s[k].toNat : Int) < 48 ∨ (57 < (s[k].toNat : Int) ∧ decide ((s[k].toNat : Int) ≤ 57) = false) from by simp; omega) with h1 | ⟨h1, hq⟩
            all_goals
              go_wp2
              go_ret
              exact ⟨ret_bool (by rw [← hrel.out]; exact (Hst.out _ HS.out).symm), rfl⟩
      · by_cases hd : (48 : Int) ≤ (s[k].toNat : Int) ∧ (s[k].toNat : Int) ≤ 57
        · obtain ⟨hd1, hd2⟩ := hd
          have HS : Hid (Law.step 3 s[k] = some 4) := st_dig 3 _ (dig_yes hd1 hd2) (by omega)
          go_wp2
          go_round
          case rel => exact ⟨k + 1, 4, by omega, by omega, by go_num, by first | rfl | go_num, by unfold Hid; rw [← Hgo.out _ _ HS.out]; exact hrel.out⟩
          case measure => simp [intOf]; omega
        · have HS : Hid (Law.step 3 s[k] = none) := st_none 3 _ (dig_no hd) (by omega) (fun h => by omega) (fun h => by omega)
          rcases (show (s[k].toNat : Int) < 48 ∨ (57 < (s[k].toNat : Int) ∧ decide ((s[k].toNat : Int) ≤ 57) = false) from by simp; omega) with h1 | ⟨h1, hq⟩
          all_goals
            go_wp2
            go_ret
            exact ⟨ret_bool (by rw [← hrel.out]; exact (Hst.out _ HS.out).symm), rfl⟩
      · by_cases hd : (48 : Int) ≤ (s[k].toNat : Int) ∧ (s[k].toNat : Int) ≤ 57
        · obtain ⟨hd1, hd2⟩ := hd
          have HS : Hid (Law.step 4 s[k] = some 4) := st_dig 4 _ (dig_yes hd1 hd2) (by omega)
          go_wp2
          go_round
          case rel => exact ⟨k + 1, 4, by omega, by omega, by go_num, by first | rfl | go_num, by unfold Hid; rw [← Hgo.out _ _ HS.out]; exact hrel.out⟩
          case measure => simp [intOf]; omega
        · have HS : Hid (Law.step 4 s[k] = none) := st_none 4 _ (dig_no hd) (by omega) (fun h => by omega) (fun h => by omega)
          rcases (show (s[k].toNat : Int) < 48 ∨ (57 < (s[k].toNat : Int) ∧ decide ((s[k].toNat : Int) ≤ 57) = false) from by simp; omega) with h1 | ⟨h1, hq⟩
          all_goals
            go_wp2
            go_ret
            exact ⟨ret_bool (by rw [← hrel.out]; exact (Hst.out _ HS.out).symm), rfl⟩
    · have hst0 : Hid (Law.acc st (s.data.toList.drop k) = R) := hrel
      have HF : Hid (R = (st == 2 || st == 4)) := by unfold Hid; rw [← hrel.out, List.drop_eq_nil_of_le (by simp; omega)]; rfl
      rcases (show st = 0 ∨ st = 1 ∨ st = 2 ∨ st = 3 ∨ st = 4 from by omega) with rfl | rfl | rfl | rfl | rfl
      all_goals
        go_wp2
        go_ret
        exact ⟨ret_bool (by rw [HF.out]; rfl), rfl⟩
end Go.Proofs.Qxb6601705a.Walks
