/-
  THE PROOF OF 'Rows.FnExponentPlainAgreeSaid': the guide's frame at this function, the walk filled.
-/
import Derived.Test.Qxb6601705aRows
import Derived.Test.Qxb6601705aWalksExp
import Derived.WalkKit
import Derived.ProofKit
import Derived.OpenShut
import Derived.ShutString
namespace Go.Proofs.Qxb6601705a.fnExponentPlainAgree
open Go.ChangeShapes Go.WideShapes Go.ChangeAt Go.RowKit
open Go.ChangeMaps (open_string shut_string)
set_option linter.unusedVariables false      -- a walk need not use every 'w<i>' (that an integer argument fits its kind)

theorem own : ownKnob Try.prog.godebug = none := by kernel_rfl

/-- zzBytes_FnExponentPlainAgree -/
theorem bytes_yes (s : ByteArray) (w : World) (hs : s.size ≤ 1048576) : Calls Try.prog 20 #[.string s] w fun e w' => e = .returned (.bool true) ∧ w' = w := by
  have hi : (s.size : Int) ≤ 1048576 := by omega
  go_enter Try.func20, Try.ntmps20
  go_wp2
  go_ret
  exact ⟨rfl, rfl⟩
theorem bytes_no (s : ByteArray) (w : World) (hs : ¬ s.size ≤ 1048576) : Calls Try.prog 20 #[.string s] w fun e w' => e = .returned (.bool false) ∧ w' = w := by
  have hi : (1048576 : Int) < s.size := by omega
  go_enter Try.func20, Try.ntmps20
  go_wp2
  go_ret
  exact ⟨rfl, rfl⟩

theorem nodot_go (s : ByteArray) (k : Nat) (h : k < s.size) (hr : ∀ b ∈ s.data.toList.take k, ¬ b = 46) (hn : ¬ s[k].toNat = 46) : ∀ b ∈ s.data.toList.take (k + 1), ¬ b = 46 := by
  intro b hb
  rw [List.take_succ_eq_append_getElem (by simpa using h), List.mem_append] at hb
  rcases hb with hb | hb
  · exact hr b hb
  · rw [List.mem_singleton] at hb
    subst hb
    intro e
    exact hn (congrArg UInt8.toNat e)
theorem nodot_all (s : ByteArray) (k : Nat) (h : s.size ≤ k) (hr : ∀ b ∈ s.data.toList.take k, ¬ b = 46) : ∀ b ∈ s.data.toList, ¬ b = 46 := by
  rw [List.take_of_length_le (by simpa using h)] at hr
  exact hr

set_option maxHeartbeats 4000000 in
theorem core_bare (s : ByteArray) (w : World) (hs : s.size ≤ 1048576) (hn : ∀ h : 0 < s.size, ¬ s[0].toNat = 45) (X Y : Bool)
    (hX : Hid ((∀ b ∈ s.data.toList, ¬ b = 46) → X = (Y && decide ((s.size : Int) ≤ 2))))
    (Hb : Hid (∀ w, Calls Try.prog 20 #[.string s] w fun e w' => e = .returned (.bool true) ∧ w' = w))
    (He : Hid ((∀ h : 0 < s.size, ¬ s[0].toNat = 43) → ∀ w, Calls Try.prog 13 #[.string s] w fun e w' => e = .returned (.bool X) ∧ w' = w))
    (Hp : Hid (∀ w, Calls Try.prog 17 #[.string s] w fun e w' => e = .returned (.bool Y) ∧ w' = w)) :
    Calls Try.prog 10 #[.string s] w fun e w' => e = .returned (.bool true) ∧ w' = w := by
  have hi : (s.size : Int) ≤ 1048576 := by omega
  by_cases h0 : s.size = 0
  · have He : Hid (∀ w, Calls Try.prog 13 #[.string s] w fun e w' => e = .returned (.bool X) ∧ w' = w) := He.out (fun h => by omega)
    have c0 : ¬ (0 : Int) < (s.size : Int) := by omega
    have d0 : decide ((0 : Int) < (s.size : Int)) = false := decide_eq_false c0
    clear hn h0
    go_enter Try.func10, Try.ntmps10
    go_wp2_with (first | (go_at_call 20; refine (Hb.out _).mono ?_; rintro e w' ⟨rfl, rfl⟩) | (go_at_call 13; refine (He.out _).mono ?_; rintro e w' ⟨rfl, rfl⟩) | (go_at_call 17; refine (Hp.out _).mono ?_; rintro e w' ⟨rfl, rfl⟩))
    go_loop [3] (fun i => ∃ k : Nat, k ≤ s.size ∧ i = .int .i64 k ∧ Hid (∀ b ∈ s.data.toList.take k, ¬ b = 46)) (fun i => s.size - (intOf i).toNat)
    case atStart => exact ⟨0, Nat.zero_le _, rfl, by unfold Hid; simp⟩
    case round =>
      obtain ⟨k, hk, rfl, hrel⟩ := hrel
      by_cases hlt : k < s.size
      · have Hgo : Hid (¬ s[k].toNat = 46 → ∀ b ∈ s.data.toList.take (k + 1), ¬ b = 46) := nodot_go s k hlt hrel.out
        by_cases hd : s[k].toNat = 46
        · have hq : ((s[k].toNat : Int) == 46) = true := beq_iff_eq.2 (by omega)
          clear hd
          go_wp2
          go_ret
          exact ⟨rfl, rfl⟩
        · have hq : ((s[k].toNat : Int) == 46) = false := beq_eq_false_iff_ne.2 (by omega)
          have HD : Hid (¬ s[k].toNat = 46) := hd
          clear hd
          go_wp2
          go_round
          case rel => exact ⟨k + 1, by omega, by go_num, Hgo.out HD.out⟩
          case measure => simp [intOf]; omega
      · have hx := hX.out (nodot_all s k (by omega) hrel.out)
        clear hX
        cases Y with
        | false =>
          obtain rfl : X = false := by simpa using hx
          clear hx
          go_wp2_with (first | (go_at_call 13; refine (He.out _).mono ?_; rintro e w' ⟨rfl, rfl⟩) | (go_at_call 17; refine (Hp.out _).mono ?_; rintro e w' ⟨rfl, rfl⟩))
          go_ret
          exact ⟨rfl, rfl⟩
        | true =>
          obtain rfl : X = decide ((s.size : Int) ≤ 2) := by simpa using hx
          clear hx
          go_wp2_with (first | (go_at_call 13; refine (He.out _).mono ?_; rintro e w' ⟨rfl, rfl⟩) | (go_at_call 17; refine (Hp.out _).mono ?_; rintro e w' ⟨rfl, rfl⟩))
          go_ret
          exact ⟨Walks.ret_bool (by simp), rfl⟩
  · have hp : 0 < s.size := by omega
    have c0 : (0 : Int) < (s.size : Int) := by omega
    have m1 : ((s[0].toNat : Int) == 45) = false := beq_eq_false_iff_ne.2 (by have := hn hp; omega)
    by_cases h43 : s[0].toNat = 43
    · have m2 : ((s[0].toNat : Int) == 43) = true := beq_iff_eq.2 (by omega)
      clear hn h43 h0 He Hp hX
      go_enter Try.func10, Try.ntmps10
      go_wp2_with (go_at_call 20; refine (Hb.out _).mono ?_; rintro e w' ⟨rfl, rfl⟩)
      go_ret
      exact ⟨rfl, rfl⟩
    · have m2 : ((s[0].toNat : Int) == 43) = false := beq_eq_false_iff_ne.2 (by omega)
      have He : Hid (∀ w, Calls Try.prog 13 #[.string s] w fun e w' => e = .returned (.bool X) ∧ w' = w) := He.out (fun h => h43)
      clear hn h43 h0
      go_enter Try.func10, Try.ntmps10
      go_wp2_with (first | (go_at_call 20; refine (Hb.out _).mono ?_; rintro e w' ⟨rfl, rfl⟩) | (go_at_call 13; refine (He.out _).mono ?_; rintro e w' ⟨rfl, rfl⟩) | (go_at_call 17; refine (Hp.out _).mono ?_; rintro e w' ⟨rfl, rfl⟩))
      go_loop [3] (fun i => ∃ k : Nat, k ≤ s.size ∧ i = .int .i64 k ∧ Hid (∀ b ∈ s.data.toList.take k, ¬ b = 46)) (fun i => s.size - (intOf i).toNat)
      case atStart => exact ⟨0, Nat.zero_le _, rfl, by unfold Hid; simp⟩
      case round =>
        obtain ⟨k, hk, rfl, hrel⟩ := hrel
        by_cases hlt : k < s.size
        · have Hgo : Hid (¬ s[k].toNat = 46 → ∀ b ∈ s.data.toList.take (k + 1), ¬ b = 46) := nodot_go s k hlt hrel.out
          by_cases hd : s[k].toNat = 46
          · have hq : ((s[k].toNat : Int) == 46) = true := beq_iff_eq.2 (by omega)
            clear hd
            go_wp2
            go_ret
            exact ⟨rfl, rfl⟩
          · have hq : ((s[k].toNat : Int) == 46) = false := beq_eq_false_iff_ne.2 (by omega)
            have HD : Hid (¬ s[k].toNat = 46) := hd
            clear hd
            go_wp2
            go_round
            case rel => exact ⟨k + 1, by omega, by go_num, Hgo.out HD.out⟩
            case measure => simp [intOf]; omega
        · have hx := hX.out (nodot_all s k (by omega) hrel.out)
          clear hX
          cases Y with
          | false =>
            obtain rfl : X = false := by simpa using hx
            clear hx
            go_wp2_with (first | (go_at_call 13; refine (He.out _).mono ?_; rintro e w' ⟨rfl, rfl⟩) | (go_at_call 17; refine (Hp.out _).mono ?_; rintro e w' ⟨rfl, rfl⟩))
            go_ret
            exact ⟨rfl, rfl⟩
          | true =>
            obtain rfl : X = decide ((s.size : Int) ≤ 2) := by simpa using hx
            clear hx
            go_wp2_with (first | (go_at_call 13; refine (He.out _).mono ?_; rintro e w' ⟨rfl, rfl⟩) | (go_at_call 17; refine (Hp.out _).mono ?_; rintro e w' ⟨rfl, rfl⟩))
            go_ret
            exact ⟨Walks.ret_bool (by simp), rfl⟩

set_option maxHeartbeats 4000000 in
theorem core_minus (s : ByteArray) (w : World) (hs : s.size ≤ 1048576) (hp : 0 < s.size) (hm : s[0].toNat = 45) (X Y : Bool)
    (hX : Hid ((∀ b ∈ s.data.toList, ¬ b = 46) → X = (Y && decide ((s.size : Int) - 1 ≤ 2))))
    (Hb : Hid (∀ w, Calls Try.prog 20 #[.string s] w fun e w' => e = .returned (.bool true) ∧ w' = w))
    (He : Hid (∀ w, Calls Try.prog 13 #[.string s] w fun e w' => e = .returned (.bool X) ∧ w' = w))
    (Hp : Hid (∀ w, Calls Try.prog 17 #[.string s] w fun e w' => e = .returned (.bool Y) ∧ w' = w)) :
    Calls Try.prog 10 #[.string s] w fun e w' => e = .returned (.bool true) ∧ w' = w := by
  have hi : (s.size : Int) ≤ 1048576 := by omega
  have c0 : (0 : Int) < (s.size : Int) := by omega
  have m1 : ((s[0].toNat : Int) == 45) = true := beq_iff_eq.2 (by omega)
  have m2 : ((s[0].toNat : Int) == 43) = false := beq_eq_false_iff_ne.2 (by omega)
  clear hm
  go_enter Try.func10, Try.ntmps10
  go_wp2_with (first | (go_at_call 20; refine (Hb.out _).mono ?_; rintro e w' ⟨rfl, rfl⟩) | (go_at_call 13; refine (He.out _).mono ?_; rintro e w' ⟨rfl, rfl⟩) | (go_at_call 17; refine (Hp.out _).mono ?_; rintro e w' ⟨rfl, rfl⟩))
  go_loop [3] (fun i => ∃ k : Nat, k ≤ s.size ∧ i = .int .i64 k ∧ Hid (∀ b ∈ s.data.toList.take k, ¬ b = 46)) (fun i => s.size - (intOf i).toNat)
  case atStart => exact ⟨0, Nat.zero_le _, rfl, by unfold Hid; simp⟩
  case round =>
    obtain ⟨k, hk, rfl, hrel⟩ := hrel
    by_cases hlt : k < s.size
    · have Hgo : Hid (¬ s[k].toNat = 46 → ∀ b ∈ s.data.toList.take (k + 1), ¬ b = 46) := nodot_go s k hlt hrel.out
      by_cases hd : s[k].toNat = 46
      · have hq : ((s[k].toNat : Int) == 46) = true := beq_iff_eq.2 (by omega)
        clear hd
        go_wp2
        go_ret
        exact ⟨rfl, rfl⟩
      · have hq : ((s[k].toNat : Int) == 46) = false := beq_eq_false_iff_ne.2 (by omega)
        have HD : Hid (¬ s[k].toNat = 46) := hd
        clear hd
        go_wp2
        go_round
        case rel => exact ⟨k + 1, by omega, by go_num, Hgo.out HD.out⟩
        case measure => simp [intOf]; omega
    · have hx := hX.out (nodot_all s k (by omega) hrel.out)
      clear hX
      cases Y with
      | false =>
        obtain rfl : X = false := by simpa using hx
        clear hx
        go_wp2_with (first | (go_at_call 13; refine (He.out _).mono ?_; rintro e w' ⟨rfl, rfl⟩) | (go_at_call 17; refine (Hp.out _).mono ?_; rintro e w' ⟨rfl, rfl⟩))
        go_ret
        exact ⟨rfl, rfl⟩
      | true =>
        obtain rfl : X = decide ((s.size : Int) - 1 ≤ 2) := by simpa using hx
        clear hx
        go_wp2_with (first | (go_at_call 13; refine (He.out _).mono ?_; rintro e w' ⟨rfl, rfl⟩) | (go_at_call 17; refine (Hp.out _).mono ?_; rintro e w' ⟨rfl, rfl⟩))
        go_ret
        exact ⟨Walks.ret_bool (by simp), rfl⟩

theorem zzexp (s : ByteArray) (w : World) (X : Bool) (H : Hid (∀ w, Calls Try.prog 22 #[.string s] w fun e w' => e = .returned (.bool X) ∧ w' = w)) :
    Calls Try.prog 13 #[.string s] w fun e w' => e = .returned (.bool X) ∧ w' = w := by
  go_enter Try.func13, Try.ntmps13
  go_wp2_with (go_at_call 22; refine (H.out _).mono ?_; rintro e w' ⟨rfl, rfl⟩)
  go_ret
  exact ⟨rfl, rfl⟩

theorem head_eq (s : ByteArray) (hp : 0 < s.size) : s.data.toList = s[0] :: s.data.toList.drop 1 := by
  have := Walks.drop_cons s 0 hp
  simpa using this

theorem trim_minus (s : ByteArray) (hp : 0 < s.size) (hm : s[0].toNat = 45) : Law.trim s.data.toList = s.data.toList.drop 1 := by
  have e : s[0] = 45 := UInt8.toNat_inj.1 hm
  unfold Law.trim Lib.trimPrefix Lib.hasPrefix
  rw [head_eq s hp, e]
  rfl

theorem trim_bare (s : ByteArray) (hn : ∀ h : 0 < s.size, ¬ s[0].toNat = 45) : Law.trim s.data.toList = s.data.toList := by
  unfold Law.trim Lib.trimPrefix Lib.hasPrefix
  by_cases hp : 0 < s.size
  · have hh := head_eq s hp
    have : ([45] : List UInt8).isPrefixOf s.data.toList = false := by
      rw [hh]
      have : ¬ (45 : UInt8) = s[0] := fun e => hn hp (by rw [← e]; rfl)
      simp [List.isPrefixOf, this]
    rw [this]; rfl
  · have : s.data.toList = [] := by
      have := Lib.size_eq s
      exact List.length_eq_zero_iff.1 (by omega)
    rw [this]; rfl

/-! ### STEP 1: THE WALK: the Go text returns true. 'Grown w w'': the world has at most new blocks (Derived/RowKit3.lean). Part the cases AHEAD of 'go_enter' where a test parts the walk; take each callee by a contract of your own. -/
theorem walk (a0 : ByteArray) (w0 : a0.size ≤ maxLen) (w : World) :
    Calls Try.prog 10 #[.string a0] w fun e w' => e = .returned (.bool true) ∧ Grown w w' := by
  unfold maxLen at w0
  by_cases hs : a0.size ≤ 1048576
  · have hz : a0.size = a0.data.toList.length := Lib.size_eq a0
    by_cases hp : 0 < a0.size
    · by_cases hm : a0[0].toNat = 45
      · refine (core_minus a0 w hs hp hm (Law.expD (a0.data.toList.drop 1)) (Law.plainD (Law.trim a0.data.toList)) ?_ (fun w => bytes_yes a0 w hs)
          (fun w => zzexp a0 w _ (fun w => Walks.exp_minus a0 w hs hp hm)) (fun w => Walks.zzplain_any a0 w hs)).mono fun e w' ⟨he, hw⟩ => ⟨he, hw ▸ Grown.refl _⟩
        intro hno
        rw [trim_minus a0 hp hm, Law.exp_agree _ (fun b hb => hno b (List.mem_of_mem_drop hb))]
        have : ((a0.data.toList.drop 1).length : Int) = (a0.size : Int) - 1 := by rw [List.length_drop, ← hz]; omega
        rw [this]
      · refine (core_bare a0 w hs (fun _ => hm) (Law.expD a0.data.toList) (Law.plainD (Law.trim a0.data.toList)) ?_ (fun w => bytes_yes a0 w hs)
          (fun h43 w => zzexp a0 w _ (fun w => Walks.exp_bare a0 w hs (fun h => ⟨h43 h, hm⟩))) (fun w => Walks.zzplain_any a0 w hs)).mono fun e w' ⟨he, hw⟩ => ⟨he, hw ▸ Grown.refl _⟩
        intro hno
        rw [trim_bare a0 (fun _ => hm), Law.exp_agree _ hno, ← hz]
    · refine (core_bare a0 w hs (fun h => absurd h hp) (Law.expD a0.data.toList) (Law.plainD (Law.trim a0.data.toList)) ?_ (fun w => bytes_yes a0 w hs)
        (fun h43 w => zzexp a0 w _ (fun w => Walks.exp_bare a0 w hs (fun h => absurd h hp))) (fun w => Walks.zzplain_any a0 w hs)).mono fun e w' ⟨he, hw⟩ => ⟨he, hw ▸ Grown.refl _⟩
      intro hno
      rw [trim_bare a0 (fun h => absurd h hp), Law.exp_agree _ hno, ← hz]
  · have hi : (1048576 : Int) < a0.size := by omega
    have hb : Hid (∀ w, Calls Try.prog 20 #[.string a0] w fun e w' => e = .returned (.bool false) ∧ w' = w) := fun w => bytes_no a0 w hs
    go_enter Try.func10, Try.ntmps10
    go_wp2_with (go_at_call 20; refine (hb.out _).mono ?_; rintro e w' ⟨rfl, rfl⟩)
    go_ret
    exact ⟨rfl, Grown.refl _⟩

/-! ### THE ROW's STEP: WRITTEN OUT: LEAVE IT -/
set_option maxRecDepth 100000 in
theorem lifted (os : Os) (started : os.Started) (H : Type) (enc : TypeId × Value → H) :
    ReturnsInHanded {} Try.checked os 10 .any (Rows.fnExponentPlainAgreeSpec.pre6 enc Try.prog Try.f10 Rows.fnExponentPlainAgreeRow.domain false) (Rows.fnExponentPlainAgreeSpec.post enc Try.prog Try.f10 false true false false) := by
  refine returnsInHanded_of_change (C := Try.checked) own started (by kernel_rfl) Try.func10
    (ChangeSpec.witness6 (enc := enc) (C := Try.checked) false ⟨#[], #[.string ByteArray.empty], []⟩ 8 (by kernel_rfl) (by kernel_rfl) (by kernel_rfl) (by kernel_rfl)) ?_
  intro W base args ds gs before hval0 hW hcnd _
  have hval : ∀ (j : Nat) t v, Try.f10.params[j]? = some t → args[j]? = some v → Value.okWide Try.prog W .any base t v := hval0
  have hW' := hW
  obtain ⟨p, q, hA0, hV, rfl, hfz, hnd⟩ := hW
  have hA : DataW.TrodAll enc Try.prog W 0 (fun _ => true) true Try.f10.params.toList args.toList ds p := hA0
  rw [Try.params10] at hA hval
  obtain ⟨v0, vs0, d0, ds0, p0, q0, hargs, rfl, rfl, h0, r0⟩ := trodAll_cons hA
  obtain ⟨rfl, rfl, rfl⟩ := trodAll_nil r0
  obtain rfl : args = #[v0] := by cases args; simp_all
  obtain ⟨rfl, rfl⟩ := trodVars_none hV
  obtain ⟨a0, rfl, rfl, rfl, w0⟩ := open_string Try.underlying9 (hval 0 9 v0 rfl rfl) h0
  clear hA0 hval0
  simp only [List.append_nil] at hW'
  refine (walk a0 w0 W).mono fun e W' ⟨he, hg⟩ => ?_
  subst he
  exact ⟨_, rfl, post_of_same (pa := []) (pv := []) hW' (fun _ _ _ => (trodAll_cons_mk (shut_bool Try.underlying4 _) trodAll_mk0)) (fun sp _ => (trodAll_cons_mk (shut_string Try.underlying9 w0) trodAll_mk0)) (fun _ _ => rfl) rfl
    (hg.frame _) hg.2.1 (ok_one (by kernel_rfl) rfl (okWide_bool_mk Try.underlying4 _))⟩

theorem over : Rows.fnExponentPlainAgreeRow.holds Try.pinned (OpenSpec.ofChange Rows.fnExponentPlainAgreeSpec) :=
  OpenClaim.holds_of_wide 10 Try.f10 rfl rfl rfl rfl rfl rfl rfl ⟨rfl, rfl, rfl, rfl, rfl⟩ rfl rfl rfl rfl rfl (by kernel_rfl) Try.func10 (by kernel_rfl)
    (of_decide_eq_true (by kernel_rfl)) (by unfold Func.isWrapper; first | (rw [if_pos (by decide +kernel)]; kernel_rfl) | (rw [if_neg (by decide +kernel)]; exact ⟨rfl, rfl⟩))
    (fun os started H enc _ => lifted os started H enc)

/-- ████ THE STATEMENT ████ -/
theorem proved : Rows.FnExponentPlainAgreeSaid :=
  over
end Go.Proofs.Qxb6601705a.fnExponentPlainAgree

namespace Go.Proofs.Qxb6601705a
theorem fnExponentPlainAgree_proved : Rows.FnExponentPlainAgreeSaid := fnExponentPlainAgree.proved
end Go.Proofs.Qxb6601705a
