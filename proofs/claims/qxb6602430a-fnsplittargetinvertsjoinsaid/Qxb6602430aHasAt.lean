/-
  THE WALKS of seat b6602430a: the three shapes; zzHasAt.
-/
import Derived.Test.Qxb6602430aShapes
namespace Go.Proofs.Qxb6602430a.Walks
open Go.RowKit
open Go.Proofs.Qxb6602430a
set_option linter.unusedVariables false

set_option maxHeartbeats 1000000 in
theorem auShape_any (s : ByteArray) (w : World) (hs : s.size ≤ 2097152) :
    Calls Try.prog 13 #[.string s] w fun e w' => e = .returned (.bool (Law.auS s.data.toList)) ∧ w' = w := by
  have H1 : Hid (∀ w, Calls Try.prog 35 #[.string s, .int .u8 47] w fun e w' => e = .returned (.bool (s.data.toList.contains 47)) ∧ w' = w) := fun w => hasByte_any s 47 47 rfl w hs
  have H2 : Hid (∀ w, Calls Try.prog 35 #[.string s, .int .u8 63] w fun e w' => e = .returned (.bool (s.data.toList.contains 63)) ∧ w' = w) := fun w => hasByte_any s 63 63 rfl w hs
  unfold Law.auS Law.noB
  cases h1 : s.data.toList.contains 47 with
  | true =>
    rw [h1] at H1
    clear h1 H2
    go_enter Try.func13, Try.ntmps13
    go_wp2_with fail
    refine (Hid.out H1 _).mono ?_
    rintro e w' ⟨rfl, rfl⟩
    go_wp2
    go_ret
    exact ⟨rfl, rfl⟩
  | false =>
    rw [h1] at H1
    clear h1
    generalize s.data.toList.contains 63 = b at H2
    go_enter Try.func13, Try.ntmps13
    go_wp2_with fail
    refine (Hid.out H1 _).mono ?_
    rintro e w' ⟨rfl, rfl⟩
    go_wp2_with fail
    refine (Hid.out H2 _).mono ?_
    rintro e w' ⟨rfl, rfl⟩
    go_wp2
    go_ret
    exact ⟨ret_bool (by simp), rfl⟩

theorem head_of (s : ByteArray) (hp : 0 < s.size) : s.data.toList.head? = some s[0] ∧ s.data.toList.isEmpty = false := by
  have hh : s.data.toList = s[0] :: s.data.toList.drop 1 := by have := drop_cons s 0 hp; simpa using this
  rw [hh]
  exact ⟨rfl, rfl⟩
theorem head_eq (s : ByteArray) (hp : 0 < s.size) (c : UInt8) (n : Int) (hn : (c.toNat : Int) = n) : (s.data.toList.head? == some c) = ((s[0].toNat : Int) == n) := by
  rw [(head_of s hp).1, Bool.eq_iff_iff]
  simp only [beq_iff_eq, Option.some.injEq, ← hn]
  constructor
  · intro e; rw [e]
  · intro e; exact UInt8.toNat_inj.1 (by omega)
theorem isEmpty_of (s : ByteArray) (h : s.size = 0) : s.toList.isEmpty = true := by rw [Lib.toList_data, empty_of s h]; rfl
theorem notEmpty_of (s : ByteArray) (h : 0 < s.size) : s.toList.isEmpty = false := by rw [Lib.toList_data]; exact (head_of s h).2

set_option maxHeartbeats 1000000 in
theorem paShape_any (s : ByteArray) (w : World) (hs : s.size ≤ 2097152) :
    Calls Try.prog 14 #[.string s] w fun e w' => e = .returned (.bool (Law.paS s.data.toList)) ∧ w' = w := by
  have H2 : Hid (∀ w, Calls Try.prog 35 #[.string s, .int .u8 63] w fun e w' => e = .returned (.bool (s.data.toList.contains 63)) ∧ w' = w) := fun w => hasByte_any s 63 63 rfl w hs
  by_cases h0 : s.size = 0
  · have he := isEmpty_of s h0
    have HF : Hid (Law.paS s.data.toList = !s.data.toList.contains 63) := by unfold Hid Law.paS Law.noB; rw [empty_of s h0]; rfl
    rw [HF.out]
    generalize s.data.toList.contains 63 = b at H2
    clear h0 HF
    go_enter Try.func14, Try.ntmps14
    go_wp2_with (go_at_call 35; refine (Hid.out H2 _).mono ?_; rintro e w' ⟨rfl, rfl⟩)
    go_ret
    exact ⟨rfl, rfl⟩
  · have hp : 0 < s.size := by omega
    have hpi : (0 : Int) < (s.size : Int) := by omega
    have he := notEmpty_of s hp
    have hh := head_eq s hp 47 47 rfl
    cases hb : ((s[0].toNat : Int) == 47) with
    | true =>
      have HF : Hid (Law.paS s.data.toList = !s.data.toList.contains 63) := by unfold Hid Law.paS Law.noB; rw [hh, hb]; simp
      rw [HF.out]
      generalize s.data.toList.contains 63 = b at H2
      clear h0 HF hh
      go_enter Try.func14, Try.ntmps14
      go_wp2_with (go_at_call 35; refine (Hid.out H2 _).mono ?_; rintro e w' ⟨rfl, rfl⟩)
      go_ret
      exact ⟨rfl, rfl⟩
    | false =>
      have HF : Hid (Law.paS s.data.toList = false) := by unfold Hid Law.paS; rw [hh, hb, (head_of s hp).2]; simp
      rw [HF.out]
      clear h0 HF hh H2
      go_enter Try.func14, Try.ntmps14
      go_wp2
      go_ret
      exact ⟨rfl, rfl⟩

set_option maxHeartbeats 1000000 in
theorem quShape_any (s : ByteArray) (w : World) :
    Calls Try.prog 15 #[.string s] w fun e w' => e = .returned (.bool (Law.quS s.data.toList)) ∧ w' = w := by
  by_cases h0 : s.size = 0
  · have he := isEmpty_of s h0
    have HF : Hid (Law.quS s.data.toList = true) := by unfold Hid Law.quS; rw [empty_of s h0]; rfl
    rw [HF.out]
    clear h0 HF
    go_enter Try.func15, Try.ntmps15
    go_wp2
    go_ret
    exact ⟨rfl, rfl⟩
  · have hp : 0 < s.size := by omega
    have hpi : (0 : Int) < (s.size : Int) := by omega
    have he := notEmpty_of s hp
    have HF : Hid (Law.quS s.data.toList = ((s[0].toNat : Int) == 63)) := by unfold Hid Law.quS; rw [head_eq s hp 63 63 rfl, (head_of s hp).2]; rfl
    rw [HF.out]
    clear h0 HF
    go_enter Try.func15, Try.ntmps15
    go_wp2
    go_ret
    exact ⟨rfl, rfl⟩

/-! ### zzHasAt -/
/-- the first j bytes of cs stand at i -/
def Same (xs cs : List UInt8) (i j : Nat) : Prop := ∀ t : Nat, t < j → xs[i + t]? = cs[t]?

theorem occ_yes (xs cs : List UInt8) (i : Nat) (h : Same xs cs i cs.length) (hr : i + cs.length ≤ xs.length) : Lib.occAt xs cs i = true := by
  rw [Lib.occAt_iff_take xs cs i hr]
  rw [beq_iff_eq]
  apply List.ext_getElem?
  intro t
  rw [List.getElem?_take]
  split
  · rw [List.getElem?_drop]; exact h t (by assumption)
  · rw [List.getElem?_eq_none (by omega)]
theorem occ_no (xs cs : List UInt8) (i t : Nat) (ht : t < cs.length) (hr : i + cs.length ≤ xs.length) (hne : xs[i + t]? ≠ cs[t]?) : Lib.occAt xs cs i = false := by
  rw [Lib.occAt_iff_take xs cs i hr]
  rw [beq_eq_false_iff_ne]
  intro e
  apply hne
  have := congrArg (fun l => l[t]?) e
  simp only [List.getElem?_take, if_pos ht, List.getElem?_drop] at this
  exact this
theorem occ_short (xs cs : List UInt8) (i : Nat) (hcs : 0 < cs.length) (hr : xs.length < i + cs.length) : Lib.occAt xs cs i = false := by
  cases ho : Lib.occAt xs cs i with
  | false => rfl
  | true =>
    rcases Lib.occAt_room ho with h | h
    · omega
    · subst h; simp at hcs

theorem step_no (s : ByteArray) (j k : Nat) (hl : j + 3 ≤ s.size) (hk : k < 3) (hlt : j + k < s.size) (hlt2 : k < (⟨#[58, 47, 47]⟩ : ByteArray).size) (hne : ((s[j + k].toNat : Int) != ((⟨#[58, 47, 47]⟩ : ByteArray)[k].toNat : Int)) = true) : Lib.occAt s.data.toList Law.sep j = false := by
  refine occ_no _ _ j k (by simpa [Law.sep] using hk) (by rw [← Lib.size_eq]; exact hl) ?_
  rw [Lib.data_getElem? s (j + k) hlt]
  have h2 : Law.sep[k]? = some (⟨#[58, 47, 47]⟩ : ByteArray)[k] := Lib.data_getElem? (⟨#[58, 47, 47]⟩ : ByteArray) k hlt2
  rw [h2]
  intro e
  simp only [Option.some.injEq] at e
  rw [e] at hne
  simp at hne
theorem step_yes (s : ByteArray) (j k : Nat) (hlt : j + k < s.size) (hlt2 : k < (⟨#[58, 47, 47]⟩ : ByteArray).size) (heq : ((s[j + k].toNat : Int) != ((⟨#[58, 47, 47]⟩ : ByteArray)[k].toNat : Int)) = false) (h : Same s.data.toList Law.sep j k) : Same s.data.toList Law.sep j (k + 1) := by
  intro t ht
  rcases (show t < k ∨ t = k from by omega) with h1 | h1
  · exact h t h1
  · subst h1
    rw [Lib.data_getElem? s (j + t) hlt]
    have h2 : Law.sep[t]? = some (⟨#[58, 47, 47]⟩ : ByteArray)[t] := Lib.data_getElem? (⟨#[58, 47, 47]⟩ : ByteArray) t hlt2
    rw [h2]
    have : (s[j + t].toNat : Int) = ((⟨#[58, 47, 47]⟩ : ByteArray)[t].toNat : Int) := by simpa using heq
    rw [show s[j + t] = (⟨#[58, 47, 47]⟩ : ByteArray)[t] from UInt8.toNat_inj.1 (by omega)]

theorem index_at (s : ByteArray) (k : Nat) (h : k < s.size) (W : World) : (Instr.index 9 (.string s) (.int .i64 (k : Int))).run Try.prog W = .ok (.int .u8 (s[k].toNat : Int)) W := by
  rw [run_index_string W 9 _ .i64 _ Try.underlying9, dif_pos (by omega)]
  simp only [Int.toNat_natCast]

set_option maxHeartbeats 1000000 in
theorem hasAt_any (s : ByteArray) (j : Nat) (w : World) (hs : s.size ≤ 2097152) (hj : j ≤ s.size) :
    Calls Try.prog 11 #[.string s, .int .i64 (j : Int), .string ⟨#[58, 47, 47]⟩] w fun e w' => e = .returned (.bool (Lib.occAt s.data.toList Law.sep j)) ∧ ∃ q, w' = w.drewN q := by
  have hd0 : decide ((j : Int) < 0) = false := decide_eq_false (by omega)
  have hd1 : decide ((s.size : Int) < (j : Int)) = false := decide_eq_false (by omega)
  have hj2 : (j : Int) ≤ (s.size : Int) := by omega
  by_cases hr : s.size < j + 3
  · have HF : Hid (Lib.occAt s.data.toList Law.sep j = false) := occ_short _ _ j (by decide) (by rw [← Lib.size_eq]; exact hr)
    rw [HF.out]
    have hlt : (s.size : Int) - (j : Int) < 3 := by omega
    go_enter Try.func11, Try.ntmps11
    go_wp2
    go_ret
    exact ⟨rfl, 0, rfl⟩
  · have hge : (3 : Int) ≤ (s.size : Int) - (j : Int) := by omega
    generalize hR : Lib.occAt s.data.toList Law.sep j = R
    have HR : Hid (Lib.occAt s.data.toList Law.sep j = R) := hR
    clear hR
    go_enter Try.func11, Try.ntmps11
    go_wp2
    go_loopw [7] (fun t wr => ∃ k q : Nat, k ≤ 3 ∧ t = .int .i64 k ∧ wr = w.drewN q ∧ Hid (Same s.data.toList Law.sep j k)) (fun t _ => 3 - (intOf t).toNat)
    case atStart => exact ⟨0, 0, by omega, rfl, rfl, by unfold Hid; intro t ht; omega⟩
    case round =>
      obtain ⟨k, q, hk, rfl, rfl, hrel⟩ := hrel
      by_cases hlt : k < 3
      · have hl1 : (j : Int) + (k : Int) < (s.size : Int) := by omega
        have hl2 : j + k < s.size := by omega
        have hl3 : k < (⟨#[58, 47, 47]⟩ : ByteArray).size := hlt
        have hl4 : (k : Int) < 3 := by omega
        have hix : ∀ W, (Instr.index 9 (.string s) (.int .i64 ((j : Int) + (k : Int)))).run Try.prog W = .ok (.int .u8 (s[j + k].toNat : Int)) W := fun W => index_at s (j + k) hl2 W
        have hiw : ∀ W, (Instr.index 9 (.string ⟨#[58, 47, 47]⟩) (.int .i64 (k : Int))).run Try.prog W = .ok (.int .u8 ((⟨#[58, 47, 47]⟩ : ByteArray)[k].toNat : Int)) W := fun W => index_at _ k hl3 W
        have HNo : Hid (((s[j + k].toNat : Int) != ((⟨#[58, 47, 47]⟩ : ByteArray)[k].toNat : Int)) = true → R = false) := fun h => by rw [← HR.out]; exact step_no s j k (by omega) hlt hl2 hl3 h
        have HYes : Hid (((s[j + k].toNat : Int) != ((⟨#[58, 47, 47]⟩ : ByteArray)[k].toNat : Int)) = false → Same s.data.toList Law.sep j (k + 1)) := fun h => step_yes s j k hl2 hl3 h hrel.out
        generalize (s[j + k].toNat : Int) = x1 at hix HNo HYes
        generalize ((⟨#[58, 47, 47]⟩ : ByteArray)[k].toNat : Int) = x2 at hiw HNo HYes
        clear hl3
        cases hne : (x1 != x2) with
        | true =>
          go_wp2
          go_quiet (fail)
          go_wp2
          go_ret
          exact ⟨ret_bool (HNo.out hne).symm, q + nq, by first | rfl | rw [World.drewN_drewN]⟩
        | false =>
          go_wp2
          go_quiet (fail)
          go_wp2
          go_roundw
          case rel => exact ⟨k + 1, q + nq, by omega, by go_num, by first | rfl | rw [World.drewN_drewN], HYes.out hne⟩
          case measure => simp [intOf]; omega
      · have e3 : k = 3 := by omega
        have HE : Hid (R = true) := by unfold Hid; rw [← HR.out]; exact occ_yes _ _ j (by rw [e3] at hrel; exact hrel.out) (by rw [← Lib.size_eq]; show j + 3 ≤ _; omega)
        clear e3
        go_wp2
        go_ret
        exact ⟨ret_bool HE.out.symm, q, rfl⟩
end Go.Proofs.Qxb6602430a.Walks
