/-
  THE WALKS of seat b6601609a: matchesAt, the scanner, the copy, commentEnd.
-/
import Derived.Test.Qxb6601609aRows
import Derived.Test.Qxb6601609aShelf
import Derived.Test.Qxb6601609aLaw
import Derived.WalkKit
import Derived.WalkLawsBesides
import Derived.Deep.QuietTactic
import Derived.BigQuiet
namespace Go.Proofs.Qxb6601609a.Walks
open Go.RowKit
open Go.Proofs.Qxb6601609a
set_option linter.unusedVariables false

/-- The cells of block g hold the bytes L. -/
def Holds (w : World) (g : Nat) (L : List UInt8) : Prop := ∀ i, i < L.length → w.cell? ⟨g, i, none⟩ = some (.int .u8 ((L.getD i 0).toNat : Int))

theorem Holds.drewN {w : World} {g : Nat} {L : List UInt8} (h : Holds w g L) (q : Nat) : Holds (w.drewN q) g L := h

theorem ret_bool {a b : Bool} (h : a = b) : Ending.returned (.bool a) = .returned (.bool b) := by rw [h]

theorem ret_int {k : IntKind} {a b : Int} (h : a = b) : Ending.returned (.int k a) = .returned (.int k b) := by rw [h]
theorem at_getD {L : List UInt8} {k : Nat} {v : UInt8} (hv : v = L.getD k 0) (hk : k < L.length) : L[k]? = some v := by
  rw [hv, List.getD_eq_getElem?_getD, List.getElem?_eq_getElem hk]; rfl
theorem at_str (s : ByteArray) (j : Nat) (hj : j < s.size) : s.data.toList[j]? = some s[j] := by
  rw [List.getElem?_eq_getElem (by simpa using hj)]; rfl
theorem step_no {L : List UInt8} {s : ByteArray} {i j n : Nat} {v : UInt8} (hv : v = L.getD (i + j) 0) (hn : L.length = n) (hz : s.size = s.data.toList.length) (hl : i + j < n) (hj : j < s.size) (hr : i + s.size ≤ n) (hne : ((v.toNat : Int) != (s[j].toNat : Int)) = true) :
    Lib.occAt L s.data.toList i = false := by
  refine Law.occ_no L _ i j (by omega) (by omega) ?_
  rw [at_getD hv (by omega), at_str s j hj]
  intro e
  simp only [Option.some.injEq] at e
  rw [e] at hne
  simp at hne
theorem step_yes {L : List UInt8} {s : ByteArray} {i j n : Nat} {v : UInt8} (hv : v = L.getD (i + j) 0) (hn : L.length = n) (hl : i + j < n) (hj : j < s.size) (heq : ((v.toNat : Int) != (s[j].toNat : Int)) = false) (h : Law.Same L s.data.toList i j) :
    Law.Same L s.data.toList i (j + 1) := by
  intro t ht
  rcases (show t < j ∨ t = j from by omega) with h1 | h1
  · exact h t h1
  · subst h1
    rw [at_getD hv (by omega), at_str s t hj]
    have : (v.toNat : Int) = (s[t].toNat : Int) := by simpa using heq
    rw [show v = s[t] from UInt8.toNat_inj.1 (by omega)]

theorem step_end {L : List UInt8} {s : ByteArray} {i j n : Nat} (hn : L.length = n) (hz : s.size = s.data.toList.length) (hj : j = s.size) (hr : i + s.size ≤ n) (h : Law.Same L s.data.toList i j) :
    Lib.occAt L s.data.toList i = true := by
  subst hj
  rw [hz] at h
  exact Law.occ_yes L _ i h (by omega)

set_option maxHeartbeats 1000000 in
theorem match_any (g n : Nat) (L : List UInt8) (s : ByteArray) (i : Nat) (w : World) (hn : L.length = n) (hi : i < n) (hn2 : n ≤ 1048576) (hs : s.size ≤ 1048576) (hc : Hid (Holds w g L)) :
    Calls Try.prog 29 #[.slice (some ⟨g, 0, none⟩) n n, .int .i64 i, .string s] w fun e w' => e = .returned (.bool (Lib.occAt L s.data.toList i)) ∧ ∃ q, w' = w.drewN q := by
  have hz : s.size = s.data.toList.length := Lib.size_eq s
  by_cases hr : n < i + s.size
  · have HF : Hid (Lib.occAt L s.data.toList i = false) := Law.occ_short L _ i (by omega) (by omega)
    rw [HF.out]
    have hlt : (n : Int) - (i : Int) < (s.size : Int) := by omega
    clear hz
    go_enter Try.func29, Try.ntmps29
    go_wp2
    go_ret
    exact ⟨rfl, 0, rfl⟩
  · have hge : (s.size : Int) ≤ (n : Int) - (i : Int) := by omega
    generalize hR : Lib.occAt L s.data.toList i = R
    have HR : Hid (Lib.occAt L s.data.toList i = R) := hR
    have HZ : Hid (s.size = s.data.toList.length) := hz
    have HN : Hid (L.length = n) := hn
    clear hR hz hn
    go_enter Try.func29, Try.ntmps29
    go_wp2
    go_loopw [7] (fun t wr => ∃ j q : Nat, j ≤ s.size ∧ t = .int .i64 j ∧ wr = w.drewN q ∧ Hid (Law.Same L s.data.toList i j)) (fun t _ => s.size - (intOf t).toNat)
    case atStart => exact ⟨0, 0, Nat.zero_le _, rfl, rfl, by unfold Hid; intro t ht; omega⟩
    case round =>
      obtain ⟨j, q, hj, rfl, rfl, hrel⟩ := hrel
      by_cases hlt : j < s.size
      · have hl1 : (i : Int) + (j : Int) < (n : Int) := by omega
        have hl2 : i + j < n := by omega
        have hcell : w.cell? ⟨g, i + j, none⟩ = some (.int .u8 ((L.getD (i + j) 0).toNat : Int)) := hc.out (i + j) (by rw [HN.out]; omega)
        obtain ⟨v, hv⟩ : ∃ v : UInt8, v = L.getD (i + j) 0 := ⟨_, rfl⟩
        rw [← hv] at hcell
        have HV : Hid (v = L.getD (i + j) 0) := hv
        clear hv
        go_wp2
        go_quiet (fail)
        go_wp2
        · have hne : ((v.toNat : Int) != (s[j].toNat : Int)) = true := by assumption
          go_ret
          exact ⟨ret_bool (by rw [← HR.out]; exact (step_no HV.out HN.out HZ.out hl2 hlt (by omega) hne).symm), q + nq, by rw [World.drewN_drewN]⟩
        · have heq : ((v.toNat : Int) != (s[j].toNat : Int)) = false := by assumption
          go_roundw
          case rel => exact ⟨j + 1, q + nq, by omega, by go_num, rfl, step_yes HV.out HN.out hl2 hlt heq hrel.out⟩
          case measure => simp [intOf]; omega
      · go_wp2
        go_ret
        exact ⟨ret_bool (by rw [← HR.out]; exact (step_end HN.out HZ.out (by omega) (by omega) hrel.out).symm), q, rfl⟩


theorem scan_end {L : List UInt8} {cs : List UInt8} {i n : Nat} (hn : L.length = n) (hi : i = n) (h : Lib.NoOcc L cs i ∧ ∀ k : Nat, k < i → L[k]? ≠ some 0) : Law.ce L cs = n := by
  subst hi
  subst hn
  exact Law.ce_end L cs h.1 h.2
theorem scan_step {L : List UInt8} {cs : List UInt8} {i n : Nat} {v : UInt8} (hv : v = L.getD i 0) (hn : L.length = n) (hi : i < n) (ho : Lib.occAt L cs i = false) (h0 : ((v.toNat : Int) == 0) = false)
    (h : Lib.NoOcc L cs i ∧ ∀ k : Nat, k < i → L[k]? ≠ some 0) : Lib.NoOcc L cs (i + 1) ∧ ∀ k : Nat, k < i + 1 → L[k]? ≠ some 0 := by
  refine ⟨h.1.succ ho, fun k hk => ?_⟩
  rcases (show k < i ∨ k = i from by omega) with h1 | h1
  · exact h.2 k h1
  · subst h1
    rw [at_getD hv (by omega)]
    intro e
    simp only [Option.some.injEq] at e
    rw [e] at h0
    simp at h0
theorem scan_nul {L : List UInt8} {cs : List UInt8} {i n : Nat} {v : UInt8} (hv : v = L.getD i 0) (hn : L.length = n) (hi : i < n) (ho : Lib.occAt L cs i = false) (h0 : ((v.toNat : Int) == 0) = true)
    (h : Lib.NoOcc L cs i ∧ ∀ k : Nat, k < i → L[k]? ≠ some 0) : Law.ce L cs = (i : Int) + 1 := by
  refine Law.ce_nul L cs i (by omega) h.1 h.2 ho ?_
  rw [at_getD hv (by omega)]
  have : (v.toNat : Int) = 0 := by simpa using h0
  rw [show v = 0 from UInt8.toNat_inj.1 (by simpa using this)]

set_option maxHeartbeats 1000000 in
/-- the scanner -/
theorem scan_any (g n : Nat) (L : List UInt8) (s : ByteArray) (w : World) (hn : L.length = n) (hn2 : n ≤ 1048576) (hs : s.size ≤ 1048576) (hc : Hid (Holds w g L)) :
    Calls Try.prog 13 #[.slice (some ⟨g, 0, none⟩) n n, .string s] w fun e w' => e = .returned (.int .i64 (Law.ce L s.data.toList)) ∧ ∃ q, w' = w.drewN q := by
  generalize hR : Law.ce L s.data.toList = R
  have HR : Hid (Law.ce L s.data.toList = R) := hR
  have HN : Hid (L.length = n) := hn
  have HZ : Hid (s.size = s.data.toList.length) := Lib.size_eq s
  clear hR hn
  have Hm : Hid (∀ (i q : Nat) (b : Bool), i < n → Lib.occAt L s.data.toList i = b → Calls Try.prog 29 #[.slice (some ⟨g, 0, none⟩) n n, .int .i64 i, .string s] (w.drewN q) fun e w' => e = .returned (.bool b) ∧ ∃ q', w' = (w.drewN q).drewN q') :=
    fun i q b hi hb => hb ▸ match_any g n L s i (w.drewN q) HN.out hi hn2 hs hc
  go_enter Try.func13, Try.ntmps13
  go_wp2
  go_loopw [5] (fun t wr => ∃ i q : Nat, i ≤ n ∧ t = .int .i64 i ∧ wr = w.drewN q ∧ Hid (Lib.NoOcc L s.data.toList i ∧ ∀ k : Nat, k < i → L[k]? ≠ some 0)) (fun t _ => n - (intOf t).toNat)
  case atStart => exact ⟨0, 0, Nat.zero_le _, rfl, rfl, by unfold Hid; exact ⟨Lib.NoOcc.zero _ _, fun k hk => by omega⟩⟩
  case round =>
    obtain ⟨i, q, hi, rfl, rfl, hrel⟩ := hrel
    by_cases hlt : i < n
    · cases ho : Lib.occAt L s.data.toList i with
      | true =>
        have HO : Hid (Lib.occAt L s.data.toList i = true) := ho
        clear ho
        have HT : Hid (R = if s.data.toList = [10] then (i : Int) else (i : Int) + s.size) := by
          unfold Hid; rw [← HR.out, HZ.out]; exact Law.ce_hit L _ i (by rw [HN.out]; exact hlt) hrel.out.1 hrel.out.2 HO.out
        by_cases hten : s.data.toList = [10]
        · have hb : (s.toList == [10]) = true := by rw [Lib.toList_data, hten]; rfl
          have HT' : Hid (R = (i : Int)) := by unfold Hid; rw [HT.out, if_pos hten]
          clear hten
          go_wp2_with (go_at_call 29; refine (Hm.out i q true hlt HO.out).mono ?_; rintro e w' ⟨rfl, q', rfl⟩)
          go_ret
          exact ⟨ret_int HT'.out.symm, q + q', rfl⟩
        · have hb : (s.toList == [10]) = false := by rw [Lib.toList_data]; simpa using hten
          have HT' : Hid (R = (i : Int) + s.size) := by unfold Hid; rw [HT.out, if_neg hten]
          clear hten
          go_wp2_with (go_at_call 29; refine (Hm.out i q true hlt HO.out).mono ?_; rintro e w' ⟨rfl, q', rfl⟩)
          go_ret
          exact ⟨ret_int HT'.out.symm, q + q', rfl⟩
      | false =>
        have HO : Hid (Lib.occAt L s.data.toList i = false) := ho
        clear ho
        have hcell : w.cell? ⟨g, i, none⟩ = some (.int .u8 ((L.getD i 0).toNat : Int)) := hc.out i (by rw [HN.out]; omega)
        obtain ⟨v, hv⟩ : ∃ v : UInt8, v = L.getD i 0 := ⟨_, rfl⟩
        rw [← hv] at hcell
        have HV : Hid (v = L.getD i 0) := hv
        clear hv
        cases h0 : ((v.toNat : Int) == 0) with
        | true =>
          go_wp2_with (go_at_call 29; refine (Hm.out i q false hlt HO.out).mono ?_; rintro e w' ⟨rfl, q', rfl⟩)
          go_ret
          exact ⟨ret_int (by rw [← HR.out]; exact (scan_nul HV.out HN.out hlt HO.out h0 hrel.out).symm), q + q', rfl⟩
        | false =>
          go_wp2_with (go_at_call 29; refine (Hm.out i q false hlt HO.out).mono ?_; rintro e w' ⟨rfl, q', rfl⟩)
          go_roundw
          case rel => exact ⟨i + 1, q + q', by omega, by go_num, rfl, scan_step HV.out HN.out hlt HO.out h0 hrel.out⟩
          case measure => simp [intOf]; omega
    · go_wp2
      go_ret
      exact ⟨ret_int (by rw [← HR.out]; exact (scan_end HN.out (by omega) hrel.out).symm), q, rfl⟩
end Go.Proofs.Qxb6601609a.Walks
