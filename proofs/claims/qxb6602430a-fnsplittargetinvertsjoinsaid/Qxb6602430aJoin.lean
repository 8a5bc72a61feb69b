/-
  THE WALK of seat b6602430a: FnSplitTargetInvertsJoin.
-/
import Derived.Test.Qxb6602430aGrammar
namespace Go.Proofs.Qxb6602430a.Walks
open Go.RowKit
open Go.Proofs.Qxb6602430a
set_option linter.unusedVariables false

theorem bytes4_yes (a b c d : ByteArray) (w : World) (hs : a.size + b.size + c.size + d.size ≤ 1048576) : Calls Try.prog 16 #[.string a, .string b, .string c, .string d] w fun e w' => e = .returned (.bool true) ∧ w' = w := by
  have h1 : (a.size : Int) ≤ 1048576 := by omega
  have h2 : (b.size : Int) ≤ 1048576 := by omega
  have h3 : (c.size : Int) ≤ 1048576 := by omega
  have h4 : (d.size : Int) ≤ 1048576 := by omega
  have h12 : (a.size : Int) + (b.size : Int) ≤ 1048576 := by omega
  have h123 : (a.size : Int) + (b.size : Int) + (c.size : Int) ≤ 1048576 := by omega
  have h1234 : (a.size : Int) + (b.size : Int) + (c.size : Int) + (d.size : Int) ≤ 1048576 := by omega
  clear hs
  go_enter Try.func16, Try.ntmps16
  go_wp2
  go_ret
  exact ⟨rfl, rfl⟩

theorem bytes4_no (a b c d : ByteArray) (w : World) (hs : ¬ a.size + b.size + c.size + d.size ≤ 1048576) (ha : a.size ≤ 9223372036854775807) (hb : b.size ≤ 9223372036854775807) (hc : c.size ≤ 9223372036854775807) (hd : d.size ≤ 9223372036854775807) :
    Calls Try.prog 16 #[.string a, .string b, .string c, .string d] w fun e w' => e = .returned (.bool false) ∧ w' = w := by
  rcases (show (1048576 : Int) < (a.size : Int) ∨ (a.size : Int) ≤ 1048576 from by omega) with h1 | h1
  · clear hs
    go_enter Try.func16, Try.ntmps16
    go_wp2
    go_ret
    exact ⟨rfl, rfl⟩
  rcases (show (1048576 : Int) < (b.size : Int) ∨ (b.size : Int) ≤ 1048576 from by omega) with h2 | h2
  · clear hs
    go_enter Try.func16, Try.ntmps16
    go_wp2
    go_ret
    exact ⟨rfl, rfl⟩
  rcases (show (1048576 : Int) < (a.size : Int) + (b.size : Int) ∨ (a.size : Int) + (b.size : Int) ≤ 1048576 from by omega) with h3 | h3
  · clear hs
    go_enter Try.func16, Try.ntmps16
    go_wp2
    go_ret
    exact ⟨rfl, rfl⟩
  rcases (show (1048576 : Int) < (c.size : Int) ∨ (c.size : Int) ≤ 1048576 from by omega) with h4 | h4
  · clear hs
    go_enter Try.func16, Try.ntmps16
    go_wp2
    go_ret
    exact ⟨rfl, rfl⟩
  rcases (show (1048576 : Int) < (a.size : Int) + (b.size : Int) + (c.size : Int) ∨ (a.size : Int) + (b.size : Int) + (c.size : Int) ≤ 1048576 from by omega) with h5 | h5
  · clear hs
    go_enter Try.func16, Try.ntmps16
    go_wp2
    go_ret
    exact ⟨rfl, rfl⟩
  rcases (show (1048576 : Int) < (d.size : Int) ∨ (d.size : Int) ≤ 1048576 from by omega) with h6 | h6
  · clear hs
    go_enter Try.func16, Try.ntmps16
    go_wp2
    go_ret
    exact ⟨rfl, rfl⟩
  have h7 : (1048576 : Int) < (a.size : Int) + (b.size : Int) + (c.size : Int) + (d.size : Int) := by omega
  clear hs
  go_enter Try.func16, Try.ntmps16
  go_wp2
  go_ret
  exact ⟨rfl, rfl⟩

/-- the three shapes, one behind the other: zzJoinable's last region -/
def shapes (b c d : ByteArray) : Bool := Law.auS b.data.toList && Law.paS c.data.toList && Law.quS d.data.toList

/-- is the join one of well formed parts? -/
def joinable (a b c d : ByteArray) : Bool :=
  (if a.size = 0 then decide (b.size = 0) && (c.data.toList.head? == some 47) else decide (Law.spl a.data.toList = a.size)) && shapes b c d

set_option maxHeartbeats 2000000 in
/-- zzJoinable, no scheme, refused: an authority -/
theorem joinable_no1 (a b c d : ByteArray) (w : World) (ha : a.toList.isEmpty = true) (hb : b.toList.isEmpty = false) :
    Calls Try.prog 17 #[.string a, .string b, .string c, .string d] w fun e w' => e = .returned (.bool false) ∧ w' = w := by
  go_enter Try.func17, Try.ntmps17
  go_wp2
  go_ret
  exact ⟨rfl, rfl⟩
set_option maxHeartbeats 2000000 in
theorem joinable_no2 (a b c d : ByteArray) (w : World) (ha : a.toList.isEmpty = true) (hb : b.toList.isEmpty = true) (hc : c.toList.isEmpty = true) :
    Calls Try.prog 17 #[.string a, .string b, .string c, .string d] w fun e w' => e = .returned (.bool false) ∧ w' = w := by
  go_enter Try.func17, Try.ntmps17
  go_wp2
  go_ret
  exact ⟨rfl, rfl⟩
set_option maxHeartbeats 2000000 in
theorem joinable_no3 (a b c d : ByteArray) (w : World) (ha : a.toList.isEmpty = true) (hb : b.toList.isEmpty = true) (hc : c.toList.isEmpty = false) (hp : (0 : Int) < (c.size : Int)) (h0 : (((c[0]'(by omega)).toNat : Int) == 47) = false) :
    Calls Try.prog 17 #[.string a, .string b, .string c, .string d] w fun e w' => e = .returned (.bool false) ∧ w' = w := by
  go_enter Try.func17, Try.ntmps17
  go_wp2
  go_ret
  exact ⟨rfl, rfl⟩
set_option maxHeartbeats 2000000 in
theorem joinable_no4 (a b c d : ByteArray) (j : Int) (w : World) (ha : a.toList.isEmpty = false) (hj : ¬ j = (a.size : Int))
    (H10 : Hid (∀ w, Calls Try.prog 10 #[.string a] w fun e w' => e = .returned (.int .i64 j) ∧ w' = w)) :
    Calls Try.prog 17 #[.string a, .string b, .string c, .string d] w fun e w' => e = .returned (.bool false) ∧ w' = w := by
  go_enter Try.func17, Try.ntmps17
  go_wp2_with fail
  refine (Hid.out H10 _).mono ?_
  rintro e w' ⟨rfl, hw⟩; rw [hw]; clear hw
  go_wp2
  go_ret
  exact ⟨rfl, rfl⟩

set_option maxHeartbeats 2000000 in
theorem joinable_o1 (a b c d : ByteArray) (w : World) (ha : a.toList.isEmpty = true) (hb : b.toList.isEmpty = true) (hc : c.toList.isEmpty = false) (hp : (0 : Int) < (c.size : Int)) (h0 : (((c[0]'(by omega)).toNat : Int) == 47) = true)
    (H13 : Hid (∀ w, Calls Try.prog 13 #[.string b] w fun e w' => e = .returned (.bool false) ∧ w' = w)) :
    Calls Try.prog 17 #[.string a, .string b, .string c, .string d] w fun e w' => e = .returned (.bool false) ∧ w' = w := by
  go_enter Try.func17, Try.ntmps17
  go_wp2_with fail
  refine (Hid.out H13 _).mono ?_
  rintro e w' ⟨rfl, hw⟩; rw [hw]; clear hw
  go_wp2
  go_ret
  exact ⟨rfl, rfl⟩
set_option maxHeartbeats 2000000 in
theorem joinable_o2 (a b c d : ByteArray) (w : World) (ha : a.toList.isEmpty = true) (hb : b.toList.isEmpty = true) (hc : c.toList.isEmpty = false) (hp : (0 : Int) < (c.size : Int)) (h0 : (((c[0]'(by omega)).toNat : Int) == 47) = true)
    (H13 : Hid (∀ w, Calls Try.prog 13 #[.string b] w fun e w' => e = .returned (.bool true) ∧ w' = w))
    (H14 : Hid (∀ w, Calls Try.prog 14 #[.string c] w fun e w' => e = .returned (.bool false) ∧ w' = w)) :
    Calls Try.prog 17 #[.string a, .string b, .string c, .string d] w fun e w' => e = .returned (.bool false) ∧ w' = w := by
  go_enter Try.func17, Try.ntmps17
  go_wp2_with fail
  refine (Hid.out H13 _).mono ?_
  rintro e w' ⟨rfl, hw⟩; rw [hw]; clear hw
  go_wp2_with fail
  refine (Hid.out H14 _).mono ?_
  rintro e w' ⟨rfl, hw⟩; rw [hw]; clear hw
  go_wp2
  go_ret
  exact ⟨rfl, rfl⟩
set_option maxHeartbeats 2000000 in
theorem joinable_o3 (a b c d : ByteArray) (q : Bool) (w : World) (ha : a.toList.isEmpty = true) (hb : b.toList.isEmpty = true) (hc : c.toList.isEmpty = false) (hp : (0 : Int) < (c.size : Int)) (h0 : (((c[0]'(by omega)).toNat : Int) == 47) = true)
    (H13 : Hid (∀ w, Calls Try.prog 13 #[.string b] w fun e w' => e = .returned (.bool true) ∧ w' = w))
    (H14 : Hid (∀ w, Calls Try.prog 14 #[.string c] w fun e w' => e = .returned (.bool true) ∧ w' = w))
    (H15 : Hid (∀ w, Calls Try.prog 15 #[.string d] w fun e w' => e = .returned (.bool q) ∧ w' = w)) :
    Calls Try.prog 17 #[.string a, .string b, .string c, .string d] w fun e w' => e = .returned (.bool q) ∧ w' = w := by
  go_enter Try.func17, Try.ntmps17
  go_wp2_with fail
  refine (Hid.out H13 _).mono ?_
  rintro e w' ⟨rfl, hw⟩; rw [hw]; clear hw
  go_wp2_with fail
  refine (Hid.out H14 _).mono ?_
  rintro e w' ⟨rfl, hw⟩; rw [hw]; clear hw
  go_wp2_with fail
  refine (Hid.out H15 _).mono ?_
  rintro e w' ⟨rfl, hw⟩; rw [hw]; clear hw
  go_wp2
  go_ret
  exact ⟨rfl, rfl⟩
set_option maxHeartbeats 2000000 in
theorem joinable_s1 (a b c d : ByteArray) (w : World) (ha : a.toList.isEmpty = false)
    (H10 : Hid (∀ w, Calls Try.prog 10 #[.string a] w fun e w' => e = .returned (.int .i64 (a.size : Int)) ∧ w' = w))
    (H13 : Hid (∀ w, Calls Try.prog 13 #[.string b] w fun e w' => e = .returned (.bool false) ∧ w' = w)) :
    Calls Try.prog 17 #[.string a, .string b, .string c, .string d] w fun e w' => e = .returned (.bool false) ∧ w' = w := by
  go_enter Try.func17, Try.ntmps17
  go_wp2_with fail
  refine (Hid.out H10 _).mono ?_
  rintro e w' ⟨rfl, hw⟩; rw [hw]; clear hw
  go_wp2_with fail
  refine (Hid.out H13 _).mono ?_
  rintro e w' ⟨rfl, hw⟩; rw [hw]; clear hw
  go_wp2
  go_ret
  exact ⟨rfl, rfl⟩
set_option maxHeartbeats 2000000 in
theorem joinable_s2 (a b c d : ByteArray) (w : World) (ha : a.toList.isEmpty = false)
    (H10 : Hid (∀ w, Calls Try.prog 10 #[.string a] w fun e w' => e = .returned (.int .i64 (a.size : Int)) ∧ w' = w))
    (H13 : Hid (∀ w, Calls Try.prog 13 #[.string b] w fun e w' => e = .returned (.bool true) ∧ w' = w))
    (H14 : Hid (∀ w, Calls Try.prog 14 #[.string c] w fun e w' => e = .returned (.bool false) ∧ w' = w)) :
    Calls Try.prog 17 #[.string a, .string b, .string c, .string d] w fun e w' => e = .returned (.bool false) ∧ w' = w := by
  go_enter Try.func17, Try.ntmps17
  go_wp2_with fail
  refine (Hid.out H10 _).mono ?_
  rintro e w' ⟨rfl, hw⟩; rw [hw]; clear hw
  go_wp2_with fail
  refine (Hid.out H13 _).mono ?_
  rintro e w' ⟨rfl, hw⟩; rw [hw]; clear hw
  go_wp2_with fail
  refine (Hid.out H14 _).mono ?_
  rintro e w' ⟨rfl, hw⟩; rw [hw]; clear hw
  go_wp2
  go_ret
  exact ⟨rfl, rfl⟩
set_option maxHeartbeats 2000000 in
theorem joinable_s3 (a b c d : ByteArray) (q : Bool) (w : World) (ha : a.toList.isEmpty = false)
    (H10 : Hid (∀ w, Calls Try.prog 10 #[.string a] w fun e w' => e = .returned (.int .i64 (a.size : Int)) ∧ w' = w))
    (H13 : Hid (∀ w, Calls Try.prog 13 #[.string b] w fun e w' => e = .returned (.bool true) ∧ w' = w))
    (H14 : Hid (∀ w, Calls Try.prog 14 #[.string c] w fun e w' => e = .returned (.bool true) ∧ w' = w))
    (H15 : Hid (∀ w, Calls Try.prog 15 #[.string d] w fun e w' => e = .returned (.bool q) ∧ w' = w)) :
    Calls Try.prog 17 #[.string a, .string b, .string c, .string d] w fun e w' => e = .returned (.bool q) ∧ w' = w := by
  go_enter Try.func17, Try.ntmps17
  go_wp2_with fail
  refine (Hid.out H10 _).mono ?_
  rintro e w' ⟨rfl, hw⟩; rw [hw]; clear hw
  go_wp2_with fail
  refine (Hid.out H13 _).mono ?_
  rintro e w' ⟨rfl, hw⟩; rw [hw]; clear hw
  go_wp2_with fail
  refine (Hid.out H14 _).mono ?_
  rintro e w' ⟨rfl, hw⟩; rw [hw]; clear hw
  go_wp2_with fail
  refine (Hid.out H15 _).mono ?_
  rintro e w' ⟨rfl, hw⟩; rw [hw]; clear hw
  go_wp2
  go_ret
  exact ⟨rfl, rfl⟩

theorem ret_as {f : Nat} {args : Array Value} {w : World} {r r' : Bool} (h : r = r') (H : Calls Try.prog f args w fun e w' => e = .returned (.bool r) ∧ w' = w) :
    Calls Try.prog f args w fun e w' => e = .returned (.bool r') ∧ w' = w := h ▸ H

/-- zzJoinable -/
theorem joinable_any (a b c d : ByteArray) (w : World) (h1 : a.size ≤ 2097152) (h2 : b.size ≤ 2097152) (h3 : c.size ≤ 2097152) :
    Calls Try.prog 17 #[.string a, .string b, .string c, .string d] w fun e w' => e = .returned (.bool (joinable a b c d)) ∧ w' = w := by
  have H13 : Hid (∀ w, Calls Try.prog 13 #[.string b] w fun e w' => e = .returned (.bool (Law.auS b.data.toList)) ∧ w' = w) := fun w => auShape_any b w h2
  have H14 : Hid (∀ w, Calls Try.prog 14 #[.string c] w fun e w' => e = .returned (.bool (Law.paS c.data.toList)) ∧ w' = w) := fun w => paShape_any c w h3
  have H15 : Hid (∀ w, Calls Try.prog 15 #[.string d] w fun e w' => e = .returned (.bool (Law.quS d.data.toList)) ∧ w' = w) := fun w => quShape_any d w
  unfold joinable shapes
  by_cases ha : a.size = 0
  · have ea := isEmpty_of a ha
    rw [if_pos ha]
    by_cases hb : b.size = 0
    · have eb := isEmpty_of b hb
      by_cases hc : c.size = 0
      · refine ret_as ?_ (joinable_no2 a b c d w ea eb (isEmpty_of c hc))
        rw [empty_of c hc]; simp
      · have hp : 0 < c.size := by omega
        have ec := notEmpty_of c hp
        have hd := head_eq c hp 47 47 rfl
        rw [hd, decide_eq_true hb]
        cases h0 : ((c[0].toNat : Int) == 47) with
        | false =>
          exact ret_as (by simp) (joinable_no3 a b c d w ea eb ec (by omega) h0)
        | true =>
          cases hA : Law.auS b.data.toList with
          | false => exact ret_as (by simp) (joinable_o1 a b c d w ea eb ec (by omega) h0 (hA ▸ H13))
          | true =>
            cases hP : Law.paS c.data.toList with
            | false => exact ret_as (by simp) (joinable_o2 a b c d w ea eb ec (by omega) h0 (hA ▸ H13) (hP ▸ H14))
            | true => exact ret_as (by simp) (joinable_o3 a b c d _ w ea eb ec (by omega) h0 (hA ▸ H13) (hP ▸ H14) H15)
    · exact ret_as (by simp [hb]) (joinable_no1 a b c d w ea (notEmpty_of b (by omega)))
  · have ea := notEmpty_of a (by omega)
    rw [if_neg ha]
    by_cases hj : Law.spl a.data.toList = a.size
    · have H10 : Hid (∀ w, Calls Try.prog 10 #[.string a] w fun e w' => e = .returned (.int .i64 (a.size : Int)) ∧ w' = w) := fun w => by
        have := prefixLen_any a w h1
        rw [hj] at this
        exact this
      rw [decide_eq_true hj]
      cases hA : Law.auS b.data.toList with
      | false => exact ret_as (by simp) (joinable_s1 a b c d w ea H10 (hA ▸ H13))
      | true =>
        cases hP : Law.paS c.data.toList with
        | false => exact ret_as (by simp) (joinable_s2 a b c d w ea H10 (hA ▸ H13) (hP ▸ H14))
        | true => exact ret_as (by simp) (joinable_s3 a b c d _ w ea H10 (hA ▸ H13) (hP ▸ H14) H15)
    · exact ret_as (by simp [hj]) (joinable_no4 a b c d (Law.spl a.data.toList : Nat) w ea (by omega) (fun w => prefixLen_any a w h1))

/-- what the parts of a well formed join are -/
theorem joinable_spec {a b c d : ByteArray} (h : joinable a b c d = true) :
    (a = ⟨#[]⟩ ∧ b = ⟨#[]⟩ ∧ Law.split (c ++ d).data.toList = ⟨[], [], c.data.toList, d.data.toList, true⟩) ∨
    (0 < a.size ∧ Law.split (a ++ (⟨#[58, 47, 47]⟩ : ByteArray) ++ b ++ (c ++ d)).data.toList = ⟨a.data.toList, b.data.toList, c.data.toList, d.data.toList, true⟩) := by
  unfold joinable shapes at h
  rw [Bool.and_eq_true, Bool.and_eq_true, Bool.and_eq_true] at h
  obtain ⟨h1, ⟨h2, h3⟩, h4⟩ := h
  by_cases ha : a.size = 0
  · rw [if_pos ha, Bool.and_eq_true, decide_eq_true_eq, beq_iff_eq] at h1
    left
    refine ⟨bytes_ext (by rw [empty_of a ha]), bytes_ext (by rw [empty_of b h1.1]), ?_⟩
    rw [ByteArray.data_append, Array.toList_append]
    exact Law.back_origin h1.2 h3 h4
  · rw [if_neg ha, decide_eq_true_eq] at h1
    right
    refine ⟨by omega, ?_⟩
    have hne : a.data.toList ≠ [] := by
      intro e
      apply ha
      rw [Lib.size_eq, e]; rfl
    have := Law.back_absolute (sc := a.data.toList) (au := b.data.toList) (pa := c.data.toList) (qu := d.data.toList) hne (by rw [h1, Lib.size_eq]) h2 h3 h4
    rw [← this]
    simp [Law.sep]

set_option maxHeartbeats 2000000 in
theorem join_origin (c d : ByteArray) (w : World) (hc : (c.size : Int) ≤ 262144) (hd : (d.size : Int) ≤ 262144)
    (H16 : Hid (∀ w, Calls Try.prog 16 #[.string ⟨#[]⟩, .string ⟨#[]⟩, .string c, .string d] w fun e w' => e = .returned (.bool true) ∧ w' = w))
    (H17 : Hid (∀ w, Calls Try.prog 17 #[.string ⟨#[]⟩, .string ⟨#[]⟩, .string c, .string d] w fun e w' => e = .returned (.bool true) ∧ w' = w))
    (H12 : Hid (Calls Try.prog 12 #[.string (c ++ d)] w fun e w' => e = .returned (.tuple #[.string ⟨#[]⟩, .string ⟨#[]⟩, .string c, .string d, .bool true]) ∧ Below w.heap.size w w')) :
    Calls Try.prog 4 #[.string ⟨#[]⟩, .string ⟨#[]⟩, .string c, .string d] w fun e w' => e = .returned (.bool true) ∧ Below w.heap.size w w' := by
  go_enter Try.func4, Try.ntmps4
  go_wp2_with fail
  refine (Hid.out H16 _).mono ?_
  rintro e w' ⟨rfl, hw⟩; rw [hw]; clear hw
  go_wp2_with fail
  refine (Hid.out H17 _).mono ?_
  rintro e w' ⟨rfl, hw⟩; rw [hw]; clear hw
  go_wp2_with fail
  refine (Hid.out H12).mono ?_
  rintro e w2 ⟨rfl, hb⟩
  have HB : Hid (Below w.heap.size w w2) := hb
  clear hb
  go_wp2
  go_ret
  exact ⟨rfl, HB.out⟩

set_option maxHeartbeats 2000000 in
theorem join_absolute (a b c d : ByteArray) (w : World) (ha : (a.size : Int) ≤ 262144) (hb : (b.size : Int) ≤ 262144) (hc : (c.size : Int) ≤ 262144) (hd : (d.size : Int) ≤ 262144) (hne : a.toList.isEmpty = false)
    (H16 : Hid (∀ w, Calls Try.prog 16 #[.string a, .string b, .string c, .string d] w fun e w' => e = .returned (.bool true) ∧ w' = w))
    (H17 : Hid (∀ w, Calls Try.prog 17 #[.string a, .string b, .string c, .string d] w fun e w' => e = .returned (.bool true) ∧ w' = w))
    (H12 : Hid (Calls Try.prog 12 #[.string (a ++ (⟨#[58, 47, 47]⟩ : ByteArray) ++ b ++ (c ++ d))] w fun e w' => e = .returned (.tuple #[.string a, .string b, .string c, .string d, .bool true]) ∧ Below w.heap.size w w')) :
    Calls Try.prog 4 #[.string a, .string b, .string c, .string d] w fun e w' => e = .returned (.bool true) ∧ Below w.heap.size w w' := by
  go_enter Try.func4, Try.ntmps4
  go_wp2_with fail
  refine (Hid.out H16 _).mono ?_
  rintro e w' ⟨rfl, hw⟩; rw [hw]; clear hw
  go_wp2_with fail
  refine (Hid.out H17 _).mono ?_
  rintro e w' ⟨rfl, hw⟩; rw [hw]; clear hw
  go_wp2_with fail
  refine (Hid.out H12).mono ?_
  rintro e w2 ⟨rfl, hb⟩
  have HB : Hid (Below w.heap.size w w2) := hb
  clear hb
  go_wp2
  go_ret
  exact ⟨rfl, HB.out⟩

set_option maxHeartbeats 2000000 in
/-- a guard on a length lets the law through at once -/
theorem join_long (a b c d : ByteArray) (w : World)
    (h : (262144 : Int) < (a.size : Int) ∨ ((a.size : Int) ≤ 262144 ∧ (262144 : Int) < (b.size : Int)) ∨ ((a.size : Int) ≤ 262144 ∧ (b.size : Int) ≤ 262144 ∧ (262144 : Int) < (c.size : Int)) ∨ ((a.size : Int) ≤ 262144 ∧ (b.size : Int) ≤ 262144 ∧ (c.size : Int) ≤ 262144 ∧ (262144 : Int) < (d.size : Int)))
    (H16 : Hid (∀ w, Calls Try.prog 16 #[.string a, .string b, .string c, .string d] w fun e w' => e = .returned (.bool true) ∧ w' = w)) :
    Calls Try.prog 4 #[.string a, .string b, .string c, .string d] w fun e w' => e = .returned (.bool true) ∧ Below w.heap.size w w' := by
  rcases h with h1 | ⟨h1, h2⟩ | ⟨h1, h2, h3⟩ | ⟨h1, h2, h3, h4⟩ <;>
  · go_enter Try.func4, Try.ntmps4
    go_wp2_with fail
    refine (Hid.out H16 _).mono ?_
    rintro e w' ⟨rfl, hw⟩; rw [hw]; clear hw
    go_wp2
    go_ret
    exact ⟨rfl, Below.refl _ _⟩

set_option maxHeartbeats 2000000 in
theorem join_refused (a b c d : ByteArray) (w : World) (ha : (a.size : Int) ≤ 262144) (hb : (b.size : Int) ≤ 262144) (hc : (c.size : Int) ≤ 262144) (hd : (d.size : Int) ≤ 262144)
    (H16 : Hid (∀ w, Calls Try.prog 16 #[.string a, .string b, .string c, .string d] w fun e w' => e = .returned (.bool true) ∧ w' = w))
    (H17 : Hid (∀ w, Calls Try.prog 17 #[.string a, .string b, .string c, .string d] w fun e w' => e = .returned (.bool false) ∧ w' = w)) :
    Calls Try.prog 4 #[.string a, .string b, .string c, .string d] w fun e w' => e = .returned (.bool true) ∧ Below w.heap.size w w' := by
  go_enter Try.func4, Try.ntmps4
  go_wp2_with fail
  refine (Hid.out H16 _).mono ?_
  rintro e w' ⟨rfl, hw⟩; rw [hw]; clear hw
  go_wp2_with fail
  refine (Hid.out H17 _).mono ?_
  rintro e w' ⟨rfl, hw⟩; rw [hw]; clear hw
  go_wp2
  go_ret
  exact ⟨rfl, Below.refl _ _⟩

theorem size_app (x y : ByteArray) : (x ++ y).size = x.size + y.size := ByteArray.size_append

/-- FnSplitTargetInvertsJoin -/
theorem join_any (a b c d : ByteArray) (m : Int) (w : World) (ha : a.size ≤ 9223372036854775807) (hb : b.size ≤ 9223372036854775807) (hc : c.size ≤ 9223372036854775807) (hd : d.size ≤ 9223372036854775807) (hm : w.cell? ⟨0, 0, none⟩ = some (.int .i64 m)) :
    Calls Try.prog 4 #[.string a, .string b, .string c, .string d] w fun e w' => e = .returned (.bool true) ∧ Below w.heap.size w w' := by
  by_cases hs : a.size + b.size + c.size + d.size ≤ 1048576
  · have H16 : Hid (∀ w, Calls Try.prog 16 #[.string a, .string b, .string c, .string d] w fun e w' => e = .returned (.bool true) ∧ w' = w) := fun w => bytes4_yes a b c d w hs
    by_cases hl : a.size ≤ 262144 ∧ b.size ≤ 262144 ∧ c.size ≤ 262144 ∧ d.size ≤ 262144
    · obtain ⟨la, lb, lc, ld⟩ := hl
      have H17 := fun w => joinable_any a b c d w (by omega) (by omega) (by omega)
      cases hj : joinable a b c d with
      | false =>
        rw [hj] at H17
        exact join_refused a b c d w (by omega) (by omega) (by omega) (by omega) H16 H17
      | true =>
        rw [hj] at H17
        rcases joinable_spec hj with ⟨rfl, rfl, h⟩ | ⟨h1, h⟩
        · refine join_origin c d w (by omega) (by omega) H16 H17 ?_
          exact split_as (sc := ⟨#[]⟩) (au := ⟨#[]⟩) h (split_any (c ++ d) m w (by rw [size_app]; omega) hm)
        · refine join_absolute a b c d w (by omega) (by omega) (by omega) (by omega) (notEmpty_of a h1) H16 H17 ?_
          refine split_as h (split_any _ m w ?_ hm)
          have h3 : (⟨#[58, 47, 47]⟩ : ByteArray).size = 3 := rfl
          rw [size_app, size_app, size_app, size_app, h3]
          omega
    · exact join_long a b c d w (by omega) H16
  · have H16 : Hid (∀ w, Calls Try.prog 16 #[.string a, .string b, .string c, .string d] w fun e w' => e = .returned (.bool false) ∧ w' = w) := fun w => bytes4_no a b c d w hs ha hb hc hd
    clear hs hm
    go_enter Try.func4, Try.ntmps4
    go_wp2_with fail
    refine (Hid.out H16 _).mono ?_
    rintro e w' ⟨rfl, hw⟩; rw [hw]; clear hw
    go_wp2
    go_ret
    exact ⟨rfl, Below.refl _ _⟩

end Go.Proofs.Qxb6602430a.Walks
