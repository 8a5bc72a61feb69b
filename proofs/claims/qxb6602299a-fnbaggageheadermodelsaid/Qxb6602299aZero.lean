/-
  THE WALK of seat b6602299a: the law at no item.
-/
import Derived.Test.Qxb6602299aMain
namespace Go.Proofs.Qxb6602299a.Walks
open Go.RowKit
open Go.Proofs.Qxb6602299a
set_option linter.unusedVariables false

set_option maxRecDepth 100000 in
set_option maxHeartbeats 2000000 in
theorem main_nil (w : World) :
    Calls Try.prog 3 #[.slice none 0 0] w fun e w' => e = .returned (.bool true) ∧ Below w.heap.size w w' := by
  obtain ⟨i3, hi, hz0, hz1, hz2⟩ := info_parts info3
  have H8 : Hid (∀ w, Calls Try.prog 8 #[.slice none 0 0] w fun e w' => e = .returned (.bool true) ∧ w' = w) := fun w => bytes_none none 0 w
  have H9 : Hid (∀ w, Calls Try.prog 9 #[.slice none 0 0] w fun e w' => e = .returned (.bool true) ∧ w' = w) := fun w => fit_none none 0 w
  have H10 : Hid (∀ w, Calls Try.prog 10 #[.slice none 0 0] w fun e w' => e = .returned (.slice none 0 0) ∧ w' = w) := fun w => copy_nil w
  have H11 : Hid (∀ w, Calls Try.prog 11 #[.slice none 0 0] w fun e w' => e = .returned (.string ⟨#[]⟩) ∧ w' = w) := fun w => zzheader_nil w
  go_enter Try.func3, Try.ntmps3
  go_wp2_with fail
  refine (Hid.out H8 _).mono ?_
  rintro e w' ⟨rfl, hw⟩
  rw [hw]
  clear hw
  go_wp2_with fail
  refine (Hid.out H9 _).mono ?_
  rintro e w' ⟨rfl, hw⟩
  rw [hw]
  clear hw
  go_wp2_with fail
  refine (Hid.out H10 _).mono ?_
  rintro e w' ⟨rfl, hw⟩
  rw [hw]
  clear hw
  go_wp2_with fail
  refine (Hid.out H11 _).mono ?_
  rintro e w' ⟨rfl, hw⟩
  rw [hw]
  clear hw
  go_wp2_with (at_make; refine wpList_make_own _ rfl _ _ 26 rfl w.heap.size 3 i3 (.int .i64 0) 1 Try.underlying26 hi hz0 hz1 .i64 .i64 _ 0 rfl rfl rfl (by rw [hz2]; omega) (by unfold maxLen; omega) (Nat.le_refl _) ?_; intro w3 own3 grow3)
  have H3 : Hid (Below w.heap.size w w3) := (Below.refl _ _).grown grow3 (Nat.le_refl _) (fun k h => by cases h)
  clear own3 grow3
  refine wp_loop_rounds 1 ?_
  rw [rounds_succ]
  go_wp2_with (at_make; refine wpList_make_full _ rfl _ _ 26 rfl w3.heap.size 3 i3 (.int .i64 0) 1 Try.underlying26 hi hz0 hz1 .i64 .i64 _ _ 1 rfl rfl (by omega) (by omega) (by rw [hz2]; omega) (by unfold maxLen; omega) (Nat.le_refl _) ?_; intro w5 own5 grow5)
  have H5 : Hid (Below w3.heap.size w3 w5) := (Below.refl _ _).grown grow5 (Nat.le_refl _) (fun k h => by cases h)
  clear own5 grow5
  have hconv : (convert 30 9 (.slice none 0 0)).run Try.prog w5 = .ok (.string ⟨#[]⟩) w5 := run_convert_bytes_nil w5 30 5 Try.underlying30 Try.underlying5 0 0 9 Try.underlying9
  refine wp_loop_rounds 1 ?_
  rw [rounds_succ]
  go_wp2
  refine wp_loop_rounds 1 ?_
  rw [rounds_succ]
  go_wp2
  refine wp_loop_rounds 1 ?_
  rw [rounds_succ]
  go_wp2
  go_ret
  refine ⟨ret_bool (by simp), ?_⟩
  exact H3.out.trans (H5.out.mono H3.out.size)

set_option maxHeartbeats 2000000 in
theorem main_none (a : Addr) (c : Nat) (w : World) :
    Calls Try.prog 3 #[.slice (some a) 0 c] w fun e w' => e = .returned (.bool true) ∧ Below w.heap.size w w' := by
  obtain ⟨i3, hi, hz0, hz1, hz2⟩ := info_parts info3
  have H8 : Hid (∀ w, Calls Try.prog 8 #[.slice (some a) 0 c] w fun e w' => e = .returned (.bool true) ∧ w' = w) := fun w => bytes_none (some a) c w
  have H9 : Hid (∀ w, Calls Try.prog 9 #[.slice (some a) 0 c] w fun e w' => e = .returned (.bool true) ∧ w' = w) := fun w => fit_none (some a) c w
  go_enter Try.func3, Try.ntmps3
  go_wp2_with fail
  refine (Hid.out H8 _).mono ?_
  rintro e w' ⟨rfl, hw⟩
  rw [hw]
  clear hw
  go_wp2_with fail
  refine (Hid.out H9 _).mono ?_
  rintro e w' ⟨rfl, hw⟩
  rw [hw]
  clear hw
  go_wp2_with fail
  refine (copy_none a c w).mono ?_
  rintro e w1 ⟨rfl, hB1, hS1⟩
  have H1 : Hid (Below w.heap.size w w1 ∧ w.heap.size < w1.heap.size) := ⟨hB1, hS1⟩
  clear hB1 hS1
  have H11 : Hid (Calls Try.prog 11 #[.slice (some ⟨w.heap.size, 0, none⟩) 0 0] w1 fun e w' => e = .returned (.string ⟨#[]⟩) ∧ Below w1.heap.size w1 w') := zzheader_some w.heap.size 0 [] w1 rfl (by omega) (fun i h => by cases h) (fun i h => by cases h)
  go_wp2_with fail
  refine (Hid.out H11).mono ?_
  rintro e w2 ⟨rfl, hB2⟩
  have H2 : Hid (Below w.heap.size w w2 ∧ w.heap.size < w2.heap.size) := ⟨H1.out.1.trans (hB2.mono (Nat.le_of_lt H1.out.2)), Nat.lt_of_lt_of_le H1.out.2 hB2.size⟩
  clear hB2 H1
  go_wp2_with (at_make; refine wpList_make_own _ rfl _ _ 26 rfl w2.heap.size 3 i3 (.int .i64 0) 1 Try.underlying26 hi hz0 hz1 .i64 .i64 _ 0 rfl rfl rfl (by rw [hz2]; omega) (by unfold maxLen; omega) (Nat.le_refl _) ?_; intro w3 own3 grow3)
  have H3 : Hid (Below w2.heap.size w2 w3) := (Below.refl _ _).grown grow3 (Nat.le_refl _) (fun k h => by cases h)
  clear own3 grow3
  refine wp_loop_rounds 1 ?_
  rw [rounds_succ]
  go_wp2_with (at_make; refine wpList_make_full _ rfl _ _ 26 rfl w3.heap.size 3 i3 (.int .i64 0) 1 Try.underlying26 hi hz0 hz1 .i64 .i64 _ _ 1 rfl rfl (by omega) (by omega) (by rw [hz2]; omega) (by unfold maxLen; omega) (Nat.le_refl _) ?_; intro w5 own5 grow5)
  have H5 : Hid (Below w3.heap.size w3 w5) := (Below.refl _ _).grown grow5 (Nat.le_refl _) (fun k h => by cases h)
  clear own5 grow5
  have hconv : (convert 30 9 (.slice none 0 0)).run Try.prog w5 = .ok (.string ⟨#[]⟩) w5 := run_convert_bytes_nil w5 30 5 Try.underlying30 Try.underlying5 0 0 9 Try.underlying9
  refine wp_loop_rounds 1 ?_
  rw [rounds_succ]
  go_wp2
  refine wp_loop_rounds 1 ?_
  rw [rounds_succ]
  go_wp2
  refine wp_loop_rounds 1 ?_
  rw [rounds_succ]
  go_wp2
  go_ret
  refine ⟨ret_bool (by simp), ?_⟩
  exact (H2.out.1.trans (H3.out.mono (Nat.le_of_lt H2.out.2))).trans (H5.out.mono (Nat.le_trans (Nat.le_of_lt H2.out.2) H3.out.size))

end Go.Proofs.Qxb6602299a.Walks
