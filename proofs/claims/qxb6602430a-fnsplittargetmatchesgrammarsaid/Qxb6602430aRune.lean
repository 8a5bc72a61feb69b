/-
  THE WALKS of seat b6602430a: strings.IndexRune over the two marks at a rune beyond ASCII; strings.IndexAny of them at every string.
-/
import Derived.Test.Qxb6602430aRows
import Derived.Test.Qxb6602430aShelf
import Derived.WalkKit
import Derived.WalkLawsBesides
import Derived.Laws.RangeAny
import Derived.Lib.IndexMore
import Derived.Lib.TrimU
import Derived.Deep.LoopGhost
import Derived.WalkMore
import Derived.Laws.Runes
import Derived.Deep.QuietTactic
import Derived.BigQuiet
namespace Go.Proofs.Qxb6602430a.Walks
open Go.RowKit
open Go.Proofs.Qxb6602430a
set_option linter.unusedVariables false

theorem valid_eq (r : Int) : Lib.validRune r = Utf8.valid r := by
  unfold Lib.validRune Utf8.valid
  rw [Bool.eq_iff_iff]
  simp only [decide_eq_true_eq, Bool.or_eq_true, Bool.and_eq_true]
  omega

set_option maxHeartbeats 2000000 in
set_option maxRecDepth 1000000 in
/-- strings.IndexRune of the two marks at a rune beyond ASCII that is not the error rune -/
theorem rune_high (r : Int) (w : World) (h0 : 128 ≤ r) (h1 : r ≤ 1114111) (h2 : (r == 65533) = false) :
    Calls Try.prog 40 #[.string ⟨#[47, 63]⟩, .int .i32 r] w fun e w' => e = .returned (.int .i64 (-1)) ∧ ∃ q, w' = w.drewN q := by
  have hd : decide (r < 128) = false := decide_eq_false (by omega)
  go_enter Try.func40, Try.ntmps40
  have H49 : Hid (∀ w, Calls Try.prog 49 #[.int .i32 r] w fun e w' => e = .returned (.bool (Utf8.valid r)) ∧ w' = w) := fun w => valid_eq r ▸ Try.utf8_ValidRune r w
  cases hv : Utf8.valid r with
  | false =>
    rw [hv] at H49
    clear hv
    go_wp2_with (go_at_call 49; refine (Hid.out H49 _).mono ?_; rintro e w' ⟨rfl, rfl⟩)
    go_ret
    exact ⟨rfl, 0, rfl⟩
  | true =>
    have hen := encode_facts r hv h0
    rw [hv] at H49
    clear hv
    by_cases hsz : (Utf8.encode r).size = 2
    · have hb1 : 1 < (Utf8.encode r).size := by omega
      have hb1i : (1 : Int) < ((Utf8.encode r).size : Int) := by omega
      have hhi : 128 ≤ ((Utf8.encode r)[1]'hb1).toNat := by
        have := hen.2.2 (by omega)
        simp only [hsz] at this
        exact this
      have hne : ((((⟨#[47, 63]⟩ : ByteArray)[1]'(by decide)).toNat : Int) != (((Utf8.encode r)[1]'hb1).toNat : Int)) = true := by
        show ((63 : Int) != (((Utf8.encode r)[1]'hb1).toNat : Int)) = true
        rw [bne_iff_ne]; omega
      have H34 : Hid (∀ (x : Int) (w : World), Calls Try.prog 34 #[.string ByteArray.empty, .int .u8 x] w fun e w' => e = .returned (.int .i64 (-1)) ∧ w' = w) := fun x w => Try.strings_IndexByte ByteArray.empty x w
      clear hen
      go_wp2_with (go_at_call 49; refine (Hid.out H49 _).mono ?_; rintro e w' ⟨rfl, rfl⟩)
      go_step3
      go_wp2_with fail
      refine wp_loop_rounds 1 ?_
      rw [rounds_succ]
      go_wp2_with fail
      go_step3
      go_wp2_with fail
      go_quiet (fail)
      go_wp2_with fail
      go_quiet ((go_at_call 34; exact (Hid.out H34 _ _).mono fun e w'' hh => ⟨hh.1, _, hh.2⟩))
      go_wp2_with fail
      rw [Exit.noGoto_ret]
      go_wp2
      rw [Exit.noGoto_ret]
      go_ret
      exact ⟨rfl, _, rfl⟩
    · have hbig : (3 : Int) ≤ ((Utf8.encode r).size : Int) := by omega
      have hbig2 : ((Utf8.encode r).size : Int) ≤ 4 := by omega
      clear hen hsz
      go_wp2_with (go_at_call 49; refine (Hid.out H49 _).mono ?_; rintro e w' ⟨rfl, rfl⟩)
      go_step3
      go_wp2_with fail
      refine wp_loop_rounds 1 ?_
      rw [rounds_succ]
      go_wp2
      rw [Exit.noGoto_ret]
      go_ret
      exact ⟨rfl, 0, rfl⟩

set_option maxHeartbeats 2000000 in
set_option maxRecDepth 1000000 in
/-- strings.IndexRune of the two marks at the error rune -/
theorem rune_err (w : World) :
    Calls Try.prog 40 #[.string ⟨#[47, 63]⟩, .int .i32 65533] w fun e w' => e = .returned (.int .i64 (-1)) ∧ ∃ q, w' = w.iter ⟨#[47, 63]⟩ q := by
  have hn0 := fun ty => run_next_ascii (P := Try.prog) w ⟨#[47, 63]⟩ 0 ty (by decide) (by decide)
  have hn1 := fun ty => run_next_ascii (P := Try.prog) w ⟨#[47, 63]⟩ 1 ty (by decide) (by decide)
  have hn2 := fun ty => run_next_end (P := Try.prog) w ⟨#[47, 63]⟩ 2 ty (by decide)
  go_enter Try.func40, Try.ntmps40
  go_wp2_with fail
  refine wp_loop_rounds 3 ?_
  rw [rounds_succ]
  go_wp2_with fail
  rw [rounds_succ]
  go_wp2_with fail
  rw [rounds_succ]
  go_wp2_with fail
  go_ret
  exact ⟨rfl, _, rfl⟩
end Go.Proofs.Qxb6602430a.Walks
