/-
  THE WALKS of seat b6601609a, on: the copy; commentEnd.
-/
import Derived.Test.Qxb6601609aWalks
import Derived.Laws.IdiomStrings
namespace Go.Proofs.Qxb6601609a.Walks
open Go.RowKit
open Go.Proofs.Qxb6601609a
set_option linter.unusedVariables false

theorem info5 : (Try.prog.info? 5).map (fun i => (i.zero, i.size, i.bytes)) = some (some (.int .u8 0), 1, 1) := by kernel_rfl

theorem owned_lt {w : World} {base e size n cap g : Nat} {xs : List Value} (h : w.ownsRow base e size (.slice (some ⟨g, 0, none⟩) n cap) n xs) : g < w.heap.size := by
  rcases h.2 with ⟨h', _⟩ | ⟨g', cap', cur, h', _, hg, _⟩
  · simp at h'
  · simp only [Value.slice.injEq, Option.some.injEq, Addr.mk.injEq, and_true, true_and] at h'
    obtain ⟨rfl, rfl⟩ := h'
    exact (Array.getElem?_eq_some_iff.1 hg).1

/-- what the copy's round does to the new row -/
theorem row_set (ys : List Value) (xs : List Int) (n k : Nat) (hx : xs.length = n) (hy : ys.length = n) (hk : k < n)
    (h : ∀ j, j < k → ys[j]? = some (.int .u8 (xs.getD j 0))) : ∀ j, j < k + 1 → (ys.set k (.int .u8 (xs.getD k 0)))[j]? = some (.int .u8 (xs.getD j 0)) := by
  intro j hj
  rw [List.getElem?_set]
  split
  · rename_i e
    subst e
    rw [if_pos (by omega)]
  · exact h j (by omega)

theorem row_made (xs : List Int) (n : Nat) : (madeCells (Value.int .u8 0).cells (n * 1)).toList.length = n := by
  simp [madeCells]

set_option maxHeartbeats 1000000 in
/-- cloneBytes of an empty slice that is not nil -/
theorem clone_none (a : Addr) (c : Nat) (w : World) :
    Calls Try.prog 11 #[.slice (some a) 0 c] w fun e w' => e = .returned (.slice (some ⟨w.heap.size, 0, none⟩) 0 0) ∧ Below w.heap.size w w' ∧ w.heap.size < w'.heap.size := by
  obtain ⟨i0, hi, hz0, hz1, hz2⟩ := info_parts info5
  have hnil : ∀ (W : World) (a : Option Addr) (n c n' c' : Nat), (binOp .eql 24 (.slice a n c) (.slice none n' c')).run Try.prog W = .ok (.bool a.isNone) W := fun W a n c n' c' => Lib.run_eql_slice_nil W _ _ a n c n' c' Try.underlying24
  go_enter Try.func11, Try.ntmps11
  go_wp2_with (at_make; refine wpList_make_full _ rfl _ _ 24 rfl w.heap.size 5 i0 (.int .u8 0) 1 Try.underlying24 hi hz0 hz1 .i64 .i64 _ _ 0 rfl rfl rfl rfl (by rw [hz2]; omega) (by unfold maxLen; omega) (Nat.le_refl _) ?_; intro w1 hown hgrow)
  have hB : Hid (Below w.heap.size w w1 ∧ w.heap.size < w1.heap.size) := ⟨(Below.refl _ _).grown hgrow (Nat.le_refl _) (fun k h => by cases h), owned_lt hown⟩
  clear hown hgrow
  refine wp_loop_rounds 1 ?_
  rw [rounds_succ]
  go_wp2
  go_ret
  exact ⟨rfl, hB.out⟩

set_option maxHeartbeats 1000000 in
/-- cloneBytes of a slice that is not nil -/
theorem clone_some (b off n c : Nat) (xs : List Int) (w : World) (hx : xs.length = n) (hn2 : n ≤ 1048576) (hc : Hid (∀ i, i < n → w.cell? ⟨b, off + i, none⟩ = some (.int .u8 (xs.getD i 0)))) :
    Calls Try.prog 11 #[.slice (some ⟨b, off, none⟩) n c] w fun e w' => e = .returned (.slice (some ⟨w.heap.size, 0, none⟩) n n) ∧ (∀ i, i < n → w'.cell? ⟨w.heap.size, i, none⟩ = some (.int .u8 (xs.getD i 0))) ∧ Below w.heap.size w w' ∧ w.heap.size < w'.heap.size := by
  obtain ⟨i0, hi, hz0, hz1, hz2⟩ := info_parts info5
  have HX : Hid (xs.length = n) := hx
  clear hx
  have hnil : ∀ (W : World) (a : Option Addr) (n c n' c' : Nat), (binOp .eql 24 (.slice a n c) (.slice none n' c')).run Try.prog W = .ok (.bool a.isNone) W := fun W a n c n' c' => Lib.run_eql_slice_nil W _ _ a n c n' c' Try.underlying24
  go_enter Try.func11, Try.ntmps11
  go_wp2_with (at_make; refine wpList_make_full _ rfl _ _ 24 rfl w.heap.size 5 i0 (.int .u8 0) 1 Try.underlying24 hi hz0 hz1 .i64 .i64 _ _ n rfl rfl rfl rfl (by rw [hz2]; omega) (by unfold maxLen; omega) (Nat.le_refl _) ?_; intro w1 hown hgrow)
  have HB0 : Hid (w1.ownsRow w.heap.size 5 1 (Value.slice (some ⟨w.heap.size, 0, none⟩) n n) n (madeCells (Value.int .u8 0).cells (n * 1)).toList ∧ Below w.heap.size w w1) := ⟨hown, (Below.refl _ _).grown hgrow (Nat.le_refl _) (fun k h => by cases h)⟩
  clear hown hgrow
  go_loopw [4] (fun t wr => ∃ (k : Nat) (ys : List Value), k ≤ n ∧ t = .int .i64 k ∧ Hid (wr.ownsRow w.heap.size 5 1 (Value.slice (some ⟨w.heap.size, 0, none⟩) n n) n ys ∧ Below w.heap.size w wr ∧ ys.length = n ∧ ∀ j, j < k → ys[j]? = some (.int .u8 (xs.getD j 0)))) (fun t _ => n - (intOf t).toNat)
  case atStart => exact ⟨0, _, Nat.zero_le _, rfl, HB0.out.1, HB0.out.2, row_made xs n, fun j hj => by omega⟩
  case round =>
    obtain ⟨k, ys, hk, rfl, hrel⟩ := hrel
    by_cases hlt : k < n
    · have hcell : wr.cell? ⟨b, off + k, none⟩ = some (.int .u8 (xs.getD k 0)) := (hrel.out.2.1.cell (World.block_lt_of_cell? _ _ (hc.out k hlt))).trans (hc.out k hlt)
      obtain ⟨v, hv⟩ : ∃ v : Int, v = xs.getD k 0 := ⟨_, rfl⟩
      rw [← hv] at hcell
      have HV : Hid (v = xs.getD k 0) := hv
      clear hv
      have hfz : wr.frozen? ⟨w.heap.size, k, none⟩ = false := hrel.out.1.frozenAt k
      obtain ⟨u, hu⟩ : ∃ u, wr.cell? ⟨w.heap.size, k, none⟩ = some u := by
        rw [hrel.out.1.cellAt k (by omega), List.getElem?_eq_getElem (by rw [hrel.out.2.2.1]; exact hlt)]; exact ⟨_, rfl⟩
      have HS := hrel.out.1.stored k (.int .u8 v)
      have HR : Hid ((wr.setCell ⟨w.heap.size, k, none⟩ (.int .u8 v)).ownsRow w.heap.size 5 1 (Value.slice (some ⟨w.heap.size, 0, none⟩) n n) n (ys.set k (.int .u8 v)) ∧ Below w.heap.size w (wr.setCell ⟨w.heap.size, k, none⟩ (.int .u8 v)) ∧ (ys.set k (.int .u8 v)).length = n ∧ ∀ j, j < k + 1 → (ys.set k (.int .u8 v))[j]? = some (.int .u8 (xs.getD j 0))) :=
        ⟨HS.1, hrel.out.2.1.setCell (Nat.le_refl _) _, by rw [List.length_set]; exact hrel.out.2.2.1, by rw [HV.out]; exact row_set ys xs n k HX.out hrel.out.2.2.1 hlt hrel.out.2.2.2⟩
      clear HS
      go_wp2
      go_roundw
      case rel => exact ⟨k + 1, _, by omega, by go_num, HR.out⟩
      case measure => simp [intOf]; omega
    · have HE : Hid ((∀ i, i < n → wr.cell? ⟨w.heap.size, i, none⟩ = some (.int .u8 (xs.getD i 0))) ∧ Below w.heap.size w wr ∧ w.heap.size < wr.heap.size) :=
        ⟨fun i hi => by rw [hrel.out.1.cellAt i (by omega)]; exact hrel.out.2.2.2 i (by omega), hrel.out.2.1, owned_lt hrel.out.1⟩
      go_wp2
      go_ret
      exact ⟨rfl, HE.out⟩
end Go.Proofs.Qxb6601609a.Walks
