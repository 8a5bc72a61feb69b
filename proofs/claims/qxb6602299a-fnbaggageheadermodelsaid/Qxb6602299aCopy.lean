/-
  THE WALKS of seat b6602299a: the copy of the items; ZZBaggageHeader.
-/
import Derived.Test.Qxb6602299aHeader2
import Derived.OwnWalk
import Derived.RegionTactic
import Derived.WalkSpells
namespace Go.Proofs.Qxb6602299a.Walks
open Go.RowKit
open Go.Proofs.Qxb6602299a
set_option linter.unusedVariables false

theorem info28 : (Try.prog.info? 28).map (fun i => (i.zero, i.size, i.bytes)) = some (some (.agg #[.string ⟨#[]⟩, .string ⟨#[]⟩]), 2, 32) := by kernel_rfl
theorem info42 : (Try.prog.info? 42).map (fun i => (i.zero, i.size, i.bytes)) = some (some (.agg #[.string ⟨#[]⟩, .string ⟨#[]⟩]), 2, 32) := by kernel_rfl
theorem info3 : (Try.prog.info? 3).map (fun i => (i.zero, i.size, i.bytes)) = some (some (.int .i64 0), 1, 8) := by kernel_rfl

/-- the items from an address on, two cells each -/
def ItemsAt (w : World) (b off : Nat) (I : List (ByteArray × ByteArray)) : Prop := ∀ i (h : i < I.length), w.cell? ⟨b, off + i * 2, none⟩ = some (.string I[i].1) ∧ w.cell? ⟨b, off + i * 2 + 1, none⟩ = some (.string I[i].2)

theorem owned_lt {w : World} {base e size n cap g : Nat} {xs : List Value} (h : w.ownsRow base e size (.slice (some ⟨g, 0, none⟩) n cap) n xs) : g < w.heap.size := by
  rcases h.2 with ⟨h', _⟩ | ⟨g', cap', cur, h', _, hg, _⟩
  · simp at h'
  · simp only [Value.slice.injEq, Option.some.injEq, Addr.mk.injEq, and_true, true_and] at h'
    obtain ⟨rfl, rfl⟩ := h'
    exact (Array.getElem?_eq_some_iff.1 hg).1

/-- the first k items lie in the row's cells -/
def Filled (ys : List Value) (I : List (ByteArray × ByteArray)) (k : Nat) : Prop := ∀ i (h : i < I.length), i < k → ys[i * 2]? = some (.string I[i].1) ∧ ys[i * 2 + 1]? = some (.string I[i].2)

theorem filled_set (ys : List Value) (I : List (ByteArray × ByteArray)) (n k : Nat) (hn : I.length = n) (hy : ys.length = n * 2) (hk : k < I.length) (h : Filled ys I k) :
    Filled ((ys.set (k * 2) (.string I[k].1)).set (k * 2 + 1) (.string I[k].2)) I (k + 1) := by
  intro i hi hik
  simp only [List.getElem?_set, List.length_set]
  rcases (show i < k ∨ i = k from by omega) with h1 | h1
  · have := h i hi h1
    rw [if_neg (by omega), if_neg (by omega), if_neg (by omega), if_neg (by omega)]
    exact this
  · subst h1
    rw [if_neg (by omega), if_pos rfl, if_pos (by omega), if_pos rfl, if_pos (by omega)]
    exact ⟨rfl, rfl⟩

theorem items_of_filled {w : World} {base e n cap g : Nat} {ys : List Value} {I : List (ByteArray × ByteArray)} (h : w.ownsRow base e 2 (.slice (some ⟨g, 0, none⟩) n cap) n ys) (hn : I.length = n) (hf : Filled ys I n) : Items w g I := by
  intro i hi
  have := hf i hi (by omega)
  rw [h.cellAt (i * 2) (by omega), h.cellAt (i * 2 + 1) (by omega)]
  exact this

theorem fill_two {w wr : World} {B B' e n cap g k : Nat} {ys : List Value} {I : List (ByteArray × ByteArray)} {key val : ByteArray} (hB : B' ≤ g) (hn : I.length = n) (hk : k < I.length) (hkv : key = I[k].1 ∧ val = I[k].2)
    (h : wr.ownsRow B e 2 (.slice (some ⟨g, 0, none⟩) n cap) n ys ∧ Below B' w wr ∧ ys.length = n * 2 ∧ Filled ys I k) :
    ((wr.setCell ⟨g, k * 2, none⟩ (.string key)).setCell ⟨g, k * 2 + 1, none⟩ (.string val)).ownsRow B e 2 (.slice (some ⟨g, 0, none⟩) n cap) n ((ys.set (k * 2) (.string key)).set (k * 2 + 1) (.string val)) ∧
    Below B' w ((wr.setCell ⟨g, k * 2, none⟩ (.string key)).setCell ⟨g, k * 2 + 1, none⟩ (.string val)) ∧ ((ys.set (k * 2) (.string key)).set (k * 2 + 1) (.string val)).length = n * 2 ∧ Filled ((ys.set (k * 2) (.string key)).set (k * 2 + 1) (.string val)) I (k + 1) := by
  refine ⟨((h.1.stored _ _).1.stored _ _).1, (h.2.1.setCell hB _).setCell hB _, by rw [List.length_set, List.length_set]; exact h.2.2.1, ?_⟩
  rw [hkv.1, hkv.2]
  exact filled_set ys I n k hn h.2.2.1 hk h.2.2.2

theorem made_len (z : Value) (n : Nat) (hz : z.cells.size = 2) : (madeCells z.cells (n * 2)).toList.length = n * 2 := by
  simp [madeCells]

set_option maxHeartbeats 1000000 in
/-- zzBagCopy of an empty slice that is not nil -/
theorem copy_none (a : Addr) (c : Nat) (w : World) :
    Calls Try.prog 10 #[.slice (some a) 0 c] w fun e w' => e = .returned (.slice (some ⟨w.heap.size, 0, none⟩) 0 0) ∧ Below w.heap.size w w' ∧ w.heap.size < w'.heap.size := by
  obtain ⟨i0, hi, hz0, hz1, hz2⟩ := info_parts info28
  have hnil : ∀ (W : World) (a : Option Addr) (n c n' c' : Nat), (binOp .eql 22 (.slice a n c) (.slice none n' c')).run Try.prog W = .ok (.bool a.isNone) W := fun W a n c n' c' => Lib.run_eql_slice_nil W _ _ a n c n' c' Try.underlying22
  go_enter Try.func10, Try.ntmps10
  go_wp2_with (at_make; refine wpList_make_full _ rfl _ _ 22 rfl w.heap.size 28 i0 _ 2 Try.underlying22 hi hz0 hz1 .i64 .i64 _ _ 0 rfl rfl rfl rfl (by rw [hz2]; omega) (by unfold maxLen; omega) (Nat.le_refl _) ?_; intro w1 hown hgrow)
  have hB : Hid (Below w.heap.size w w1 ∧ w.heap.size < w1.heap.size) := ⟨(Below.refl _ _).grown hgrow (Nat.le_refl _) (fun k h => by cases h), owned_lt hown⟩
  clear hown hgrow
  refine wp_loop_rounds 1 ?_
  rw [rounds_succ]
  go_wp2
  go_ret
  exact ⟨rfl, hB.out⟩

set_option maxHeartbeats 1000000 in
/-- zzBagCopy of a slice that is not nil -/
theorem copy_some (b off n c : Nat) (I : List (ByteArray × ByteArray)) (w : World) (hx : I.length = n) (hn2 : n ≤ 65536) (hc : Hid (ItemsAt w b off I)) :
    Calls Try.prog 10 #[.slice (some ⟨b, off, none⟩) n c] w fun e w' => e = .returned (.slice (some ⟨w.heap.size, 0, none⟩) n n) ∧ Items w' w.heap.size I ∧ Below w.heap.size w w' ∧ w.heap.size < w'.heap.size := by
  obtain ⟨i0, hi, hz0, hz1, hz2⟩ := info_parts info28
  have HX : Hid (I.length = n) := hx
  clear hx
  have hnil : ∀ (W : World) (a : Option Addr) (n c n' c' : Nat), (binOp .eql 22 (.slice a n c) (.slice none n' c')).run Try.prog W = .ok (.bool a.isNone) W := fun W a n c n' c' => Lib.run_eql_slice_nil W _ _ a n c n' c' Try.underlying22
  go_enter Try.func10, Try.ntmps10
  go_wp2_with (at_make; refine wpList_make_full _ rfl _ _ 22 rfl w.heap.size 28 i0 _ 2 Try.underlying22 hi hz0 hz1 .i64 .i64 _ _ n rfl rfl rfl rfl (by rw [hz2]; omega) (by unfold maxLen; omega) (Nat.le_refl _) ?_; intro w1 hown hgrow)
  have HB0 : Hid (w1.ownsRow w.heap.size 28 2 (Value.slice (some ⟨w.heap.size, 0, none⟩) n n) n (madeCells (Value.agg #[.string ⟨#[]⟩, .string ⟨#[]⟩]).cells (n * 2)).toList ∧ Below w.heap.size w w1) := ⟨hown, (Below.refl _ _).grown hgrow (Nat.le_refl _) (fun k h => by cases h)⟩
  clear hown hgrow
  go_loopw [4] (fun t wr => ∃ (k : Nat) (ys : List Value), k ≤ n ∧ t = .int .i64 k ∧ Hid (wr.ownsRow w.heap.size 28 2 (Value.slice (some ⟨w.heap.size, 0, none⟩) n n) n ys ∧ Below w.heap.size w wr ∧ ys.length = n * 2 ∧ Filled ys I k)) (fun t _ => n - (intOf t).toNat)
  case atStart => exact ⟨0, _, Nat.zero_le _, rfl, HB0.out.1, HB0.out.2, made_len _ n rfl, fun i hi h0 => by omega⟩
  case round =>
    obtain ⟨k, ys, hk, rfl, hrel⟩ := hrel
    by_cases hlt : k < n
    · have hki : k < I.length := by rw [HX.out]; exact hlt
      obtain ⟨key, hkey⟩ : ∃ key, key = I[k].1 := ⟨_, rfl⟩
      obtain ⟨val, hval⟩ : ∃ val, val = I[k].2 := ⟨_, rfl⟩
      have hcells := hc.out k hki
      rw [← hkey, ← hval] at hcells
      have hc0 : wr.cell? ⟨b, off + k * 2, none⟩ = some (.string key) := (hrel.out.2.1.cell (World.block_lt_of_cell? _ _ hcells.1)).trans hcells.1
      have hc1 : wr.cell? ⟨b, off + k * 2 + 1, none⟩ = some (.string val) := (hrel.out.2.1.cell (World.block_lt_of_cell? _ _ hcells.2)).trans hcells.2
      have HKV : Hid (key = I[k].1 ∧ val = I[k].2) := ⟨hkey, hval⟩
      clear hcells hkey hval
      have hf0 : wr.frozen? ⟨w.heap.size, k * 2, none⟩ = false := hrel.out.1.frozenAt _
      have hf1 : wr.frozen? ⟨w.heap.size, k * 2 + 1, none⟩ = false := hrel.out.1.frozenAt _
      obtain ⟨u0, hu0⟩ : ∃ u, wr.cell? ⟨w.heap.size, k * 2, none⟩ = some u := by
        rw [hrel.out.1.cellAt _ (by omega), List.getElem?_eq_getElem (by rw [hrel.out.2.2.1]; omega)]; exact ⟨_, rfl⟩
      obtain ⟨u1, hu1⟩ : ∃ u, wr.cell? ⟨w.heap.size, k * 2 + 1, none⟩ = some u := by
        rw [hrel.out.1.cellAt _ (by omega), List.getElem?_eq_getElem (by rw [hrel.out.2.2.1]; omega)]; exact ⟨_, rfl⟩
      have HR := fill_two (Nat.le_refl _) HX.out hki HKV.out hrel.out
      have HR' : Hid _ := HR
      clear HR
      go_wp2
      go_roundw
      case rel => exact ⟨k + 1, _, by omega, by go_num, HR'.out⟩
      case measure => simp [intOf]; omega
    · have HE : Hid (Items wr w.heap.size I ∧ Below w.heap.size w wr ∧ w.heap.size < wr.heap.size) :=
        ⟨items_of_filled hrel.out.1 HX.out (by have e : k = n := by omega
                                               rw [← e]; exact hrel.out.2.2.2), hrel.out.2.1, owned_lt hrel.out.1⟩
      go_wp2
      go_ret
      exact ⟨rfl, HE.out⟩

/-- zzBagCopy of nil -/
theorem copy_nil (w : World) : Calls Try.prog 10 #[.slice none 0 0] w fun e w' => e = .returned (.slice none 0 0) ∧ w' = w := by
  have hnil : ∀ (W : World) (a : Option Addr) (n c n' c' : Nat), (binOp .eql 22 (.slice a n c) (.slice none n' c')).run Try.prog W = .ok (.bool a.isNone) W := fun W a n c n' c' => Lib.run_eql_slice_nil W _ _ a n c n' c' Try.underlying22
  go_enter Try.func10, Try.ntmps10
  go_wp2
  go_ret
  exact ⟨rfl, rfl⟩

/-- baggage.header of nil -/
theorem header_nil (w : World) : Calls Try.prog 22 #[.slice none 0 0] w fun e w' => e = .returned (.string ⟨#[]⟩) ∧ w' = w := by
  have hconv : (convert 30 9 (.slice none 0 0)).run Try.prog w = .ok (.string ⟨#[]⟩) w := run_convert_bytes_nil w 30 5 Try.underlying30 Try.underlying5 0 0 9 Try.underlying9
  go_enter Try.func22, Try.ntmps22
  go_wp2
  refine wp_loop_rounds 1 ?_
  rw [rounds_succ]
  go_wp2
  go_ret
  exact ⟨rfl, rfl⟩

/-- ZZBaggageHeader of nil -/
theorem zzheader_nil (w : World) : Calls Try.prog 11 #[.slice none 0 0] w fun e w' => e = .returned (.string ⟨#[]⟩) ∧ w' = w := by
  have hnil : ∀ (W : World) (a : Option Addr) (n c n' c' : Nat), (binOp .neq 22 (.slice a n c) (.slice none n' c')).run Try.prog W = .ok (.bool (!a.isNone)) W := fun W a n c n' c' => run_neq_slice_nil_any W _ _ a n c n' c' Try.underlying22
  have H : Hid (∀ w, Calls Try.prog 22 #[.slice none 0 0] w fun e w' => e = .returned (.string ⟨#[]⟩) ∧ w' = w) := fun w => header_nil w
  go_enter Try.func11, Try.ntmps11
  go_wp2_with (go_at_call 22; refine (Hid.out H _).mono ?_; rintro e w' ⟨rfl, rfl⟩)
  go_ret
  exact ⟨rfl, rfl⟩

set_option maxHeartbeats 2000000 in
/-- ZZBaggageHeader of a slice of the call's own -/
theorem zzheader_some (g n : Nat) (I : List (ByteArray × ByteArray)) (w : World) (hx : I.length = n) (hn2 : n ≤ 65536) (hsz : Hid (∀ i (h : i < I.length), I[i].1.size ≤ 1048576 ∧ I[i].2.size ≤ 1048576)) (hc : Hid (Items w g I)) :
    Calls Try.prog 11 #[.slice (some ⟨g, 0, none⟩) n n] w fun e w' => e = .returned (.string ⟨(Law.hdr [] 0 (I.map bytesI)).toArray⟩) ∧ Below w.heap.size w w' := by
  obtain ⟨i0, hi, hz0, hz1, hz2⟩ := info_parts info42
  have HX : Hid (I.length = n) := hx
  clear hx
  have hnil : ∀ (W : World) (a : Option Addr) (n c n' c' : Nat), (binOp .neq 22 (.slice a n c) (.slice none n' c')).run Try.prog W = .ok (.bool (!a.isNone)) W := fun W a n c n' c' => run_neq_slice_nil_any W _ _ a n c n' c' Try.underlying22
  have H22 : Hid (∀ W, Items W w.heap.size I → Calls Try.prog 22 #[.slice (some ⟨w.heap.size, 0, none⟩) n n] W fun e w' => e = .returned (.string ⟨(Law.hdr [] 0 (I.map bytesI)).toArray⟩) ∧ Below W.heap.size W w') := fun W hW => header_some w.heap.size I n W HX.out hn2 hsz hW
  generalize Law.hdr [] 0 (I.map bytesI) = R at H22
  go_enter Try.func11, Try.ntmps11
  go_wp2_with (at_make; refine wpList_make_full _ rfl _ _ 40 rfl w.heap.size 42 i0 _ 2 Try.underlying40 hi hz0 hz1 .i64 .i64 _ _ n rfl rfl rfl rfl (by rw [hz2]; omega) (by unfold maxLen; omega) (Nat.le_refl _) ?_; intro w1 hown hgrow)
  have HB0 : Hid (w1.ownsRow w.heap.size 42 2 (Value.slice (some ⟨w.heap.size, 0, none⟩) n n) n (madeCells (Value.agg #[.string ⟨#[]⟩, .string ⟨#[]⟩]).cells (n * 2)).toList ∧ Below w.heap.size w w1) := ⟨hown, (Below.refl _ _).grown hgrow (Nat.le_refl _) (fun k h => by cases h)⟩
  clear hown hgrow
  go_loopw [4] (fun t wr => ∃ (k : Nat) (ys : List Value), k ≤ n ∧ t = .int .i64 k ∧ Hid (wr.ownsRow w.heap.size 42 2 (Value.slice (some ⟨w.heap.size, 0, none⟩) n n) n ys ∧ Below w.heap.size w wr ∧ ys.length = n * 2 ∧ Filled ys I k)) (fun t _ => n - (intOf t).toNat)
  case atStart => exact ⟨0, _, Nat.zero_le _, rfl, HB0.out.1, HB0.out.2, made_len _ n rfl, fun i hi h0 => by omega⟩
  case round =>
    obtain ⟨k, ys, hk, rfl, hrel⟩ := hrel
    by_cases hlt : k < n
    · have hki : k < I.length := by rw [HX.out]; exact hlt
      obtain ⟨key, hkey⟩ : ∃ key, key = I[k].1 := ⟨_, rfl⟩
      obtain ⟨val, hval⟩ : ∃ val, val = I[k].2 := ⟨_, rfl⟩
      have hcells := hc.out k hki
      rw [← hkey, ← hval] at hcells
      have hc0 : wr.cell? ⟨g, k * 2, none⟩ = some (.string key) := (hrel.out.2.1.cell (World.block_lt_of_cell? _ _ hcells.1)).trans hcells.1
      have hc1 : wr.cell? ⟨g, k * 2 + 1, none⟩ = some (.string val) := (hrel.out.2.1.cell (World.block_lt_of_cell? _ _ hcells.2)).trans hcells.2
      have HKV : Hid (key = I[k].1 ∧ val = I[k].2) := ⟨hkey, hval⟩
      clear hcells hkey hval
      have hf0 : wr.frozen? ⟨w.heap.size, k * 2, none⟩ = false := hrel.out.1.frozenAt _
      have hf1 : wr.frozen? ⟨w.heap.size, k * 2 + 1, none⟩ = false := hrel.out.1.frozenAt _
      obtain ⟨u0, hu0⟩ : ∃ u, wr.cell? ⟨w.heap.size, k * 2, none⟩ = some u := by
        rw [hrel.out.1.cellAt _ (by omega), List.getElem?_eq_getElem (by rw [hrel.out.2.2.1]; omega)]; exact ⟨_, rfl⟩
      obtain ⟨u1, hu1⟩ : ∃ u, wr.cell? ⟨w.heap.size, k * 2 + 1, none⟩ = some u := by
        rw [hrel.out.1.cellAt _ (by omega), List.getElem?_eq_getElem (by rw [hrel.out.2.2.1]; omega)]; exact ⟨_, rfl⟩
      have HR := fill_two (Nat.le_refl _) HX.out hki HKV.out hrel.out
      have HR' : Hid _ := HR
      clear HR
      have hlti : (k : Int) < (n : Int) := by omega
      go_wp2
      go_region
      all_goals
        go_wp2
        go_roundw
        case rel => exact ⟨k + 1, _, by omega, by go_num, World.ownsRow.drew HR'.out.1, HR'.out.2.1.drew, HR'.out.2.2.1, HR'.out.2.2.2⟩
        case measure => simp [intOf]; omega
    · have HE : Hid (Items wr w.heap.size I ∧ Below w.heap.size w wr ∧ w.heap.size < wr.heap.size) :=
        ⟨items_of_filled hrel.out.1 HX.out (by have e : k = n := by omega
                                               rw [← e]; exact hrel.out.2.2.2), hrel.out.2.1, owned_lt hrel.out.1⟩
      go_wp2_with (go_at_call 22; refine (Hid.out H22 _ HE.out.1).mono ?_; rintro e w' ⟨rfl, hB⟩; have HB9 : Hid (Below w.heap.size w w') := HE.out.2.1.trans (hB.mono (by have := HE.out.2.2; omega)); clear hB)
      go_ret
      exact ⟨rfl, HB9.out⟩
end Go.Proofs.Qxb6602299a.Walks
