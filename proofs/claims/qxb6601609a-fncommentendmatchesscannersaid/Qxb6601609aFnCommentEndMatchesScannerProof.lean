/-
  THE PROOF OF 'Rows.FnCommentEndMatchesScannerSaid': the guide's frame at this function, with the wrap that keeps the world's shape (one cell of the library's own is read), the walk filled.
-/
import Derived.Test.Qxb6601609aRows
import Derived.Test.Qxb6601609aWalks3
import Derived.HandedShaped
import Derived.WalkKit
import Derived.ProofKit
import Derived.OpenShut
import Derived.ShutString
import Derived.ChangeOld
import Derived.Below
namespace Go.Proofs.Qxb6601609a.fnCommentEndMatchesScanner
open Go.ChangeShapes Go.WideShapes Go.ChangeAt Go.RowKit
open Go.ChangeMaps (open_string shut_string)
set_option linter.unusedVariables false

theorem own : ownKnob Try.prog.godebug = none := by kernel_rfl
theorem laidOut : laidOutB Try.prog = true := by kernel_rfl
theorem byte_of_wf {x : Int} (h : (Lit.int .u8 x).wf = true) : 0 ≤ x ∧ x < 256 := by
  have h1 : IntKind.u8.min = 0 := rfl
  have h2 : IntKind.u8.max = 255 := rfl
  simp only [Lit.wf, Bool.and_eq_true, decide_eq_true_eq] at h
  omega

/-- WHAT THE WALK IS TOLD OF A SLICE OF INTEGERS THAT CAME IN: it is nil; or it leads to a row of 'cap' cells, the numbers 'zs' (the first 'len' are its elements, the rest its spare room), each fitting its kind. -/
def IsRow (k : IntKind) (w : World) (a : Option Addr) (len cap : Nat) (zs : List Int) : Prop :=
  (a = none ∧ len = 0 ∧ cap = 0 ∧ zs = []) ∨
  ∃ x, a = some x ∧ len ≤ cap ∧ cap ≤ maxLen ∧ zs.length = cap ∧ (∀ i, i < zs.length → w.cell? (x.add i) = some (.int k (zs.getD i 0))) ∧ ∀ n ∈ zs, (Lit.int k n).wf = true

/-- zzBytes -/
theorem bytes_yes (a0 : Option Addr) (n c : Nat) (s : ByteArray) (w : World) (hs : n + s.size ≤ 1048576) : Calls Try.prog 10 #[.slice a0 n c, .string s] w fun e w' => e = .returned (.bool true) ∧ w' = w := by
  have h1 : (n : Int) ≤ 1048576 := by omega
  have h2 : (s.size : Int) ≤ 1048576 := by omega
  have h3 : (n : Int) + (s.size : Int) ≤ 1048576 := by omega
  go_enter Try.func10, Try.ntmps10
  go_wp2
  go_ret
  exact ⟨rfl, rfl⟩
theorem bytes_no (a0 : Option Addr) (n c : Nat) (s : ByteArray) (w : World) (hn : n ≤ 9223372036854775807) (hz : s.size ≤ 9223372036854775807) (hs : ¬ n + s.size ≤ 1048576) : Calls Try.prog 10 #[.slice a0 n c, .string s] w fun e w' => e = .returned (.bool false) ∧ w' = w := by
  by_cases h1 : (n : Int) ≤ 1048576
  · by_cases h2 : (s.size : Int) ≤ 1048576
    · have h3 : (1048576 : Int) < (n : Int) + (s.size : Int) := by omega
      clear hs
      go_enter Try.func10, Try.ntmps10
      go_wp2
      go_ret
      exact ⟨rfl, rfl⟩
    · have h3 : (1048576 : Int) < (s.size : Int) := by omega
      clear hs
      go_enter Try.func10, Try.ntmps10
      go_wp2
      go_ret
      exact ⟨rfl, rfl⟩
  · have h3 : (1048576 : Int) < (n : Int) := by omega
    clear hs
    go_enter Try.func10, Try.ntmps10
    go_wp2
    go_ret
    exact ⟨rfl, rfl⟩

/-- ZZCommentEnd -/
theorem door (v : Value) (hv : ∃ a n c, v = .slice a n c) (s : ByteArray) (w : World) (Q : Ending → World → Prop) (H : Hid (Calls Try.prog 28 #[v, .string s] w fun e w' => (∃ r, e = .returned (.int .i64 r)) ∧ Q e w')) :
    Calls Try.prog 12 #[v, .string s] w fun e w' => (∃ r, e = .returned (.int .i64 r)) ∧ Q e w' := by
  obtain ⟨a, n, c, rfl⟩ := hv
  go_enter Try.func12, Try.ntmps12
  go_wp2_with (go_at_call 28; refine (Hid.out H).mono ?_; rintro e w' ⟨⟨r, rfl⟩, hQ⟩)
  go_ret
  exact ⟨⟨r, rfl⟩, hQ⟩

theorem door_ret {v : Value} (hv : ∃ a n c, v = .slice a n c) {s : ByteArray} {w : World} {r : Int} {Q : World → Prop} (h : Calls Try.prog 28 #[v, .string s] w fun e w' => e = .returned (.int .i64 r) ∧ Q w') :
    Calls Try.prog 12 #[v, .string s] w fun e w' => e = .returned (.int .i64 r) ∧ Q w' :=
  (door v hv s w (fun e w' => e = .returned (.int .i64 r) ∧ Q w') (h.mono fun e w' hh => ⟨⟨r, hh.1⟩, hh⟩)).mono fun e w' hh => hh.2

set_option maxHeartbeats 1000000 in
/-- the law's body, its callees by what they leave of the world: I1, I2, I3 -/
theorem core (a0 : Option Addr) (n c : Nat) (s : ByteArray) (v : Value) (X : Int) (w : World) (hn : (n : Int) ≤ 524288) (hs : (s.size : Int) ≤ 4096) (I1 I2 I3 : World → Prop) (hv : ∃ a n c, v = .slice a n c)
    (Hb : Hid (Calls Try.prog 10 #[.slice a0 n c, .string s] w fun e w' => e = .returned (.bool true) ∧ w' = w))
    (H1 : Hid (Calls Try.prog 11 #[.slice a0 n c] w fun e w' => e = .returned v ∧ I1 w'))
    (H2 : Hid (∀ w1, I1 w1 → Calls Try.prog 12 #[v, .string s] w1 fun e w' => e = .returned (.int .i64 X) ∧ I2 w'))
    (H3 : Hid (∀ w1, I2 w1 → Calls Try.prog 13 #[v, .string s] w1 fun e w' => e = .returned (.int .i64 X) ∧ I3 w')) :
    Calls Try.prog 4 #[.slice a0 n c, .string s] w fun e w' => e = .returned (.bool true) ∧ I3 w' := by
  obtain ⟨a, k, d, rfl⟩ := hv
  go_enter Try.func4, Try.ntmps4
  go_wp2_with (first | (go_at_call 10; refine (Hid.out Hb).mono ?_; rintro e w' ⟨rfl, rfl⟩) | (go_at_call 11; refine (Hid.out H1).mono ?_; rintro e w1 ⟨rfl, hI1⟩) | (go_at_call 12; refine (Hid.out H2 _ (by assumption)).mono ?_; rintro e w2 ⟨rfl, hI2⟩) | (go_at_call 13; refine (Hid.out H3 _ (by assumption)).mono ?_; rintro e w3 ⟨rfl, hI3⟩))
  go_ret
  exact ⟨Walks.ret_bool (by simp), by assumption⟩

/-! ### STEP 1: THE WALK: the Go text returns true, AND WRITES NOTHING THAT WAS THERE: 'Below w.heap.size w w'' (Derived/Below.lean: '.refl', '.alloc', '.drew', '.setCell' at a new block, '.trans'). Open each 'IsRow' by 'rcases' AHEAD of 'go_enter'; part every test ahead of the walk. -/
theorem walk (a0 : Option Addr) (len0 cap0 : Nat) (z0 : List Int) (a1 : ByteArray) (w : World) (w0 : IsRow .u8 w a0 len0 cap0 z0) (w1 : a1.size ≤ maxLen) (m : Int) (hm : w.cell? ⟨0, 0, none⟩ = some (.int .i64 m)) :
    Calls Try.prog 4 #[.slice a0 len0 cap0, .string a1] w fun e w' => e = .returned (.bool true) ∧ Below w.heap.size w w' := by
  unfold maxLen at w1
  have hlen : len0 ≤ 9223372036854775807 := by
    rcases w0 with ⟨_, h, _⟩ | ⟨x, _, h1, h2, _⟩
    · omega
    · unfold maxLen at h2; omega
  by_cases hs : len0 + a1.size ≤ 1048576
  · by_cases hn : len0 ≤ 524288
    · by_cases hc : a1.size ≤ 4096
      · rcases w0 with ⟨rfl, rfl, rfl, rfl⟩ | ⟨x, rfl, h1, h2, h3, h4, h5⟩
        · exact core none 0 0 a1 (.slice none 0 0) 0 w (by omega) (by omega) (fun w' => w' = w) (fun w' => Below w.heap.size w w') (fun w' => Below w.heap.size w w') ⟨_, _, _, rfl⟩
            (bytes_yes none 0 0 a1 w hs) (Walks.clone_nil w) (fun w1 h => by rw [h]; exact door_ret ⟨_, _, _, rfl⟩ (Walks.comment_nil a1 w (by omega)))
            (fun w1 h => (Walks.scan_nil a1 w1).mono fun e w' ⟨he, hw⟩ => ⟨he, hw ▸ h⟩)
        · let L : List UInt8 := Lib.bytesOf (z0.take len0)
          have hL : L.length = len0 := by simp [L, Lib.bytesOf]; omega
          have hget : ∀ i, i < len0 → (z0.take len0).getD i 0 = ((L.getD i 0).toNat : Int) := fun i hi => by
            have hi2 : i < z0.length := by omega
            have hb := byte_of_wf (h5 z0[i] (List.getElem_mem hi2))
            simp only [L, Lib.bytesOf, List.getD_eq_getElem?_getD, List.getElem?_map, List.getElem?_take, if_pos hi, List.getElem?_eq_getElem hi2, Option.map_some, Option.getD_some]
            rw [UInt8.toNat_ofNat']
            omega
          have fin : ∀ (v : Value) (b : Nat), v = .slice (some ⟨w.heap.size, 0, none⟩) len0 len0 →
              (Calls Try.prog 11 #[.slice (some x) len0 cap0] w fun e w' => e = .returned v ∧ (Walks.Holds w' w.heap.size L ∧ Below w.heap.size w w' ∧ w.heap.size < w'.heap.size)) →
              Calls Try.prog 4 #[.slice (some x) len0 cap0, .string a1] w fun e w' => e = .returned (.bool true) ∧ Below w.heap.size w w' := fun v b hv h => by
            subst hv
            refine core (some x) len0 cap0 a1 _ (Law.ce L a1.data.toList) w (by omega) (by omega) (fun w' => Walks.Holds w' w.heap.size L ∧ Below w.heap.size w w' ∧ w.heap.size < w'.heap.size) (fun w' => Walks.Holds w' w.heap.size L ∧ Below w.heap.size w w') (fun w' => Below w.heap.size w w') ⟨_, _, _, rfl⟩
              (bytes_yes (some x) len0 cap0 a1 w hs) h ?_ ?_
            · intro w1 ⟨i1, i2, i3⟩
              have hm1 : w1.cell? ⟨0, 0, none⟩ = some (.int .i64 m) := (i2.cell (World.block_lt_of_cell? _ _ hm)).trans hm
              refine (door_ret ⟨_, _, _, rfl⟩ (Walks.comment_any w.heap.size len0 L a1 w1 m hL (by omega) (by omega) i1 hm1)).mono fun e w' ⟨he, hb⟩ => ⟨he, i1.below hb, ?_⟩
              exact i2.trans (hb.mono (by omega))
            · intro w1 ⟨i1, i2⟩
              refine (Walks.scan_any w.heap.size len0 L a1 w1 hL (by omega) (by omega) i1).mono fun e w' ⟨he, q, hq⟩ => ⟨he, ?_⟩
              rw [hq]
              exact ⟨i2.os, i2.tape, i2.output, i2.size, i2.block⟩
          by_cases hp : len0 = 0
          · refine fin _ 0 rfl ?_
            subst hp
            exact (Walks.clone_none x cap0 w).mono fun e w' ⟨he, hb⟩ => ⟨he, fun i hi => by omega, hb⟩
          · obtain ⟨b, off, hx, hcell⟩ := ints_at h4 (by omega)
            subst hx
            refine fin _ b rfl ?_
            refine (Walks.clone_some b off len0 cap0 (z0.take len0) w (by simp; omega) (by omega) (fun i hi => ?_)).mono fun e w' ⟨he, hcs, hb⟩ => ⟨he, fun i hi => ?_, hb⟩
            · rw [hcell i (by omega)]
              simp [List.getD_eq_getElem?_getD, hi]
            · rw [hcs i (by omega), hget i (by omega)]
      · have hc' : (4096 : Int) < (a1.size : Int) := by omega
        have hn' : (len0 : Int) ≤ 524288 := by omega
        have hb : Hid (∀ w, Calls Try.prog 10 #[.slice a0 len0 cap0, .string a1] w fun e w' => e = .returned (.bool true) ∧ w' = w) := fun w => bytes_yes a0 len0 cap0 a1 w hs
        clear w0 hs hm
        go_enter Try.func4, Try.ntmps4
        go_wp2_with (go_at_call 10; refine (Hid.out hb _).mono ?_; rintro e w' ⟨rfl, rfl⟩)
        go_ret
        exact ⟨rfl, Below.refl _ _⟩
    · have hn' : (524288 : Int) < (len0 : Int) := by omega
      have hb : Hid (∀ w, Calls Try.prog 10 #[.slice a0 len0 cap0, .string a1] w fun e w' => e = .returned (.bool true) ∧ w' = w) := fun w => bytes_yes a0 len0 cap0 a1 w hs
      clear w0 hs hm
      go_enter Try.func4, Try.ntmps4
      go_wp2_with (go_at_call 10; refine (Hid.out hb _).mono ?_; rintro e w' ⟨rfl, rfl⟩)
      go_ret
      exact ⟨rfl, Below.refl _ _⟩
  · have hb : Hid (∀ w, Calls Try.prog 10 #[.slice a0 len0 cap0, .string a1] w fun e w' => e = .returned (.bool false) ∧ w' = w) := fun w => bytes_no a0 len0 cap0 a1 w hlen w1 hs
    clear w0 hs hm
    go_enter Try.func4, Try.ntmps4
    go_wp2_with (go_at_call 10; refine (Hid.out hb _).mono ?_; rintro e w' ⟨rfl, rfl⟩)
    go_ret
    exact ⟨rfl, Below.refl _ _⟩

/-! ### THE ROW's STEP: WRITTEN OUT: LEAVE IT -/
set_option maxRecDepth 100000 in
theorem lifted (os : Os) (started : os.Started) (H : Type) (enc : TypeId × Value → H) :
    ReturnsInHanded {} Try.checked os 4 .any (Rows.fnCommentEndMatchesScannerSpec.pre6 enc Try.prog Try.f4 Rows.fnCommentEndMatchesScannerRow.domain false) (Rows.fnCommentEndMatchesScannerSpec.post enc Try.prog Try.f4 false true false false) := by
  refine returnsInHanded_of_change_shaped (C := Try.checked) own started (by kernel_rfl) Try.func4
    (ChangeSpec.witness6 (enc := enc) (C := Try.checked) false ⟨#[], #[.slice none 0 0, .string ByteArray.empty], []⟩ 8 (by kernel_rfl) (by kernel_rfl) (by kernel_rfl) (by kernel_rfl)) ?_
  intro W base args ds gs before hval0 hW hcnd _ hsh _
  have hval : ∀ (j : Nat) t v, Try.f4.params[j]? = some t → args[j]? = some v → Value.okWide Try.prog W .any base t v := hval0
  have hW' := hW
  obtain ⟨p, q, hA0, hV, rfl, hfz, hnd⟩ := hW
  have hA : DataW.TrodAll enc Try.prog W 0 (fun _ => true) true Try.f4.params.toList args.toList ds p := hA0
  rw [Try.params4] at hA hval
  obtain ⟨v0, vs0, d0, ds0, p0, q0, hargs, rfl, rfl, h0, r0⟩ := trodAll_cons hA
  obtain ⟨v1, vs1, d1, ds1, p1, q1, rfl, rfl, rfl, h1, r1⟩ := trodAll_cons r0
  obtain ⟨rfl, rfl, rfl⟩ := trodAll_nil r1
  obtain rfl : args = #[v0, v1] := by cases args; simp_all
  obtain ⟨rfl, rfl⟩ := trodVars_none hV
  obtain ⟨a0, len0, cap0, rfl⟩ := okWide_slice Try.underlying24 (hval 0 24 v0 rfl rfl)
  have k0 := h0
  have lt0 : ∀ x ∈ p0, x.block < W.heap.size := by obtain ⟨m, hm⟩ := k0; exact DataW.trod_lt m _ _ _ hm
  obtain ⟨z0, w0⟩ : ∃ zs, IsRow .u8 W a0 len0 cap0 zs := by
    obtain ⟨fuel, hf⟩ := h0
    rcases open_ints Try.underlying24 Try.underlying5 (by kernel_rfl) hf with ⟨hcs, _⟩ | ⟨x, l, c, zs, hcs, _, hl, hm, hz, _, hcell, hwz⟩
    · simp [Value.cells] at hcs
      obtain ⟨rfl, rfl, rfl⟩ := hcs
      exact ⟨[], .inl ⟨rfl, rfl, rfl, rfl⟩⟩
    · simp [Value.cells] at hcs
      obtain ⟨rfl, rfl, rfl⟩ := hcs
      exact ⟨zs, .inr ⟨_, rfl, hl, hm, by simpa using hz, hcell, hwz⟩⟩
  obtain ⟨a1, rfl, rfl, rfl, w1⟩ := open_string Try.underlying9 (hval 1 9 v1 rfl rfl) h1
  clear hA0 hval0
  obtain ⟨m, hm⟩ := Try.laysM185.s1_3 W hsh
  refine (walk a0 len0 cap0 z0 a1 W w0 w1 m hm).mono fun e W' ⟨he, bel⟩ => ?_
  subst he
  exact ⟨_, rfl, _, _, _, [], _, [], hW', trodAll_mk1 (shut_bool Try.underlying4 _), (trodAll_cons_mk (Below.trod laidOut (by kernel_rfl) (of_decide_eq_true (by kernel_rfl)) k0 bel lt0) (trodAll_cons_mk (shut_string Try.underlying9 w1) trodAll_mk0)), rfl, bel.frame _, fun h => by cases h⟩

theorem over : Rows.fnCommentEndMatchesScannerRow.holds Try.pinned (OpenSpec.ofChange Rows.fnCommentEndMatchesScannerSpec) :=
  OpenClaim.holds_of_wide 4 Try.f4 rfl rfl rfl rfl rfl rfl rfl ⟨rfl, rfl, rfl, rfl, rfl⟩ rfl rfl rfl rfl rfl (by kernel_rfl) Try.func4 (by kernel_rfl)
    (of_decide_eq_true (by kernel_rfl)) (by unfold Func.isWrapper; first | (rw [if_pos (by decide +kernel)]; kernel_rfl) | (rw [if_neg (by decide +kernel)]; exact ⟨rfl, rfl⟩))
    (fun os started H enc _ => lifted os started H enc)

/-- ████ THE STATEMENT ████ -/
theorem proved : Rows.FnCommentEndMatchesScannerSaid := over
end Go.Proofs.Qxb6601609a.fnCommentEndMatchesScanner

namespace Go.Proofs.Qxb6601609a
theorem fnCommentEndMatchesScanner_proved : Rows.FnCommentEndMatchesScannerSaid := fnCommentEndMatchesScanner.proved
end Go.Proofs.Qxb6601609a
