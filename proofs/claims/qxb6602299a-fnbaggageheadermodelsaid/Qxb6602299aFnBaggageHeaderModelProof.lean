/-
  THE PROOF OF 'Rows.FnBaggageHeaderModelSaid': the guide's frame for a law over one slice, the argument opened as a slice of arrays of two strings, the walk filled.
-/
import Derived.Test.Qxb6602299aRows
import Derived.Test.Qxb6602299aZero
import Derived.WalkKit
import Derived.ProofKit
import Derived.OpenShut
import Derived.ShutString
import Derived.ChangeOld
import Derived.Below
import Derived.Deep.Slices
namespace Go.Proofs.Qxb6602299a.fnBaggageHeaderModel
open Go.ChangeShapes Go.WideShapes Go.ChangeAt Go.RowKit
open Go.Deep (open_slice choose_lt)
set_option linter.unusedVariables false

theorem own : ownKnob Try.prog.godebug = none := by kernel_rfl
theorem laidOut : laidOutB Try.prog = true := by kernel_rfl
theorem cells28 : Try.prog.cellsOf 28 = 2 := by kernel_rfl
theorem cells9 : Try.prog.cellsOf 9 = 1 := by kernel_rfl

/-- WHAT THE WALK IS TOLD OF THE SLICE THAT CAME IN. -/
def IsItems (w : World) (a : Option Addr) (len cap : Nat) : Prop :=
  (a = none ∧ len = 0 ∧ cap = 0) ∨
  ∃ x, a = some x ∧ len ≤ maxLen ∧ (len = 0 ∨ ∃ b off I, x = ⟨b, off, none⟩ ∧ I.length = len ∧ Walks.ItemsAt w b off I ∧ ∀ i (h : i < I.length), I[i].1.size ≤ maxLen ∧ I[i].2.size ≤ maxLen)

theorem two_cells {w : World} {a : Addr} {cs : List Value} (h : w.cells? 0 a 2 = some cs) : cs.length = 2 ∧ w.cell? (a.add 0) = cs[0]? ∧ w.cell? (a.add 1) = cs[1]? := by
  unfold World.cells? at h
  rw [if_pos (Nat.zero_le _)] at h
  have hl := mapM_some_length h
  exact ⟨by simpa using hl, mapM_some_get h 0 0 (by simp), mapM_some_get h 1 1 (by simp)⟩

theorem opened {H : Type} {enc : TypeId × Value → H} {W : World} {a0 : Option Addr} {len cap : Nat} {d : DataW H} {p : List MemPlace} (h : DataW.Trod enc Try.prog W 0 (fun _ => true) true 22 (.slice a0 len cap) d p) : IsItems W a0 len cap := by
  obtain ⟨fuel, hf⟩ := h
  rcases open_slice Try.underlying22 hf with ⟨hcs, _⟩ | ⟨x, l, c, m, n, D, Pl, hcs, _, hl, hm, hmm, _, hel⟩
  · simp [Value.cells] at hcs
    obtain ⟨rfl, rfl, rfl⟩ := hcs
    exact .inl ⟨rfl, rfl, rfl⟩
  · simp [Value.cells] at hcs
    obtain ⟨rfl, rfl, rfl⟩ := hcs
    simp only [if_true] at hmm
    refine .inr ⟨x, rfl, by omega, ?_⟩
    by_cases h0 : len = 0
    · exact .inl h0
    · right
      have each : ∀ i, i < len → ∃ s : ByteArray × ByteArray, W.cell? (x.add (i * 2)) = some (.string s.1) ∧ W.cell? (x.add (i * 2 + 1)) = some (.string s.2) ∧ s.1.size ≤ maxLen ∧ s.2.size ≤ maxLen := by
        intro i hi
        obtain ⟨cs', hc, ht⟩ := hel i (by omega)
        rw [cells28] at hc
        obtain ⟨hlen, hc0, hc1⟩ := two_cells hc
        obtain ⟨xs, k, _, _, _, hxl, hx⟩ := DataW.trod_array Try.underlying28 ht
        have t0 := hx 0 (by omega)
        have t1 := hx 1 (by omega)
        rw [cells9] at t0 t1
        rw [List.getElem?_eq_getElem (by omega)] at t0 t1
        obtain ⟨s0, e0, _, z0⟩ := DataW.trod_string Try.underlying9 t0
        obtain ⟨s1, e1, _, z1⟩ := DataW.trod_string Try.underlying9 t1
        refine ⟨(s0, s1), ?_, ?_, z0, z1⟩
        · have : cs'[0]? = some (.string s0) := by
            have := congrArg (fun l => l[0]?) e0
            simpa using this
          rw [← this, ← hc0, Go.Deep.add_add, Nat.add_zero]
        · have : cs'[1]? = some (.string s1) := by
            have := congrArg (fun l => l[0]?) e1
            simpa using this
          rw [← this, ← hc1, Go.Deep.add_add]
      obtain ⟨S, hS⟩ := choose_lt each
      obtain ⟨b, off, spot⟩ := x
      have hspot : spot = none := by simpa [Addr.add] using World.cell?_spot (hS 0 (by omega)).1
      subst hspot
      refine ⟨b, off, (List.range len).map S, rfl, by simp, fun i hi => ?_, fun i hi => ?_⟩
      · have h1 := hS i (by simpa using hi)
        simp only [add_plain] at h1
        simp only [List.getElem_map, List.getElem_range]
        exact ⟨h1.1, by rw [Nat.add_assoc]; exact h1.2.1⟩
      · have h1 := hS i (by simpa using hi)
        simp only [List.getElem_map, List.getElem_range]
        exact h1.2.2

theorem walk (a0 : Option Addr) (len0 cap0 : Nat) (w : World) (w0 : IsItems w a0 len0 cap0) :
    Calls Try.prog 3 #[.slice a0 len0 cap0] w fun e w' => e = .returned (.bool true) ∧ Below w.heap.size w w' := by
  rcases w0 with ⟨rfl, rfl, rfl⟩ | ⟨x, rfl, hl, rfl | ⟨b, off, I, rfl, hI, hit, hsz⟩⟩
  · exact Walks.main_nil w
  · exact Walks.main_none x cap0 w
  · by_cases h0 : len0 = 0
    · subst h0
      exact Walks.main_none ⟨b, off, none⟩ cap0 w
    · unfold maxLen at hl hsz
      exact Walks.main_some b off len0 cap0 I w hI hl (by omega) hsz hit

/-! ### THE ROW's STEP: WRITTEN OUT: LEAVE IT -/
set_option maxRecDepth 100000 in
theorem lifted (os : Os) (started : os.Started) (H : Type) (enc : TypeId × Value → H) :
    ReturnsInHanded {} Try.checked os 3 .any (Rows.fnBaggageHeaderModelSpec.pre6 enc Try.prog Try.f3 Rows.fnBaggageHeaderModelRow.domain false) (Rows.fnBaggageHeaderModelSpec.post enc Try.prog Try.f3 false true false false) := by
  refine returnsInHanded_of_change (C := Try.checked) own started (by kernel_rfl) Try.func3
    (ChangeSpec.witness6 (enc := enc) (C := Try.checked) false ⟨#[], #[.slice none 0 0], []⟩ 8 (by kernel_rfl) (by kernel_rfl) (by kernel_rfl) (by kernel_rfl)) ?_
  intro W base args ds gs before hval0 hW hcnd _
  have hval : ∀ (j : Nat) t v, Try.f3.params[j]? = some t → args[j]? = some v → Value.okWide Try.prog W .any base t v := hval0
  have hW' := hW
  obtain ⟨p, q, hA0, hV, rfl, hfz, hnd⟩ := hW
  have hA : DataW.TrodAll enc Try.prog W 0 (fun _ => true) true Try.f3.params.toList args.toList ds p := hA0
  rw [Try.params3] at hA hval
  obtain ⟨v0, vs0, d0, ds0, p0, q0, hargs, rfl, rfl, h0, r0⟩ := trodAll_cons hA
  obtain ⟨rfl, rfl, rfl⟩ := trodAll_nil r0
  obtain rfl : args = #[v0] := by cases args; simp_all
  obtain ⟨rfl, rfl⟩ := trodVars_none hV
  obtain ⟨a0, len0, cap0, rfl⟩ := okWide_slice Try.underlying22 (hval 0 22 v0 rfl rfl)
  have k0 := h0
  have lt0 : ∀ x ∈ p0, x.block < W.heap.size := by obtain ⟨m, hm⟩ := k0; exact DataW.trod_lt m _ _ _ hm
  have w0 : IsItems W a0 len0 cap0 := opened h0
  clear hA0 hval0
  refine (walk a0 len0 cap0 W w0).mono fun e W' ⟨he, bel⟩ => ?_
  subst he
  exact ⟨_, rfl, _, _, _, [], _, [], hW', trodAll_mk1 (shut_bool Try.underlying4 _), (trodAll_cons_mk (Below.trod laidOut (by kernel_rfl) (of_decide_eq_true (by kernel_rfl)) k0 bel lt0) trodAll_mk0), rfl, bel.frame _, fun h => by cases h⟩

theorem over : Rows.fnBaggageHeaderModelRow.holds Try.pinned (OpenSpec.ofChange Rows.fnBaggageHeaderModelSpec) :=
  OpenClaim.holds_of_wide 3 Try.f3 rfl rfl rfl rfl rfl rfl rfl ⟨rfl, rfl, rfl, rfl, rfl⟩ rfl rfl rfl rfl rfl (by kernel_rfl) Try.func3 (by kernel_rfl)
    (of_decide_eq_true (by kernel_rfl)) (by unfold Func.isWrapper; first | (rw [if_pos (by decide +kernel)]; kernel_rfl) | (rw [if_neg (by decide +kernel)]; exact ⟨rfl, rfl⟩))
    (fun os started H enc _ => lifted os started H enc)

/-- ████ THE STATEMENT ████ -/
theorem proved : Rows.FnBaggageHeaderModelSaid := over
end Go.Proofs.Qxb6602299a.fnBaggageHeaderModel

namespace Go.Proofs.Qxb6602299a
theorem fnBaggageHeaderModel_proved : Rows.FnBaggageHeaderModelSaid := fnBaggageHeaderModel.proved
end Go.Proofs.Qxb6602299a
