/-
  THE PLAIN LAW of limits.commentEnd: no Go in sight: over lists of bytes.
-/
import Derived.Lib.IndexMore
import Derived.Lib.Bytes
namespace Go.Proofs.Qxb6601609a.Law
open Go.Lib

/-- where the comment's closing is looked for: its place, or the end -/
def stop (xs cs : List UInt8) : Nat := if index xs cs < 0 then xs.length else (index xs cs).toNat

/-- limits.commentEnd -/
def ce (xs cs : List UInt8) : Int :=
  if 0 ≤ indexByte (xs.take (stop xs cs)) 0 then indexByte (xs.take (stop xs cs)) 0 + 1
  else if stop xs cs < xs.length ∧ ¬ cs = [10] then (stop xs cs : Int) + cs.length else stop xs cs

theorem indexByte_le (l : List UInt8) (c : UInt8) : indexByte l c ≤ l.length := by
  induction l with
  | nil => simp [indexByte]
  | cons b l ih =>
    unfold indexByte
    simp only [List.length_cons]
    split
    · omega
    · split <;> omega

theorem ib_neg {l : List UInt8} {c : UInt8} (h : ∀ k : Nat, l[k]? ≠ some c) : indexByte l c = -1 := by
  have hge := indexByte_ge l c
  rcases (show indexByte l c = -1 ∨ 0 ≤ indexByte l c from by omega) with h1 | h1
  · exact h1
  · obtain ⟨o, ho⟩ := Int.eq_ofNat_of_zero_le h1
    exact absurd (indexByte_some ho).1 (h o)

theorem ib_at {l : List UInt8} {c : UInt8} {o : Nat} (h : l[o]? = some c) (hn : ∀ k : Nat, k < o → l[k]? ≠ some c) : indexByte l c = o := by
  have hge := indexByte_ge l c
  rcases (show indexByte l c = -1 ∨ 0 ≤ indexByte l c from by omega) with h1 | h1
  · exact absurd h (indexByte_none h1 o)
  · obtain ⟨p, hp⟩ := Int.eq_ofNat_of_zero_le h1
    obtain ⟨h2, h3⟩ := indexByte_some hp
    rcases (show p < o ∨ p = o ∨ o < p from by omega) with h4 | h4 | h4
    · exact absurd h2 (hn p h4)
    · rw [hp, h4]
    · exact absurd h (h3 o h4)

theorem stop_le (xs cs : List UInt8) : stop xs cs ≤ xs.length := by
  unfold stop
  have := index_spec xs cs
  split
  · exact Nat.le_refl _
  · rcases this with ⟨h, _⟩ | ⟨i, h, hi, _⟩
    · omega
    · rw [h]; simpa using hi

theorem take_no (xs : List UInt8) (n i : Nat) (hz : ∀ k : Nat, k < i → xs[k]? ≠ some 0) (hn : n ≤ i) : ∀ k : Nat, (xs.take n)[k]? ≠ some 0 := by
  intro k h
  rw [List.getElem?_take] at h
  split at h
  · exact hz k (by omega) h
  · simp at h

/-- the closing stands at i, ahead of it neither the closing nor a NUL -/
theorem ce_hit (xs cs : List UInt8) (i : Nat) (hi : i < xs.length) (hno : NoOcc xs cs i) (hz : ∀ k : Nat, k < i → xs[k]? ≠ some 0) (ho : occAt xs cs i = true) :
    ce xs cs = if cs = [10] then (i : Int) else (i : Int) + cs.length := by
  have h1 : index xs cs = i := index_hit hno (by omega) ho
  have h2 : stop xs cs = i := by unfold stop; rw [h1, if_neg (by omega)]; simp
  have h3 : indexByte (xs.take i) 0 = -1 := ib_neg (take_no xs i i hz (Nat.le_refl _))
  unfold ce
  rw [h2, h3, if_neg (by omega)]
  by_cases hc : cs = [10]
  · rw [if_pos hc, if_neg (fun h => h.2 hc)]
  · rw [if_neg hc, if_pos ⟨hi, hc⟩]

/-- a NUL stands at i, ahead of it neither; the closing not at i -/
theorem ce_nul (xs cs : List UInt8) (i : Nat) (hi : i < xs.length) (hno : NoOcc xs cs i) (hz : ∀ k : Nat, k < i → xs[k]? ≠ some 0) (ho : occAt xs cs i = false) (h0 : xs[i]? = some 0) :
    ce xs cs = (i : Int) + 1 := by
  have hs : i < stop xs cs := by
    unfold stop
    rcases index_spec xs cs with ⟨h, _⟩ | ⟨j, h, hj, hoj, _⟩
    · rw [h, if_pos (by omega)]; exact hi
    · rw [h, if_neg (by omega)]
      rcases (show j < i ∨ j = i ∨ i < j from by omega) with h4 | h4 | h4
      · rw [hno j h4] at hoj; cases hoj
      · rw [h4, ho] at hoj; cases hoj
      · simpa using h4
  have hle := stop_le xs cs
  have h3 : indexByte (xs.take (stop xs cs)) 0 = i := by
    refine ib_at ?_ ?_
    · rw [List.getElem?_take, if_pos hs]; exact h0
    · intro k hk h
      rw [List.getElem?_take, if_pos (by omega)] at h
      exact hz k hk h
  unfold ce
  rw [h3, if_pos (by omega)]

/-- neither anywhere -/
theorem ce_end (xs cs : List UInt8) (hno : NoOcc xs cs xs.length) (hz : ∀ k : Nat, k < xs.length → xs[k]? ≠ some 0) : ce xs cs = xs.length := by
  have hs : stop xs cs = xs.length := by
    unfold stop
    rcases index_spec xs cs with ⟨h, _⟩ | ⟨j, h, hj, hoj, _⟩
    · rw [h, if_pos (by omega)]
    · rw [h, if_neg (by omega)]
      rcases (show j < xs.length ∨ j = xs.length from by omega) with h4 | h4
      · rw [hno j h4] at hoj; cases hoj
      · simpa using h4
  have h3 : indexByte (xs.take (stop xs cs)) 0 = -1 := ib_neg (take_no xs _ xs.length hz (by omega))
  unfold ce
  rw [h3, if_neg (by omega), hs, if_neg (by omega)]

/-! ### the comparison byte by byte -/

/-- the first j bytes of cs stand at i -/
def Same (xs cs : List UInt8) (i j : Nat) : Prop := ∀ t : Nat, t < j → xs[i + t]? = cs[t]?

theorem occ_yes (xs cs : List UInt8) (i : Nat) (h : Same xs cs i cs.length) (hr : i + cs.length ≤ xs.length) : occAt xs cs i = true := by
  rw [occAt_iff_take xs cs i hr]
  rw [beq_iff_eq]
  apply List.ext_getElem?
  intro t
  rw [List.getElem?_take]
  split
  · rw [List.getElem?_drop]; exact h t (by assumption)
  · rw [List.getElem?_eq_none (by omega)]

theorem occ_no (xs cs : List UInt8) (i t : Nat) (ht : t < cs.length) (hr : i + cs.length ≤ xs.length) (hne : xs[i + t]? ≠ cs[t]?) : occAt xs cs i = false := by
  rw [occAt_iff_take xs cs i hr]
  rw [beq_eq_false_iff_ne]
  intro e
  apply hne
  have := congrArg (fun l => l[t]?) e
  simp only [List.getElem?_take, if_pos ht, List.getElem?_drop] at this
  exact this

theorem occ_short (xs cs : List UInt8) (i : Nat) (hi : i < xs.length) (hr : xs.length < i + cs.length) : occAt xs cs i = false := by
  cases ho : occAt xs cs i with
  | false => rfl
  | true =>
    rcases occAt_room ho with h | h
    · omega
    · subst h; simp at hr; omega

end Go.Proofs.Qxb6601609a.Law
