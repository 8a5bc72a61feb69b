/-
  THE PLAIN LAW of the baggage header: no Go in sight: over lists of bytes.
-/
namespace Go.Proofs.Qxb6602299a.Law

/-- a token's character -/
def tch (n : Nat) : Bool :=
  (decide (97 ≤ n) && decide (n ≤ 122)) || (decide (65 ≤ n) && decide (n ≤ 90)) || (decide (48 ≤ n) && decide (n ≤ 57)) ||
  n == 33 || n == 35 || n == 36 || n == 37 || n == 38 || n == 39 || n == 42 || n == 43 || n == 45 || n == 46 || n == 94 || n == 95 || n == 96 || n == 124 || n == 126

/-- a byte that stands as it is -/
def pln (n : Nat) : Bool := decide (33 ≤ n) && decide (n ≤ 126) && !(n == 34) && !(n == 44) && !(n == 59) && !(n == 92) && !(n == 37)

/-- an upper-case hex digit -/
def hex (n : Nat) : Nat := if n < 10 then 48 + n else 55 + n

def tok (s : List UInt8) : Bool := !s.isEmpty && s.all fun c => tch c.toNat

/-- one byte of a value -/
def encB (c : UInt8) : List UInt8 := if pln c.toNat then [c] else [37, UInt8.ofNat (hex (c.toNat / 16)), UInt8.ofNat (hex (c.toNat % 16))]
def enc (v : List UInt8) : List UInt8 := v.flatMap encB

/-- one member -/
def mem (it : List UInt8 × List UInt8) : List UInt8 := it.1 ++ 61 :: enc it.2

/-- the header's loop: what is written, how many, what is left -/
def hdr (out : List UInt8) (m : Nat) : List (List UInt8 × List UInt8) → List UInt8
  | [] => out
  | it :: l =>
    if tok it.1 = false then hdr out m l
    else if m = 180 then out
    else if 8192 < ((if 0 < m then out ++ [44] else out) ++ mem it).length then out
    else hdr ((if 0 < m then out ++ [44] else out) ++ mem it) (m + 1) l

/-- the first j members, joined -/
def join (K : List (List UInt8 × List UInt8)) : Nat → List UInt8
  | 0 => []
  | j + 1 => (if 0 < j then join K j ++ [44] else join K j) ++ mem (K.getD j ([], []))

/-- the sum of the first j members' lengths -/
def pre (K : List (List UInt8 × List UInt8)) : Nat → Nat
  | 0 => 0
  | j + 1 => pre K j + (mem (K.getD j ([], []))).length

/-- the downward search -/
def down (K : List (List UInt8 × List UInt8)) : Nat → Nat
  | 0 => 0
  | k + 1 => if 8192 < pre K (k + 1) + k then down K k else k + 1

def keep (l : List (List UInt8 × List UInt8)) : List (List UInt8 × List UInt8) := l.filter fun it => tok it.1

theorem hdr_keep (l : List (List UInt8 × List UInt8)) : ∀ (out : List UInt8) (m : Nat), hdr out m l = hdr out m (keep l) := by
  induction l with
  | nil => intro out m; rfl
  | cons it l ih =>
    intro out m
    unfold keep
    rw [List.filter_cons]
    cases h : tok it.1 with
    | false =>
      simp only [hdr, h, if_true]
      exact ih out m
    | true =>
      simp only [hdr, h, if_true]
      have ih' : ∀ out m, hdr out m l = hdr out m (List.filter (fun it => tok it.1) l) := ih
      simp only [ih']

theorem join_len (K : List (List UInt8 × List UInt8)) : ∀ j : Nat, (join K j).length = pre K j + (j - 1)
  | 0 => rfl
  | 1 => by simp [join, pre]
  | j + 2 => by
    have ih := join_len K (j + 1)
    rw [join, pre, if_pos (Nat.succ_pos j)]
    simp only [List.length_append, List.length_cons, List.length_nil, ih]
    omega

theorem join_mono (K : List (List UInt8 × List UInt8)) (i : Nat) : ∀ d : Nat, (join K i).length ≤ (join K (i + d)).length
  | 0 => Nat.le_refl _
  | d + 1 => by
    have ih := join_mono K i d
    have : (join K (i + d)).length ≤ (join K (i + d + 1)).length := by
      rw [join]
      simp only [List.length_append]
      split <;> simp <;> omega
    exact Nat.le_trans ih this

theorem down_le (K : List (List UInt8 × List UInt8)) : ∀ k : Nat, down K k ≤ k
  | 0 => Nat.le_refl _
  | k + 1 => by
    rw [down]
    split
    · exact Nat.le_trans (down_le K k) (Nat.le_succ k)
    · exact Nat.le_refl _

theorem down_fits (K : List (List UInt8 × List UInt8)) : ∀ k : Nat, (join K (down K k)).length ≤ 8192
  | 0 => by simp [down, join]
  | k + 1 => by
    rw [down]
    split
    · exact down_fits K k
    · rename_i h
      rw [join_len]
      omega

theorem down_next (K : List (List UInt8 × List UInt8)) : ∀ k : Nat, down K k < k → 8192 < (join K (down K k + 1)).length
  | 0, h => by simp [down] at h
  | k + 1, h => by
    rw [down] at h ⊢
    split
    · rename_i hx
      by_cases hk : down K k < k
      · exact down_next K k hk
      · have e : down K k = k := by have := down_le K k; omega
        rw [e, join_len]
        omega
    · rename_i hx
      rw [if_neg hx] at h
      omega

/-- the law: the header is the longest joined head that fits -/
theorem hdr_join (K : List (List UInt8 × List UInt8)) (hK : ∀ it ∈ K, tok it.1 = true) (k : Nat) (hk : k = min K.length 180) (d : Nat) :
    ∀ j : Nat, j + d = down K k → hdr (join K j) j (K.drop j) = join K (down K k) := by
  have hle := down_le K k
  induction d with
  | zero =>
    intro j hj
    have hj' : j = down K k := by omega
    subst hj'
    by_cases he : down K k < K.length
    · rw [List.drop_eq_getElem_cons he]
      simp only [hdr]
      rw [if_neg (by rw [hK _ (List.getElem_mem he)]; simp)]
      by_cases h180 : down K k = 180
      · rw [if_pos h180]
      · rw [if_neg h180]
        have hn := down_next K k (by omega)
        rw [join, List.getD_eq_getElem?_getD, List.getElem?_eq_getElem he] at hn
        rw [if_pos (by simpa using hn)]
    · rw [List.drop_eq_nil_of_le (by omega)]
      rfl
  | succ d ih =>
    intro j hj
    have he : j < K.length := by omega
    have h180 : ¬ j = 180 := by omega
    rw [List.drop_eq_getElem_cons he]
    simp only [hdr]
    rw [if_neg (by rw [hK _ (List.getElem_mem he)]; simp), if_neg h180]
    have hf := down_fits K k
    have hm := join_mono K (j + 1) d
    rw [show j + 1 + d = down K k from by omega] at hm
    have hstep : join K (j + 1) = (if 0 < j then join K j ++ [44] else join K j) ++ mem K[j] := by
      rw [join, List.getD_eq_getElem?_getD, List.getElem?_eq_getElem he]
      rfl
    rw [← hstep, if_neg (by omega)]
    exact ih (j + 1) (by omega)

theorem hdr_model (l : List (List UInt8 × List UInt8)) : hdr [] 0 l = join (keep l) (down (keep l) (min (keep l).length 180)) := by
  rw [hdr_keep]
  have h := hdr_join (keep l) (fun it hi => by simpa [keep] using (List.mem_filter.1 hi).2) _ rfl (down (keep l) (min (keep l).length 180)) 0 (by omega)
  exact h

end Go.Proofs.Qxb6602299a.Law
