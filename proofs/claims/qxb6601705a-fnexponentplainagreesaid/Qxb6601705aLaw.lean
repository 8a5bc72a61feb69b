/-
  THE PLAIN LAW of figure.plain and figure.exponent: no Go in sight: over lists of bytes.
-/
import Derived.Lib.IndexMore
import Derived.Lib.Strings
namespace Go.Proofs.Qxb6601705a.Law
open Go.Lib

theorem indexByte_le (l : List UInt8) (c : UInt8) : indexByte l c ≤ l.length := by
  induction l with
  | nil => simp [indexByte]
  | cons b l ih =>
    unfold indexByte
    simp only [List.length_cons]
    split
    · omega
    · split <;> omega

/-- a digit -/
def dig (c : UInt8) : Bool := decide (48 ≤ c.toNat) && decide (c.toNat ≤ 57)

/-- the automaton's step: its next state, or none: it refuses -/
def step (st : Nat) (c : UInt8) : Option Nat :=
  match st with
  | 0 => if c.toNat = 45 then some 1 else if dig c then some 2 else none
  | 1 => if dig c then some 2 else none
  | 2 => if c.toNat = 46 then some 3 else if dig c then some 2 else none
  | 3 => if dig c then some 4 else none
  | _ => if dig c then some 4 else none

/-- what the automaton answers in state st with l still to read -/
def acc : Nat → List UInt8 → Bool
  | st, [] => st == 2 || st == 4
  | st, c :: l => match step st c with
    | none => false
    | some st' => acc st' l

/-- plain's loop, from place k on: l is what is left -/
def okFrom (p : Int) : Int → List UInt8 → Bool
  | _, [] => true
  | k, c :: l => (dig c || k == p) && okFrom p (k + 1) l

/-- figure.plain behind the minus -/
def plainD (d : List UInt8) : Bool :=
  !(indexByte d 46 == 0 || indexByte d 46 == (d.length : Int) - 1 || (d.length : Int) == 0) && okFrom (indexByte d 46) 0 d

theorem acc4 (l : List UInt8) : acc 4 l = l.all dig := by
  induction l with
  | nil => rfl
  | cons c l ih => simp only [acc, step, List.all_cons]; cases dig c <;> simp [ih]

theorem acc3 (l : List UInt8) : acc 3 l = (!l.isEmpty && l.all dig) := by
  cases l with
  | nil => rfl
  | cons c l => simp only [acc, step, List.all_cons]; cases dig c <;> simp [acc4]

theorem okFrom_shift (p : Int) (l : List UInt8) : ∀ k : Int, okFrom (p + 1) (k + 1) l = okFrom p k l := by
  induction l with
  | nil => intro k; rfl
  | cons c l ih =>
    intro k
    simp only [okFrom, ih (k + 1)]
    have : (k + 1 == p + 1) = (k == p) := by rw [Bool.eq_iff_iff]; simp <;> omega
    rw [this]

theorem okFrom_past (p : Int) (l : List UInt8) : ∀ k : Int, p < k → okFrom p k l = l.all dig := by
  induction l with
  | nil => intro k _; rfl
  | cons c l ih =>
    intro k hk
    have : (k == p) = false := by simp <;> omega
    simp only [okFrom, ih (k + 1) (by omega), this, List.all_cons, Bool.or_false]

/-- what is asked behind the first digit -/
def G (l : List UInt8) : Bool := !(indexByte l 46 == (l.length : Int) - 1 && !(indexByte l 46 == -1)) && okFrom (indexByte l 46) 0 l

theorem not_dig_dot : dig 46 = false := by decide

theorem acc2 (l : List UInt8) : acc 2 l = G l := by
  induction l with
  | nil => rfl
  | cons c l ih =>
    have hge := indexByte_ge l 46
    by_cases hc : c = 46
    · subst hc
      have h1 : acc 2 (46 :: l) = acc 3 l := rfl
      have h2 : indexByte (46 :: l) 46 = 0 := by simp [indexByte]
      rw [h1, acc3]
      unfold G
      rw [h2]
      simp only [okFrom, List.length_cons, not_dig_dot]
      rw [okFrom_past 0 l (0 + 1) (by omega)]
      cases l with
      | nil => simp
      | cons a t => simp; intro h; omega
    · have hn : ¬ c.toNat = 46 := fun h => hc (UInt8.toNat_inj.1 (by simpa using h))
      have hb : (c == 46) = false := by simpa using hc
      have h1 : acc 2 (c :: l) = (dig c && acc 2 l) := by simp only [acc, step, if_neg hn]; cases dig c <;> simp
      rw [h1, ih]
      unfold G
      by_cases hp : indexByte l 46 = -1
      · have h2 : indexByte (c :: l) 46 = -1 := by simp [indexByte, hb, hp]
        rw [h2, hp]
        simp only [okFrom]
        rw [okFrom_past (-1) l (0 + 1) (by omega), okFrom_past (-1) l 0 (by omega)]
        simp
      · have h2 : indexByte (c :: l) 46 = indexByte l 46 + 1 := by simp [indexByte, hb, hp]
        rw [h2]
        simp only [okFrom, List.length_cons]
        rw [okFrom_shift (indexByte l 46) l 0]
        have e1 : (0 == indexByte l 46 + 1) = false := by simp <;> omega
        have e2 : (indexByte l 46 == -1) = false := by simpa using hp
        have e3 : (indexByte l 46 + 1 == -1) = false := by simp <;> omega
        have e4 : (indexByte l 46 + 1 == ((l.length + 1 : Nat) : Int) - 1) = (indexByte l 46 == (l.length : Int) - 1) := by rw [Bool.eq_iff_iff]; simp <;> omega
        rw [e1, e2, e3, e4]
        cases dig c <;> simp

theorem acc1 (d : List UInt8) : acc 1 d = plainD d := by
  cases d with
  | nil => rfl
  | cons c l =>
    have hge := indexByte_ge l 46
    have h1 : acc 1 (c :: l) = (dig c && acc 2 l) := by simp only [acc, step]; cases dig c <;> simp
    rw [h1, acc2]
    unfold plainD
    by_cases hc : c = 46
    · subst hc
      have h2 : indexByte (46 :: l) 46 = 0 := by simp [indexByte]
      rw [h2, not_dig_dot]
      simp
    · have hb : (c == 46) = false := by simpa using hc
      unfold G
      by_cases hp : indexByte l 46 = -1
      · have h2 : indexByte (c :: l) 46 = -1 := by simp [indexByte, hb, hp]
        rw [h2, hp]
        simp only [okFrom, List.length_cons]
        rw [okFrom_past (-1) l (0 + 1) (by omega), okFrom_past (-1) l 0 (by omega)]
        have e1 : ((-1 : Int) == ((l.length + 1 : Nat) : Int) - 1) = false := by simp <;> omega
        have e2 : (((l.length + 1 : Nat) : Int) == 0) = false := by simp <;> omega
        rw [e1, e2]
        simp
      · have h2 : indexByte (c :: l) 46 = indexByte l 46 + 1 := by simp [indexByte, hb, hp]
        rw [h2]
        simp only [okFrom, List.length_cons]
        rw [okFrom_shift (indexByte l 46) l 0]
        have e0 : (indexByte l 46 + 1 == 0) = false := by simp <;> omega
        have e1 : (0 == indexByte l 46 + 1) = false := by simp <;> omega
        have e2 : (indexByte l 46 == -1) = false := by simpa using hp
        have e3 : (((l.length + 1 : Nat) : Int) == 0) = false := by simp <;> omega
        have e4 : (indexByte l 46 + 1 == ((l.length + 1 : Nat) : Int) - 1) = (indexByte l 46 == (l.length : Int) - 1) := by rw [Bool.eq_iff_iff]; simp <;> omega
        rw [e0, e1, e2, e3, e4]
        cases dig c <;> simp

/-- what strings.TrimPrefix(s, "-") leaves -/
def trim (s : List UInt8) : List UInt8 := trimPrefix s [45]

theorem plain_exact (s : List UInt8) : plainD (trim s) = acc 0 s := by
  rw [← acc1]
  unfold trim trimPrefix hasPrefix
  cases s with
  | nil => rfl
  | cons c l =>
    by_cases hc : c = 45
    · subst hc; rfl
    · have hn : ¬ c.toNat = 45 := fun h => hc (UInt8.toNat_inj.1 (by simpa using h))
      have hb : ([45] : List UInt8).isPrefixOf (c :: l) = false := by simp [List.isPrefixOf]; exact fun h => hc h.symm
      rw [hb, if_neg (by simp)]
      simp only [acc, step, if_neg hn]

/-- figure.exponent behind the sign -/
def expD (e : List UInt8) : Bool := !((e.length : Int) == 0 || decide ((2 : Int) < e.length)) && e.all dig

theorem indexByte_no : ∀ (l : List UInt8) (c : UInt8), (∀ b ∈ l, ¬ b = c) → indexByte l c = -1
  | [], _, _ => rfl
  | b :: l, c, h => by
    have hb : (b == c) = false := by simpa using h b (List.mem_cons_self ..)
    have ih := indexByte_no l c fun x hx => h x (List.mem_cons_of_mem _ hx)
    simp [indexByte, hb, ih]

theorem plainD_no (d : List UInt8) (h : ∀ b ∈ d, ¬ b = 46) : plainD d = (!((d.length : Int) == 0) && d.all dig) := by
  unfold plainD
  rw [indexByte_no d 46 h, okFrom_past (-1) d 0 (by omega)]
  cases d with
  | nil => rfl
  | cons a t =>
    have e1 : ((-1 : Int) == ((a :: t).length : Int) - 1) = false := by simp <;> omega
    rw [e1]; simp

theorem exp_agree (d : List UInt8) (h : ∀ b ∈ d, ¬ b = 46) : expD d = (plainD d && decide ((d.length : Int) ≤ 2)) := by
  rw [plainD_no d h]
  unfold expD
  have e : decide ((d.length : Int) ≤ 2) = !decide ((2 : Int) < d.length) := by rw [Bool.eq_iff_iff]; simp <;> omega
  rw [e]
  cases ((d.length : Int) == 0) <;> cases decide ((2 : Int) < d.length) <;> cases d.all dig <;> rfl

end Go.Proofs.Qxb6601705a.Law
