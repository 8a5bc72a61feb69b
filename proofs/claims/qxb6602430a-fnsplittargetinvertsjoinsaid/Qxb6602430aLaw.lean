/-
  THE PLAIN LAW of httpmsg.SplitTarget: no Go in sight: over lists of bytes.
-/
import Derived.Lib.IndexMore
import Derived.Lib.IndexAny
namespace Go.Proofs.Qxb6602430a.Law
open Go.Lib

def marks : List UInt8 := [47, 63]
def letter (n : Nat) : Bool := (decide (97 ≤ n) && decide (n ≤ 122)) || (decide (65 ≤ n) && decide (n ≤ 90))
def schc (n : Nat) : Bool := letter n || (decide (48 ≤ n) && decide (n ≤ 57)) || n == 43 || n == 45 || n == 46

def isS : List UInt8 → Bool
  | [] => false
  | c :: t => letter c.toNat && t.all fun b => schc b.toNat

def spl : List UInt8 → Nat
  | [] => 0
  | c :: t => if letter c.toNat then 1 + (t.takeWhile fun b => schc b.toNat).length else 0

/-- path and query -/
def pq (l : List UInt8) : List UInt8 × List UInt8 := if 0 ≤ indexByte l 63 then (l.take (indexByte l 63).toNat, l.drop (indexByte l 63).toNat) else (l, [])
/-- authority and what follows -/
def ap (l : List UInt8) : List UInt8 × List UInt8 := if 0 ≤ indexAny l marks then (l.take (indexAny l marks).toNat, l.drop (indexAny l marks).toNat) else (l, [])

structure Parts where
  sc : List UInt8
  au : List UInt8
  pa : List UInt8
  qu : List UInt8
  ok : Bool

def split (t : List UInt8) : Parts :=
  if hasPrefix t [47] = true then ⟨[], [], (pq t).1, (pq t).2, true⟩
  else if (cut t [58, 47, 47]).2.2 = true ∧ isS (cut t [58, 47, 47]).1 = true then
    ⟨(cut t [58, 47, 47]).1, (ap (cut t [58, 47, 47]).2.1).1, (pq (ap (cut t [58, 47, 47]).2.1).2).1, (pq (ap (cut t [58, 47, 47]).2.1).2).2, true⟩
  else ⟨[], [], [], [], false⟩

/-! ### the shapes -/
def noB (l : List UInt8) (c : UInt8) : Bool := !l.contains c
def auS (l : List UInt8) : Bool := noB l 47 && noB l 63
def paS (l : List UInt8) : Bool := (l.isEmpty || l.head? == some 47) && noB l 63
def quS (l : List UInt8) : Bool := l.isEmpty || l.head? == some 63

theorem noB_of {l : List UInt8} {c : UInt8} (h : ∀ b ∈ l, ¬ b = c) : noB l c = true := by
  unfold noB
  rw [Bool.not_eq_true']
  rw [Bool.eq_false_iff]
  intro e
  exact h c (List.contains_iff_mem.1 e) rfl
theorem noB_at {l : List UInt8} {c : UInt8} (h : noB l c = true) : ∀ b ∈ l, ¬ b = c := by
  intro b hb e
  subst e
  unfold noB at h
  rw [Bool.not_eq_true', Bool.eq_false_iff] at h
  exact h (List.contains_iff_mem.2 hb)

/-! ### the first '?' -/
theorem byte_spec (c : UInt8) : ∀ l : List UInt8, (indexByte l c = -1 ∧ ∀ b ∈ l, ¬ b = c) ∨ ∃ p q, l = p ++ c :: q ∧ indexByte l c = p.length ∧ ∀ b ∈ p, ¬ b = c
  | [] => .inl ⟨rfl, fun b hb => by cases hb⟩
  | b :: l => by
    by_cases hb : b = c
    · right
      subst hb
      exact ⟨[], l, rfl, by simp [indexByte], fun b hb => by cases hb⟩
    · have hb' : (b == c) = false := by simpa using hb
      rcases byte_spec c l with ⟨h1, h2⟩ | ⟨p, q, h1, h2, h3⟩
      · left
        refine ⟨by simp [indexByte, hb', h1], fun x hx => ?_⟩
        rcases List.mem_cons.1 hx with h | h
        · rw [h]; exact hb
        · exact h2 x h
      · right
        refine ⟨b :: p, q, by rw [h1]; rfl, ?_, fun x hx => ?_⟩
        · simp [indexByte, hb', h2]
        · rcases List.mem_cons.1 hx with h | h
          · rw [h]; exact hb
          · exact h3 x h

theorem pq_no {l : List UInt8} (h : ∀ b ∈ l, ¬ b = 63) : pq l = (l, []) := by
  unfold pq
  rcases byte_spec 63 l with ⟨h1, _⟩ | ⟨p, q, h1, _, _⟩
  · rw [h1, if_neg (by omega)]
  · exact absurd rfl (h 63 (by rw [h1]; simp))
theorem pq_at {p q : List UInt8} (h : ∀ b ∈ p, ¬ b = 63) : pq (p ++ 63 :: q) = (p, 63 :: q) := by
  unfold pq
  rcases byte_spec 63 (p ++ 63 :: q) with ⟨_, h2⟩ | ⟨p', q', h1, h2, h3⟩
  · exact absurd rfl (h2 63 (by simp))
  · have hl : p'.length = p.length := by
      rcases (show p'.length < p.length ∨ p'.length = p.length ∨ p.length < p'.length from by omega) with h4 | h4 | h4
      · have e := congrArg (fun l => l[p'.length]?) h1
        simp only [List.getElem?_append_left h4, List.getElem?_append_right (Nat.le_refl _), Nat.sub_self, List.getElem?_cons_zero] at e
        exact absurd rfl (h 63 (List.mem_of_getElem? e))
      · exact h4
      · have e := congrArg (fun l => l[p.length]?) h1
        simp only [List.getElem?_append_left h4, List.getElem?_append_right (Nat.le_refl _), Nat.sub_self, List.getElem?_cons_zero] at e
        exact absurd rfl (h3 63 (List.mem_of_getElem? e.symm))
    rw [h2, hl, if_pos (by omega)]
    simp

/-- what pq gives, whatever l -/
theorem pq_spec (l : List UInt8) : (pq l).1 ++ (pq l).2 = l ∧ (∀ b ∈ (pq l).1, ¬ b = 63) ∧ ((pq l).2 = [] ∨ (pq l).2.head? = some 63) := by
  rcases byte_spec 63 l with ⟨h1, h2⟩ | ⟨p, q, h1, h2, h3⟩
  · rw [pq_no h2]
    exact ⟨by simp, h2, .inl rfl⟩
  · rw [h1, pq_at h3]
    exact ⟨rfl, h3, .inr rfl⟩

/-! ### the first of the two marks -/
theorem marks_mem (b : UInt8) : marks.contains b = true ↔ b = 47 ∨ b = 63 := by
  simp [marks]

theorem any_spec : ∀ l : List UInt8, (indexAny l marks = -1 ∧ ∀ b ∈ l, ¬ b = 47 ∧ ¬ b = 63) ∨ ∃ p c q, l = p ++ c :: q ∧ (c = 47 ∨ c = 63) ∧ indexAny l marks = p.length ∧ ∀ b ∈ p, ¬ b = 47 ∧ ¬ b = 63
  | [] => .inl ⟨rfl, fun b hb => by cases hb⟩
  | b :: l => by
    by_cases hb : marks.contains b = true
    · right
      exact ⟨[], b, l, rfl, (marks_mem b).1 hb, by rw [indexAny, if_pos hb]; rfl, fun b hb => by cases hb⟩
    · have hn : ¬ b = 47 ∧ ¬ b = 63 := ⟨fun e => hb ((marks_mem b).2 (.inl e)), fun e => hb ((marks_mem b).2 (.inr e))⟩
      rcases any_spec l with ⟨h1, h2⟩ | ⟨p, c, q, h1, hc, h2, h3⟩
      · left
        refine ⟨by rw [indexAny, if_neg hb, h1]; rfl, fun x hx => ?_⟩
        rcases List.mem_cons.1 hx with h | h
        · rw [h]; exact hn
        · exact h2 x h
      · right
        refine ⟨b :: p, c, q, by rw [h1]; rfl, hc, ?_, fun x hx => ?_⟩
        · have : (indexAny l marks == -1) = false := by rw [h2]; simp
          rw [indexAny, if_neg hb, this, h2]
          simp
        · rcases List.mem_cons.1 hx with h | h
          · rw [h]; exact hn
          · exact h3 x h

theorem ap_no {l : List UInt8} (h : ∀ b ∈ l, ¬ b = 47 ∧ ¬ b = 63) : ap l = (l, []) := by
  unfold ap
  rcases any_spec l with ⟨h1, _⟩ | ⟨p, c, q, h1, hc, _, _⟩
  · rw [h1, if_neg (by omega)]
  · have := h c (by rw [h1]; simp)
    rcases hc with e | e
    · exact absurd e this.1
    · exact absurd e this.2
theorem ap_at {p q : List UInt8} {c : UInt8} (h : ∀ b ∈ p, ¬ b = 47 ∧ ¬ b = 63) (hc : c = 47 ∨ c = 63) : ap (p ++ c :: q) = (p, c :: q) := by
  unfold ap
  rcases any_spec (p ++ c :: q) with ⟨_, h2⟩ | ⟨p', c', q', h1, hc', h2, h3⟩
  · have := h2 c (by simp)
    rcases hc with e | e
    · exact absurd e this.1
    · exact absurd e this.2
  · have hl : p'.length = p.length := by
      rcases (show p'.length < p.length ∨ p'.length = p.length ∨ p.length < p'.length from by omega) with h4 | h4 | h4
      · have e := congrArg (fun l => l[p'.length]?) h1
        simp only [List.getElem?_append_left h4, List.getElem?_append_right (Nat.le_refl _), Nat.sub_self, List.getElem?_cons_zero] at e
        have := h c' (List.mem_of_getElem? e)
        rcases hc' with e | e
        · exact absurd e this.1
        · exact absurd e this.2
      · exact h4
      · have e := congrArg (fun l => l[p.length]?) h1
        simp only [List.getElem?_append_left h4, List.getElem?_append_right (Nat.le_refl _), Nat.sub_self, List.getElem?_cons_zero] at e
        have := h3 c (List.mem_of_getElem? e.symm)
        rcases hc with e | e
        · exact absurd e this.1
        · exact absurd e this.2
    rw [h2, hl, if_pos (by omega)]
    simp

theorem ap_spec (l : List UInt8) : (ap l).1 ++ (ap l).2 = l ∧ (∀ b ∈ (ap l).1, ¬ b = 47 ∧ ¬ b = 63) ∧ ((ap l).2 = [] ∨ (ap l).2.head? = some 47 ∨ (ap l).2.head? = some 63) := by
  rcases any_spec l with ⟨h1, h2⟩ | ⟨p, c, q, h1, hc, h2, h3⟩
  · rw [ap_no h2]
    exact ⟨by simp, h2, .inl rfl⟩
  · rw [h1, ap_at h3 hc]
    refine ⟨rfl, h3, .inr ?_⟩
    rcases hc with e | e
    · left; rw [e]; rfl
    · right; rw [e]; rfl

/-! ### the scheme -/
theorem letter_schc {n : Nat} (h : letter n = true) : schc n = true := by unfold schc; rw [h]; simp

theorem isS_all {p : List UInt8} (h : isS p = true) : ∀ b ∈ p, schc b.toNat = true := by
  cases p with
  | nil => intro b hb; cases hb
  | cons c t =>
    simp only [isS, Bool.and_eq_true, List.all_eq_true] at h
    intro b hb
    rcases List.mem_cons.1 hb with e | e
    · rw [e]; exact letter_schc h.1
    · exact h.2 b e
theorem isS_pos {p : List UInt8} (h : isS p = true) : 0 < p.length := by
  cases p with
  | nil => cases h
  | cons c t => simp

theorem takeWhile_mem (f : UInt8 → Bool) : ∀ (l : List UInt8) (b : UInt8), b ∈ l.takeWhile f → f b = true
  | [], b, h => by cases h
  | a :: l, b, h => by
    rw [List.takeWhile_cons] at h
    cases ha : f a with
    | false => rw [ha] at h; simp at h
    | true =>
      rw [ha] at h
      simp only [if_true] at h
      rcases List.mem_cons.1 h with e | e
      · rw [e]; exact ha
      · exact takeWhile_mem f l b e
theorem dropWhile_head (f : UInt8 → Bool) : ∀ l : List UInt8, l.dropWhile f = [] ∨ ∃ c r, l.dropWhile f = c :: r ∧ f c = false
  | [] => .inl rfl
  | a :: l => by
    rw [List.dropWhile_cons]
    cases ha : f a with
    | false => exact .inr ⟨a, l, by simp, ha⟩
    | true =>
      simp only [if_true]
      exact dropWhile_head f l

theorem spl_spec (t : List UInt8) : spl t = 0 ∨ ∃ p r, t = p ++ r ∧ isS p = true ∧ spl t = p.length ∧ (r = [] ∨ ∃ c r', r = c :: r' ∧ schc c.toNat = false) := by
  cases t with
  | nil => exact .inl rfl
  | cons c t =>
    by_cases hc : letter c.toNat = true
    · right
      refine ⟨c :: t.takeWhile (fun b => schc b.toNat), t.dropWhile (fun b => schc b.toNat), by simp, ?_, ?_, ?_⟩
      · simp only [isS, hc, Bool.true_and, List.all_eq_true]
        intro b hb
        exact takeWhile_mem (fun b => schc b.toNat) t b hb
      · simp only [spl, hc, if_true, List.length_cons]
        omega
      · exact dropWhile_head (fun b => schc b.toNat) t
    · left
      simp only [spl, hc]
      rfl

theorem spl_at {p r : List UInt8} (h : isS p = true) (hr : r = [] ∨ ∃ c r', r = c :: r' ∧ schc c.toNat = false) : spl (p ++ r) = p.length := by
  cases p with
  | nil => cases h
  | cons c t =>
    simp only [isS, Bool.and_eq_true, List.all_eq_true] at h
    simp only [List.cons_append, spl, h.1, if_true, List.length_cons]
    rw [List.takeWhile_append_of_pos (fun b hb => h.2 b hb)]
    rcases hr with rfl | ⟨a, r', rfl, ha⟩
    · simp; omega
    · rw [List.takeWhile_cons, if_neg (by rw [ha]; simp)]
      simp; omega

def sep : List UInt8 := [58, 47, 47]

theorem index_at {p r : List UInt8} (h : ∀ b ∈ p, schc b.toNat = true) : index (p ++ (sep ++ r)) sep = p.length := by
  refine index_first (by simp) ?_ ?_
  · unfold occAt
    rw [List.drop_left' rfl]
    exact List.isPrefixOf_iff_prefix.2 (List.prefix_append _ _)
  · intro j hj
    unfold occAt
    rw [Bool.eq_false_iff]
    intro e
    have h1 := (List.isPrefixOf_iff_prefix.1 e)
    obtain ⟨q, hq⟩ := h1
    have e2 := congrArg (fun l => l[0]?) hq
    simp only [sep, List.cons_append, List.getElem?_cons_zero, List.getElem?_drop, Nat.add_zero, List.getElem?_append_left hj] at e2
    have h2 := h 58 (List.mem_of_getElem? e2.symm)
    exact absurd h2 (by decide)

theorem cut_at {p r : List UInt8} (h : ∀ b ∈ p, schc b.toNat = true) : cut (p ++ (sep ++ r)) sep = (p, r, true) := by
  unfold cut
  rw [index_at h, if_pos (by omega)]
  have e : p.length + sep.length = (p ++ sep).length := by simp
  simp only [Int.toNat_natCast, List.take_left, e]
  rw [← List.append_assoc, List.drop_left]

theorem cut_spec (t : List UInt8) : (cut t sep).2.2 = false ∨ ∃ p r, t = p ++ (sep ++ r) ∧ cut t sep = (p, r, true) := by
  unfold cut
  rcases index_spec t sep with ⟨h, _⟩ | ⟨i, h, hi, ho, _⟩
  · left; rw [h, if_neg (by omega)]
  · right
    unfold occAt at ho
    obtain ⟨q, hq⟩ := List.isPrefixOf_iff_prefix.1 ho
    refine ⟨t.take i, q, by rw [hq]; simp, ?_⟩
    rw [h, if_pos (by omega)]
    simp only [Int.toNat_natCast]
    have : t.drop (i + sep.length) = q := by
      rw [← List.drop_drop, ← hq, List.drop_left]
    rw [this]

/-! ### path's shape -/
theorem pq_path {l : List UInt8} (h : l = [] ∨ l.head? = some 47 ∨ l.head? = some 63) : paS (pq l).1 = true := by
  obtain ⟨h1, h2, h3⟩ := pq_spec l
  unfold paS
  rw [noB_of h2, Bool.and_true, Bool.or_eq_true]
  rcases h with rfl | h | h
  · left; rw [pq_no (fun b hb => by cases hb)]; rfl
  · right
    cases hp : (pq l).1 with
    | nil =>
      rw [hp, List.nil_append] at h1
      rw [h1] at h3
      rcases h3 with e | e
      · rw [e] at h; cases h
      · rw [h] at e; exact absurd (Option.some.inj e) (by decide)
    | cons a q =>
      rw [hp] at h1
      rw [← h1] at h
      simp only [List.cons_append, List.head?_cons] at h ⊢
      rw [h]; rfl
  · left
    cases l with
    | nil => cases h
    | cons a q =>
      simp only [List.head?_cons, Option.some.injEq] at h
      subst h
      have := pq_at (p := []) (q := q) (fun b hb => by cases hb)
      rw [List.nil_append] at this
      rw [this]; rfl
theorem pq_query (l : List UInt8) : quS (pq l).2 = true := by
  obtain ⟨_, _, h3⟩ := pq_spec l
  unfold quS
  rcases h3 with e | e
  · rw [e]; rfl
  · rw [e]; simp
theorem ap_auth (l : List UInt8) : auS (ap l).1 = true := by
  obtain ⟨_, h2, _⟩ := ap_spec l
  unfold auS
  rw [noB_of (fun b hb => (h2 b hb).1), noB_of (fun b hb => (h2 b hb).2)]
  rfl

/-! ### the first law -/
theorem origin (t : List UInt8) (h : hasPrefix t [47] = true) :
    split t = ⟨[], [], (pq t).1, (pq t).2, true⟩ ∧ (pq t).1 ++ (pq t).2 = t ∧ paS (pq t).1 = true ∧ quS (pq t).2 = true := by
  refine ⟨by unfold split; rw [if_pos h], (pq_spec t).1, pq_path (.inr (.inl ?_)), pq_query t⟩
  unfold hasPrefix at h
  cases t with
  | nil => cases h
  | cons a q =>
    simp [List.isPrefixOf] at h
    rw [← h]; rfl

theorem absolute (t : List UInt8) (hn : hasPrefix t [47] = false) (hj : 0 < spl t) (ho : occAt t sep (spl t) = true) :
    ∃ au pa qu, split t = ⟨t.take (spl t), au, pa, qu, true⟩ ∧ t.take (spl t) ++ (sep ++ (au ++ (pa ++ qu))) = t ∧ auS au = true ∧ paS pa = true ∧ quS qu = true := by
  rcases spl_spec t with h | ⟨p, r, h1, h2, h3, _⟩
  · omega
  · have hdrop : t.drop (spl t) = r := by rw [h3, h1, List.drop_left]
    have htake : t.take (spl t) = p := by rw [h3, h1, List.take_left]
    unfold occAt at ho
    rw [hdrop] at ho
    obtain ⟨q, hq⟩ := List.isPrefixOf_iff_prefix.1 ho
    have hcut : cut t sep = (p, q, true) := by rw [h1, ← hq]; exact cut_at (isS_all h2)
    have hap := ap_spec q
    have hpq := pq_spec (ap q).2
    refine ⟨(ap q).1, (pq (ap q).2).1, (pq (ap q).2).2, ?_, ?_, ap_auth q, pq_path hap.2.2, pq_query _⟩
    · unfold split
      rw [if_neg (by rw [hn]; simp)]
      have hcut' : cut t [58, 47, 47] = (p, q, true) := hcut
      rw [hcut', if_pos ⟨rfl, h2⟩, htake]
    · rw [hpq.1, hap.1, htake, hq, ← h1]

theorem neither (t : List UInt8) (hn : hasPrefix t [47] = false) (hno : ¬ (0 < spl t ∧ occAt t sep (spl t) = true)) : split t = ⟨[], [], [], [], false⟩ := by
  unfold split
  rw [if_neg (by rw [hn]; simp), if_neg]
  rintro ⟨h1, h2⟩
  have h1' : (cut t sep).2.2 = true := h1
  have h2' : isS (cut t sep).1 = true := h2
  rcases cut_spec t with h | ⟨p, r, hp, hc⟩
  · rw [h] at h1'; cases h1'
  · rw [hc] at h2'
    have hs : spl t = p.length := by
      rw [hp]
      exact spl_at h2' (.inr ⟨58, 47 :: 47 :: r, rfl, by decide⟩)
    apply hno
    refine ⟨by rw [hs]; exact isS_pos h2', ?_⟩
    unfold occAt
    rw [hs, hp, List.drop_left]
    exact List.isPrefixOf_iff_prefix.2 (List.prefix_append _ _)

/-! ### the second law -/
theorem pq_back {pa qu : List UInt8} (hp : paS pa = true) (hq : quS qu = true) : pq (pa ++ qu) = (pa, qu) := by
  unfold paS at hp
  rw [Bool.and_eq_true] at hp
  have hno := noB_at hp.2
  unfold quS at hq
  rw [Bool.or_eq_true] at hq
  cases qu with
  | nil => rw [List.append_nil]; exact pq_no hno
  | cons a q =>
    rcases hq with h | h
    · cases h
    · simp at h
      subst h
      exact pq_at hno

theorem back_origin {pa qu : List UInt8} (hh : pa.head? = some 47) (hp : paS pa = true) (hq : quS qu = true) : split (pa ++ qu) = ⟨[], [], pa, qu, true⟩ := by
  have h : hasPrefix (pa ++ qu) [47] = true := by
    cases pa with
    | nil => cases hh
    | cons a q =>
      simp only [List.head?_cons, Option.some.injEq] at hh
      subst hh
      rfl
  rw [(origin _ h).1, pq_back hp hq]

theorem isS_of_spl {sc : List UInt8} (hne : sc ≠ []) (h : spl sc = sc.length) : isS sc = true := by
  rcases spl_spec sc with h0 | ⟨p, r, h1, h2, h3, _⟩
  · rw [h0] at h
    exact absurd (List.length_eq_zero_iff.1 h.symm) hne
  · have hr : r = [] := by
      have := congrArg List.length h1
      rw [List.length_append] at this
      exact List.length_eq_zero_iff.1 (by omega)
    rw [hr, List.append_nil] at h1
    rw [h1]; exact h2

theorem back_absolute {sc au pa qu : List UInt8} (hne : sc ≠ []) (hs : spl sc = sc.length) (ha : auS au = true) (hp : paS pa = true) (hq : quS qu = true) :
    split (sc ++ (sep ++ (au ++ (pa ++ qu)))) = ⟨sc, au, pa, qu, true⟩ := by
  have hS := isS_of_spl hne hs
  have hno : hasPrefix (sc ++ (sep ++ (au ++ (pa ++ qu)))) [47] = false := by
    cases sc with
    | nil => exact absurd rfl hne
    | cons c t =>
      have hc := isS_all hS c (List.mem_cons_self ..)
      unfold hasPrefix
      have hne47 : ¬ (47 : UInt8) = c := by
        intro e
        rw [← e] at hc
        exact absurd hc (by decide)
      simp [List.isPrefixOf, hne47]
  have hcut : cut (sc ++ (sep ++ (au ++ (pa ++ qu)))) [58, 47, 47] = (sc, au ++ (pa ++ qu), true) := cut_at (isS_all hS)
  have hap : ap (au ++ (pa ++ qu)) = (au, pa ++ qu) := by
    unfold auS at ha
    rw [Bool.and_eq_true] at ha
    have hnoa : ∀ b ∈ au, ¬ b = 47 ∧ ¬ b = 63 := fun b hb => ⟨noB_at ha.1 b hb, noB_at ha.2 b hb⟩
    have hp2 := hp
    unfold paS at hp2
    rw [Bool.and_eq_true, Bool.or_eq_true] at hp2
    cases pa with
    | nil =>
      rw [List.nil_append]
      unfold quS at hq
      rw [Bool.or_eq_true] at hq
      cases qu with
      | nil => rw [List.append_nil]; exact ap_no hnoa
      | cons a q =>
        rcases hq with h | h
        · cases h
        · simp at h
          exact ap_at hnoa (.inr h)
    | cons a q =>
      rcases hp2.1 with h | h
      · cases h
      · simp at h
        exact ap_at hnoa (.inl h)
  unfold split
  rw [if_neg (by rw [hno]; simp), hcut, if_pos ⟨rfl, hS⟩, hap]
  simp only [pq_back hp hq]

end Go.Proofs.Qxb6602430a.Law
