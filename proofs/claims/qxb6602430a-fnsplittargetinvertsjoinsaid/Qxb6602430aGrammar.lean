/-
  THE WALK of seat b6602430a: FnSplitTargetMatchesGrammar.
-/
import Derived.Test.Qxb6602430aSplit
namespace Go.Proofs.Qxb6602430a.Walks
open Go.RowKit
open Go.Proofs.Qxb6602430a
set_option linter.unusedVariables false

theorem bytes1_yes (s : ByteArray) (w : World) (hs : s.size ≤ 1048576) : Calls Try.prog 9 #[.string s] w fun e w' => e = .returned (.bool true) ∧ w' = w := by
  have h1 : (s.size : Int) ≤ 1048576 := by omega
  go_enter Try.func9, Try.ntmps9
  go_wp2
  go_ret
  exact ⟨rfl, rfl⟩
theorem bytes1_no (s : ByteArray) (w : World) (hs : ¬ s.size ≤ 1048576) (hm : s.size ≤ 9223372036854775807) : Calls Try.prog 9 #[.string s] w fun e w' => e = .returned (.bool false) ∧ w' = w := by
  have h1 : (1048576 : Int) < (s.size : Int) := by omega
  go_enter Try.func9, Try.ntmps9
  go_wp2
  go_ret
  exact ⟨rfl, rfl⟩

set_option maxHeartbeats 2000000 in
theorem grammar_origin (s pa qu : ByteArray) (w : World) (hs : (s.size : Int) ≤ 1048576) (hp : (0 : Int) < (s.size : Int)) (h0 : (s[0]'(by omega)).toNat = 47) (hsum : (pa.size : Int) + (qu.size : Int) = (s.size : Int))
    (HE : (((⟨#[]⟩ : ByteArray) ++ pa ++ qu).toList == s.toList) = true)
    (H9 : Hid (∀ w, Calls Try.prog 9 #[.string s] w fun e w' => e = .returned (.bool true) ∧ w' = w))
    (H10 : Hid (∀ w, Calls Try.prog 10 #[.string s] w fun e w' => e = .returned (.int .i64 0) ∧ w' = w))
    (H12 : Hid (Calls Try.prog 12 #[.string s] w fun e w' => e = .returned (.tuple #[.string ⟨#[]⟩, .string ⟨#[]⟩, .string pa, .string qu, .bool true]) ∧ Below w.heap.size w w'))
    (H13 : Hid (∀ w, Calls Try.prog 13 #[.string ⟨#[]⟩] w fun e w' => e = .returned (.bool true) ∧ w' = w))
    (H14 : Hid (∀ w, Calls Try.prog 14 #[.string pa] w fun e w' => e = .returned (.bool true) ∧ w' = w))
    (H15 : Hid (∀ w, Calls Try.prog 15 #[.string qu] w fun e w' => e = .returned (.bool true) ∧ w' = w)) :
    Calls Try.prog 3 #[.string s] w fun e w' => e = .returned (.bool true) ∧ Below w.heap.size w w' := by
  go_enter Try.func3, Try.ntmps3
  go_wp2_with fail
  refine (Hid.out H9 _).mono ?_
  rintro e w' ⟨rfl, hw⟩; rw [hw]; clear hw
  go_wp2_with fail
  refine (Hid.out H10 _).mono ?_
  rintro e w' ⟨rfl, hw⟩; rw [hw]; clear hw
  go_wp2_with fail
  refine (Hid.out H12).mono ?_
  rintro e w2 ⟨rfl, hb⟩
  have HB : Hid (Below w.heap.size w w2) := hb
  clear hb
  go_wp2_with fail
  refine (Hid.out H13 _).mono ?_
  rintro e w' ⟨rfl, hw⟩; rw [hw]; clear hw
  go_wp2_with fail
  refine (Hid.out H14 _).mono ?_
  rintro e w' ⟨rfl, hw⟩; rw [hw]; clear hw
  go_wp2_with fail
  refine (Hid.out H15 _).mono ?_
  rintro e w' ⟨rfl, hw⟩; rw [hw]; clear hw
  go_wp2
  go_ret
  exact ⟨rfl, HB.out⟩

set_option maxHeartbeats 2000000 in
theorem grammar_absolute (s sc au pa qu : ByteArray) (j : Nat) (w : World) (hs : (s.size : Int) ≤ 1048576) (hp : (0 : Int) < (s.size : Int)) (h0 : ¬ (s[0]'(by omega)).toNat = 47) (hj : (0 : Int) < (j : Int)) (hjs : (j : Int) ≤ (s.size : Int))
    (hsum : (sc.size : Int) + 3 + ((au.size : Int) + (pa.size : Int) + (qu.size : Int)) = (s.size : Int))
    (HS : (sc.toList == (s.extract 0 j).toList) = true)
    (HE : ((sc ++ (⟨#[58, 47, 47]⟩ : ByteArray) ++ (au ++ pa ++ qu)).toList == s.toList) = true)
    (H9 : Hid (∀ w, Calls Try.prog 9 #[.string s] w fun e w' => e = .returned (.bool true) ∧ w' = w))
    (H10 : Hid (∀ w, Calls Try.prog 10 #[.string s] w fun e w' => e = .returned (.int .i64 j) ∧ w' = w))
    (H11 : Hid (∀ w, Calls Try.prog 11 #[.string s, .int .i64 j, .string ⟨#[58, 47, 47]⟩] w fun e w' => e = .returned (.bool true) ∧ ∃ q, w' = w.drewN q))
    (H12 : Hid (∀ q, Calls Try.prog 12 #[.string s] (w.drewN q) fun e w' => e = .returned (.tuple #[.string sc, .string au, .string pa, .string qu, .bool true]) ∧ Below w.heap.size w w'))
    (H13 : Hid (∀ w, Calls Try.prog 13 #[.string au] w fun e w' => e = .returned (.bool true) ∧ w' = w))
    (H14 : Hid (∀ w, Calls Try.prog 14 #[.string pa] w fun e w' => e = .returned (.bool true) ∧ w' = w))
    (H15 : Hid (∀ w, Calls Try.prog 15 #[.string qu] w fun e w' => e = .returned (.bool true) ∧ w' = w)) :
    Calls Try.prog 3 #[.string s] w fun e w' => e = .returned (.bool true) ∧ Below w.heap.size w w' := by
  go_enter Try.func3, Try.ntmps3
  go_wp2_with fail
  refine (Hid.out H9 _).mono ?_
  rintro e w' ⟨rfl, hw⟩; rw [hw]; clear hw
  go_wp2_with fail
  refine (Hid.out H10 _).mono ?_
  rintro e w' ⟨rfl, hw⟩; rw [hw]; clear hw
  go_wp2_with fail
  refine (Hid.out H11 _).mono ?_
  rintro e w' ⟨rfl, q, rfl⟩
  go_wp2_with fail
  refine (Hid.out H12 _).mono ?_
  rintro e w2 ⟨rfl, hb⟩
  have HB : Hid (Below w.heap.size w w2) := hb
  clear hb
  go_wp2_with fail
  refine (Hid.out H13 _).mono ?_
  rintro e w' ⟨rfl, hw⟩; rw [hw]; clear hw
  go_wp2_with fail
  refine (Hid.out H14 _).mono ?_
  rintro e w' ⟨rfl, hw⟩; rw [hw]; clear hw
  go_wp2_with fail
  refine (Hid.out H15 _).mono ?_
  rintro e w' ⟨rfl, hw⟩; rw [hw]; clear hw
  go_wp2
  go_ret
  exact ⟨rfl, HB.out⟩

set_option maxHeartbeats 2000000 in
theorem grammar_empty (s : ByteArray) (w : World) (hp : (s.size : Int) = 0)
    (H9 : Hid (∀ w, Calls Try.prog 9 #[.string s] w fun e w' => e = .returned (.bool true) ∧ w' = w))
    (H10 : Hid (∀ w, Calls Try.prog 10 #[.string s] w fun e w' => e = .returned (.int .i64 0) ∧ w' = w))
    (H12 : Hid (Calls Try.prog 12 #[.string s] w fun e w' => e = .returned (.tuple #[.string ⟨#[]⟩, .string ⟨#[]⟩, .string ⟨#[]⟩, .string ⟨#[]⟩, .bool false]) ∧ Below w.heap.size w w')) :
    Calls Try.prog 3 #[.string s] w fun e w' => e = .returned (.bool true) ∧ Below w.heap.size w w' := by
  go_enter Try.func3, Try.ntmps3
  go_wp2_with fail
  refine (Hid.out H9 _).mono ?_
  rintro e w' ⟨rfl, hw⟩; rw [hw]; clear hw
  go_wp2_with fail
  refine (Hid.out H10 _).mono ?_
  rintro e w' ⟨rfl, hw⟩; rw [hw]; clear hw
  go_wp2_with fail
  refine (Hid.out H12).mono ?_
  rintro e w2 ⟨rfl, hb⟩
  have HB : Hid (Below w.heap.size w w2) := hb
  clear hb
  go_wp2
  go_ret
  exact ⟨rfl, HB.out⟩

set_option maxHeartbeats 2000000 in
theorem grammar_none (s : ByteArray) (w : World) (hs : (s.size : Int) ≤ 1048576) (hp : (0 : Int) < (s.size : Int)) (h0 : (((s[0]'(by omega)).toNat : Int) == 47) = false)
    (H9 : Hid (∀ w, Calls Try.prog 9 #[.string s] w fun e w' => e = .returned (.bool true) ∧ w' = w))
    (H10 : Hid (∀ w, Calls Try.prog 10 #[.string s] w fun e w' => e = .returned (.int .i64 0) ∧ w' = w))
    (H12 : Hid (Calls Try.prog 12 #[.string s] w fun e w' => e = .returned (.tuple #[.string ⟨#[]⟩, .string ⟨#[]⟩, .string ⟨#[]⟩, .string ⟨#[]⟩, .bool false]) ∧ Below w.heap.size w w')) :
    Calls Try.prog 3 #[.string s] w fun e w' => e = .returned (.bool true) ∧ Below w.heap.size w w' := by
  go_enter Try.func3, Try.ntmps3
  go_wp2_with fail
  refine (Hid.out H9 _).mono ?_
  rintro e w' ⟨rfl, hw⟩; rw [hw]; clear hw
  go_wp2_with fail
  refine (Hid.out H10 _).mono ?_
  rintro e w' ⟨rfl, hw⟩; rw [hw]; clear hw
  go_wp2_with fail
  refine (Hid.out H12).mono ?_
  rintro e w2 ⟨rfl, hb⟩
  have HB : Hid (Below w.heap.size w w2) := hb
  clear hb
  go_wp2
  go_ret
  exact ⟨rfl, HB.out⟩

set_option maxHeartbeats 2000000 in
theorem grammar_other (s : ByteArray) (j : Nat) (w : World) (hs : (s.size : Int) ≤ 1048576) (hp : (0 : Int) < (s.size : Int)) (h0 : (((s[0]'(by omega)).toNat : Int) == 47) = false) (hj : (0 : Int) < (j : Int)) (hjs : (j : Int) ≤ (s.size : Int))
    (H9 : Hid (∀ w, Calls Try.prog 9 #[.string s] w fun e w' => e = .returned (.bool true) ∧ w' = w))
    (H10 : Hid (∀ w, Calls Try.prog 10 #[.string s] w fun e w' => e = .returned (.int .i64 j) ∧ w' = w))
    (H11 : Hid (∀ w, Calls Try.prog 11 #[.string s, .int .i64 j, .string ⟨#[58, 47, 47]⟩] w fun e w' => e = .returned (.bool false) ∧ ∃ q, w' = w.drewN q))
    (H12 : Hid (∀ q, Calls Try.prog 12 #[.string s] (w.drewN q) fun e w' => e = .returned (.tuple #[.string ⟨#[]⟩, .string ⟨#[]⟩, .string ⟨#[]⟩, .string ⟨#[]⟩, .bool false]) ∧ Below w.heap.size w w')) :
    Calls Try.prog 3 #[.string s] w fun e w' => e = .returned (.bool true) ∧ Below w.heap.size w w' := by
  go_enter Try.func3, Try.ntmps3
  go_wp2_with fail
  refine (Hid.out H9 _).mono ?_
  rintro e w' ⟨rfl, hw⟩; rw [hw]; clear hw
  go_wp2_with fail
  refine (Hid.out H10 _).mono ?_
  rintro e w' ⟨rfl, hw⟩; rw [hw]; clear hw
  go_wp2_with fail
  refine (Hid.out H11 _).mono ?_
  rintro e w' ⟨rfl, q, rfl⟩
  go_wp2_with fail
  refine (Hid.out H12 _).mono ?_
  rintro e w2 ⟨rfl, hb⟩
  have HB : Hid (Below w.heap.size w w2) := hb
  clear hb
  go_wp2
  go_ret
  exact ⟨rfl, HB.out⟩

theorem bytes_ext {x y : ByteArray} (h : x.data.toList = y.data.toList) : x = y := by
  cases x; cases y
  simp only [ByteArray.mk.injEq]
  exact Array.toList_inj.1 h

theorem prefix_of (s : ByteArray) (hp : 0 < s.size) : Lib.hasPrefix s.data.toList [47] = decide (s[0].toNat = 47) := by
  have hh : s.data.toList = s[0] :: s.data.toList.drop 1 := by have := drop_cons s 0 hp; simpa using this
  rw [hh]
  unfold Lib.hasPrefix
  rw [Bool.eq_iff_iff]
  simp only [List.isPrefixOf, Bool.and_true, beq_iff_eq, decide_eq_true_eq]
  constructor
  · intro e; rw [← e]; rfl
  · intro e; exact UInt8.toNat_inj.1 (by rw [e]; rfl)

theorem spl_slash (s : ByteArray) (hp : 0 < s.size) (h : s[0].toNat = 47) : Law.spl s.data.toList = 0 := by
  have hh : s.data.toList = s[0] :: s.data.toList.drop 1 := by have := drop_cons s 0 hp; simpa using this
  rw [hh, Law.spl, h]
  rfl

theorem spl_le (t : List UInt8) : Law.spl t ≤ t.length := by
  rcases Law.spl_spec t with h | ⟨p, r, h1, _, h3, _⟩
  · omega
  · rw [h3, h1]; simp

theorem sum_two {pa qu s : ByteArray} (h : pa.data.toList ++ qu.data.toList = s.data.toList) : pa.size + qu.size = s.size := by
  rw [Lib.size_eq, Lib.size_eq, Lib.size_eq, ← h]; simp

theorem split_as {s : ByteArray} {w : World} {sc au pa qu : ByteArray} {ok : Bool} {P : World → Prop} (h : Law.split s.data.toList = ⟨sc.data.toList, au.data.toList, pa.data.toList, qu.data.toList, ok⟩)
    (H : Calls Try.prog 12 #[.string s] w fun e w' => SplitPost s.data.toList e ∧ P w') :
    Calls Try.prog 12 #[.string s] w fun e w' => e = .returned (.tuple #[.string sc, .string au, .string pa, .string qu, .bool ok]) ∧ P w' := by
  refine H.mono fun e w' ⟨⟨sc', au', pa', qu', he, h1, h2, h3, h4⟩, hw⟩ => ⟨?_, hw⟩
  rw [h] at he h1 h2 h3 h4
  rw [he, bytes_ext h1, bytes_ext h2, bytes_ext h3, bytes_ext h4]

theorem below_from_drewN {w w' : World} {q : Nat} (h : Below (w.drewN q).heap.size (w.drewN q) w') : Below w.heap.size w w' := below_of_drewN h

/-- FnSplitTargetMatchesGrammar -/
theorem grammar_any (s : ByteArray) (m : Int) (w : World) (hz : s.size ≤ 9223372036854775807) (hm : w.cell? ⟨0, 0, none⟩ = some (.int .i64 m)) :
    Calls Try.prog 3 #[.string s] w fun e w' => e = .returned (.bool true) ∧ Below w.heap.size w w' := by
  by_cases hs : s.size ≤ 1048576
  · have hs2 : s.size ≤ 2097152 := by omega
    have hsi : (s.size : Int) ≤ 1048576 := by omega
    have H9 : Hid (∀ w, Calls Try.prog 9 #[.string s] w fun e w' => e = .returned (.bool true) ∧ w' = w) := fun w => bytes1_yes s w hs
    have H12 := fun q => split_any s m (w.drewN q) hs2 hm
    by_cases hp : 0 < s.size
    · have hpi : (0 : Int) < (s.size : Int) := by omega
      by_cases h0 : s[0].toNat = 47
      · have hpre : Lib.hasPrefix s.data.toList [47] = true := by rw [prefix_of s hp, decide_eq_true h0]
        obtain ⟨h1, h2, h3, h4⟩ := Law.origin s.data.toList hpre
        obtain ⟨pa, hpa⟩ : ∃ x : ByteArray, x.data.toList = (Law.pq s.data.toList).1 := ⟨⟨(Law.pq s.data.toList).1.toArray⟩, by simp⟩
        obtain ⟨qu, hqu⟩ : ∃ x : ByteArray, x.data.toList = (Law.pq s.data.toList).2 := ⟨⟨(Law.pq s.data.toList).2.toArray⟩, by simp⟩
        rw [← hpa, ← hqu] at h1 h2
        rw [← hpa] at h3
        rw [← hqu] at h4
        have hsum := sum_two h2
        refine grammar_origin s pa qu w hsi hpi h0 (by omega) ?_ H9 ?_ ?_ ?_ ?_ ?_
        · simp only [Lib.toList_data, beq_iff_eq, ByteArray.data_append, Array.toList_append]
          rw [← h2]; rfl
        · exact fun w => by have := prefixLen_any s w hs2; rw [spl_slash s hp h0] at this; exact this
        · exact split_as (sc := ⟨#[]⟩) (au := ⟨#[]⟩) h1 (split_any s m w hs2 hm)
        · exact fun w => auShape_any ⟨#[]⟩ w (by decide)
        · exact fun w => h3 ▸ paShape_any pa w (by omega)
        · exact fun w => h4 ▸ quShape_any qu w
      · have hpre : Lib.hasPrefix s.data.toList [47] = false := by rw [prefix_of s hp, decide_eq_false h0]
        have h0b : ((s[0].toNat : Int) == 47) = false := by rw [beq_eq_false_iff_ne]; omega
        by_cases hj : 0 < Law.spl s.data.toList
        · have hjl : Law.spl s.data.toList ≤ s.size := by rw [Lib.size_eq]; exact spl_le _
          cases ho : Lib.occAt s.data.toList Law.sep (Law.spl s.data.toList) with
          | true =>
            obtain ⟨au', pa', qu', h1, h2, h3, h4, h5⟩ := Law.absolute s.data.toList hpre hj ho
            obtain ⟨au, rfl⟩ : ∃ x : ByteArray, x.data.toList = au' := ⟨⟨au'.toArray⟩, by simp⟩
            obtain ⟨pa, rfl⟩ : ∃ x : ByteArray, x.data.toList = pa' := ⟨⟨pa'.toArray⟩, by simp⟩
            obtain ⟨qu, rfl⟩ : ∃ x : ByteArray, x.data.toList = qu' := ⟨⟨qu'.toArray⟩, by simp⟩
            have hext : (s.extract 0 (Law.spl s.data.toList)).data.toList = s.data.toList.take (Law.spl s.data.toList) := by rw [Lib.extract_data]; simp
            rw [← hext] at h1 h2
            have hsum : (s.extract 0 (Law.spl s.data.toList)).size + 3 + (au.size + pa.size + qu.size) = s.size := by
              have := congrArg List.length h2
              simp only [List.length_append, Law.sep, List.length_cons, List.length_nil] at this
              simp only [Lib.size_eq]
              omega
            refine grammar_absolute s (s.extract 0 (Law.spl s.data.toList)) au pa qu (Law.spl s.data.toList) w hsi hpi h0 (by omega) (by omega) (by omega) (by simp) ?_ H9 ?_ ?_ ?_ ?_ ?_ ?_
            · simp only [Lib.toList_data, beq_iff_eq, ByteArray.data_append, Array.toList_append]
              refine Eq.trans ?_ h2
              simp [Law.sep]
            · exact fun w => prefixLen_any s w hs2
            · exact fun w => ho ▸ hasAt_any s (Law.spl s.data.toList) w hs2 hjl
            · exact fun q => split_as h1 ((H12 q).mono fun e w' h => ⟨h.1, below_from_drewN h.2⟩)
            · exact fun w => h3 ▸ auShape_any au w (by omega)
            · exact fun w => h4 ▸ paShape_any pa w (by omega)
            · exact fun w => h5 ▸ quShape_any qu w
          | false =>
            have h1 := Law.neither s.data.toList hpre (fun h => by rw [ho] at h; cases h.2)
            refine grammar_other s (Law.spl s.data.toList) w hsi hpi h0b (by omega) (by omega) H9 ?_ ?_ ?_
            · exact fun w => prefixLen_any s w hs2
            · exact fun w => ho ▸ hasAt_any s (Law.spl s.data.toList) w hs2 hjl
            · exact fun q => split_as (sc := ⟨#[]⟩) (au := ⟨#[]⟩) (pa := ⟨#[]⟩) (qu := ⟨#[]⟩) h1 ((H12 q).mono fun e w' h => ⟨h.1, below_from_drewN h.2⟩)
        · have hj0 : Law.spl s.data.toList = 0 := by omega
          have h1 := Law.neither s.data.toList hpre (fun h => hj h.1)
          refine grammar_none s w hsi hpi h0b H9 ?_ ?_
          · exact fun w => by have := prefixLen_any s w hs2; rw [hj0] at this; exact this
          · exact split_as (sc := ⟨#[]⟩) (au := ⟨#[]⟩) (pa := ⟨#[]⟩) (qu := ⟨#[]⟩) h1 (split_any s m w hs2 hm)
    · have hz0 : s.size = 0 := by omega
      have hnil : s.data.toList = [] := empty_of s hz0
      have hj0 : Law.spl s.data.toList = 0 := by rw [hnil]; rfl
      have h1 := Law.neither s.data.toList (by rw [hnil]; rfl) (fun h => by omega)
      refine grammar_empty s w (by omega) H9 ?_ ?_
      · exact fun w => by have := prefixLen_any s w hs2; rw [hj0] at this; exact this
      · exact split_as (sc := ⟨#[]⟩) (au := ⟨#[]⟩) (pa := ⟨#[]⟩) (qu := ⟨#[]⟩) h1 (split_any s m w hs2 hm)
  · have H9 : Hid (∀ w, Calls Try.prog 9 #[.string s] w fun e w' => e = .returned (.bool false) ∧ w' = w) := fun w => bytes1_no s w hs hz
    clear hs hm
    go_enter Try.func3, Try.ntmps3
    go_wp2_with fail
    refine (Hid.out H9 _).mono ?_
    rintro e w' ⟨rfl, hw⟩; rw [hw]; clear hw
    go_wp2
    go_ret
    exact ⟨rfl, Below.refl _ _⟩

end Go.Proofs.Qxb6602430a.Walks
