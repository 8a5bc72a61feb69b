/-
  THE WALK of seat b6602430a: httpmsg.SplitTarget.
-/
import Derived.Test.Qxb6602430aHasAt
import Derived.WalkSpells
namespace Go.Proofs.Qxb6602430a.Walks
open Go.RowKit
open Go.Proofs.Qxb6602430a
set_option linter.unusedVariables false

/-- what SplitTarget leaves -/
def SplitPost (t : List UInt8) (e : Ending) : Prop := ∃ sc au pa qu : ByteArray, e = .returned (.tuple #[.string sc, .string au, .string pa, .string qu, .bool (Law.split t).ok]) ∧
  sc.data.toList = (Law.split t).sc ∧ au.data.toList = (Law.split t).au ∧ pa.data.toList = (Law.split t).pa ∧ qu.data.toList = (Law.split t).qu

theorem ret5 {sc au pa qu : ByteArray} {ok : Bool} {t : List UInt8} {e : Ending} (he : e = .returned (.tuple #[.string sc, .string au, .string pa, .string qu, .bool ok])) (h : Law.split t = ⟨sc.data.toList, au.data.toList, pa.data.toList, qu.data.toList, ok⟩) : SplitPost t e := by
  refine ⟨sc, au, pa, qu, ?_, ?_, ?_, ?_, ?_⟩ <;> rw [h] <;> simp [he]

theorem idx_byte (s : ByteArray) (w : World) : Calls Try.prog 34 #[.string s, .int .u8 63] w fun e w' => e = .returned (.int .i64 (Lib.indexByte s.data.toList 63)) ∧ w' = w := Try.strings_IndexByte s 63 w

theorem pq_none {s : ByteArray} (h : Lib.indexByte s.data.toList 63 = -1) : Law.pq s.data.toList = (s.data.toList, (⟨#[]⟩ : ByteArray).data.toList) := by
  unfold Law.pq
  rw [h, if_neg (by omega)]
theorem pq_some {s : ByteArray} {j : Nat} (h : Lib.indexByte s.data.toList 63 = j) : Law.pq s.data.toList = ((s.extract 0 j).data.toList, (s.extract j s.size).data.toList) := by
  unfold Law.pq
  rw [h, if_pos (by omega), Lib.extract_data, Lib.extract_to_end]
  simp
theorem idx_cases (s : ByteArray) : Lib.indexByte s.data.toList 63 = -1 ∨ ∃ j : Nat, Lib.indexByte s.data.toList 63 = j ∧ j ≤ s.size := by
  rcases Law.byte_spec 63 s.data.toList with ⟨h, _⟩ | ⟨p, q, h1, h2, _⟩
  · exact .inl h
  · right
    refine ⟨p.length, h2, ?_⟩
    rw [Lib.size_eq, h1]
    simp

set_option maxHeartbeats 2000000 in
/-- origin form -/
theorem split_origin (s : ByteArray) (w : World) (hs : s.size ≤ 2097152) (ho : Lib.hasPrefix s.data.toList [47] = true) :
    Calls Try.prog 12 #[.string s] w fun e w' => SplitPost s.data.toList e ∧ Below w.heap.size w w' := by
  have H30 : Hid (∀ w, Calls Try.prog 30 #[.string s, .string ⟨#[47]⟩] w fun e w' => e = .returned (.bool true) ∧ w' = w) := fun w => ho ▸ Try.strings_HasPrefix s ⟨#[47]⟩ w
  have H34 : Hid (∀ w, Calls Try.prog 34 #[.string s, .int .u8 63] w fun e w' => e = .returned (.int .i64 (Lib.indexByte s.data.toList 63)) ∧ w' = w) := fun w => idx_byte s w
  have HO : Hid _ := (Law.origin s.data.toList ho).1
  clear ho
  rcases idx_cases s with h | ⟨j, h, hj⟩
  · rw [h] at H34
    have HP : Hid _ := pq_none h
    clear h
    go_enter Try.func12, Try.ntmps12
    go_wp2_with (first | (go_at_call 30; refine (Hid.out H30 _).mono ?_; rintro e w' ⟨rfl, rfl⟩) | (go_at_call 34; refine (Hid.out H34 _).mono ?_; rintro e w' ⟨rfl, rfl⟩))
    refine bodyPost_ret (v := .tuple #[.string ⟨#[]⟩, .string ⟨#[]⟩, .string s, .string ⟨#[]⟩, .bool true]) (by simp [results, Try.results12, go_sem]) rfl ⟨ret5 rfl ?_, Below.refl _ _⟩
    rw [HO.out, HP.out]
  · rw [h] at H34
    have HP : Hid _ := pq_some h
    have hji : (j : Int) ≤ (s.size : Int) := by omega
    clear h
    go_enter Try.func12, Try.ntmps12
    go_wp2_with (first | (go_at_call 30; refine (Hid.out H30 _).mono ?_; rintro e w' ⟨rfl, rfl⟩) | (go_at_call 34; refine (Hid.out H34 _).mono ?_; rintro e w' ⟨rfl, rfl⟩))
    go_quiet (fail)
    go_wp2
    refine bodyPost_ret (v := .tuple #[.string ⟨#[]⟩, .string ⟨#[]⟩, .string (s.extract 0 j), .string (s.extract j s.size), .bool true]) (by simp [results, Try.results12, go_sem]) rfl ⟨ret5 rfl ?_, ⟨rfl, rfl, rfl, Nat.le_refl _, fun _ _ => rfl⟩⟩
    rw [HO.out, HP.out]

theorem len_arr (l : List UInt8) : (⟨l.toArray⟩ : ByteArray).size = l.length := by simp [ByteArray.size]

theorem split_no {t : List UInt8} (hn : Lib.hasPrefix t [47] = false) (h : ¬ ((Lib.cut t [58, 47, 47]).2.2 = true ∧ Law.isS (Lib.cut t [58, 47, 47]).1 = true)) : Law.split t = ⟨[], [], [], [], false⟩ := by
  unfold Law.split
  rw [if_neg (by rw [hn]; simp), if_neg h]
theorem split_yes {t : List UInt8} (hn : Lib.hasPrefix t [47] = false) (h : (Lib.cut t [58, 47, 47]).2.2 = true ∧ Law.isS (Lib.cut t [58, 47, 47]).1 = true) :
    Law.split t = ⟨(Lib.cut t [58, 47, 47]).1, (Law.ap (Lib.cut t [58, 47, 47]).2.1).1, (Law.pq (Law.ap (Lib.cut t [58, 47, 47]).2.1).2).1, (Law.pq (Law.ap (Lib.cut t [58, 47, 47]).2.1).2).2, true⟩ := by
  unfold Law.split
  rw [if_neg (by rw [hn]; simp), if_pos h]

theorem cut_sizes (t : List UInt8) (n : Nat) (h : t.length ≤ n) : (Lib.cut t [58, 47, 47]).1.length ≤ n ∧ (Lib.cut t [58, 47, 47]).2.1.length ≤ n := by
  unfold Lib.cut
  split
  · simp only [List.length_take, List.length_drop]
    omega
  · simp; omega

theorem ap_none {s : ByteArray} (h : Lib.indexAny s.data.toList Law.marks = -1) : Law.ap s.data.toList = (s.data.toList, (⟨#[]⟩ : ByteArray).data.toList) := by
  unfold Law.ap
  rw [h, if_neg (by omega)]
theorem ap_some {s : ByteArray} {j : Nat} (h : Lib.indexAny s.data.toList Law.marks = j) : Law.ap s.data.toList = ((s.extract 0 j).data.toList, (s.extract j s.size).data.toList) := by
  unfold Law.ap
  rw [h, if_pos (by omega), Lib.extract_data, Lib.extract_to_end]
  simp
theorem any_cases (s : ByteArray) : Lib.indexAny s.data.toList Law.marks = -1 ∨ ∃ j : Nat, Lib.indexAny s.data.toList Law.marks = j ∧ j ≤ s.size := by
  rcases Law.any_spec s.data.toList with ⟨h, _⟩ | ⟨p, c, q, h1, _, h2, _⟩
  · exact .inl h
  · right
    refine ⟨p.length, h2, ?_⟩
    rw [Lib.size_eq, h1]
    simp

set_option maxHeartbeats 2000000 in
/-- neither form -/
theorem split_neither (s : ByteArray) (m : Int) (w : World) (hs : s.size ≤ 2097152) (hm : w.cell? ⟨0, 0, none⟩ = some (.int .i64 m)) (hn : Lib.hasPrefix s.data.toList [47] = false)
    (h : ¬ ((Lib.cut s.data.toList [58, 47, 47]).2.2 = true ∧ Law.isS (Lib.cut s.data.toList [58, 47, 47]).1 = true)) :
    Calls Try.prog 12 #[.string s] w fun e w' => SplitPost s.data.toList e ∧ Below w.heap.size w w' := by
  have H30 : Hid (∀ w, Calls Try.prog 30 #[.string s, .string ⟨#[47]⟩] w fun e w' => e = .returned (.bool false) ∧ w' = w) := fun w => hn ▸ Try.strings_HasPrefix s ⟨#[47]⟩ w
  have H31 := Try.strings_Cut s ⟨#[58, 47, 47]⟩ m w (by omega) hm
  have HO : Hid _ := split_no hn h
  have hsz := cut_sizes s.data.toList 2097152 (by rw [← Lib.size_eq]; exact hs)
  change Calls Try.prog 31 #[.string s, .string ⟨#[58, 47, 47]⟩] w (fun e w' => e = .returned (.tuple #[.string ⟨(Lib.cut s.data.toList [58, 47, 47]).1.toArray⟩, .string ⟨(Lib.cut s.data.toList [58, 47, 47]).2.1.toArray⟩, .bool (Lib.cut s.data.toList [58, 47, 47]).2.2]) ∧ ∃ n, w' = w.drewN n) at H31
  have H32 := isScheme_any ⟨(Lib.cut s.data.toList [58, 47, 47]).1.toArray⟩ 
  generalize hc : Lib.cut s.data.toList [58, 47, 47] = ct at H31 H32 h hsz
  obtain ⟨p, r, fd⟩ := ct
  have HK31 : Hid (Calls Try.prog 31 #[.string s, .string ⟨#[58, 47, 47]⟩] w (fun e w' => e = .returned (.tuple #[.string ⟨p.toArray⟩, .string ⟨r.toArray⟩, .bool fd]) ∧ ∃ n, w' = w.drewN n)) := H31
  have HK32 : Hid (∀ w, Calls Try.prog 32 #[.string ⟨p.toArray⟩] w fun e w' => e = .returned (.bool (Law.isS p)) ∧ w' = w) := fun w => H32 w (by rw [len_arr]; exact hsz.1)
  clear H31 H32 hc hsz hn hm
  simp only at h
  cases fd with
  | false =>
    clear h HK32
    go_enter Try.func12, Try.ntmps12
    go_wp2_with (first | (go_at_call 30; refine (Hid.out H30 _).mono ?_; rintro e w' ⟨rfl, hw⟩; rw [hw]; clear hw) | (go_at_call 31; refine (Hid.out HK31).mono ?_; rintro e w' ⟨rfl, q, rfl⟩))
    refine bodyPost_ret (v := .tuple #[.string ⟨#[]⟩, .string ⟨#[]⟩, .string ⟨#[]⟩, .string ⟨#[]⟩, .bool false]) (by simp [results, Try.results12, go_sem]) rfl ⟨ret5 rfl ?_, ⟨rfl, rfl, rfl, Nat.le_refl _, fun _ _ => rfl⟩⟩
    exact HO.out
  | true =>
    have hS : Law.isS p = false := by
      cases h2 : Law.isS p with
      | false => rfl
      | true => exact absurd ⟨rfl, h2⟩ h
    rw [hS] at HK32
    clear h hS
    go_enter Try.func12, Try.ntmps12
    go_wp2_with (first | (go_at_call 30; refine (Hid.out H30 _).mono ?_; rintro e w' ⟨rfl, hw⟩; rw [hw]; clear hw) | (go_at_call 31; refine (Hid.out HK31).mono ?_; rintro e w' ⟨rfl, q, rfl⟩) | (go_at_call 32; refine (Hid.out HK32 _).mono ?_; rintro e w' ⟨rfl, rfl⟩))
    refine bodyPost_ret (v := .tuple #[.string ⟨#[]⟩, .string ⟨#[]⟩, .string ⟨#[]⟩, .string ⟨#[]⟩, .bool false]) (by simp [results, Try.results12, go_sem]) rfl ⟨ret5 rfl ?_, ⟨rfl, rfl, rfl, Nat.le_refl _, fun _ _ => rfl⟩⟩
    exact HO.out

theorem below_drewN {B : Nat} {a w : World} (h : Below B a w) (q : Nat) : Below B a (w.drewN q) := ⟨h.os, h.tape, h.output, h.size, h.block⟩
theorem below_of_drewN {w w' : World} {q : Nat} (h : Below (w.drewN q).heap.size (w.drewN q) w') : Below w.heap.size w w' := ⟨h.os, h.tape, h.output, h.size, h.block⟩

set_option maxHeartbeats 4000000 in
/-- absolute form -/
theorem split_absolute (s : ByteArray) (m : Int) (w : World) (hs : s.size ≤ 2097152) (hm : w.cell? ⟨0, 0, none⟩ = some (.int .i64 m)) (hn : Lib.hasPrefix s.data.toList [47] = false)
    (h : (Lib.cut s.data.toList [58, 47, 47]).2.2 = true ∧ Law.isS (Lib.cut s.data.toList [58, 47, 47]).1 = true) :
    Calls Try.prog 12 #[.string s] w fun e w' => SplitPost s.data.toList e ∧ Below w.heap.size w w' := by
  have H30 : Hid (∀ w, Calls Try.prog 30 #[.string s, .string ⟨#[47]⟩] w fun e w' => e = .returned (.bool false) ∧ w' = w) := fun w => hn ▸ Try.strings_HasPrefix s ⟨#[47]⟩ w
  have H31 := Try.strings_Cut s ⟨#[58, 47, 47]⟩ m w (by omega) hm
  have HOo := split_yes hn h
  have hsz := cut_sizes s.data.toList 2097152 (by rw [← Lib.size_eq]; exact hs)
  change Calls Try.prog 31 #[.string s, .string ⟨#[58, 47, 47]⟩] w (fun e w' => e = .returned (.tuple #[.string ⟨(Lib.cut s.data.toList [58, 47, 47]).1.toArray⟩, .string ⟨(Lib.cut s.data.toList [58, 47, 47]).2.1.toArray⟩, .bool (Lib.cut s.data.toList [58, 47, 47]).2.2]) ∧ ∃ n, w' = w.drewN n) at H31
  generalize hc : Lib.cut s.data.toList [58, 47, 47] = ct at H31 h hsz HOo
  obtain ⟨p, r, fd⟩ := ct
  obtain ⟨h1, h2⟩ := h
  simp only at h1 h2 hsz HOo
  subst h1
  obtain ⟨sc, hsc⟩ : ∃ sc : ByteArray, sc = ⟨p.toArray⟩ := ⟨_, rfl⟩
  obtain ⟨rest, hrest⟩ : ∃ rest : ByteArray, rest = ⟨r.toArray⟩ := ⟨_, rfl⟩
  have hscl : sc.data.toList = p := by rw [hsc]
  have hrestl : rest.data.toList = r := by rw [hrest]
  have HK31 : Hid (Calls Try.prog 31 #[.string s, .string ⟨#[58, 47, 47]⟩] w (fun e w' => e = .returned (.tuple #[.string sc, .string rest, .bool true]) ∧ ∃ n, w' = w.drewN n)) := by rw [hsc, hrest]; exact H31
  have hscs : sc.size ≤ 2097152 := by rw [hsc, len_arr]; exact hsz.1
  have hrs : rest.size ≤ 2097152 := by rw [hrest, len_arr]; exact hsz.2
  have HK32 : Hid (∀ w, Calls Try.prog 32 #[.string sc] w fun e w' => e = .returned (.bool true) ∧ w' = w) := fun w => by
    have := isScheme_any sc w hscs
    rw [hscl, h2] at this
    exact this
  rw [← hscl, ← hrestl] at HOo
  have HO : Hid _ := HOo
  have H33 : Hid (∀ w, Calls Try.prog 33 #[.string rest, .string ⟨#[47, 63]⟩] w fun e w' => e = .returned (.int .i64 (Lib.indexAny rest.data.toList Law.marks)) ∧ Below w.heap.size w w') := fun w => any_all rest w hrs
  clear H31 HOo hsz hc hn hm h2 hsc hrest hscl hrestl
  rcases any_cases rest with h | ⟨i, h, hi⟩
  · rw [h] at H33
    have HA : Hid _ := ap_none h
    have H34 : Hid (∀ w, Calls Try.prog 34 #[.string ⟨#[]⟩, .int .u8 63] w fun e w' => e = .returned (.int .i64 (-1)) ∧ w' = w) := fun w => idx_byte ⟨#[]⟩ w
    clear h
    go_enter Try.func12, Try.ntmps12
    go_wp2_with (first | (go_at_call 30; refine (Hid.out H30 _).mono ?_; rintro e w' ⟨rfl, hw⟩; rw [hw]; clear hw) | (go_at_call 31; refine (Hid.out HK31).mono ?_; rintro e w' ⟨rfl, q, rfl⟩) | (go_at_call 32; refine (Hid.out HK32 _).mono ?_; rintro e w' ⟨rfl, hw⟩; rw [hw]; clear hw) | (go_at_call 33; refine (Hid.out H33 _).mono ?_; rintro e w3 ⟨rfl, hb3⟩; have HB3 : Hid (Below w.heap.size w w3) := below_of_drewN hb3; clear hb3) | (go_at_call 34; refine (Hid.out H34 _).mono ?_; rintro e w' ⟨rfl, hw⟩; rw [hw]; clear hw))
    refine bodyPost_ret (v := .tuple #[.string sc, .string rest, .string ⟨#[]⟩, .string ⟨#[]⟩, .bool true]) (by simp [results, Try.results12, go_sem]) rfl ⟨ret5 rfl ?_, HB3.out⟩
    rw [HO.out, HA.out]
    rfl
  · rw [h] at H33
    have HA : Hid _ := ap_some h
    have hii : (i : Int) ≤ (rest.size : Int) := by omega
    clear h
    go_enter Try.func12, Try.ntmps12
    go_wp2_with (first | (go_at_call 30; refine (Hid.out H30 _).mono ?_; rintro e w' ⟨rfl, hw⟩; rw [hw]; clear hw) | (go_at_call 31; refine (Hid.out HK31).mono ?_; rintro e w' ⟨rfl, q, rfl⟩) | (go_at_call 32; refine (Hid.out HK32 _).mono ?_; rintro e w' ⟨rfl, hw⟩; rw [hw]; clear hw) | (go_at_call 33; refine (Hid.out H33 _).mono ?_; rintro e w3 ⟨rfl, hb3⟩; have HB3 : Hid (Below w.heap.size w w3) := below_of_drewN hb3; clear hb3))
    go_quiet (fail)
    go_wp2_with fail
    generalize hau : rest.extract 0 i = au at HA
    generalize hpq : rest.extract i rest.size = pv at HA
    clear hau hpq
    rcases idx_cases pv with h | ⟨j, h, hj⟩
    · have H34 : Hid (∀ w, Calls Try.prog 34 #[.string pv, .int .u8 63] w fun e w' => e = .returned (.int .i64 (-1)) ∧ w' = w) := fun w => h ▸ idx_byte pv w
      have HP : Hid _ := pq_none h
      clear h
      refine (Hid.out H34 _).mono ?_
      rintro e w' ⟨rfl, hw⟩
      rw [hw]
      clear hw
      go_wp2
      refine bodyPost_ret (v := .tuple #[.string sc, .string au, .string pv, .string ⟨#[]⟩, .bool true]) (by simp [results, Try.results12, go_sem]) rfl ⟨ret5 rfl ?_, below_drewN HB3.out _⟩
      rw [HO.out, HA.out, HP.out]
    · have H34 : Hid (∀ w, Calls Try.prog 34 #[.string pv, .int .u8 63] w fun e w' => e = .returned (.int .i64 (j : Int)) ∧ w' = w) := fun w => h ▸ idx_byte pv w
      have HP : Hid _ := pq_some h
      have hji : (j : Int) ≤ (pv.size : Int) := by omega
      clear h
      refine (Hid.out H34 _).mono ?_
      rintro e w' ⟨rfl, hw⟩
      rw [hw]
      clear hw
      go_wp2
      go_quiet (fail)
      go_wp2
      refine bodyPost_ret (v := .tuple #[.string sc, .string au, .string (pv.extract 0 j), .string (pv.extract j pv.size), .bool true]) (by simp [results, Try.results12, go_sem]) rfl ⟨ret5 rfl ?_, below_drewN (below_drewN HB3.out _) _⟩
      rw [HO.out, HA.out, HP.out]

/-- httpmsg.SplitTarget -/
theorem split_any (s : ByteArray) (m : Int) (w : World) (hs : s.size ≤ 2097152) (hm : w.cell? ⟨0, 0, none⟩ = some (.int .i64 m)) :
    Calls Try.prog 12 #[.string s] w fun e w' => SplitPost s.data.toList e ∧ Below w.heap.size w w' := by
  cases ho : Lib.hasPrefix s.data.toList [47] with
  | true => exact split_origin s w hs ho
  | false =>
    by_cases h : (Lib.cut s.data.toList [58, 47, 47]).2.2 = true ∧ Law.isS (Lib.cut s.data.toList [58, 47, 47]).1 = true
    · exact split_absolute s m w hs hm ho h
    · exact split_neither s m w hs hm ho h

end Go.Proofs.Qxb6602430a.Walks
