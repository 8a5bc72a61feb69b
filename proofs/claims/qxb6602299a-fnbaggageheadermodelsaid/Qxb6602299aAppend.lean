/-
  THE WALKS of seat b6602299a: what is appended.
-/
import Derived.Test.Qxb6602299aTokens
import Derived.Lib.AppendStr
import Derived.OwnWalk
import Derived.Maps.AppendAt
namespace Go.Proofs.Qxb6602299a.Walks
open Go.RowKit
open Go.Proofs.Qxb6602299a
set_option linter.unusedVariables false

theorem info5 : (Try.prog.info? 5).map (fun i => (i.zero, i.size, i.bytes)) = some (some (.int .u8 0), 1, 1) := by kernel_rfl

def cellsL (L : List UInt8) : List Value := L.map fun b => Value.int .u8 (b.toNat : Int)
theorem cellsL_len (L : List UInt8) : (cellsL L).length = L.length := by simp [cellsL]
theorem cellsL_append (L M : List UInt8) : cellsL (L ++ M) = cellsL L ++ cellsL M := by simp [cellsL]
theorem cellsL_one (L : List UInt8) : ∀ u ∈ cellsL L, u.oneCell' = true := by
  intro u hu
  simp only [cellsL, List.mem_map] at hu
  obtain ⟨b, _, rfl⟩ := hu
  rfl

/-- v is a byte slice of the call's own (its row from block B on) that holds L. -/
def Out (B : Nat) (w : World) (v : Value) (L : List UInt8) : Prop := w.ownsRow B 5 1 v L.length (cellsL L)

theorem Out.nil (B : Nat) (w : World) : Out B w (.slice none 0 0) [] := World.ownsRow_nil w B 5 1
theorem Out.app {B : Nat} {w : World} {v : Value} {L M : List UInt8} {m : Nat} {news : List Value} (h : w.ownsRow B 5 1 v (L.length + m) (cellsL L ++ news)) (hn : news = cellsL M) (hm : m = M.length) : Out B w v (L ++ M) := by
  unfold Out
  rw [List.length_append, cellsL_append, ← hn, ← hm]
  exact h
theorem Out.form {B : Nat} {w : World} {v : Value} {L : List UInt8} (h : Out B w v L) : ∃ ao cap, v = .slice ao L.length cap := by
  rcases h.2 with ⟨h', hn⟩ | ⟨g, cap, cur, h', _⟩
  · exact ⟨none, 0, by rw [h', hn]⟩
  · exact ⟨_, cap, h'⟩

theorem enc_take (val : ByteArray) (k : Nat) (h : k < val.size) : Law.enc (val.data.toList.take (k + 1)) = Law.enc (val.data.toList.take k) ++ Law.encB val[k] := by
  rw [List.take_succ_eq_append_getElem (by simpa using h)]
  simp only [Law.enc, List.flatMap_append, List.flatMap_cons, List.flatMap_nil, List.append_nil]
  rfl
theorem encB_len (c : UInt8) : (Law.encB c).length ≤ 3 := by unfold Law.encB; split <;> simp
theorem enc_len (l : List UInt8) : (Law.enc l).length ≤ 3 * l.length := by
  induction l with
  | nil => simp [Law.enc]
  | cons c l ih =>
    have := encB_len c
    simp only [Law.enc, List.flatMap_cons, List.length_append, List.length_cons] at ih ⊢
    omega

theorem own_ge {B e size n : Nat} {w : World} {v : Value} {xs : List Value} (h : w.ownsRow B e size v n xs) : ∀ k, v.ownBlock = some k → B ≤ k := by
  intro k hk
  rcases h.2 with ⟨h', _⟩ | ⟨g, cap, cur, h', hg, _⟩
  · rw [h'] at hk; simp [Value.ownBlock] at hk
  · rw [h'] at hk; simp only [Value.ownBlock, Option.some.injEq] at hk; omega

/-- behind an append onto an owned row -/
theorem below_grown {B e size n : Nat} {w w1 w2 : World} {v : Value} {xs : List Value} (hb : Below B w w1) (h1 : B ≤ w1.heap.size) (h : w1.ownsRow B e size v n xs) (hg : w1.grownBy w2 v.ownBlock) : Below B w w2 ∧ B ≤ w2.heap.size :=
  ⟨hb.grown hg h1 (own_ge h), Nat.le_trans h1 hg.size⟩

/-- 'append(out, bytes...)' of a slice literal, as one step: what it leaves -/
theorem out_step {B : Nat} {w w1 w2 : World} {v v2 : Value} {L M : List UInt8} {o : Obj} {m : Nat} {news : List Value} (hb : Below B w w1) (h1 : B ≤ w1.heap.size) (h : Out B w1 v L)
    (own2 : w2.ownsRow B 5 1 v2 (L.length + m) (cellsL L ++ news)) (hg : (w1.alloc o).grownBy w2 v.ownBlock) (hn : news = cellsL M) (hm : m = M.length) : Out B w2 v2 (L ++ M) ∧ Below B w w2 ∧ B ≤ w2.heap.size :=
  ⟨Out.app own2 hn hm, below_grown (hb.alloc h1 o) (by simp; omega) (World.ownsRow.alloc h o) hg⟩

theorem hex_lt (n : Nat) (h : n < 16) : Law.hex n < 256 := by unfold Law.hex; split <;> omega
theorem cell_list_new (w : World) (xs : List Value) (t : TypeId) : ∀ j u, xs[j]? = some u → (w.alloc (.cells xs.toArray t)).cell? ((⟨w.heap.size, 0, none⟩ : Addr).add j) = some u := by
  intro j u h
  rw [Go.WideShapes.add_plain, Nat.zero_add, World.cell?_alloc_at (hn := rfl)]
  simpa using h
theorem three_one (a b c : Int) : ∀ u ∈ [Value.int .u8 a, .int .u8 b, .int .u8 c], u.oneCell' = true := by
  intro u hu
  simp at hu
  rcases hu with rfl | rfl | rfl <;> rfl
theorem three_cells {x1 x2 : Nat} (h1 : x1 < 256) (h2 : x2 < 256) : [Value.int .u8 37, .int .u8 (x1 : Int), .int .u8 (x2 : Int)] = cellsL [37, UInt8.ofNat x1, UInt8.ofNat x2] := by
  have e1 : (UInt8.ofNat x1).toNat = x1 := by rw [UInt8.toNat_ofNat']; omega
  have e2 : (UInt8.ofNat x2).toNat = x2 := by rw [UInt8.toNat_ofNat']; omega
  simp only [cellsL, List.map_cons, List.map_nil, e1, e2]
  rfl

set_option maxHeartbeats 2000000 in
/-- zzBagAppendMember -/
theorem member_any (B : Nat) (v : Value) (L : List UInt8) (key val : ByteArray) (w : World) (hB : B ≤ w.heap.size) (hL : L.length ≤ 1099511627776) (hk : key.size ≤ 1048576) (hv : val.size ≤ 1048576) (hown : Hid (Out B w v L)) :
    Calls Try.prog 14 #[v, .string key, .string val] w fun e w' => ∃ v', e = .returned v' ∧ Out B w' v' (L ++ Law.mem (key.data.toList, val.data.toList)) ∧ Below B w w' := by
  obtain ⟨i0, hi, hz0, hz1, hz2⟩ := info_parts info5
  have hzk : key.size = key.data.toList.length := Lib.size_eq key
  have HL1 : Hid ((L ++ key.data.toList).length ≤ 1099512676352) := by unfold Hid; rw [List.length_append, ← hzk]; omega
  have HL2 : Hid ((L ++ key.data.toList ++ [61]).length ≤ 1099512676353) := by unfold Hid; rw [List.length_append]; have := HL1.out; simp only [List.length_cons, List.length_nil]; omega
  have HB : Hid (B ≤ w.heap.size) := hB
  have HK : Hid (key.size = key.data.toList.length) := hzk
  clear hzk
  go_enter Try.func14, Try.ntmps14
  go_wp2_with (first | (at_builtin; refine Lib.wpList_append_own_string _ rfl (.tmp 9) (.tmp 10) 30 9 rfl B 5 i0 Try.underlying30 Try.underlying9 hi hz0 hz1 hz2 v L.length (cellsL L) rfl hown.out key rfl (by unfold maxLen; omega) (by omega) hB ?_; intro v1 w1 own1 grow1 _; have hO : Hid (Out B w1 v1 (L ++ key.data.toList) ∧ Below B w w1 ∧ B ≤ w1.heap.size) := ⟨Out.app own1 rfl HK.out, below_grown (Below.refl _ _) HB.out hown.out grow1⟩; clear own1 grow1) | (at_builtin; refine wpList_append_own _ rfl (.tmp 12) (.tmp 13) 30 rfl B 5 i0 (.int .u8 0) 1 1 Try.underlying30 hi hz0 hz1 hz2 rfl (by decide) v1 (L ++ key.data.toList).length (cellsL (L ++ key.data.toList)) rfl (World.ownsRow.alloc hO.out.1 _) ⟨w1.heap.size, 0, none⟩ 1 1 [.int .u8 61] rfl rfl (cell_one_new _ _ _) (by intro u hu; simp at hu; subst hu; rfl) (by have := HL1.out; unfold maxLen; omega) (by have := HL1.out; omega) (by have := hO.out.2.2; simp; omega) ?_; intro v2 w2 own2 grow2 _; have hO2 : Hid (Out B w2 v2 (L ++ key.data.toList ++ [61]) ∧ Below B w w2 ∧ B ≤ w2.heap.size) := out_step hO.out.2.1 hO.out.2.2 hO.out.1 own2 grow2 rfl rfl; clear own2 grow2 hO))
  generalize hM : L ++ key.data.toList ++ [61] = M at HL2 hO2
  have HM : Hid (L ++ key.data.toList ++ [61] = M) := hM
  clear hM
  go_loopw [0, 7] (fun d i wr => ∃ k : Nat, k ≤ val.size ∧ i = .int .i64 k ∧ Hid (Out B wr d (M ++ Law.enc (val.data.toList.take k)) ∧ Below B w wr ∧ B ≤ wr.heap.size)) (fun _ i _ => val.size - (intOf i).toNat)
  case atStart => exact ⟨0, Nat.zero_le _, rfl, by have := hO2.out; simpa [Hid, Law.enc] using this⟩
  case round =>
    obtain ⟨k, hk7, rfl, hrel⟩ := hrel
    by_cases hlt : k < val.size
    · have Hs : Hid (Law.enc (val.data.toList.take (k + 1)) = Law.enc (val.data.toList.take k) ++ Law.encB val[k]) := enc_take val k hlt
      have hb : val[k].toNat < 256 := val[k].toNat_lt
      have HLm : Hid ((M ++ Law.enc (val.data.toList.take k)).length ≤ 1099515822081) := by
        unfold Hid
        rw [List.length_append]
        have h1 := enc_len (val.data.toList.take k)
        have h2 : (val.data.toList.take k).length ≤ k := List.length_take_le _ _
        have h3 := HL2.out
        omega
      have H17 : Hid (∀ w, Calls Try.prog 17 #[.int .u8 (val[k].toNat : Int)] w fun e w' => e = .returned (.bool (Law.pln val[k].toNat)) ∧ w' = w) := fun w => plain_any _ hb w
      cases hT : Law.pln val[k].toNat with
      | true =>
        rw [hT] at H17
        have HE : Hid (Law.encB val[k] = [val[k]]) := by unfold Hid Law.encB; rw [hT]; rfl
        clear hT
        go_wp2_with (first | (go_at_call 17; refine (Hid.out H17 _).mono ?_; rintro e w' ⟨rfl, hw⟩; have hw2 := hw.symm; subst hw2) | (at_builtin; refine wpList_append_own _ rfl (.tmp 26) (.tmp 28) 30 rfl B 5 i0 (.int .u8 0) 1 1 Try.underlying30 hi hz0 hz1 hz2 rfl (by decide) _ (M ++ Law.enc (val.data.toList.take k)).length (cellsL (M ++ Law.enc (val.data.toList.take k))) rfl (World.ownsRow.alloc hrel.out.1 _) ⟨wr.heap.size, 0, none⟩ 1 1 [.int .u8 (val[k].toNat : Int)] rfl rfl (cell_one_new _ _ _) (by intro u hu; simp at hu; subst hu; rfl) (by have := HLm.out; unfold maxLen; omega) (by have := HLm.out; omega) (by have := hrel.out.2.2; simp; omega) ?_; intro v3 w3 own3 grow3 _; have hO3 : Hid (Out B w3 v3 (M ++ Law.enc (val.data.toList.take k) ++ [val[k]]) ∧ Below B w w3 ∧ B ≤ w3.heap.size) := out_step hrel.out.2.1 hrel.out.2.2 hrel.out.1 own3 grow3 rfl rfl; clear own3 grow3))
        go_roundw
        case rel => exact ⟨k + 1, by omega, by go_num, by unfold Hid; rw [Hs.out, HE.out, ← List.append_assoc]; exact hO3.out⟩
        case measure => simp [intOf]; omega
      | false =>
        rw [hT] at H17
        have HE : Hid (Law.encB val[k] = [37, UInt8.ofNat (Law.hex (val[k].toNat / 16)), UInt8.ofNat (Law.hex (val[k].toNat % 16))]) := by unfold Hid Law.encB; rw [hT]; rfl
        clear hT
        have H24a : Hid (∀ w, Calls Try.prog 24 #[.int .u8 ((val[k].toNat : Int) / 16)] w fun e w' => e = .returned (.int .u8 (Law.hex (val[k].toNat / 16) : Nat)) ∧ w' = w) := fun w => hex_any (val[k].toNat / 16) (by omega) w
        have H24b : Hid (∀ w, Calls Try.prog 24 #[.int .u8 ((val[k].toNat : Int) % 16)] w fun e w' => e = .returned (.int .u8 (Law.hex (val[k].toNat % 16) : Nat)) ∧ w' = w) := fun w => hex_any (val[k].toNat % 16) (by omega) w
        have ha := hex_lt (val[k].toNat / 16) (by omega)
        have hb2 := hex_lt (val[k].toNat % 16) (by omega)
        generalize Law.hex (val[k].toNat / 16) = x1 at H24a HE ha
        generalize Law.hex (val[k].toNat % 16) = x2 at H24b HE hb2
        go_wp2_with (go_at_call 17; refine (Hid.out H17 _).mono ?_; rintro e w' ⟨rfl, hw⟩; have hw2 := hw.symm; subst hw2)
        refine (Hid.out H24a _).mono ?_
        rintro e w' ⟨rfl, hw⟩
        have hw2 := hw.symm
        subst hw2
        go_wp2_with fail
        refine (Hid.out H24b _).mono ?_
        rintro e w' ⟨rfl, hw3⟩
        have hw4 := hw3.symm
        subst hw4
        go_wp2_with (at_builtin; refine wpList_append_own _ rfl (.tmp 30) (.tmp 37) 30 rfl B 5 i0 (.int .u8 0) 1 1 Try.underlying30 hi hz0 hz1 hz2 rfl (by decide) _ (M ++ Law.enc (val.data.toList.take k)).length (cellsL (M ++ Law.enc (val.data.toList.take k))) rfl (World.ownsRow.alloc hrel.out.1 _) ⟨wr.heap.size, 0, none⟩ 3 3 [.int .u8 37, .int .u8 (x1 : Int), .int .u8 (x2 : Int)] rfl rfl (cell_list_new _ [.int .u8 37, .int .u8 (x1 : Int), .int .u8 (x2 : Int)] _) (three_one _ _ _) (by have := HLm.out; unfold maxLen; omega) (by have := HLm.out; omega) (by have := hrel.out.2.2; simp; omega) ?_; intro v3 w3 own3 grow3 _; have hO3 : Hid (Out B w3 v3 (M ++ Law.enc (val.data.toList.take k) ++ [37, UInt8.ofNat x1, UInt8.ofNat x2]) ∧ Below B w w3 ∧ B ≤ w3.heap.size) := out_step hrel.out.2.1 hrel.out.2.2 hrel.out.1 own3 grow3 (three_cells ha hb2) rfl; clear own3 grow3)
        go_roundw
        case rel => exact ⟨k + 1, by omega, by go_num, by unfold Hid; rw [Hs.out, HE.out, ← List.append_assoc]; exact hO3.out⟩
        case measure => simp [intOf]; omega
    · go_wp2
      go_ret
      refine ⟨_, rfl, ?_, hrel.out.2.1⟩
      have h1 := hrel.out.1
      rw [List.take_of_length_le (by rw [← Lib.size_eq]; omega)] at h1
      rw [← HM.out] at h1
      simpa [Law.mem] using h1
end Go.Proofs.Qxb6602299a.Walks
