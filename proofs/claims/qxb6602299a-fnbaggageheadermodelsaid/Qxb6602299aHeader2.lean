/-
  THE WALKS of seat b6602299a: baggage.header.
-/
import Derived.Test.Qxb6602299aHeader
namespace Go.Proofs.Qxb6602299a.Walks
open Go.RowKit
open Go.Proofs.Qxb6602299a
set_option linter.unusedVariables false

theorem ret_str {a b : List UInt8} (h : a = b) : Ending.returned (.string ⟨a.toArray⟩) = .returned (.string ⟨b.toArray⟩) := by rw [h]
theorem one_one (a : Int) : ∀ u ∈ [Value.int .u8 a], u.oneCell' = true := by
  intro u hu
  simp at hu
  subst hu
  rfl

theorem cell_one_new2 (w : World) (o : Obj) (x : Value) (t : TypeId) : ∀ j u, [x][j]? = some u → ((w.alloc o).alloc (.cells #[x] t)).cell? ((⟨w.heap.size + 1, 0, none⟩ : Addr).add j) = some u := by
  have h := cell_one_new (w.alloc o) x t
  have e : (w.alloc o).heap.size = w.heap.size + 1 := by simp
  rw [e] at h
  exact h
theorem Out.conv_full {B : Nat} {w : World} {ao : Option Addr} {cap : Nat} {L : List UInt8} (h : Out B w (.slice ao L.length cap) L) : (convert 30 9 (.slice ao L.length cap)).run Try.prog w = .ok (.string ⟨L.toArray⟩) w := by
  have := h.conv L.length (Nat.le_refl _)
  rw [List.take_length] at this
  exact this
theorem Out.conv_take {B : Nat} {w : World} {ao : Option Addr} {cap : Nat} {L LL : List UInt8} (h : Out B w (.slice ao LL.length cap) LL) (hT : ∃ T, LL = L ++ T) : (convert 30 9 (.slice ao L.length cap)).run Try.prog w = .ok (.string ⟨L.toArray⟩) w := by
  obtain ⟨T, hT⟩ := hT
  have := h.conv L.length (by rw [hT]; simp)
  rw [hT, List.take_left'] at this
  · exact this
  · rfl

/-- an item's bytes -/
def bytesI (it : ByteArray × ByteArray) : List UInt8 × List UInt8 := (it.1.data.toList, it.2.data.toList)

/-- block g holds the items, two cells each -/
def Items (w : World) (g : Nat) (I : List (ByteArray × ByteArray)) : Prop := ∀ i (h : i < I.length), w.cell? ⟨g, i * 2, none⟩ = some (.string I[i].1) ∧ w.cell? ⟨g, i * 2 + 1, none⟩ = some (.string I[i].2)

theorem hdr_skip (I : List (ByteArray × ByteArray)) (k : Nat) (h : k < I.length) (L : List UInt8) (m : Nat) (ht : Law.tok I[k].1.data.toList = false) :
    Law.hdr L m ((I.map bytesI).drop k) = Law.hdr L m ((I.map bytesI).drop (k + 1)) := by
  rw [List.drop_eq_getElem_cons (by simpa using h)]
  simp only [Law.hdr, List.getElem_map, bytesI, ht, if_true]
theorem hdr_full (I : List (ByteArray × ByteArray)) (k : Nat) (h : k < I.length) (L : List UInt8) (m : Nat) (ht : Law.tok I[k].1.data.toList = true) (hm : m = 180) :
    Law.hdr L m ((I.map bytesI).drop k) = L := by
  rw [List.drop_eq_getElem_cons (by simpa using h)]
  simp only [Law.hdr, List.getElem_map, bytesI, ht]
  rw [if_neg (by simp), if_pos hm]
theorem hdr_long (I : List (ByteArray × ByteArray)) (k : Nat) (h : k < I.length) (L L' : List UInt8) (m : Nat) (ht : Law.tok I[k].1.data.toList = true) (hm : ¬ m = 180)
    (hL : (if 0 < m then L ++ [44] else L) ++ Law.mem (bytesI I[k]) = L') (hl : 8192 < L'.length) :
    Law.hdr L m ((I.map bytesI).drop k) = L := by
  rw [List.drop_eq_getElem_cons (by simpa using h)]
  simp only [Law.hdr, List.getElem_map]
  rw [if_neg (by simp only [bytesI]; rw [ht]; simp), if_neg hm, hL, if_pos hl]
theorem hdr_next (I : List (ByteArray × ByteArray)) (k : Nat) (h : k < I.length) (L L' : List UInt8) (m : Nat) (ht : Law.tok I[k].1.data.toList = true) (hm : ¬ m = 180)
    (hL : (if 0 < m then L ++ [44] else L) ++ Law.mem (bytesI I[k]) = L') (hl : ¬ 8192 < L'.length) :
    Law.hdr L m ((I.map bytesI).drop k) = Law.hdr L' (m + 1) ((I.map bytesI).drop (k + 1)) := by
  rw [List.drop_eq_getElem_cons (by simpa using h)]
  simp only [Law.hdr, List.getElem_map]
  rw [if_neg (by simp only [bytesI]; rw [ht]; simp), if_neg hm, hL, if_neg hl]

set_option maxHeartbeats 4000000 in
/-- baggage.header -/
theorem header_some (g : Nat) (I : List (ByteArray × ByteArray)) (n : Nat) (w : World) (hn : I.length = n) (hn2 : n ≤ 65536) (hsz : Hid (∀ i (h : i < I.length), I[i].1.size ≤ 1048576 ∧ I[i].2.size ≤ 1048576)) (hc : Hid (Items w g I)) :
    Calls Try.prog 22 #[.slice (some ⟨g, 0, none⟩) n n] w fun e w' => e = .returned (.string ⟨(Law.hdr [] 0 (I.map bytesI)).toArray⟩) ∧ Below w.heap.size w w' := by
  obtain ⟨i0, hi, hz0, hz1, hz2⟩ := info_parts info5
  generalize hR : Law.hdr [] 0 (I.map bytesI) = R
  have HR : Hid (Law.hdr [] 0 (I.map bytesI) = R) := hR
  have HN : Hid (I.length = n) := hn
  clear hR hn
  go_enter Try.func22, Try.ntmps22
  go_wp2
  go_loopw [3, 4, 10] (fun o m i wr => ∃ (k mm : Nat) (L : List UInt8) (ao : Option Addr) (cap : Nat), k ≤ n ∧ mm ≤ 180 ∧ i = .int .i64 k ∧ m = .int .i64 mm ∧ o = .slice ao L.length cap ∧ L.length ≤ 8192 ∧ Hid (Out w.heap.size wr (.slice ao L.length cap) L ∧ Below w.heap.size w wr ∧ w.heap.size ≤ wr.heap.size) ∧ Hid (Law.hdr L mm ((I.map bytesI).drop k) = R)) (fun _ _ i _ => n - (intOf i).toNat)
  case atStart => exact ⟨0, 0, [], none, 0, Nat.zero_le _, by omega, rfl, rfl, rfl, by simp, ⟨Out.nil _ _, Below.refl _ _, Nat.le_refl _⟩, HR.out⟩
  case round =>
    obtain ⟨k, mm, L, ao, cap, hk, hmm, rfl, rfl, rfl, hL, hS, hrel⟩ := hrel
    by_cases hlt : k < n
    · have hki : k < I.length := by rw [HN.out]; exact hlt
      obtain ⟨key, hkey⟩ : ∃ key, key = I[k].1 := ⟨_, rfl⟩
      obtain ⟨val, hval⟩ : ∃ val, val = I[k].2 := ⟨_, rfl⟩
      have hcells := hc.out k hki
      have hszk := hsz.out k hki
      rw [← hkey, ← hval] at hcells hszk
      obtain ⟨hsk, hsv⟩ := hszk
      have hc0 : wr.cell? ⟨g, k * 2, none⟩ = some (.string key) := (hS.out.2.1.cell (World.block_lt_of_cell? _ _ hcells.1)).trans hcells.1
      have hc1 : wr.cell? ⟨g, k * 2 + 1, none⟩ = some (.string val) := (hS.out.2.1.cell (World.block_lt_of_cell? _ _ hcells.2)).trans hcells.2
      have HKV : Hid (key = I[k].1 ∧ val = I[k].2) := ⟨hkey, hval⟩
      clear hcells hkey hval
      have H26 : Hid (∀ w, Calls Try.prog 26 #[.string key] w fun e w' => e = .returned (.bool (Law.tok key.data.toList)) ∧ w' = w) := fun w => isToken_any key w hsk
      cases hT : Law.tok key.data.toList with
      | false =>
        rw [hT] at H26
        go_wp2_with (go_at_call 26; refine (Hid.out H26 _).mono ?_; rintro e w' ⟨rfl, hw⟩; rw [hw]; clear hw)
        go_roundw
        case rel => exact ⟨k + 1, mm, L, ao, cap, by omega, by omega, by go_num, rfl, rfl, by omega, ⟨World.ownsRow.alloc hS.out.1 _, hS.out.2.1.alloc hS.out.2.2 _, by simp; have := hS.out.2.2; omega⟩, by unfold Hid; rw [← hdr_skip I k hki L mm (by rw [← HKV.out.1]; exact hT)]; exact hrel.out⟩
        case measure => simp [intOf]; omega
      | true =>
        rw [hT] at H26
        have HT : Hid (Law.tok key.data.toList = true) := hT
        clear hT
        by_cases h180 : mm = 180
        · have b180 : ((mm : Int) == 180) = true := beq_iff_eq.2 (by omega)
          have hconv := Out.conv_full (w := wr.alloc (.cells #[.string key, .string val] 42)) (World.ownsRow.alloc hS.out.1 _)
          have HF : Hid (R = L) := by unfold Hid; rw [← hrel.out]; exact hdr_full I k hki L mm (by rw [← HKV.out.1]; exact HT.out) h180
          have HBB : Hid (Below w.heap.size w (wr.alloc (.cells #[.string key, .string val] 42))) := hS.out.2.1.alloc hS.out.2.2 _
          clear h180
          go_wp2_with (go_at_call 26; refine (Hid.out H26 _).mono ?_; rintro e w' ⟨rfl, hw⟩; rw [hw]; clear hw)
          go_ret
          exact ⟨ret_str (by rw [HF.out]), HBB.out⟩
        · have b180 : ((mm : Int) == 180) = false := beq_eq_false_iff_ne.2 (by omega)
          have H180 : Hid (¬ mm = 180) := h180
          have hmm2 : mm < 180 := by omega
          clear h180
          have HS1 : Hid (St w.heap.size w wr.heap.size key val (wr.alloc (.cells #[.string key, .string val] 42)) (.slice ao L.length cap) L) := St.start key val hS.out
          have hzk : key.size = key.data.toList.length := Lib.size_eq key
          have HZK : Hid (key.size = key.data.toList.length) := hzk
          clear hzk
          obtain ⟨LL, hLL⟩ : ∃ LL, (if 0 < mm then L ++ [44] else L) ++ Law.mem (bytesI I[k]) = LL := ⟨_, rfl⟩
          have HLa : Hid ((if 0 < mm then L ++ [44] else L) ++ Law.mem (bytesI I[k]) = LL) := hLL
          clear hLL
          by_cases hm0 : 0 < mm
          · have hm0i : (0 : Int) < (mm : Int) := by omega
            have HLL : Hid (L ++ [44] ++ key.data.toList ++ [61] ++ Law.enc val.data.toList = LL) := by unfold Hid; rw [← HLa.out, if_pos hm0]; simp [Law.mem, bytesI, HKV.out.1, HKV.out.2]
            have HLt : Hid (∃ T, LL = L ++ T) := ⟨[44] ++ key.data.toList ++ [61] ++ Law.enc val.data.toList, by rw [← HLL.out]; simp only [List.append_assoc]⟩
            have HLen : Hid (L.length ≤ LL.length) := by obtain ⟨T, hT⟩ := HLt.out; unfold Hid; rw [hT]; simp
            have HLpos : Hid (0 < LL.length) := by unfold Hid; rw [← HLL.out]; simp; omega
            have HLb : Hid ((L ++ [44] ++ key.data.toList ++ [61]).length ≤ 1099512676353) := by unfold Hid; simp only [List.length_append, List.length_cons, List.length_nil, ← HZK.out]; omega
            have HL1 : Hid ((L ++ [44]).length ≤ 8193) := by unfold Hid; simp; omega
            have HL2 : Hid ((L ++ [44] ++ key.data.toList).length ≤ 1056769) := by unfold Hid; simp only [List.length_append, List.length_cons, List.length_nil, ← HZK.out]; omega
            go_wp2_with (first | (go_at_call 26; refine (Hid.out H26 _).mono ?_; rintro e w' ⟨rfl, hw⟩; rw [hw]; clear hw) | (at_builtin; refine wpList_append_own _ rfl (.tmp 24) (.tmp 25) 30 rfl w.heap.size 5 i0 (.int .u8 0) 1 1 Try.underlying30 hi hz0 hz1 hz2 rfl (by decide) (.slice ao L.length cap) L.length (cellsL L) rfl (World.ownsRow.alloc HS1.out.1 _) ⟨wr.heap.size + 1, 0, none⟩ 1 1 [.int .u8 44] rfl rfl (cell_one_new2 _ _ _ _) (one_one _) (by have := hL; unfold maxLen; omega) (by have := hL; omega) (Nat.le_trans HS1.out.2.2.1 (by simp)) ?_; intro v1 w1 ownw1 groww1 _; have HS2 : Hid (St w.heap.size w wr.heap.size key val w1 v1 (L ++ ([44] : List UInt8))) := St.lit HS1.out ownw1 groww1 rfl rfl; have c0w1 := HS2.out.2.2.2.cell0; have c1w1 := HS2.out.2.2.2.cell1; clear ownw1 groww1) | (at_builtin; refine Lib.wpList_append_own_string _ rfl (.tmp 27) (.tmp 29) 30 9 rfl w.heap.size 5 i0 Try.underlying30 Try.underlying9 hi hz0 hz1 hz2 v1 (L ++ ([44] : List UInt8)).length (cellsL (L ++ ([44] : List UInt8))) rfl HS2.out.1 key rfl (by have := HL1.out; unfold maxLen; omega) (by have := HL1.out; omega) HS2.out.2.2.1 ?_; intro v2 w2 ownw2 groww2 _; have HS3 : Hid (St w.heap.size w wr.heap.size key val w2 v2 ((L ++ ([44] : List UInt8)) ++ key.data.toList)) := St.str HS2.out ownw2 groww2; have c0w2 := HS3.out.2.2.2.cell0; have c1w2 := HS3.out.2.2.2.cell1; clear ownw2 groww2) | (at_builtin; refine wpList_append_own _ rfl (.tmp 31) (.tmp 32) 30 rfl w.heap.size 5 i0 (.int .u8 0) 1 1 Try.underlying30 hi hz0 hz1 hz2 rfl (by decide) v2 (L ++ ([44] : List UInt8) ++ key.data.toList).length (cellsL (L ++ ([44] : List UInt8) ++ key.data.toList)) rfl (World.ownsRow.alloc HS3.out.1 _) ⟨w2.heap.size, 0, none⟩ 1 1 [.int .u8 61] rfl rfl (cell_one_new _ _ _) (one_one _) (by have := HL2.out; unfold maxLen; omega) (by have := HL2.out; omega) (Nat.le_trans HS3.out.2.2.1 (by simp)) ?_; intro v3 w3 ownw3 groww3 _; have HS4 : Hid (St w.heap.size w wr.heap.size key val w3 v3 ((L ++ ([44] : List UInt8) ++ key.data.toList) ++ ([61] : List UInt8))) := St.lit HS3.out ownw3 groww3 rfl rfl; have c0w3 := HS4.out.2.2.2.cell0; have c1w3 := HS4.out.2.2.2.cell1; clear ownw3 groww3) | (go_at_call 27; refine (value_any w.heap.size v3 (L ++ ([44] : List UInt8) ++ key.data.toList ++ ([61] : List UInt8)) val _ HS4.out.2.2.1 HLb hsv HS4.out.1).mono ?_; rintro e w4 ⟨v4, rfl, hO4, hB4⟩; have HO4 : Hid (Out w.heap.size w4 v4 LL ∧ Below w.heap.size w w4) := ⟨by rw [← HLL.out]; exact hO4, HS4.out.2.1.trans hB4⟩; clear hO4 hB4; obtain ⟨g4, cap4, hv4, hcap4⟩ := HO4.out.1.some_form HLpos.out; subst hv4; have hconv4 : (convert 30 9 (.slice (some ⟨g4, 0, none⟩) L.length cap4)).run Try.prog w4 = .ok (.string ⟨L.toArray⟩) w4 := HO4.out.1.conv_take HLt.out))
            all_goals first
              | (have hgt : (8192 : Int) < (LL.length : Int) := by assumption
                 go_ret
                 exact ⟨ret_str (by rw [← hrel.out]; exact (hdr_long I k hki L LL mm (by rw [← HKV.out.1]; exact HT.out) H180.out HLa.out (by omega)).symm), HO4.out.2⟩)
              | (have hle : (LL.length : Int) ≤ 8192 := by assumption
                 go_roundw
                 case rel => exact ⟨k + 1, mm + 1, LL, _, _, by omega, by omega, by go_num, by go_num, rfl, by omega, ⟨HO4.out.1, HO4.out.2, HO4.out.2.size⟩, by unfold Hid; rw [← hdr_next I k hki L LL mm (by rw [← HKV.out.1]; exact HT.out) H180.out HLa.out (by omega)]; exact hrel.out⟩
                 case measure => simp [intOf]; omega)
          · have hm0i : (mm : Int) ≤ 0 := by omega
            have HLL : Hid (L ++ key.data.toList ++ [61] ++ Law.enc val.data.toList = LL) := by unfold Hid; rw [← HLa.out, if_neg hm0]; simp [Law.mem, bytesI, HKV.out.1, HKV.out.2]
            have HLt : Hid (∃ T, LL = L ++ T) := ⟨key.data.toList ++ [61] ++ Law.enc val.data.toList, by rw [← HLL.out]; simp only [List.append_assoc]⟩
            have HLen : Hid (L.length ≤ LL.length) := by obtain ⟨T, hT⟩ := HLt.out; unfold Hid; rw [hT]; simp
            have HLpos : Hid (0 < LL.length) := by unfold Hid; rw [← HLL.out]; simp; omega
            have HLb : Hid ((L ++ key.data.toList ++ [61]).length ≤ 1099512676353) := by unfold Hid; simp only [List.length_append, List.length_cons, List.length_nil, ← HZK.out]; omega
            have HL2 : Hid ((L ++ key.data.toList).length ≤ 1056769) := by unfold Hid; simp only [List.length_append, ← HZK.out]; omega
            go_wp2_with (first | (go_at_call 26; refine (Hid.out H26 _).mono ?_; rintro e w' ⟨rfl, hw⟩; rw [hw]; clear hw) | (at_builtin; refine Lib.wpList_append_own_string _ rfl (.tmp 27) (.tmp 29) 30 9 rfl w.heap.size 5 i0 Try.underlying30 Try.underlying9 hi hz0 hz1 hz2 (.slice ao L.length cap) L.length (cellsL L) rfl HS1.out.1 key rfl (by have := hL; unfold maxLen; omega) (by have := hL; omega) HS1.out.2.2.1 ?_; intro v2 w2 ownw2 groww2 _; have HS3 : Hid (St w.heap.size w wr.heap.size key val w2 v2 (L ++ key.data.toList)) := St.str HS1.out ownw2 groww2; have c0w2 := HS3.out.2.2.2.cell0; have c1w2 := HS3.out.2.2.2.cell1; clear ownw2 groww2) | (at_builtin; refine wpList_append_own _ rfl (.tmp 31) (.tmp 32) 30 rfl w.heap.size 5 i0 (.int .u8 0) 1 1 Try.underlying30 hi hz0 hz1 hz2 rfl (by decide) v2 (L ++ key.data.toList).length (cellsL (L ++ key.data.toList)) rfl (World.ownsRow.alloc HS3.out.1 _) ⟨w2.heap.size, 0, none⟩ 1 1 [.int .u8 61] rfl rfl (cell_one_new _ _ _) (one_one _) (by have := HL2.out; unfold maxLen; omega) (by have := HL2.out; omega) (Nat.le_trans HS3.out.2.2.1 (by simp)) ?_; intro v3 w3 ownw3 groww3 _; have HS4 : Hid (St w.heap.size w wr.heap.size key val w3 v3 ((L ++ key.data.toList) ++ [61])) := St.lit HS3.out ownw3 groww3 rfl rfl; have c0w3 := HS4.out.2.2.2.cell0; have c1w3 := HS4.out.2.2.2.cell1; clear ownw3 groww3) | (go_at_call 27; refine (value_any w.heap.size v3 (L ++ key.data.toList ++ [61]) val _ HS4.out.2.2.1 HLb hsv HS4.out.1).mono ?_; rintro e w4 ⟨v4, rfl, hO4, hB4⟩; have HO4 : Hid (Out w.heap.size w4 v4 LL ∧ Below w.heap.size w w4) := ⟨by rw [← HLL.out]; exact hO4, HS4.out.2.1.trans hB4⟩; clear hO4 hB4; obtain ⟨g4, cap4, hv4, hcap4⟩ := HO4.out.1.some_form HLpos.out; subst hv4; have hconv4 : (convert 30 9 (.slice (some ⟨g4, 0, none⟩) L.length cap4)).run Try.prog w4 = .ok (.string ⟨L.toArray⟩) w4 := HO4.out.1.conv_take HLt.out))
            all_goals first
              | (have hgt : (8192 : Int) < (LL.length : Int) := by assumption
                 go_ret
                 exact ⟨ret_str (by rw [← hrel.out]; exact (hdr_long I k hki L LL mm (by rw [← HKV.out.1]; exact HT.out) H180.out HLa.out (by omega)).symm), HO4.out.2⟩)
              | (have hle : (LL.length : Int) ≤ 8192 := by assumption
                 go_roundw
                 case rel => exact ⟨k + 1, mm + 1, LL, _, _, by omega, by omega, by go_num, by go_num, rfl, by omega, ⟨HO4.out.1, HO4.out.2, HO4.out.2.size⟩, by unfold Hid; rw [← hdr_next I k hki L LL mm (by rw [← HKV.out.1]; exact HT.out) H180.out HLa.out (by omega)]; exact hrel.out⟩
                 case measure => simp [intOf]; omega)
    · have hconv := Out.conv_full hS.out.1
      have HF : Hid (R = L) := by unfold Hid; rw [← hrel.out, List.drop_eq_nil_of_le (by simp [HN.out]; omega)]; rfl
      go_wp2
      go_ret
      exact ⟨ret_str (by rw [HF.out]), hS.out.2.1⟩
end Go.Proofs.Qxb6602299a.Walks
