/-
  THE WALKS of seat b6602299a: appendBaggageValue.
-/
import Derived.Test.Qxb6602299aAppend
import Derived.Deep.RegionLaw
import Derived.Laws.BitsLemmas
namespace Go.Proofs.Qxb6602299a.Walks
open Go.RowKit
open Go.Proofs.Qxb6602299a
set_option linter.unusedVariables false

/-- append onto an owned row, as one step of a region that draws its order -/
theorem step_append_own {P : Program} {ops : Array Oper} {o : Oper} {a : Act} {w : World} {K : Act → World → Prop} {Q : Exit → Act → World → Prop} {E : Prop}
    (hg : o.guard = none) (s x : Operand) (t : TypeId) (hop : o.op = Op.call { callee := Callee.builtin Builtin.append, args := #[s, x], argTypes := #[t, t] })
    (base : Nat) (e : TypeId) (i : TypeInfo) (z : Value) (size bytes : Nat) (ht : P.underlying t = some (.slice e)) (hi : P.info? e = some i) (hz : i.zero = some z)
    (hsize : i.size = size) (hby : i.bytes = bytes) (hzs : z.cells.size = size) (hsz : 0 < size)
    (v : Value) (n : Nat) (xs : List Value) (hs : a.eval s = v) (hown : w.ownsRow base e size v n xs)
    (ad : Addr) (m c : Nat) (news : List Value) (hx : a.eval x = .slice (some ad) m c) (hl : news.length = m * size) (hnews : ∀ j u, news[j]? = some u → w.cell? (ad.add j) = some u) (h1 : ∀ u ∈ news, u.oneCell' = true)
    (h63 : n + m ≤ maxLen) (hbytes : (n + m) * bytes ≤ 140737488355328) (hbase : base ≤ w.heap.size)
    (hK : ∀ v' w', w'.ownsRow base e size v' (n + m) (xs ++ news) → w.grownBy w' v.ownBlock → K (a.put o.dst v') w') :
    if Region.wanted o (yielded ops a.tmps) = true then Oper.wp P o a w K Q else E := by
  have hw : Region.wanted o (yielded ops a.tmps) = true := by simp [Region.wanted, hg]
  rw [if_pos hw]
  obtain ⟨v', w', hrun, r1, r2, _⟩ := run_append_own (P := P) w base t o.type e i z size bytes ht hi hz hsize hby hzs hsz v n xs hown ad m c news hl hnews h1 h63 hbytes hbase
  unfold Oper.wp
  simp [execOp, hop, resolve, invoke, builtin, hs, hx, hrun, Result.andThen]
  exact hK v' w' r1 r2

theorem out_step_drew {B : Nat} {w w1 w2 : World} {v v2 : Value} {L M : List UInt8} {o : Obj} {m : Nat} {news : List Value} (hb : Below B w w1) (h1 : B ≤ w1.heap.size) (h : Out B w1 v L)
    (own2 : w2.ownsRow B 5 1 v2 (L.length + m) (cellsL L ++ news)) (hg : (w1.alloc o).drew.grownBy w2 v.ownBlock) (hn : news = cellsL M) (hm : m = M.length) : Out B w2 v2 (L ++ M) ∧ Below B w w2 ∧ B ≤ w2.heap.size :=
  ⟨Out.app own2 hn hm, below_grown (hb.alloc h1 o).drew (by simp; omega) (World.ownsRow.drew (World.ownsRow.alloc h o)) hg⟩

/-- the sixteen hex digits, indexed -/
theorem hex_at (n : Nat) (h : n < 16) (h' : n < (⟨#[48, 49, 50, 51, 52, 53, 54, 55, 56, 57, 65, 66, 67, 68, 69, 70]⟩ : ByteArray).size) : ((⟨#[48, 49, 50, 51, 52, 53, 54, 55, 56, 57, 65, 66, 67, 68, 69, 70]⟩ : ByteArray)[n]'h').toNat = Law.hex n := by
  have : n = 0 ∨ n = 1 ∨ n = 2 ∨ n = 3 ∨ n = 4 ∨ n = 5 ∨ n = 6 ∨ n = 7 ∨ n = 8 ∨ n = 9 ∨ n = 10 ∨ n = 11 ∨ n = 12 ∨ n = 13 ∨ n = 14 ∨ n = 15 := by omega
  rcases this with rfl | rfl | rfl | rfl | rfl | rfl | rfl | rfl | rfl | rfl | rfl | rfl | rfl | rfl | rfl | rfl <;> rfl
theorem index_hex (n : Nat) (h : n < 16) (w : World) : (Instr.index 9 (.string ⟨#[48, 49, 50, 51, 52, 53, 54, 55, 56, 57, 65, 66, 67, 68, 69, 70]⟩) (.int .u8 (n : Int))).run Try.prog w = .ok (.int .u8 (Law.hex n : Nat)) w := by
  have hs : (⟨#[48, 49, 50, 51, 52, 53, 54, 55, 56, 57, 65, 66, 67, 68, 69, 70]⟩ : ByteArray).size = 16 := rfl
  rw [run_index_string w 9 _ .u8 _ Try.underlying9, dif_pos (by rw [hs]; omega)]
  have := hex_at n h (by rw [hs]; exact h)
  simp only [Int.toNat_natCast, this]
theorem and15 (n : Nat) (h : n < 256) : bits .and .u8 (n : Int) 15 = (n : Int) % 16 := bits_mask .u8 8 (by decide) wraps_u8 4 (by decide) (n : Int) (by omega) (by omega)

set_option maxHeartbeats 2000000 in
/-- spanweave.appendBaggageValue -/
theorem value_any (B : Nat) (v : Value) (M : List UInt8) (val : ByteArray) (w : World) (hB : B ≤ w.heap.size) (hL : Hid (M.length ≤ 1099512676353)) (hv : val.size ≤ 1048576) (hown : Hid (Out B w v M)) :
    Calls Try.prog 27 #[v, .string val] w fun e w' => ∃ v', e = .returned v' ∧ Out B w' v' (M ++ Law.enc val.data.toList) ∧ Below B w w' := by
  obtain ⟨i0, hi, hz0, hz1, hz2⟩ := info_parts info5
  have HO : Hid (Out B w v M ∧ Below B w w ∧ B ≤ w.heap.size) := ⟨hown.out, Below.refl _ _, hB⟩
  go_enter Try.func27, Try.ntmps27
  go_wp2
  go_loopw [0, 5] (fun d i wr => ∃ k : Nat, k ≤ val.size ∧ i = .int .i64 k ∧ Hid (Out B wr d (M ++ Law.enc (val.data.toList.take k)) ∧ Below B w wr ∧ B ≤ wr.heap.size)) (fun _ i _ => val.size - (intOf i).toNat)
  case atStart => exact ⟨0, Nat.zero_le _, rfl, by have := HO.out; simpa [Hid, Law.enc] using this⟩
  case round =>
    obtain ⟨k, hk7, rfl, hrel⟩ := hrel
    by_cases hlt : k < val.size
    · have Hs : Hid (Law.enc (val.data.toList.take (k + 1)) = Law.enc (val.data.toList.take k) ++ Law.encB val[k]) := enc_take val k hlt
      have hb : val[k].toNat < 256 := val[k].toNat_lt
      have HLm : Hid ((M ++ Law.enc (val.data.toList.take k)).length ≤ 1099515822081) := by
        unfold Hid
        rw [List.length_append]
        have h1 := enc_len (val.data.toList.take k)
        have h2 : (val.data.toList.take k).length ≤ k := List.length_take_le _ _
        have h3 := hL.out
        omega
      cases hT : Law.pln val[k].toNat with
      | true =>
        have HE : Hid (Law.encB val[k] = [val[k]]) := by unfold Hid Law.encB; rw [hT]; rfl
        have h37 : ¬ val[k].toNat = 37 := by intro e; rw [e] at hT; cases hT
        have b37 : ((val[k].toNat : Int) != 37) = true := by rw [bne_iff_ne]; omega
        have H31 : Hid (∀ w, Calls Try.prog 31 #[.int .u8 (val[k].toNat : Int)] w fun e w' => e = .returned (.bool true) ∧ w' = w) := fun w => hT ▸ octet_any _ hb h37 w
        clear hT h37
        go_wp2_with (first | (go_at_call 31; refine (Hid.out H31 _).mono ?_; rintro e w' ⟨rfl, hw⟩; have hw2 := hw.symm; subst hw2) | (at_builtin; refine wpList_append_own _ rfl (.tmp 22) (.tmp 24) 30 rfl B 5 i0 (.int .u8 0) 1 1 Try.underlying30 hi hz0 hz1 hz2 rfl (by decide) _ (M ++ Law.enc (val.data.toList.take k)).length (cellsL (M ++ Law.enc (val.data.toList.take k))) rfl (World.ownsRow.alloc hrel.out.1 _) ⟨wr.heap.size, 0, none⟩ 1 1 [.int .u8 (val[k].toNat : Int)] rfl rfl (cell_one_new _ _ _) (by intro u hu; simp at hu; subst hu; rfl) (by have := HLm.out; unfold maxLen; omega) (by have := HLm.out; omega) (by have := hrel.out.2.2; simp; omega) ?_; intro v3 w3 own3 grow3 _; have hO3 : Hid (Out B w3 v3 (M ++ Law.enc (val.data.toList.take k) ++ [val[k]]) ∧ Below B w w3 ∧ B ≤ w3.heap.size) := out_step hrel.out.2.1 hrel.out.2.2 hrel.out.1 own3 grow3 rfl rfl; clear own3 grow3))
        go_roundw
        case rel => exact ⟨k + 1, by omega, by go_num, by unfold Hid; rw [Hs.out, HE.out, ← List.append_assoc]; exact hO3.out⟩
        case measure => simp [intOf]; omega
      | false =>
        have HE : Hid (Law.encB val[k] = [37, UInt8.ofNat (Law.hex (val[k].toNat / 16)), UInt8.ofNat (Law.hex (val[k].toNat % 16))]) := by unfold Hid Law.encB; rw [hT]; rfl
        have ha := hex_lt (val[k].toNat / 16) (by omega)
        have hb2 := hex_lt (val[k].toNat % 16) (by omega)
        have hI1 : ∀ w, (Instr.index 9 (.string ⟨#[48, 49, 50, 51, 52, 53, 54, 55, 56, 57, 65, 66, 67, 68, 69, 70]⟩) (.int .u8 ((val[k].toNat : Int) / 16))).run Try.prog w = .ok (.int .u8 (Law.hex (val[k].toNat / 16) : Nat)) w := fun w => index_hex (val[k].toNat / 16) (by omega) w
        have hI2 : ∀ w, (Instr.index 9 (.string ⟨#[48, 49, 50, 51, 52, 53, 54, 55, 56, 57, 65, 66, 67, 68, 69, 70]⟩) (.int .u8 ((val[k].toNat : Int) % 16))).run Try.prog w = .ok (.int .u8 (Law.hex (val[k].toNat % 16) : Nat)) w := fun w => index_hex (val[k].toNat % 16) (by omega) w
        generalize Law.hex (val[k].toNat / 16) = x1 at hI1 HE ha
        generalize Law.hex (val[k].toNat % 16) = x2 at hI2 HE hb2
        have hbit : bits .and .u8 (val[k].toNat : Int) 15 = (val[k].toNat : Int) % 16 := and15 _ hb
        by_cases h37 : val[k].toNat = 37
        · have b37 : ((val[k].toNat : Int) != 37) = false := by rw [bne_eq_false_iff_eq]; omega
          clear hT h37
          go_wp2
          go_region_law (refine step_append_own rfl (.tmp 26) (.tmp 33) 30 rfl B 5 i0 (.int .u8 0) 1 1 Try.underlying30 hi hz0 hz1 hz2 rfl (by decide) _ (M ++ Law.enc (val.data.toList.take k)).length (cellsL (M ++ Law.enc (val.data.toList.take k))) rfl (World.ownsRow.drew (World.ownsRow.alloc hrel.out.1 _)) ⟨wr.heap.size, 0, none⟩ 3 3 [.int .u8 37, .int .u8 (x1 : Int), .int .u8 (x2 : Int)] rfl rfl (cell_list_new wr [.int .u8 37, .int .u8 (x1 : Int), .int .u8 (x2 : Int)] 5) (three_one _ _ _) (by have := HLm.out; unfold maxLen; omega) (by have := HLm.out; omega) (by have := hrel.out.2.2; simp; omega) ?_; intro v3 w3 own3 grow3; have hO3 : Hid (Out B w3 v3 (M ++ Law.enc (val.data.toList.take k) ++ [37, UInt8.ofNat x1, UInt8.ofNat x2]) ∧ Below B w w3 ∧ B ≤ w3.heap.size) := out_step_drew hrel.out.2.1 hrel.out.2.2 hrel.out.1 own3 grow3 (three_cells ha hb2) rfl; clear own3 grow3)
          all_goals
            go_wp2
            go_roundw
            case rel => exact ⟨k + 1, by omega, by go_num, by unfold Hid; rw [Hs.out, HE.out, ← List.append_assoc]; exact hO3.out⟩
            case measure => simp [intOf]; omega
        · have b37 : ((val[k].toNat : Int) != 37) = true := by rw [bne_iff_ne]; omega
          have H31 : Hid (∀ w, Calls Try.prog 31 #[.int .u8 (val[k].toNat : Int)] w fun e w' => e = .returned (.bool false) ∧ w' = w) := fun w => hT ▸ octet_any _ hb h37 w
          clear hT h37
          go_wp2_with (go_at_call 31; refine (Hid.out H31 _).mono ?_; rintro e w' ⟨rfl, hw⟩; have hw2 := hw.symm; subst hw2)
          go_region_law (refine step_append_own rfl (.tmp 26) (.tmp 33) 30 rfl B 5 i0 (.int .u8 0) 1 1 Try.underlying30 hi hz0 hz1 hz2 rfl (by decide) _ (M ++ Law.enc (val.data.toList.take k)).length (cellsL (M ++ Law.enc (val.data.toList.take k))) rfl (World.ownsRow.drew (World.ownsRow.alloc hrel.out.1 _)) ⟨wr.heap.size, 0, none⟩ 3 3 [.int .u8 37, .int .u8 (x1 : Int), .int .u8 (x2 : Int)] rfl rfl (cell_list_new wr [.int .u8 37, .int .u8 (x1 : Int), .int .u8 (x2 : Int)] 5) (three_one _ _ _) (by have := HLm.out; unfold maxLen; omega) (by have := HLm.out; omega) (by have := hrel.out.2.2; simp; omega) ?_; intro v3 w3 own3 grow3; have hO3 : Hid (Out B w3 v3 (M ++ Law.enc (val.data.toList.take k) ++ [37, UInt8.ofNat x1, UInt8.ofNat x2]) ∧ Below B w w3 ∧ B ≤ w3.heap.size) := out_step_drew hrel.out.2.1 hrel.out.2.2 hrel.out.1 own3 grow3 (three_cells ha hb2) rfl; clear own3 grow3)
          all_goals
            go_wp2
            go_roundw
            case rel => exact ⟨k + 1, by omega, by go_num, by unfold Hid; rw [Hs.out, HE.out, ← List.append_assoc]; exact hO3.out⟩
            case measure => simp [intOf]; omega
    · go_wp2
      go_ret
      refine ⟨_, rfl, ?_, hrel.out.2.1⟩
      have h1 := hrel.out.1
      rw [List.take_of_length_le (by rw [← Lib.size_eq]; omega)] at h1
      exact h1
end Go.Proofs.Qxb6602299a.Walks
