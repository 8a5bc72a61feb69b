/-
  THE WALK of seat b6602299a: the law itself.
-/
import Derived.Test.Qxb6602299aKept
import Derived.Deep.RegionHeld
namespace Go.Proofs.Qxb6602299a.Walks
open Go.RowKit
open Go.Proofs.Qxb6602299a
set_option linter.unusedVariables false

/-- the keep row holds the places ks -/
def KeepAt (w : World) (gk n : Nat) (ks : List Nat) : Prop := w.ownsRow gk 3 1 (.slice (some ⟨gk, 0, none⟩) ks.length n) ks.length (ks.map fun (i : Nat) => Value.int .i64 (i : Int))

theorem Items.below {w w' : World} {g B : Nat} {I : List (ByteArray × ByteArray)} (h : Items w g I) (hg : g < B) (hb : Below B w w') : Items w' g I := fun i hi =>
  ⟨(hb.cell hg).trans (h i hi).1, (hb.cell hg).trans (h i hi).2⟩

theorem one_oneI (a : Int) : ∀ u ∈ [Value.int .i64 a], u.oneCell' = true := by
  intro u hu
  simp at hu
  subst hu
  rfl
theorem keep_step {w2 wr w4 : World} {gk n k : Nat} {ks ks' : List Nat} {o : Obj} (hk : ks' = ks ++ [k]) (h : KeepAt wr gk n ks ∧ Below gk w2 wr ∧ gk < wr.heap.size)
    (own4 : w4.ownsRow gk 3 1 (.slice (some ⟨gk, 0, none⟩) (ks.length + 1) n) (ks.length + 1) ((ks.map fun (i : Nat) => Value.int .i64 (i : Int)) ++ [.int .i64 (k : Int)])) (grow4 : (wr.alloc o).grownBy w4 (some gk)) :
    KeepAt w4 gk n ks' ∧ Below gk w2 w4 ∧ gk < w4.heap.size := by
  subst hk
  refine ⟨?_, (h.2.1.alloc (Nat.le_of_lt h.2.2) o).grown grow4 (by simp; have := h.2.2; omega) (fun k hk => by cases hk; exact Nat.le_refl _), owned_lt own4⟩
  unfold KeepAt
  rw [List.length_append, List.map_append]
  exact own4

/-- what is known of the kept items -/
theorem kept_facts {I : List (ByteArray × ByteArray)} {ks : List Nat} (h : KI I I.length = ks) :
    (Law.keep (I.map bytesI)).length = ks.length ∧ ∀ j (hj : j < ks.length), (Law.keep (I.map bytesI)).getD j ([], []) = bytesI (itemAt I ks[j]) ∧ ks[j] < I.length := by
  subst h
  exact ⟨keep_len I, fun j hj => ⟨keep_at I j hj, KI_lt I _ j hj⟩⟩

/-- the row of running sums, filled up to j -/
def PreAt (w : World) (gp m : Nat) (K : List (List UInt8 × List UInt8)) (j : Nat) : Prop :=
  ∃ ys, w.ownsRow gp 3 1 (.slice (some ⟨gp, 0, none⟩) (m + 1) (m + 1)) (m + 1) ys ∧ ys.length = m + 1 ∧ ∀ t, t ≤ j → t ≤ m → ys[t]? = some (.int .i64 (Law.pre K t : Nat))

theorem pre_start {w : World} {gp m : Nat} {K : List (List UInt8 × List UInt8)} (h : w.ownsRow gp 3 1 (.slice (some ⟨gp, 0, none⟩) (m + 1) (m + 1)) (m + 1) (madeCells (Value.int .i64 0).cells ((m + 1) * 1)).toList) : PreAt w gp m K 0 := by
  refine ⟨_, h, by simp [madeCells], fun t ht _ => ?_⟩
  have : t = 0 := by omega
  subst this
  simp [madeCells, Law.pre, Value.cells]
theorem PreAt.cell {w : World} {gp m : Nat} {K : List (List UInt8 × List UInt8)} {j : Nat} (h : PreAt w gp m K j) (t : Nat) (ht : t ≤ j) (hm : t ≤ m) : w.cell? ⟨gp, t, none⟩ = some (.int .i64 (Law.pre K t : Nat)) := by
  obtain ⟨ys, h1, h2, h3⟩ := h
  rw [h1.cellAt t (by omega)]
  exact h3 t ht hm
theorem PreAt.there {w : World} {gp m : Nat} {K : List (List UInt8 × List UInt8)} {j : Nat} (h : PreAt w gp m K j) (t : Nat) (hm : t ≤ m) : ∃ u, w.cell? ⟨gp, t, none⟩ = some u := by
  obtain ⟨ys, h1, h2, h3⟩ := h
  rw [h1.cellAt t (by omega), List.getElem?_eq_getElem (by omega)]
  exact ⟨_, rfl⟩
theorem PreAt.frozen {w : World} {gp m : Nat} {K : List (List UInt8 × List UInt8)} {j : Nat} (h : PreAt w gp m K j) (t : Nat) : w.frozen? ⟨gp, t, none⟩ = false := by
  obtain ⟨ys, h1, h2, h3⟩ := h
  exact h1.frozenAt t
theorem PreAt.store {w : World} {gp m : Nat} {K : List (List UInt8 × List UInt8)} {j : Nat} (h : PreAt w gp m K j) (hj : j < m) : PreAt (w.setCell ⟨gp, j + 1, none⟩ (.int .i64 (Law.pre K (j + 1) : Nat))) gp m K (j + 1) := by
  obtain ⟨ys, h1, h2, h3⟩ := h
  refine ⟨_, (h1.stored (j + 1) _).1, by rw [List.length_set]; exact h2, fun t ht hm => ?_⟩
  rw [List.getElem?_set]
  split
  · rename_i e; subst e; rw [if_pos (by omega)]
  · exact h3 t (by omega) hm
theorem PreAt.alloc {w : World} {gp m : Nat} {K : List (List UInt8 × List UInt8)} {j : Nat} (h : PreAt w gp m K j) (o : Obj) : PreAt (w.alloc o) gp m K j := by
  obtain ⟨ys, h1, h2, h3⟩ := h
  exact ⟨ys, World.ownsRow.alloc h1 o, h2, h3⟩
theorem PreAt.drew {w : World} {gp m : Nat} {K : List (List UInt8 × List UInt8)} {j : Nat} (h : PreAt w gp m K j) : PreAt w.drew gp m K j := h

theorem keep_cell {w2 wk wr : World} {n gp : Nat} {ks : List Nat} {Q : Prop} (hK : KeepAt wk w2.heap.size n ks ∧ Below w2.heap.size w2 wk ∧ w2.heap.size < wk.heap.size) (hP : Q ∧ Below wk.heap.size wk wr ∧ gp < wr.heap.size) {j : Nat} (hj : j < ks.length) :
    wr.cell? ⟨w2.heap.size, j, none⟩ = some (.int .i64 (ks[j] : Nat)) := by
  rw [hP.2.1.cell hK.2.2, World.ownsRow.cellAt hK.1 j (by omega), List.getElem?_map, List.getElem?_eq_getElem hj]
  rfl

theorem pre_bound {I : List (ByteArray × ByteArray)} {n : Nat} {ks : List Nat} {K : List (List UInt8 × List UInt8)} (hx : I.length = n) (hs : Small I n) (hK : K.length = ks.length ∧ ∀ j (hj : j < ks.length), K.getD j ([], []) = bytesI (itemAt I ks[j]) ∧ ks[j] < I.length) (j : Nat) (hj : j ≤ ks.length) : Law.pre K j ≤ j * 4194305 := by
  refine pre_le K 4194305 (fun t ht => ?_) j (by rw [hK.1]; exact hj)
  rw [hK.1] at ht
  obtain ⟨h1, h2⟩ := hK.2 t ht
  rw [h1]
  have h3 := hs ks[t] h2 (by omega)
  rw [← itemAt_eq I _ h2] at h3
  have h4 := mem_len (itemAt I ks[t]).1 (itemAt I ks[t]).2
  have h5 := enc_len (itemAt I ks[t]).2.data.toList
  rw [← Lib.size_eq] at h5
  show (Law.mem ((itemAt I ks[t]).1.data.toList, (itemAt I ks[t]).2.data.toList)).length ≤ _
  omega

theorem BoxNew (w : World) (key val : ByteArray) : (w.alloc (.cells #[.string key, .string val] 28)).drew.cell? ⟨w.heap.size, 0, none⟩ = some (.string key) ∧ (w.alloc (.cells #[.string key, .string val] 28)).drew.cell? ⟨w.heap.size, 1, none⟩ = some (.string val) := by
  constructor
  · show (w.alloc (.cells #[.string key, .string val] 28)).cell? ⟨w.heap.size, 0, none⟩ = _
    rw [World.cell?_alloc_at (hn := rfl)]; rfl
  · show (w.alloc (.cells #[.string key, .string val] 28)).cell? ⟨w.heap.size, 1, none⟩ = _
    rw [World.cell?_alloc_at (hn := rfl)]; rfl
theorem held_after {wr : World} {gp j : Nat} {v pv : Value} {key val : ByteArray} (h : wr.cell? ⟨gp, j, none⟩ = some pv) (hg : gp < wr.heap.size) :
    ((wr.setCell ⟨gp, j + 1, none⟩ v).alloc (.cells #[.string key, .string val] 28)).drew.cell? ⟨gp, j, none⟩ = some pv ∧
    ((wr.setCell ⟨gp, j + 1, none⟩ v).alloc (.cells #[.string key, .string val] 28)).drew.cell? ⟨wr.heap.size, 0, none⟩ = some (.string key) ∧
    ((wr.setCell ⟨gp, j + 1, none⟩ v).alloc (.cells #[.string key, .string val] 28)).drew.cell? ⟨wr.heap.size, 1, none⟩ = some (.string val) := by
  have hsz : (wr.setCell ⟨gp, j + 1, none⟩ v).heap.size = wr.heap.size := by simp [World.setCell]
  have hb := BoxNew (wr.setCell ⟨gp, j + 1, none⟩ v) key val
  rw [hsz] at hb
  refine ⟨?_, hb.1, hb.2⟩
  have h1 : ((wr.setCell ⟨gp, j + 1, none⟩ v).alloc (.cells #[.string key, .string val] 28)).cell? ⟨gp, j, none⟩ = (wr.setCell ⟨gp, j + 1, none⟩ v).cell? ⟨gp, j, none⟩ :=
    World.cell?_of_block (Below.heap_alloc _ _ _ (by rw [hsz]; exact hg))
  refine Eq.trans h1 ?_
  rw [← h]
  apply World.cell?_setCell_other
  simp

theorem pre_next {wk wr : World} {gp m j pj key el : Nat} {K : List (List UInt8 × List UInt8)} {o : Obj} (hM : Law.pre K (j + 1) = pj + (key + 1 + el)) (hp : Law.pre K j = pj) (hj : j < m) (h : PreAt wr gp m K j ∧ Below gp wk wr ∧ gp < wr.heap.size) :
    PreAt (((wr.setCell ⟨gp, j + 1, none⟩ (.int .i64 ((pj : Int) + key + 1 + el))).alloc o).drew) gp m K (j + 1) ∧ Below gp wk (((wr.setCell ⟨gp, j + 1, none⟩ (.int .i64 ((pj : Int) + key + 1 + el))).alloc o).drew) ∧ gp < (((wr.setCell ⟨gp, j + 1, none⟩ (.int .i64 ((pj : Int) + key + 1 + el))).alloc o).drew).heap.size := by
  have e : ((pj : Int) + key + 1 + el) = ((Law.pre K (j + 1) : Nat) : Int) := by rw [hM]; omega
  rw [e]
  have hsz : (wr.setCell ⟨gp, j + 1, none⟩ (.int .i64 (Law.pre K (j + 1) : Nat))).heap.size = wr.heap.size := by simp [World.setCell]
  refine ⟨((h.1.store hj).alloc o).drew, ((h.2.1.setCell (Nat.le_refl _) _).alloc (by rw [hsz]; have := h.2.2; omega) o).drew, ?_⟩
  show gp < ((wr.setCell ⟨gp, j + 1, none⟩ (.int .i64 (Law.pre K (j + 1) : Nat))).alloc o).heap.size
  have : ((wr.setCell ⟨gp, j + 1, none⟩ (.int .i64 (Law.pre K (j + 1) : Nat))).alloc o).heap.size = wr.heap.size + 1 := by simp [World.setCell]
  have := h.2.2
  omega

theorem down_step (K : List (List UInt8 × List UInt8)) (kk : Nat) : (0 < kk ∧ 8192 < Law.pre K kk + (kk - 1) → Law.down K kk = Law.down K (kk - 1)) ∧ (¬ (0 < kk ∧ 8192 < Law.pre K kk + (kk - 1)) → Law.down K kk = kk) := by
  cases kk with
  | zero => exact ⟨fun h => absurd h.1 (by omega), fun _ => rfl⟩
  | succ t =>
    simp only [Nat.add_sub_cancel]
    constructor
    · intro h; rw [Law.down, if_pos h.2]
    · intro h; rw [Law.down, if_neg (fun h2 => h ⟨Nat.succ_pos t, h2⟩)]

theorem join_fits {K : List (List UInt8 × List UInt8)} {m kk : Nat} (h : Law.down K m = kk) : ∀ t, t ≤ kk → (Law.join K t).length ≤ 8192 := by
  intro t ht
  have h1 := Law.down_fits K m
  rw [h] at h1
  have h2 := Law.join_mono K t (kk - t)
  rw [show t + (kk - t) = kk from by omega] at h2
  omega

theorem member_next {B : Nat} {wp w6 w7 : World} {o : Obj} {v7 : Value} {L M N : List UInt8} (hN : N = L ++ M) (h6 : Below B wp w6 ∧ B ≤ w6.heap.size) (hO : Out B w7 v7 (L ++ M)) (hB : Below B (w6.alloc o) w7) : Out B w7 v7 N ∧ Below B wp w7 ∧ B ≤ w7.heap.size := by
  rw [hN]
  refine ⟨hO, (h6.1.alloc h6.2 o).trans hB, ?_⟩
  have := hB.size
  simp at this
  have := h6.2
  omega

theorem copy_drew {b off n c : Nat} {I : List (ByteArray × ByteArray)} {w : World} (q : Nat) (hx : I.length = n) (hn2 : n ≤ 65536) (hc : Hid (ItemsAt w b off I)) :
    Calls Try.prog 10 #[.slice (some ⟨b, off, none⟩) n c] (w.drewN q) fun e w' => e = .returned (.slice (some ⟨w.heap.size, 0, none⟩) n n) ∧ Items w' w.heap.size I ∧ Below w.heap.size w w' ∧ w.heap.size < w'.heap.size :=
  (copy_some b off n c I (w.drewN q) hx hn2 hc).mono fun e w' ⟨he, h1, h2, h3⟩ => ⟨he, h1, ⟨h2.os, h2.tape, h2.output, h2.size, h2.block⟩, h3⟩

set_option maxHeartbeats 8000000 in
theorem main_some (b off n c : Nat) (I : List (ByteArray × ByteArray)) (w : World) (hx : I.length = n) (hn : n ≤ 9223372036854775807) (hp : 0 < n) (hm : Hid (∀ i (h : i < I.length), I[i].1.size ≤ 9223372036854775807 ∧ I[i].2.size ≤ 9223372036854775807)) (hc : Hid (ItemsAt w b off I)) :
    Calls Try.prog 3 #[.slice (some ⟨b, off, none⟩) n c] w fun e w' => e = .returned (.bool true) ∧ Below w.heap.size w w' := by
  obtain ⟨i3, hi, hz0, hz1, hz2⟩ := info_parts info3
  obtain ⟨i5, hi5, hy0, hy1, hy2⟩ := info_parts info5
  have HX : Hid (I.length = n) := hx
  clear hx
  go_enter Try.func3, Try.ntmps3
  go_wp2_with fail
  refine (bytes_some b off n c I _ HX.out hn hm hc).mono ?_
  rintro e w' ⟨⟨r, rfl, hr⟩, hw⟩
  have hw2 := hw.symm
  subst hw2
  cases r with
  | false =>
    go_wp2
    go_ret
    exact ⟨rfl, Below.refl _ _⟩
  | true =>
    have HSm : Hid (Small I n) := hr rfl
    clear hr
    by_cases hbig : (65536 : Int) < (n : Int)
    · go_wp2
      go_ret
      exact ⟨rfl, Below.refl _ _⟩
    · have hn2 : (n : Int) ≤ 65536 := by omega
      clear hbig
      go_wp2_with fail
      refine (fit_some b off n c I _ HX.out (by omega) HSm.out hc).mono ?_
      rintro e w' ⟨⟨r, rfl⟩, q, rfl⟩
      cases r with
      | false =>
        go_wp2
        go_ret
        exact ⟨rfl, ⟨rfl, rfl, rfl, Nat.le_refl _, fun _ _ => rfl⟩⟩
      | true =>
        go_wp2_with fail
        refine (copy_drew q HX.out (by omega) hc).mono ?_
        rintro e w1 ⟨rfl, hI1, hB1, hS1⟩
        have H1 : Hid (Items w1 w.heap.size I ∧ Below w.heap.size w w1 ∧ w.heap.size < w1.heap.size) := ⟨hI1, hB1, hS1⟩
        clear hI1 hB1 hS1
        go_wp2_with fail
        refine (zzheader_some w.heap.size n I _ HX.out (by omega) (fun i h => HSm.out i h (by rw [← HX.out]; exact h)) H1.out.1).mono ?_
        rintro e w2 ⟨rfl, hB2⟩
        have H2 : Hid (Items w2 w.heap.size I ∧ Below w.heap.size w w2 ∧ w.heap.size < w2.heap.size) := ⟨H1.out.1.below H1.out.2.2 hB2, H1.out.2.1.trans (hB2.mono (by have := H1.out.2.2; omega)), Nat.lt_of_lt_of_le H1.out.2.2 hB2.size⟩
        clear H1 hB2
        have HL : Hid (Law.hdr [] 0 (I.map bytesI) = Law.join (Law.keep (I.map bytesI)) (Law.down (Law.keep (I.map bytesI)) (min (Law.keep (I.map bytesI)).length 180))) := Law.hdr_model _
        generalize Law.hdr [] 0 (I.map bytesI) = R at HL
        go_wp2_with (at_make; refine wpList_make_own _ rfl _ _ 26 rfl w2.heap.size 3 i3 (.int .i64 0) 1 Try.underlying26 hi hz0 hz1 .i64 .i64 _ n rfl rfl rfl (by rw [hz2]; omega) (by unfold maxLen; omega) (Nat.le_refl _) ?_; intro w3 own3 grow3)
        have H3 : Hid (KeepAt w3 w2.heap.size n (KI I 0) ∧ Below w2.heap.size w2 w3 ∧ w2.heap.size < w3.heap.size) := ⟨own3, (Below.refl _ _).grown grow3 (Nat.le_refl _) (fun k h => by cases h), owned_lt own3⟩
        clear own3 grow3
        go_loopw [4, 5] (fun kv i wr => ∃ k : Nat, k ≤ n ∧ i = .int .i64 k ∧ kv = .slice (some ⟨w2.heap.size, 0, none⟩) (KI I k).length n ∧ Hid (KeepAt wr w2.heap.size n (KI I k) ∧ Below w2.heap.size w2 wr ∧ w2.heap.size < wr.heap.size)) (fun _ i _ => n - (intOf i).toNat)
        case atStart => exact ⟨0, Nat.zero_le _, rfl, rfl, H3.out⟩
        case round =>
          obtain ⟨k, hk, rfl, rfl, hrel⟩ := hrel
          by_cases hlt : k < n
          · have hki : k < I.length := by rw [HX.out]; exact hlt
            obtain ⟨key, hkey⟩ : ∃ key, key = (itemAt I k).1 := ⟨_, rfl⟩
            have hc0 : wr.cell? ⟨w.heap.size, k * 2, none⟩ = some (.string key) := by
              rw [hkey, itemAt_eq I k hki]
              exact ((H2.out.1.below H2.out.2.2 hrel.out.2.1) k hki).1
            have hks : key.size ≤ 1048576 := by rw [hkey, itemAt_eq I k hki]; exact (HSm.out k hki hlt).1
            have HKey : Hid (key = (itemAt I k).1) := hkey
            clear hkey
            have H12 : Hid (∀ w, Calls Try.prog 12 #[.string key] w fun e w' => e = .returned (.bool (Law.tok key.data.toList)) ∧ w' = w) := fun w => bagToken_any key w hks
            have hkl := KI_len I k
            have HKs : Hid (KI I (k + 1) = KI I k ++ if Law.tok (itemAt I k).1.data.toList = true then [k] else []) := KI_succ I k
            cases hT : Law.tok key.data.toList with
            | true =>
              rw [hT] at H12
              have HK1 : Hid (KI I (k + 1) = KI I k ++ [k]) := by unfold Hid; rw [HKs.out, if_pos (by rw [← HKey.out]; exact hT)]
              clear hT HKs
              go_wp2_with (first | (go_at_call 12; refine (Hid.out H12 _).mono ?_; rintro e w' ⟨rfl, hw⟩; have hw2 := hw.symm; subst hw2) | (at_builtin; refine wpList_append_fits _ rfl (.tmp 41) (.tmp 43) 26 rfl w2.heap.size 3 i3 1 Try.underlying26 hi hz1 w2.heap.size (KI I k).length n ((KI I k).map fun (i : Nat) => Value.int .i64 (i : Int)) rfl (World.ownsRow.alloc hrel.out.1 _) ⟨wr.heap.size, 0, none⟩ 1 1 [.int .i64 (k : Int)] rfl rfl (cell_one_new _ _ _) (one_oneI _) (by omega) ?_; intro w4 own4 grow4; have H4 : Hid (KeepAt w4 w2.heap.size n (KI I (k + 1)) ∧ Below w2.heap.size w2 w4 ∧ w2.heap.size < w4.heap.size) := keep_step HK1.out hrel.out own4 grow4; clear own4 grow4))
              go_roundw
              case rel => exact ⟨k + 1, by omega, by go_num, by rw [HK1.out]; simp, H4.out⟩
              case measure => simp [intOf]; omega
            | false =>
              rw [hT] at H12
              have HK1 : Hid (KI I (k + 1) = KI I k) := by unfold Hid; rw [HKs.out, if_neg (by rw [← HKey.out, hT]; simp), List.append_nil]
              clear hT HKs
              go_wp2_with (go_at_call 12; refine (Hid.out H12 _).mono ?_; rintro e w' ⟨rfl, hw⟩; have hw2 := hw.symm; subst hw2)
              go_roundw
              case rel => exact ⟨k + 1, by omega, by go_num, by rw [HK1.out], by rw [HK1.out]; exact hrel.out⟩
              case measure => simp [intOf]; omega
          · have HKn : Hid (k = n) := by unfold Hid; omega
            have hml := KI_len I k
            have HKS0 : Hid (KI I I.length = KI I k) := by unfold Hid; rw [HX.out, HKn.out]
            have hrelK := hrel
            clear hrel
            generalize hks : KI I k = ks at hrelK hml HKS0
            have HKS : Hid (KI I I.length = ks) := HKS0.out
            clear HKS0 hks
            have HKf := kept_facts (I := I) HKS.out
            have HKF : Hid _ := HKf
            clear HKf
            generalize hK : Law.keep (I.map bytesI) = K at HKF HL
            clear hK
            have hmn : ks.length ≤ n := by omega
            go_wp2_with (at_make; refine wpList_make_full _ rfl _ _ 26 rfl wr.heap.size 3 i3 (.int .i64 0) 1 Try.underlying26 hi hz0 hz1 .i64 .i64 _ _ (ks.length + 1) rfl rfl (by omega) (by omega) (by rw [hz2]; omega) (by unfold maxLen; omega) (Nat.le_refl _) ?_; intro w5 own5 grow5)
            obtain ⟨wk, hwk⟩ : ∃ wk, wk = wr := ⟨wr, rfl⟩
            subst hwk
            have H5 : Hid (PreAt w5 wk.heap.size ks.length K 0 ∧ Below wk.heap.size wk w5 ∧ wk.heap.size < w5.heap.size) := ⟨pre_start own5, (Below.refl _ _).grown grow5 (Nat.le_refl _) (fun k h => by cases h), owned_lt own5⟩
            clear own5 grow5
            go_loopw [7] (fun jv wr => ∃ j : Nat, j ≤ ks.length ∧ jv = .int .i64 j ∧ Hid (PreAt wr wk.heap.size ks.length K j ∧ Below wk.heap.size wk wr ∧ wk.heap.size < wr.heap.size)) (fun jv _ => ks.length - (intOf jv).toNat)
            case atStart => exact ⟨0, Nat.zero_le _, rfl, H5.out⟩
            case round =>
              obtain ⟨j, hj, rfl, hrelP⟩ := hrel
              by_cases hjlt : j < ks.length
              · obtain ⟨x, hxe⟩ : ∃ x, x = ks[j] := ⟨_, rfl⟩
                have hKj := HKF.out.2 j hjlt
                rw [← hxe] at hKj
                have hxI : x < I.length := hKj.2
                have hxn : x < n := by rw [← HX.out]; exact hxI
                obtain ⟨key, hkey⟩ : ∃ key, key = (itemAt I x).1 := ⟨_, rfl⟩
                obtain ⟨val, hval⟩ : ∃ val, val = (itemAt I x).2 := ⟨_, rfl⟩
                have hkc : wr.cell? ⟨w2.heap.size, j, none⟩ = some (.int .i64 (x : Int)) := by rw [hxe]; exact keep_cell hrelK.out hrelP.out hjlt
                have hit := (H2.out.1.below H2.out.2.2 hrelK.out.2.1).below (Nat.lt_trans H2.out.2.2 hrelK.out.2.2) hrelP.out.2.1 x hxI
                rw [← itemAt_eq I x hxI, ← hkey, ← hval] at hit
                obtain ⟨hc0, hc1⟩ := hit
                have hsm := HSm.out x hxI hxn
                rw [← itemAt_eq I x hxI, ← hkey, ← hval] at hsm
                obtain ⟨hs0, hs1⟩ := hsm
                have HM : Hid (Law.pre K (j + 1) = Law.pre K j + (key.size + 1 + (Law.enc val.data.toList).length)) := by
                  unfold Hid
                  rw [Law.pre, hKj.1, hkey, hval]
                  exact congrArg _ (mem_len _ _)
                clear hKj hkey hval hxe
                have H13 : Hid (∀ w, Calls Try.prog 13 #[.string val] w fun e w' => e = .returned (.int .i64 ((Law.enc val.data.toList).length : Nat)) ∧ w' = w) := fun w => encLen_any val w hs1
                have hel := enc_len val.data.toList
                rw [← Lib.size_eq] at hel
                generalize (Law.enc val.data.toList).length = el at HM H13 hel
                have hpc : wr.cell? ⟨wk.heap.size, j, none⟩ = some (.int .i64 (Law.pre K j : Nat)) := hrelP.out.1.cell j (Nat.le_refl _) (by omega)
                have hpb := pre_bound HX.out HSm.out HKF.out j hj
                generalize hpj : Law.pre K j = pj at hpc hpb HM
                have HPj : Hid (Law.pre K j = pj) := hpj
                clear hpj
                have hfz : wr.frozen? ⟨wk.heap.size, j + 1, none⟩ = false := hrelP.out.1.frozen _
                obtain ⟨u, hu⟩ : ∃ u, wr.cell? ⟨wk.heap.size, j + 1, none⟩ = some u := hrelP.out.1.there (j + 1) (by omega)
                have hgp : wk.heap.size < wr.heap.size := hrelP.out.2.2
                have hxi : (x : Int) < (n : Int) := by omega
                have hpb2 : pj ≤ 274877972480 := Nat.le_trans hpb (Nat.le_trans (Nat.mul_le_mul_right 4194305 (show j ≤ 65536 from by omega)) (by decide))
                clear hpb
                have hji : (j : Int) < ((ks.length + 1 : Nat) : Int) := by omega
                have hji2 : (j : Int) + 1 < ((ks.length + 1 : Nat) : Int) := by omega
                have HNext : Hid (PreAt (((wr.setCell ⟨wk.heap.size, j + 1, none⟩ (.int .i64 ((pj : Int) + key.size + 1 + el))).alloc (.cells #[.string key, .string val] 28)).drew) wk.heap.size ks.length K (j + 1) ∧ Below wk.heap.size wk (((wr.setCell ⟨wk.heap.size, j + 1, none⟩ (.int .i64 ((pj : Int) + key.size + 1 + el))).alloc (.cells #[.string key, .string val] 28)).drew) ∧ wk.heap.size < (((wr.setCell ⟨wk.heap.size, j + 1, none⟩ (.int .i64 ((pj : Int) + key.size + 1 + el))).alloc (.cells #[.string key, .string val] 28)).drew).heap.size) := pre_next HM.out HPj.out hjlt hrelP.out
                go_wp2_with fail
                go_region_held (fun w' => w'.cell? ⟨wk.heap.size, j, none⟩ = some (.int .i64 (pj : Int)) ∧ w'.cell? ⟨wr.heap.size, 0, none⟩ = some (.string key) ∧ w'.cell? ⟨wr.heap.size, 1, none⟩ = some (.string val)) (first | (go_keep; done) | exact held_after hpc hgp) ((go_at_call 13; refine (Hid.out H13 _).mono ?_; rintro e w' ⟨rfl, rfl⟩))
                all_goals
                  go_wp2
                  go_roundw
                  case rel => exact ⟨j + 1, by omega, by go_num, HNext.out⟩
                  case measure => simp [intOf]; omega
              · have hje : j = ks.length := by omega
                subst hje
                obtain ⟨wp, hwp⟩ : ∃ wp, wp = wr := ⟨wr, rfl⟩
                subst hwp
                have hDle := Law.down_le K
                by_cases h180 : (180 : Int) < (ks.length : Int)
                all_goals
                  go_wp2_with fail
                  go_loop [9] (fun kv => ∃ kk : Nat, kk ≤ ks.length ∧ kk ≤ 180 ∧ kv = .int .i64 kk ∧ Hid (Law.down K kk = Law.down K (min K.length 180))) (fun kv => (intOf kv).toNat)
                  case atStart => first | exact ⟨180, by omega, by omega, rfl, by unfold Hid; rw [HKF.out.1, Nat.min_eq_right (by omega)]⟩ | exact ⟨ks.length, by omega, by omega, rfl, by unfold Hid; rw [HKF.out.1, Nat.min_eq_left (by omega)]⟩
                  case round =>
                    obtain ⟨kk, hkk1, hkk2, rfl, hrelD⟩ := hrel
                    have hpc : wp.cell? ⟨wk.heap.size, kk, none⟩ = some (.int .i64 (Law.pre K kk : Nat)) := hrelP.out.1.cell kk hkk1 hkk1
                    have hpb := pre_bound HX.out HSm.out HKF.out kk hkk1
                    have hpb2 : Law.pre K kk ≤ 274877972480 := Nat.le_trans hpb (Nat.le_trans (Nat.mul_le_mul_right 4194305 (show kk ≤ 65536 from by omega)) (by decide))
                    clear hpb
                    have HDs := down_step K kk
                    generalize hpk : Law.pre K kk = pk at hpc hpb2 HDs
                    clear hpk
                    have HDS : Hid _ := HDs
                    clear HDs
                    by_cases hcont : 0 < kk ∧ 8192 < pk + (kk - 1)
                    · obtain ⟨hk0, hk8⟩ := hcont
                      have hk0i : (0 : Int) < (kk : Int) := by omega
                      have hk8i : (8192 : Int) < (pk : Int) + ((kk : Int) - 1) := by omega
                      have hkb : (kk : Int) < ((ks.length + 1 : Nat) : Int) := by omega
                      go_wp2
                      go_round
                      case rel => exact ⟨kk - 1, by omega, by omega, by go_num, by unfold Hid; rw [← HDS.out.1 ⟨hk0, hk8⟩]; exact hrelD.out⟩
                      case measure => simp [intOf]; omega
                    · have HDK : Hid (Law.down K (min K.length 180) = kk) := by unfold Hid; rw [← hrelD.out]; exact HDS.out.2 hcont
                      have HJ : Hid (∀ t, t ≤ kk → (Law.join K t).length ≤ 8192) := join_fits HDK.out
                      have HRR : Hid (R = Law.join K kk) := by unfold Hid; rw [HL.out, HDK.out]
                      have hkb : (kk : Int) < ((ks.length + 1 : Nat) : Int) := by omega
                      have hgd : (kk = 0 ∧ decide ((0 : Int) < (kk : Int)) = false) ∨ (0 < kk ∧ (pk : Int) + ((kk : Int) - 1) ≤ 8192) := by
                        rcases (show kk = 0 ∨ (0 < kk ∧ pk + (kk - 1) ≤ 8192) from by omega) with h | h
                        · exact .inl ⟨h, decide_eq_false (by omega)⟩
                        · exact .inr ⟨h.1, by omega⟩
                      clear hcont HDS hrelD
                      rcases hgd with ⟨hg0, hg1⟩ | ⟨hg0, hg1⟩
                      all_goals
                        go_wp2_with fail
                        go_loopw [10, 11] (fun wv jv wr => ∃ j : Nat, j ≤ kk ∧ jv = .int .i64 j ∧ Hid (Out wp.heap.size wr wv (Law.join K j) ∧ Below wp.heap.size wp wr ∧ wp.heap.size ≤ wr.heap.size)) (fun _ jv _ => kk - (intOf jv).toNat)
                        case atStart => exact ⟨0, Nat.zero_le _, rfl, Out.nil _ _, Below.refl _ _, Nat.le_refl _⟩
                        case round =>
                          obtain ⟨j, hjk, rfl, hrelW⟩ := hrel
                          by_cases hjlt : j < kk
                          · try (exfalso; omega)
                            all_goals
                              have hjm : j < ks.length := by omega
                              obtain ⟨x, hxe⟩ : ∃ x, x = ks[j] := ⟨_, rfl⟩
                              have hKj := HKF.out.2 j hjm
                              rw [← hxe] at hKj
                              have hxI : x < I.length := hKj.2
                              have hxn : x < n := by rw [← HX.out]; exact hxI
                              obtain ⟨key, hkey⟩ : ∃ key, key = (itemAt I x).1 := ⟨_, rfl⟩
                              obtain ⟨val, hval⟩ : ∃ val, val = (itemAt I x).2 := ⟨_, rfl⟩
                              have HKC : Hid (∀ W, Below wp.heap.size wp W → W.cell? ⟨w2.heap.size, j, none⟩ = some (.int .i64 (x : Int)) ∧ W.cell? ⟨w.heap.size, x * 2, none⟩ = some (.string key) ∧ W.cell? ⟨w.heap.size, x * 2 + 1, none⟩ = some (.string val)) := by
                                intro W hW
                                have h1 := keep_cell hrelK.out hrelP.out hjm
                                have hit := (H2.out.1.below H2.out.2.2 hrelK.out.2.1).below (Nat.lt_trans H2.out.2.2 hrelK.out.2.2) hrelP.out.2.1 x hxI
                                rw [← itemAt_eq I x hxI, ← hkey, ← hval] at hit
                                rw [← hxe] at h1
                                exact ⟨(hW.cell (World.block_lt_of_cell? _ _ h1)).trans h1, (hW.cell (World.block_lt_of_cell? _ _ hit.1)).trans hit.1, (hW.cell (World.block_lt_of_cell? _ _ hit.2)).trans hit.2⟩
                              have hsm := HSm.out x hxI hxn
                              rw [← itemAt_eq I x hxI, ← hkey, ← hval] at hsm
                              obtain ⟨hs0, hs1⟩ := hsm
                              have HJn : Hid (Law.join K (j + 1) = (if 0 < j then Law.join K j ++ [44] else Law.join K j) ++ Law.mem (key.data.toList, val.data.toList)) := by
                                unfold Hid
                                rw [Law.join, hKj.1, hkey, hval]
                                rfl
                              clear hKj hkey hval hxe
                              have HJl : Hid ((Law.join K j).length ≤ 8192) := HJ.out j (by omega)
                              have hxi : (x : Int) < (n : Int) := by omega
                              by_cases hj0 : 0 < j
                              · have hj0i : (0 : Int) < (j : Int) := by omega
                                have HJ1 : Hid (Law.join K (j + 1) = Law.join K j ++ ([44] : List UInt8) ++ Law.mem (key.data.toList, val.data.toList)) := by unfold Hid; rw [HJn.out, if_pos hj0]
                                generalize Law.join K j = L at hrelW HJl HJ1
                                have HJ2 : Hid ((L ++ ([44] : List UInt8)).length ≤ 8193) := by unfold Hid; rw [List.length_append]; have := HJl.out; simp only [List.length_cons, List.length_nil]; omega
                                go_wp2_with (first | (at_builtin; refine wpList_append_own _ rfl (.tmp 104) (.tmp 105) 30 rfl wp.heap.size 5 i5 (.int .u8 0) 1 1 Try.underlying30 hi5 hy0 hy1 hy2 rfl (by decide) _ L.length (cellsL L) rfl (World.ownsRow.alloc hrelW.out.1 _) ⟨wr.heap.size, 0, none⟩ 1 1 [.int .u8 44] rfl rfl (cell_one_new _ _ _) (one_one _) (by have := HJl.out; unfold maxLen; omega) (by have := HJl.out; omega) (Nat.le_trans hrelW.out.2.2 (by simp)) ?_; intro v6 w6 own6 grow6 _; have H6 : Hid (Out wp.heap.size w6 v6 (L ++ ([44] : List UInt8)) ∧ Below wp.heap.size wp w6 ∧ wp.heap.size ≤ w6.heap.size) := out_step hrelW.out.2.1 hrelW.out.2.2 hrelW.out.1 own6 grow6 rfl rfl; have hcc := HKC.out w6 H6.out.2.1; have hcc0 := hcc.1; have hcc1 := hcc.2.1; have hcc2 := hcc.2.2; clear own6 grow6 hcc) | (go_at_call 14; refine (member_any wp.heap.size v6 (L ++ ([44] : List UInt8)) key val _ (Nat.le_trans H6.out.2.2 (by simp)) (Nat.le_trans HJ2.out (by decide)) hs0 hs1 (World.ownsRow.alloc H6.out.1 _)).mono ?_; rintro e w7 ⟨v7, rfl, hO7, hB7⟩; have H7 : Hid (Out wp.heap.size w7 v7 (Law.join K (j + 1)) ∧ Below wp.heap.size wp w7 ∧ wp.heap.size ≤ w7.heap.size) := member_next HJ1.out H6.out.2 hO7 hB7; clear hO7 hB7))
                                go_roundw
                                case rel => exact ⟨j + 1, by omega, by go_num, H7.out⟩
                                case measure => simp [intOf]; omega
                              · have hj0i : (j : Int) ≤ 0 := by omega
                                have HJ1 : Hid (Law.join K (j + 1) = Law.join K j ++ Law.mem (key.data.toList, val.data.toList)) := by unfold Hid; rw [HJn.out, if_neg hj0]
                                generalize Law.join K j = L at hrelW HJl HJ1
                                have hcc := HKC.out wr hrelW.out.2.1
                                obtain ⟨hcc0, hcc1, hcc2⟩ := hcc
                                go_wp2_with (go_at_call 14; refine (member_any wp.heap.size _ L key val _ (Nat.le_trans hrelW.out.2.2 (by simp)) (Nat.le_trans HJl.out (by decide)) hs0 hs1 (World.ownsRow.alloc hrelW.out.1 _)).mono ?_; rintro e w7 ⟨v7, rfl, hO7, hB7⟩; have H7 : Hid (Out wp.heap.size w7 v7 (Law.join K (j + 1)) ∧ Below wp.heap.size wp w7 ∧ wp.heap.size ≤ w7.heap.size) := member_next HJ1.out hrelW.out.2 hO7 hB7; clear hO7 hB7)
                                go_roundw
                                case rel => exact ⟨j + 1, by omega, by go_num, H7.out⟩
                                case measure => simp [intOf]; omega
                          · have hje : j = kk := by omega
                            have HT : Hid (Law.join K j = R) := by unfold Hid; rw [HRR.out, hje]
                            clear hje
                            rw [HT.out] at hrelW
                            obtain ⟨ao, cap, hvf⟩ := hrelW.out.1.form
                            subst hvf
                            have hconv := Out.conv_full hrelW.out.1
                            have HBB : Hid (Below w.heap.size w wr) := ((H2.out.2.1.trans (hrelK.out.2.1.mono (Nat.le_of_lt H2.out.2.2))).trans (hrelP.out.2.1.mono (Nat.le_of_lt (Nat.lt_trans H2.out.2.2 hrelK.out.2.2)))).trans (hrelW.out.2.1.mono (Nat.le_of_lt (Nat.lt_trans H2.out.2.2 (Nat.lt_trans hrelK.out.2.2 hrelP.out.2.2))))
                            go_wp2
                            go_ret
                            exact ⟨ret_bool (by simp), HBB.out⟩
end Go.Proofs.Qxb6602299a.Walks
