/-
  THE WALKS of seat b6602299a: zzBagEncodedLen; baggage.header.
-/
import Derived.Test.Qxb6602299aValue
import Derived.Laws.BytesArg
namespace Go.Proofs.Qxb6602299a.Walks
open Go.RowKit
open Go.Proofs.Qxb6602299a
set_option linter.unusedVariables false

set_option maxHeartbeats 1000000 in
/-- zzBagEncodedLen -/
theorem encLen_any (val : ByteArray) (w : World) (hv : val.size ≤ 1048576) :
    Calls Try.prog 13 #[.string val] w fun e w' => e = .returned (.int .i64 ((Law.enc val.data.toList).length : Nat)) ∧ w' = w := by
  generalize hR : (Law.enc val.data.toList).length = R
  have HR : Hid ((Law.enc val.data.toList).length = R) := hR
  clear hR
  go_enter Try.func13, Try.ntmps13
  go_wp2
  go_loop [3, 4] (fun t i => ∃ k m : Nat, k ≤ val.size ∧ m ≤ 3 * k ∧ i = .int .i64 k ∧ t = .int .i64 m ∧ Hid ((Law.enc (val.data.toList.take k)).length = m)) (fun _ i => val.size - (intOf i).toNat)
  case atStart => exact ⟨0, 0, Nat.zero_le _, Nat.zero_le _, rfl, rfl, rfl⟩
  case round =>
    obtain ⟨k, m, hk, hm, rfl, rfl, hrel⟩ := hrel
    by_cases hlt : k < val.size
    · have Hs : Hid (Law.enc (val.data.toList.take (k + 1)) = Law.enc (val.data.toList.take k) ++ Law.encB val[k]) := enc_take val k hlt
      have hb : val[k].toNat < 256 := val[k].toNat_lt
      have H17 : Hid (∀ w, Calls Try.prog 17 #[.int .u8 (val[k].toNat : Int)] w fun e w' => e = .returned (.bool (Law.pln val[k].toNat)) ∧ w' = w) := fun w => plain_any _ hb w
      cases hT : Law.pln val[k].toNat with
      | true =>
        rw [hT] at H17
        have HE : Hid ((Law.encB val[k]).length = 1) := by unfold Hid Law.encB; rw [hT]; rfl
        clear hT
        go_wp2_with (go_at_call 17; refine (Hid.out H17 _).mono ?_; rintro e w' ⟨rfl, rfl⟩)
        go_round
        case rel => exact ⟨k + 1, m + 1, by omega, by omega, by go_num, by go_num, by unfold Hid; rw [Hs.out, List.length_append, HE.out, hrel.out]⟩
        case measure => simp [intOf]; omega
      | false =>
        rw [hT] at H17
        have HE : Hid ((Law.encB val[k]).length = 3) := by unfold Hid Law.encB; rw [hT]; rfl
        clear hT
        go_wp2_with (go_at_call 17; refine (Hid.out H17 _).mono ?_; rintro e w' ⟨rfl, rfl⟩)
        go_round
        case rel => exact ⟨k + 1, m + 3, by omega, by omega, by go_num, by go_num, by unfold Hid; rw [Hs.out, List.length_append, HE.out, hrel.out]⟩
        case measure => simp [intOf]; omega
    · go_wp2
      go_ret
      exact ⟨ret_int (by rw [← HR.out, ← hrel.out, List.take_of_length_le (by rw [← Lib.size_eq]; omega)]), rfl⟩

/-- a new block that holds one item -/
def BoxAt (w : World) (b : Nat) (key val : ByteArray) : Prop := w.heap[b]? = some (.cells #[.string key, .string val] 42 (0, 0))

theorem BoxAt.cell0 {w : World} {b : Nat} {key val : ByteArray} (h : BoxAt w b key val) : w.cell? ⟨b, 0, none⟩ = some (.string key) := by
  simp [World.cell?, show w.heap[b]? = _ from h]
theorem BoxAt.cell1 {w : World} {b : Nat} {key val : ByteArray} (h : BoxAt w b key val) : w.cell? ⟨b, 1, none⟩ = some (.string val) := by
  simp [World.cell?, show w.heap[b]? = _ from h]
theorem BoxAt.new (w : World) (key val : ByteArray) : BoxAt (w.alloc (.cells #[.string key, .string val] 42)) w.heap.size key val := by
  show (w.heap.push _)[w.heap.size]? = _
  simp
theorem BoxAt.lt {w : World} {b : Nat} {key val : ByteArray} (h : BoxAt w b key val) : b < w.heap.size := (Array.getElem?_eq_some_iff.1 h).1
theorem BoxAt.alloc {w : World} {b : Nat} {key val : ByteArray} (h : BoxAt w b key val) (o : Obj) : BoxAt (w.alloc o) b key val := by
  unfold BoxAt
  rw [Below.heap_alloc w o b h.lt]
  exact h
theorem BoxAt.grown {w w' : World} {b B n : Nat} {v : Value} {xs : List Value} {key val : ByteArray} (h : BoxAt w b key val) (ho : w.ownsRow B 5 1 v n xs) (hg : w.grownBy w' v.ownBlock) : BoxAt w' b key val := by
  unfold BoxAt
  rw [hg.block b h.lt ?_]
  · exact h
  · intro e
    rcases ho.2 with ⟨h', _⟩ | ⟨g, cap, cur, h', _, hh, _⟩
    · rw [h'] at e; simp [Value.ownBlock] at e
    · rw [h'] at e
      simp only [Value.ownBlock, Option.some.injEq] at e
      subst e
      rw [show w.heap[b]? = _ from h] at hh
      simp at hh

/-- the state of a round behind the item's own box -/
def St (B : Nat) (w : World) (b : Nat) (key val : ByteArray) (w1 : World) (v : Value) (L : List UInt8) : Prop := Out B w1 v L ∧ Below B w w1 ∧ B ≤ w1.heap.size ∧ BoxAt w1 b key val

theorem St.start {B : Nat} {w wr : World} {v : Value} {L : List UInt8} (key val : ByteArray) (h : Out B wr v L ∧ Below B w wr ∧ B ≤ wr.heap.size) : St B w wr.heap.size key val (wr.alloc (.cells #[.string key, .string val] 42)) v L :=
  ⟨World.ownsRow.alloc h.1 _, h.2.1.alloc h.2.2 _, by simp; omega, BoxAt.new _ _ _⟩
theorem St.lit {B b m : Nat} {w w1 w2 : World} {key val : ByteArray} {v v2 : Value} {L M : List UInt8} {o : Obj} {news : List Value} (h : St B w b key val w1 v L)
    (own2 : w2.ownsRow B 5 1 v2 (L.length + m) (cellsL L ++ news)) (hg : (w1.alloc o).grownBy w2 v.ownBlock) (hn : news = cellsL M) (hm : m = M.length) : St B w b key val w2 v2 (L ++ M) :=
  have h3 := out_step h.2.1 h.2.2.1 h.1 own2 hg hn hm
  ⟨h3.1, h3.2.1, h3.2.2, (h.2.2.2.alloc o).grown (World.ownsRow.alloc h.1 o) hg⟩
theorem St.str {B b : Nat} {w w1 w2 : World} {key val s : ByteArray} {v v2 : Value} {L : List UInt8} (h : St B w b key val w1 v L)
    (own2 : w2.ownsRow B 5 1 v2 (L.length + s.size) (cellsL L ++ Lib.strCells s)) (hg : w1.grownBy w2 v.ownBlock) : St B w b key val w2 v2 (L ++ s.data.toList) :=
  have h3 := below_grown h.2.1 h.2.2.1 h.1 hg
  ⟨Out.app own2 rfl (Lib.size_eq s), h3.1, h3.2, h.2.2.2.grown h.1 hg⟩

theorem Out.some_form {B : Nat} {w : World} {v : Value} {L : List UInt8} (h : Out B w v L) (hL : 0 < L.length) : ∃ g cap, v = .slice (some ⟨g, 0, none⟩) L.length cap ∧ L.length ≤ cap := by
  rcases h.2 with ⟨h', hn⟩ | ⟨g, cap, cur, h', _, _, hc, _⟩
  · omega
  · exact ⟨g, cap, h', hc⟩

/-- 'string(out[:e])' -/
theorem Out.conv {B : Nat} {w : World} {ao : Option Addr} {cap : Nat} {L : List UInt8} (h : Out B w (.slice ao L.length cap) L) (e : Nat) (he : e ≤ L.length) :
    (convert 30 9 (.slice ao e cap)).run Try.prog w = .ok (.string ⟨(L.take e).toArray⟩) w := by
  cases ao with
  | none =>
    have hl : L.length = 0 := by
      rcases h.2 with ⟨_, hn⟩ | ⟨g, cap', cur, h', _⟩
      · exact hn
      · simp at h'
    have e0 : e = 0 := by omega
    subst e0
    exact run_convert_bytes_nil w 30 5 Try.underlying30 Try.underlying5 0 cap 9 Try.underlying9
  | some a =>
    rcases h.2 with ⟨h', _⟩ | ⟨g, cap', cur, h', _⟩
    · simp at h'
    · simp only [Value.slice.injEq, Option.some.injEq] at h'
      obtain ⟨rfl, _, rfl⟩ := h'
      have hlen : (L.take e).length = e := by rw [List.length_take]; omega
      have := run_convert_bytes_back (P := Try.prog) w 30 9 5 ⟨g, 0, none⟩ cap (L.take e) Try.underlying30 Try.underlying5 Try.underlying9 (fun j hj => by
        rw [Go.WideShapes.add_plain, Nat.zero_add, h.cellAt j (by omega)]
        simp only [cellsL, List.getElem?_map, List.getElem_take]
        rw [List.getElem?_eq_getElem (by omega)]
        rfl)
      rw [hlen] at this
      exact this
end Go.Proofs.Qxb6602299a.Walks
