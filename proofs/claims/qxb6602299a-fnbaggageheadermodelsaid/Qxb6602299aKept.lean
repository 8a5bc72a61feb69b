/-
  PLAIN: the kept items by their places.
-/
import Derived.Test.Qxb6602299aSizes
namespace Go.Proofs.Qxb6602299a.Walks
open Go.Proofs.Qxb6602299a

/-- item i, whatever i -/
def itemAt (I : List (ByteArray × ByteArray)) (i : Nat) : ByteArray × ByteArray := I.getD i (ByteArray.empty, ByteArray.empty)
theorem itemAt_eq (I : List (ByteArray × ByteArray)) (i : Nat) (h : i < I.length) : itemAt I i = I[i] := by
  unfold itemAt
  rw [List.getD_eq_getElem?_getD, List.getElem?_eq_getElem h]; rfl

/-- the places of the first k items that are kept -/
def KI (I : List (ByteArray × ByteArray)) (k : Nat) : List Nat := (List.range k).filter fun i => Law.tok (itemAt I i).1.data.toList

theorem KI_succ (I : List (ByteArray × ByteArray)) (k : Nat) : KI I (k + 1) = KI I k ++ if Law.tok (itemAt I k).1.data.toList = true then [k] else [] := by
  unfold KI
  rw [List.range_succ, List.filter_append]
  congr 1
  cases h : Law.tok (itemAt I k).1.data.toList <;> simp [h]

theorem KI_len (I : List (ByteArray × ByteArray)) (k : Nat) : (KI I k).length ≤ k := by
  unfold KI
  have := List.length_filter_le (fun i => Law.tok (itemAt I i).1.data.toList) (List.range k)
  simpa using this

theorem KI_lt (I : List (ByteArray × ByteArray)) (k j : Nat) (h : j < (KI I k).length) : (KI I k)[j] < k := by
  have h2 : (KI I k)[j] ∈ List.range k := (List.mem_filter.1 (show (KI I k)[j] ∈ (List.range k).filter _ from List.getElem_mem h)).1
  exact List.mem_range.1 h2

theorem map_range (I : List (ByteArray × ByteArray)) : I.map bytesI = (List.range I.length).map fun i => bytesI (itemAt I i) := by
  apply List.ext_getElem
  · simp
  · intro i h1 h2
    simp only [List.getElem_map, List.getElem_range]
    rw [itemAt_eq I i (by simpa using h1)]

theorem keep_eq (I : List (ByteArray × ByteArray)) : Law.keep (I.map bytesI) = (KI I I.length).map fun i => bytesI (itemAt I i) := by
  rw [map_range I]
  unfold Law.keep KI
  rw [List.filter_map]
  rfl

theorem keep_len (I : List (ByteArray × ByteArray)) : (Law.keep (I.map bytesI)).length = (KI I I.length).length := by rw [keep_eq]; simp

theorem keep_at (I : List (ByteArray × ByteArray)) (j : Nat) (h : j < (KI I I.length).length) : (Law.keep (I.map bytesI)).getD j ([], []) = bytesI (itemAt I (KI I I.length)[j]) := by
  rw [keep_eq, List.getD_eq_getElem?_getD, List.getElem?_map, List.getElem?_eq_getElem h]; rfl

theorem mem_len (key val : ByteArray) : (Law.mem (key.data.toList, val.data.toList)).length = key.size + 1 + (Law.enc val.data.toList).length := by
  unfold Law.mem
  simp only [List.length_append, List.length_cons]
  have := Lib.size_eq key
  omega

theorem pre_le (K : List (List UInt8 × List UInt8)) (M : Nat) (h : ∀ j, j < K.length → (Law.mem (K.getD j ([], []))).length ≤ M) : ∀ j, j ≤ K.length → Law.pre K j ≤ j * M
  | 0, _ => by simp [Law.pre]
  | j + 1, hj => by
    have ih := pre_le K M h j (by omega)
    have := h j (by omega)
    rw [Law.pre, Nat.add_mul]
    omega

end Go.Proofs.Qxb6602299a.Walks
