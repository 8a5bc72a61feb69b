/-
  THE WALKS of seat b6602299a: the two guards on sizes.
-/
import Derived.Test.Qxb6602299aCopy
import Derived.Deep.QuietTactic
import Derived.BigQuiet
namespace Go.Proofs.Qxb6602299a.Walks
open Go.RowKit
open Go.Proofs.Qxb6602299a
set_option linter.unusedVariables false

/-- every string of the first k items is of at most 1<<20 bytes -/
def Small (I : List (ByteArray × ByteArray)) (k : Nat) : Prop := ∀ i (h : i < I.length), i < k → I[i].1.size ≤ 1048576 ∧ I[i].2.size ≤ 1048576

theorem Small.succ {I : List (ByteArray × ByteArray)} {k : Nat} (h : Small I k) (hk : k < I.length) (h1 : I[k].1.size ≤ 1048576) (h2 : I[k].2.size ≤ 1048576) : Small I (k + 1) := by
  intro i hi hik
  rcases (show i < k ∨ i = k from by omega) with h3 | h3
  · exact h i hi h3
  · subst h3; exact ⟨h1, h2⟩

def BytesPost (I : List (ByteArray × ByteArray)) (n : Nat) (e : Ending) : Prop := ∃ r, e = .returned (.bool r) ∧ (r = true → Small I n)

set_option maxHeartbeats 2000000 in
/-- zzBytes_FnBaggageHeaderModel -/
theorem bytes_some (b off n c : Nat) (I : List (ByteArray × ByteArray)) (w : World) (hx : I.length = n) (hn : n ≤ 9223372036854775807) (hm : Hid (∀ i (h : i < I.length), I[i].1.size ≤ 9223372036854775807 ∧ I[i].2.size ≤ 9223372036854775807)) (hc : Hid (ItemsAt w b off I)) :
    Calls Try.prog 8 #[.slice (some ⟨b, off, none⟩) n c] w fun e w' => BytesPost I n e ∧ w' = w := by
  have HX : Hid (I.length = n) := hx
  clear hx
  by_cases hbig : (1048576 : Int) < (n : Int)
  · go_enter Try.func8, Try.ntmps8
    go_wp2
    go_ret
    exact ⟨⟨false, rfl, fun h => by cases h⟩, rfl⟩
  · have hn2 : (n : Int) ≤ 1048576 := by omega
    clear hbig
    go_enter Try.func8, Try.ntmps8
    go_wp2
    go_loop [3, 4, 5] (fun z i j => ∃ k zz : Nat, k ≤ n ∧ zz ≤ 1048576 ∧ i = .int .i64 k ∧ z = .int .i64 zz ∧ Hid (Small I k)) (fun _ i _ => n - (intOf i).toNat)
    case atStart => exact ⟨0, n, Nat.zero_le _, by omega, rfl, by simp, fun i hi h => by omega⟩
    case round =>
      obtain ⟨k, zz, hk, hzz, rfl, rfl, hrelO⟩ := hrel
      by_cases hlt : k < n
      · have hki : k < I.length := by rw [HX.out]; exact hlt
        obtain ⟨key, hkey⟩ : ∃ key, key = I[k].1 := ⟨_, rfl⟩
        obtain ⟨val, hval⟩ : ∃ val, val = I[k].2 := ⟨_, rfl⟩
        have hcells := hc.out k hki
        have hmm := hm.out k hki
        rw [← hkey, ← hval] at hcells hmm
        obtain ⟨hc0, hc1⟩ := hcells
        obtain ⟨hm0, hm1⟩ := hmm
        have HKV : Hid (key = I[k].1 ∧ val = I[k].2) := ⟨hkey, hval⟩
        clear hkey hval
        go_wp2
        go_loop [3, 5] (fun z j => ∃ jj zz : Nat, jj ≤ 2 ∧ zz ≤ 1048576 ∧ j = .int .i64 jj ∧ z = .int .i64 zz ∧ Hid ((1 ≤ jj → key.size ≤ 1048576) ∧ (2 ≤ jj → val.size ≤ 1048576))) (fun _ j => 2 - (intOf j).toNat)
        case atStart => exact ⟨0, zz, by omega, hzz, rfl, rfl, fun h => by omega, fun h => by omega⟩
        case round =>
          obtain ⟨jj, z2, hj, hz2, rfl, rfl, hrel2⟩ := hrel
          rcases (show jj = 0 ∨ jj = 1 ∨ jj = 2 from by omega) with rfl | rfl | rfl
          · rcases (show (1048576 < key.size) ∨ (key.size ≤ 1048576 ∧ 1048576 < z2 + key.size) ∨ (key.size ≤ 1048576 ∧ z2 + key.size ≤ 1048576) from by omega) with h1 | ⟨h1, h2⟩ | ⟨h1, h2⟩
            · have h1i : (1048576 : Int) < (key.size : Int) := by omega
              go_wp2
              go_ret
              exact ⟨⟨false, rfl, fun h => by cases h⟩, rfl⟩
            · have h1i : (key.size : Int) ≤ 1048576 := by omega
              have h2i : (1048576 : Int) < (z2 : Int) + (key.size : Int) := by omega
              go_wp2
              go_ret
              exact ⟨⟨false, rfl, fun h => by cases h⟩, rfl⟩
            · have h1i : (key.size : Int) ≤ 1048576 := by omega
              have h2i : (z2 : Int) + (key.size : Int) ≤ 1048576 := by omega
              go_wp2
              go_round
              case rel => exact ⟨1, z2 + key.size, by omega, h2, rfl, by go_num, fun _ => h1, fun h => by omega⟩
              case measure => simp [intOf]
          · rcases (show (1048576 < val.size) ∨ (val.size ≤ 1048576 ∧ 1048576 < z2 + val.size) ∨ (val.size ≤ 1048576 ∧ z2 + val.size ≤ 1048576) from by omega) with h1 | ⟨h1, h2⟩ | ⟨h1, h2⟩
            · have h1i : (1048576 : Int) < (val.size : Int) := by omega
              go_wp2
              go_ret
              exact ⟨⟨false, rfl, fun h => by cases h⟩, rfl⟩
            · have h1i : (val.size : Int) ≤ 1048576 := by omega
              have h2i : (1048576 : Int) < (z2 : Int) + (val.size : Int) := by omega
              go_wp2
              go_ret
              exact ⟨⟨false, rfl, fun h => by cases h⟩, rfl⟩
            · have h1i : (val.size : Int) ≤ 1048576 := by omega
              have h2i : (z2 : Int) + (val.size : Int) ≤ 1048576 := by omega
              go_wp2
              go_round
              case rel => exact ⟨2, z2 + val.size, by omega, h2, rfl, by go_num, fun _ => hrel2.out.1 (by omega), fun _ => h1⟩
              case measure => simp [intOf]
          · have HSm : Hid (Small I (k + 1)) := hrelO.out.succ hki (by rw [← HKV.out.1]; exact hrel2.out.1 (by omega)) (by rw [← HKV.out.2]; exact hrel2.out.2 (by omega))
            go_wp2
            go_round
            case rel => exact ⟨k + 1, z2, by omega, hz2, by go_num, rfl, HSm.out⟩
            case measure => simp [intOf]; omega
      · go_wp2
        go_ret
        exact ⟨⟨true, rfl, fun _ => by have e : k = n := by omega
                                       rw [← e]; exact hrelO.out⟩, rfl⟩

def FitPost (e : Ending) : Prop := ∃ r : Bool, e = .returned (.bool r)

set_option maxHeartbeats 2000000 in
/-- zzBagBytesFit -/
theorem fit_some (b off n c : Nat) (I : List (ByteArray × ByteArray)) (w : World) (hx : I.length = n) (hn2 : n ≤ 65536) (hm : Hid (Small I n)) (hc : Hid (ItemsAt w b off I)) :
    Calls Try.prog 9 #[.slice (some ⟨b, off, none⟩) n c] w fun e w' => FitPost e ∧ ∃ q, w' = w.drewN q := by
  have HX : Hid (I.length = n) := hx
  clear hx
  by_cases hbig : (1048576 : Int) < 32 * (n : Int)
  · go_enter Try.func9, Try.ntmps9
    go_wp2
    go_ret
    exact ⟨⟨false, rfl⟩, 0, rfl⟩
  · have hn3 : 32 * (n : Int) ≤ 1048576 := by omega
    clear hbig
    go_enter Try.func9, Try.ntmps9
    go_wp2
    go_loopw [3, 4] (fun z i wr => ∃ k zz q : Nat, k ≤ n ∧ zz ≤ 1048576 ∧ i = .int .i64 k ∧ z = .int .i64 zz ∧ wr = w.drewN q) (fun _ i _ => n - (intOf i).toNat)
    case atStart => exact ⟨0, 32 * n, 0, Nat.zero_le _, by omega, rfl, by go_num, rfl⟩
    case round =>
      obtain ⟨k, zz, q, hk, hzz, rfl, rfl, rfl⟩ := hrel
      by_cases hlt : k < n
      · have hki : k < I.length := by rw [HX.out]; exact hlt
        obtain ⟨key, hkey⟩ : ∃ key, key = I[k].1 := ⟨_, rfl⟩
        obtain ⟨val, hval⟩ : ∃ val, val = I[k].2 := ⟨_, rfl⟩
        have hcells := hc.out k hki
        have hmm := hm.out k hki hlt
        rw [← hkey, ← hval] at hcells hmm
        obtain ⟨hc0, hc1⟩ := hcells
        obtain ⟨hm0, hm1⟩ := hmm
        clear hkey hval
        have hlti : (k : Int) < (n : Int) := by omega
        by_cases hz : zz + (key.size + val.size) ≤ 1048576
        · have hzi : (zz : Int) + ((key.size : Int) + (val.size : Int)) ≤ 1048576 := by omega
          go_wp2
          go_quiet (fail)
          go_wp2
          go_roundw
          case rel => exact ⟨k + 1, zz + (key.size + val.size), q + nq, by omega, hz, by go_num, by go_num, rfl⟩
          case measure => simp [intOf]; omega
        · have hzi : (1048576 : Int) < (zz : Int) + ((key.size : Int) + (val.size : Int)) := by omega
          go_wp2
          go_quiet (fail)
          go_wp2
          go_ret
          exact ⟨⟨false, rfl⟩, q + nq, by first | rfl | rw [World.drewN_drewN]⟩
      · go_wp2
        go_ret
        exact ⟨⟨true, rfl⟩, q, rfl⟩

/-- at nil, and at no element -/
theorem bytes_none (ao : Option Addr) (c : Nat) (w : World) : Calls Try.prog 8 #[.slice ao 0 c] w fun e w' => e = .returned (.bool true) ∧ w' = w := by
  go_enter Try.func8, Try.ntmps8
  go_wp2
  refine wp_loop_rounds 1 ?_
  rw [rounds_succ]
  go_wp2
  go_ret
  exact ⟨rfl, rfl⟩
theorem fit_none (ao : Option Addr) (c : Nat) (w : World) : Calls Try.prog 9 #[.slice ao 0 c] w fun e w' => e = .returned (.bool true) ∧ w' = w := by
  go_enter Try.func9, Try.ntmps9
  go_wp2
  refine wp_loop_rounds 1 ?_
  rw [rounds_succ]
  go_wp2
  go_ret
  exact ⟨rfl, rfl⟩
end Go.Proofs.Qxb6602299a.Walks
