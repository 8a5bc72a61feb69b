/-
  The shelf's contracts at this dump, in plain words, as the kit's own tools wrote them for this program (remarks struck).
-/
import Derived.Shelf.Small.Utf8
import Derived.Shelf.Small.Strs
import Derived.Shelf.Strings.Search1
import Derived.Shelf.Strings.Search2
import Derived.Shelf.Strings.Cut
import Derived.Shelf.LaysM
import Derived.Shelf.Strings.Shaped
import Derived.Shelf.Strings.Prefix
import Derived.Shelf.Strings.Runes
import Derived.Shelf.Strings.IndexAny
import Derived.Shelf.Strings.AsciiSet
import Derived.Shelf.Strings.IndexAnyAll
import Derived.Shelf.Bytes.SlIndexAt
import Derived.Shelf.Bytes.SlSearch0
import Derived.Shelf.Bytes.IndexByte
import Derived.Test.Qxb6602430aProg
namespace Go.Proofs
open Go.Shelf
def Try.lays119_ren : Go.Shelf.Ren := ⟨fun | 119 => 49 | n => n, fun | 21 => 21 | 4 => 4 | n => n, fun | n => n⟩
theorem Try.lays119 : Go.Proofs.Lays.n119 Try.prog Try.lays119_ren := {
  mixed := by kernel_rfl
  f119 := Try.func49.trans (congrArg some (by kernel_rfl))
  t4 := Try.underlying4
  a4 := Try.isAgg4
  z4 := Try.sizeOf4
  v4 := Try.zeroValue4
  t21 := Try.underlying21
  a21 := Try.isAgg21
  z21 := Try.sizeOf21
  v21 := Try.zeroValue21 }
theorem Try.utf8_ValidRune (r : Int) (w : World) :
    Calls Try.prog 49 #[.int .i32 r] w fun e w' => e = .returned (.bool (Lib.validRune r)) ∧ w' = w := Any.utf8_ValidRune Try.lays119 r w
def Try.lays137_ren : Go.Shelf.Ren := ⟨fun | 137 => 34 | 217 => 44 | 266 => 52 | n => n, fun | 9 => 9 | 5 => 5 | 3 => 3 | n => n, fun | n => n⟩
theorem Try.lays137 : Go.Proofs.Lays.n137 Try.prog Try.lays137_ren := {
  mixed := by kernel_rfl
  f137 := Try.func34.trans (congrArg some (by kernel_rfl))
  f217 := Try.func44.trans (congrArg some (by kernel_rfl))
  f266 := Try.func52.trans (congrArg some (by kernel_rfl))
  t3 := Try.underlying3
  a3 := Try.isAgg3
  z3 := Try.sizeOf3
  v3 := Try.zeroValue3
  t5 := Try.underlying5
  a5 := Try.isAgg5
  z5 := Try.sizeOf5
  v5 := Try.zeroValue5
  t9 := Try.underlying9
  a9 := Try.isAgg9
  z9 := Try.sizeOf9
  v9 := Try.zeroValue9 }
open Go.RowKit in
theorem Try.strings_IndexByte (s : ByteArray) (c : Int) (w : World) :
    Calls Try.prog 34 #[.string s, .int .u8 c] w fun e w' => e = .returned (.int .i64 (Lib.indexByte s.data.toList c.toNat.toUInt8)) ∧ w' = w := Any.strings_IndexByte Try.lays137 s c w
def Try.lays217_ren : Go.Shelf.Ren := ⟨fun | 217 => 44 | 266 => 52 | n => n, fun | 9 => 9 | 5 => 5 | 3 => 3 | n => n, fun | n => n⟩
theorem Try.lays217 : Go.Proofs.Lays.n217 Try.prog Try.lays217_ren := {
  mixed := by kernel_rfl
  f217 := Try.func44.trans (congrArg some (by kernel_rfl))
  f266 := Try.func52.trans (congrArg some (by kernel_rfl))
  t3 := Try.underlying3
  a3 := Try.isAgg3
  z3 := Try.sizeOf3
  v3 := Try.zeroValue3
  t5 := Try.underlying5
  a5 := Try.isAgg5
  z5 := Try.sizeOf5
  v5 := Try.zeroValue5
  t9 := Try.underlying9
  a9 := Try.isAgg9
  z9 := Try.sizeOf9
  v9 := Try.zeroValue9 }
open Go.RowKit Go.Lib in
theorem Try.stringslite_IndexByte (s : ByteArray) (c : Int) (w : World) :
    Calls Try.prog 44 #[.string s, .int .u8 c] w fun e w' => e = .returned (.int .i64 (Lib.indexByte s.data.toList c.toNat.toUInt8)) ∧ w' = w := Any.stringslite_IndexByte Try.lays217 s c w
def Try.lays224_ren : Go.Shelf.Ren := ⟨fun | 224 => 50 | n => n, fun | 3 => 3 | n => n, fun | n => n⟩
theorem Try.lays224 : Go.Proofs.Lays.n224 Try.prog Try.lays224_ren := {
  mixed := by kernel_rfl
  f224 := Try.func50.trans (congrArg some (by kernel_rfl))
  t3 := Try.underlying3
  a3 := Try.isAgg3
  z3 := Try.sizeOf3
  v3 := Try.zeroValue3 }
open Go.RowKit Go.Lib in
theorem Try.bytealg_Cutover (n : Int) (h0 : 0 ≤ n) (h1 : n < 4611686018427387904) (w : World) :
    Calls Try.prog 50 #[.int .i64 n] w fun e w' => e = .returned (.int .i64 ((n + 16) / 8)) ∧ w' = w := Any.bytealg_Cutover Try.lays224 n h0 h1 w
def Try.lays314_ren : Go.Shelf.Ren := ⟨fun | 314 => 55 | n => n, fun | 9 => 9 | 51 => 60 | 3 => 3 | 4 => 4 | 5 => 5 | 46 => 58 | n => n, fun | n => n⟩
theorem Try.lays314 : Go.Proofs.Lays.n314 Try.prog Try.lays314_ren := {
  mixed := by kernel_rfl
  f314 := Try.func55.trans (congrArg some (by kernel_rfl))
  t3 := Try.underlying3
  a3 := Try.isAgg3
  z3 := Try.sizeOf3
  v3 := Try.zeroValue3
  t4 := Try.underlying4
  a4 := Try.isAgg4
  z4 := Try.sizeOf4
  v4 := Try.zeroValue4
  t5 := Try.underlying5
  a5 := Try.isAgg5
  z5 := Try.sizeOf5
  v5 := Try.zeroValue5
  t9 := Try.underlying9
  a9 := Try.isAgg9
  z9 := Try.sizeOf9
  v9 := Try.zeroValue9
  t46 := Try.underlying58
  a46 := Try.isAgg58
  z46 := Try.sizeOf58
  v46 := Try.zeroValue58
  t51 := Try.underlying60
  a51 := Try.isAgg60
  z51 := Try.sizeOf60
  v51 := Try.zeroValue60 }
open Go.RowKit Go.Lib in
theorem Try.bytealg_hashStr (sep : ByteArray) (hs : sep.size < 4294967281) (w : World) :
    Calls Try.prog 55 #[.string sep] w fun e w' => e = .returned (.tuple #[.int .u32 (RK.H sep.data.toList % 4294967296), .int .u32 (16777619 ^ sep.size % 4294967296)]) ∧ w' = w := Any.bytealg_hashStr Try.lays314 sep hs w
def Try.lays267_ren : Go.Shelf.Ren := ⟨fun | 267 => 54 | 314 => 55 | n => n, fun | 9 => 9 | 3 => 3 | 146 => 61 | 51 => 60 | 4 => 4 | 5 => 5 | 46 => 58 | n => n, fun | n => n⟩
theorem Try.lays267 : Go.Proofs.Lays.n267 Try.prog Try.lays267_ren := {
  mixed := by kernel_rfl
  f267 := Try.func54.trans (congrArg some (by kernel_rfl))
  f314 := Try.func55.trans (congrArg some (by kernel_rfl))
  t3 := Try.underlying3
  a3 := Try.isAgg3
  z3 := Try.sizeOf3
  v3 := Try.zeroValue3
  t4 := Try.underlying4
  a4 := Try.isAgg4
  z4 := Try.sizeOf4
  v4 := Try.zeroValue4
  t5 := Try.underlying5
  a5 := Try.isAgg5
  z5 := Try.sizeOf5
  v5 := Try.zeroValue5
  t9 := Try.underlying9
  a9 := Try.isAgg9
  z9 := Try.sizeOf9
  v9 := Try.zeroValue9
  t46 := Try.underlying58
  a46 := Try.isAgg58
  z46 := Try.sizeOf58
  v46 := Try.zeroValue58
  t51 := Try.underlying60
  a51 := Try.isAgg60
  z51 := Try.sizeOf60
  v51 := Try.zeroValue60
  t146 := Try.underlying61
  a146 := Try.isAgg61
  z146 := Try.sizeOf61
  v146 := Try.zeroValue61 }
open Go.RowKit Go.Lib in
theorem Try.bytealg_IndexRabinKarp (s sep : ByteArray) (h1 : 1 ≤ sep.size) (h2 : sep.size ≤ s.size) (hs : s.size < 4294967281) (w : World) :
    Calls Try.prog 54 #[.string s, .string sep] w fun e w' => e = .returned (.int .i64 (Lib.index s.data.toList sep.data.toList)) ∧ w' = w := Any.bytealg_IndexRabinKarp Try.lays267 s sep h1 h2 hs w
def Try.lays219_ren : Go.Shelf.Ren := ⟨fun | 219 => 48 | 217 => 44 | 225 => 51 | 224 => 50 | 267 => 54 | 266 => 52 | 314 => 55 | n => n, fun | 9 => 9 | 3 => 3 | 4 => 4 | 5 => 5 | 46 => 58 | 146 => 61 | 51 => 60 | n => n, fun | 1 => 0 | n => n⟩
theorem Try.lays219 : Go.Proofs.Lays.n219 Try.prog Try.lays219_ren := {
  mixed := by kernel_rfl
  f217 := Try.func44.trans (congrArg some (by kernel_rfl))
  f219 := Try.func48.trans (congrArg some (by kernel_rfl))
  f224 := Try.func50.trans (congrArg some (by kernel_rfl))
  f225 := Try.func51.trans (congrArg some (by kernel_rfl))
  f266 := Try.func52.trans (congrArg some (by kernel_rfl))
  f267 := Try.func54.trans (congrArg some (by kernel_rfl))
  f314 := Try.func55.trans (congrArg some (by kernel_rfl))
  t3 := Try.underlying3
  a3 := Try.isAgg3
  z3 := Try.sizeOf3
  v3 := Try.zeroValue3
  t4 := Try.underlying4
  a4 := Try.isAgg4
  z4 := Try.sizeOf4
  v4 := Try.zeroValue4
  t5 := Try.underlying5
  a5 := Try.isAgg5
  z5 := Try.sizeOf5
  v5 := Try.zeroValue5
  t9 := Try.underlying9
  a9 := Try.isAgg9
  z9 := Try.sizeOf9
  v9 := Try.zeroValue9
  t46 := Try.underlying58
  a46 := Try.isAgg58
  z46 := Try.sizeOf58
  v46 := Try.zeroValue58
  t51 := Try.underlying60
  a51 := Try.isAgg60
  z51 := Try.sizeOf60
  v51 := Try.zeroValue60
  t146 := Try.underlying61
  a146 := Try.isAgg61
  z146 := Try.sizeOf61
  v146 := Try.zeroValue61
  g1 := by kernel_rfl }
open Go.RowKit Go.Lib in
theorem Try.stringslite_Index_one (s : ByteArray) (c : UInt8) (w : World) :
    Calls Try.prog 48 #[.string s, .string ⟨#[c]⟩] w fun e w' => e = .returned (.int .i64 (Lib.indexByte s.data.toList c)) ∧ w' = w := Any.stringslite_Index_one Try.lays219 s c w
open Go.RowKit Go.Lib in
theorem Try.stringslite_Index (s sub : ByteArray) (m : Int) (w : World) (hs : s.size < 4294967281) (hm : w.cell? ⟨0, 0, none⟩ = some (.int .i64 m)) :
    Calls Try.prog 48 #[.string s, .string sub] w fun e w' => e = .returned (.int .i64 (Lib.index s.data.toList sub.data.toList)) ∧ w' = w := Any.stringslite_Index Try.lays219 s sub m w hs hm
def Try.lays220_ren : Go.Shelf.Ren := ⟨fun | 220 => 39 | 219 => 48 | 217 => 44 | 225 => 51 | 224 => 50 | 267 => 54 | 266 => 52 | 314 => 55 | n => n, fun | 9 => 9 | 4 => 4 | 3 => 3 | 5 => 5 | 46 => 58 | 146 => 61 | 51 => 60 | n => n, fun | 1 => 0 | n => n⟩
theorem Try.lays220 : Go.Proofs.Lays.n220 Try.prog Try.lays220_ren := {
  mixed := by kernel_rfl
  f217 := Try.func44.trans (congrArg some (by kernel_rfl))
  f219 := Try.func48.trans (congrArg some (by kernel_rfl))
  f220 := Try.func39.trans (congrArg some (by kernel_rfl))
  f224 := Try.func50.trans (congrArg some (by kernel_rfl))
  f225 := Try.func51.trans (congrArg some (by kernel_rfl))
  f266 := Try.func52.trans (congrArg some (by kernel_rfl))
  f267 := Try.func54.trans (congrArg some (by kernel_rfl))
  f314 := Try.func55.trans (congrArg some (by kernel_rfl))
  t3 := Try.underlying3
  a3 := Try.isAgg3
  z3 := Try.sizeOf3
  v3 := Try.zeroValue3
  t4 := Try.underlying4
  a4 := Try.isAgg4
  z4 := Try.sizeOf4
  v4 := Try.zeroValue4
  t5 := Try.underlying5
  a5 := Try.isAgg5
  z5 := Try.sizeOf5
  v5 := Try.zeroValue5
  t9 := Try.underlying9
  a9 := Try.isAgg9
  z9 := Try.sizeOf9
  v9 := Try.zeroValue9
  t46 := Try.underlying58
  a46 := Try.isAgg58
  z46 := Try.sizeOf58
  v46 := Try.zeroValue58
  t51 := Try.underlying60
  a51 := Try.isAgg60
  z51 := Try.sizeOf60
  v51 := Try.zeroValue60
  t146 := Try.underlying61
  a146 := Try.isAgg61
  z146 := Try.sizeOf61
  v146 := Try.zeroValue61
  g1 := by kernel_rfl }
open Go.RowKit Go.Lib in
theorem Try.stringslite_Cut (s sep : ByteArray) (m : Int) (w : World) (hs : s.size < 4294967281) (hm : w.cell? ⟨0, 0, none⟩ = some (.int .i64 m)) :
    Calls Try.prog 39 #[.string s, .string sep] w fun e w' => e = .returned (.tuple #[.string ⟨(Lib.cut s.data.toList sep.data.toList).1.toArray⟩, .string ⟨(Lib.cut s.data.toList sep.data.toList).2.1.toArray⟩, .bool (Lib.cut s.data.toList sep.data.toList).2.2]) ∧ ∃ n, w' = w.drewN n := Any.stringslite_Cut Try.lays220 s sep m w hs hm
def Try.lays145_ren : Go.Shelf.Ren := ⟨fun | 145 => 31 | 220 => 39 | 219 => 48 | 217 => 44 | 225 => 51 | 224 => 50 | 267 => 54 | 266 => 52 | 314 => 55 | n => n, fun | 9 => 9 | 4 => 4 | 59 => 41 | 3 => 3 | 5 => 5 | 46 => 58 | 146 => 61 | 51 => 60 | n => n, fun | 1 => 0 | n => n⟩
theorem Try.lays145 : Go.Proofs.Lays.n145 Try.prog Try.lays145_ren := {
  mixed := by kernel_rfl
  f145 := Try.func31.trans (congrArg some (by kernel_rfl))
  f217 := Try.func44.trans (congrArg some (by kernel_rfl))
  f219 := Try.func48.trans (congrArg some (by kernel_rfl))
  f220 := Try.func39.trans (congrArg some (by kernel_rfl))
  f224 := Try.func50.trans (congrArg some (by kernel_rfl))
  f225 := Try.func51.trans (congrArg some (by kernel_rfl))
  f266 := Try.func52.trans (congrArg some (by kernel_rfl))
  f267 := Try.func54.trans (congrArg some (by kernel_rfl))
  f314 := Try.func55.trans (congrArg some (by kernel_rfl))
  t3 := Try.underlying3
  a3 := Try.isAgg3
  z3 := Try.sizeOf3
  v3 := Try.zeroValue3
  t4 := Try.underlying4
  a4 := Try.isAgg4
  z4 := Try.sizeOf4
  v4 := Try.zeroValue4
  t5 := Try.underlying5
  a5 := Try.isAgg5
  z5 := Try.sizeOf5
  v5 := Try.zeroValue5
  t9 := Try.underlying9
  a9 := Try.isAgg9
  z9 := Try.sizeOf9
  v9 := Try.zeroValue9
  t46 := Try.underlying58
  a46 := Try.isAgg58
  z46 := Try.sizeOf58
  v46 := Try.zeroValue58
  t51 := Try.underlying60
  a51 := Try.isAgg60
  z51 := Try.sizeOf60
  v51 := Try.zeroValue60
  t59 := Try.underlying41
  a59 := Try.isAgg41
  z59 := Try.sizeOf41
  v59 := Try.zeroValue41
  t146 := Try.underlying61
  a146 := Try.isAgg61
  z146 := Try.sizeOf61
  v146 := Try.zeroValue61
  g1 := by kernel_rfl }
open Go.RowKit Go.Lib in
theorem Try.strings_Cut (s sep : ByteArray) (m : Int) (w : World) (hs : s.size < 4294967281) (hm : w.cell? ⟨0, 0, none⟩ = some (.int .i64 m)) :
    Calls Try.prog 31 #[.string s, .string sep] w fun e w' => e = .returned (.tuple #[.string ⟨(Lib.cut s.data.toList sep.data.toList).1.toArray⟩, .string ⟨(Lib.cut s.data.toList sep.data.toList).2.1.toArray⟩, .bool (Lib.cut s.data.toList sep.data.toList).2.2]) ∧ ∃ n, w' = w.drewN n := Any.strings_Cut Try.lays145 s sep m w hs hm
def Try.laysM219_ren : Go.Shelf.Ren := ⟨fun | 219 => 48 | 217 => 44 | 225 => 51 | 224 => 50 | 267 => 54 | 266 => 52 | 314 => 55 | n => n, fun | 9 => 9 | 3 => 3 | 4 => 4 | 5 => 5 | 46 => 58 | 146 => 61 | 51 => 60 | n => n, fun | 1 => 0 | n => n⟩
theorem Try.laysM219 : Go.Proofs.LaysM.n219 Try.prog Try.laysM219_ren := {
  mixed := by kernel_rfl
  f217 := Try.func44.trans (congrArg some (by kernel_rfl))
  f219 := Try.func48.trans (congrArg some (by kernel_rfl))
  f224 := Try.func50.trans (congrArg some (by kernel_rfl))
  f225 := Try.func51.trans (congrArg some (by kernel_rfl))
  f266 := Try.func52.trans (congrArg some (by kernel_rfl))
  f267 := Try.func54.trans (congrArg some (by kernel_rfl))
  f314 := Try.func55.trans (congrArg some (by kernel_rfl))
  t3 := Try.underlying3
  a3 := Try.isAgg3
  z3 := Try.sizeOf3
  v3 := Try.zeroValue3
  t4 := Try.underlying4
  a4 := Try.isAgg4
  z4 := Try.sizeOf4
  v4 := Try.zeroValue4
  t5 := Try.underlying5
  a5 := Try.isAgg5
  z5 := Try.sizeOf5
  v5 := Try.zeroValue5
  t9 := Try.underlying9
  a9 := Try.isAgg9
  z9 := Try.sizeOf9
  v9 := Try.zeroValue9
  t46 := Try.underlying58
  a46 := Try.isAgg58
  z46 := Try.sizeOf58
  v46 := Try.zeroValue58
  t51 := Try.underlying60
  a51 := Try.isAgg60
  z51 := Try.sizeOf60
  v51 := Try.zeroValue60
  t146 := Try.underlying61
  a146 := Try.isAgg61
  z146 := Try.sizeOf61
  v146 := Try.zeroValue61
  g1 := by kernel_rfl
  i3 := by kernel_rfl
  i4 := by kernel_rfl
  i5 := by kernel_rfl
  i9 := by kernel_rfl
  i46 := by kernel_rfl
  i51 := by kernel_rfl
  i146 := by kernel_rfl
  m1 := by kernel_rfl
  s1_3 := fun w h => Go.Proofs.cell_of_shapedOpen_int (zero := #[.int .i64 0]) (t := 3) h (of_decide_eq_true (by kernel_rfl)) (by kernel_rfl) rfl (by kernel_rfl) (by kernel_rfl) Try.underlying3 }
open Go.RowKit Go.Lib in
theorem Try.stringslite_Index_shaped (s sub : ByteArray) (w : World) (h : w.ShapedOpen Try.prog) (hs : s.size < 4294967281) :
    Calls Try.prog 48 #[.string s, .string sub] w fun e w' => e = .returned (.int .i64 (Lib.index s.data.toList sub.data.toList)) ∧ w' = w := Any.stringslite_Index_shaped Try.laysM219 s sub w h hs
def Try.laysM220_ren : Go.Shelf.Ren := ⟨fun | 220 => 39 | 219 => 48 | 217 => 44 | 225 => 51 | 224 => 50 | 267 => 54 | 266 => 52 | 314 => 55 | n => n, fun | 9 => 9 | 4 => 4 | 3 => 3 | 5 => 5 | 46 => 58 | 146 => 61 | 51 => 60 | n => n, fun | 1 => 0 | n => n⟩
theorem Try.laysM220 : Go.Proofs.LaysM.n220 Try.prog Try.laysM220_ren := {
  mixed := by kernel_rfl
  f217 := Try.func44.trans (congrArg some (by kernel_rfl))
  f219 := Try.func48.trans (congrArg some (by kernel_rfl))
  f220 := Try.func39.trans (congrArg some (by kernel_rfl))
  f224 := Try.func50.trans (congrArg some (by kernel_rfl))
  f225 := Try.func51.trans (congrArg some (by kernel_rfl))
  f266 := Try.func52.trans (congrArg some (by kernel_rfl))
  f267 := Try.func54.trans (congrArg some (by kernel_rfl))
  f314 := Try.func55.trans (congrArg some (by kernel_rfl))
  t3 := Try.underlying3
  a3 := Try.isAgg3
  z3 := Try.sizeOf3
  v3 := Try.zeroValue3
  t4 := Try.underlying4
  a4 := Try.isAgg4
  z4 := Try.sizeOf4
  v4 := Try.zeroValue4
  t5 := Try.underlying5
  a5 := Try.isAgg5
  z5 := Try.sizeOf5
  v5 := Try.zeroValue5
  t9 := Try.underlying9
  a9 := Try.isAgg9
  z9 := Try.sizeOf9
  v9 := Try.zeroValue9
  t46 := Try.underlying58
  a46 := Try.isAgg58
  z46 := Try.sizeOf58
  v46 := Try.zeroValue58
  t51 := Try.underlying60
  a51 := Try.isAgg60
  z51 := Try.sizeOf60
  v51 := Try.zeroValue60
  t146 := Try.underlying61
  a146 := Try.isAgg61
  z146 := Try.sizeOf61
  v146 := Try.zeroValue61
  g1 := by kernel_rfl
  i3 := by kernel_rfl
  i4 := by kernel_rfl
  i5 := by kernel_rfl
  i9 := by kernel_rfl
  i46 := by kernel_rfl
  i51 := by kernel_rfl
  i146 := by kernel_rfl
  m1 := by kernel_rfl
  s1_3 := fun w h => Go.Proofs.cell_of_shapedOpen_int (zero := #[.int .i64 0]) (t := 3) h (of_decide_eq_true (by kernel_rfl)) (by kernel_rfl) rfl (by kernel_rfl) (by kernel_rfl) Try.underlying3 }
open Go.RowKit Go.Lib in
theorem Try.stringslite_Cut_shaped (s sep : ByteArray) (w : World) (h : w.ShapedOpen Try.prog) (hs : s.size < 4294967281) :
    Calls Try.prog 39 #[.string s, .string sep] w fun e w' => e = .returned (.tuple #[.string ⟨(Lib.cut s.data.toList sep.data.toList).1.toArray⟩, .string ⟨(Lib.cut s.data.toList sep.data.toList).2.1.toArray⟩, .bool (Lib.cut s.data.toList sep.data.toList).2.2]) ∧ ∃ n, w' = w.drewN n := Any.stringslite_Cut_shaped Try.laysM220 s sep w h hs
def Try.laysM145_ren : Go.Shelf.Ren := ⟨fun | 145 => 31 | 220 => 39 | 219 => 48 | 217 => 44 | 225 => 51 | 224 => 50 | 267 => 54 | 266 => 52 | 314 => 55 | n => n, fun | 9 => 9 | 4 => 4 | 59 => 41 | 3 => 3 | 5 => 5 | 46 => 58 | 146 => 61 | 51 => 60 | n => n, fun | 1 => 0 | n => n⟩
theorem Try.laysM145 : Go.Proofs.LaysM.n145 Try.prog Try.laysM145_ren := {
  mixed := by kernel_rfl
  f145 := Try.func31.trans (congrArg some (by kernel_rfl))
  f217 := Try.func44.trans (congrArg some (by kernel_rfl))
  f219 := Try.func48.trans (congrArg some (by kernel_rfl))
  f220 := Try.func39.trans (congrArg some (by kernel_rfl))
  f224 := Try.func50.trans (congrArg some (by kernel_rfl))
  f225 := Try.func51.trans (congrArg some (by kernel_rfl))
  f266 := Try.func52.trans (congrArg some (by kernel_rfl))
  f267 := Try.func54.trans (congrArg some (by kernel_rfl))
  f314 := Try.func55.trans (congrArg some (by kernel_rfl))
  t3 := Try.underlying3
  a3 := Try.isAgg3
  z3 := Try.sizeOf3
  v3 := Try.zeroValue3
  t4 := Try.underlying4
  a4 := Try.isAgg4
  z4 := Try.sizeOf4
  v4 := Try.zeroValue4
  t5 := Try.underlying5
  a5 := Try.isAgg5
  z5 := Try.sizeOf5
  v5 := Try.zeroValue5
  t9 := Try.underlying9
  a9 := Try.isAgg9
  z9 := Try.sizeOf9
  v9 := Try.zeroValue9
  t46 := Try.underlying58
  a46 := Try.isAgg58
  z46 := Try.sizeOf58
  v46 := Try.zeroValue58
  t51 := Try.underlying60
  a51 := Try.isAgg60
  z51 := Try.sizeOf60
  v51 := Try.zeroValue60
  t59 := Try.underlying41
  a59 := Try.isAgg41
  z59 := Try.sizeOf41
  v59 := Try.zeroValue41
  t146 := Try.underlying61
  a146 := Try.isAgg61
  z146 := Try.sizeOf61
  v146 := Try.zeroValue61
  g1 := by kernel_rfl
  i3 := by kernel_rfl
  i4 := by kernel_rfl
  i5 := by kernel_rfl
  i9 := by kernel_rfl
  i46 := by kernel_rfl
  i51 := by kernel_rfl
  i59 := by kernel_rfl
  i146 := by kernel_rfl
  m1 := by kernel_rfl
  s1_3 := fun w h => Go.Proofs.cell_of_shapedOpen_int (zero := #[.int .i64 0]) (t := 3) h (of_decide_eq_true (by kernel_rfl)) (by kernel_rfl) rfl (by kernel_rfl) (by kernel_rfl) Try.underlying3 }
open Go.RowKit Go.Lib in
theorem Try.strings_Cut_shaped (s sep : ByteArray) (w : World) (h : w.ShapedOpen Try.prog) (hs : s.size < 4294967281) :
    Calls Try.prog 31 #[.string s, .string sep] w fun e w' => e = .returned (.tuple #[.string ⟨(Lib.cut s.data.toList sep.data.toList).1.toArray⟩, .string ⟨(Lib.cut s.data.toList sep.data.toList).2.1.toArray⟩, .bool (Lib.cut s.data.toList sep.data.toList).2.2]) ∧ ∃ n, w' = w.drewN n := Any.strings_Cut_shaped Try.laysM145 s sep w h hs
def Try.lays206_ren : Go.Shelf.Ren := ⟨fun | 206 => 38 | n => n, fun | 9 => 9 | 4 => 4 | 3 => 3 | n => n, fun | n => n⟩
theorem Try.lays206 : Go.Proofs.Lays.n206 Try.prog Try.lays206_ren := {
  mixed := by kernel_rfl
  f206 := Try.func38.trans (congrArg some (by kernel_rfl))
  t3 := Try.underlying3
  a3 := Try.isAgg3
  z3 := Try.sizeOf3
  v3 := Try.zeroValue3
  t4 := Try.underlying4
  a4 := Try.isAgg4
  z4 := Try.sizeOf4
  v4 := Try.zeroValue4
  t9 := Try.underlying9
  a9 := Try.isAgg9
  z9 := Try.sizeOf9
  v9 := Try.zeroValue9 }
open Go.RowKit Go.Lib in
theorem Try.stringslite_HasPrefix (s p : ByteArray) (w : World) :
    Calls Try.prog 38 #[.string s, .string p] w fun e w' => e = .returned (.bool (Lib.hasPrefix s.data.toList p.data.toList)) ∧ w' = w := Any.stringslite_HasPrefix Try.lays206 s p w
def Try.lays99_ren : Go.Shelf.Ren := ⟨fun | 99 => 30 | 206 => 38 | n => n, fun | 9 => 9 | 4 => 4 | 3 => 3 | n => n, fun | n => n⟩
theorem Try.lays99 : Go.Proofs.Lays.n99 Try.prog Try.lays99_ren := {
  mixed := by kernel_rfl
  f99 := Try.func30.trans (congrArg some (by kernel_rfl))
  f206 := Try.func38.trans (congrArg some (by kernel_rfl))
  t3 := Try.underlying3
  a3 := Try.isAgg3
  z3 := Try.sizeOf3
  v3 := Try.zeroValue3
  t4 := Try.underlying4
  a4 := Try.isAgg4
  z4 := Try.sizeOf4
  v4 := Try.zeroValue4
  t9 := Try.underlying9
  a9 := Try.isAgg9
  z9 := Try.sizeOf9
  v9 := Try.zeroValue9 }
open Go.RowKit Go.Lib in
theorem Try.strings_HasPrefix (s p : ByteArray) (w : World) :
    Calls Try.prog 30 #[.string s, .string p] w fun e w' => e = .returned (.bool (Lib.hasPrefix s.data.toList p.data.toList)) ∧ w' = w := Any.strings_HasPrefix Try.lays99 s p w
def Try.lays152_ren : Go.Shelf.Ren := ⟨fun | 152 => 40 | 137 => 34 | 119 => 49 | 224 => 50 | 225 => 51 | 217 => 44 | 266 => 52 | n => n, fun | 9 => 9 | 21 => 21 | 3 => 3 | 4 => 4 | 5 => 5 | 0 => 0 | 46 => 58 | n => n, fun | n => n⟩
theorem Try.lays152 : Go.Proofs.Lays.n152 Try.prog Try.lays152_ren := {
  mixed := by kernel_rfl
  f119 := Try.func49.trans (congrArg some (by kernel_rfl))
  f137 := Try.func34.trans (congrArg some (by kernel_rfl))
  f152 := Try.func40.trans (congrArg some (by kernel_rfl))
  f217 := Try.func44.trans (congrArg some (by kernel_rfl))
  f224 := Try.func50.trans (congrArg some (by kernel_rfl))
  f225 := Try.func51.trans (congrArg some (by kernel_rfl))
  f266 := Try.func52.trans (congrArg some (by kernel_rfl))
  t0 := Try.underlying0
  a0 := Try.isAgg0
  z0 := Try.sizeOf0
  v0 := Try.zeroValue0
  t3 := Try.underlying3
  a3 := Try.isAgg3
  z3 := Try.sizeOf3
  v3 := Try.zeroValue3
  t4 := Try.underlying4
  a4 := Try.isAgg4
  z4 := Try.sizeOf4
  v4 := Try.zeroValue4
  t5 := Try.underlying5
  a5 := Try.isAgg5
  z5 := Try.sizeOf5
  v5 := Try.zeroValue5
  t9 := Try.underlying9
  a9 := Try.isAgg9
  z9 := Try.sizeOf9
  v9 := Try.zeroValue9
  t21 := Try.underlying21
  a21 := Try.isAgg21
  z21 := Try.sizeOf21
  v21 := Try.zeroValue21
  t46 := Try.underlying58
  a46 := Try.isAgg58
  z46 := Try.sizeOf58
  v46 := Try.zeroValue58 }
open Go.RowKit Go.Lib in
theorem Try.strings_IndexRune_ascii (s : ByteArray) (r : Int) (w : World) (h0 : 0 ≤ r) (h1 : r < 128) :
    Calls Try.prog 40 #[.string s, .int .i32 r] w fun e w' => e = .returned (.int .i64 (Lib.indexByte s.data.toList r.toNat.toUInt8)) ∧ w' = w := Any.strings_IndexRune_ascii Try.lays152 s r w h0 h1
def Try.lays226_ren : Go.Shelf.Ren := ⟨fun | 226 => 41 | n => n, fun | 3 => 3 | 4 => 4 | n => n, fun | n => n⟩
theorem Try.lays226 : Go.Proofs.Lays.n226 Try.prog Try.lays226_ren := {
  mixed := by kernel_rfl
  f226 := Try.func41.trans (congrArg some (by kernel_rfl))
  t3 := Try.underlying3
  a3 := Try.isAgg3
  z3 := Try.sizeOf3
  v3 := Try.zeroValue3
  t4 := Try.underlying4
  a4 := Try.isAgg4
  z4 := Try.sizeOf4
  v4 := Try.zeroValue4 }
open Go.RowKit Go.Lib in
theorem Try.strings_shouldUseASCIISet (n : Int) (w : World) :
    Calls Try.prog 41 #[.int .i64 n] w fun e w' => e = .returned (.bool (decide (8 < n))) ∧ w' = w := Any.strings_shouldUseASCIISet Try.lays226 n w
def Try.lays153_ren : Go.Shelf.Ren := ⟨fun | 153 => 33 | 152 => 40 | 226 => 41 | 227 => 42 | 228 => 43 | 137 => 34 | 119 => 49 | 224 => 50 | 225 => 51 | 217 => 44 | 266 => 52 | n => n, fun | 9 => 9 | 3 => 3 | 4 => 4 | 5 => 5 | 21 => 21 | 117 => 50 | 116 => 49 | 0 => 0 | 46 => 58 | 124 => 59 | n => n, fun | n => n⟩
theorem Try.lays153 : Go.Proofs.Lays.n153 Try.prog Try.lays153_ren := {
  mixed := by kernel_rfl
  f119 := Try.func49.trans (congrArg some (by kernel_rfl))
  f137 := Try.func34.trans (congrArg some (by kernel_rfl))
  f152 := Try.func40.trans (congrArg some (by kernel_rfl))
  f153 := Try.func33.trans (congrArg some (by kernel_rfl))
  f217 := Try.func44.trans (congrArg some (by kernel_rfl))
  f224 := Try.func50.trans (congrArg some (by kernel_rfl))
  f225 := Try.func51.trans (congrArg some (by kernel_rfl))
  f226 := Try.func41.trans (congrArg some (by kernel_rfl))
  f227 := Try.func42.trans (congrArg some (by kernel_rfl))
  f228 := Try.func43.trans (congrArg some (by kernel_rfl))
  f266 := Try.func52.trans (congrArg some (by kernel_rfl))
  t0 := Try.underlying0
  a0 := Try.isAgg0
  z0 := Try.sizeOf0
  v0 := Try.zeroValue0
  t3 := Try.underlying3
  a3 := Try.isAgg3
  z3 := Try.sizeOf3
  v3 := Try.zeroValue3
  t4 := Try.underlying4
  a4 := Try.isAgg4
  z4 := Try.sizeOf4
  v4 := Try.zeroValue4
  t5 := Try.underlying5
  a5 := Try.isAgg5
  z5 := Try.sizeOf5
  v5 := Try.zeroValue5
  t9 := Try.underlying9
  a9 := Try.isAgg9
  z9 := Try.sizeOf9
  v9 := Try.zeroValue9
  t21 := Try.underlying21
  a21 := Try.isAgg21
  z21 := Try.sizeOf21
  v21 := Try.zeroValue21
  t46 := Try.underlying58
  a46 := Try.isAgg58
  z46 := Try.sizeOf58
  v46 := Try.zeroValue58
  t116 := Try.underlying49
  a116 := Try.isAgg49
  z116 := Try.sizeOf49
  t117 := Try.underlying50
  a117 := Try.isAgg50
  z117 := Try.sizeOf50
  v117 := Try.zeroValue50
  t124 := Try.underlying59
  a124 := Try.isAgg59
  z124 := Try.sizeOf59
  v124 := Try.zeroValue59 }
open Go.RowKit Go.Lib in
theorem Try.strings_IndexAny_none (s chars : ByteArray) (w : World) (h0 : chars.size = 0) :
    Calls Try.prog 33 #[.string s, .string chars] w fun e w' => e = .returned (.int .i64 (Lib.indexAny s.data.toList chars.data.toList)) ∧ w' = w := Any.strings_IndexAny_none Try.lays153 s chars w h0
open Go.RowKit Go.Lib in
theorem Try.strings_IndexAny_one (s chars : ByteArray) (w : World) (h1 : chars.size = 1) (hascii : ∀ (j : Nat) b, chars.data.toList[j]? = some b → b.toNat < 128) :
    Calls Try.prog 33 #[.string s, .string chars] w fun e w' => e = .returned (.int .i64 (Lib.indexAny s.data.toList chars.data.toList)) ∧ w' = w := Any.strings_IndexAny_one Try.lays153 s chars w h1 hascii
open Go.RowKit Go.Lib in
theorem Try.strings_IndexAny_short (s chars : ByteArray) (w : World) (h2 : 2 ≤ chars.size) (h8 : s.size ≤ 8) (hascii : ∀ (j : Nat) b, s.data.toList[j]? = some b → b.toNat < 128) :
    Calls Try.prog 33 #[.string s, .string chars] w fun e w' => e = .returned (.int .i64 (Lib.indexAny s.data.toList chars.data.toList)) ∧ ∃ pos, w' = w.iter s pos := Any.strings_IndexAny_short Try.lays153 s chars w h2 h8 hascii
def Try.lays227_ren : Go.Shelf.Ren := ⟨fun | 227 => 42 | n => n, fun | 9 => 9 | 116 => 49 | 4 => 4 | 0 => 0 | 3 => 3 | 5 => 5 | n => n, fun | n => n⟩
theorem Try.lays227 : Go.Proofs.Lays.n227 Try.prog Try.lays227_ren := {
  mixed := by kernel_rfl
  f227 := Try.func42.trans (congrArg some (by kernel_rfl))
  t0 := Try.underlying0
  a0 := Try.isAgg0
  z0 := Try.sizeOf0
  v0 := Try.zeroValue0
  t3 := Try.underlying3
  a3 := Try.isAgg3
  z3 := Try.sizeOf3
  v3 := Try.zeroValue3
  t4 := Try.underlying4
  a4 := Try.isAgg4
  z4 := Try.sizeOf4
  v4 := Try.zeroValue4
  t5 := Try.underlying5
  a5 := Try.isAgg5
  z5 := Try.sizeOf5
  v5 := Try.zeroValue5
  t9 := Try.underlying9
  a9 := Try.isAgg9
  z9 := Try.sizeOf9
  v9 := Try.zeroValue9
  t116 := Try.underlying49
  a116 := Try.isAgg49
  z116 := Try.sizeOf49 }
open Go.RowKit Go.Lib in
theorem Try.strings_makeASCIISet (hv116 : ∀ w, (zeroValue 49).run Try.prog w = .ok (.agg (Array.replicate 256 (.bool false))) w) (chars : ByteArray) (w : World) (hs : chars.size < 4294967281) (hascii : ∀ (j : Nat) b, chars.data.toList[j]? = some b → b.toNat < 128) :
    Calls Try.prog 42 #[.string chars] w fun e w' => e = .returned (.tuple #[.agg (Lib.setCells chars.data.toList), .bool true]) ∧ w' = w.alloc (.cells (Lib.setCells chars.data.toList) 49) := Any.strings_makeASCIISet Try.lays227 hv116 (by kernel_rfl) chars w hs hascii
def Try.lays228_ren : Go.Shelf.Ren := ⟨fun | 228 => 43 | n => n, fun | 124 => 59 | 5 => 5 | 4 => 4 | 0 => 0 | 116 => 49 | n => n, fun | n => n⟩
theorem Try.lays228 : Go.Proofs.Lays.n228 Try.prog Try.lays228_ren := {
  mixed := by kernel_rfl
  f228 := Try.func43.trans (congrArg some (by kernel_rfl))
  t0 := Try.underlying0
  a0 := Try.isAgg0
  z0 := Try.sizeOf0
  v0 := Try.zeroValue0
  t4 := Try.underlying4
  a4 := Try.isAgg4
  z4 := Try.sizeOf4
  v4 := Try.zeroValue4
  t5 := Try.underlying5
  a5 := Try.isAgg5
  z5 := Try.sizeOf5
  v5 := Try.zeroValue5
  t116 := Try.underlying49
  a116 := Try.isAgg49
  z116 := Try.sizeOf49
  t124 := Try.underlying59
  a124 := Try.isAgg59
  z124 := Try.sizeOf59
  v124 := Try.zeroValue59 }
open Go.RowKit Go.Lib in
theorem Try.asciiSet_contains (b : Nat) (x : UInt8) (v : Bool) (w : World) (hc : w.cell? ⟨b, x.toNat, none⟩ = some (.bool v)) :
    Calls Try.prog 43 #[.pointer (some ⟨b, 0, none⟩), .int .u8 x.toNat] w fun e w' => e = .returned (.bool v) ∧ w' = w := Any.asciiSet_contains Try.lays228 b x v w hc
open Go.RowKit Go.Lib in
theorem Try.strings_IndexAny_long (hv116 : ∀ w, (zeroValue 49).run Try.prog w = .ok (.agg (Array.replicate 256 (.bool false))) w) (s chars : ByteArray) (w : World) (h2 : 2 ≤ chars.size) (h8 : 8 < s.size) (hs : s.size < 4294967281) (hcs : chars.size < 4294967281) (hascii : ∀ (j : Nat) b, chars.data.toList[j]? = some b → b.toNat < 128) :
    Calls Try.prog 33 #[.string s, .string chars] w fun e w' => e = .returned (.int .i64 (Lib.indexAny s.data.toList chars.data.toList)) ∧ w' = ((w.alloc (.cells (Lib.setCells chars.data.toList) 49)).alloc (.cells (Lib.setCells chars.data.toList) 49)) := Any.strings_IndexAny_long Try.lays153 hv116 (by kernel_rfl) s chars w h2 h8 hs hcs hascii
open Go.RowKit Go.Lib in
theorem Try.strings_IndexAny (hv116 : ∀ w, (zeroValue 49).run Try.prog w = .ok (.agg (Array.replicate 256 (.bool false))) w) (s chars : ByteArray) (w : World) (hs : s.size < 4294967281) (hcs : chars.size < 4294967281) (has : ∀ (j : Nat) b, s.data.toList[j]? = some b → b.toNat < 128) (hac : ∀ (j : Nat) b, chars.data.toList[j]? = some b → b.toNat < 128) :
    Calls Try.prog 33 #[.string s, .string chars] w fun e w' => e = .returned (.int .i64 (Lib.indexAny s.data.toList chars.data.toList)) ∧ Below w.heap.size w w' := Any.strings_IndexAny Try.lays153 hv116 (by kernel_rfl) s chars w hs hcs has hac
open Go.RowKit Go.Lib in
theorem Try.strings_IndexAny_laid (s chars : ByteArray) (w : World) (hs : s.size < 4294967281) (hcs : chars.size < 4294967281) (has : ∀ (j : Nat) b, s.data.toList[j]? = some b → b.toNat < 128) (hac : ∀ (j : Nat) b, chars.data.toList[j]? = some b → b.toNat < 128) :
    Calls Try.prog 33 #[.string s, .string chars] w fun e w' => e = .returned (.int .i64 (Lib.indexAny s.data.toList chars.data.toList)) ∧ Below w.heap.size w w' := Any.strings_IndexAny_laid Try.lays153 (by kernel_rfl) s chars w hs hcs has hac
def Try.lays187_ren : Go.Shelf.Ren := ⟨fun | 187 => 47 | 255 => 53 | n => n, fun | 37 => 30 | 5 => 5 | 3 => 3 | n => n, fun | n => n⟩
theorem Try.lays187 : Go.Proofs.Lays.n187 Try.prog Try.lays187_ren := {
  mixed := by kernel_rfl
  f187 := Try.func47.trans (congrArg some (by kernel_rfl))
  f255 := Try.func53.trans (congrArg some (by kernel_rfl))
  t3 := Try.underlying3
  a3 := Try.isAgg3
  z3 := Try.sizeOf3
  v3 := Try.zeroValue3
  t5 := Try.underlying5
  a5 := Try.isAgg5
  z5 := Try.sizeOf5
  v5 := Try.zeroValue5
  t37 := Try.underlying30
  a37 := Try.isAgg30
  z37 := Try.sizeOf30
  v37 := Try.zeroValue30 }
open Go.RowKit Go.Lib in
theorem Try.bytes_IndexByte_at (a : Addr) (n c : Nat) (xs : List Int) (cv : Int) (w : World) (hx : xs.length = n) (hc : ∀ i, i < n → w.cell? (a.add i) = some (.int .u8 (xs.getD i 0))) :
    Calls Try.prog 47 #[.slice (some a) n c, .int .u8 cv] w fun e w' => e = .returned (.int .i64 (Lib.indexByte (Lib.bytesOf xs) cv.toNat.toUInt8)) ∧ w' = w := Any.bytes_IndexByte_at Try.lays187 a n c xs cv w hx hc
open Go.Proofs Go.RowKit Go.Lib in
theorem Try.bytes_IndexByte_bytes (b o cap : Nat) (t : ByteArray) (cv : Int) (w : World) (hc : Lib.Bytes w b o t) :
    Calls Try.prog 47 #[.slice (some ⟨b, o, none⟩) t.size cap, .int .u8 cv] w fun e w' => e = .returned (.int .i64 (Lib.indexByte t.data.toList cv.toNat.toUInt8)) ∧ w' = w := Any.bytes_IndexByte_bytes Try.lays187 b o cap t cv w hc
theorem Try.bytes_IndexByte (b o n c : Nat) (xs : List Int) (cv : Int) (w : World) (hx : xs.length = n) (hc : ∀ i, i < n → w.cell? ⟨b, o + i, none⟩ = some (.int .u8 (xs.getD i 0))) :
    Calls Try.prog 47 #[.slice (some ⟨b, o, none⟩) n c, .int .u8 cv] w fun e w' => e = .returned (.int .i64 (Lib.indexByte (Lib.bytesOf xs) cv.toNat.toUInt8)) ∧ w' = w := Any.bytes_IndexByte Try.lays187 b o n c xs cv w hx hc
theorem Try.bytes_IndexByte_nil (cv : Int) (w : World) :
    Calls Try.prog 47 #[.slice none 0 0, .int .u8 cv] w fun e w' => e = .returned (.int .i64 (-1)) ∧ w' = w := Any.bytes_IndexByte_nil Try.lays187 cv w
end Go.Proofs
