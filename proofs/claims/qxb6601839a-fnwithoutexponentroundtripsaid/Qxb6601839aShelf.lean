/-
  THE SHELF's CONTRACTS that the road takes, laid at this dump by lay-shelf.mjs and lay-plain.mjs, cut to what is used.
-/
import Derived.Shelf.Small.Utf8
import Derived.Shelf.Strings.Search1
import Derived.Shelf.Strings.Prefix
import Derived.Shelf.Strings.Runes
import Derived.Shelf.Strings.IndexAny
import Derived.Shelf.Strings.AsciiSet
import Derived.Shelf.Strings.IndexAnyAll
import Derived.Test.Qxb6601839aProg
namespace Go.Proofs
open Go.Shelf
def Try.lays119_ren : Go.Shelf.Ren := ⟨fun | 119 => 31 | n => n, fun | 21 => 21 | 4 => 4 | n => n, fun | n => n⟩
theorem Try.lays119 : Go.Proofs.Lays.n119 Try.prog Try.lays119_ren := {
  mixed := by kernel_rfl
  f119 := Try.func31.trans (congrArg some (by kernel_rfl))
  t4 := Try.underlying4
  a4 := Try.isAgg4
  z4 := Try.sizeOf4
  v4 := Try.zeroValue4
  t21 := Try.underlying21
  a21 := Try.isAgg21
  z21 := Try.sizeOf21
  v21 := Try.zeroValue21 }
theorem Try.utf8_ValidRune (r : Int) (w : World) :
    Calls Try.prog 31 #[.int .i32 r] w fun e w' => e = .returned (.bool (Lib.validRune r)) ∧ w' = w := Any.utf8_ValidRune Try.lays119 r w
def Try.lays137_ren : Go.Shelf.Ren := ⟨fun | 137 => 30 | 217 => 35 | 266 => 36 | n => n, fun | 9 => 9 | 5 => 5 | 3 => 3 | n => n, fun | n => n⟩
theorem Try.lays137 : Go.Proofs.Lays.n137 Try.prog Try.lays137_ren := {
  mixed := by kernel_rfl
  f137 := Try.func30.trans (congrArg some (by kernel_rfl))
  f217 := Try.func35.trans (congrArg some (by kernel_rfl))
  f266 := Try.func36.trans (congrArg some (by kernel_rfl))
  t3 := Try.underlying3
  a3 := Try.isAgg3
  z3 := Try.sizeOf3
  v3 := Try.zeroValue3
  t5 := Try.underlying5
  a5 := Try.isAgg5
  z5 := Try.sizeOf5
  v5 := Try.zeroValue5
  t9 := Try.underlying9
  a9 := Try.isAgg9
  z9 := Try.sizeOf9
  v9 := Try.zeroValue9 }
open Go.RowKit in
theorem Try.strings_IndexByte (s : ByteArray) (c : Int) (w : World) :
    Calls Try.prog 30 #[.string s, .int .u8 c] w fun e w' => e = .returned (.int .i64 (Lib.indexByte s.data.toList c.toNat.toUInt8)) ∧ w' = w := Any.strings_IndexByte Try.lays137 s c w
def Try.lays206_ren : Go.Shelf.Ren := ⟨fun | 206 => 34 | n => n, fun | 9 => 9 | 4 => 4 | 3 => 3 | n => n, fun | n => n⟩
theorem Try.lays206 : Go.Proofs.Lays.n206 Try.prog Try.lays206_ren := {
  mixed := by kernel_rfl
  f206 := Try.func34.trans (congrArg some (by kernel_rfl))
  t3 := Try.underlying3
  a3 := Try.isAgg3
  z3 := Try.sizeOf3
  v3 := Try.zeroValue3
  t4 := Try.underlying4
  a4 := Try.isAgg4
  z4 := Try.sizeOf4
  v4 := Try.zeroValue4
  t9 := Try.underlying9
  a9 := Try.isAgg9
  z9 := Try.sizeOf9
  v9 := Try.zeroValue9 }
def Try.lays99_ren : Go.Shelf.Ren := ⟨fun | 99 => 29 | 206 => 34 | n => n, fun | 9 => 9 | 4 => 4 | 3 => 3 | n => n, fun | n => n⟩
theorem Try.lays99 : Go.Proofs.Lays.n99 Try.prog Try.lays99_ren := {
  mixed := by kernel_rfl
  f99 := Try.func29.trans (congrArg some (by kernel_rfl))
  f206 := Try.func34.trans (congrArg some (by kernel_rfl))
  t3 := Try.underlying3
  a3 := Try.isAgg3
  z3 := Try.sizeOf3
  v3 := Try.zeroValue3
  t4 := Try.underlying4
  a4 := Try.isAgg4
  z4 := Try.sizeOf4
  v4 := Try.zeroValue4
  t9 := Try.underlying9
  a9 := Try.isAgg9
  z9 := Try.sizeOf9
  v9 := Try.zeroValue9 }
open Go.RowKit Go.Lib in
theorem Try.strings_HasPrefix (s p : ByteArray) (w : World) :
    Calls Try.prog 29 #[.string s, .string p] w fun e w' => e = .returned (.bool (Lib.hasPrefix s.data.toList p.data.toList)) ∧ w' = w := Any.strings_HasPrefix Try.lays99 s p w
def Try.lays152_ren : Go.Shelf.Ren := ⟨fun | 152 => 25 | 137 => 30 | 119 => 31 | 224 => 32 | 225 => 33 | 217 => 35 | 266 => 36 | n => n, fun | 9 => 9 | 21 => 21 | 3 => 3 | 4 => 4 | 5 => 5 | 0 => 0 | 46 => 46 | n => n, fun | n => n⟩
theorem Try.lays152 : Go.Proofs.Lays.n152 Try.prog Try.lays152_ren := {
  mixed := by kernel_rfl
  f119 := Try.func31.trans (congrArg some (by kernel_rfl))
  f137 := Try.func30.trans (congrArg some (by kernel_rfl))
  f152 := Try.func25.trans (congrArg some (by kernel_rfl))
  f217 := Try.func35.trans (congrArg some (by kernel_rfl))
  f224 := Try.func32.trans (congrArg some (by kernel_rfl))
  f225 := Try.func33.trans (congrArg some (by kernel_rfl))
  f266 := Try.func36.trans (congrArg some (by kernel_rfl))
  t0 := Try.underlying0
  a0 := Try.isAgg0
  z0 := Try.sizeOf0
  v0 := Try.zeroValue0
  t3 := Try.underlying3
  a3 := Try.isAgg3
  z3 := Try.sizeOf3
  v3 := Try.zeroValue3
  t4 := Try.underlying4
  a4 := Try.isAgg4
  z4 := Try.sizeOf4
  v4 := Try.zeroValue4
  t5 := Try.underlying5
  a5 := Try.isAgg5
  z5 := Try.sizeOf5
  v5 := Try.zeroValue5
  t9 := Try.underlying9
  a9 := Try.isAgg9
  z9 := Try.sizeOf9
  v9 := Try.zeroValue9
  t21 := Try.underlying21
  a21 := Try.isAgg21
  z21 := Try.sizeOf21
  v21 := Try.zeroValue21
  t46 := Try.underlying46
  a46 := Try.isAgg46
  z46 := Try.sizeOf46
  v46 := Try.zeroValue46 }
open Go.RowKit Go.Lib in
theorem Try.strings_IndexRune_ascii (s : ByteArray) (r : Int) (w : World) (h0 : 0 ≤ r) (h1 : r < 128) :
    Calls Try.prog 25 #[.string s, .int .i32 r] w fun e w' => e = .returned (.int .i64 (Lib.indexByte s.data.toList r.toNat.toUInt8)) ∧ w' = w := Any.strings_IndexRune_ascii Try.lays152 s r w h0 h1
def Try.lays226_ren : Go.Shelf.Ren := ⟨fun | 226 => 26 | n => n, fun | 3 => 3 | 4 => 4 | n => n, fun | n => n⟩
theorem Try.lays226 : Go.Proofs.Lays.n226 Try.prog Try.lays226_ren := {
  mixed := by kernel_rfl
  f226 := Try.func26.trans (congrArg some (by kernel_rfl))
  t3 := Try.underlying3
  a3 := Try.isAgg3
  z3 := Try.sizeOf3
  v3 := Try.zeroValue3
  t4 := Try.underlying4
  a4 := Try.isAgg4
  z4 := Try.sizeOf4
  v4 := Try.zeroValue4 }
open Go.RowKit Go.Lib in
theorem Try.strings_shouldUseASCIISet (n : Int) (w : World) :
    Calls Try.prog 26 #[.int .i64 n] w fun e w' => e = .returned (.bool (decide (8 < n))) ∧ w' = w := Any.strings_shouldUseASCIISet Try.lays226 n w
def Try.lays153_ren : Go.Shelf.Ren := ⟨fun | 153 => 23 | 152 => 25 | 226 => 26 | 227 => 27 | 228 => 28 | 137 => 30 | 119 => 31 | 224 => 32 | 225 => 33 | 217 => 35 | 266 => 36 | n => n, fun | 9 => 9 | 3 => 3 | 4 => 4 | 5 => 5 | 21 => 21 | 117 => 41 | 116 => 40 | 0 => 0 | 46 => 46 | 124 => 47 | n => n, fun | n => n⟩
theorem Try.lays153 : Go.Proofs.Lays.n153 Try.prog Try.lays153_ren := {
  mixed := by kernel_rfl
  f119 := Try.func31.trans (congrArg some (by kernel_rfl))
  f137 := Try.func30.trans (congrArg some (by kernel_rfl))
  f152 := Try.func25.trans (congrArg some (by kernel_rfl))
  f153 := Try.func23.trans (congrArg some (by kernel_rfl))
  f217 := Try.func35.trans (congrArg some (by kernel_rfl))
  f224 := Try.func32.trans (congrArg some (by kernel_rfl))
  f225 := Try.func33.trans (congrArg some (by kernel_rfl))
  f226 := Try.func26.trans (congrArg some (by kernel_rfl))
  f227 := Try.func27.trans (congrArg some (by kernel_rfl))
  f228 := Try.func28.trans (congrArg some (by kernel_rfl))
  f266 := Try.func36.trans (congrArg some (by kernel_rfl))
  t0 := Try.underlying0
  a0 := Try.isAgg0
  z0 := Try.sizeOf0
  v0 := Try.zeroValue0
  t3 := Try.underlying3
  a3 := Try.isAgg3
  z3 := Try.sizeOf3
  v3 := Try.zeroValue3
  t4 := Try.underlying4
  a4 := Try.isAgg4
  z4 := Try.sizeOf4
  v4 := Try.zeroValue4
  t5 := Try.underlying5
  a5 := Try.isAgg5
  z5 := Try.sizeOf5
  v5 := Try.zeroValue5
  t9 := Try.underlying9
  a9 := Try.isAgg9
  z9 := Try.sizeOf9
  v9 := Try.zeroValue9
  t21 := Try.underlying21
  a21 := Try.isAgg21
  z21 := Try.sizeOf21
  v21 := Try.zeroValue21
  t46 := Try.underlying46
  a46 := Try.isAgg46
  z46 := Try.sizeOf46
  v46 := Try.zeroValue46
  t116 := Try.underlying40
  a116 := Try.isAgg40
  z116 := Try.sizeOf40
  t117 := Try.underlying41
  a117 := Try.isAgg41
  z117 := Try.sizeOf41
  v117 := Try.zeroValue41
  t124 := Try.underlying47
  a124 := Try.isAgg47
  z124 := Try.sizeOf47
  v124 := Try.zeroValue47 }
open Go.RowKit Go.Lib in
theorem Try.strings_IndexAny_long (hv116 : ∀ w, (zeroValue 40).run Try.prog w = .ok (.agg (Array.replicate 256 (.bool false))) w) (s chars : ByteArray) (w : World) (h2 : 2 ≤ chars.size) (h8 : 8 < s.size) (hs : s.size < 4294967281) (hcs : chars.size < 4294967281) (hascii : ∀ (j : Nat) b, chars.data.toList[j]? = some b → b.toNat < 128) :
    Calls Try.prog 23 #[.string s, .string chars] w fun e w' => e = .returned (.int .i64 (Lib.indexAny s.data.toList chars.data.toList)) ∧ w' = ((w.alloc (.cells (Lib.setCells chars.data.toList) 40)).alloc (.cells (Lib.setCells chars.data.toList) 40)) := Any.strings_IndexAny_long Try.lays153 hv116 (by kernel_rfl) s chars w h2 h8 hs hcs hascii
end Go.Proofs
