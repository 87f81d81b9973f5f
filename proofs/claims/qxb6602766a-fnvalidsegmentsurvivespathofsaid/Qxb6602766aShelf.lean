/-
  Laid by the kit for this program (lay-shelf.mjs, lay-plain.mjs): the contracts of the library functions on the roads.
-/
import Derived.Shelf.Strings.Search1
import Derived.Shelf.Strings.Search2
import Derived.Shelf.Strings.Cut
import Derived.Shelf.Strings.Prefix
import Derived.Shelf.Strings.Runes
import Derived.Shelf.Strings.IndexAny
import Derived.Shelf.Strings.AsciiSet
import Derived.Shelf.Strings.IndexAnyAll
import Derived.Test.Qxb6602766aChecked
namespace Go.Proofs
open Go.Shelf
def Try.lays145_ren : Go.Shelf.Ren := ⟨fun | 145 => 25 | 220 => 30 | 219 => 36 | 217 => 35 | 225 => 39 | 224 => 38 | 267 => 41 | 266 => 40 | 314 => 42 | n => n, fun | 9 => 9 | 4 => 4 | 59 => 29 | 3 => 3 | 5 => 5 | 46 => 41 | 146 => 44 | 51 => 43 | n => n, fun | 1 => 0 | n => n⟩
theorem Try.lays145 : Go.Proofs.Lays.n145 Try.prog Try.lays145_ren := {
  mixed := by kernel_rfl
  f145 := Try.func25.trans (congrArg some (by kernel_rfl))
  f217 := Try.func35.trans (congrArg some (by kernel_rfl))
  f219 := Try.func36.trans (congrArg some (by kernel_rfl))
  f220 := Try.func30.trans (congrArg some (by kernel_rfl))
  f224 := Try.func38.trans (congrArg some (by kernel_rfl))
  f225 := Try.func39.trans (congrArg some (by kernel_rfl))
  f266 := Try.func40.trans (congrArg some (by kernel_rfl))
  f267 := Try.func41.trans (congrArg some (by kernel_rfl))
  f314 := Try.func42.trans (congrArg some (by kernel_rfl))
  t3 := Try.underlying3
  a3 := Try.isAgg3
  z3 := Try.sizeOf3
  v3 := Try.zeroValue3
  t4 := Try.underlying4
  a4 := Try.isAgg4
  z4 := Try.sizeOf4
  v4 := Try.zeroValue4
  t5 := Try.underlying5
  a5 := Try.isAgg5
  z5 := Try.sizeOf5
  v5 := Try.zeroValue5
  t9 := Try.underlying9
  a9 := Try.isAgg9
  z9 := Try.sizeOf9
  v9 := Try.zeroValue9
  t46 := Try.underlying41
  a46 := Try.isAgg41
  z46 := Try.sizeOf41
  v46 := Try.zeroValue41
  t51 := Try.underlying43
  a51 := Try.isAgg43
  z51 := Try.sizeOf43
  v51 := Try.zeroValue43
  t59 := Try.underlying29
  a59 := Try.isAgg29
  z59 := Try.sizeOf29
  v59 := Try.zeroValue29
  t146 := Try.underlying44
  a146 := Try.isAgg44
  z146 := Try.sizeOf44
  v146 := Try.zeroValue44
  g1 := by kernel_rfl }
open Go.RowKit Go.Lib in
theorem Try.strings_Cut (s sep : ByteArray) (m : Int) (w : World) (hs : s.size < 4294967281) (hm : w.cell? ⟨0, 0, none⟩ = some (.int .i64 m)) :
    Calls Try.prog 25 #[.string s, .string sep] w fun e w' => e = .returned (.tuple #[.string ⟨(Lib.cut s.data.toList sep.data.toList).1.toArray⟩, .string ⟨(Lib.cut s.data.toList sep.data.toList).2.1.toArray⟩, .bool (Lib.cut s.data.toList sep.data.toList).2.2]) ∧ ∃ n, w' = w.drewN n := Any.strings_Cut Try.lays145 s sep m w hs hm
def Try.lays99_ren : Go.Shelf.Ren := ⟨fun | 99 => 24 | 206 => 29 | n => n, fun | 9 => 9 | 4 => 4 | 3 => 3 | n => n, fun | n => n⟩
theorem Try.lays99 : Go.Proofs.Lays.n99 Try.prog Try.lays99_ren := {
  mixed := by kernel_rfl
  f99 := Try.func24.trans (congrArg some (by kernel_rfl))
  f206 := Try.func29.trans (congrArg some (by kernel_rfl))
  t3 := Try.underlying3
  a3 := Try.isAgg3
  z3 := Try.sizeOf3
  v3 := Try.zeroValue3
  t4 := Try.underlying4
  a4 := Try.isAgg4
  z4 := Try.sizeOf4
  v4 := Try.zeroValue4
  t9 := Try.underlying9
  a9 := Try.isAgg9
  z9 := Try.sizeOf9
  v9 := Try.zeroValue9 }
open Go.RowKit Go.Lib in
theorem Try.strings_HasPrefix (s p : ByteArray) (w : World) :
    Calls Try.prog 24 #[.string s, .string p] w fun e w' => e = .returned (.bool (Lib.hasPrefix s.data.toList p.data.toList)) ∧ w' = w := Any.strings_HasPrefix Try.lays99 s p w
def Try.lays153_ren : Go.Shelf.Ren := ⟨fun | 153 => 26 | 152 => 31 | 226 => 32 | 227 => 33 | 228 => 34 | 137 => 27 | 119 => 37 | 224 => 38 | 225 => 39 | 217 => 35 | 266 => 40 | n => n, fun | 9 => 9 | 3 => 3 | 4 => 4 | 5 => 5 | 21 => 21 | 117 => 37 | 116 => 36 | 0 => 0 | 46 => 41 | 124 => 42 | n => n, fun | n => n⟩
theorem Try.lays153 : Go.Proofs.Lays.n153 Try.prog Try.lays153_ren := {
  mixed := by kernel_rfl
  f119 := Try.func37.trans (congrArg some (by kernel_rfl))
  f137 := Try.func27.trans (congrArg some (by kernel_rfl))
  f152 := Try.func31.trans (congrArg some (by kernel_rfl))
  f153 := Try.func26.trans (congrArg some (by kernel_rfl))
  f217 := Try.func35.trans (congrArg some (by kernel_rfl))
  f224 := Try.func38.trans (congrArg some (by kernel_rfl))
  f225 := Try.func39.trans (congrArg some (by kernel_rfl))
  f226 := Try.func32.trans (congrArg some (by kernel_rfl))
  f227 := Try.func33.trans (congrArg some (by kernel_rfl))
  f228 := Try.func34.trans (congrArg some (by kernel_rfl))
  f266 := Try.func40.trans (congrArg some (by kernel_rfl))
  t0 := Try.underlying0
  a0 := Try.isAgg0
  z0 := Try.sizeOf0
  v0 := Try.zeroValue0
  t3 := Try.underlying3
  a3 := Try.isAgg3
  z3 := Try.sizeOf3
  v3 := Try.zeroValue3
  t4 := Try.underlying4
  a4 := Try.isAgg4
  z4 := Try.sizeOf4
  v4 := Try.zeroValue4
  t5 := Try.underlying5
  a5 := Try.isAgg5
  z5 := Try.sizeOf5
  v5 := Try.zeroValue5
  t9 := Try.underlying9
  a9 := Try.isAgg9
  z9 := Try.sizeOf9
  v9 := Try.zeroValue9
  t21 := Try.underlying21
  a21 := Try.isAgg21
  z21 := Try.sizeOf21
  v21 := Try.zeroValue21
  t46 := Try.underlying41
  a46 := Try.isAgg41
  z46 := Try.sizeOf41
  v46 := Try.zeroValue41
  t116 := Try.underlying36
  a116 := Try.isAgg36
  z116 := Try.sizeOf36
  t117 := Try.underlying37
  a117 := Try.isAgg37
  z117 := Try.sizeOf37
  v117 := Try.zeroValue37
  t124 := Try.underlying42
  a124 := Try.isAgg42
  z124 := Try.sizeOf42
  v124 := Try.zeroValue42 }
open Go.RowKit Go.Lib in
theorem Try.strings_IndexAny_laid (s chars : ByteArray) (w : World) (hs : s.size < 4294967281) (hcs : chars.size < 4294967281) (has : ∀ (j : Nat) b, s.data.toList[j]? = some b → b.toNat < 128) (hac : ∀ (j : Nat) b, chars.data.toList[j]? = some b → b.toNat < 128) :
    Calls Try.prog 26 #[.string s, .string chars] w fun e w' => e = .returned (.int .i64 (Lib.indexAny s.data.toList chars.data.toList)) ∧ Below w.heap.size w w' := Any.strings_IndexAny_laid Try.lays153 (by kernel_rfl) s chars w hs hcs has hac
end Go.Proofs
