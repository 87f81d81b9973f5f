/-
  Laid by the kit for this program (lay-shelf.mjs, lay-plain.mjs): the contracts of the library functions on the roads.
-/
import Derived.Shelf.Strings.Search1
import Derived.Shelf.Strings.Search2
import Derived.Shelf.Strings.Cut
import Derived.Shelf.LaysM
import Derived.Shelf.Strings.Shaped
import Derived.Test.Qxb6602990aChecked
namespace Go.Proofs
open Go.Shelf
def Try.lays145_ren : Go.Shelf.Ren := ⟨fun | 145 => 43 | 220 => 45 | 219 => 46 | 217 => 47 | 225 => 48 | 224 => 49 | 267 => 50 | 266 => 51 | 314 => 52 | n => n, fun | 9 => 9 | 4 => 4 | 59 => 54 | 3 => 3 | 5 => 5 | 46 => 60 | 146 => 62 | 51 => 61 | n => n, fun | 1 => 0 | n => n⟩
theorem Try.lays145 : Go.Proofs.Lays.n145 Try.prog Try.lays145_ren := {
  mixed := by kernel_rfl
  f145 := Try.func43.trans (congrArg some (by kernel_rfl))
  f217 := Try.func47.trans (congrArg some (by kernel_rfl))
  f219 := Try.func46.trans (congrArg some (by kernel_rfl))
  f220 := Try.func45.trans (congrArg some (by kernel_rfl))
  f224 := Try.func49.trans (congrArg some (by kernel_rfl))
  f225 := Try.func48.trans (congrArg some (by kernel_rfl))
  f266 := Try.func51.trans (congrArg some (by kernel_rfl))
  f267 := Try.func50.trans (congrArg some (by kernel_rfl))
  f314 := Try.func52.trans (congrArg some (by kernel_rfl))
  t3 := Try.underlying3
  a3 := Try.isAgg3
  z3 := Try.sizeOf3
  v3 := Try.zeroValue3
  t4 := Try.underlying4
  a4 := Try.isAgg4
  z4 := Try.sizeOf4
  v4 := Try.zeroValue4
  t5 := Try.underlying5
  a5 := Try.isAgg5
  z5 := Try.sizeOf5
  v5 := Try.zeroValue5
  t9 := Try.underlying9
  a9 := Try.isAgg9
  z9 := Try.sizeOf9
  v9 := Try.zeroValue9
  t46 := Try.underlying60
  a46 := Try.isAgg60
  z46 := Try.sizeOf60
  v46 := Try.zeroValue60
  t51 := Try.underlying61
  a51 := Try.isAgg61
  z51 := Try.sizeOf61
  v51 := Try.zeroValue61
  t59 := Try.underlying54
  a59 := Try.isAgg54
  z59 := Try.sizeOf54
  v59 := Try.zeroValue54
  t146 := Try.underlying62
  a146 := Try.isAgg62
  z146 := Try.sizeOf62
  v146 := Try.zeroValue62
  g1 := by kernel_rfl }
open Go.RowKit Go.Lib in
theorem Try.strings_Cut (s sep : ByteArray) (m : Int) (w : World) (hs : s.size < 4294967281) (hm : w.cell? ⟨0, 0, none⟩ = some (.int .i64 m)) :
    Calls Try.prog 43 #[.string s, .string sep] w fun e w' => e = .returned (.tuple #[.string ⟨(Lib.cut s.data.toList sep.data.toList).1.toArray⟩, .string ⟨(Lib.cut s.data.toList sep.data.toList).2.1.toArray⟩, .bool (Lib.cut s.data.toList sep.data.toList).2.2]) ∧ ∃ n, w' = w.drewN n := Any.strings_Cut Try.lays145 s sep m w hs hm
end Go.Proofs
