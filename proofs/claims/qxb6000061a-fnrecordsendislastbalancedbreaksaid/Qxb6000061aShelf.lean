/-
  Laid by the kit for this program (lay-shelf.mjs, lay-plain.mjs): the contracts of the library functions on the roads.
-/
import Derived.Shelf.Bytes.SlCountOne
import Derived.Test.Qxb6000061aChecked
namespace Go.Proofs
open Go.Shelf
def Try.laysSlB13_ren : Go.Shelf.Ren := ⟨fun | 13 => 48 | 24 => 50 | 25 => 51 | 12 => 52 | 31 => 54 | 19 => 55 | 20 => 56 | 21 => 57 | 22 => 58 | 23 => 59 | 29 => 60 | 30 => 61 | n => n, fun | 22 => 60 | 3 => 3 | 4 => 4 | 0 => 0 | 5 => 5 | 9 => 9 | 33 => 97 | 40 => 98 | 39 => 69 | n => n, fun | 0 => 0 | n => n⟩
theorem Try.laysSlB13 : Go.Proofs.SlLaysB.n13 Try.prog Try.laysSlB13_ren := {
  mixed := by kernel_rfl
  f13 := Try.func48.trans (congrArg some (by kernel_rfl))
  f25 := Try.func51.trans (congrArg some (by kernel_rfl))
  t0 := Try.underlying0
  a0 := Try.isAgg0
  z0 := Try.sizeOf0
  v0 := Try.zeroValue0
  t3 := Try.underlying3
  a3 := Try.isAgg3
  z3 := Try.sizeOf3
  v3 := Try.zeroValue3
  t4 := Try.underlying4
  a4 := Try.isAgg4
  z4 := Try.sizeOf4
  v4 := Try.zeroValue4
  t5 := Try.underlying5
  a5 := Try.isAgg5
  z5 := Try.sizeOf5
  v5 := Try.zeroValue5
  t22 := Try.underlying60
  a22 := Try.isAgg60
  z22 := Try.sizeOf60
  v22 := Try.zeroValue60 }
open Go.RowKit Go.Lib in
theorem Try.bytes_Count_one_at (a : Addr) (n c b2 o2 d : Nat) (xs : List Int) (cv : Int) (w : World) (hx : xs.length = n) (hc : ∀ i, i < n → w.cell? (a.add i) = some (.int .u8 (xs.getD i 0))) (hc2 : w.cell? ⟨b2, o2, none⟩ = some (.int .u8 cv)) :
    Calls Try.prog 48 #[.slice (some a) n c, .slice (some ⟨b2, o2, none⟩) 1 d] w fun e w' => e = .returned (.int .i64 (Lib.countByte (Lib.bytesOf xs) cv.toNat.toUInt8)) ∧ w' = w := Any.bytes_Count_one_at Try.laysSlB13 a n c b2 o2 d xs cv w hx hc hc2
open Go.RowKit Go.Lib in
theorem Try.bytes_Count_one_nil (b2 o2 d : Nat) (cv : Int) (w : World) (hc2 : w.cell? ⟨b2, o2, none⟩ = some (.int .u8 cv)) :
    Calls Try.prog 48 #[.slice none 0 0, .slice (some ⟨b2, o2, none⟩) 1 d] w fun e w' => e = .returned (.int .i64 0) ∧ w' = w := Any.bytes_Count_one_nil Try.laysSlB13 b2 o2 d cv w hc2
end Go.Proofs
