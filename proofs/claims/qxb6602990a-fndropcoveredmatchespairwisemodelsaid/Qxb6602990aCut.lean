/-
  strings.Cut at one byte, on lists of bytes.
-/
import Derived.Test.Qxb6602990aShelf
import Derived.Test.Qxb6602990aPlain
import Derived.WalkKit
namespace Go.Proofs.Qxb6602990a
open Go.RowKit Pl

/-- A string value by its bytes. -/
abbrev S (l : Bs) : Value := .string ⟨l.toArray⟩

theorem index_none (c : UInt8) : ∀ l : Bs, c ∉ l → Lib.index l [c] = -1
  | [], _ => rfl
  | b :: l, h => by
    have h1 : b ≠ c := fun e => h (by simp [e])
    have ih := index_none c l (fun e => h (by simp [e]))
    have hp : ([c].isPrefixOf (b :: l)) = false := by simp [List.isPrefixOf, Ne.symm h1]
    unfold Lib.index
    rw [hp, ih]
    rfl
theorem index_at (c : UInt8) : ∀ (t l : Bs), c ∉ t → Lib.index (t ++ c :: l) [c] = t.length
  | [], l, _ => by
    show Lib.index (c :: l) [c] = 0
    unfold Lib.index
    simp [List.isPrefixOf]
  | b :: t, l, h => by
    have h1 : b ≠ c := fun e => h (by simp [e])
    have ih := index_at c t l (fun e => h (by simp [e]))
    show Lib.index (b :: (t ++ c :: l)) [c] = _
    have hp : ([c].isPrefixOf (b :: (t ++ c :: l))) = false := by simp [List.isPrefixOf, Ne.symm h1]
    unfold Lib.index
    rw [hp, ih]
    have : ((t.length : Int) == -1) = false := beq_eq_false_iff_ne.2 (by omega)
    simp [this]

theorem cut_none (c : UInt8) (l : Bs) (h : c ∉ l) : Lib.cut l [c] = (l, [], false) := by
  unfold Lib.cut
  rw [index_none c l h]
  rfl
theorem cut_at (c : UInt8) (t l : Bs) (h : c ∉ t) : Lib.cut (t ++ c :: l) [c] = (t, l, true) := by
  unfold Lib.cut
  rw [index_at c t l h, if_pos (by omega)]
  simp

theorem cut_join {t : Bs} (r : List Bs) (h : okTok t) : Lib.cut (joinD (t :: r)) [46] = (t, joinD r, !r.isEmpty) := by
  cases r with
  | nil => rw [joinD_one, cut_none _ _ h.2]; rfl
  | cons u r => rw [joinD_cons _ (by simp), cut_at _ _ _ h.2]; rfl

/-- The contract, on lists. -/
theorem cut_any (l : Bs) (c : UInt8) (m : Int) (w : World) (hs : l.length < 4294967281) (hm : w.cell? ⟨0, 0, none⟩ = some (.int .i64 m)) :
    Calls Try.prog 43 #[S l, .string ⟨#[c]⟩] w fun e w' => e = .returned (.tuple #[S (Lib.cut l [c]).1, S (Lib.cut l [c]).2.1, .bool (Lib.cut l [c]).2.2]) ∧ ∃ n, w' = w.drewN n :=
  Try.strings_Cut ⟨l.toArray⟩ ⟨#[c]⟩ m w (by simpa [ByteArray.size] using hs) hm

theorem cut_tok (t : Bs) (r : List Bs) (h : okTok t) (m : Int) (w : World) (hs : (joinD (t :: r)).length < 4294967281) (hm : w.cell? ⟨0, 0, none⟩ = some (.int .i64 m)) :
    Calls Try.prog 43 #[S (joinD (t :: r)), .string ⟨#[46]⟩] w fun e w' => e = .returned (.tuple #[S t, S (joinD r), .bool (!r.isEmpty)]) ∧ ∃ n, w' = w.drewN n := by
  have := cut_any (joinD (t :: r)) 46 m w hs hm
  rw [cut_join r h] at this
  exact this
end Go.Proofs.Qxb6602990a
