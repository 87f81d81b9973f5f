/-
  The small byte tests of both sides, and the size guard.
-/
import Derived.Test.Qxb6602922aRows
import Derived.Test.Qxb6602922aShelf
import Derived.WalkKit
import Derived.PlainAid
namespace Go.Proofs.Qxb6602922a.Key
open Go.RowKit Go.PlainAid

/-- An unreserved character of RFC 3986. -/
def unrB (c : Int) : Bool := decide ((65 ≤ c ∧ c ≤ 90) ∨ (97 ≤ c ∧ c ≤ 122) ∨ (48 ≤ c ∧ c ≤ 57) ∨ c = 45 ∨ c = 46 ∨ c = 95 ∨ c = 126)

def digB (c : Int) : Bool := decide (48 ≤ c ∧ c ≤ 57)

theorem ret_bool {a b : Bool} (h : a = b) : Ending.returned (.bool a) = .returned (.bool b) := by rw [h]

theorem dig_any (c : Int) (w : World) :
    Calls Try.prog 31 #[.int .u8 c] w fun e w' => e = .returned (.bool (digB c)) ∧ w' = w := by
  go_enter Try.func31, Try.ntmps31
  go_wp2
  all_goals (go_ret; refine ⟨ret_bool ?_, rfl⟩; rw [Bool.eq_iff_iff]; simp [digB]; omega)

theorem size_any (s : ByteArray) (w : World) :
    Calls Try.prog 16 #[.string s] w fun e w' => e = .returned (.bool (decide (s.size ≤ 1048576))) ∧ w' = w := by
  go_enter Try.func16, Try.ntmps16
  go_wp2
  all_goals (go_ret; refine ⟨ret_bool ?_, rfl⟩; rw [Bool.eq_iff_iff]; simp; omega)

/-- Where the byte stands among the four marks. -/
def idxN (c : Int) : Int := Lib.indexByte [45, 46, 95, 126] c.toNat.toUInt8

theorem idx_fin : ∀ n : Fin 256, (decide (0 ≤ Lib.indexByte [45, 46, 95, 126] n.val.toUInt8)) = decide (n.val = 45 ∨ n.val = 46 ∨ n.val = 95 ∨ n.val = 126) := by
  decide +kernel

theorem idx_iff {c : Int} (h0 : 0 ≤ c) (h1 : c ≤ 255) : 0 ≤ idxN c ↔ (c = 45 ∨ c = 46 ∨ c = 95 ∨ c = 126) := by
  obtain ⟨n, rfl⟩ := Int.eq_ofNat_of_zero_le h0
  have := idx_fin ⟨n, by omega⟩
  rw [Bool.eq_iff_iff, decide_eq_true_iff, decide_eq_true_iff] at this
  unfold idxN
  rw [Int.toNat_natCast]
  refine this.trans ?_
  simp only
  omega

theorem idx_any (c : Int) (w : World) :
    Calls Try.prog 32 #[.string ⟨#[45, 46, 95, 126]⟩, .int .u8 c] w fun e w' => e = .returned (.int .i64 (idxN c)) ∧ w' = w :=
  Try.strings_IndexByte _ _ _

/-- The law's alphabet. -/
def alph : ByteArray := ⟨#[65, 66, 67, 68, 69, 70, 71, 72, 73, 74, 75, 76, 77, 78, 79, 80, 81, 82, 83, 84, 85, 86, 87, 88, 89, 90, 97, 98, 99, 100, 101, 102, 103, 104, 105, 106, 107, 108, 109, 110, 111, 112, 113, 114, 115, 116, 117, 118, 119, 120, 121, 122, 48, 49, 50, 51, 52, 53, 54, 55, 56, 57, 45, 46, 95, 126]⟩

/-- Its byte at a place. -/
def al (k : Nat) : Int := bt alph k
theorem al_in : ∀ k : Fin 66, unrB (al k.val) = true := by decide +kernel
theorem al_has : ∀ n : Fin 256, unrB (n.val : Int) = true → ∃ k : Fin 66, al k.val = (n.val : Int) := by decide +kernel
theorem al_get : ∀ (n : Nat) (h : n < alph.size), ((alph[n]'h).toNat : Int) = al n := get_bt alph

theorem al_no {c : Int} (c0 : 0 ≤ c) (c1 : c ≤ 255) (h : ∀ i, i < 66 → al i ≠ c) : unrB c = false := by
  cases hu : unrB c
  · rfl
  · obtain ⟨n, rfl⟩ := Int.eq_ofNat_of_zero_le c0
    obtain ⟨k, hk⟩ := al_has ⟨n, by omega⟩ hu
    exact (h k.val k.isLt hk).elim

theorem alph_any (c : Int) (w : World) (c0 : 0 ≤ c) (c1 : c ≤ 255) :
    Calls Try.prog 28 #[.int .u8 c] w fun e w' => e = .returned (.bool (unrB c)) ∧ w' = w := by
  have hb := al_get
  unfold alph at hb
  go_enter Try.func28, Try.ntmps28
  go_wp2
  go_loop [3] (fun j => ∃ k : Nat, k ≤ 66 ∧ j = .int .i64 k ∧ Hid (∀ i, i < k → al i ≠ c)) (fun j => 66 - (intOf j).toNat)
  case atStart => exact ⟨0, Nat.zero_le _, rfl, fun i h => absurd h (Nat.not_lt_zero i)⟩
  case round =>
    obtain ⟨k, hk, rfl, hno⟩ := hrel
    by_cases hlt : k < 66
    · by_cases he : al k = c
      · have he' : (al k == c) = true := by simp [he]
        have hu : Hid (unrB c = true) := by have := al_in ⟨k, hlt⟩; rw [he] at this; exact this
        clear he
        go_wp2
        go_ret
        exact ⟨ret_bool hu.out.symm, rfl⟩
      · have he' : (al k == c) = false := by simp [he]
        have hn : Hid (∀ i, i < k + 1 → al i ≠ c) := by
          intro i hi
          by_cases e : i = k
          · subst e; exact he
          · exact hno.out i (by omega)
        clear he hno
        go_wp2
        exact ⟨⟨k + 1, by omega, by go_num, hn⟩, by simp [intOf]; omega⟩
    · have hu : Hid (unrB c = false) := al_no c0 c1 fun i hi => hno.out i (by omega)
      go_wp2
      go_ret
      exact ⟨ret_bool hu.out.symm, rfl⟩
end Go.Proofs.Qxb6602922a.Key
