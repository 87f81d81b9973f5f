/-
  The plain law: the last balanced break, found from the front and from the back.
-/
import Derived.Lib.Bytes
import Derived.Lib.Bytealg
namespace Go.Proofs.Qxb6000061a
namespace Pl

/-- The quotes among the first k bytes. -/
def qc (xs : List Int) (k : Nat) : Nat := (xs.take k).countP fun x => x == 34

/-- Does a whole record end at byte k? -/
def good (xs : List Int) (k : Nat) : Bool := (xs.getD k 0 == 10) && (qc xs k % 2 == 0)

/-- The model's answer for the first k bytes. -/
def best (xs : List Int) : Nat → Nat
  | 0 => 0
  | k + 1 => if good xs k then k + 1 else best xs k

theorem best_le (xs : List Int) : ∀ k, best xs k ≤ k
  | 0 => Nat.le_refl _
  | k + 1 => by
    unfold best
    have := best_le xs k
    split <;> omega

theorem take_succ' (xs : List Int) (k : Nat) (hk : k < xs.length) : xs.take (k + 1) = xs.take k ++ [xs.getD k 0] := by
  rw [List.take_succ_eq_append_getElem hk, List.getD_eq_getElem?_getD, List.getElem?_eq_getElem hk]; rfl

theorem qc_step {xs : List Int} {k : Nat} (hk : k < xs.length) : qc xs (k + 1) = qc xs k + if xs.getD k 0 = 34 then 1 else 0 := by
  unfold qc
  rw [take_succ' xs k hk, List.countP_append]
  simp [List.countP_cons]

theorem qc_le (xs : List Int) (k : Nat) : qc xs k ≤ k := Nat.le_trans List.countP_le_length (List.length_take_le _ _)

theorem qc_part (xs : List Int) {i e : Nat} (h : i ≤ e) : qc xs e = qc xs i + ((xs.drop i).take (e - i)).countP fun x => x == 34 := by
  unfold qc
  have : xs.take e = xs.take i ++ (xs.drop i).take (e - i) := by
    rw [show e = i + (e - i) by omega, List.take_add]; simp
  rw [this, List.countP_append]

theorem best_skip {xs : List Int} {a : Nat} : ∀ {b : Nat}, a ≤ b → (∀ j, a ≤ j → j < b → xs.getD j 0 ≠ 10) → best xs b = best xs a
  | 0, h, _ => by rw [Nat.le_zero.1 h]
  | b + 1, h, hn => by
    by_cases e : a = b + 1
    · rw [e]
    · have hb := hn b (by omega) (by omega)
      have hg : good xs b = false := by unfold good; rw [beq_eq_false_iff_ne.2 hb]; rfl
      rw [best, hg]
      exact best_skip (b := b) (by omega) (fun j h1 h2 => hn j h1 (by omega))

theorem best_zero {xs : List Int} {b : Nat} (hn : ∀ j, j < b → xs.getD j 0 ≠ 10) : best xs b = 0 :=
  (best_skip (Nat.zero_le b) (fun j _ hj => hn j hj)).trans rfl

theorem count_of {xs : List Int} (h : ∀ x ∈ xs, 0 ≤ x ∧ x ≤ 255) : Lib.countByte (Lib.bytesOf xs) (34 : Int).toNat.toUInt8 = xs.countP fun x => x == 34 := by
  unfold Lib.countByte Lib.bytesOf
  rw [List.count, List.countP_map]
  apply List.countP_congr
  intro x hx
  have := h x hx
  simp only [Function.comp, beq_iff_eq]
  constructor
  · intro e
    have e2 := congrArg UInt8.toNat e
    simp at e2
    omega
  · intro e; subst e; rfl
end Pl
end Go.Proofs.Qxb6000061a
