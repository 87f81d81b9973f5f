/-
  The head of the translation, word by word: so that the row's closed facts need not be reckoned over the whole line.
-/
import Derived.Test.Qxb6000061aRows
import Derived.ProofKit
namespace Go.Proofs.Qxb6000061a.Head
def w1 : List Char := [104, 97, 114, 110, 101, 115, 115].map Char.ofNat
def w2 : List Char := [53, 52, 57, 57, 102, 101, 51, 100, 98, 100, 56, 99, 53, 52, 97, 49, 98, 49, 52, 97, 100, 50, 55, 51, 51, 98, 49, 55, 56, 97, 54, 102, 49, 48, 102, 52, 51, 99, 50, 100, 56, 54, 52, 100, 99, 102, 51, 97, 54, 51, 48, 99, 53, 50, 54, 53, 98, 99, 51, 50, 100, 54, 50, 54].map Char.ofNat
def w3 : List Char := [99, 117, 116].map Char.ofNat
def w4 : List Char := [97, 116, 32, 101, 120, 97, 109, 112, 108, 101, 46, 99, 111, 109, 47, 118, 101, 115, 116, 119, 114, 105, 103, 104, 116, 47, 118, 101, 115, 116, 119, 114, 105, 103, 104, 116, 47, 122, 122, 108, 97, 119, 115, 95, 112, 107, 103, 95, 114, 101, 99, 111, 114, 100, 115, 95, 98, 49, 46, 70, 110, 66, 101, 102, 111, 114, 101, 67, 111, 109, 112, 111, 115, 101, 115, 65, 115, 84, 104, 101, 69, 97, 114, 108, 105, 101, 114, 77, 111, 110, 116, 104, 32, 101, 120, 97, 109, 112, 108, 101, 46, 99, 111, 109, 47, 118, 101, 115, 116, 119, 114, 105, 103, 104, 116, 47, 118, 101, 115, 116, 119, 114, 105, 103, 104, 116, 47, 122, 122, 108, 97, 119, 115, 95, 112, 107, 103, 95, 114, 101, 99, 111, 114, 100, 115, 95, 98, 49, 46, 70, 110, 75, 101, 101, 112, 71, 114, 111, 117, 112, 115, 69, 97, 99, 104, 77, 101, 109, 98, 101, 114, 115, 82, 117, 110, 115, 73, 110, 70, 105, 108, 101, 79, 114, 100, 101, 114, 32, 101, 120, 97, 109, 112, 108, 101, 46, 99, 111, 109, 47, 118, 101, 115, 116, 119, 114, 105, 103, 104, 116, 47, 118, 101, 115, 116, 119, 114, 105, 103, 104, 116, 47, 122, 122, 108, 97, 119, 115, 95, 112, 107, 103, 95, 114, 101, 99, 111, 114, 100, 115, 95, 98, 49, 46, 70, 110, 75, 101, 101, 112, 83, 112, 108, 105, 116, 116, 105, 110, 103, 65, 80, 97, 114, 116, 65, 116, 65, 82, 117, 110, 67, 104, 97, 110, 103, 101, 115, 78, 111, 116, 104, 105, 110, 103, 32, 101, 120, 97, 109, 112, 108, 101, 46, 99, 111, 109, 47, 118, 101, 115, 116, 119, 114, 105, 103, 104, 116, 47, 118, 101, 115, 116, 119, 114, 105, 103, 104, 116, 47, 122, 122, 108, 97, 119, 115, 95, 112, 107, 103, 95, 114, 101, 99, 111, 114, 100, 115, 95, 98, 49, 46, 70, 110, 82, 101, 99, 111, 114, 100, 115, 69, 110, 100, 73, 115, 76, 97, 115, 116, 66, 97, 108, 97, 110, 99, 101, 100, 66, 114, 101, 97, 107, 32, 101, 120, 97, 109, 112, 108, 101, 46, 99, 111, 109, 47, 118, 101, 115, 116, 119, 114, 105, 103, 104, 116, 47, 118, 101, 115, 116, 119, 114, 105, 103, 104, 116, 47, 122, 122, 108, 97, 119, 115, 95, 112, 107, 103, 95, 114, 101, 99, 111, 114, 100, 115, 95, 98, 49, 46, 70, 110, 82, 101, 99, 111, 114, 100, 115, 69, 110, 100, 73, 115, 73, 100, 101, 109, 112, 111, 116, 101, 110, 116, 32, 101, 120, 97, 109, 112, 108, 101, 46, 99, 111, 109, 47, 118, 101, 115, 116, 119, 114, 105, 103, 104, 116, 47, 118, 101, 115, 116, 119, 114, 105, 103, 104, 116, 47, 122, 122, 108, 97, 119, 115, 95, 112, 107, 103, 95, 114, 101, 99, 111, 114, 100, 115, 95, 98, 49, 46, 70, 110, 82, 101, 99, 111, 114, 100, 115, 69, 110, 100, 71, 114, 111, 119, 115, 87, 105, 116, 104, 77, 111, 114, 101, 84, 101, 120, 116].map Char.ofNat
theorem head_is : Try.prog.initOrder = String.ofList (w1 ++ ' ' :: (w2 ++ ' ' :: (w3 ++ ' ' :: w4))) := by kernel_rfl
theorem words_app : ∀ (w r : List Char), w.all (· != ' ') = true → wordsSigns (w ++ ' ' :: r) = w :: wordsSigns r
  | [], r, _ => rfl
  | c :: w, r, h => by
    simp only [List.all_cons, Bool.and_eq_true, bne_iff_ne, ne_eq] at h
    have ih := words_app w r h.2
    show wordsSigns (c :: (w ++ ' ' :: r)) = _
    rw [wordsSigns.eq_3 _ _ (fun e => h.1 e), ih]
theorem words : behindMainWord (wordsSigns Try.prog.initOrder.toList) = w3 :: wordsSigns w4 := by
  rw [head_is, String.toList_ofList, words_app _ _ (by decide +kernel), words_app _ _ (by decide +kernel), words_app _ _ (by decide +kernel)]
  generalize wordsSigns w4 = r
  kernel_rfl
theorem may_of {P : Program} {r : List (List Char)} (h : behindMainWord (wordsSigns P.initOrder.toList) = w3 :: r) (h1 : P.laysLater = false) (h2 : P.bearsReflect = false) (h3 : P.doorFits [] = true) : P.mayEnter = true := by
  have hs : stripLifts liftWords (w3 :: r) = ([], w3 :: r) := by kernel_rfl
  unfold Program.mayEnter
  rw [h]
  dsimp only
  rw [hs, h1, h2, h3]
  show _ = _
  kernel_rfl
theorem lifts_of {P : Program} {r : List (List Char)} (h : behindMainWord (wordsSigns P.initOrder.toList) = w3 :: r) : P.headLifts = [] := by
  unfold Program.headLifts
  rw [h]
  kernel_rfl
theorem final_of {P : Program} {r : List (List Char)} (h : behindMainWord (wordsSigns P.initOrder.toList) = w3 :: r) : P.liftsFinal = false := by
  unfold Program.liftsFinal
  rw [h, lifts_of h]
  kernel_rfl
theorem make_of {P : Program} {r : List (List Char)} (h : behindMainWord (wordsSigns P.initOrder.toList) = w3 :: r) : P.make = some .cut := by
  unfold Program.make
  rw [h]
  kernel_rfl
theorem may : Try.prog.mayEnter = true := may_of words (by kernel_rfl) (by kernel_rfl) (by kernel_rfl)
theorem final : Try.prog.liftsFinal = false := final_of words
theorem make : Try.prog.make = some .cut := make_of words
end Go.Proofs.Qxb6000061a.Head
