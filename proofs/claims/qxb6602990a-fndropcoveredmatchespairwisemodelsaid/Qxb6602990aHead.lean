/-
  The head of the translation, word by word: so that the row's closed facts need not be reckoned over the whole line.
-/
import Derived.Test.Qxb6602990aRows
import Derived.ProofKit
namespace Go.Proofs.Qxb6602990a.Head
def w1 : List Char := [104, 97, 114, 110, 101, 115, 115].map Char.ofNat
def w2 : List Char := [56, 55, 53, 56, 53, 51, 52, 99, 54, 52, 101, 97, 56, 100, 53, 57, 51, 98, 57, 55, 99, 53, 102, 97, 57, 102, 57, 100, 54, 101, 56, 97, 48, 99, 102, 101, 48, 101, 49, 50, 50, 56, 56, 50, 99, 50, 50, 55, 54, 98, 52, 101, 55, 53, 57, 50, 49, 52, 48, 48, 48, 54, 99, 49].map Char.ofNat
def w3 : List Char := [99, 117, 116].map Char.ofNat
def w4 : List Char := [97, 116, 32, 101, 120, 97, 109, 112, 108, 101, 46, 99, 111, 109, 47, 114, 111, 119, 97, 110, 47, 114, 111, 119, 97, 110, 47, 122, 122, 108, 97, 119, 115, 95, 105, 110, 116, 101, 114, 110, 97, 108, 95, 112, 111, 108, 105, 99, 121, 95, 98, 49, 46, 70, 110, 68, 114, 111, 112, 67, 111, 118, 101, 114, 101, 100, 77, 97, 116, 99, 104, 101, 115, 80, 97, 105, 114, 119, 105, 115, 101, 77, 111, 100, 101, 108, 32, 101, 120, 97, 109, 112, 108, 101, 46, 99, 111, 109, 47, 114, 111, 119, 97, 110, 47, 114, 111, 119, 97, 110, 47, 122, 122, 108, 97, 119, 115, 95, 105, 110, 116, 101, 114, 110, 97, 108, 95, 112, 111, 108, 105, 99, 121, 95, 98, 49, 46, 70, 110, 68, 114, 111, 112, 67, 111, 118, 101, 114, 101, 100, 73, 115, 73, 100, 101, 109, 112, 111, 116, 101, 110, 116, 32, 101, 120, 97, 109, 112, 108, 101, 46, 99, 111, 109, 47, 114, 111, 119, 97, 110, 47, 114, 111, 119, 97, 110, 47, 122, 122, 108, 97, 119, 115, 95, 105, 110, 116, 101, 114, 110, 97, 108, 95, 112, 111, 108, 105, 99, 121, 95, 98, 49, 46, 70, 110, 68, 114, 111, 112, 67, 111, 118, 101, 114, 101, 100, 76, 111, 115, 101, 115, 78, 111, 80, 101, 114, 109, 105, 115, 115, 105, 111, 110, 32, 101, 120, 97, 109, 112, 108, 101, 46, 99, 111, 109, 47, 114, 111, 119, 97, 110, 47, 114, 111, 119, 97, 110, 47, 122, 122, 108, 97, 119, 115, 95, 105, 110, 116, 101, 114, 110, 97, 108, 95, 112, 111, 108, 105, 99, 121, 95, 98, 49, 46, 70, 110, 74, 115, 67, 111, 110, 115, 117, 109, 101, 78, 97, 109, 101, 100, 67, 111, 110, 115, 117, 109, 101, 114, 71, 114, 97, 110, 116, 115, 78, 111, 77, 111, 114, 101, 32, 101, 120, 97, 109, 112, 108, 101, 46, 99, 111, 109, 47, 114, 111, 119, 97, 110, 47, 114, 111, 119, 97, 110, 47, 122, 122, 108, 97, 119, 115, 95, 105, 110, 116, 101, 114, 110, 97, 108, 95, 112, 111, 108, 105, 99, 121, 95, 98, 49, 46, 70, 110, 74, 115, 67, 111, 110, 115, 117, 109, 101, 78, 97, 109, 101, 100, 71, 114, 97, 110, 116, 83, 112, 97, 114, 101, 115, 79, 116, 104, 101, 114, 67, 111, 110, 115, 117, 109, 101, 114, 115, 32, 101, 120, 97, 109, 112, 108, 101, 46, 99, 111, 109, 47, 114, 111, 119, 97, 110, 47, 114, 111, 119, 97, 110, 47, 122, 122, 108, 97, 119, 115, 95, 105, 110, 116, 101, 114, 110, 97, 108, 95, 112, 111, 108, 105, 99, 121, 95, 98, 49, 46, 70, 110, 67, 111, 118, 101, 114, 115, 77, 97, 116, 99, 104, 101, 115, 80, 97, 105, 114, 119, 105, 115, 101, 77, 111, 100, 101, 108, 32, 101, 120, 97, 109, 112, 108, 101, 46, 99, 111, 109, 47, 114, 111, 119, 97, 110, 47, 114, 111, 119, 97, 110, 47, 122, 122, 108, 97, 119, 115, 95, 105, 110, 116, 101, 114, 110, 97, 108, 95, 112, 111, 108, 105, 99, 121, 95, 98, 49, 46, 70, 110, 67, 111, 118, 101, 114, 115, 83, 105, 110, 103, 108, 101, 69, 110, 116, 114, 121, 73, 115, 80, 97, 114, 116, 105, 97, 108, 79, 114, 100, 101, 114, 32, 101, 120, 97, 109, 112, 108, 101, 46, 99, 111, 109, 47, 114, 111, 119, 97, 110, 47, 114, 111, 119, 97, 110, 47, 122, 122, 108, 97, 119, 115, 95, 105, 110, 116, 101, 114, 110, 97, 108, 95, 112, 111, 108, 105, 99, 121, 95, 98, 49, 46, 70, 110, 74, 115, 67, 111, 110, 115, 117, 109, 101, 65, 112, 112, 101, 110, 100, 115, 87, 101, 108, 108, 70, 111, 114, 109, 101, 100, 71, 114, 97, 110, 116, 115].map Char.ofNat
theorem head_is : Try.prog.initOrder = String.ofList (w1 ++ ' ' :: (w2 ++ ' ' :: (w3 ++ ' ' :: w4))) := by kernel_rfl
theorem words_app : ∀ (w r : List Char), w.all (· != ' ') = true → wordsSigns (w ++ ' ' :: r) = w :: wordsSigns r
  | [], r, _ => rfl
  | c :: w, r, h => by
    simp only [List.all_cons, Bool.and_eq_true, bne_iff_ne, ne_eq] at h
    have ih := words_app w r h.2
    show wordsSigns (c :: (w ++ ' ' :: r)) = _
    rw [wordsSigns.eq_3 _ _ (fun e => h.1 e), ih]
theorem words : behindMainWord (wordsSigns Try.prog.initOrder.toList) = w3 :: wordsSigns w4 := by
  rw [head_is, String.toList_ofList, words_app _ _ (by decide +kernel), words_app _ _ (by decide +kernel), words_app _ _ (by decide +kernel)]
  generalize wordsSigns w4 = r
  kernel_rfl
theorem may_of {P : Program} {r : List (List Char)} (h : behindMainWord (wordsSigns P.initOrder.toList) = w3 :: r) (h1 : P.laysLater = false) (h2 : P.bearsReflect = false) (h3 : P.doorFits [] = true) : P.mayEnter = true := by
  have hs : stripLifts liftWords (w3 :: r) = ([], w3 :: r) := by kernel_rfl
  unfold Program.mayEnter
  rw [h]
  dsimp only
  rw [hs, h1, h2, h3]
  show _ = _
  kernel_rfl
theorem lifts_of {P : Program} {r : List (List Char)} (h : behindMainWord (wordsSigns P.initOrder.toList) = w3 :: r) : P.headLifts = [] := by
  unfold Program.headLifts
  rw [h]
  kernel_rfl
theorem final_of {P : Program} {r : List (List Char)} (h : behindMainWord (wordsSigns P.initOrder.toList) = w3 :: r) : P.liftsFinal = false := by
  unfold Program.liftsFinal
  rw [h, lifts_of h]
  kernel_rfl
theorem make_of {P : Program} {r : List (List Char)} (h : behindMainWord (wordsSigns P.initOrder.toList) = w3 :: r) : P.make = some .cut := by
  unfold Program.make
  rw [h]
  kernel_rfl
theorem may : Try.prog.mayEnter = true := may_of words (by kernel_rfl) (by kernel_rfl) (by kernel_rfl)
theorem final : Try.prog.liftsFinal = false := final_of words
theorem make : Try.prog.make = some .cut := make_of words
end Go.Proofs.Qxb6602990a.Head
