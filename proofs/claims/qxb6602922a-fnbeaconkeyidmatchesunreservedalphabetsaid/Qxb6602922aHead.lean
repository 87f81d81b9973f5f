/-
  The head of the translation, word by word: so that the row's closed facts need not be reckoned over the whole line.
-/
import Derived.Test.Qxb6602922aRows
import Derived.ProofKit
namespace Go.Proofs.Qxb6602922a.Head
def w1 : List Char := [104, 97, 114, 110, 101, 115, 115].map Char.ofNat
def w2 : List Char := [99, 97, 48, 57, 53, 57, 101, 52, 51, 54, 49, 52, 53, 102, 100, 100, 52, 53, 50, 57, 57, 53, 102, 53, 102, 101, 101, 99, 55, 98, 98, 53, 54, 54, 98, 56, 54, 97, 97, 56, 101, 100, 55, 54, 99, 55, 98, 51, 57, 53, 52, 57, 102, 49, 57, 48, 48, 100, 50, 56, 102, 100, 99, 55].map Char.ofNat
def w3 : List Char := [99, 117, 116].map Char.ofNat
def w4 : List Char := [97, 116, 32, 101, 120, 97, 109, 112, 108, 101, 46, 99, 111, 109, 47, 100, 105, 111, 103, 101, 110, 101, 115, 47, 100, 105, 111, 103, 101, 110, 101, 115, 47, 122, 122, 108, 97, 119, 115, 95, 114, 111, 111, 116, 95, 98, 49, 46, 70, 110, 83, 97, 109, 101, 68, 111, 109, 97, 105, 110, 77, 97, 116, 99, 104, 101, 115, 67, 97, 115, 101, 70, 111, 108, 100, 77, 111, 100, 101, 108, 32, 101, 120, 97, 109, 112, 108, 101, 46, 99, 111, 109, 47, 100, 105, 111, 103, 101, 110, 101, 115, 47, 100, 105, 111, 103, 101, 110, 101, 115, 47, 122, 122, 108, 97, 119, 115, 95, 114, 111, 111, 116, 95, 98, 49, 46, 70, 110, 83, 97, 109, 101, 68, 111, 109, 97, 105, 110, 73, 115, 69, 113, 117, 105, 118, 97, 108, 101, 110, 99, 101, 32, 101, 120, 97, 109, 112, 108, 101, 46, 99, 111, 109, 47, 100, 105, 111, 103, 101, 110, 101, 115, 47, 100, 105, 111, 103, 101, 110, 101, 115, 47, 122, 122, 108, 97, 119, 115, 95, 114, 111, 111, 116, 95, 98, 49, 46, 70, 110, 83, 97, 109, 101, 68, 111, 109, 97, 105, 110, 73, 103, 110, 111, 114, 101, 115, 65, 83, 67, 73, 73, 67, 97, 115, 101, 32, 101, 120, 97, 109, 112, 108, 101, 46, 99, 111, 109, 47, 100, 105, 111, 103, 101, 110, 101, 115, 47, 100, 105, 111, 103, 101, 110, 101, 115, 47, 122, 122, 108, 97, 119, 115, 95, 114, 111, 111, 116, 95, 98, 49, 46, 70, 110, 66, 101, 97, 99, 111, 110, 75, 101, 121, 73, 68, 77, 97, 116, 99, 104, 101, 115, 85, 110, 114, 101, 115, 101, 114, 118, 101, 100, 65, 108, 112, 104, 97, 98, 101, 116, 32, 101, 120, 97, 109, 112, 108, 101, 46, 99, 111, 109, 47, 100, 105, 111, 103, 101, 110, 101, 115, 47, 100, 105, 111, 103, 101, 110, 101, 115, 47, 122, 122, 108, 97, 119, 115, 95, 114, 111, 111, 116, 95, 98, 49, 46, 70, 110, 66, 101, 97, 99, 111, 110, 75, 101, 121, 73, 68, 67, 111, 110, 99, 97, 116, 101, 110, 97, 116, 105, 111, 110, 32, 101, 120, 97, 109, 112, 108, 101, 46, 99, 111, 109, 47, 100, 105, 111, 103, 101, 110, 101, 115, 47, 100, 105, 111, 103, 101, 110, 101, 115, 47, 122, 122, 108, 97, 119, 115, 95, 114, 111, 111, 116, 95, 98, 49, 46, 70, 110, 79, 110, 108, 121, 86, 97, 108, 117, 101, 65, 110, 115, 119, 101, 114, 115, 84, 104, 101, 79, 110, 101, 80, 97, 105, 114, 79, 102, 84, 104, 97, 116, 78, 97, 109, 101, 32, 101, 120, 97, 109, 112, 108, 101, 46, 99, 111, 109, 47, 100, 105, 111, 103, 101, 110, 101, 115, 47, 100, 105, 111, 103, 101, 110, 101, 115, 47, 122, 122, 108, 97, 119, 115, 95, 114, 111, 111, 116, 95, 98, 49, 46, 70, 110, 79, 110, 108, 121, 86, 97, 108, 117, 101, 83, 105, 110, 103, 108, 101, 79, 114, 65, 98, 115, 101, 110, 116, 78, 97, 109, 101, 65, 110, 121, 79, 114, 100, 101, 114].map Char.ofNat
theorem head_is : Try.prog.initOrder = String.ofList (w1 ++ ' ' :: (w2 ++ ' ' :: (w3 ++ ' ' :: w4))) := by kernel_rfl
theorem words_app : ∀ (w r : List Char), w.all (· != ' ') = true → wordsSigns (w ++ ' ' :: r) = w :: wordsSigns r
  | [], r, _ => rfl
  | c :: w, r, h => by
    simp only [List.all_cons, Bool.and_eq_true, bne_iff_ne, ne_eq] at h
    have ih := words_app w r h.2
    show wordsSigns (c :: (w ++ ' ' :: r)) = _
    rw [wordsSigns.eq_3 _ _ (fun e => h.1 e), ih]
theorem words : behindMainWord (wordsSigns Try.prog.initOrder.toList) = w3 :: wordsSigns w4 := by
  rw [head_is, String.toList_ofList, words_app _ _ (by decide +kernel), words_app _ _ (by decide +kernel), words_app _ _ (by decide +kernel)]
  generalize wordsSigns w4 = r
  kernel_rfl
theorem may_of {P : Program} {r : List (List Char)} (h : behindMainWord (wordsSigns P.initOrder.toList) = w3 :: r) (h1 : P.laysLater = false) (h2 : P.bearsReflect = false) (h3 : P.doorFits [] = true) : P.mayEnter = true := by
  have hs : stripLifts liftWords (w3 :: r) = ([], w3 :: r) := by kernel_rfl
  unfold Program.mayEnter
  rw [h]
  dsimp only
  rw [hs, h1, h2, h3]
  show _ = _
  kernel_rfl
theorem lifts_of {P : Program} {r : List (List Char)} (h : behindMainWord (wordsSigns P.initOrder.toList) = w3 :: r) : P.headLifts = [] := by
  unfold Program.headLifts
  rw [h]
  kernel_rfl
theorem final_of {P : Program} {r : List (List Char)} (h : behindMainWord (wordsSigns P.initOrder.toList) = w3 :: r) : P.liftsFinal = false := by
  unfold Program.liftsFinal
  rw [h, lifts_of h]
  kernel_rfl
theorem make_of {P : Program} {r : List (List Char)} (h : behindMainWord (wordsSigns P.initOrder.toList) = w3 :: r) : P.make = some .cut := by
  unfold Program.make
  rw [h]
  kernel_rfl
theorem may : Try.prog.mayEnter = true := may_of words (by kernel_rfl) (by kernel_rfl) (by kernel_rfl)
theorem final : Try.prog.liftsFinal = false := final_of words
theorem make : Try.prog.make = some .cut := make_of words
end Go.Proofs.Qxb6602922a.Head
