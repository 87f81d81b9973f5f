/-
  The head of the translation, word by word: so that the row's closed facts need not be reckoned over the whole line.
-/
import Derived.Test.Qxb6602766aRows
import Derived.ProofKit
namespace Go.Proofs.Qxb6602766a.Head
def w1 : List Char := [104, 97, 114, 110, 101, 115, 115].map Char.ofNat
def w2 : List Char := [102, 101, 49, 97, 50, 99, 51, 51, 48, 101, 49, 50, 49, 56, 48, 100, 100, 54, 54, 98, 100, 97, 49, 55, 54, 98, 57, 56, 55, 52, 101, 51, 97, 54, 50, 51, 100, 50, 99, 54, 51, 101, 100, 100, 56, 52, 57, 57, 55, 53, 99, 53, 57, 97, 57, 55, 52, 52, 56, 52, 100, 56, 57, 101].map Char.ofNat
def w3 : List Char := [99, 117, 116].map Char.ofNat
def w4 : List Char := [97, 116, 32, 101, 120, 97, 109, 112, 108, 101, 46, 99, 111, 109, 47, 104, 97, 108, 121, 97, 114, 100, 47, 104, 97, 108, 121, 97, 114, 100, 47, 122, 122, 108, 97, 119, 115, 95, 104, 116, 116, 112, 114, 111, 117, 116, 101, 95, 98, 49, 46, 70, 110, 80, 97, 116, 104, 79, 102, 73, 100, 101, 109, 112, 111, 116, 101, 110, 116, 32, 101, 120, 97, 109, 112, 108, 101, 46, 99, 111, 109, 47, 104, 97, 108, 121, 97, 114, 100, 47, 104, 97, 108, 121, 97, 114, 100, 47, 122, 122, 108, 97, 119, 115, 95, 104, 116, 116, 112, 114, 111, 117, 116, 101, 95, 98, 49, 46, 70, 110, 80, 97, 116, 104, 79, 102, 65, 98, 115, 111, 108, 117, 116, 101, 65, 103, 114, 101, 101, 115, 87, 105, 116, 104, 79, 114, 105, 103, 105, 110, 32, 101, 120, 97, 109, 112, 108, 101, 46, 99, 111, 109, 47, 104, 97, 108, 121, 97, 114, 100, 47, 104, 97, 108, 121, 97, 114, 100, 47, 122, 122, 108, 97, 119, 115, 95, 104, 116, 116, 112, 114, 111, 117, 116, 101, 95, 98, 49, 46, 70, 110, 86, 97, 108, 105, 100, 83, 101, 103, 109, 101, 110, 116, 77, 97, 116, 99, 104, 101, 115, 80, 99, 104, 97, 114, 77, 111, 100, 101, 108, 32, 101, 120, 97, 109, 112, 108, 101, 46, 99, 111, 109, 47, 104, 97, 108, 121, 97, 114, 100, 47, 104, 97, 108, 121, 97, 114, 100, 47, 122, 122, 108, 97, 119, 115, 95, 104, 116, 116, 112, 114, 111, 117, 116, 101, 95, 98, 49, 46, 70, 110, 86, 97, 108, 105, 100, 83, 101, 103, 109, 101, 110, 116, 67, 108, 111, 115, 101, 100, 85, 110, 100, 101, 114, 67, 111, 110, 99, 97, 116, 32, 101, 120, 97, 109, 112, 108, 101, 46, 99, 111, 109, 47, 104, 97, 108, 121, 97, 114, 100, 47, 104, 97, 108, 121, 97, 114, 100, 47, 122, 122, 108, 97, 119, 115, 95, 104, 116, 116, 112, 114, 111, 117, 116, 101, 95, 98, 49, 46, 70, 110, 86, 97, 108, 105, 100, 83, 101, 103, 109, 101, 110, 116, 83, 117, 114, 118, 105, 118, 101, 115, 80, 97, 116, 104, 79, 102, 32, 101, 120, 97, 109, 112, 108, 101, 46, 99, 111, 109, 47, 104, 97, 108, 121, 97, 114, 100, 47, 104, 97, 108, 121, 97, 114, 100, 47, 122, 122, 108, 97, 119, 115, 95, 104, 116, 116, 112, 114, 111, 117, 116, 101, 95, 98, 49, 46, 70, 110, 82, 101, 97, 115, 111, 110, 73, 110, 106, 101, 99, 116, 105, 118, 101, 87, 104, 101, 114, 101, 80, 104, 114, 97, 115, 101, 100].map Char.ofNat
theorem head_is : Try.prog.initOrder = String.ofList (w1 ++ ' ' :: (w2 ++ ' ' :: (w3 ++ ' ' :: w4))) := by kernel_rfl
theorem words_app : ∀ (w r : List Char), w.all (· != ' ') = true → wordsSigns (w ++ ' ' :: r) = w :: wordsSigns r
  | [], r, _ => rfl
  | c :: w, r, h => by
    simp only [List.all_cons, Bool.and_eq_true, bne_iff_ne, ne_eq] at h
    have ih := words_app w r h.2
    show wordsSigns (c :: (w ++ ' ' :: r)) = _
    rw [wordsSigns.eq_3 _ _ (fun e => h.1 e), ih]
theorem words : behindMainWord (wordsSigns Try.prog.initOrder.toList) = w3 :: wordsSigns w4 := by
  rw [head_is, String.toList_ofList, words_app _ _ (by decide +kernel), words_app _ _ (by decide +kernel), words_app _ _ (by decide +kernel)]
  generalize wordsSigns w4 = r
  kernel_rfl
theorem may_of {P : Program} {r : List (List Char)} (h : behindMainWord (wordsSigns P.initOrder.toList) = w3 :: r) (h1 : P.laysLater = false) (h2 : P.bearsReflect = false) (h3 : P.doorFits [] = true) : P.mayEnter = true := by
  have hs : stripLifts liftWords (w3 :: r) = ([], w3 :: r) := by kernel_rfl
  unfold Program.mayEnter
  rw [h]
  dsimp only
  rw [hs, h1, h2, h3]
  show _ = _
  kernel_rfl
theorem lifts_of {P : Program} {r : List (List Char)} (h : behindMainWord (wordsSigns P.initOrder.toList) = w3 :: r) : P.headLifts = [] := by
  unfold Program.headLifts
  rw [h]
  kernel_rfl
theorem final_of {P : Program} {r : List (List Char)} (h : behindMainWord (wordsSigns P.initOrder.toList) = w3 :: r) : P.liftsFinal = false := by
  unfold Program.liftsFinal
  rw [h, lifts_of h]
  kernel_rfl
theorem make_of {P : Program} {r : List (List Char)} (h : behindMainWord (wordsSigns P.initOrder.toList) = w3 :: r) : P.make = some .cut := by
  unfold Program.make
  rw [h]
  kernel_rfl
theorem may : Try.prog.mayEnter = true := may_of words (by kernel_rfl) (by kernel_rfl) (by kernel_rfl)
theorem final : Try.prog.liftsFinal = false := final_of words
theorem make : Try.prog.make = some .cut := make_of words
end Go.Proofs.Qxb6602766a.Head
