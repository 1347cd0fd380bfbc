import Derived.Test.Qxb6602594aRows
import Derived.JoinedOf
namespace Go.Proofs.Qxb6602594a

/-! The words of the program's head, letter by letter: the kernel reads them off the literal at once, without decoding it. -/
def signsA : List Char := ['h', 'a', 'r', 'n', 'e', 's', 's']
def signsB : List Char := ['3', '6', 'd', '4', 'a', '1', '7', '7', '7', 'e', '5', 'f', '8', '9', '8', '6', '8', 'd', '9', '9', '6', 'c', '6', '3', '0', 'b', 'f', '6', 'f', '0', '7', 'a', '3', '4', '3', '4', 'c', 'a', '7', 'c', 'd', 'b', '1', 'c', 'f', '3', 'f', '6', '7', '7', 'b', 'c', '9', 'a', 'b', '5', '3', '6', '7', 'b', 'c', '2', '1', '4']
def signsC : List Char := ['c', 'u', 't']
def signsD : List Char := ['a', 't', ' ', 'e', 'x', 'a', 'm', 'p', 'l', 'e', '.', 'c', 'o', 'm', '/', 'p', 'r', 'e', 'w', 'r', 'i', 't', 'e', '/', 'p', 'r', 'e', 'w', 'r', 'i', 't', 'e', '/', 'z', 'z', 'l', 'a', 'w', 's', '_', 'i', 'n', 't', 'e', 'r', 'n', 'a', 'l', '_', 'l', 'i', 's', 't', 'a', 'p', 'p', 'e', 'n', 'd', '_', 'b', '1', '.', 'F', 'n', 'R', 'e', 's', 'u', 'l', 't', 'T', 'a', 'l', 'l', 'i', 'e', 's', 'O', 'u', 't', 'c', 'o', 'm', 'e', 's', 'A', 'n', 'd', 'C', 'a', 'r', 'r', 'i', 'e', 's', 'F', 'i', 'n', 'd', 'i', 'n', 'g', 's', ' ', 'e', 'x', 'a', 'm', 'p', 'l', 'e', '.', 'c', 'o', 'm', '/', 'p', 'r', 'e', 'w', 'r', 'i', 't', 'e', '/', 'p', 'r', 'e', 'w', 'r', 'i', 't', 'e', '/', 'z', 'z', 'l', 'a', 'w', 's', '_', 'i', 'n', 't', 'e', 'r', 'n', 'a', 'l', '_', 'l', 'i', 's', 't', 'a', 'p', 'p', 'e', 'n', 'd', '_', 'b', '1', '.', 'F', 'n', 'R', 'e', 's', 'u', 'l', 't', 'T', 'a', 'l', 'l', 'i', 'e', 's', 'A', 'd', 'd', 'O', 'v', 'e', 'r', 'J', 'o', 'i', 'n', 'e', 'd', 'H', 'i', 's', 't', 'o', 'r', 'i', 'e', 's', 'I', 'n', 'E', 'i', 't', 'h', 'e', 'r', 'O', 'r', 'd', 'e', 'r', ' ', 'e', 'x', 'a', 'm', 'p', 'l', 'e', '.', 'c', 'o', 'm', '/', 'p', 'r', 'e', 'w', 'r', 'i', 't', 'e', '/', 'p', 'r', 'e', 'w', 'r', 'i', 't', 'e', '/', 'z', 'z', 'l', 'a', 'w', 's', '_', 'i', 'n', 't', 'e', 'r', 'n', 'a', 'l', '_', 'l', 'i', 's', 't', 'a', 'p', 'p', 'e', 'n', 'd', '_', 'b', '1', '.', 'F', 'n', 'S', 'e', 't', 't', 'l', 'e', 'G', 'i', 'v', 'e', 's', 'E', 'a', 'c', 'h', 'R', 'e', 'a', 'd', 'V', 'a', 'l', 'u', 'e', 'O', 'n', 'e', 'A', 'p', 'p', 'e', 'n', 'd', 'A', 't', 'I', 't', 's', 'L', 'a', 's', 't', 'P', 'l', 'a', 'c', 'e', ' ', 'e', 'x', 'a', 'm', 'p', 'l', 'e', '.', 'c', 'o', 'm', '/', 'p', 'r', 'e', 'w', 'r', 'i', 't', 'e', '/', 'p', 'r', 'e', 'w', 'r', 'i', 't', 'e', '/', 'z', 'z', 'l', 'a', 'w', 's', '_', 'i', 'n', 't', 'e', 'r', 'n', 'a', 'l', '_', 'l', 'i', 's', 't', 'a', 'p', 'p', 'e', 'n', 'd', '_', 'b', '1', '.', 'F', 'n', 'S', 'e', 't', 't', 'l', 'e', 'T', 'w', 'i', 'c', 'e', 'I', 's', 'S', 'e', 't', 't', 'l', 'e', 'O', 'n', 'c', 'e', ' ', 'e', 'x', 'a', 'm', 'p', 'l', 'e', '.', 'c', 'o', 'm', '/', 'p', 'r', 'e', 'w', 'r', 'i', 't', 'e', '/', 'p', 'r', 'e', 'w', 'r', 'i', 't', 'e', '/', 'z', 'z', 'l', 'a', 'w', 's', '_', 'i', 'n', 't', 'e', 'r', 'n', 'a', 'l', '_', 'l', 'i', 's', 't', 'a', 'p', 'p', 'e', 'n', 'd', '_', 'b', '1', '.', 'F', 'n', 'C', 'o', 'm', 'p', 'o', 'n', 'e', 'n', 't', 's', 'A', 'r', 'e', 'E', 'x', 'a', 'c', 't', 'l', 'y', 'T', 'h', 'e', 'S', 't', 'r', 'o', 'n', 'g', 'l', 'y', 'C', 'o', 'n', 'n', 'e', 'c', 't', 'e', 'd', 'P', 'a', 'r', 't', 's', 'S', 'i', 'n', 'k', 's', 'F', 'i', 'r', 's', 't', ' ', 'e', 'x', 'a', 'm', 'p', 'l', 'e', '.', 'c', 'o', 'm', '/', 'p', 'r', 'e', 'w', 'r', 'i', 't', 'e', '/', 'p', 'r', 'e', 'w', 'r', 'i', 't', 'e', '/', 'z', 'z', 'l', 'a', 'w', 's', '_', 'i', 'n', 't', 'e', 'r', 'n', 'a', 'l', '_', 'l', 'i', 's', 't', 'a', 'p', 'p', 'e', 'n', 'd', '_', 'b', '1', '.', 'F', 'n', 'C', 'o', 'm', 'p', 'o', 'n', 'e', 'n', 't', 's', 'M', 'e', 'r', 'g', 'e', 'B', 'u', 't', 'N', 'e', 'v', 'e', 'r', 'S', 'p', 'l', 'i', 't', 'W', 'h', 'e', 'n', 'M', 'o', 'r', 'e', 'K', 'i', 'n', 'd', 's', 'C', 'o', 'u', 'n', 't', ' ', 'e', 'x', 'a', 'm', 'p', 'l', 'e', '.', 'c', 'o', 'm', '/', 'p', 'r', 'e', 'w', 'r', 'i', 't', 'e', '/', 'p', 'r', 'e', 'w', 'r', 'i', 't', 'e', '/', 'z', 'z', 'l', 'a', 'w', 's', '_', 'i', 'n', 't', 'e', 'r', 'n', 'a', 'l', '_', 'l', 'i', 's', 't', 'a', 'p', 'p', 'e', 'n', 'd', '_', 'b', '1', '.', 'F', 'n', 'C', 'o', 'm', 'p', 'o', 'n', 'e', 'n', 't', 's', 'N', 'u', 'm', 'b', 'e', 'r', 'N', 'o', 'd', 'e', 's', 'I', 'n', 'O', 'r', 'd', 'e', 'r', 'W', 'h', 'e', 'n', 'N', 'o', 'E', 'd', 'g', 'e', 'C', 'o', 'u', 'n', 't', 's']
def signs : List Char := signsA ++ ' ' :: (signsB ++ ' ' :: (signsC ++ ' ' :: signsD))

theorem order_is : Try.prog.initOrder = String.ofList signs := by kernel_rfl
theorem order_list : Try.prog.initOrder.toList = signs := by rw [order_is, String.toList_ofList]

theorem wordsSigns_space (t : List Char) : wordsSigns (' ' :: t) = [] :: wordsSigns t := by simp [wordsSigns]
theorem wordsSigns_other (c : Char) (t : List Char) (h : c ≠ ' ') : wordsSigns (c :: t) = match wordsSigns t with | w :: ws => (c :: w) :: ws | [] => [[c]] := by
  rw [wordsSigns]
  · rfl
  · exact h
theorem wordsSigns_word (w t : List Char) (hw : ∀ c ∈ w, c ≠ ' ') : wordsSigns (w ++ ' ' :: t) = w :: wordsSigns t := by
  induction w with
  | nil => exact wordsSigns_space t
  | cons c w ih =>
    rw [List.cons_append, wordsSigns_other c _ (hw c (by simp)), ih (fun x hx => hw x (by simp [hx]))]

theorem words : ∃ r, behindMainWord (wordsSigns Try.prog.initOrder.toList) = signsC :: r := by
  refine ⟨wordsSigns signsD, ?_⟩
  rw [order_list, signs, wordsSigns_word _ _ (by decide), wordsSigns_word _ _ (by decide), wordsSigns_word _ _ (by decide)]
  show (if ((signsA == "harness".toList || signsA == "ownmain".toList) && isSumSigns signsB) = true then signsC :: wordsSigns signsD else signsA :: signsB :: signsC :: wordsSigns signsD) = _
  rw [if_pos (by decide +kernel)]

theorem strip (r : List (List Char)) : stripLifts liftWords (signsC :: r) = ([], signsC :: r) := by kernel_rfl

theorem headLifts_of {P : Program} {r : List (List Char)} (h : behindMainWord (wordsSigns P.initOrder.toList) = signsC :: r) : P.headLifts = [] := by
  unfold Program.headLifts
  rw [h, strip]
  simp

theorem mayEnter_of {P : Program} {r : List (List Char)} (h : behindMainWord (wordsSigns P.initOrder.toList) = signsC :: r) (a : P.laysLater = false) (b : P.bearsReflect = false) (c : P.doorFits [] = true) : P.mayEnter = true := by
  unfold Program.mayEnter
  rw [h]
  simp only [strip, a, b, c]
  simp
  exact .inr rfl

theorem liftsFinal_of {P : Program} {r : List (List Char)} (h : behindMainWord (wordsSigns P.initOrder.toList) = signsC :: r) : P.liftsFinal = false := by
  unfold Program.liftsFinal
  rw [headLifts_of h, h]
  simp [signsC]

theorem make_of {P : Program} {r : List (List Char)} (h : behindMainWord (wordsSigns P.initOrder.toList) = signsC :: r) : P.make = some .cut := by
  unfold Program.make
  rw [h]
  simp [signsC]

theorem mayEnter : Try.prog.mayEnter = true := by
  obtain ⟨r, hr⟩ := words
  exact mayEnter_of hr (by kernel_rfl) (by kernel_rfl) (by kernel_rfl)
theorem liftsFinal : Try.prog.liftsFinal = false := by
  obtain ⟨r, hr⟩ := words
  exact liftsFinal_of hr
theorem make : Try.prog.make = some .cut := by
  obtain ⟨r, hr⟩ := words
  exact make_of hr
end Go.Proofs.Qxb6602594a
