/-
  THE HEAD OF THE DUMP, as lists of signs. The row's closed facts on the head take some ten gigabytes each if the kernel decodes the head's string sign by sign (772 signs) and cuts it into words; here it is decoded by the law 'String.toList_ofList' and cut by 'words_cut'. The signs are read off the given dump's second row by program; the kernel checks them ('init_is').
-/
import Derived.Test.Qxb6600602aRows
namespace Go.Proofs.Qxb6600602a

def signsOf (l : List Nat) : List Char := l.map Char.ofNat
def word1 : List Char := signsOf [104, 97, 114, 110, 101, 115, 115]
def word2 : List Char := signsOf [55, 56, 54, 101, 99, 56, 56, 49, 48, 48, 55, 55, 97, 53, 52, 55, 50, 98, 57, 55, 51, 102, 98, 56, 53, 100, 53, 102, 101, 56, 97, 98, 52, 57, 49, 100, 99, 51, 50, 97, 55, 48, 57, 102, 99, 53, 101, 51, 49, 49, 56, 99, 98, 97, 98, 53, 56, 97, 99, 50, 48, 56, 49, 57]
def word3 : List Char := signsOf [99, 117, 116]
def wordsTail : List Char := signsOf [97, 116, 32, 101, 120, 97, 109, 112, 108, 101, 46, 99, 111, 109, 47, 100, 101, 109, 97, 114, 99, 47, 100, 101, 109, 97, 114, 99, 47, 122, 122, 108, 97, 119, 115, 95, 112, 107, 103, 95, 115, 101, 114, 118, 101, 114, 95, 98, 49, 46, 70, 110, 67, 117, 116, 77, 97, 116, 99, 104, 101, 115, 80, 114, 101, 102, 105, 120, 83, 117, 109, 77, 111, 100, 101, 108, 32, 101, 120, 97, 109, 112, 108, 101, 46, 99, 111, 109, 47, 100, 101, 109, 97, 114, 99, 47, 100, 101, 109, 97, 114, 99, 47, 122, 122, 108, 97, 119, 115, 95, 112, 107, 103, 95, 115, 101, 114, 118, 101, 114, 95, 98, 49, 46, 70, 110, 67, 117, 116, 83, 112, 108, 105, 116, 115, 84, 104, 101, 70, 108, 97, 116, 79, 99, 116, 101, 116, 115, 65, 116, 78, 32, 101, 120, 97, 109, 112, 108, 101, 46, 99, 111, 109, 47, 100, 101, 109, 97, 114, 99, 47, 100, 101, 109, 97, 114, 99, 47, 122, 122, 108, 97, 119, 115, 95, 112, 107, 103, 95, 115, 101, 114, 118, 101, 114, 95, 98, 49, 46, 70, 110, 67, 117, 116, 84, 119, 105, 99, 101, 73, 115, 67, 117, 116, 79, 110, 99, 101, 66, 121, 83, 117, 109, 32, 101, 120, 97, 109, 112, 108, 101, 46, 99, 111, 109, 47, 100, 101, 109, 97, 114, 99, 47, 100, 101, 109, 97, 114, 99, 47, 122, 122, 108, 97, 119, 115, 95, 112, 107, 103, 95, 115, 101, 114, 118, 101, 114, 95, 98, 49, 46, 70, 110, 65, 100, 100, 80, 97, 114, 116, 75, 101, 101, 112, 115, 69, 118, 101, 114, 121, 79, 99, 116, 101, 116, 73, 110, 79, 114, 100, 101, 114, 32, 101, 120, 97, 109, 112, 108, 101, 46, 99, 111, 109, 47, 100, 101, 109, 97, 114, 99, 47, 100, 101, 109, 97, 114, 99, 47, 122, 122, 108, 97, 119, 115, 95, 112, 107, 103, 95, 115, 101, 114, 118, 101, 114, 95, 98, 49, 46, 70, 110, 65, 100, 100, 80, 97, 114, 116, 83, 112, 108, 105, 116, 115, 79, 110, 108, 121, 66, 101, 116, 119, 101, 101, 110, 70, 114, 97, 109, 101, 115, 32, 101, 120, 97, 109, 112, 108, 101, 46, 99, 111, 109, 47, 100, 101, 109, 97, 114, 99, 47, 100, 101, 109, 97, 114, 99, 47, 122, 122, 108, 97, 119, 115, 95, 112, 107, 103, 95, 115, 101, 114, 118, 101, 114, 95, 98, 49, 46, 70, 110, 65, 100, 100, 80, 97, 114, 116, 67, 111, 112, 105, 101, 115, 73, 116, 115, 70, 114, 97, 109, 101, 115, 32, 101, 120, 97, 109, 112, 108, 101, 46, 99, 111, 109, 47, 100, 101, 109, 97, 114, 99, 47, 100, 101, 109, 97, 114, 99, 47, 122, 122, 108, 97, 119, 115, 95, 112, 107, 103, 95, 115, 101, 114, 118, 101, 114, 95, 98, 49, 46, 70, 110, 65, 100, 100, 87, 104, 111, 108, 101, 77, 101, 115, 115, 97, 103, 101, 84, 97, 107, 101, 115, 82, 111, 111, 109, 79, 102, 69, 120, 97, 99, 116, 108, 121, 73, 116, 115, 83, 105, 122, 101, 32, 101, 120, 97, 109, 112, 108, 101, 46, 99, 111, 109, 47, 100, 101, 109, 97, 114, 99, 47, 100, 101, 109, 97, 114, 99, 47, 122, 122, 108, 97, 119, 115, 95, 112, 107, 103, 95, 115, 101, 114, 118, 101, 114, 95, 98, 49, 46, 70, 110, 65, 100, 100, 82, 111, 111, 109, 83, 116, 97, 121, 115, 87, 105, 116, 104, 105, 110, 66, 111, 117, 110, 100, 79, 102, 87, 104, 97, 116, 67, 97, 109, 101, 32, 101, 120, 97, 109, 112, 108, 101, 46, 99, 111, 109, 47, 100, 101, 109, 97, 114, 99, 47, 100, 101, 109, 97, 114, 99, 47, 122, 122, 108, 97, 119, 115, 95, 112, 107, 103, 95, 115, 101, 114, 118, 101, 114, 95, 98, 49, 46, 70, 110, 65, 100, 100, 67, 111, 112, 105, 101, 115, 73, 116, 115, 70, 114, 97, 109, 101, 115]

theorem init_is : Try.prog.initOrder = String.ofList (word1 ++ ' ' :: (word2 ++ ' ' :: (word3 ++ ' ' :: wordsTail))) := by kernel_rfl
theorem init_signs : Try.prog.initOrder.toList = word1 ++ ' ' :: (word2 ++ ' ' :: (word3 ++ ' ' :: wordsTail)) := by rw [init_is, String.toList_ofList]

theorem words_cut (u r : List Char) (h : u.all (· != ' ') = true) : wordsSigns (u ++ ' ' :: r) = u :: wordsSigns r := by
  induction u with
  | nil => rw [List.nil_append, wordsSigns]
  | cons c u ih =>
    simp only [List.all_cons, Bool.and_eq_true, bne_iff_ne, ne_eq] at h
    rw [List.cons_append, wordsSigns]
    · rw [ih h.2]
    · exact fun e => h.1 e

theorem words_is : wordsSigns Try.prog.initOrder.toList = word1 :: word2 :: word3 :: wordsSigns wordsTail := by
  rw [init_signs, words_cut _ _ (by kernel_rfl), words_cut _ _ (by kernel_rfl), words_cut _ _ (by kernel_rfl)]

theorem behind_is : behindMainWord (wordsSigns Try.prog.initOrder.toList) = word3 :: wordsSigns wordsTail := by
  rw [words_is]
  generalize wordsSigns wordsTail = R
  rw [behindMainWord, if_pos (by kernel_rfl)]

theorem strip_is (R : List (List Char)) : stripLifts liftWords (word3 :: R) = ([], word3 :: R) := by kernel_rfl

/-! Over ANY program whose head so begins: so that the kernel does not run the given one's head. -/
theorem make_gen (P : Program) (R : List (List Char)) (h : behindMainWord (wordsSigns P.initOrder.toList) = word3 :: R) : P.make = some .cut := by
  unfold Program.make
  rw [h]
  show (if (word3 == "gc".toList || word3 == "spec".toList) = true then _ else if (word3 == "cut".toList || _) = true then _ else _) = _
  rw [if_neg (by decide +kernel), if_pos (by rw [Bool.or_eq_true]; exact .inl (by decide +kernel))]
theorem headLifts_gen (P : Program) (R : List (List Char)) (h : behindMainWord (wordsSigns P.initOrder.toList) = word3 :: R) : P.headLifts = [] := by
  unfold Program.headLifts
  rw [h, strip_is]
  kernel_rfl
theorem liftsFinal_gen (P : Program) (R : List (List Char)) (h : behindMainWord (wordsSigns P.initOrder.toList) = word3 :: R) : P.liftsFinal = false := by
  unfold Program.liftsFinal
  rw [h, headLifts_gen P R h]
  kernel_rfl
theorem mayEnter_gen (P : Program) (R : List (List Char)) (h : behindMainWord (wordsSigns P.initOrder.toList) = word3 :: R) (h1 : P.laysLater = false) (h2 : P.bearsReflect = false) (h3 : P.doorFits [] = true) : P.mayEnter = true := by
  unfold Program.mayEnter
  rw [h]
  simp only [strip_is, h1, h2, h3]
  rw [Bool.or_eq_true]
  exact .inr (by kernel_rfl)

theorem mayEnter_is : Try.prog.mayEnter = true := mayEnter_gen _ _ behind_is (by kernel_rfl) (by kernel_rfl) (by kernel_rfl)
theorem liftsFinal_is : Try.prog.liftsFinal = false := liftsFinal_gen _ _ behind_is
theorem make_is : Try.prog.make = some .cut := make_gen _ _ behind_is

end Go.Proofs.Qxb6600602a
