/- The closed facts that read the dump's head word by word. Reckoned by the kernel off the string itself each costs a minute and ten gigabytes; here the head's signs are laid as a list once (the kernel checks that they are the head's), and the facts are reckoned off the list. -/
import Derived.Test.Qxb6000709aRows
import Derived.WalkKit
import Derived.ProofKit
namespace Go.Proofs.Qxb6000709a
set_option linter.unusedVariables false

/-- The signs of the dump's head, by their numbers. -/
def headNums : List Nat := [104, 97, 114, 110, 101, 115, 115, 32, 56, 49, 97, 50, 55, 53, 98, 52, 57, 102, 55, 97, 54, 53, 52, 56, 48, 100, 50, 102, 49, 51, 98, 99, 56, 99, 53, 50, 54, 97, 102, 52,
  55, 53, 49, 51, 98, 100, 99, 101, 50, 99, 100, 55, 56, 48, 101, 99, 48, 97, 97, 51, 54, 55, 50, 97, 101, 49, 55, 56, 57, 97, 101, 101, 32, 99, 117, 116, 32, 97, 116, 32,
  101, 120, 97, 109, 112, 108, 101, 46, 99, 111, 109, 47, 122, 104, 97, 111, 109, 117, 47, 122, 104, 97, 111, 109, 117, 47, 122, 122, 108, 97, 119, 115, 95, 105, 110, 116, 101, 114, 110, 97,
  108, 95, 112, 114, 111, 115, 112, 101, 99, 116, 117, 115, 95, 98, 49, 46, 70, 110, 67, 108, 97, 117, 115, 101, 80, 114, 101, 102, 105, 120, 87, 105, 116, 104, 111, 117, 116, 83, 116, 111,
  112, 77, 97, 114, 107, 32, 101, 120, 97, 109, 112, 108, 101, 46, 99, 111, 109, 47, 122, 104, 97, 111, 109, 117, 47, 122, 104, 97, 111, 109, 117, 47, 122, 122, 108, 97, 119, 115, 95, 105,
  110, 116, 101, 114, 110, 97, 108, 95, 112, 114, 111, 115, 112, 101, 99, 116, 117, 115, 95, 98, 49, 46, 70, 110, 67, 108, 97, 117, 115, 101, 73, 100, 101, 109, 112, 111, 116, 101, 110, 116,
  32, 101, 120, 97, 109, 112, 108, 101, 46, 99, 111, 109, 47, 122, 104, 97, 111, 109, 117, 47, 122, 104, 97, 111, 109, 117, 47, 122, 122, 108, 97, 119, 115, 95, 105, 110, 116, 101, 114, 110,
  97, 108, 95, 112, 114, 111, 115, 112, 101, 99, 116, 117, 115, 95, 98, 49, 46, 70, 110, 67, 108, 97, 117, 115, 101, 83, 116, 111, 112, 77, 97, 114, 107, 69, 110, 100, 115, 78, 97, 109,
  101, 32, 101, 120, 97, 109, 112, 108, 101, 46, 99, 111, 109, 47, 122, 104, 97, 111, 109, 117, 47, 122, 104, 97, 111, 109, 117, 47, 122, 122, 108, 97, 119, 115, 95, 105, 110, 116, 101, 114,
  110, 97, 108, 95, 112, 114, 111, 115, 112, 101, 99, 116, 117, 115, 95, 98, 49, 46, 70, 110, 83, 112, 97, 110, 74, 111, 105, 110, 76, 101, 97, 115, 116, 72, 111, 108, 100, 105, 110, 103,
  32, 101, 120, 97, 109, 112, 108, 101, 46, 99, 111, 109, 47, 122, 104, 97, 111, 109, 117, 47, 122, 104, 97, 111, 109, 117, 47, 122, 122, 108, 97, 119, 115, 95, 105, 110, 116, 101, 114, 110,
  97, 108, 95, 112, 114, 111, 115, 112, 101, 99, 116, 117, 115, 95, 98, 49, 46, 70, 110, 83, 112, 97, 110, 74, 111, 105, 110, 67, 111, 109, 109, 117, 116, 101, 115, 65, 110, 100, 73, 100,
  101, 109, 112, 111, 116, 101, 110, 116, 32, 101, 120, 97, 109, 112, 108, 101, 46, 99, 111, 109, 47, 122, 104, 97, 111, 109, 117, 47, 122, 104, 97, 111, 109, 117, 47, 122, 122, 108, 97, 119,
  115, 95, 105, 110, 116, 101, 114, 110, 97, 108, 95, 112, 114, 111, 115, 112, 101, 99, 116, 117, 115, 95, 98, 49, 46, 70, 110, 83, 112, 97, 110, 74, 111, 105, 110, 65, 115, 115, 111, 99,
  105, 97, 116, 105, 118, 101, 32, 101, 120, 97, 109, 112, 108, 101, 46, 99, 111, 109, 47, 122, 104, 97, 111, 109, 117, 47, 122, 104, 97, 111, 109, 117, 47, 122, 122, 108, 97, 119, 115, 95,
  105, 110, 116, 101, 114, 110, 97, 108, 95, 112, 114, 111, 115, 112, 101, 99, 116, 117, 115, 95, 98, 49, 46, 70, 110, 79, 110, 66, 111, 117, 110, 100, 115, 79, 119, 110, 66, 111, 117, 110,
  100, 115, 65, 99, 99, 101, 112, 116, 101, 100, 32, 101, 120, 97, 109, 112, 108, 101, 46, 99, 111, 109, 47, 122, 104, 97, 111, 109, 117, 47, 122, 104, 97, 111, 109, 117, 47, 122, 122, 108,
  97, 119, 115, 95, 105, 110, 116, 101, 114, 110, 97, 108, 95, 112, 114, 111, 115, 112, 101, 99, 116, 117, 115, 95, 98, 49, 46, 70, 110, 79, 110, 66, 111, 117, 110, 100, 115, 77, 111, 110,
  111, 116, 111, 110, 101, 32, 101, 120, 97, 109, 112, 108, 101, 46, 99, 111, 109, 47, 122, 104, 97, 111, 109, 117, 47, 122, 104, 97, 111, 109, 117, 47, 122, 122, 108, 97, 119, 115, 95, 105,
  110, 116, 101, 114, 110, 97, 108, 95, 112, 114, 111, 115, 112, 101, 99, 116, 117, 115, 95, 98, 49, 46, 70, 110, 79, 110, 66, 111, 117, 110, 100, 115, 79, 114, 100, 101, 114, 70, 114, 101,
  101]

theorem head_eq : Try.pinned.checked.prog.initOrder = String.ofList (headNums.map Char.ofNat) := by kernel_rfl
theorem head_list : Try.pinned.checked.prog.initOrder.toList = headNums.map Char.ofNat := by rw [head_eq, String.toList_ofList]
theorem head_words : (behindMainWord (wordsSigns (headNums.map Char.ofNat))).head? = some "cut".toList := by kernel_rfl

theorem strip_cut (rest : List (List Char)) : stripLifts liftWords ("cut".toList :: rest) = ([], "cut".toList :: rest) := by kernel_rfl

theorem make_of (P : Program) (l : List Char) (h : P.initOrder.toList = l) (hb : (behindMainWord (wordsSigns l)).head? = some "cut".toList) : P.make = some Make.cut := by
  unfold Program.make
  rw [h]
  cases hw : behindMainWord (wordsSigns l) with
  | nil => rw [hw] at hb; cases hb
  | cons c rest =>
    rw [hw] at hb
    obtain rfl : c = "cut".toList := by simpa using hb
    rfl

theorem lifts_of (P : Program) (l : List Char) (h : P.initOrder.toList = l) (hb : (behindMainWord (wordsSigns l)).head? = some "cut".toList) : P.liftsFinal = false := by
  unfold Program.liftsFinal Program.headLifts
  rw [h]
  cases hw : behindMainWord (wordsSigns l) with
  | nil => rw [hw] at hb; cases hb
  | cons c rest =>
    rw [hw] at hb
    obtain rfl : c = "cut".toList := by simpa using hb
    rw [strip_cut]
    rfl

theorem enters_of (P : Program) (l : List Char) (h : P.initOrder.toList = l) (hb : (behindMainWord (wordsSigns l)).head? = some "cut".toList) (h1 : P.laysLater = false) (h2 : P.bearsReflect = false) (h3 : P.doorFits [] = true) : P.mayEnter = true := by
  unfold Program.mayEnter
  rw [h]
  cases hw : behindMainWord (wordsSigns l) with
  | nil => rw [hw] at hb; cases hb
  | cons c rest =>
    rw [hw] at hb
    obtain rfl : c = "cut".toList := by simpa using hb
    simp only [strip_cut, h1, h2, h3]
    rfl

theorem head_make : Try.pinned.checked.prog.make = some Make.cut := make_of _ _ head_list head_words
theorem head_lifts : Try.pinned.checked.prog.liftsFinal = false := lifts_of _ _ head_list head_words
theorem head_enters : Try.pinned.checked.prog.mayEnter = true := enters_of _ _ head_list head_words (by kernel_rfl) (by kernel_rfl) (by kernel_rfl)
end Go.Proofs.Qxb6000709a
