/-
  CLOSED FACTS ON THE PROGRAM's HEAD, in light steps. Evaluated in one go over the loaded program they cost the kernel some 12 GB; here the head's word is laid out once as numbers, and the rest is said of any program whose head reads so.
-/
import Derived.Test.Qxb6000089aRows
import Derived.ProofKit
namespace Go.Proofs.Qxb6000089a

/-- The signs of the head's word on how the program was cut, as numbers. -/
def codes : List Nat := [
  104, 97, 114, 110, 101, 115, 115, 32, 57, 102, 98, 100, 54, 99, 97, 51, 97, 54, 48, 54, 48, 57, 51, 53, 100, 99, 55, 54, 98, 48, 97, 57, 48, 49, 51,
  55, 97, 102, 97, 100, 48, 53, 101, 97, 56, 48, 98, 55, 48, 55, 50, 53, 57, 52, 56, 52, 50, 100, 102, 102, 57, 101, 56, 98, 101, 48, 57, 49, 49, 98, 99,
  101, 32, 99, 117, 116, 32, 97, 116, 32, 101, 120, 97, 109, 112, 108, 101, 46, 99, 111, 109, 47, 103, 108, 111, 116, 50, 47, 103, 108, 111, 116, 50, 47,
  122, 122, 108, 97, 119, 115, 95, 106, 115, 111, 110, 119, 97, 108, 107, 95, 98, 49, 46, 70, 110, 83, 116, 114, 105, 110, 103, 69, 110, 100, 77, 97,
  116, 99, 104, 101, 115, 70, 111, 114, 119, 97, 114, 100, 83, 99, 97, 110, 32, 101, 120, 97, 109, 112, 108, 101, 46, 99, 111, 109, 47, 103, 108, 111,
  116, 50, 47, 103, 108, 111, 116, 50, 47, 122, 122, 108, 97, 119, 115, 95, 106, 115, 111, 110, 119, 97, 108, 107, 95, 98, 49, 46, 70, 110, 83, 116, 114,
  105, 110, 103, 69, 110, 100, 73, 103, 110, 111, 114, 101, 115, 84, 97, 105, 108, 32, 101, 120, 97, 109, 112, 108, 101, 46, 99, 111, 109, 47, 103, 108,
  111, 116, 50, 47, 103, 108, 111, 116, 50, 47, 122, 122, 108, 97, 119, 115, 95, 106, 115, 111, 110, 119, 97, 108, 107, 95, 98, 49, 46, 70, 110, 78, 101,
  120, 116, 83, 107, 105, 112, 115, 87, 104, 105, 116, 101, 115, 112, 97, 99, 101, 32, 101, 120, 97, 109, 112, 108, 101, 46, 99, 111, 109, 47, 103, 108,
  111, 116, 50, 47, 103, 108, 111, 116, 50, 47, 122, 122, 108, 97, 119, 115, 95, 106, 115, 111, 110, 119, 97, 108, 107, 95, 98, 49, 46, 70, 110, 78, 101,
  120, 116, 73, 100, 101, 109, 112, 111, 116, 101, 110, 116, 32, 101, 120, 97, 109, 112, 108, 101, 46, 99, 111, 109, 47, 103, 108, 111, 116, 50, 47, 103,
  108, 111, 116, 50, 47, 122, 122, 108, 97, 119, 115, 95, 106, 115, 111, 110, 119, 97, 108, 107, 95, 98, 49, 46, 70, 110, 86, 97, 108, 117, 101, 77, 97,
  116, 99, 104, 101, 115, 83, 99, 97, 110, 110, 101, 114, 32, 101, 120, 97, 109, 112, 108, 101, 46, 99, 111, 109, 47, 103, 108, 111, 116, 50, 47, 103,
  108, 111, 116, 50, 47, 122, 122, 108, 97, 119, 115, 95, 106, 115, 111, 110, 119, 97, 108, 107, 95, 98, 49, 46, 70, 110, 86, 97, 108, 117, 101, 73, 103,
  110, 111, 114, 101, 115, 87, 104, 97, 116, 70, 111, 108, 108, 111, 119, 115]

/-- The roots' names in it. -/
def roots : List (List Nat) := [
  [101, 120, 97, 109, 112, 108, 101, 46, 99, 111, 109, 47, 103, 108, 111, 116, 50, 47, 103, 108, 111, 116, 50, 47, 122, 122, 108, 97, 119, 115, 95, 106,
    115, 111, 110, 119, 97, 108, 107, 95, 98, 49, 46, 70, 110, 83, 116, 114, 105, 110, 103, 69, 110, 100, 77, 97, 116, 99, 104, 101, 115, 70, 111, 114,
    119, 97, 114, 100, 83, 99, 97, 110],
  [101, 120, 97, 109, 112, 108, 101, 46, 99, 111, 109, 47, 103, 108, 111, 116, 50, 47, 103, 108, 111, 116, 50, 47, 122, 122, 108, 97, 119, 115, 95, 106,
    115, 111, 110, 119, 97, 108, 107, 95, 98, 49, 46, 70, 110, 83, 116, 114, 105, 110, 103, 69, 110, 100, 73, 103, 110, 111, 114, 101, 115, 84, 97, 105,
    108],
  [101, 120, 97, 109, 112, 108, 101, 46, 99, 111, 109, 47, 103, 108, 111, 116, 50, 47, 103, 108, 111, 116, 50, 47, 122, 122, 108, 97, 119, 115, 95, 106,
    115, 111, 110, 119, 97, 108, 107, 95, 98, 49, 46, 70, 110, 78, 101, 120, 116, 83, 107, 105, 112, 115, 87, 104, 105, 116, 101, 115, 112, 97, 99, 101],
  [101, 120, 97, 109, 112, 108, 101, 46, 99, 111, 109, 47, 103, 108, 111, 116, 50, 47, 103, 108, 111, 116, 50, 47, 122, 122, 108, 97, 119, 115, 95, 106,
    115, 111, 110, 119, 97, 108, 107, 95, 98, 49, 46, 70, 110, 78, 101, 120, 116, 73, 100, 101, 109, 112, 111, 116, 101, 110, 116],
  [101, 120, 97, 109, 112, 108, 101, 46, 99, 111, 109, 47, 103, 108, 111, 116, 50, 47, 103, 108, 111, 116, 50, 47, 122, 122, 108, 97, 119, 115, 95, 106,
    115, 111, 110, 119, 97, 108, 107, 95, 98, 49, 46, 70, 110, 86, 97, 108, 117, 101, 77, 97, 116, 99, 104, 101, 115, 83, 99, 97, 110, 110, 101, 114],
  [101, 120, 97, 109, 112, 108, 101, 46, 99, 111, 109, 47, 103, 108, 111, 116, 50, 47, 103, 108, 111, 116, 50, 47, 122, 122, 108, 97, 119, 115, 95, 106,
    115, 111, 110, 119, 97, 108, 107, 95, 98, 49, 46, 70, 110, 86, 97, 108, 117, 101, 73, 103, 110, 111, 114, 101, 115, 87, 104, 97, 116, 70, 111, 108,
    108, 111, 119, 115]]

theorem head_is : Try.prog.initOrder = String.ofList (codes.map Char.ofNat) := by kernel_rfl

theorem head_signs : Try.prog.initOrder.toList = codes.map Char.ofNat := by rw [head_is, String.toList_ofList]

theorem head_words : behindMainWord (wordsSigns (codes.map Char.ofNat)) = ['c', 'u', 't'] :: ['a', 't'] :: roots.map (List.map Char.ofNat) := by kernel_rfl

theorem head_cut : behindMainWord (wordsSigns Try.prog.initOrder.toList) = ['c', 'u', 't'] :: ['a', 't'] :: roots.map (List.map Char.ofNat) := by rw [head_signs, head_words]

theorem make_of {P : Program} {r : List (List Char)} (h : behindMainWord (wordsSigns P.initOrder.toList) = ['c', 'u', 't'] :: ['a', 't'] :: r) : P.make = some .cut := by
  unfold Program.make
  rw [h]
  kernel_rfl

theorem lifts_of {P : Program} {r : List (List Char)} (h : behindMainWord (wordsSigns P.initOrder.toList) = ['c', 'u', 't'] :: ['a', 't'] :: r) : P.headLifts = [] := by
  unfold Program.headLifts
  rw [h]
  kernel_rfl

theorem finals_of {P : Program} {r : List (List Char)} (h : behindMainWord (wordsSigns P.initOrder.toList) = ['c', 'u', 't'] :: ['a', 't'] :: r) : P.liftsFinal = false := by
  unfold Program.liftsFinal
  rw [lifts_of h, h]
  kernel_rfl

theorem enter_of {P : Program} {r : List (List Char)} (h : behindMainWord (wordsSigns P.initOrder.toList) = ['c', 'u', 't'] :: ['a', 't'] :: r) (h1 : P.laysLater = false) (h2 : P.bearsReflect = false) (h3 : P.doorFits [] = true) : P.mayEnter = true := by
  have e : stripLifts liftWords (['c', 'u', 't'] :: ['a', 't'] :: r) = ([], ['c', 'u', 't'] :: ['a', 't'] :: r) := by kernel_rfl
  unfold Program.mayEnter
  rw [h]
  dsimp only
  rw [e, h1, h2, h3]
  refine Eq.trans (b := true) ?_ rfl
  kernel_rfl

theorem and_t {a b : Bool} (h1 : a = true) (h2 : b = true) : (a && b) = true := by rw [h1, h2]; rfl

theorem no_finals : Try.prog.liftsFinal = false := finals_of head_cut
theorem make_is : Try.prog.make = some .cut := make_of head_cut
theorem may_enter : Try.prog.mayEnter = true := enter_of head_cut (by kernel_rfl) (by kernel_rfl) (by kernel_rfl)

end Go.Proofs.Qxb6000089a
