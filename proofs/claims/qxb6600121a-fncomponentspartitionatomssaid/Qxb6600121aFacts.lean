/-
  The program's head, read once (facts of the seat that ask for the program's own first words).
-/
import Derived.Test.Qxb6600121aRows
import Derived.WalkKit
import Derived.ProofKit
import Derived.JoinedOf
namespace Go.Proofs.Qxb6600121a
open Go Go.Proofs
def headRest : List Char := ['a', 't', ' ', 'e', 'x', 'a', 'm', 'p', 'l', 'e', '.', 'c', 'o', 'm', '/', 'c', 'o', 'h', 'e', 'r', 'e', 'n', 't', '-', 's', 'c', 'h', 'e', 'm', 'a', '/', 'c', 'o', 'h', 'e', 'r', 'e', 'n', 't', '-', 's', 'c', 'h', 'e', 'm', 'a', '/', 'z', 'z', 'l', 'a', 'w', 's', '_', 'i', 'n', 't', 'e', 'r', 'n', 'a', 'l', '_', 'w', 'e', 'l', 'l', 'f', 'o', 'u', 'n', 'd', 'e', 'd', '_', 'b', '1', '.', 'F', 'n', 'C', 'o', 'm', 'p', 'o', 'n', 'e', 'n', 't', 's', 'P', 'a', 'r', 't', 'i', 't', 'i', 'o', 'n', 'A', 't', 'o', 'm', 's', ' ', 'e', 'x', 'a', 'm', 'p', 'l', 'e', '.', 'c', 'o', 'm', '/', 'c', 'o', 'h', 'e', 'r', 'e', 'n', 't', '-', 's', 'c', 'h', 'e', 'm', 'a', '/', 'c', 'o', 'h', 'e', 'r', 'e', 'n', 't', '-', 's', 'c', 'h', 'e', 'm', 'a', '/', 'z', 'z', 'l', 'a', 'w', 's', '_', 'i', 'n', 't', 'e', 'r', 'n', 'a', 'l', '_', 'w', 'e', 'l', 'l', 'f', 'o', 'u', 'n', 'd', 'e', 'd', '_', 'b', '1', '.', 'F', 'n', 'C', 'o', 'm', 'p', 'o', 'n', 'e', 'n', 't', 's', 'F', 'o', 'l', 'l', 'o', 'w', 'D', 'e', 'p', 'e', 'n', 'd', 'e', 'n', 'c', 'i', 'e', 's', ' ', 'e', 'x', 'a', 'm', 'p', 'l', 'e', '.', 'c', 'o', 'm', '/', 'c', 'o', 'h', 'e', 'r', 'e', 'n', 't', '-', 's', 'c', 'h', 'e', 'm', 'a', '/', 'c', 'o', 'h', 'e', 'r', 'e', 'n', 't', '-', 's', 'c', 'h', 'e', 'm', 'a', '/', 'z', 'z', 'l', 'a', 'w', 's', '_', 'i', 'n', 't', 'e', 'r', 'n', 'a', 'l', '_', 'w', 'e', 'l', 'l', 'f', 'o', 'u', 'n', 'd', 'e', 'd', '_', 'b', '1', '.', 'F', 'n', 'C', 'o', 'm', 'p', 'o', 'n', 'e', 'n', 't', 's', 'A', 'r', 'e', 'S', 't', 'r', 'o', 'n', 'g', 'l', 'y', 'C', 'o', 'n', 'n', 'e', 'c', 't', 'e', 'd', ' ', 'e', 'x', 'a', 'm', 'p', 'l', 'e', '.', 'c', 'o', 'm', '/', 'c', 'o', 'h', 'e', 'r', 'e', 'n', 't', '-', 's', 'c', 'h', 'e', 'm', 'a', '/', 'c', 'o', 'h', 'e', 'r', 'e', 'n', 't', '-', 's', 'c', 'h', 'e', 'm', 'a', '/', 'z', 'z', 'l', 'a', 'w', 's', '_', 'i', 'n', 't', 'e', 'r', 'n', 'a', 'l', '_', 'w', 'e', 'l', 'l', 'f', 'o', 'u', 'n', 'd', 'e', 'd', '_', 'b', '1', '.', 'F', 'n', 'S', 'o', 'l', 'v', 'e', 'A', 'g', 'r', 'e', 'e', 's', 'W', 'i', 't', 'h', 'W', 'e', 'l', 'l', 'F', 'o', 'u', 'n', 'd', 'e', 'd', 'M', 'o', 'd', 'e', 'l', ' ', 'e', 'x', 'a', 'm', 'p', 'l', 'e', '.', 'c', 'o', 'm', '/', 'c', 'o', 'h', 'e', 'r', 'e', 'n', 't', '-', 's', 'c', 'h', 'e', 'm', 'a', '/', 'c', 'o', 'h', 'e', 'r', 'e', 'n', 't', '-', 's', 'c', 'h', 'e', 'm', 'a', '/', 'z', 'z', 'l', 'a', 'w', 's', '_', 'i', 'n', 't', 'e', 'r', 'n', 'a', 'l', '_', 'w', 'e', 'l', 'l', 'f', 'o', 'u', 'n', 'd', 'e', 'd', '_', 'b', '1', '.', 'F', 'n', 'S', 'e', 't', 't', 'l', 'e', 'A', 'g', 'a', 'i', 'n', 'C', 'h', 'a', 'n', 'g', 'e', 's', 'N', 'o', 't', 'h', 'i', 'n', 'g', ' ', 'e', 'x', 'a', 'm', 'p', 'l', 'e', '.', 'c', 'o', 'm', '/', 'c', 'o', 'h', 'e', 'r', 'e', 'n', 't', '-', 's', 'c', 'h', 'e', 'm', 'a', '/', 'c', 'o', 'h', 'e', 'r', 'e', 'n', 't', '-', 's', 'c', 'h', 'e', 'm', 'a', '/', 'z', 'z', 'l', 'a', 'w', 's', '_', 'i', 'n', 't', 'e', 'r', 'n', 'a', 'l', '_', 'w', 'e', 'l', 'l', 'f', 'o', 'u', 'n', 'd', 'e', 'd', '_', 'b', '1', '.', 'F', 'n', 'F', 'r', 'e', 's', 'h', 'S', 'e', 'a', 'r', 'c', 'h', 'R', 'e', 'f', 'u', 't', 'e', 's', 'N', 'o', 'n', 'e', ' ', 'e', 'x', 'a', 'm', 'p', 'l', 'e', '.', 'c', 'o', 'm', '/', 'c', 'o', 'h', 'e', 'r', 'e', 'n', 't', '-', 's', 'c', 'h', 'e', 'm', 'a', '/', 'c', 'o', 'h', 'e', 'r', 'e', 'n', 't', '-', 's', 'c', 'h', 'e', 'm', 'a', '/', 'z', 'z', 'l', 'a', 'w', 's', '_', 'i', 'n', 't', 'e', 'r', 'n', 'a', 'l', '_', 'w', 'e', 'l', 'l', 'f', 'o', 'u', 'n', 'd', 'e', 'd', '_', 'b', '1', '.', 'F', 'n', 'S', 'o', 'u', 'r', 'c', 'e', 's', 'A', 'r', 'e', 'F', 'o', 'u', 'n', 'd', 'e', 'd', 'S', 'u', 'p', 'p', 'o', 'r', 't', 's']
def headSum : List Char := ['d', '8', 'd', '8', '2', 'd', '2', '3', 'a', 'a', 'e', '8', '1', 'e', '8', 'f', 'e', '0', 'b', '4', '6', '2', 'e', '7', '9', '6', 'd', '9', 'f', '2', '0', '5', '2', '4', '0', 'c', 'f', 'd', 'c', '5', '6', 'e', 'c', '7', '2', '5', 'b', 'a', 'b', '9', 'b', '3', '8', '0', '5', '4', '9', '9', 'b', 'c', '0', '0', 'f', 'a']
set_option maxRecDepth 100000 in
theorem headIs : Try.prog.initOrder = String.ofList (['h', 'a', 'r', 'n', 'e', 's', 's'] ++ ' ' :: (headSum ++ ' ' :: (['c', 'u', 't'] ++ ' ' :: headRest))) := by kernel_rfl
theorem wordsSigns_word : ∀ (w r : List Char), (w.all (fun c => c != ' ')) = true → wordsSigns (w ++ ' ' :: r) = w :: wordsSigns r
  | [], r, _ => rfl
  | c :: w, r, h => by
    simp only [List.all_cons, Bool.and_eq_true, bne_iff_ne, ne_eq] at h
    have ih := wordsSigns_word w r h.2
    rw [List.cons_append, wordsSigns, ih]
    exact h.1
theorem headWords : behindMainWord (wordsSigns Try.prog.initOrder.toList) = ['c', 'u', 't'] :: wordsSigns headRest := by
  rw [headIs, String.toList_ofList, wordsSigns_word _ _ (by kernel_rfl), wordsSigns_word _ _ (by kernel_rfl), wordsSigns_word _ _ (by kernel_rfl)]
  generalize wordsSigns headRest = R
  kernel_rfl
theorem tl_gc : "gc".toList = ['g', 'c'] := String.toList_ofList (l := ['g', 'c'])
theorem tl_spec : "spec".toList = ['s', 'p', 'e', 'c'] := String.toList_ofList (l := ['s', 'p', 'e', 'c'])
theorem tl_carried : "carried".toList = ['c', 'a', 'r', 'r', 'i', 'e', 'd'] := String.toList_ofList (l := ['c', 'a', 'r', 'r', 'i', 'e', 'd'])
theorem tl_cut : "cut".toList = ['c', 'u', 't'] := String.toList_ofList (l := ['c', 'u', 't'])
theorem strip_none (R : List (List Char)) : ∀ os : List String, (os.all (fun o => !(['c', 'u', 't'] == o.toList))) = true → stripLifts os (['c', 'u', 't'] :: R) = ([], ['c', 'u', 't'] :: R)
  | [], _ => rfl
  | o :: os, h => by
    rw [List.all_cons, Bool.and_eq_true] at h
    have h1 : (['c', 'u', 't'] == o.toList) = false := by simpa using h.1
    rw [stripLifts, h1]
    exact strip_none R os h.2
theorem liftsNone : (liftWords.all (fun o => !(['c', 'u', 't'] == o.toList))) = true := by kernel_rfl
theorem headStrip (R : List (List Char)) : stripLifts liftWords (['c', 'u', 't'] :: R) = ([], ['c', 'u', 't'] :: R) := strip_none R liftWords liftsNone
theorem headLifts0 : Try.prog.headLifts = [] := by
  unfold Program.headLifts
  rw [headWords]
  generalize wordsSigns headRest = R
  rw [headStrip]
  exact ite_self _
theorem headLifted : Try.prog.liftsFinal = false := by
  unfold Program.liftsFinal
  rw [headLifts0, headWords]
  generalize wordsSigns headRest = R
  show ((some ['c', 'u', 't'] == some "carried".toList && _) || _) = false
  rw [tl_carried]
  rfl
theorem make_of (P : Program) (R : List (List Char)) (h : behindMainWord (wordsSigns P.initOrder.toList) = ['c', 'u', 't'] :: R) : P.make = some .cut := by
  unfold Program.make
  rw [h]
  show (if _ then _ else _) = _
  rw [if_neg (by rw [tl_gc, tl_spec]; decide), if_pos (by rw [tl_cut]; rfl)]
theorem headMake : Try.prog.make = some .cut := make_of _ _ headWords
theorem headLater : Try.prog.laysLater = false := by kernel_rfl
theorem headReflect : Try.prog.bearsReflect = false := by kernel_rfl
theorem headDoor : Try.prog.doorFits [] = true := by kernel_rfl
theorem enter_of (P : Program) (R : List (List Char)) (h : behindMainWord (wordsSigns P.initOrder.toList) = ['c', 'u', 't'] :: R)
    (h1 : P.laysLater = false) (h2 : P.bearsReflect = false) (h3 : P.doorFits [] = true) : P.mayEnter = true := by
  unfold Program.mayEnter
  rw [h]
  have e1 : ((['c', 'u', 't'] :: R).head? == some "cut".toList) = true := by rw [tl_cut]; rfl
  have e2 : (([] : List String).contains "finals" || !false) = true := by rw [Bool.not_false, Bool.or_true]
  have e3 : (([] : List String).contains "reflectrows" || !false) = true := by rw [Bool.not_false, Bool.or_true]
  have e4 : (([] : List String).contains "reflectrows" || !([] : List String).contains "leanrows") = true := rfl
  simp only [headStrip, h1, h2, e1, e2, e3, e4, h3, Bool.and_self, Bool.or_true]
theorem headEnter : Try.prog.mayEnter = true := enter_of _ _ headWords headLater headReflect headDoor
end Go.Proofs.Qxb6600121a
