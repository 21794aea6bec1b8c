/-
  The program's head, read once (facts of the seat that ask for the program's own first words).
-/
import Derived.Test.Qxb6600121aRows
import Derived.WalkKit
import Derived.ProofKit
import Derived.JoinedOf
namespace Go.Proofs.Qxb6600121a
open Go Go.Proofs
def headRest : List Char := ['a', 't', ' ', 'e', 'x', 'a', 'm', 'p', 'l', 'e', '.', 'c', 'o', 'm', '/', 'c', 'o', 'h', 'e', 'r', 'e', 'n', 't', '-', 's', 'c', 'h', 'e', 'm', 'a', '/', 'c', 'o', 'h', 'e', 'r', 'e', 'n', 't', '-', 's', 'c', 'h', 'e', 'm', 'a', '/', 'z', 'z', 'l', 'a', 'w', 's', '_', 'i', 'n', 't', 'e', 'r', 'n', 'a', 'l', '_', 'w', 'e', 'l', 'l', 'f', 'o', 'u', 'n', 'd', 'e', 'd', '_', 'b', '1', '.', 'F', 'n', 'C', 'o', 'm', 'p', 'o', 'n', 'e', 'n', 't', 's', 'P', 'a', 'r', 't', 'i', 't', 'i', 'o', 'n', 'A', 't', 'o', 'm', 's', ' ', 'e', 'x', 'a', 'm', 'p', 'l', 'e', '.', 'c', 'o', 'm', '/', 'c', 'o', 'h', 'e', 'r', 'e', 'n', 't', '-', 's', 'c', 'h', 'e', 'm', 'a', '/', 'c', 'o', 'h', 'e', 'r', 'e', 'n', 't', '-', 's', 'c', 'h', 'e', 'm', 'a', '/', 'z', 'z', 'l', 'a', 'w', 's', '_', 'i', 'n', 't', 'e', 'r', 'n', 'a', 'l', '_', 'w', 'e', 'l', 'l', 'f', 'o', 'u', 'n', 'd', 'e', 'd', '_', 'b', '1', '.', 'F', 'n', 'C', 'o', 'm', 'p', 'o', 'n', 'e', 'n', 't', 's', 'F', 'o', 'l', 'l', 'o', 'w', 'D', 'e', 'p', 'e', 'n', 'd', 'e', 'n', 'c', 'i', 'e', 's', ' ', 'e', 'x', 'a', 'm', 'p', 'l', 'e', '.', 'c', 'o', 'm', '/', 'c', 'o', 'h', 'e', 'r', 'e', 'n', 't', '-', 's', 'c', 'h', 'e', 'm', 'a', '/', 'c', 'o', 'h', 'e', 'r', 'e', 'n', 't', '-', 's', 'c', 'h', 'e', 'm', 'a', '/', 'z', 'z', 'l', 'a', 'w', 's', '_', 'i', 'n', 't', 'e', 'r', 'n', 'a', 'l', '_', 'w', 'e', 'l', 'l', 'f', 'o', 'u', 'n', 'd', 'e', 'd', '_', 'b', '1', '.', 'F', 'n', 'C', 'o', 'm', 'p', 'o', 'n', 'e', 'n', 't', 's', 'A', 'r', 'e', 'S', 't', 'r', 'o', 'n', 'g', 'l', 'y', 'C', 'o', 'n', 'n', 'e', 'c', 't', 'e', 'd', ' ', 'e', 'x', 'a', 'm', 'p', 'l', 'e', '.', 'c', 'o', 'm', '/', 'c', 'o', 'h', 'e', 'r', 'e', 'n', 't', '-', 's', 'c', 'h', 'e', 'm', 'a', '/', 'c', 'o', 'h', 'e', 'r', 'e', 'n', 't', '-', 's', 'c', 'h', 'e', 'm', 'a', '/', 'z', 'z', 'l', 'a', 'w', 's', '_', 'i', 'n', 't', 'e', 'r', 'n', 'a', 'l', '_', 'w', 'e', 'l', 'l', 'f', 'o', 'u', 'n', 'd', 'e', 'd', '_', 'b', '1', '.', 'F', 'n', 'S', 'o', 'l', 'v', 'e', 'A', 'g', 'r', 'e', 'e', 's', 'W', 'i', 't', 'h', 'W', 'e', 'l', 'l', 'F', 'o', 'u', 'n', 'd', 'e', 'd', 'M', 'o', 'd', 'e', 'l', ' ', 'e', 'x', 'a', 'm', 'p', 'l', 'e', '.', 'c', 'o', 'm', '/', 'c', 'o', 'h', 'e', 'r', 'e', 'n', 't', '-', 's', 'c', 'h', 'e', 'm', 'a', '/', 'c', 'o', 'h', 'e', 'r', 'e', 'n', 't', '-', 's', 'c', 'h', 'e', 'm', 'a', '/', 'z', 'z', 'l', 'a', 'w', 's', '_', 'i', 'n', 't', 'e', 'r', 'n', 'a', 'l', '_', 'w', 'e', 'l', 'l', 'f', 'o', 'u', 'n', 'd', 'e', 'd', '_', 'b', '1', '.', 'F', 'n', 'S', 'e', 't', 't', 'l', 'e', 'A', 'g', 'a', 'i', 'n', 'C', 'h', 'a', 'n', 'g', 'e', 's', 'N', 'o', 't', 'h', 'i', 'n', 'g', ' ', 'e', 'x', 'a', 'm', 'p', 'l', 'e', '.', 'c', 'o', 'm', '/', 'c', 'o', 'h', 'e', 'r', 'e', 'n', 't', '-', 's', 'c', 'h', 'e', 'm', 'a', '/', 'c', 'o', 'h', 'e', 'r', 'e', 'n', 't', '-', 's', 'c', 'h', 'e', 'm', 'a', '/', 'z', 'z', 'l', 'a', 'w', 's', '_', 'i', 'n', 't', 'e', 'r', 'n', 'a', 'l', '_', 'w', 'e', 'l', 'l', 'f', 'o', 'u', 'n', 'd', 'e', 'd', '_', 'b', '1', '.', 'F', 'n', 'F', 'r', 'e', 's', 'h', 'S', 'e', 'a', 'r', 'c', 'h', 'R', 'e', 'f', 'u', 't', 'e', 's', 'N', 'o', 'n', 'e', ' ', 'e', 'x', 'a', 'm', 'p', 'l', 'e', '.', 'c', 'o', 'm', '/', 'c', 'o', 'h', 'e', 'r', 'e', 'n', 't', '-', 's', 'c', 'h', 'e', 'm', 'a', '/', 'c', 'o', 'h', 'e', 'r', 'e', 'n', 't', '-', 's', 'c', 'h', 'e', 'm', 'a', '/', 'z', 'z', 'l', 'a', 'w', 's', '_', 'i', 'n', 't', 'e', 'r', 'n', 'a', 'l', '_', 'w', 'e', 'l', 'l', 'f', 'o', 'u', 'n', 'd', 'e', 'd', '_', 'b', '1', '.', 'F', 'n', 'S', 'o', 'u', 'r', 'c', 'e', 's', 'A', 'r', 'e', 'F', 'o', 'u', 'n', 'd', 'e', 'd', 'S', 'u', 'p', 'p', 'o', 'r', 't', 's']
def headSum : List Char := ['d', '8', 'd', '8', '2', 'd', '2', '3', 'a', 'a', 'e', '8', '1', 'e', '8', 'f', 'e', '0', 'b', '4', '6', '2', 'e', '7', '9', '6', 'd', '9', 'f', '2', '0', '5', '2', '4', '0', 'c', 'f', 'd', 'c', '5', '6', 'e', 'c', '7', '2', '5', 'b', 'a', 'b', '9', 'b', '3', '8', '0', '5', '4', '9', '9', 'b', 'c', '0', '0', 'f', 'a']
set_option maxRecDepth 100000 in
theorem headIs : Try.prog.initOrder = String.ofList (['h', 'a', 'r', 'n', 'e', 's', 's'] ++ ' ' :: (headSum ++ ' ' :: (['c', 'u', 't'] ++ ' ' :: headRest))) := by kernel_rfl
theorem wordsSigns_word : ∀ (w r : List Char), (w.all (fun c => c != ' ')) = true → wordsSigns (w ++ ' ' :: r) = w :: wordsSigns r
  | [], r, _ => rfl
  | c :: w, r, h => by
    simp only [List.all_cons, Bool.and_eq_true, bne_iff_ne, ne_eq] at h
    have ih := wordsSigns_word w r h.2
    rw [List.cons_append, wordsSigns, ih]
    exact h.1
theorem headWords : behindMainWord (wordsSigns Try.prog.initOrder.toList) = ['c', 'u', 't'] :: wordsSigns headRest := by
  rw [headIs, String.toList_ofList, wordsSigns_word _ _ (by kernel_rfl), wordsSigns_word _ _ (by kernel_rfl), wordsSigns_word _ _ (by kernel_rfl)]
  generalize wordsSigns headRest = R
  kernel_rfl
theorem tl_gc : "gc".toList = ['g', 'c'] := String.toList_ofList (l := ['g', 'c'])
theorem tl_spec : "spec".toList = ['s', 'p', 'e', 'c'] := String.toList_ofList (l := ['s', 'p', 'e', 'c'])
theorem tl_carried : "carried".toList = ['c', 'a', 'r', 'r', 'i', 'e', 'd'] := String.toList_ofList (l := ['c', 'a', 'r', 'r', 'i', 'e', 'd'])
theorem tl_stop : "stop".toList = ['s', 't', 'o', 'p'] := String.toList_ofList (l := ['s', 't', 'o', 'p'])
theorem tl_cut : "cut".toList = ['c', 'u', 't'] := String.toList_ofList (l := ['c', 'u', 't'])
theorem tl_harness : "harness".toList = ['h', 'a', 'r', 'n', 'e', 's', 's'] := String.toList_ofList (l := ['h', 'a', 'r', 'n', 'e', 's', 's'])
theorem tl_ownmain : "ownmain".toList = ['o', 'w', 'n', 'm', 'a', 'i', 'n'] := String.toList_ofList (l := ['o', 'w', 'n', 'm', 'a', 'i', 'n'])
theorem tl_finals : "finals".toList = ['f', 'i', 'n', 'a', 'l', 's'] := String.toList_ofList (l := ['f', 'i', 'n', 'a', 'l', 's'])
theorem tl_reflectrows : "reflectrows".toList = ['r', 'e', 'f', 'l', 'e', 'c', 't', 'r', 'o', 'w', 's'] := String.toList_ofList (l := ['r', 'e', 'f', 'l', 'e', 'c', 't', 'r', 'o', 'w', 's'])
theorem tl_leanrows : "leanrows".toList = ['l', 'e', 'a', 'n', 'r', 'o', 'w', 's'] := String.toList_ofList (l := ['l', 'e', 'a', 'n', 'r', 'o', 'w', 's'])
theorem tl_onebuild : "onebuild".toList = ['o', 'n', 'e', 'b', 'u', 'i', 'l', 'd'] := String.toList_ofList (l := ['o', 'n', 'e', 'b', 'u', 'i', 'l', 'd'])
theorem tl_publicsums : "publicsums".toList = ['p', 'u', 'b', 'l', 'i', 'c', 's', 'u', 'm', 's'] := String.toList_ofList (l := ['p', 'u', 'b', 'l', 'i', 'c', 's', 'u', 'm', 's'])
theorem tl_eqguard : "eqguard".toList = ['e', 'q', 'g', 'u', 'a', 'r', 'd'] := String.toList_ofList (l := ['e', 'q', 'g', 'u', 'a', 'r', 'd'])
theorem tl_ownunsafe : "ownunsafe".toList = ['o', 'w', 'n', 'u', 'n', 's', 'a', 'f', 'e'] := String.toList_ofList (l := ['o', 'w', 'n', 'u', 'n', 's', 'a', 'f', 'e'])
theorem tl_libbeside : "libbeside".toList = ['l', 'i', 'b', 'b', 'e', 's', 'i', 'd', 'e'] := String.toList_ofList (l := ['l', 'i', 'b', 'b', 'e', 's', 'i', 'd', 'e'])
theorem tl_ownbeside : "ownbeside".toList = ['o', 'w', 'n', 'b', 'e', 's', 'i', 'd', 'e'] := String.toList_ofList (l := ['o', 'w', 'n', 'b', 'e', 's', 'i', 'd', 'e'])
theorem tl_reflbeside : "reflbeside".toList = ['r', 'e', 'f', 'l', 'b', 'e', 's', 'i', 'd', 'e'] := String.toList_ofList (l := ['r', 'e', 'f', 'l', 'b', 'e', 's', 'i', 'd', 'e'])
theorem tl_aliases : "aliases".toList = ['a', 'l', 'i', 'a', 's', 'e', 's'] := String.toList_ofList (l := ['a', 'l', 'i', 'a', 's', 'e', 's'])
theorem tl_afterinit : "afterinit".toList = ['a', 'f', 't', 'e', 'r', 'i', 'n', 'i', 't'] := String.toList_ofList (l := ['a', 'f', 't', 'e', 'r', 'i', 'n', 'i', 't'])
theorem tl_crcplain : "crcplain".toList = ['c', 'r', 'c', 'p', 'l', 'a', 'i', 'n'] := String.toList_ofList (l := ['c', 'r', 'c', 'p', 'l', 'a', 'i', 'n'])
theorem tl_roadunsafe : "roadunsafe".toList = ['r', 'o', 'a', 'd', 'u', 'n', 's', 'a', 'f', 'e'] := String.toList_ofList (l := ['r', 'o', 'a', 'd', 'u', 'n', 's', 'a', 'f', 'e'])
theorem tl_fmthandon : "fmthandon".toList = ['f', 'm', 't', 'h', 'a', 'n', 'd', 'o', 'n'] := String.toList_ofList (l := ['f', 'm', 't', 'h', 'a', 'n', 'd', 'o', 'n'])
theorem headStrip (R : List (List Char)) : stripLifts liftWords (['c', 'u', 't'] :: R) = ([], ['c', 'u', 't'] :: R) := by
  unfold liftWords
  repeat (rw [stripLifts, if_neg (by simp only [tl_finals, tl_reflectrows, tl_leanrows, tl_onebuild, tl_publicsums, tl_eqguard, tl_ownunsafe, tl_libbeside, tl_ownbeside, tl_reflbeside, tl_aliases, tl_afterinit, tl_crcplain, tl_roadunsafe, tl_fmthandon]; decide)])
  rfl
theorem headLifts0 : Try.prog.headLifts = [] := by
  unfold Program.headLifts
  rw [headWords]
  generalize wordsSigns headRest = R
  rw [headStrip]
  exact ite_self _
theorem headLifted : Try.prog.liftsFinal = false := by
  unfold Program.liftsFinal
  rw [headLifts0, headWords]
  generalize wordsSigns headRest = R
  show ((some ['c', 'u', 't'] == some "carried".toList && _) || _) = false
  rw [tl_carried]
  rfl
theorem make_of (P : Program) (R : List (List Char)) (h : behindMainWord (wordsSigns P.initOrder.toList) = ['c', 'u', 't'] :: R) : P.make = some .cut := by
  unfold Program.make
  rw [h]
  show (if _ then _ else _) = _
  rw [if_neg (by rw [tl_gc, tl_spec]; decide), if_pos (by rw [tl_cut]; rfl)]
theorem headMake : Try.prog.make = some .cut := make_of _ _ headWords
theorem headLater : Try.prog.laysLater = false := by kernel_rfl
theorem headReflect : Try.prog.bearsReflect = false := by kernel_rfl
theorem headDoor : Try.prog.doorFits [] = true := by kernel_rfl
theorem enter_of (P : Program) (R : List (List Char)) (h : behindMainWord (wordsSigns P.initOrder.toList) = ['c', 'u', 't'] :: R)
    (h1 : P.laysLater = false) (h2 : P.bearsReflect = false) (h3 : P.doorFits [] = true) : P.mayEnter = true := by
  unfold Program.mayEnter
  rw [h]
  have e1 : ((['c', 'u', 't'] :: R).head? == some "cut".toList) = true := by rw [tl_cut]; rfl
  have e2 : (([] : List String).contains "finals" || !false) = true := by rw [Bool.not_false, Bool.or_true]
  have e3 : (([] : List String).contains "reflectrows" || !false) = true := by rw [Bool.not_false, Bool.or_true]
  have e4 : (([] : List String).contains "reflectrows" || !([] : List String).contains "leanrows") = true := rfl
  simp only [headStrip, h1, h2, e1, e2, e3, e4, h3, Bool.and_self, Bool.or_true]
theorem headEnter : Try.prog.mayEnter = true := enter_of _ _ headWords headLater headReflect headDoor
end Go.Proofs.Qxb6600121a
