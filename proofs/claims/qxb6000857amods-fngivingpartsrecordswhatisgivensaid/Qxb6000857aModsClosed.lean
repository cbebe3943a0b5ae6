/-
  CLOSED FACTS OF THE TWO ROWS, piece by piece: the head's words are read as a list of signs by a law, not by the kernel's run of 'String.toList'.
-/
import Derived.Test.Qxb6000857aModsRows
import Derived.WalkKit
import Derived.ProofKit
namespace Go.Proofs.Qxb6000857aMods.ClosedW
open Go.ChangeShapes Go.WideShapes Go.ChangeAt Go.RowKit

theorem ws_word : ∀ (a r : List Char), (a.all fun c => c != ' ') = true → wordsSigns (a ++ ' ' :: r) = a :: wordsSigns r
  | [], r, _ => rfl
  | c :: a, r, h => by
    simp only [List.all_cons, Bool.and_eq_true, bne_iff_ne, ne_eq] at h
    have ih := ws_word a r h.2
    show wordsSigns (c :: (a ++ ' ' :: r)) = _
    rw [wordsSigns.eq_3 _ _ (fun e => h.1 e), ih]

theorem order_is : Trym.prog.initOrder = String.ofList (['h', 'a', 'r', 'n', 'e', 's', 's'] ++ ' ' :: (['7', '5', '7', 'b', 'f', 'c', '8', 'f', '1', 'c', '0', '2', 'd', '9', '3', '0', 'd', 'f', '2', '3', 'b', '4', '3', 'd', '1', '9', '2', '8', '0', '4', '8', '7', 'f', 'e', 'c', '4', '0', '6', '7', '5', '3', 'b', '5', '1', '2', 'b', '0', '5', 'a', '2', '3', 'b', '9', '7', 'd', 'b', '4', '3', '7', '9', '0', '2', '9', 'c'] ++ ' ' :: (['p', 'u', 'b', 'l', 'i', 'c', 's', 'u', 'm', 's'] ++ ' ' :: (['c', 'u', 't'] ++ ' ' :: ['a', 't', ' ', 'e', 'x', 'a', 'm', 'p', 'l', 'e', '.', 'c', 'o', 'm', '/', 'd', 'u', 't', 'i', 'e', 's', '-', 'o', 'v', 'e', 'r', '-', 'p', 'a', 'r', 't', 'i', 't', 'i', 'o', 'n', 's', '/', 'd', 'u', 't', 'i', 'e', 's', '-', 'o', 'v', 'e', 'r', '-', 'p', 'a', 'r', 't', 'i', 't', 'i', 'o', 'n', 's', '/', 'z', 'z', 'l', 'a', 'w', 's', '_', 'r', 'o', 'o', 't', '_', 'b', '1', '.', 'F', 'n', 'C', 'h', 'a', 'i', 'n', 's', 'M', 'o', 'v', 'e', 's', 'A', 'r', 'e', 'S', 'h', 'o', 'r', 't', 'e', 's', 't', ' ', 'e', 'x', 'a', 'm', 'p', 'l', 'e', '.', 'c', 'o', 'm', '/', 'd', 'u', 't', 'i', 'e', 's', '-', 'o', 'v', 'e', 'r', '-', 'p', 'a', 'r', 't', 'i', 't', 'i', 'o', 'n', 's', '/', 'd', 'u', 't', 'i', 'e', 's', '-', 'o', 'v', 'e', 'r', '-', 'p', 'a', 'r', 't', 'i', 't', 'i', 'o', 'n', 's', '/', 'z', 'z', 'l', 'a', 'w', 's', '_', 'r', 'o', 'o', 't', '_', 'b', '1', '.', 'F', 'n', 'C', 'h', 'a', 'i', 'n', 's', 'L', 'i', 'n', 'k', 's', 'F', 'o', 'r', 'm', 'C', 'h', 'a', 'i', 'n', 's', ' ', 'e', 'x', 'a', 'm', 'p', 'l', 'e', '.', 'c', 'o', 'm', '/', 'd', 'u', 't', 'i', 'e', 's', '-', 'o', 'v', 'e', 'r', '-', 'p', 'a', 'r', 't', 'i', 't', 'i', 'o', 'n', 's', '/', 'd', 'u', 't', 'i', 'e', 's', '-', 'o', 'v', 'e', 'r', '-', 'p', 'a', 'r', 't', 'i', 't', 'i', 'o', 'n', 's', '/', 'z', 'z', 'l', 'a', 'w', 's', '_', 'r', 'o', 'o', 't', '_', 'b', '1', '.', 'F', 'n', 'C', 'h', 'a', 'i', 'n', 's', 'M', 'o', 'n', 'o', 't', 'o', 'n', 'e', 'I', 'n', 'A', 'c', 't', 'i', 'v', 'e', ' ', 'e', 'x', 'a', 'm', 'p', 'l', 'e', '.', 'c', 'o', 'm', '/', 'd', 'u', 't', 'i', 'e', 's', '-', 'o', 'v', 'e', 'r', '-', 'p', 'a', 'r', 't', 'i', 't', 'i', 'o', 'n', 's', '/', 'd', 'u', 't', 'i', 'e', 's', '-', 'o', 'v', 'e', 'r', '-', 'p', 'a', 'r', 't', 'i', 't', 'i', 'o', 'n', 's', '/', 'z', 'z', 'l', 'a', 'w', 's', '_', 'r', 'o', 'o', 't', '_', 'b', '1', '.', 'F', 'n', 'G', 'i', 'v', 'i', 'n', 'g', 'P', 'a', 'r', 't', 's', 'R', 'e', 'c', 'o', 'r', 'd', 's', 'W', 'h', 'a', 't', 'I', 's', 'G', 'i', 'v', 'e', 'n', ' ', 'e', 'x', 'a', 'm', 'p', 'l', 'e', '.', 'c', 'o', 'm', '/', 'd', 'u', 't', 'i', 'e', 's', '-', 'o', 'v', 'e', 'r', '-', 'p', 'a', 'r', 't', 'i', 't', 'i', 'o', 'n', 's', '/', 'd', 'u', 't', 'i', 'e', 's', '-', 'o', 'v', 'e', 'r', '-', 'p', 'a', 'r', 't', 'i', 't', 'i', 'o', 'n', 's', '/', 'z', 'z', 'l', 'a', 'w', 's', '_', 'r', 'o', 'o', 't', '_', 'b', '1', '.', 'F', 'n', 'G', 'i', 'v', 'i', 'n', 'g', 'A', 'd', 'd', 'T', 'h', 'e', 'n', 'T', 'a', 'k', 'e', 'I', 's', 'U', 'n', 'd', 'o', 'n', 'e', ' ', 'e', 'x', 'a', 'm', 'p', 'l', 'e', '.', 'c', 'o', 'm', '/', 'd', 'u', 't', 'i', 'e', 's', '-', 'o', 'v', 'e', 'r', '-', 'p', 'a', 'r', 't', 'i', 't', 'i', 'o', 'n', 's', '/', 'd', 'u', 't', 'i', 'e', 's', '-', 'o', 'v', 'e', 'r', '-', 'p', 'a', 'r', 't', 'i', 't', 'i', 'o', 'n', 's', '/', 'z', 'z', 'l', 'a', 'w', 's', '_', 'r', 'o', 'o', 't', '_', 'b', '1', '.', 'F', 'n', 'B', 'a', 'l', 'a', 'n', 'c', 'e', 'C', 'o', 'n', 's', 'e', 'r', 'v', 'e', 's', 'P', 'a', 'r', 't', 's', ' ', 'e', 'x', 'a', 'm', 'p', 'l', 'e', '.', 'c', 'o', 'm', '/', 'd', 'u', 't', 'i', 'e', 's', '-', 'o', 'v', 'e', 'r', '-', 'p', 'a', 'r', 't', 'i', 't', 'i', 'o', 'n', 's', '/', 'd', 'u', 't', 'i', 'e', 's', '-', 'o', 'v', 'e', 'r', '-', 'p', 'a', 'r', 't', 'i', 't', 'i', 'o', 'n', 's', '/', 'z', 'z', 'l', 'a', 'w', 's', '_', 'r', 'o', 'o', 't', '_', 'b', '1', '.', 'F', 'n', 'B', 'a', 'l', 'a', 'n', 'c', 'e', 'K', 'e', 'e', 'p', 's', 'E', 'l', 'i', 'g', 'i', 'b', 'i', 'l', 'i', 't', 'y', ' ', 'e', 'x', 'a', 'm', 'p', 'l', 'e', '.', 'c', 'o', 'm', '/', 'd', 'u', 't', 'i', 'e', 's', '-', 'o', 'v', 'e', 'r', '-', 'p', 'a', 'r', 't', 'i', 't', 'i', 'o', 'n', 's', '/', 'd', 'u', 't', 'i', 'e', 's', '-', 'o', 'v', 'e', 'r', '-', 'p', 'a', 'r', 't', 'i', 't', 'i', 'o', 'n', 's', '/', 'z', 'z', 'l', 'a', 'w', 's', '_', 'r', 'o', 'o', 't', '_', 'b', '1', '.', 'F', 'n', 'B', 'a', 'l', 'a', 'n', 'c', 'e', 'I', 's', 'I', 'd', 'e', 'm', 'p', 'o', 't', 'e', 'n', 't'])))) := by kernel_rfl

theorem words_of (R : List Char) : behindMainWord (wordsSigns (['h', 'a', 'r', 'n', 'e', 's', 's'] ++ ' ' :: (['7', '5', '7', 'b', 'f', 'c', '8', 'f', '1', 'c', '0', '2', 'd', '9', '3', '0', 'd', 'f', '2', '3', 'b', '4', '3', 'd', '1', '9', '2', '8', '0', '4', '8', '7', 'f', 'e', 'c', '4', '0', '6', '7', '5', '3', 'b', '5', '1', '2', 'b', '0', '5', 'a', '2', '3', 'b', '9', '7', 'd', 'b', '4', '3', '7', '9', '0', '2', '9', 'c'] ++ ' ' :: (['p', 'u', 'b', 'l', 'i', 'c', 's', 'u', 'm', 's'] ++ ' ' :: (['c', 'u', 't'] ++ ' ' :: R))))) = ['p', 'u', 'b', 'l', 'i', 'c', 's', 'u', 'm', 's'] :: ['c', 'u', 't'] :: wordsSigns R := by
  rw [ws_word _ _ (by decide), ws_word _ _ (by decide), ws_word _ _ (by decide), ws_word _ _ (by decide)]
  rfl

set_option maxRecDepth 100000 in
theorem words : ∃ r, behindMainWord (wordsSigns Trym.prog.initOrder.toList) = ['p', 'u', 'b', 'l', 'i', 'c', 's', 'u', 'm', 's'] :: ['c', 'u', 't'] :: r :=
  ⟨_, (congrArg (fun l => behindMainWord (wordsSigns l)) ((congrArg String.toList order_is).trans String.toList_ofList)).trans (words_of _)⟩

theorem lifts_of (P : Program) (r : List (List Char)) (h : behindMainWord (wordsSigns P.initOrder.toList) = ['p', 'u', 'b', 'l', 'i', 'c', 's', 'u', 'm', 's'] :: ['c', 'u', 't'] :: r) : P.headLifts = ["publicsums"] := by
  unfold Program.headLifts
  rw [h]
  rfl
theorem make_of (P : Program) (r : List (List Char)) (h : behindMainWord (wordsSigns P.initOrder.toList) = ['p', 'u', 'b', 'l', 'i', 'c', 's', 'u', 'm', 's'] :: ['c', 'u', 't'] :: r) : P.make = some (.lifted ["publicsums"]) := by
  unfold Program.make
  rw [h, lifts_of P r h]
  rfl
theorem final_of (P : Program) (r : List (List Char)) (h : behindMainWord (wordsSigns P.initOrder.toList) = ['p', 'u', 'b', 'l', 'i', 'c', 's', 'u', 'm', 's'] :: ['c', 'u', 't'] :: r) : P.liftsFinal = false := by
  unfold Program.liftsFinal
  rw [h, lifts_of P r h]
  rfl
theorem later : Trym.prog.laysLater = false := by kernel_rfl
theorem refl : Trym.prog.bearsReflect = false := by kernel_rfl
theorem door : Trym.prog.doorFits ["publicsums"] = true := by kernel_rfl
theorem enters_of (P : Program) (r : List (List Char)) (h : behindMainWord (wordsSigns P.initOrder.toList) = ['p', 'u', 'b', 'l', 'i', 'c', 's', 'u', 'm', 's'] :: ['c', 'u', 't'] :: r) (h1 : P.laysLater = false) (h2 : P.bearsReflect = false) (h3 : P.doorFits ["publicsums"] = true) : P.mayEnter = true := by
  unfold Program.mayEnter
  rw [h, h1, h2]
  have e : stripLifts liftWords (['p', 'u', 'b', 'l', 'i', 'c', 's', 'u', 'm', 's'] :: ['c', 'u', 't'] :: r) = (["publicsums"], ['c', 'u', 't'] :: r) := rfl
  simp only [e, h3]
  rfl
theorem lifts : Trym.prog.headLifts = ["publicsums"] := by obtain ⟨r, h⟩ := words; exact lifts_of _ r h
theorem make_is : Trym.prog.make = some (.lifted ["publicsums"]) := by obtain ⟨r, h⟩ := words; exact make_of _ r h
theorem final_is : Trym.prog.liftsFinal = false := by obtain ⟨r, h⟩ := words; exact final_of _ r h
theorem enters : Trym.prog.mayEnter = true := by obtain ⟨r, h⟩ := words; exact enters_of _ r h later refl door

theorem and_intro {a b : Bool} (h : a = true) (k : b = true) : (a && b) = true := by rw [h, k]; rfl

set_option maxHeartbeats 4000000 in
theorem closed7 : joinedFacts Trym.prog 7 Trym.f7 Rows.fnGivingAddThenTakeIsUndoneSpec Rows.fnGivingAddThenTakeIsUndoneRow = true := by
  unfold joinedFacts
  with_reducible (repeat' (refine and_intro ?_ ?_))
  all_goals first | (with_reducible exact enters) | (rw [make_is]; rfl) | (rw [final_is]; rfl) | (as_aux_lemma => kernel_rfl)

set_option maxHeartbeats 4000000 in
theorem closed6 : joinedFacts Trym.prog 6 Trym.f6 Rows.fnGivingPartsRecordsWhatIsGivenSpec Rows.fnGivingPartsRecordsWhatIsGivenRow = true := by
  unfold joinedFacts
  with_reducible (repeat' (refine and_intro ?_ ?_))
  all_goals first | (with_reducible exact enters) | (rw [make_is]; rfl) | (rw [final_is]; rfl) | (as_aux_lemma => kernel_rfl)
end Go.Proofs.Qxb6000857aMods.ClosedW
