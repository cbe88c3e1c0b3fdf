/- Closed facts of the program that every row of this seat asks for, reckoned without spelling its head out letter by letter. -/
import Derived.Test.Qxb6605176aModsRows
import Derived.ProofKit
namespace Go.Proofs.Qxb6605176aMods.Closed
open Go
theorem wordsSigns_word : ∀ (pre r : List Char), (∀ c ∈ pre, c ≠ ' ') → wordsSigns (pre ++ ' ' :: r) = pre :: wordsSigns r := by
  intro pre
  induction pre with
  | nil => intro r _; rfl
  | cons c t ih =>
    intro r h
    have hc : c ≠ ' ' := h c (by simp)
    have := ih r (fun x hx => h x (by simp [hx]))
    rw [List.cons_append, wordsSigns, this]
    intro e; exact absurd e hc
set_option maxRecDepth 100000 in
theorem head_chars : ∃ R : List Char, Trym.prog.initOrder = String.ofList ('h' :: 'a' :: 'r' :: 'n' :: 'e' :: 's' :: 's' :: ' ' :: '7' :: '8' :: '2' :: '5' :: 'd' :: 'c' :: 'a' :: '4' :: '1' :: '0' :: '6' :: 'a' :: '4' :: 'd' :: 'c' :: '1' :: 'd' :: '0' :: '8' :: '5' :: '0' :: '0' :: '7' :: 'c' :: '2' :: '6' :: 'f' :: '2' :: '1' :: '1' :: 'f' :: '4' :: '8' :: 'a' :: 'e' :: '5' :: '3' :: 'a' :: 'e' :: '1' :: 'a' :: '9' :: '9' :: 'c' :: 'd' :: 'c' :: 'c' :: 'c' :: '2' :: '3' :: '2' :: 'a' :: '3' :: '9' :: '2' :: '5' :: 'c' :: '2' :: '3' :: '2' :: 'f' :: '3' :: '3' :: '8' :: ' ' :: 'p' :: 'u' :: 'b' :: 'l' :: 'i' :: 'c' :: 's' :: 'u' :: 'm' :: 's' :: ' ' :: 'c' :: 'u' :: 't' :: ' ' :: R) := ⟨_, rfl⟩
theorem head_words : ∃ R : List (List Char), behindMainWord (wordsSigns Trym.prog.initOrder.toList) = "publicsums".toList :: "cut".toList :: R := by
  obtain ⟨R, h⟩ := head_chars
  rw [h, String.toList_ofList]
  refine ⟨wordsSigns R, ?_⟩
  have e1 := wordsSigns_word ['h', 'a', 'r', 'n', 'e', 's', 's'] (['7', '8', '2', '5', 'd', 'c', 'a', '4', '1', '0', '6', 'a', '4', 'd', 'c', '1', 'd', '0', '8', '5', '0', '0', '7', 'c', '2', '6', 'f', '2', '1', '1', 'f', '4', '8', 'a', 'e', '5', '3', 'a', 'e', '1', 'a', '9', '9', 'c', 'd', 'c', 'c', 'c', '2', '3', '2', 'a', '3', '9', '2', '5', 'c', '2', '3', '2', 'f', '3', '3', '8'] ++ ' ' :: (['p', 'u', 'b', 'l', 'i', 'c', 's', 'u', 'm', 's'] ++ ' ' :: (['c', 'u', 't'] ++ ' ' :: R))) (by decide)
  have e2 := wordsSigns_word ['7', '8', '2', '5', 'd', 'c', 'a', '4', '1', '0', '6', 'a', '4', 'd', 'c', '1', 'd', '0', '8', '5', '0', '0', '7', 'c', '2', '6', 'f', '2', '1', '1', 'f', '4', '8', 'a', 'e', '5', '3', 'a', 'e', '1', 'a', '9', '9', 'c', 'd', 'c', 'c', 'c', '2', '3', '2', 'a', '3', '9', '2', '5', 'c', '2', '3', '2', 'f', '3', '3', '8'] (['p', 'u', 'b', 'l', 'i', 'c', 's', 'u', 'm', 's'] ++ ' ' :: (['c', 'u', 't'] ++ ' ' :: R)) (by decide)
  have e3 := wordsSigns_word ['p', 'u', 'b', 'l', 'i', 'c', 's', 'u', 'm', 's'] (['c', 'u', 't'] ++ ' ' :: R) (by decide)
  have e4 := wordsSigns_word ['c', 'u', 't'] R (by decide)
  rw [e4] at e3
  rw [e3] at e2
  rw [e2] at e1
  refine (congrArg behindMainWord e1).trans ?_
  kernel_rfl
theorem lifts : ∀ R : List (List Char), stripLifts liftWords ("publicsums".toList :: "cut".toList :: R) = (["publicsums"], "cut".toList :: R) := by
  intro R
  kernel_rfl
theorem doorFits_one : Trym.prog.doorFits ["publicsums"] = true := by kernel_rfl
theorem laysLater_no : Trym.prog.laysLater = false := by kernel_rfl
theorem bearsReflect_no : Trym.prog.bearsReflect = false := by kernel_rfl
theorem headLifts_of (P : Program) (R : List (List Char)) (h : behindMainWord (wordsSigns P.initOrder.toList) = "publicsums".toList :: "cut".toList :: R) : P.headLifts = ["publicsums"] := by
  unfold Program.headLifts
  rw [h, lifts R]
  kernel_rfl
theorem mayEnter_of (P : Program) (R : List (List Char)) (h : behindMainWord (wordsSigns P.initOrder.toList) = "publicsums".toList :: "cut".toList :: R) (hd : P.doorFits ["publicsums"] = true) (hl : P.laysLater = false) (hb : P.bearsReflect = false) : P.mayEnter = true := by
  unfold Program.mayEnter
  rw [h]
  simp only [lifts R, hd, hl, hb]
  kernel_rfl
theorem liftsFinal_of (P : Program) (R : List (List Char)) (h : behindMainWord (wordsSigns P.initOrder.toList) = "publicsums".toList :: "cut".toList :: R) : P.liftsFinal = false := by
  unfold Program.liftsFinal
  rw [headLifts_of P R h, h]
  kernel_rfl
theorem make_of (P : Program) (R : List (List Char)) (h : behindMainWord (wordsSigns P.initOrder.toList) = "publicsums".toList :: "cut".toList :: R) : P.make = some (.lifted ["publicsums"]) := by
  unfold Program.make
  rw [headLifts_of P R h, h]
  kernel_rfl
theorem mayEnter_yes : Trym.prog.mayEnter = true := by
  obtain ⟨R, h⟩ := head_words
  exact mayEnter_of _ R h doorFits_one laysLater_no bearsReflect_no
theorem liftsFinal_no : Trym.prog.liftsFinal = false := by
  obtain ⟨R, h⟩ := head_words
  exact liftsFinal_of _ R h
theorem make_is : Trym.prog.make = some (.lifted ["publicsums"]) := by
  obtain ⟨R, h⟩ := head_words
  exact make_of _ R h
end Go.Proofs.Qxb6605176aMods.Closed
