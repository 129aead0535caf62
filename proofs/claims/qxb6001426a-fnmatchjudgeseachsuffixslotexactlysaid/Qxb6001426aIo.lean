/-
  The closed facts that hang on the head of the dump.
-/
import Derived.Test.Qxb6001426aOp
namespace Go.Proofs.Qxb6001426a
open Go.ChangeShapes Go.WideShapes Go.ChangeAt Go.RowKit Fw

set_option maxRecDepth 1000000 in
theorem words : ∃ rest, wordsSigns Try.prog.initOrder.toList = "harness".toList :: "ff7f160805b0f7a8a92a1a14b90fc0462635eeddb3ef754ad0875ea6563192ad".toList :: "cut".toList :: rest := by
  have e : Try.prog.initOrder = String.ofList _ := rfl
  rw [e, String.toList_ofList]
  exact ⟨_, rfl⟩
theorem sumSigns : ((("harness".toList == "harness".toList) || ("harness".toList == "ownmain".toList)) && isSumSigns "ff7f160805b0f7a8a92a1a14b90fc0462635eeddb3ef754ad0875ea6563192ad".toList) = true := by kernel_rfl
theorem bmw (h s : List Char) (r : List (List Char)) : behindMainWord (h :: s :: r) = if ((h == "harness".toList || h == "ownmain".toList) && isSumSigns s) = true then r else h :: s :: r := rfl
theorem behind_of {l : List (List Char)} {rest : List (List Char)} (h : l = "harness".toList :: "ff7f160805b0f7a8a92a1a14b90fc0462635eeddb3ef754ad0875ea6563192ad".toList :: "cut".toList :: rest) : behindMainWord l = "cut".toList :: rest := by
  rw [h, bmw, if_pos sumSigns]
theorem behind : ∃ rest, behindMainWord (wordsSigns Try.prog.initOrder.toList) = "cut".toList :: rest := by
  obtain ⟨rest, h⟩ := words
  exact ⟨rest, behind_of h⟩
theorem strip (rest : List (List Char)) : stripLifts liftWords ("cut".toList :: rest) = ([], "cut".toList :: rest) := by
  have step : ∀ (o : String) (os : List String), ("cut".toList == o.toList) = false → stripLifts (o :: os) ("cut".toList :: rest) = stripLifts os ("cut".toList :: rest) := fun o os h => by
    rw [stripLifts]
    simp only [h, Bool.false_eq_true, if_false]
  unfold liftWords
  rw [step _ _ (by kernel_rfl), step _ _ (by kernel_rfl), step _ _ (by kernel_rfl), step _ _ (by kernel_rfl), step _ _ (by kernel_rfl), step _ _ (by kernel_rfl), step _ _ (by kernel_rfl), step _ _ (by kernel_rfl), step _ _ (by kernel_rfl), step _ _ (by kernel_rfl),
    step _ _ (by kernel_rfl), step _ _ (by kernel_rfl), step _ _ (by kernel_rfl), step _ _ (by kernel_rfl), step _ _ (by kernel_rfl)]
  rfl
theorem noLater : Try.prog.laysLater = false := by kernel_rfl
theorem noReflect : Try.prog.bearsReflect = false := by kernel_rfl
theorem noDoors : Try.prog.doorRows = [] := by kernel_rfl
theorem lifts_of {P : Program} {rest : List (List Char)} (h : behindMainWord (wordsSigns P.initOrder.toList) = "cut".toList :: rest) : P.headLifts = [] := by
  unfold Program.headLifts
  rw [h, strip]
  simp
theorem mayEnter_of {P : Program} {rest : List (List Char)} (h : behindMainWord (wordsSigns P.initOrder.toList) = "cut".toList :: rest) (h1 : P.laysLater = false) (h2 : P.bearsReflect = false) (h3 : P.doorRows = []) : P.mayEnter = true := by
  unfold Program.mayEnter
  rw [h]
  simp only [strip, h1, h2, Program.doorFits, h3]
  simp
theorem liftsFinal_of {P : Program} {rest : List (List Char)} (h : behindMainWord (wordsSigns P.initOrder.toList) = "cut".toList :: rest) : P.liftsFinal = false := by
  unfold Program.liftsFinal
  rw [h, lifts_of h]
  have e : ("cut".toList == "carried".toList) = false := by kernel_rfl
  have : ((("cut".toList :: rest).head?) == some "carried".toList) = false := e
  simp only [this, Bool.false_and, Bool.false_or]
  rfl
theorem make_of {P : Program} {rest : List (List Char)} (h : behindMainWord (wordsSigns P.initOrder.toList) = "cut".toList :: rest) : P.make = some .cut := by
  unfold Program.make
  rw [h]
  have e1 : (("cut".toList == "gc".toList) || ("cut".toList == "spec".toList)) = false := by kernel_rfl
  simp only [e1, Bool.false_eq_true, if_false]
  simp
theorem mayEnter : Try.prog.mayEnter = true := by
  obtain ⟨rest, h⟩ := behind
  exact mayEnter_of h noLater noReflect noDoors
theorem liftsFinal : Try.prog.liftsFinal = false := by
  obtain ⟨rest, h⟩ := behind
  exact liftsFinal_of h
theorem make : Try.prog.make = some .cut := by
  obtain ⟨rest, h⟩ := behind
  exact make_of h
theorem aT {a b : Bool} (h1 : a = true) (h2 : b = true) : (a && b) = true := by rw [h1, h2]; rfl
end Go.Proofs.Qxb6001426a
