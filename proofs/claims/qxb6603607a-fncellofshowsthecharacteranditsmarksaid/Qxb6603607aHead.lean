/- The three closed facts of a row that read the head's long word: asked of the kernel as they stand they outgrow the lid on memory (the decoding of a text of some hundred signs); here the word is laid out as a list of numbers once, and the facts are drawn from its head. -/
import Derived.Test.Qxb6603607aRows
import Derived.ProofKit
namespace Go.Proofs.Qxb6603607a.Head
set_option maxRecDepth 100000

/-- The signs of the head's word, by number. -/
def codes : List Nat := [
  104, 97, 114, 110, 101, 115, 115, 32, 102, 97, 56, 54, 99, 55, 100, 48, 102, 100, 98, 52, 101, 50, 51, 100, 102, 50, 102, 100, 100, 51, 49, 100, 99, 98, 98, 52, 49, 55, 54, 56,
  57, 101, 57, 57, 52, 97, 48, 57, 102, 53, 97, 51, 56, 51, 56, 48, 98, 53, 100, 50, 100, 101, 100, 97, 100, 53, 99, 98, 100, 99, 99, 57, 32, 99, 117, 116, 32, 97, 116, 32,
  101, 120, 97, 109, 112, 108, 101, 46, 99, 111, 109, 47, 106, 111, 98, 119, 97, 114, 100, 101, 110, 47, 106, 111, 98, 119, 97, 114, 100, 101, 110, 47, 122, 122, 108, 97, 119, 115, 95, 112,
  107, 103, 95, 116, 101, 114, 109, 116, 101, 120, 116, 95, 98, 49, 46, 70, 110, 67, 101, 108, 108, 79, 102, 83, 104, 111, 119, 115, 84, 104, 101, 67, 104, 97, 114, 97, 99, 116, 101, 114,
  65, 110, 100, 73, 116, 115, 77, 97, 114, 107]

theorem word : Try.prog.initOrder = String.ofList (codes.map Char.ofNat) := by kernel_rfl
theorem signs : Try.prog.initOrder.toList = codes.map Char.ofNat := by rw [word, String.toList_ofList]
theorem first : (behindMainWord (wordsSigns (codes.map Char.ofNat))).head? = some "cut".toList := by kernel_rfl
theorem behind : ∃ rest, behindMainWord (wordsSigns Try.prog.initOrder.toList) = "cut".toList :: rest := by
  rw [signs]
  have h := first
  cases hb : behindMainWord (wordsSigns (codes.map Char.ofNat)) with
  | nil => rw [hb] at h; cases h
  | cons c rest => rw [hb] at h; exact ⟨rest, by rw [Option.some.inj h]⟩
theorem lays : Try.prog.laysLater = false := by kernel_rfl
theorem bears : Try.prog.bearsReflect = false := by kernel_rfl
theorem door : Try.prog.doorFits [] = true := by kernel_rfl
theorem strip (rest : List (List Char)) : stripLifts liftWords ("cut".toList :: rest) = ([], "cut".toList :: rest) := by kernel_rfl
theorem enters_of (P : Program) (rest : List (List Char)) (h : behindMainWord (wordsSigns P.initOrder.toList) = "cut".toList :: rest) (h1 : P.laysLater = false) (h2 : P.bearsReflect = false) (h3 : P.doorFits [] = true) : P.mayEnter = true := by
  unfold Program.mayEnter
  rw [h]
  simp only [strip, h1, h2, h3]
  kernel_rfl
theorem lifts_of (P : Program) (rest : List (List Char)) (h : behindMainWord (wordsSigns P.initOrder.toList) = "cut".toList :: rest) : P.headLifts = [] := by
  simp only [Program.headLifts, h, strip]
  kernel_rfl
theorem finals_of (P : Program) (rest : List (List Char)) (h : behindMainWord (wordsSigns P.initOrder.toList) = "cut".toList :: rest) : P.liftsFinal = false := by
  have hl := lifts_of P rest h
  unfold Program.liftsFinal
  rw [h, hl]
  exact rfl
theorem made_of (P : Program) (rest : List (List Char)) (h : behindMainWord (wordsSigns P.initOrder.toList) = "cut".toList :: rest) : P.make = some .cut := by
  unfold Program.make
  rw [h]
  kernel_rfl
theorem enters : Try.prog.mayEnter = true := by
  obtain ⟨rest, h⟩ := behind
  exact enters_of _ rest h lays bears door
theorem finals : Try.prog.liftsFinal = false := by
  obtain ⟨rest, h⟩ := behind
  exact finals_of _ rest h
theorem made : Try.prog.make = some .cut := by
  obtain ⟨rest, h⟩ := behind
  exact made_of _ rest h
#print axioms made
end Go.Proofs.Qxb6603607a.Head
