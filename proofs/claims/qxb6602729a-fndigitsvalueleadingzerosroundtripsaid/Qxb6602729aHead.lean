/- The three closed facts of a row that read the head's long word: asked of the kernel as they stand they outgrow the lid on memory (the decoding of a text of some hundred signs); here the word is laid out as a list of numbers once, and the facts are drawn from its head. -/
import Derived.Test.Qxb6602729aRows
import Derived.ProofKit
namespace Go.Proofs.Qxb6602729a.Head
set_option maxRecDepth 100000

/-- The signs of the head's word, by number. -/
def codes : List Nat := [
  104, 97, 114, 110, 101, 115, 115, 32, 99, 98, 97, 100, 100, 97, 57, 97, 54, 53, 102, 54, 55, 99, 50, 102, 56, 52, 97, 97, 48, 100, 57, 49, 49, 48, 50, 53, 97, 49, 102, 100,
  55, 52, 51, 52, 53, 50, 52, 52, 49, 49, 49, 51, 49, 54, 51, 52, 101, 100, 56, 57, 98, 57, 49, 48, 57, 101, 98, 100, 54, 53, 97, 49, 32, 99, 117, 116, 32, 97, 116, 32,
  101, 120, 97, 109, 112, 108, 101, 46, 99, 111, 109, 47, 104, 111, 117, 114, 98, 111, 111, 107, 47, 104, 111, 117, 114, 98, 111, 111, 107, 47, 122, 122, 108, 97, 119, 115, 95, 112, 107, 103,
  95, 108, 101, 100, 103, 101, 114, 95, 98, 49, 46, 70, 110, 68, 105, 103, 105, 116, 115, 86, 97, 108, 117, 101, 69, 120, 97, 99, 116, 83, 112, 101, 99, 32, 101, 120, 97, 109, 112, 108,
  101, 46, 99, 111, 109, 47, 104, 111, 117, 114, 98, 111, 111, 107, 47, 104, 111, 117, 114, 98, 111, 111, 107, 47, 122, 122, 108, 97, 119, 115, 95, 112, 107, 103, 95, 108, 101, 100, 103, 101,
  114, 95, 98, 49, 46, 70, 110, 68, 105, 103, 105, 116, 115, 86, 97, 108, 117, 101, 76, 101, 97, 100, 105, 110, 103, 90, 101, 114, 111, 115, 82, 111, 117, 110, 100, 84, 114, 105, 112, 32,
  101, 120, 97, 109, 112, 108, 101, 46, 99, 111, 109, 47, 104, 111, 117, 114, 98, 111, 111, 107, 47, 104, 111, 117, 114, 98, 111, 111, 107, 47, 122, 122, 108, 97, 119, 115, 95, 112, 107, 103,
  95, 108, 101, 100, 103, 101, 114, 95, 98, 49, 46, 70, 110, 68, 105, 103, 105, 116, 115, 86, 97, 108, 117, 101, 67, 111, 110, 99, 97, 116, 32, 101, 120, 97, 109, 112, 108, 101, 46, 99,
  111, 109, 47, 104, 111, 117, 114, 98, 111, 111, 107, 47, 104, 111, 117, 114, 98, 111, 111, 107, 47, 122, 122, 108, 97, 119, 115, 95, 112, 107, 103, 95, 108, 101, 100, 103, 101, 114, 95, 98,
  49, 46, 70, 110, 83, 112, 108, 105, 116, 89, 101, 97, 114, 77, 111, 110, 116, 104, 69, 120, 97, 99, 116, 83, 112, 101, 99, 32, 101, 120, 97, 109, 112, 108, 101, 46, 99, 111, 109, 47,
  104, 111, 117, 114, 98, 111, 111, 107, 47, 104, 111, 117, 114, 98, 111, 111, 107, 47, 122, 122, 108, 97, 119, 115, 95, 112, 107, 103, 95, 108, 101, 100, 103, 101, 114, 95, 98, 49, 46, 70,
  110, 83, 112, 108, 105, 116, 89, 101, 97, 114, 77, 111, 110, 116, 104, 82, 111, 117, 110, 100, 84, 114, 105, 112, 32, 101, 120, 97, 109, 112, 108, 101, 46, 99, 111, 109, 47, 104, 111, 117,
  114, 98, 111, 111, 107, 47, 104, 111, 117, 114, 98, 111, 111, 107, 47, 122, 122, 108, 97, 119, 115, 95, 112, 107, 103, 95, 108, 101, 100, 103, 101, 114, 95, 98, 49, 46, 70, 110, 66, 121,
  77, 111, 110, 116, 104, 76, 101, 115, 115, 69, 120, 97, 99, 116, 83, 112, 101, 99, 32, 101, 120, 97, 109, 112, 108, 101, 46, 99, 111, 109, 47, 104, 111, 117, 114, 98, 111, 111, 107, 47,
  104, 111, 117, 114, 98, 111, 111, 107, 47, 122, 122, 108, 97, 119, 115, 95, 112, 107, 103, 95, 108, 101, 100, 103, 101, 114, 95, 98, 49, 46, 70, 110, 66, 121, 77, 111, 110, 116, 104, 76,
  101, 115, 115, 83, 116, 114, 105, 99, 116, 79, 114, 100, 101, 114]

theorem word : Try.prog.initOrder = String.ofList (codes.map Char.ofNat) := by kernel_rfl
theorem signs : Try.prog.initOrder.toList = codes.map Char.ofNat := by rw [word, String.toList_ofList]
theorem first : (behindMainWord (wordsSigns (codes.map Char.ofNat))).head? = some "cut".toList := by kernel_rfl
theorem behind : ∃ rest, behindMainWord (wordsSigns Try.prog.initOrder.toList) = "cut".toList :: rest := by
  rw [signs]
  have h := first
  cases hb : behindMainWord (wordsSigns (codes.map Char.ofNat)) with
  | nil => rw [hb] at h; cases h
  | cons c rest => rw [hb] at h; exact ⟨rest, by rw [Option.some.inj h]⟩
theorem lays : Try.prog.laysLater = false := by kernel_rfl
theorem bears : Try.prog.bearsReflect = false := by kernel_rfl
theorem door : Try.prog.doorFits [] = true := by kernel_rfl
theorem strip (rest : List (List Char)) : stripLifts liftWords ("cut".toList :: rest) = ([], "cut".toList :: rest) := by kernel_rfl
theorem enters_of (P : Program) (rest : List (List Char)) (h : behindMainWord (wordsSigns P.initOrder.toList) = "cut".toList :: rest) (h1 : P.laysLater = false) (h2 : P.bearsReflect = false) (h3 : P.doorFits [] = true) : P.mayEnter = true := by
  unfold Program.mayEnter
  rw [h]
  simp only [strip, h1, h2, h3]
  kernel_rfl
theorem lifts_of (P : Program) (rest : List (List Char)) (h : behindMainWord (wordsSigns P.initOrder.toList) = "cut".toList :: rest) : P.headLifts = [] := by
  simp only [Program.headLifts, h, strip]
  kernel_rfl
theorem finals_of (P : Program) (rest : List (List Char)) (h : behindMainWord (wordsSigns P.initOrder.toList) = "cut".toList :: rest) : P.liftsFinal = false := by
  have hl := lifts_of P rest h
  unfold Program.liftsFinal
  rw [h, hl]
  exact rfl
theorem made_of (P : Program) (rest : List (List Char)) (h : behindMainWord (wordsSigns P.initOrder.toList) = "cut".toList :: rest) : P.make = some .cut := by
  unfold Program.make
  rw [h]
  kernel_rfl
theorem enters : Try.prog.mayEnter = true := by
  obtain ⟨rest, h⟩ := behind
  exact enters_of _ rest h lays bears door
theorem finals : Try.prog.liftsFinal = false := by
  obtain ⟨rest, h⟩ := behind
  exact finals_of _ rest h
theorem made : Try.prog.make = some .cut := by
  obtain ⟨rest, h⟩ := behind
  exact made_of _ rest h
#print axioms made
end Go.Proofs.Qxb6602729a.Head
