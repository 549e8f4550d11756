/- The three closed facts of a row that read the head's long word: asked of the kernel as they stand they outgrow the lid on memory (the decoding of a text of some hundred signs); here the word is laid out as a list of numbers once, and the facts are drawn from its head. -/
import Derived.Test.Qxb6602720aRows
import Derived.ProofKit
namespace Go.Proofs.Qxb6602720a.Head
set_option maxRecDepth 100000

/-- The signs of the head's word, by number. -/
def codes : List Nat := [
  104, 97, 114, 110, 101, 115, 115, 32, 48, 56, 102, 50, 53, 98, 54, 101, 50, 101, 56, 55, 48, 56, 97, 102, 100, 50, 97, 98, 98, 97, 53, 51, 49, 56, 98, 51, 102, 100, 49, 52,
  53, 98, 56, 54, 97, 48, 98, 100, 48, 55, 53, 57, 51, 98, 97, 52, 99, 57, 97, 102, 97, 55, 53, 55, 101, 99, 55, 97, 50, 48, 57, 49, 32, 99, 117, 116, 32, 97, 116, 32,
  101, 120, 97, 109, 112, 108, 101, 46, 99, 111, 109, 47, 102, 101, 110, 99, 101, 108, 105, 110, 101, 47, 102, 101, 110, 99, 101, 108, 105, 110, 101, 47, 122, 122, 108, 97, 119, 115, 95, 106,
  115, 111, 110, 111, 98, 106, 95, 98, 49, 46, 70, 110, 80, 108, 97, 105, 110, 83, 116, 114, 105, 110, 103, 77, 97, 116, 99, 104, 101, 115, 77, 111, 100, 101, 108, 32, 101, 120, 97, 109,
  112, 108, 101, 46, 99, 111, 109, 47, 102, 101, 110, 99, 101, 108, 105, 110, 101, 47, 102, 101, 110, 99, 101, 108, 105, 110, 101, 47, 122, 122, 108, 97, 119, 115, 95, 106, 115, 111, 110, 111,
  98, 106, 95, 98, 49, 46, 70, 110, 80, 108, 97, 105, 110, 83, 116, 114, 105, 110, 103, 81, 117, 111, 116, 101, 100, 82, 111, 117, 110, 100, 84, 114, 105, 112, 32, 101, 120, 97, 109, 112,
  108, 101, 46, 99, 111, 109, 47, 102, 101, 110, 99, 101, 108, 105, 110, 101, 47, 102, 101, 110, 99, 101, 108, 105, 110, 101, 47, 122, 122, 108, 97, 119, 115, 95, 106, 115, 111, 110, 111, 98,
  106, 95, 98, 49, 46, 70, 110, 80, 108, 97, 105, 110, 83, 116, 114, 105, 110, 103, 82, 101, 102, 117, 115, 101, 115, 69, 115, 99, 97, 112, 101, 79, 114, 67, 111, 110, 116, 114, 111, 108,
  32, 101, 120, 97, 109, 112, 108, 101, 46, 99, 111, 109, 47, 102, 101, 110, 99, 101, 108, 105, 110, 101, 47, 102, 101, 110, 99, 101, 108, 105, 110, 101, 47, 122, 122, 108, 97, 119, 115, 95,
  106, 115, 111, 110, 111, 98, 106, 95, 98, 49, 46, 70, 110, 87, 104, 111, 108, 101, 78, 117, 109, 98, 101, 114, 77, 97, 116, 99, 104, 101, 115, 67, 97, 115, 101, 84, 97, 98, 108, 101,
  32, 101, 120, 97, 109, 112, 108, 101, 46, 99, 111, 109, 47, 102, 101, 110, 99, 101, 108, 105, 110, 101, 47, 102, 101, 110, 99, 101, 108, 105, 110, 101, 47, 122, 122, 108, 97, 119, 115, 95,
  106, 115, 111, 110, 111, 98, 106, 95, 98, 49, 46, 70, 110, 87, 104, 111, 108, 101, 78, 117, 109, 98, 101, 114, 82, 101, 97, 100, 115, 68, 101, 99, 105, 109, 97, 108, 32, 101, 120, 97,
  109, 112, 108, 101, 46, 99, 111, 109, 47, 102, 101, 110, 99, 101, 108, 105, 110, 101, 47, 102, 101, 110, 99, 101, 108, 105, 110, 101, 47, 122, 122, 108, 97, 119, 115, 95, 106, 115, 111, 110,
  111, 98, 106, 95, 98, 49, 46, 70, 110, 87, 104, 111, 108, 101, 78, 117, 109, 98, 101, 114, 82, 101, 102, 117, 115, 101, 115, 76, 101, 97, 100, 105, 110, 103, 90, 101, 114, 111, 32, 101,
  120, 97, 109, 112, 108, 101, 46, 99, 111, 109, 47, 102, 101, 110, 99, 101, 108, 105, 110, 101, 47, 102, 101, 110, 99, 101, 108, 105, 110, 101, 47, 122, 122, 108, 97, 119, 115, 95, 106, 115,
  111, 110, 111, 98, 106, 95, 98, 49, 46, 70, 110, 80, 108, 97, 105, 110, 86, 97, 108, 117, 101, 77, 97, 116, 99, 104, 101, 115, 77, 111, 100, 101, 108, 32, 101, 120, 97, 109, 112, 108,
  101, 46, 99, 111, 109, 47, 102, 101, 110, 99, 101, 108, 105, 110, 101, 47, 102, 101, 110, 99, 101, 108, 105, 110, 101, 47, 122, 122, 108, 97, 119, 115, 95, 106, 115, 111, 110, 111, 98, 106,
  95, 98, 49, 46, 70, 110, 80, 108, 97, 105, 110, 86, 97, 108, 117, 101, 79, 110, 108, 121, 82, 101, 97, 100, 115, 70, 114, 111, 109, 83, 116, 97, 114, 116, 32, 101, 120, 97, 109, 112,
  108, 101, 46, 99, 111, 109, 47, 102, 101, 110, 99, 101, 108, 105, 110, 101, 47, 102, 101, 110, 99, 101, 108, 105, 110, 101, 47, 122, 122, 108, 97, 119, 115, 95, 106, 115, 111, 110, 111, 98,
  106, 95, 98, 49, 46, 70, 110, 80, 108, 97, 105, 110, 86, 97, 108, 117, 101, 73, 103, 110, 111, 114, 101, 115, 87, 104, 97, 116, 70, 111, 108, 108, 111, 119, 115]

theorem word : Try.prog.initOrder = String.ofList (codes.map Char.ofNat) := by kernel_rfl
theorem signs : Try.prog.initOrder.toList = codes.map Char.ofNat := by rw [word, String.toList_ofList]
theorem first : (behindMainWord (wordsSigns (codes.map Char.ofNat))).head? = some "cut".toList := by kernel_rfl
theorem behind : ∃ rest, behindMainWord (wordsSigns Try.prog.initOrder.toList) = "cut".toList :: rest := by
  rw [signs]
  have h := first
  cases hb : behindMainWord (wordsSigns (codes.map Char.ofNat)) with
  | nil => rw [hb] at h; cases h
  | cons c rest => rw [hb] at h; exact ⟨rest, by rw [Option.some.inj h]⟩
theorem lays : Try.prog.laysLater = false := by kernel_rfl
theorem bears : Try.prog.bearsReflect = false := by kernel_rfl
theorem door : Try.prog.doorFits [] = true := by kernel_rfl
theorem strip (rest : List (List Char)) : stripLifts liftWords ("cut".toList :: rest) = ([], "cut".toList :: rest) := by kernel_rfl
theorem enters_of (P : Program) (rest : List (List Char)) (h : behindMainWord (wordsSigns P.initOrder.toList) = "cut".toList :: rest) (h1 : P.laysLater = false) (h2 : P.bearsReflect = false) (h3 : P.doorFits [] = true) : P.mayEnter = true := by
  unfold Program.mayEnter
  rw [h]
  simp only [strip, h1, h2, h3]
  kernel_rfl
theorem lifts_of (P : Program) (rest : List (List Char)) (h : behindMainWord (wordsSigns P.initOrder.toList) = "cut".toList :: rest) : P.headLifts = [] := by
  simp only [Program.headLifts, h, strip]
  kernel_rfl
theorem finals_of (P : Program) (rest : List (List Char)) (h : behindMainWord (wordsSigns P.initOrder.toList) = "cut".toList :: rest) : P.liftsFinal = false := by
  have hl := lifts_of P rest h
  unfold Program.liftsFinal
  rw [h, hl]
  exact rfl
theorem made_of (P : Program) (rest : List (List Char)) (h : behindMainWord (wordsSigns P.initOrder.toList) = "cut".toList :: rest) : P.make = some .cut := by
  unfold Program.make
  rw [h]
  kernel_rfl
theorem enters : Try.prog.mayEnter = true := by
  obtain ⟨rest, h⟩ := behind
  exact enters_of _ rest h lays bears door
theorem finals : Try.prog.liftsFinal = false := by
  obtain ⟨rest, h⟩ := behind
  exact finals_of _ rest h
theorem made : Try.prog.make = some .cut := by
  obtain ⟨rest, h⟩ := behind
  exact made_of _ rest h
#print axioms made
end Go.Proofs.Qxb6602720a.Head
