/- The three closed facts of a row that read the head's long word: asked of the kernel as they stand they outgrow the lid on memory (the decoding of a text of some hundred signs); here the word is laid out as a list of numbers once, and the facts are drawn from its head. -/
import Derived.Test.Qxb6603607aRows
import Derived.ProofKit
namespace Go.Proofs.Qxb6603607a.Head
set_option maxRecDepth 100000

/-- The signs of the head's word, by number. -/
def codes : List Nat := [
  104, 97, 114, 110, 101, 115, 115, 32, 102, 97, 56, 54, 99, 55, 100, 48, 102, 100, 98, 52, 101, 50, 51, 100, 102, 50, 102, 100, 100, 51, 49, 100, 99, 98, 98, 52, 49, 55, 54, 56,
  57, 101, 57, 57, 52, 97, 48, 57, 102, 53, 97, 51, 56, 51, 56, 48, 98, 53, 100, 50, 100, 101, 100, 97, 100, 53, 99, 98, 100, 99, 99, 57, 32, 99, 117, 116, 32, 97, 116, 32,
  101, 120, 97, 109, 112, 108, 101, 46, 99, 111, 109, 47, 106, 111, 98, 119, 97, 114, 100, 101, 110, 47, 106, 111, 98, 119, 97, 114, 100, 101, 110, 47, 122, 122, 108, 97, 119, 115, 95, 112,
  107, 103, 95, 116, 101, 114, 109, 116, 101, 120, 116, 95, 98, 49, 46, 70, 110, 67, 101, 108, 108, 79, 102, 83, 104, 111, 119, 115, 84, 104, 101, 67, 104, 97, 114, 97, 99, 116, 101, 114,
  65, 110, 100, 73, 116, 115, 77, 97, 114, 107]

theorem word : Try.prog.initOrder = String.ofList (codes.map Char.ofNat) := by kernel_rfl
theorem signs : Try.prog.initOrder.toList = codes.map Char.ofNat := by rw [word, String.toList_ofList]
theorem first : (behindMainWord (wordsSigns (codes.map Char.ofNat))).head? = some "cut".toList := by kernel_rfl
theorem behind : ∃ rest, behindMainWord (wordsSigns Try.prog.initOrder.toList) = "cut".toList :: rest := by
  rw [signs]
  have h := first
  cases hb : behindMainWord (wordsSigns (codes.map Char.ofNat)) with
  | nil => rw [hb] at h; cases h
  | cons c rest => rw [hb] at h; exact ⟨rest, by rw [Option.some.inj h]⟩
theorem lays : Try.prog.laysLater = false := by kernel_rfl
theorem bears : Try.prog.bearsReflect = false := by kernel_rfl
theorem door : Try.prog.doorFits [] = true := by kernel_rfl
theorem strip (rest : List (List Char)) : stripLifts liftWords ("cut".toList :: rest) = ([], "cut".toList :: rest) := by kernel_rfl
theorem enters_of (P : Program) (rest : List (List Char)) (h : behindMainWord (wordsSigns P.initOrder.toList) = "cut".toList :: rest) (h1 : P.laysLater = false) (h2 : P.bearsReflect = false) (h3 : P.doorFits [] = true) : P.mayEnter = true := by
  unfold Program.mayEnter
  rw [h]
  simp only [strip, h1, h2, h3]
  kernel_rfl
theorem lifts_of (P : Program) (rest : List (List Char)) (h : behindMainWord (wordsSigns P.initOrder.toList) = "cut".toList :: rest) : P.headLifts = [] := by
  simp only [Program.headLifts, h, strip]
  kernel_rfl
theorem finals_of (P : Program) (rest : List (List Char)) (h : behindMainWord (wordsSigns P.initOrder.toList) = "cut".toList :: rest) : P.liftsFinal = false := by
  have hl := lifts_of P rest h
  have e : P.liftsFinal = (((behindMainWord (wordsSigns P.initOrder.toList)).head? == some "carried".toList && (behindMainWord (wordsSigns P.initOrder.toList)).take 3 != ["carried".toList, "gc".toList, "cut".toList]) || P.headLifts.contains "finals") := rfl
  rw [e, h, hl]
  exact rfl
theorem made_of (P : Program) (rest : List (List Char)) (h : behindMainWord (wordsSigns P.initOrder.toList) = "cut".toList :: rest) : P.make = some .cut := by
  unfold Program.make
  rw [h]
  kernel_rfl
theorem enters : Try.prog.mayEnter = true := by
  obtain ⟨rest, h⟩ := behind
  exact enters_of _ rest h lays bears door
theorem finals : Try.prog.liftsFinal = false := by
  obtain ⟨rest, h⟩ := behind
  exact finals_of _ rest h
theorem made : Try.prog.make = some .cut := by
  obtain ⟨rest, h⟩ := behind
  exact made_of _ rest h
#print axioms made

/-- The closed facts of a row, one by one (over whatever program: nothing is reckoned here). -/
theorem facts_mk (P : Program) (f : FuncId) (fn : Func) (s : ChangeSpec) (c : OpenClaim)
    (k1 : c.wf (OpenSpec.ofChange s) = true)
    (k2 : laidOutB P = true)
    (k3 : mapsRowed P = true)
    (k4 : fn.params.all (P.readableRec ·) = true)
    (k5 : namedTie P c.named s.vars = true)
    (k6 : (c.stops == []) = true)
    (k7 : (P.stops == []) = true)
    (k8 : (c.knobs == []) = true)
    (k9 : (P.stopKnobs == []) = true)
    (k10 : (c.inPlace == P.inPlace f) = true)
    (k11 : (c.unfollowed == P.unfollowed f) = true)
    (k12 : (c.recurses == P.recurses f) = true)
    (k13 : (c.named == P.varsNamed f) = true)
    (k14 : (c.maps == (fn.params.toList ++ s.plain.varTypes P).any (P.mapsRec ·)) = true)
    (k15 : (c.ifaces == (fn.params.toList ++ s.plain.varTypes P).any (P.ifacesRec ·)) = true)
    (k16 : (c.mapsOut == P.mapsAmong fn.resultTypes.toList) = true)
    (k17 : (c.loops == (fn.params.toList ++ s.plain.varTypes P).any (P.loopsFrom ·)) = true)
    (k17b : (c.wideKeys == (fn.params.toList ++ s.plain.varTypes P ++ fn.resultTypes.toList).any (P.wideKeysFrom ·)) = true)
    (k18 : s.vars.all (P.varReadable ·) = true)
    (k19 : fn.resultTypes.all (fun t => P.readableRec t && decide (t < P.types.size)) = true)
    (k20 : (c.ifacesOut == fn.resultTypes.toList.any (P.ifacesRec ·)) = true)
    (k21 : (c.loopsOut == fn.resultTypes.toList.any (P.loopsFrom ·)) = true)
    (k22 : (c.plainKeys == P.plainKeys) = true)
    (k23 : c.shortTexts.isNone = true)
    (k23b : P.stopsHeard = true)
    (k24 : P.mayEnter = true)
    (k24b : (c.lifted == P.liftsFinal) = true)
    (k24c : (P.make == some c.make) = true)
    (k25 : (c.kinds == (if c.domain.isEmpty then [] else fn.params.toList.map fun t => match P.underlying t with | some (.int k) => some k | _ => none)) = true)
    (k26 : (c.pinned == c.pinnedBy) = true)
    (k27 : (c.veiled == (fn.params.toList ++ s.plain.varTypes P ++ fn.resultTypes.toList).any (P.veiledRec ·)) = true)
    (k28 : c.veiledFits P fn.params.toList (fn.params.toList ++ s.plain.varTypes P ++ fn.resultTypes.toList) = true) : joinedFacts P f fn s c = true := by
  simp only [joinedFacts, Bool.and_eq_true]
  exact ⟨⟨⟨⟨⟨⟨⟨⟨⟨⟨⟨⟨⟨⟨⟨⟨⟨⟨⟨⟨⟨⟨⟨⟨⟨⟨⟨⟨⟨⟨⟨k1, k2⟩, k3⟩, k4⟩, k5⟩, k6⟩, k7⟩, k8⟩, k9⟩, k10⟩, k11⟩, k12⟩, k13⟩, k14⟩, k15⟩, k16⟩, k17⟩, k17b⟩, k18⟩, k19⟩, k20⟩, k21⟩, k22⟩, k23⟩, k23b⟩, k24⟩, k24b⟩, k24c⟩, k25⟩, k26⟩, k27⟩, k28⟩
theorem laid2 : laidOutB Try.prog = true := by kernel_rfl
theorem maps3 : mapsRowed Try.prog = true := by kernel_rfl
theorem stops7 : (Try.prog.stops == []) = true := by kernel_rfl
theorem knobs9 : (Try.prog.stopKnobs == []) = true := by kernel_rfl
theorem heard : Try.prog.stopsHeard = true := by kernel_rfl
theorem finals' : (false == Try.prog.liftsFinal) = true := by rw [finals]; rfl
theorem made' : (Try.prog.make == some .cut) = true := by rw [made]; rfl
end Go.Proofs.Qxb6603607a.Head
