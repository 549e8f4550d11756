/-
  No cell of these rows narrows 'for every input' (looked for: loops, veiled, ifaces, maps, wideKeys, modest, calm, conditions, laid).
  DERIVED. THE GIVEN ROWS OF THIS SEAT. 1 by the template 'for every input the law returns true; each argument reads behind the call as it read before'; 0 by the template 'total and deterministic' (their statements: Qxb6603607aTotals.lean).
  GIVEN WITH THE SEED: the statements are not yours to turn. If you find one false, say at which input.
  Laid BY PROGRAM, IN A SANDBOX (cutbox-rows.mjs): the forced cells as the released guide's own fill.sh prints them over the translation 1927b1b09b9ba94d… (all of the seat's roots in one cut). By AI agents, Wed Nov 11 2026. No macro, syntax, notation, axiom, sorry.
-/
import Derived.Test.Qxb6603607aChecked
import GoSem.Claim
import GoSem.ClaimJoined
import GoSem.ClaimMapViews
import Derived.JoinedTies
import Derived.KernelRfl
namespace Go.Proofs.Qxb6603607a
/- THE CELL 'sum', in the pinned program and in every row, IS THE sha256 OF THE DUMP (.gsa) THAT Qxb6603607aProg.lean LOADS. Nothing in Lean hashes anything: it is a label: what it is worth is what the hold of that sum in a sandbox is worth. -/
noncomputable def Try.pinned : Pinned := { name := "qxb6603607a", sum := "1927b1b09b9ba94d5fe81e5a1dc8679523d80b40968dfc10a60302a3edf05ed1", checked := Try.checked }
namespace Rows
def none {H : Type} : Left H := { results := [], args := [] }

/-- 'zzlaws_pkg_termtext_b1.FnCellOfShowsTheCharacterAndItsMark': WHATEVER THE INPUT: true; the input reads as it did. -/
def fnCellOfShowsTheCharacterAndItsMarkSpec : ChangeSpec := { name := "fnCellOfShowsTheCharacterAndItsMark", fn := fun _ => fun
  | [d1, d2] => { results := [.lit (.bool true)], args := [d1, d2] }
  | _ => none }
def fnCellOfShowsTheCharacterAndItsMarkRow : OpenClaim := { program := "qxb6603607a", sum := "1927b1b09b9ba94d5fe81e5a1dc8679523d80b40968dfc10a60302a3edf05ed1", func := "example.com/jobwarden/jobwarden/zzlaws_pkg_termtext_b1.FnCellOfShowsTheCharacterAndItsMark", spec := "fnCellOfShowsTheCharacterAndItsMark", apart := false }
def FnCellOfShowsTheCharacterAndItsMarkSaid : Prop := fnCellOfShowsTheCharacterAndItsMarkRow.holds Try.pinned (OpenSpec.ofChange fnCellOfShowsTheCharacterAndItsMarkSpec)

/-- ITS FALSE NEIGHBOUR: 'it returns false'. Refute it at one input. -/
def fnCellOfShowsTheCharacterAndItsMarkWrong : ChangeSpec := { name := "fnCellOfShowsTheCharacterAndItsMark", fn := fun _ => fun
  | [d1, d2] => { results := [.lit (.bool false)], args := [d1, d2] }
  | _ => none }
def FnCellOfShowsTheCharacterAndItsMarkWrongFalsely : Prop := fnCellOfShowsTheCharacterAndItsMarkRow.holds Try.pinned (OpenSpec.ofChange fnCellOfShowsTheCharacterAndItsMarkWrong)

end Rows
end Go.Proofs.Qxb6603607a
