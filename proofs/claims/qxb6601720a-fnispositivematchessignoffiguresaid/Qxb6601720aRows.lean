/-
  No cell of these rows narrows 'for every input' (looked for: loops, veiled, ifaces, maps, wideKeys, modest, calm, conditions, laid).
  DERIVED. THE GIVEN ROWS OF THIS SEAT. 3 by the template 'for every input the law returns true; each argument reads behind the call as it read before'; 0 by the template 'total and deterministic' (their statements: Qxb6601720aTotals.lean).
  GIVEN WITH THE SEED: the statements are not yours to turn. If you find one false, say at which input.
  Laid BY PROGRAM, IN A SANDBOX (cutbox-rows.mjs): the forced cells as the released guide's own fill.sh prints them over the translation 09ddfebf432b9d02… (all of the seat's roots in one cut). By AI agents, Wed Nov 11 2026. No macro, syntax, notation, axiom, sorry.
-/
import Derived.Test.Qxb6601720aChecked
import GoSem.Claim
import GoSem.ClaimJoined
import GoSem.ClaimMapViews
import Derived.JoinedTies
import Derived.KernelRfl
namespace Go.Proofs.Qxb6601720a
/- THE CELL 'sum', in the pinned program and in every row, IS THE sha256 OF THE DUMP (.gsa) THAT Qxb6601720aProg.lean LOADS. Nothing in Lean hashes anything: it is a label: what it is worth is what the hold of that sum in a sandbox is worth. -/
noncomputable def Try.pinned : Pinned := { name := "qxb6601720a", sum := "09ddfebf432b9d02745c01018603696a6ac9869a30b67b6693bc0faa2b406d55", checked := Try.checked }
namespace Rows
def none {H : Type} : Left H := { results := [], args := [] }

/-- 'zzlaws_pkg_money_b1.FnIsDigitsOfConcatenation': WHATEVER THE INPUT: true; the input reads as it did. -/
def fnIsDigitsOfConcatenationSpec : ChangeSpec := { name := "fnIsDigitsOfConcatenation", fn := fun _ => fun
  | [d1, d2] => { results := [.lit (.bool true)], args := [d1, d2] }
  | _ => none }
def fnIsDigitsOfConcatenationRow : OpenClaim := { program := "qxb6601720a", sum := "09ddfebf432b9d02745c01018603696a6ac9869a30b67b6693bc0faa2b406d55", func := "example.com/tuoguan/tuoguan/zzlaws_pkg_money_b1.FnIsDigitsOfConcatenation", spec := "fnIsDigitsOfConcatenation", apart := false }
def FnIsDigitsOfConcatenationSaid : Prop := fnIsDigitsOfConcatenationRow.holds Try.pinned (OpenSpec.ofChange fnIsDigitsOfConcatenationSpec)

/-- ITS FALSE NEIGHBOUR: 'it returns false'. Refute it at one input. -/
def fnIsDigitsOfConcatenationWrong : ChangeSpec := { name := "fnIsDigitsOfConcatenation", fn := fun _ => fun
  | [d1, d2] => { results := [.lit (.bool false)], args := [d1, d2] }
  | _ => none }
def FnIsDigitsOfConcatenationWrongFalsely : Prop := fnIsDigitsOfConcatenationRow.holds Try.pinned (OpenSpec.ofChange fnIsDigitsOfConcatenationWrong)

/-- 'zzlaws_pkg_money_b1.FnIsPositiveMatchesSignOfFigure': WHATEVER THE INPUT: true; the input reads as it did. -/
def fnIsPositiveMatchesSignOfFigureSpec : ChangeSpec := { name := "fnIsPositiveMatchesSignOfFigure", fn := fun _ => fun
  | [d] => { results := [.lit (.bool true)], args := [d] }
  | _ => none }
def fnIsPositiveMatchesSignOfFigureRow : OpenClaim := { program := "qxb6601720a", sum := "09ddfebf432b9d02745c01018603696a6ac9869a30b67b6693bc0faa2b406d55", func := "example.com/tuoguan/tuoguan/zzlaws_pkg_money_b1.FnIsPositiveMatchesSignOfFigure", spec := "fnIsPositiveMatchesSignOfFigure", apart := false }
def FnIsPositiveMatchesSignOfFigureSaid : Prop := fnIsPositiveMatchesSignOfFigureRow.holds Try.pinned (OpenSpec.ofChange fnIsPositiveMatchesSignOfFigureSpec)

/-- ITS FALSE NEIGHBOUR: 'it returns false'. Refute it at one input. -/
def fnIsPositiveMatchesSignOfFigureWrong : ChangeSpec := { name := "fnIsPositiveMatchesSignOfFigure", fn := fun _ => fun
  | [d] => { results := [.lit (.bool false)], args := [d] }
  | _ => none }
def FnIsPositiveMatchesSignOfFigureWrongFalsely : Prop := fnIsPositiveMatchesSignOfFigureRow.holds Try.pinned (OpenSpec.ofChange fnIsPositiveMatchesSignOfFigureWrong)

/-- 'zzlaws_pkg_money_b1.FnIsPositiveUnderAppending': WHATEVER THE INPUT: true; the input reads as it did. -/
def fnIsPositiveUnderAppendingSpec : ChangeSpec := { name := "fnIsPositiveUnderAppending", fn := fun _ => fun
  | [d1, d2] => { results := [.lit (.bool true)], args := [d1, d2] }
  | _ => none }
def fnIsPositiveUnderAppendingRow : OpenClaim := { program := "qxb6601720a", sum := "09ddfebf432b9d02745c01018603696a6ac9869a30b67b6693bc0faa2b406d55", func := "example.com/tuoguan/tuoguan/zzlaws_pkg_money_b1.FnIsPositiveUnderAppending", spec := "fnIsPositiveUnderAppending", apart := false }
def FnIsPositiveUnderAppendingSaid : Prop := fnIsPositiveUnderAppendingRow.holds Try.pinned (OpenSpec.ofChange fnIsPositiveUnderAppendingSpec)

/-- ITS FALSE NEIGHBOUR: 'it returns false'. Refute it at one input. -/
def fnIsPositiveUnderAppendingWrong : ChangeSpec := { name := "fnIsPositiveUnderAppending", fn := fun _ => fun
  | [d1, d2] => { results := [.lit (.bool false)], args := [d1, d2] }
  | _ => none }
def FnIsPositiveUnderAppendingWrongFalsely : Prop := fnIsPositiveUnderAppendingRow.holds Try.pinned (OpenSpec.ofChange fnIsPositiveUnderAppendingWrong)

end Rows
end Go.Proofs.Qxb6601720a
