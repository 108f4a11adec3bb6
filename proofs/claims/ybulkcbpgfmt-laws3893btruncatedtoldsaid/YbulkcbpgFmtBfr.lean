/-
  Seat b3893aF: the bodies of the two great loops.
-/
import Derived.Test.YbulkcbpgFmtBuild0
namespace Go.Proofs.YbulkcbpgFmt
open Go.RowKit Go.Deep
set_option linter.unusedVariables false

/-- The first loop's body, out of the translation. -/
def firstLoop : Code → Option Code
  | .loop c => some c
  | .seq a b => match firstLoop a with
    | some c => some c
    | none => firstLoop b
  | .block _ c => firstLoop c
  | .scope c => firstLoop c
  | .cond _ a b => match firstLoop a with
    | some c => some c
    | none => firstLoop b
  | _ => none

noncomputable def body7 : Code := ((Ybaf.f7.body.bind firstLoop).getD .skip)
noncomputable def body8 : Code := ((Ybaf.f8.body.bind firstLoop).getD .skip)

/-- No other exit. -/
abbrev Never : Exit → Act → World → Prop := fun _ _ _ => False

end Go.Proofs.YbulkcbpgFmt
