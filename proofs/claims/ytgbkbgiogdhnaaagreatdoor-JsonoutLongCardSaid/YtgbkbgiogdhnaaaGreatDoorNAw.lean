/- What is asked of the law's awake. -/
import Derived.Test.YtgbkbgiogdhnaaaGreatDoorMAj
set_option linter.unusedVariables false
set_option linter.unusedSimpArgs false
set_option linter.defProp false
set_option linter.constructorNameAsVariable false
namespace Go.Proofs.YtgbkbgiogdhnaaaGreatDoor
open Go.RowKit
def AwakeT:Prop:=∀w,LibE w→Calls Tryz.prog 10 #[] w fun e w'=>e=.returned (.bool true)∧Below w.heap.size w w'
end Go.Proofs.YtgbkbgiogdhnaaaGreatDoor
