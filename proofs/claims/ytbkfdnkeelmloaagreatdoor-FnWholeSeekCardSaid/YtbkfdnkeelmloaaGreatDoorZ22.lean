/- Part 22 of the proof: L2. -/
import Derived.Test.YtbkfdnkeelmloaaGreatDoorZ18
import Derived.Test.YtbkfdnkeelmloaaGreatDoorZ21
set_option linter.unusedVariables false
set_option linter.unusedSimpArgs false
namespace Go.Proofs.YtbkfdnkeelmloaaGreatDoor
set_option maxHeartbeats 4000000
set_option maxRecDepth 10000
open Go.AM Go
section
variable {G:Nat→AV}
def answerC (e:EntryE):List AV:=[booV true,intV e.offset,intV e.tag,booV e.children,fieldsV e.fields,intV 0,intV 0]
attribute [go_sem] answerC
end
end Go.Proofs.YtbkfdnkeelmloaaGreatDoor
