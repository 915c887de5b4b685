/- Part 42 of the proof: C7. -/
import Derived.JoinedOf
import Derived.ProofKit
import Derived.Test.YtbkfdnkeelmloaaGreatDoorRows
set_option linter.unusedVariables false
set_option linter.unusedSimpArgs false
namespace Go.Proofs.YtbkfdnkeelmloaaGreatDoor
set_option maxRecDepth 100000
open Go
theorem and_t {a b:Bool} (h:a=true) (k:b=true):(a && b)=true:=by rw[h,k];rfl
end Go.Proofs.YtbkfdnkeelmloaaGreatDoor
