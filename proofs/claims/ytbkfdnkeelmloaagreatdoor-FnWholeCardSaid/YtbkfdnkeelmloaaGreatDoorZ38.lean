/- Part 38 of the proof: C3. -/
import Derived.LaidMore
import Derived.Lay
import Derived.OpenShut
import Derived.ProofKit
import Derived.SevenTiedAt
import Derived.Stop.Joined
import Derived.Test.YtbkfdnkeelmloaaGreatDoorCards
import Derived.Test.YtbkfdnkeelmloaaGreatDoorTie
set_option linter.unusedVariables false
set_option linter.unusedSimpArgs false
namespace Go.Proofs.YtbkfdnkeelmloaaGreatDoor
set_option maxRecDepth 100000
open Go Go.ChangeShapes Go.WideShapes Go.ChangeAt Go.RowKit
theorem own:ownKnob Tryz.prog.godebug=none:=by kernel_rfl
def greatN:List String:=["unicode.CaseRanges", "unicode/utf8.first"]
def laidL:List (String×DataW Unit):=Rows.fnWholeRow.laid
noncomputable def wLaid (os:Os):World:=(World.doorLaid Tryz.prog 426 os).layVars Tryz.prog (laidL.filter fun x=>greatN.contains x.1)
theorem wLaid_os (os:Os):(wLaid os).os=os:=World.layVars_os _ _ _
noncomputable def bLaid (os:Os):List Nat:=(List.range (World.doorLaid Tryz.prog 426 os).heap.size).filter fun b=>b != 9 && b != 12
theorem wLaid_met (os:Os) (args:Array Value):laidMetH Tryz.prog laidL ((wLaid os).forCall (fun _ _=>0) ⟨#[],args,[]⟩).memory:=by
 rw[MakeChecks.laidMetH_plain _ _ _ (by kernel_rfl)]
 exact laidMet_layVars greatN (bLaid os) rfl (by kernel_rfl) (by kernel_rfl) (LaidIn.of_run (bLaid os) 8 (by kernel_rfl) (by kernel_rfl) (by kernel_rfl) (by kernel_rfl))
theorem wLaid_shaped (os:Os) (args:Array Value):((wLaid os).forCall (fun _ _=>0) ⟨#[],args,[]⟩).Shaped Tryz.prog:=World.shaped_of_ZipB (by kernel_rfl) (by kernel_rfl)
end Go.Proofs.YtbkfdnkeelmloaaGreatDoor
