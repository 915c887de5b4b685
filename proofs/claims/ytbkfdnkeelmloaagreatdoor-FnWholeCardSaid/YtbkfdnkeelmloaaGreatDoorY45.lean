/- Part 45 of the proof: C8. -/
import Derived.JoinedOf
import Derived.ProofKit
import Derived.Test.YtbkfdnkeelmloaaGreatDoorRows
import Derived.Test.YtbkfdnkeelmloaaGreatDoorY42
set_option linter.unusedVariables false
set_option linter.unusedSimpArgs false
namespace Go.Proofs.YtbkfdnkeelmloaaGreatDoor
set_option maxRecDepth 100000
open Go
theorem j3k0:(Rows.fnWholeRow.wf (OpenSpec.ofChange Rows.fnWholeSpec))=true:=by kernel_rfl
theorem j3k1:(laidOutB Tryz.prog)=true:=by kernel_rfl
theorem j3k2:(mapsRowed Tryz.prog)=true:=by kernel_rfl
theorem j3k3:(Tryz.f3.params.all (Tryz.prog.readableRec ·))=true:=by kernel_rfl
theorem j3k4:(namedTie Tryz.prog Rows.fnWholeRow.named Rows.fnWholeSpec.vars)=true:=by kernel_rfl
theorem j3k5:((Rows.fnWholeRow.stops == []))=true:=by kernel_rfl
theorem j3k6:((Tryz.prog.stops == []))=true:=by kernel_rfl
theorem j3k7:((Rows.fnWholeRow.knobs == []))=true:=by kernel_rfl
theorem j3k8:((Tryz.prog.stopKnobs == []))=true:=by kernel_rfl
theorem j3k9:((Rows.fnWholeRow.inPlace == Tryz.prog.inPlace 3))=true:=by kernel_rfl
theorem j3k10:((Rows.fnWholeRow.unfollowed == Tryz.prog.unfollowed 3))=true:=by kernel_rfl
theorem j3k11:((Rows.fnWholeRow.recurses == Tryz.prog.recurses 3))=true:=by kernel_rfl
theorem j3k12:((Rows.fnWholeRow.named == Tryz.prog.varsNamed 3))=true:=by kernel_rfl
theorem j3k13:((Rows.fnWholeRow.maps == (Tryz.f3.params.toList++Rows.fnWholeSpec.plain.varTypes Tryz.prog).any (Tryz.prog.mapsRec ·)))=true:=by kernel_rfl
theorem j3k14:((Rows.fnWholeRow.ifaces == (Tryz.f3.params.toList++Rows.fnWholeSpec.plain.varTypes Tryz.prog).any (Tryz.prog.ifacesRec ·)))=true:=by kernel_rfl
theorem j3k15:((Rows.fnWholeRow.mapsOut == Tryz.prog.mapsAmong Tryz.f3.resultTypes.toList))=true:=by kernel_rfl
theorem j3k16:((Rows.fnWholeRow.loops == (Tryz.f3.params.toList++Rows.fnWholeSpec.plain.varTypes Tryz.prog).any (Tryz.prog.loopsFrom ·)))=true:=by kernel_rfl
theorem j3k17:((Rows.fnWholeRow.wideKeys == (Tryz.f3.params.toList++Rows.fnWholeSpec.plain.varTypes Tryz.prog++Tryz.f3.resultTypes.toList).any (Tryz.prog.wideKeysFrom ·)))=true:=by kernel_rfl
theorem j3k18:(Rows.fnWholeSpec.vars.all (Tryz.prog.varReadable ·))=true:=by kernel_rfl
theorem j3k19:(Tryz.f3.resultTypes.all (fun t=>Tryz.prog.readableRec t && decide (t < Tryz.prog.types.size)))=true:=by kernel_rfl
theorem j3k20:((Rows.fnWholeRow.ifacesOut == Tryz.f3.resultTypes.toList.any (Tryz.prog.ifacesRec ·)))=true:=by kernel_rfl
theorem j3k21:((Rows.fnWholeRow.loopsOut == Tryz.f3.resultTypes.toList.any (Tryz.prog.loopsFrom ·)))=true:=by kernel_rfl
theorem j3k22:((Rows.fnWholeRow.plainKeys == Tryz.prog.plainKeys))=true:=by kernel_rfl
theorem j3k23:(Rows.fnWholeRow.shortTexts.isNone)=true:=by kernel_rfl
theorem j3k24:(Tryz.prog.stopsHeard)=true:=by kernel_rfl
theorem j3k25:(Tryz.prog.mayEnter)=true:=by kernel_rfl
theorem j3k26:((Rows.fnWholeRow.lifted == Tryz.prog.liftsFinal))=true:=by kernel_rfl
theorem j3k27:((Tryz.prog.make == some Rows.fnWholeRow.make))=true:=by kernel_rfl
theorem j3k28:((Rows.fnWholeRow.kinds == (if Rows.fnWholeRow.domain.isEmpty then [] else Tryz.f3.params.toList.map fun t=>match Tryz.prog.underlying t with|some (.int k)=>some k|_=>none)))=true:=by kernel_rfl
theorem j3k29:((Rows.fnWholeRow.pinned == Rows.fnWholeRow.pinnedBy))=true:=by kernel_rfl
theorem j3k30:((Rows.fnWholeRow.veiled == (Tryz.f3.params.toList++Rows.fnWholeSpec.plain.varTypes Tryz.prog++Tryz.f3.resultTypes.toList).any (Tryz.prog.veiledRec ·)))=true:=by kernel_rfl
theorem j3k31:(Rows.fnWholeRow.veiledFits Tryz.prog Tryz.f3.params.toList (Tryz.f3.params.toList++Rows.fnWholeSpec.plain.varTypes Tryz.prog++Tryz.f3.resultTypes.toList))=true:=by kernel_rfl
theorem jf3:joinedFacts Tryz.prog 3 Tryz.f3 Rows.fnWholeSpec Rows.fnWholeRow=true:=(and_t (and_t (and_t (and_t (and_t (and_t (and_t (and_t (and_t (and_t (and_t (and_t (and_t (and_t (and_t (and_t (and_t (and_t (and_t (and_t (and_t (and_t (and_t (and_t (and_t (and_t (and_t (and_t (and_t (and_t (and_t j3k0 j3k1) j3k2) j3k3) j3k4) j3k5) j3k6) j3k7) j3k8) j3k9) j3k10) j3k11) j3k12) j3k13) j3k14) j3k15) j3k16) j3k17) j3k18) j3k19) j3k20) j3k21) j3k22) j3k23) j3k24) j3k25) j3k26) j3k27) j3k28) j3k29) j3k30) j3k31)
theorem jn3:Tryz.prog.funcNamed Rows.fnWholeRow.func=some 3:=by kernel_rfl
theorem ji3:Tryz.f3.isInstance Tryz.prog Rows.fnWholeRow.origin Rows.fnWholeRow.targs:=of_decide_eq_true (by kernel_rfl)
theorem jw3:Tryz.f3.isWrapper Tryz.prog Rows.fnWholeRow.wrapper Rows.fnWholeRow.mainSum:=by unfold Func.isWrapper;first|(rw[if_pos (by decide+kernel)];kernel_rfl)|(rw[if_neg (by decide+kernel)];exact ⟨rfl,rfl⟩)
end Go.Proofs.YtbkfdnkeelmloaaGreatDoor
