/- Part 42 of the proof: C7. -/
import Derived.JoinedOf
import Derived.ProofKit
import Derived.Test.YtbkfdnkeelmloaaGreatDoorRows
set_option linter.unusedVariables false
set_option linter.unusedSimpArgs false
namespace Go.Proofs.YtbkfdnkeelmloaaGreatDoor
set_option maxRecDepth 100000
open Go
theorem and_t {a b:Bool} (h:a=true) (k:b=true):(a && b)=true:=by rw[h,k];rfl
theorem j4k0:(Rows.fnWholeSeekRow.wf (OpenSpec.ofChange Rows.fnWholeSeekSpec))=true:=by kernel_rfl
theorem j4k1:(laidOutB Tryz.prog)=true:=by kernel_rfl
theorem j4k2:(mapsRowed Tryz.prog)=true:=by kernel_rfl
theorem j4k3:(Tryz.f4.params.all (Tryz.prog.readableRec ·))=true:=by kernel_rfl
theorem j4k4:(namedTie Tryz.prog Rows.fnWholeSeekRow.named Rows.fnWholeSeekSpec.vars)=true:=by kernel_rfl
theorem j4k5:((Rows.fnWholeSeekRow.stops == []))=true:=by kernel_rfl
theorem j4k6:((Tryz.prog.stops == []))=true:=by kernel_rfl
theorem j4k7:((Rows.fnWholeSeekRow.knobs == []))=true:=by kernel_rfl
theorem j4k8:((Tryz.prog.stopKnobs == []))=true:=by kernel_rfl
theorem j4k9:((Rows.fnWholeSeekRow.inPlace == Tryz.prog.inPlace 4))=true:=by kernel_rfl
theorem j4k10:((Rows.fnWholeSeekRow.unfollowed == Tryz.prog.unfollowed 4))=true:=by kernel_rfl
theorem j4k11:((Rows.fnWholeSeekRow.recurses == Tryz.prog.recurses 4))=true:=by kernel_rfl
theorem j4k12:((Rows.fnWholeSeekRow.named == Tryz.prog.varsNamed 4))=true:=by kernel_rfl
theorem j4k13:((Rows.fnWholeSeekRow.maps == (Tryz.f4.params.toList++Rows.fnWholeSeekSpec.plain.varTypes Tryz.prog).any (Tryz.prog.mapsRec ·)))=true:=by kernel_rfl
theorem j4k14:((Rows.fnWholeSeekRow.ifaces == (Tryz.f4.params.toList++Rows.fnWholeSeekSpec.plain.varTypes Tryz.prog).any (Tryz.prog.ifacesRec ·)))=true:=by kernel_rfl
theorem j4k15:((Rows.fnWholeSeekRow.mapsOut == Tryz.prog.mapsAmong Tryz.f4.resultTypes.toList))=true:=by kernel_rfl
theorem j4k16:((Rows.fnWholeSeekRow.loops == (Tryz.f4.params.toList++Rows.fnWholeSeekSpec.plain.varTypes Tryz.prog).any (Tryz.prog.loopsFrom ·)))=true:=by kernel_rfl
theorem j4k17:((Rows.fnWholeSeekRow.wideKeys == (Tryz.f4.params.toList++Rows.fnWholeSeekSpec.plain.varTypes Tryz.prog++Tryz.f4.resultTypes.toList).any (Tryz.prog.wideKeysFrom ·)))=true:=by kernel_rfl
theorem j4k18:(Rows.fnWholeSeekSpec.vars.all (Tryz.prog.varReadable ·))=true:=by kernel_rfl
theorem j4k19:(Tryz.f4.resultTypes.all (fun t=>Tryz.prog.readableRec t && decide (t < Tryz.prog.types.size)))=true:=by kernel_rfl
theorem j4k20:((Rows.fnWholeSeekRow.ifacesOut == Tryz.f4.resultTypes.toList.any (Tryz.prog.ifacesRec ·)))=true:=by kernel_rfl
theorem j4k21:((Rows.fnWholeSeekRow.loopsOut == Tryz.f4.resultTypes.toList.any (Tryz.prog.loopsFrom ·)))=true:=by kernel_rfl
theorem j4k22:((Rows.fnWholeSeekRow.plainKeys == Tryz.prog.plainKeys))=true:=by kernel_rfl
theorem j4k23:(Rows.fnWholeSeekRow.shortTexts.isNone)=true:=by kernel_rfl
theorem j4k24:(Tryz.prog.stopsHeard)=true:=by kernel_rfl
theorem j4k25:(Tryz.prog.mayEnter)=true:=by kernel_rfl
theorem j4k26:((Rows.fnWholeSeekRow.lifted == Tryz.prog.liftsFinal))=true:=by kernel_rfl
theorem j4k27:((Tryz.prog.make == some Rows.fnWholeSeekRow.make))=true:=by kernel_rfl
theorem j4k28:((Rows.fnWholeSeekRow.kinds == (if Rows.fnWholeSeekRow.domain.isEmpty then [] else Tryz.f4.params.toList.map fun t=>match Tryz.prog.underlying t with|some (.int k)=>some k|_=>none)))=true:=by kernel_rfl
theorem j4k29:((Rows.fnWholeSeekRow.pinned == Rows.fnWholeSeekRow.pinnedBy))=true:=by kernel_rfl
theorem j4k30:((Rows.fnWholeSeekRow.veiled == (Tryz.f4.params.toList++Rows.fnWholeSeekSpec.plain.varTypes Tryz.prog++Tryz.f4.resultTypes.toList).any (Tryz.prog.veiledRec ·)))=true:=by kernel_rfl
theorem j4k31:(Rows.fnWholeSeekRow.veiledFits Tryz.prog Tryz.f4.params.toList (Tryz.f4.params.toList++Rows.fnWholeSeekSpec.plain.varTypes Tryz.prog++Tryz.f4.resultTypes.toList))=true:=by kernel_rfl
theorem jf4:joinedFacts Tryz.prog 4 Tryz.f4 Rows.fnWholeSeekSpec Rows.fnWholeSeekRow=true:=(and_t (and_t (and_t (and_t (and_t (and_t (and_t (and_t (and_t (and_t (and_t (and_t (and_t (and_t (and_t (and_t (and_t (and_t (and_t (and_t (and_t (and_t (and_t (and_t (and_t (and_t (and_t (and_t (and_t (and_t (and_t j4k0 j4k1) j4k2) j4k3) j4k4) j4k5) j4k6) j4k7) j4k8) j4k9) j4k10) j4k11) j4k12) j4k13) j4k14) j4k15) j4k16) j4k17) j4k18) j4k19) j4k20) j4k21) j4k22) j4k23) j4k24) j4k25) j4k26) j4k27) j4k28) j4k29) j4k30) j4k31)
theorem jn4:Tryz.prog.funcNamed Rows.fnWholeSeekRow.func=some 4:=by kernel_rfl
theorem ji4:Tryz.f4.isInstance Tryz.prog Rows.fnWholeSeekRow.origin Rows.fnWholeSeekRow.targs:=of_decide_eq_true (by kernel_rfl)
theorem jw4:Tryz.f4.isWrapper Tryz.prog Rows.fnWholeSeekRow.wrapper Rows.fnWholeSeekRow.mainSum:=by unfold Func.isWrapper;first|(rw[if_pos (by decide+kernel)];kernel_rfl)|(rw[if_neg (by decide+kernel)];exact ⟨rfl,rfl⟩)
end Go.Proofs.YtbkfdnkeelmloaaGreatDoor
