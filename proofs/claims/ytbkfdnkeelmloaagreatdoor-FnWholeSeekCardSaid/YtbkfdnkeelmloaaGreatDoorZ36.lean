/- Part 36 of the proof: E1 E2. -/
import Derived.Laws.StructEq
import Derived.Test.YtbkfdnkeelmloaaGreatDoorZ20
import Derived.Test.YtbkfdnkeelmloaaGreatDoorZ21
set_option linter.unusedVariables false
set_option linter.unusedSimpArgs false
namespace Go.Proofs.YtbkfdnkeelmloaaGreatDoor
set_option maxHeartbeats 4000000
set_option maxRecDepth 10000
open Go.AM Go
section
variable (w:World) (d:Nat)
theorem eqI (t:TypeId) (k:IntKind) (n:Int) (h:Tryz.prog.underlying t=some (.int k)):(Op.equalIn (d+1) t (.int k n) (.int k n)).run Tryz.prog w= .ok true w:=by rw[run_equalIn_int w d t k k n n h];simp
theorem eqS (t:TypeId) (s:ByteArray) (h:Tryz.prog.underlying t=some .string):(Op.equalIn (d+1) t (.string s) (.string s)).run Tryz.prog w= .ok true w:=by rw[run_equalIn_string w d t s s h];simp
end
theorem p3:Tryz.prog.plainKey 3=true:=by kernel_rfl
theorem p4:Tryz.prog.plainKey 4=true:=by kernel_rfl
theorem f74:(Tryz.prog.fieldsOf 74).toList.map (fun f=>(f.type,f.offset))=[(4,0),(9,1),(46,2),(3,3)]:=by kernel_rfl
theorem f76:(Tryz.prog.fieldsOf 76).toList.map (fun f=>(f.type,f.offset))=[(46,0),(3,1),(74,2),(3,6),(3,7),(4,8),(4,9),(4,10),(4,11),(3,12),(3,13),(4,14)]:=by kernel_rfl
set_option maxHeartbeats 4000000
set_option maxRecDepth 10000
open Go.AM Go
section
variable {G:Nat→AV}
theorem fitR_place {p:AV→Prop} [StillP p] (l:List (Int×Int)):fitR p (placeR l)=True:=eq_true (fitR_map (g:=fun p:Int×Int=>[u64V p.1,u64V p.2]) (fun b=> ⟨fit_v,fit_v,trivial⟩) l)
attribute [go_sem] fitR_place
end
end Go.Proofs.YtbkfdnkeelmloaaGreatDoor
