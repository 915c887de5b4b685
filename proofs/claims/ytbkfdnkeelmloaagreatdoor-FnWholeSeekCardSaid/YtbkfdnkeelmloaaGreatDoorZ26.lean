/- Part 26 of the proof: I2. -/
import Derived.Test.YtbkfdnkeelmloaaGreatDoorZ23
set_option linter.unusedVariables false
set_option linter.unusedSimpArgs false
namespace Go.Proofs.YtbkfdnkeelmloaaGreatDoor
set_option maxHeartbeats 4000000
set_option maxRecDepth 10000
open Go.AM Go
section
variable {G:Nat→AV} {g:GData} {z:DataR} {us0:List UnitR} {ns:Nat→List NodeR}
def noAnswer:List AV:=[booV false,intV 0,intV 0,booV false,.val (.slice none 0 0),intV 0,intV 0]
attribute [go_sem] noAnswer
theorem openZ_keep (s:SectionsD) (bg:Bool) (m1 m2 m3 h:Value):(openZ s bg m1 m2 m3 h).big=bg∧(openZ s bg m1 m2 m3 h).hU=h:=by
 have:∀(l:List (Bytes×Bytes)) (z:DataR),(l.foldl addStep z).big=z.big∧(l.foldl addStep z).hU=z.hU:=by
  intro l
  induction l with
  |nil=>intro z;exact ⟨rfl,rfl⟩
  |cons p l ih=>
   intro z
   obtain ⟨e1,e2⟩ :=ih (addStep z p)
   rw[List.foldl_cons,e1,e2]
   unfold addStep
   split<;>exact ⟨rfl,rfl⟩
 exact this _ _
theorem unitsTo_bare (bg:Bool) (us:List UnitS) (m:Nat):(unitsTo bg us m).map bare=unitsTo bg us m:=by
 unfold unitsTo
 rw[List.map_map];rfl
theorem turn_rdC {σ:Nat→Nat} {j i k:Nat} {u:UnitR} {l:List NodeR}:turnL (rkA σ) (rdC z j i u l k)=rdC z (σ j) i u l k:=by
 unfold rdC
 exact sT
def uAt (us0:List UnitR) (i:Nat):UnitR:=us0.getD i ⟨0,0,[],[],false,0,0,false,0⟩
theorem uAt_get {us0:List UnitR} {i:Nat} (h:i < us0.length):us0[i]? =some (uAt us0 i):=by
 unfold uAt;rw[List.getD_eq_getElem?_getD,List.getElem?_eq_getElem h];rfl
def entAt (bg:Bool) (u:UnitR) (l:List NodeR) (k:Nat):DEntry:=nodeE u.base (nodeAtOff u bg l k) (l.getD k .fin)
def unitEs (bg:Bool) (u:UnitR) (l:List NodeR) (m:Nat):List EntryE:=(List.range m).map fun k=>entE (entAt bg u l k)
theorem unitEs_len {bg:Bool} {u:UnitR} {l:List NodeR} {m:Nat}:(unitEs bg u l m).length=m:=by simp[unitEs]
def ansR (l:List EntryE):List (List AV):=l.map answerC
theorem turnL_answer {f:AV→AV} [Still f] (e:EntryE):turnL f (answerC e)=answerC e:=by simp only[answerC,turnL,intV,booV,fieldsV,AV.turn,Still.i,Still.b,turnR_field]
theorem turnR_ans {f:AV→AV} [Still f] (l:List EntryE):turnR f (ansR l)=ansR l:=turnR_map (g:=answerC) (fun b=>turnL_answer b) l
theorem ansR_len (l:List EntryE):(ansR l).length=l.length:=by simp[ansR]
theorem repl_get {n j:Nat} (h:j < n) (r:List AV):(List.replicate n r).getD j []=r:=by
 rw[List.getD_eq_getElem?_getD,List.getElem?_replicate,if_pos h];rfl
attribute [go_sem] rdAt turn_rdC unitEs_len turnR_ans ansR_len List.length_replicate turnR_app
end
end Go.Proofs.YtbkfdnkeelmloaaGreatDoor
