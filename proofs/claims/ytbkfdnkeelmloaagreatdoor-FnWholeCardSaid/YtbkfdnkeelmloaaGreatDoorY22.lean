/- Part 22 of the proof: L2. -/
import Derived.Test.YtbkfdnkeelmloaaGreatDoorZ18
import Derived.Test.YtbkfdnkeelmloaaGreatDoorY21
set_option linter.unusedVariables false
set_option linter.unusedSimpArgs false
namespace Go.Proofs.YtbkfdnkeelmloaaGreatDoor
set_option maxHeartbeats 4000000
set_option maxRecDepth 10000
open Go.AM Go
section
variable {G:Nat→AV}
theorem f93_ok (v:ValueD) (hs:v.b.length≤1000000):Fulfils Tryz.prog G 93 [.agg (valueC v),.agg (valueC v)] [] (retP (booV true)):=by
 have hbig:big=140737488355328:=rfl
 refine fulfilP (fn:=Tryz.f93) (rs:=[.tmp 4]) (Tryz.f93.body.getD .skip) (by kernel_rfl) rfl rfl rfl (by simp only[List.length_cons,List.length_nil];decide) rfl (by decide) ?_
 simp only[Tryz.f93,Option.getD_some,go_sem]
 repeat' first|refine s1 ?_|(refine hRegion ?_;simp -implicitDefEqProofs only[go_sem,↓reduceIte,Nat.reduceEqDiff,Nat.reduceLT,Nat.reduceLeDiff,Nat.reduceAdd,Nat.reduceSub,Nat.reduceMul,reduceCtorEq,List.reduceReplicate,Nat.reduceBEq,beq_self_eq_true,Bool.and_true,Bool.true_and])|(refine hRet ?_;simp -implicitDefEqProofs only[go_sem,↓reduceIte,Nat.reduceEqDiff,Nat.reduceLT,Nat.reduceLeDiff,Nat.reduceAdd,Nat.reduceSub,Nat.reduceMul,reduceCtorEq,List.reduceReplicate,Nat.reduceBEq,beq_self_eq_true,Bool.and_true,Bool.true_and])|with_reducible refine fun (_:Outc)=>?_|(refine done_pure sT ?_;exact sT)|fail
 all_goals exact all_by _
def SameE (e q:EntryE):Prop:=(e.tag=0∧q.tag=0∧e.children=false∧q.children=false)∨
 (q.tag≠0∧e.offset=q.offset∧e.tag=q.tag∧e.children=q.children∧e.fields.length=q.fields.length∧∀(i:Nat) (f g:FieldE),e.fields[i]? =some f→q.fields[i]? =some g→f.attr=g.attr∧(e.tag≠17→f.value=g.value∧f.value.b.length≤1000000))
theorem f51_ok (e q:EntryE) (h:SameE e q) (hl:e.fields.length≤1000000):Fulfils Tryz.prog G 51 [.agg (entryC e),.agg (entryC q)] [] (retP (booV true)):=by
 have hbig:big=140737488355328:=rfl
 refine fulfilP (fn:=Tryz.f51) (rs:=[.tmp 4]) (Tryz.f51.body.getD .skip) (by kernel_rfl) rfl rfl rfl (by simp only[List.length_cons,List.length_nil];decide) rfl (by decide) ?_
 simp only[Tryz.f51,Option.getD_some,go_sem]
 rcases h with ⟨h1,h2,h3,h4⟩ | ⟨h6,h1,h2,h3,h4,h5⟩
 ·repeat' first|refine rnE (And.intro @h1 (And.intro @h2 (And.intro @h3 @h4))) ?_|with_reducible refine fun (_:Outc)=>?_|exact trivial
 ·have hq:(q.tag == 0)=false:=by rw[beq_eq_false_iff_ne];exact h6
  repeat' first|refine rnE (And.intro @h1 (And.intro @h2 (And.intro @h3 (And.intro @h4 @hq)))) ?_|with_reducible refine fun (_:Outc)=>?_|fail
  rename_i o1 o2
  refine hLoop (X:={j:Nat // j≤q.fields.length}) (fun j=> ⟨[(2,.ref 2 o1.b 0),(3,.ref 3 o2.b 0),(52,intV q.fields.length),(53,intV j.1)],[(2,some (.cells o1.b 0 (entryC e))),(3,some (.cells o2.b 0 (entryC q)))]⟩) (fun j=>q.fields.length - j.1) ⟨0,by omega⟩ (by (refine simE (And.intro @h1 (And.intro @h2 @h3)) ?_;try exact trivial)) ?_
  rintro ⟨j,hj⟩
  refine sim ?_
  by_cases hlt:j < q.fields.length
  ·obtain ⟨f,hf⟩ :=getX e.fields (i:=j) (by omega)
   obtain ⟨g,hg⟩ :=getX q.fields hlt
   obtain ⟨ha,hv⟩ :=h5 j f g hf hg
   have hw:q.tag≠17→f.value=g.value∧f.value.b.length≤1000000:=fun h=>hv (by rw[h2];exact h)
   clear hv
   have e1:(List.map fieldC e.fields).getD j []=[intV f.attr,intV f.value.cls,intV f.value.kind,u64V f.value.n,strV f.value.s,.dat false 1 (bytesR f.value.b)]:=row_at fieldC hf
   have e2:(List.map fieldC q.fields).getD j []=[intV g.attr,intV g.value.cls,intV g.value.kind,u64V g.value.n,strV g.value.s,.dat false 1 (bytesR g.value.b)]:=row_at fieldC hg
   have w4:IntKind.i64.wrap ((j:Int)+1)=((j+1:Nat):Int):=by rw[wrap_i64 (by omega) (by omega)];simp
   simp only[intV,u64V,strV] at e1 e2
   refine rn ?_
   refine hRegionD (noChi) [0,1,2,3,4,5,6,7,8,9,10,11,12] [0,1,0,7,15,31,0,64,0,448,960,1984,4095] [] mixed (by kernel_rfl) ?_
   refine simE (And.intro @e1 (And.intro @e2 @ha)) ?_
   refine rn ?_
   refine hRegionD ((fun jx _=>if jx=16 then (pureI 93 [.agg (valueC f.value),.agg (valueC f.value)] (q.tag≠17) (booV true) (fun h=>f93_ok f.value (hw h).2),([],[])) else (default,([],[])))) [0,1,2,3,4,5,6,7,8,9,10,11,12,13,14,15,16,17,18] [0,1,3,7,15,31,15,127,255,511,15,1039,15,7183,15375,31759,65535,131071,262143] [] mixed (by kernel_rfl) ?_
   refine simE (And.intro @e1 (And.intro @e2 @h2)) ?_
   repeat' first|refine rn ?_|refine br fun hb=>?_|with_reducible refine And.intro ?_ ?_|omega
   refine callGDP (fun hg=>by simpa using hg) (fun hg=>?_) ?_
   ·rw[(hw (by simpa using hg)).1]
    exact ⟨rfl,by simpa [cndOK] using hg⟩
   refine sim ?_
   refine rnE @w4 ?_
   exact ⟨⟨j+1,hlt⟩,rfl,by dsimp only;omega⟩
  ·exact rn trivial
def answerC (e:EntryE):List AV:=[booV true,intV e.offset,intV e.tag,booV e.children,fieldsV e.fields,intV 0,intV 0]
attribute [go_sem] answerC
theorem f16_ok (l q:List EntryE) (hl:l.length=q.length) (hn:l.length≤1000000) (h:∀(i:Nat) (a c:EntryE),l[i]? =some a→q[i]? =some c→SameE a c∧a.fields.length≤1000000):Fulfils Tryz.prog G 16 [.dat false 7 (l.map answerC),entriesV q] [] (retP (booV true)):=by
 have hbig:big=140737488355328:=rfl
 refine fulfilP (fn:=Tryz.f16) (rs:=[.tmp 4]) (Tryz.f16.body.getD .skip) (by kernel_rfl) rfl rfl rfl (by simp only[List.length_cons,List.length_nil];decide) rfl (by decide) ?_
 simp only[Tryz.f16,Option.getD_some,go_sem]
 refine rn ?_
 refine hLoop (X:={j:Nat // j≤q.length}) (fun j=> ⟨[(0,.dat false 7 (l.map answerC)),(12,entriesV q),(13,intV q.length),(14,intV j.1)],[]⟩) (fun j=>q.length - j.1) ⟨0,by omega⟩ sT ?_
 rintro ⟨j,hj⟩
 refine sim ?_
 by_cases hlt:j < q.length
 ·obtain ⟨a,ha⟩ :=getX l (i:=j) (by omega)
  obtain ⟨c,hc⟩ :=getX q hlt
  obtain ⟨hs,hf⟩ :=h j a c ha hc
  have e1:(l.map answerC).getD j []=[booV true,intV a.offset,intV a.tag,booV a.children,fieldsV a.fields,intV 0,intV 0]:=row_at answerC ha
  have e2:(q.map entryC).getD j []=[intV c.offset,intV c.tag,booV c.children,fieldsV c.fields]:=row_at entryC hc
  have w4:IntKind.i64.wrap ((j:Int)+1)=((j+1:Nat):Int):=by rw[wrap_i64 (by omega) (by omega)];simp
  simp only[intV,booV,fieldsV] at e1 e2
  repeat' first|refine rnE @e2 ?_|with_reducible refine fun (_:Outc)=>?_|fail
  refine hRegionD ((fun jx _=>if jx=21 then (pureI 51 [.agg (entryC a),.agg (entryC c)] True (booV true) (fun _=>f51_ok a c hs hf),([],[])) else (default,([],[])))) [0,1,2,3,4,5,6,7,8,9,10,11,12,13,14,15,16,17,18,19,20,21,22,23] [0,0,3,7,15,31,63,127,127,511,1023,2047,4095,8191,16383,32767,32767,131071,262143,524287,32767,2097151,4194303,8388607] [] mixed (by kernel_rfl) ?_
  refine simE (And.intro @e1 @e2) ?_
  repeat' first|refine rn ?_|refine br fun hb=>?_|with_reducible refine And.intro ?_ ?_|omega
  refine callGDP (fun _=>trivial) (fun hg=> ⟨rfl,by simp[cndOK]⟩) ?_
  refine sim ?_
  refine rnE @w4 ?_
  exact ⟨⟨j+1,hlt⟩,rfl,by dsimp only;omega⟩
 ·exact rn trivial
end
end Go.Proofs.YtbkfdnkeelmloaaGreatDoor
