/- Part 44 of the proof: W3. -/
import Derived.Test.YtbkfdnkeelmloaaGreatDoorY22
import Derived.Test.YtbkfdnkeelmloaaGreatDoorY26
import Derived.Test.YtbkfdnkeelmloaaGreatDoorY36
import Derived.Test.YtbkfdnkeelmloaaGreatDoorY37
set_option linter.unusedVariables false
set_option linter.unusedSimpArgs false
namespace Go.Proofs.YtbkfdnkeelmloaaGreatDoor
set_option maxHeartbeats 8000000
set_option maxRecDepth 10000
open Go.AM Go
theorem turnR_added {f:AV→AV} [Still f] (l:List (Bytes×Bytes)):turnR f (l.map fun p=>[AV.val (.string ⟨p.1.toArray⟩),.dat false 1 (bytesR p.2)])=l.map fun p=>[AV.val (.string ⟨p.1.toArray⟩),.dat false 1 (bytesR p.2)]:=
 turnR_map (g:=fun p:Bytes×Bytes=>[AV.val (.string ⟨p.1.toArray⟩),.dat false 1 (bytesR p.2)]) (fun b=>by simp only[turnL,AV.turn,Still.s,turnR_by]) l
theorem fitR_all {p:AV→Prop}:∀{l:List (List AV)},(∀r∈l,fitL p r)→fitR p l
 | [],_=>trivial
 |r :: l,h=> ⟨h r (List.mem_cons_self ..),fitR_all fun x hx=>h x (List.mem_cons_of_mem _ hx)⟩
theorem fitR_added {p:AV→Prop} [StillP p] (l:List (Bytes×Bytes)):fitR p (l.map fun p=>[AV.val (.string ⟨p.1.toArray⟩),.dat false 1 (bytesR p.2)])=True:=eq_true (fitR_all fun r hr=>by
 obtain ⟨x,_,rfl⟩ :=List.mem_map.1 hr
 exact ⟨fit_v,fitR_by _,trivial⟩)
theorem fitR_ansE {p:AV→Prop} [StillP p] (l:List EntryE):fitR p (ansR l++[noAnswer]):=fitR_all fun r hr=>by
 rcases List.mem_append.1 hr with h|h
 ·obtain ⟨e,_,rfl⟩ :=List.mem_map.1 h
  exact ⟨fit_v,fit_v,fit_v,fit_v,fitR_map fitL_field _,fit_v,fit_v,trivial⟩
 ·rw[List.mem_singleton] at h
  subst h
  exact ⟨fit_v,fit_v,fit_v,fit_v,fit_v,fit_v,fit_v,trivial⟩
theorem fitR_lans {p:AV→Prop} [StillP p] (l:List RowD) (n:Nat):fitR p (lansR l n):=fitR_all fun r hr=>by
 have hl:∀(x:RowD) c,fitL p (lansC x c):=fun x c=> ⟨fit_v,fit_v,fit_v,fit_v,fit_v,fit_v,fit_v,fit_v,fit_v,fit_v,fit_v,fit_v,fit_v,fit_v,fit_v,fit_v,fit_v,trivial⟩
 rcases List.mem_append.1 (List.mem_of_mem_take hr) with h|h
 ·obtain ⟨e,_,rfl⟩ :=List.mem_map.1 h
  exact hl _ _
 ·rw[List.mem_singleton] at h
  subst h
  exact hl _ _
theorem okG_slice {e:Operand→AV} {t:Nat} {x y:Operand}:okG e (.slice t x none (some y) none)=(cndOK (e x)=true∧cndOK (e y)=true):=by simp[okG,Op.operands]
attribute [go_sem] turnR_added fitR_added okG_slice
section
variable {G:Nat→AV} {g:GData}
theorem f3_ok (hG:GOK G g) (hT:g.eofT=263) (l:LayoutD) (spans:List SpanD) (units:List UnitD) (k:Int) (t:TableD) (bf nm:Bytes) (hsp:inSpans spans) (hus:okUnits units) (hru:rngUnits units) (ht:okTable t) (hrt:rngTable t) (hbf:bf.length≤big) (hnm:nm.length≤big):
  Fulfils Tryz.prog G 3 [.agg (layoutC l),spansV spans,unitsV units,intV k,.agg (tableC t),bytesV bf,strV nm] [] (retP (booV true)):=by
 have hbig:big=140737488355328:=rfl
 have hl1:=hsp.1
 have hl2:=hus.1
 refine fulfilP (fn:=Tryz.f3) (rs:=[.tmp 14]) (Tryz.f3.body.getD .skip) (by kernel_rfl) rfl rfl rfl (by simp only[List.length_cons,List.length_nil];decide) rfl (by decide) ?_
 simp only[Tryz.f3,Option.getD_some,go_sem]
 repeat' first|refine rn ?_|refine br fun hb=>?_|with_reducible refine And.intro ?_ ?_|with_reducible refine fun (_:Outc)=>?_|omega|exact trivial|fail
 rename_i o7 o11
 refine callP (f5_ok spans ⟨hsp.1,fun x hx=>(hsp.2 x hx).len⟩) rfl ?_;(refine sim ?_;try exact trivial)
 repeat' first|refine rn ?_|refine br fun hb=>?_|with_reducible refine And.intro ?_ ?_|with_reducible refine fun (_:Outc)=>?_|omega|exact trivial|fail
 refine callGP (booV (fitsUnits units)) (fun _=>f6_ok units hus) (fun hg=> ⟨rfl,by simpa [cndOK] using hg⟩) ?_;(refine sim ?_;try exact trivial)
 repeat' first|refine rn ?_|refine br fun hb=>?_|with_reducible refine And.intro ?_ ?_|with_reducible refine fun (_:Outc)=>?_|omega|exact trivial|fail
 refine callGP (booV (fitsTable t)) (fun _=>f7_ok t ht) (fun hg=> ⟨rfl,by simpa [cndOK] using hg⟩) ?_;(refine sim ?_;try exact trivial)
 repeat' first|refine rn ?_|refine br fun hb=>?_|with_reducible refine And.intro ?_ ?_|with_reducible refine fun (_:Outc)=>?_|omega|exact trivial|fail
 refine callGP (booV (isText nm)) (fun _=>f8_ok nm hnm) (fun hg=> ⟨rfl,by simpa [cndOK] using hg⟩) ?_;(refine sim ?_;try exact trivial)
 repeat' first|refine rn ?_|refine br fun hb=>?_|with_reducible refine And.intro ?_ ?_|with_reducible refine fun (_:Outc)=>?_|omega|exact trivial|fail
 refine callGP (booV (areSpanned l spans units)) (fun _=>f9_ok l spans units hsp hus) (fun hg=> ⟨rfl,by simpa [cndOK] using hg⟩) ?_;(refine sim ?_;try exact trivial)
 repeat' first|refine rn ?_|refine br fun hb=>?_|with_reducible refine And.intro ?_ ?_|with_reducible refine fun (_:Outc)=>?_|omega|exact trivial|fail
 rename_i hb0
 clear hb0
 obtain ⟨⟨⟨⟨⟨⟨hb4,hn1⟩,hnt⟩,hv4⟩,hk0⟩,hkl⟩,hsg⟩ :=hb
 by_cases hit:isTable t=true
 rotate_left
 ·have f10:=f10f_ok (G:=G) t ht (by simpa using hit)
  obtain ⟨b,hb0⟩ :∃b,b=false:= ⟨_,rfl⟩
  rw[←hb0] at f10
  refine callP f10 rfl ?_;(refine sim ?_;try exact trivial)
  refine s1 (s1 (hCut 5 fun X hX=>?_))
  simp -implicitDefEqProofs only[go_sem,↓reduceIte,Nat.reduceEqDiff,Nat.reduceLT,Nat.reduceLeDiff,Nat.reduceAdd,Nat.reduceSub,Nat.reduceMul,reduceCtorEq,List.reduceReplicate,Nat.reduceBEq,List.take_succ_cons,List.take_zero]
  refine callGP (bs:=[]) (booV true) (fun hg=>by simp[hb0] at hg) (fun hg=>by simp[hb0] at hg) ?_
  refine hX _ ?_
  simp -implicitDefEqProofs only[go_sem,↓reduceIte,Nat.reduceEqDiff,Nat.reduceLT,Nat.reduceLeDiff,Nat.reduceAdd,Nat.reduceSub,Nat.reduceMul,reduceCtorEq,List.reduceReplicate,Nat.reduceBEq,List.drop_succ_cons,List.drop_zero]
  repeat' first|refine rn ?_|refine br fun hb=>?_|with_reducible refine And.intro ?_ ?_|with_reducible refine fun (_:Outc)=>?_|omega|exact trivial|fail
  rw[hb0] at hb
  simp at hb
 have hin:=machIn_run hit t.ops.length (Nat.le_refl _)
 rw[List.take_length] at hin
 have hrl:=hin.rows
 obtain ⟨R,hR⟩ :∃R,R=(runM t t.ops).rows:= ⟨_,rfl⟩
 have f10:=f10_ok (G:=G) t ht hit
 rw[←hR] at f10 hrl
 obtain ⟨bd,hbd⟩ :∃bd,bd=(runM t t.ops).bad:= ⟨_,rfl⟩
 obtain ⟨kn,hkn⟩ :∃kn,kn=(runM t t.ops).known:= ⟨_,rfl⟩
 rw[←hbd,←hkn] at f10
 refine callA [] 2 (f10) ?_;rintro ret os fs ⟨hr,hk,rfl,rfl,rfl⟩;(refine sim ?_;try exact trivial)
 repeat' first|exact trivial|with_reducible refine And.intro ?_ ?_|omega|with_reducible refine fun (_:Outc)=>?_|fail
 refine hEnt (eFrz 1098 (by (refine sim ?_;try exact trivial))) ?_;(refine sim ?_;try exact trivial)
 refine hEnt (eFrz 2098 (by (refine sim ?_;try exact trivial))) ?_;(refine sim ?_;try exact trivial)
 refine hLe ⟨[(1,spansV spans),(2,unitsV units),(3,intV k),(5,bytesV bf),(6,strV nm),(7,.ref 7 o7.b 0),(11,.ref 11 o11.b 0),(15,.dat false 15 (rowsR R)),(17,booV (!bd))],[(7,some (.cells o7.b 0 (layoutC l))),(11,some (.cells o11.b 0 (tableC t)))]⟩ (by (refine sim ?_;try exact trivial)) ?_
 (refine sim ?_;try exact trivial)
 refine s1 (s1 (hCut 5 fun X hX=>?_))
 simp -implicitDefEqProofs only[go_sem,↓reduceIte,Nat.reduceEqDiff,Nat.reduceLT,Nat.reduceLeDiff,Nat.reduceAdd,Nat.reduceSub,Nat.reduceMul,reduceCtorEq,List.reduceReplicate,Nat.reduceBEq,List.take_succ_cons,List.take_zero]
 refine callGP (booV (rising R)) (fun _=>f11_ok R hrl) (fun hg=> ⟨rfl,by simpa [cndOK] using hg⟩) ?_
 refine hX _ ?_
 simp -implicitDefEqProofs only[go_sem,↓reduceIte,Nat.reduceEqDiff,Nat.reduceLT,Nat.reduceLeDiff,Nat.reduceAdd,Nat.reduceSub,Nat.reduceMul,reduceCtorEq,List.reduceReplicate,Nat.reduceBEq,List.drop_succ_cons,List.drop_zero]
 repeat' first|refine rn ?_|refine br fun hb=>?_|with_reducible refine And.intro ?_ ?_|with_reducible refine fun (_:Outc)=>?_|omega|exact trivial|fail
 clear hX
 clear X
 obtain ⟨⟨⟨⟨hbd0,hris⟩,hdirs⟩,htb⟩,hts⟩ :=hb
 have hdn:t.dirs=[]:=List.eq_nil_of_length_eq_zero (by omega)
 have hgood:SpannedGood l spans units:=Classical.byContradiction fun h=>by rw[areSpanned_f h] at hsg;cases hsg
 have hAll:AllIn l spans units:= ⟨hv4,hgood,hsp.2,hru⟩
 have hTab:TabIn t:= ⟨hit,hdn,hrt.1,hrt.2⟩
 have hsl:=hgood.same
 have hul:=hgood.len
 obtain ⟨hTO,hrd,hop⟩ :=hTab.ok
 refine callA [] 2 (f12_ok t hTO) ?_;rintro ret os fs ⟨h1,h2,rfl,rfl,rfl⟩;(refine sim ?_;try exact trivial)
 repeat' first|exact trivial|with_reducible refine And.intro ?_ ?_|omega|with_reducible refine fun (_:Outc)=>?_|fail
 refine hEnt (eFrz 1131 (by (refine sim ?_;try exact trivial))) ?_;(refine sim ?_;try exact trivial)
 refine hEnt (eFrz 2131 (by (refine sim ?_;try exact trivial))) ?_;(refine sim ?_;try exact trivial)
 refine hMeet (X:={a:AV // (∀M u,a.rel M u→(bytesV (lineTx t)).rel M u)∧∀k ob,a.fit (frz1P k ob)∧a.turn (frz1 k ob)=a}) (fun a=> ⟨[(1,spansV spans),(2,unitsV units),(3,intV k),(5,bytesV bf),(6,strV nm),(7,.ref 7 o7.b 0),(11,.ref 11 o11.b 0),(15,.dat false 15 (rowsR R)),(18,.dat false 1 (bytesR (lineText t))),(19,a.1)],[(7,some (.cells o7.b 0 (layoutC l))),(11,some (.cells o11.b 0 (tableC t)))]⟩) ?_ ?_
 ·repeat' first|refine rn ?_|refine br fun hb=>?_|with_reducible refine And.intro ?_ ?_|with_reducible refine fun (_:Outc)=>?_|omega|exact trivial|fail
  ·exact ⟨⟨_,fun M u h=>by rw[lineTx,if_pos hb];exact nil_dat h,fun k ob=> ⟨fit_v,rfl⟩⟩,rfl⟩
  ·exact ⟨⟨_,fun M u h=>h,fun k ob=> ⟨fitR_by _,by (refine sim ?_;try exact trivial)⟩⟩,rfl⟩
 rintro ⟨txv,htx,hfr⟩
 (refine sim ?_;try exact trivial)
 have hft:=fun k ob=>eq_true (hfr k ob).1
 have htt:=fun k ob=>(hfr k ob).2
 obtain ⟨kk,rfl⟩ :∃kk:Nat,k=kk:= ⟨k.toNat,by omega⟩
 repeat' first|refine rn ?_|refine br fun hb=>?_|with_reducible refine And.intro ?_ ?_|with_reducible refine fun (_:Outc)=>?_|omega|exact trivial|fail
 refine callA [] 1 (f13_ok units (by omega)) ?_;rintro ret os fs ⟨h3,rfl,rfl,rfl⟩;(refine sim ?_;try exact trivial)
 repeat' first|exact trivial|with_reducible refine And.intro ?_ ?_|omega|with_reducible refine fun (_:Outc)=>?_|fail
 have er:=repl_get (n:=units.length) (j:=kk) (by omega) [.val (.slice none 0 0)]
 have wb:IntKind.u64.wrap (bf.length:Int)=bf.length:=wrap_u64 (by omega) (by omega)
 refine s1 (hRegion ?_)
 simp -implicitDefEqProofs only[go_sem,↓reduceIte,Nat.reduceEqDiff,Nat.reduceLT,Nat.reduceLeDiff,Nat.reduceAdd,Nat.reduceSub,Nat.reduceMul,reduceCtorEq,List.reduceReplicate,Nat.reduceBEq,er,List.set_cons_zero,wb]
 repeat' first|exact trivial|with_reducible refine And.intro ?_ ?_|omega|with_reducible refine fun (_:Outc)=>?_|fail
 rename_i ox
 refine hLe ⟨[(1,spansV spans),(2,unitsV units),(3,intV kk),(5,bytesV bf),(7,.ref 7 o7.b 0),(15,.dat false 15 (rowsR R)),(18,.dat false 1 (bytesR (lineText t))),(19,txv),(20,.buf 1138 h3)],[(7,some (.cells o7.b 0 (layoutC l))),(148,some (.arr ox.h 48 6 [attrN (nameA nm),attrN dirA,attrN (lstA bf.length)])),(1138,some (.arr h3 49 1 ((List.replicate units.length [.val (.slice none 0 0)]).set kk [.buf 148 ox.h])))]⟩ (by (refine sim ?_;try exact trivial);rfl) ?_
 dsimp only[attrN,dirA,lstA,nameA]
 (refine sim ?_;try exact trivial)
 refine hEnt (eFrz 148 (by simp -implicitDefEqProofs only[go_sem,↓reduceIte,Nat.reduceEqDiff,Nat.reduceLT,Nat.reduceLeDiff,Nat.reduceAdd,Nat.reduceSub,Nat.reduceMul,reduceCtorEq,List.reduceReplicate,Nat.reduceBEq,fitR,fitL,hft];refine fit_rep ?_;exact ⟨by (refine sim ?_;try exact trivial),trivial⟩)) ?_
 simp -implicitDefEqProofs only[go_sem,↓reduceIte,Nat.reduceEqDiff,Nat.reduceLT,Nat.reduceLeDiff,Nat.reduceAdd,Nat.reduceSub,Nat.reduceMul,reduceCtorEq,List.reduceReplicate,Nat.reduceBEq,turnR,turnL,htt,turn_rep]
 refine hEnt (eFrz 1138 (by simp -implicitDefEqProofs only[go_sem,↓reduceIte,Nat.reduceEqDiff,Nat.reduceLT,Nat.reduceLeDiff,Nat.reduceAdd,Nat.reduceSub,Nat.reduceMul,reduceCtorEq,List.reduceReplicate,Nat.reduceBEq,fitR,fitL,hft];refine fit_rep ?_;exact ⟨by simp -implicitDefEqProofs only[go_sem,↓reduceIte,Nat.reduceEqDiff,Nat.reduceLT,Nat.reduceLeDiff,Nat.reduceAdd,Nat.reduceSub,Nat.reduceMul,reduceCtorEq,List.reduceReplicate,Nat.reduceBEq,fitR,fitL],trivial⟩)) ?_
 simp -implicitDefEqProofs only[go_sem,↓reduceIte,Nat.reduceEqDiff,Nat.reduceLT,Nat.reduceLeDiff,Nat.reduceAdd,Nat.reduceSub,Nat.reduceMul,reduceCtorEq,List.reduceReplicate,Nat.reduceBEq,turnR,turnL,htt,turn_rep]
 have hn100:t.files.length≤100:=hTO.files
 have hlx:(lineTx t).length≤1000000:=by
  have:=txN_len (t:=t) (l:=t.files) hTO.file
  unfold lineTx
  split
  ·simp
  ·omega
 have hlt2:=lineText_len hTO
 have hfw:∀u,FirstOK u [nameA nm,dirA,lstA bf.length]:=fun u=>first_whole u hnt (by omega) (by omega)
 have f14:=f14k_ok (G:=G) (k:=kk) (f:=[nameA nm,dirA,lstA bf.length]) (tx:=lineTx t) txv htx hAll hfw (fun a ha=>by
  simp only[List.mem_cons,List.not_mem_nil,or_false] at ha
  rcases ha with rfl|rfl|rfl<;>rfl) hlx
 have hP:PackOK l spans units (firstK units.length kk [nameA nm,dirA,lstA bf.length]) (lineTx t):=hAll.pack (fun i _=>firstK_ok hfw i _) hlx
 obtain ⟨fi,hfi⟩ :∃fi,fi=firstK units.length kk [nameA nm,dirA,lstA bf.length]:= ⟨_,rfl⟩
 rw[←hfi] at f14 hP
 have hkl':kk < units.length:=by omega
 have hfo:∀i,i < units.length→FirstOK (newUnit l spans units fi i) (fi.getD i []):=fun i _=>by rw[hfi];exact firstK_ok hfw i _
 have hS:=sect_ok hAll hP (ln:=bf++lineText t) (by rw[List.length_append];omega)
 obtain ⟨SS,hSS⟩ :∃SS,SS=spannedS l spans units fi (lineTx t):= ⟨_,rfl⟩
 obtain ⟨FD,hFD⟩ :∃FD,FD=(spN l spans units fi (lineTx t) units.length).found:= ⟨_,rfl⟩
 rw[←hSS,←hFD] at f14
 repeat' first|refine rn ?_|refine br fun hb=>?_|with_reducible refine And.intro ?_ ?_|with_reducible refine fun (_:Outc)=>?_|omega|exact trivial|fail
 refine callP f14 rfl ?_;(refine sim ?_;try exact trivial)
 repeat' first|refine rn ?_|refine br fun hb=>?_|with_reducible refine And.intro ?_ ?_|with_reducible refine fun (_:Outc)=>?_|omega|exact trivial|fail
 rename_i o21 oa ob oc o165
 refine hLe ⟨[(1,spansV spans),(3,intV kk),(15,.dat false 15 (rowsR R)),(21,.ref 21 o21.b 0),(22,.dat false 2 (FD.map foundC)),(23,.buf 165 o165.h),(166,.dat false 2 (FD.map foundC)),(167,intV FD.length),(168,intV 0)],[(21,some (.cells o21.b 0 [bytesV SS.abbs,bytesV SS.info,.buf 159 oc.h,bytesV SS.ranges,bytesV SS.str,addedV SS.added,bytesV SS.types])),(159,some (.arr oc.h 5 1 (bytesR (bf++lineText t)))),(165,some (.arr o165.h 65 4 []))]⟩ (by (refine sim ?_;try exact trivial)) ?_
 (refine sim ?_;try exact trivial)
 refine hEnt (eFrz 159 (by (refine sim ?_;try exact trivial))) ?_;(refine sim ?_;try exact trivial)
 have hwl:=(heard_ok hP).2.1
 have hfl:FD.length=units.length:=by rw[hFD,found_eq];simp
 have hfe:∀i,i < FD.length→FD[i]? =some (fdN l spans units fi (lineTx t) i):=fun i hi=>by
  rw[hFD,found_eq,List.getElem?_map,List.getElem?_range (by omega)];rfl
 obtain ⟨W,hW⟩ :∃W,W=wantE l spans units fi (lineTx t):= ⟨_,rfl⟩
 have hWs:∀i,W (i+1)=W i++(fdN l spans units fi (lineTx t) i).entries:=fun i=>by
  rw[hW,wantE,wantE,List.range_succ,List.flatMap_append];simp
 have hWm:∀i,i≤units.length→(W i).length≤(W units.length).length:=fun i hi=>by
  obtain ⟨d,hd⟩ :=Nat.exists_eq_add_of_le hi
  rw[hd]
  clear hd hi
  induction d with
  |zero=>exact Nat.le_refl _
  |succ d ih=>rw[←Nat.add_assoc,hWs,List.length_append];omega
 rw[←hW] at hwl
 have hW0:W 0=[]:=by rw[hW];rfl
 have hnl:spans.length≤4:=by omega
 refine hLoop (X:={p:Value×Nat // p.2≤FD.length}) (fun p=> ⟨[(1,spansV spans),(3,intV kk),(15,.dat false 15 (rowsR R)),(21,.ref 21 o21.b 0),(22,.dat false 2 (FD.map foundC)),(23,.buf 165 p.1.1),(166,.dat false 2 (FD.map foundC)),(167,intV FD.length),(168,intV p.1.2)],[(21,some (.cells o21.b 0 (sectC { SS with line:=bf++lineText t }))),(165,some (.arr p.1.1 65 4 ((W p.1.2).map entryC)))]⟩) (fun p=>FD.length - p.1.2) ⟨(o165.h,0),by simp⟩ (by simp only[hW0,List.map_nil];(refine sim ?_;try exact trivial);all_goals ((repeat' refine And.intro ?_ ?_)<;>first|rfl|omega|(dsimp only;omega)|(simp;done)|(simp;rfl)|skip)) ?_
 rintro ⟨⟨h,j⟩,hj⟩
 simp only at hj
 (refine sim ?_;try exact trivial)
 by_cases hlt:j < FD.length
 ·have e:(FD.map foundC).getD j []=[intV (fdN l spans units fi (lineTx t) j).base,.dat false 4 ((fdN l spans units fi (lineTx t) j).entries.map entryC)]:=row_at foundC (hfe j hlt)
  have w4:IntKind.i64.wrap ((j:Int)+1)=((j+1:Nat):Int):=by rw[wrap_i64 (by omega) (by omega)];simp
  have hs:=hWs j
  have hm:=hWm (j+1) (by omega)
  have hm2:=hWm j (by omega)
  have hll:=congrArg List.length hs
  rw[List.length_append] at hll
  repeat' first|refine rnE (And.intro @e @w4) ?_|refine br fun hb=>?_|with_reducible refine And.intro ?_ ?_|with_reducible refine fun (_:Outc)=>?_|omega|exact trivial|fail
  exact ⟨⟨(_,j+1),hlt⟩, ⟨⟨rfl,rfl⟩,by dsimp only;rw[hs,List.map_append]⟩,by dsimp only;omega⟩
 have:j=FD.length:=by omega
 subst this
 repeat' first|refine s1 ?_|refine s2 ?_|refine hRegion (sim ?_)|refine hSkip (sim ?_)|refine hExit (sim ?_)|(refine s7 rfl ?_ ?_<;>intro hb<;>first|(exfalso;omega)|(exact absurd hb (by decide))|skip)|with_reducible refine And.intro ?_ ?_|with_reducible refine fun (_:Outc)=>?_|omega|exact trivial|with_reducible exact s8|(with_reducible intro hg;exact ⟨hg,fun hg2=>by simp[hg,hg2]⟩)|fail
 refine hEnt (eFrz 165 (by (refine sim ?_;try exact trivial))) ?_;(refine sim ?_;try exact trivial)
 obtain ⟨WE,hWE⟩ :∃WE,WE=W units.length:= ⟨_,rfl⟩
 rw[show W FD.length=WE by rw[hfl,hWE]]
 have hwn:WE.length≤20000:=by rw[hWE];exact hwl
 have hus0:=(us0_eq hP (Nat.le_refl units.length)).symm
 have hheard:=heard_ok hP
 obtain ⟨HE,hHE⟩ :∃HE,HE=heardE l spans units fi (lineTx t):= ⟨_,rfl⟩
 rw[←hHE,←hW,←hWE] at hheard
 have hHl:HE.length=WE.length:=hheard.1
 have f15:=f15_ok (G:=G) (ns:=nsN l spans units fi (lineTx t)) hG _ l.big _ hS (fun h m1 m2 m3=>by rw[←hus0];exact file_ok hP h m1 m2 m3) WE.length (by rw[←hus0,usN_len,←hHl,hHE];rfl) (by omega)
 rw[←hus0,usN_len,show allEs l.big ((List.range units.length).map (rdN l spans units fi (lineTx t))) (nsN l spans units fi (lineTx t)) units.length=HE from hHE.symm] at f15
 obtain ⟨A,hA⟩ :∃A,A=ansR HE++[noAnswer]:= ⟨_,rfl⟩
 rw[←hA] at f15
 have hAl:A.length=WE.length+1:=by rw[hA,List.length_append,ansR,List.length_map,hHl];rfl
 have hAg:A.getD WE.length []=[.val (.bool false),.val (.int .i64 0),.val (.int .i64 0),.val (.bool false),.val (.slice none 0 0),.val (.int .i64 0),.val (.int .i64 0)]:=by
  rw[hA,List.getD_eq_getElem?_getD,List.getElem?_append_right (by rw[ansR,List.length_map];omega),ansR,List.length_map,hHl,Nat.sub_self];rfl
 have hAk:A.take WE.length=HE.map answerC:=by
  rw[hA,←hHl,List.take_append_of_le_length (by rw[ansR,List.length_map];exact Nat.le_refl _),List.take_of_length_le (by rw[ansR,List.length_map];exact Nat.le_refl _)];rfl
 have hAf:∀{p:AV→Prop} [StillP p],fitR p A=True:=fun {p} _=>eq_true (by rw[hA];exact fitR_ansE HE)
 have hAt:∀{f:AV→AV} [Still f] [StillN f],turnR f A=A:=fun {f} _ _=>by
  rw[hA,turnR_app,turnR_ans]
  simp only[noAnswer,turnR,turnL,booV,intV,AV.turn,Still.i,Still.b,StillN.n]
 have b0:((0:Int) != 0)=false:=rfl
 have bn:(((WE.length+1:Nat):Int) != ((WE.length+1:Nat):Int))=false:=by simp
 have hSL:spannedL l spans units fi (lineTx t) (bf++lineText t)={ SS with line:=bf++lineText t }:=by rw[hSS];rfl
 rw[hSL] at f15
 refine hLe ⟨[(1,spansV spans),(3,intV kk),(15,.dat false 15 (rowsR R)),(21,.ref 21 o21.b 0),(22,.dat false 2 (FD.map foundC)),(23,.dat false 4 (WE.map entryC))],[(21,some (.cells o21.b 0 (sectC { SS with line:=bf++lineText t })))]⟩ (by (refine sim ?_;try exact trivial)) ?_
 have wn:IntKind.i64.wrap ((WE.length:Int)+1)=((WE.length+1:Nat):Int):=by rw[wrap_i64 (by omega) (by omega)];simp
 obtain ⟨e0,rr,he0,heo⟩ :=fd_first hP hkl'
 have eF:(FD.map foundC).getD kk []=[intV (fdN l spans units fi (lineTx t) kk).base,.dat false 4 (entryC e0 :: rr.map entryC)]:=by
  rw[row_at foundC (hfe kk (by omega))]
  simp only[foundC,entriesV,he0,List.map_cons]
 have eg:∀(x:List AV) (r:List (List AV)),(x :: r).getD 0 []=x:=fun _ _=>rfl
 have hL0:((List.range units.length).map (rdN l spans units fi (lineTx t))).length=units.length:=by simp
 have hcv:∀i x,spans[i]? =some x→∀h m1 m2 m3,CoverOK l (openZ (spannedL l spans units fi (lineTx t) (bf++lineText t)) l.big m1 m2 m3 h) ((List.range units.length).map (rdN l spans units fi (lineTx t))) (nsN l spans units fi (lineTx t)) i x (posOf l spans i):=fun i x hx h m1 m2 m3=>by
  have hi:=(List.getElem?_eq_some_iff.1 hx).1
  have e:=spanAt_get hi
  rw[hx] at e
  cases e
  exact cover_ok hAll hP hfo h m1 m2 m3 (by omega)
 have hLn:∀h m1 m2 m3,LineOK (openZ (spannedL l spans units fi (lineTx t) (bf++lineText t)) l.big m1 m2 m3 h) t bf (entAt l.big (uAt ((List.range units.length).map (rdN l spans units fi (lineTx t))) kk) (nsN l spans units fi (lineTx t) kk) 0):=fun h m1 m2 m3=>by
  rw[uAt_rd hkl']
  exact line_ok hAll hP hTab htb (pre:=bf) (by omega) (fun _=>rfl) hkl' ⟨[nameA nm],by simp[nameA],by rw[hfi,firstK_get,if_pos ⟨rfl,hkl'⟩];rfl⟩ h m1 m2 m3
 have hbf0:(t.ops.foldl (stepM t) (m0 t)).bad=false:=by rw[←hbd0];exact hbd.symm
 obtain ⟨L,hL1,hL2,hL3⟩ :=rows_same (c:=ctxOf t bf) hdn t.ops (good0 t) (fun o ho=>(hTab.op o ho).1) hbf0
 have hRL:R=L:=hR.trans hL1
 subst hRL
 have hAR:AllRd (ctxOf t bf) (m0 t) t.ops:=all_rd (c:=ctxOf t bf) rfl hTab t.ops (good0 t) (fun o h=>h) (by show t.files.length+t.ops.length≤900000;have:=hTO.ops;omega) hbf0
 have f17:=f17_ok (G:=G) hG hT _ l.big _ hS _ hus0 (fun h m1 m2 m3=>file_ok hP h m1 m2 m3) kk (by rw[hL0];exact hkl') t bf hLn (by rw[hts];exact (hcv kk _ (spanAt_get (by omega)) (.bool true) (.bool true) (.bool true) (.bool true)).size) hAR _ rfl (R.length+1) (by omega) (by omega)
 obtain ⟨RL,hRL⟩ :∃RL,RL=rowsL (ctxOf t bf) (m0 t) t.ops:= ⟨_,rfl⟩
 rw[←hRL] at f17 hL2 hL3
 obtain ⟨LR,hLR⟩ :∃LR,LR=lansR RL (R.length+1):= ⟨_,rfl⟩
 rw[←hLR,uAt_rd hkl',←heo,hSL] at f17
 have hLl:LR.length=R.length+1:=by rw[hLR,lansR,List.length_take,List.length_append,List.length_map,←hL2];simp
 have hLe0:LR.getD R.length []=lansC noRow 1:=by
  rw[hLR,lansR,List.take_of_length_le (by simp[hL2]),List.getD_eq_getElem?_getD,List.getElem?_append_right (by simp[hL2])];simp[hL2]
 have hLg:∀i rx,RL[i]? =some rx→LR.getD i []=lansC rx 0:=fun i rx h=>by
  have hi:=(List.getElem?_eq_some_iff.1 h).1
  rw[hLR,lansR,List.take_of_length_le (by simp[hL2]),List.getD_eq_getElem?_getD,List.getElem?_append_left (by simp;omega),List.getElem?_map,h];rfl
 have hLf:∀{p:AV→Prop} [StillP p],fitR p LR=True:=fun {p} _=>eq_true (by rw[hLR];exact fitR_lans _ _)
 have hLt:∀{f:AV→AV} [Still f] [StillN f],turnR f LR=LR:=fun {f} _ _=>by rw[hLR,turnR_lans]
 have wr:IntKind.i64.wrap ((R.length:Int)+1)=((R.length+1:Nat):Int):=by rw[wrap_i64 (by omega) (by omega)];simp
 (refine sim ?_;try exact trivial)
 refine hRegionD (fun jx _=>if jx=5 then mkC [] 183 1 [182] (f15) else (default,([],[]))) [0,1,2,3,4,5,6,7,8,9,10] [0,0,2,6,14,31,63,127,127,255,1023] [(0,4)] mixed (by kernel_rfl) ?_
 (refine simE @wn ?_;try exact trivial)
 (repeat' first|refine rn ?_|refine br fun hb=>?_|with_reducible refine And.intro ?_ ?_|with_reducible refine fun (_:Outc)=>?_|omega|exact trivial|fail);refine callDA ?_;rintro ret os fs ⟨h15,rfl,rfl,rfl⟩;(refine sim ?_;try exact trivial)
 (refine simE @hAt ?_;try exact trivial)
 repeat' first|exact trivial|with_reducible refine And.intro ?_ ?_|omega|with_reducible refine fun (_:Outc)=>?_|fail
 refine hLe ⟨[(1,spansV spans),(3,intV kk),(15,.dat false 15 (rowsR R)),(21,.ref 21 o21.b 0),(22,.dat false 2 (FD.map foundC)),(23,.dat false 4 (WE.map entryC)),(26,.buf 1183 h15),(27,intV 0)],[(21,some (.cells o21.b 0 (sectC { SS with line:=bf++lineText t }))),(1183,some (.arr h15 67 7 A))]⟩ (by (refine sim ?_;try exact trivial)) ?_
 (refine sim ?_;try exact trivial)
 refine hEnt (eFrz 1183 (by (refine simE @hAf ?_;try exact trivial))) ?_;(refine simE @hAt ?_;try exact trivial)
 repeat' first|refine rnE (And.intro @hAl (And.intro @wn (And.intro @hAg (And.intro @hAk (And.intro @b0 @bn))))) ?_|refine br fun hb=>?_|with_reducible refine And.intro ?_ ?_|with_reducible refine fun (_:Outc)=>?_|omega|exact trivial|fail
 refine callGP (booV true) (fun _=>f16_ok HE WE hHl (by omega) hheard.2.2) (fun hg=> ⟨rfl,by simp[cndOK]⟩) ?_;(refine sim ?_;try exact trivial)
 repeat' first|refine rnE (And.intro @eF @eg) ?_|refine br fun hb=>?_|with_reducible refine And.intro ?_ ?_|with_reducible refine fun (_:Outc)=>?_|omega|exact trivial|fail
 refine hLe ⟨[(1,spansV spans),(3,intV kk),(15,.dat false 15 (rowsR R)),(21,.ref 21 o21.b 0),(22,.dat false 2 (FD.map foundC)),(28,intV e0.offset)],[(21,some (.cells o21.b 0 (sectC { SS with line:=bf++lineText t })))]⟩ (by (refine sim ?_;try exact trivial)) ?_
 (refine sim ?_;try exact trivial)
 refine hRegionD (fun jx _=>if jx=6 then mkC [] 237 1 [236] (f17) else (default,([],[]))) [0,1,2,3,4,5,6,7,8,9,10,11,12,13] [0,0,0,4,12,28,63,127,255,255,255,511,3071,8191] [(0,5)] mixed (by kernel_rfl) ?_
 (refine simE @wr ?_;try exact trivial)
 (repeat' first|refine rn ?_|refine br fun hb=>?_|with_reducible refine And.intro ?_ ?_|with_reducible refine fun (_:Outc)=>?_|omega|exact trivial|fail);refine callDA ?_;rintro ret os fs ⟨h17,rfl,rfl,rfl⟩;(refine sim ?_;try exact trivial)
 (refine simE @hLt ?_;try exact trivial)
 repeat' first|exact trivial|with_reducible refine And.intro ?_ ?_|omega|with_reducible refine fun (_:Outc)=>?_|fail
 refine hLe ⟨[(1,spansV spans),(15,.dat false 15 (rowsR R)),(21,.ref 21 o21.b 0),(22,.dat false 2 (FD.map foundC)),(29,.buf 1237 h17),(30,booV true),(27,intV 0)],[(21,some (.cells o21.b 0 (sectC { SS with line:=bf++lineText t }))),(1237,some (.arr h17 79 17 LR))]⟩ (by (refine sim ?_;try exact trivial)) ?_
 (refine sim ?_;try exact trivial)
 refine hEnt (eFrz 1237 (by (refine simE @hLf ?_;try exact trivial))) ?_;(refine simE @hLt ?_;try exact trivial)
 have bR:(((R.length+1:Nat):Int) != ((R.length+1:Nat):Int))=false:=by simp
 have b1:((1:Int) != 1)=false:=rfl
 repeat' first|refine rnE (And.intro @hLl (And.intro @wr (And.intro @hLe0 (And.intro @b0 (And.intro @b1 @bR))))) ?_|refine br fun hb=>?_|with_reducible refine And.intro ?_ ?_|with_reducible refine fun (_:Outc)=>?_|omega|exact trivial|fail
 refine hLoop (X:={i:Nat // i≤R.length}) (fun i=> ⟨[(1,spansV spans),(15,.dat false 15 (rowsR R)),(21,.ref 21 o21.b 0),(22,.dat false 2 (FD.map foundC)),(29,.dat false 17 LR),(264,.dat false 15 (rowsR R)),(265,intV R.length),(266,intV i.1)],[(21,some (.cells o21.b 0 (sectC { SS with line:=bf++lineText t })))]⟩) (fun i=>R.length - i.1) ⟨0,by omega⟩ (by (refine sim ?_;try exact trivial);all_goals ((repeat' refine And.intro ?_ ?_)<;>first|rfl|omega|(dsimp only;omega)|(simp;done)|(simp;rfl)|skip)) ?_
 rintro ⟨i,hi⟩
 (refine sim ?_;try exact trivial)
 by_cases hlt:i < R.length
 ·obtain ⟨r,hr⟩ :=getX R hlt
  obtain ⟨x,hx⟩ :=getX RL (i:=i) (by omega)
  obtain ⟨t1,t2,t3⟩ :=hL3 i r x hr hx
  have er1:(rowsR R).getD i []=rowC r:=row_at rowC hr
  simp only[rowC,u64V,intV,booV,strV] at er1
  have er2:=hLg i x hx
  have w4:IntKind.i64.wrap ((i:Int)+1)=((i+1:Nat):Int):=by rw[wrap_i64 (by omega) (by omega)];simp
  by_cases hend:r.ends=true
  ·have hend2:x.ends=true:=by rw[←t1];exact hend
   repeat' first|refine rnE (And.intro @er1 (And.intro @er2 (And.intro @hend (And.intro @hend2 (And.intro @t2 (And.intro @w4 @b0)))))) ?_|refine br fun hb=>?_|with_reducible refine And.intro ?_ ?_|with_reducible refine fun (_:Outc)=>?_|omega|exact trivial|fail
   exact ⟨⟨i+1,hlt⟩,rfl,by dsimp only;omega⟩
  ·have hend1:r.ends=false:=by simpa using hend
   have hrx:=t3 hend1
   subst hrx
   repeat' first|refine rnE (And.intro @er1 (And.intro @er2 (And.intro @hend1 (And.intro @w4 @b0)))) ?_|refine br fun hb=>?_|with_reducible refine And.intro ?_ ?_|with_reducible refine fun (_:Outc)=>?_|omega|exact trivial|fail
   ·simp only[beq_self_eq_true,Bool.and_self]
    exact eq76 _ _ _ _ _ _ _ _ _ _ _ _ _ _ _
   exact ⟨⟨i+1,hlt⟩,rfl,by dsimp only;omega⟩
 have:i=R.length:=by omega
 subst this
 repeat' first|refine rn ?_|refine br fun hb=>?_|with_reducible refine And.intro ?_ ?_|with_reducible refine fun (_:Outc)=>?_|omega|exact trivial|fail
 clear hi hlt
 refine hLoop (X:={i:Nat // i≤spans.length}) (fun i=> ⟨[(1,spansV spans),(21,.ref 21 o21.b 0),(22,.dat false 2 (FD.map foundC)),(307,spansV spans),(308,intV spans.length),(309,intV i.1)],[(21,some (.cells o21.b 0 (sectC { SS with line:=bf++lineText t })))]⟩) (fun i=>spans.length - i.1) ⟨0,by omega⟩ (by (refine sim ?_;try exact trivial);all_goals ((repeat' refine And.intro ?_ ?_)<;>first|rfl|omega|(dsimp only;omega)|(simp;done)|(simp;rfl)|skip)) ?_
 rintro ⟨i,hi⟩
 (refine sim ?_;try exact trivial)
 by_cases hlt:i < spans.length
 ·obtain ⟨x,hx⟩ :=getX spans hlt
  have hxm:=List.mem_of_getElem? hx
  have hxin:=(hAll.span hxm).2.1
  have hpl:=places_len hxin
  have hiu:i < units.length:=by omega
  obtain ⟨ei,ri,hei,hio⟩ :=fd_first hP hiu
  have eFi:(FD.map foundC).getD i []=[intV (fdN l spans units fi (lineTx t) i).base,.dat false 4 (entryC ei :: ri.map entryC)]:=by
   rw[row_at foundC (hfe i (by omega))]
   simp only[foundC,entriesV,hei,List.map_cons]
  have es:=row_at spanC hx
  simp only[spanC,u64V,booV] at es
  have w4:IntKind.i64.wrap ((i:Int)+1)=((i+1:Nat):Int):=by rw[wrap_i64 (by omega) (by omega)];simp
  have f18:=f18_ok (G:=G) hG l _ l.big _ hS _ hus0 (fun h m1 m2 m3=>file_ok hP h m1 m2 m3) i x (posOf l spans i) (hcv i x hx) (by omega)
  rw[uAt_rd hiu,←hio,hSL] at f18
  repeat' first|refine rnE @es ?_|refine br fun hb=>?_|with_reducible refine And.intro ?_ ?_|with_reducible refine fun (_:Outc)=>?_|omega|exact trivial|fail
  rename_i o35
  refine hRegionD (fun jx _=>if jx=9 then mkC [] 324 1 [] (f18) else (default,([],[]))) [0,1,2,3,4,5,6,7,8,9,10,11,12,13,14] [0,0,0,6,14,30,62,126,254,511,1023,2047,2047,4095,16383] [] mixed (by kernel_rfl) ?_
  (refine simE (And.intro @eFi @eg) ?_;try exact trivial)
  (repeat' first|refine rn ?_|refine br fun hb=>?_|with_reducible refine And.intro ?_ ?_|with_reducible refine fun (_:Outc)=>?_|omega|exact trivial|fail);refine callDA ?_;rintro ret os fs ⟨h18,rfl,rfl,rfl⟩;(refine sim ?_;try exact trivial)
  repeat' first|exact trivial|with_reducible refine And.intro ?_ ?_|omega|with_reducible refine fun (_:Outc)=>?_|fail
  refine hLe ⟨[(1,spansV spans),(21,.ref 21 o21.b 0),(22,.dat false 2 (FD.map foundC)),(307,spansV spans),(308,intV spans.length),(309,intV i),(35,.ref 35 o35.b 0),(36,.buf 1324 h18),(37,intV 0)],[(21,some (.cells o21.b 0 (sectC { SS with line:=bf++lineText t }))),(35,some (.cells o35.b 0 (spanC x))),(1324,some (.arr h18 154 2 (placeR (places x))))]⟩ (by (refine sim ?_;try exact trivial)) ?_
  (refine sim ?_;try exact trivial)
  refine hEnt (eFrz 1324 (by (refine sim ?_;try exact trivial))) ?_;(refine sim ?_;try exact trivial)
  repeat' first|refine rnE @b0 ?_|refine br fun hb=>?_|with_reducible refine And.intro ?_ ?_|with_reducible refine fun (_:Outc)=>?_|omega|exact trivial|fail
  refine callGP (.dat false 2 (placeR (places x))) (fun _=>f20p_ok x hxin) (fun hg=> ⟨rfl,by simp[cndOK]⟩) ?_
  refine callGP (booV true) (fun _=>by have:=f19_ok (G:=G) (places x) (places x) (by omega) (by omega);rwa [beq_self_eq_true] at this) (fun hg=> ⟨rfl,by simp[cndOK]⟩) ?_;(refine sim ?_;try exact trivial)
  repeat' first|refine rnE (And.intro @w4 @b0) ?_|refine br fun hb=>?_|with_reducible refine And.intro ?_ ?_|with_reducible refine fun (_:Outc)=>?_|omega|exact trivial|fail
  exact ⟨⟨i+1,hlt⟩,rfl,by dsimp only;omega⟩
 have:i=spans.length:=by omega
 subst this
 repeat' first|refine rn ?_|refine br fun hb=>?_|with_reducible refine And.intro ?_ ?_|with_reducible refine fun (_:Outc)=>?_|omega|exact trivial|fail
end
end Go.Proofs.YtbkfdnkeelmloaaGreatDoor
