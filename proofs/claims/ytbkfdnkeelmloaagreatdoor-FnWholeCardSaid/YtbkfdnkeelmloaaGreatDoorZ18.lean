/- Part 18 of the proof: R8 R9 R10 R11. -/
import Derived.Test.YtbkfdnkeelmloaaGreatDoorZ15
import Derived.Test.YtbkfdnkeelmloaaGreatDoorZ17
set_option linter.unusedVariables false
set_option linter.unusedSimpArgs false
namespace Go.Proofs.YtbkfdnkeelmloaaGreatDoor
set_option maxHeartbeats 4000000
set_option maxRecDepth 10000
open Go.AM Go
section
variable {G:Nat→AV} {g:GData}
theorem f88_ok (l:Bytes) (hl:l.length≤1000000000):Fulfils Tryz.prog G 88 [bytesV l] [] (retB 0 5 1 (bytesR l) []):=by
 have hbig:big=140737488355328:=rfl
 refine fulfilA Tryz.f88 [.tmp 2] 0 ?_
 simp only[Tryz.f88,Option.getD_some,go_sem]
 repeat' first|refine rn ?_|with_reducible refine fun (_:Outc)=>?_|fail
 refine doneA [(4,0)] ?_;try exact trivial
 exact ⟨_,rfl,rfl,rfl⟩
def addStep (z:DataR) (p:Bytes×Bytes):DataR:=if p.1=lineStr then { z with lineStr:=p.2 } else { z with rngLists:=p.2 }
theorem f89_ok (db j:Nat) (z:DataR) (p:Bytes×Bytes) (hp:p.1=lineStr∨p.1=rngLists):Fulfils Tryz.prog G 89 [.ref 0 db 0,strV p.1,bytesV p.2] [.cells db 0 (dataC z j)] (retO (.val .nilIface) [some (.cells db 0 (dataC (addStep z p) j))]):=by
 obtain ⟨n,l⟩ :=p
 simp only at hp ⊢
 have a1:(lineStr == [46,100,101,98,117,103,95,97,100,100,114])=false:=by decide
 have a2:(rngLists == [46,100,101,98,117,103,95,97,100,100,114])=false:=by decide
 have a3:(lineStr == [46,100,101,98,117,103,95,108,105,110,101,95,115,116,114])=true:=by decide
 have a4:(rngLists == [46,100,101,98,117,103,95,108,105,110,101,95,115,116,114])=false:=by decide
 have a5:(rngLists == [46,100,101,98,117,103,95,115,116,114,95,111,102,102,115,101,116,115])=false:=by decide
 have a6:(rngLists == [46,100,101,98,117,103,95,114,110,103,108,105,115,116,115])=true:=by decide
 refine fulfilA Tryz.f89 [.tmp 6] 1 ?_
 simp only[Tryz.f89,Option.getD_some,go_sem]
 rcases hp with rfl|rfl
 ·refine rnE (And.intro @a1 @a3) ?_
  refine doneA [] ?_;try exact trivial
  exact ⟨rfl,by simp[addStep];rfl,rfl⟩
 ·refine rnE (And.intro @a2 (And.intro @a4 (And.intro @a5 @a6))) ?_
  refine doneA [] ?_;try exact trivial
  exact ⟨rfl,by simp[addStep,show¬rngLists=lineStr by decide];rfl,rfl⟩
theorem row_drop {l m:Bytes} {i:Nat} {x:UInt8} (h:l.drop i=x :: m):(bytesR l).getD i []=[.val (.int .u8 (x.toNat:Int))]:=by
 have h1:l[i]? =some x:=by
  have:=congrArg (fun t=>t[0]?) h
  simpa using this
 have:=row_app (c:=[]) h1
 rwa [List.append_nil] at this
structure InfoOK (abbs info:Bytes) (bg:Bool) (us:List UnitS):Prop where
 inf:info=infoText bg us
 ne:us≠[]
 len:info.length≤1000000000
 alen:abbs.length≤1000000000
 n:us.length≤1000
 ok:∀u∈us,UnitSOK abbs u
 apart:us.Pairwise fun a c=>a.aoff≠c.aoff
theorem cache_nil:cacheE []=[]:=rfl
attribute [go_sem] cache_nil
theorem f87_ok (hG:GOK G g) (abbs info line ranges str:Bytes) (bg:Bool) (us:List UnitS) (hI:InfoOK abbs info bg us):
  Fulfils Tryz.prog G 87 [bytesV abbs,nilS,nilS,bytesV info,bytesV line,nilS,bytesV ranges,bytesV str] []
  (fun ret os fs=>∃db h m1 m2 m3,ret=(fun _=>.tup [.ref 0 db 0,.val .nilIface])∧os=[]∧fs=[some (.cells db 0 (dataC ⟨abbs,info,line,ranges,str,[],[],bg,m1,m2,m3,h⟩ 1)),some (.arr h 216 9 ((unitsTo bg us us.length).map unitRow))]):=by
 have hbig:big=140737488355328:=rfl
 obtain ⟨hi,hne,hlen,hal,hn,hU,hao⟩ :=hI
 obtain ⟨u,hu⟩ :=getX us (i:=0) (List.length_pos_iff.2 hne)
 have hu0:=hU u (List.mem_of_getElem? hu)
 have hv:=hu0.vers
 obtain ⟨R,hR⟩ :∃R,info=lenText (unitLen bg u) u.wide bg++(fixed u.vers 2 bg++R):=by
  have:=infoText_cons (bg:=bg) hu
  rw[List.drop_zero] at this
  refine ⟨(if 5≤u.vers then 1 :: byI u.size :: encO u.aoff u.wide bg else encO u.aoff u.wide bg++[byI u.size])++(u.body++infoText bg (us.drop 1)), ?_⟩
  rw[hi,this,unitText,headB]
  simp only[List.append_assoc]
 have hul:unitLen bg u≤info.length:=by
  have:=infoText_cons (bg:=bg) hu
  rw[List.drop_zero] at this
  rw[hi,this,unitText,unitLen];simp only[List.length_append];omega
 have hlt:(lenText (unitLen bg u) u.wide bg).length=if u.wide then 12 else 4:=by unfold lenText;split<;>simp[fixed_len, *]
 have hl6:info.length=(if u.wide then 12 else 4)+(2+R.length):=by rw[hR,List.length_append,List.length_append,hlt,fixed_len]
 obtain ⟨p,q,hpq,hbo⟩ :∃p q:UInt8,fixed u.vers 2 bg=[p,q]∧(if bg then p.toNat=0∧q.toNat=u.vers else p.toNat=u.vers∧q.toNat=0):=by
  have hv':u.vers=5∨u.vers=4:=by omega
  rcases hv' with hv'|hv'<;>rw[hv']<;>cases bg<;>exact ⟨_,_,rfl,by decide⟩
 rw[hpq] at hR
 refine fulfilA Tryz.f87 [.tmp 16,.tmp 17] 0 ?_
 simp only[Tryz.f87,Option.getD_some,go_sem]
 have w45:IntKind.i64.wrap ((4:Int)+1)=5:=rfl
 have w123:IntKind.i64.wrap ((12:Int)+1)=13:=rfl
 cases hw:u.wide
 ·rw[hw] at hR hl6
  obtain ⟨x0,x1,x2,x3,hx⟩ :=len4 (fixed_len (unitLen bg u) 4 bg)
  have hnum:=numOf_fixed (unitLen bg u) 4 bg
  rw[Nat.mod_eq_of_lt (by omega),hx] at hnum
  have e0:info=x0 :: x1 :: x2 :: x3 :: p :: q :: R:=by rw[hR,lenText,hx];rfl
  have r0:=row_drop (l:=info) (i:=0) (x:=x0) (by rw[e0];rfl)
  have r1:=row_drop (l:=info) (i:=1) (x:=x1) (by rw[e0];rfl)
  have r2:=row_drop (l:=info) (i:=2) (x:=x2) (by rw[e0];rfl)
  have r3:=row_drop (l:=info) (i:=3) (x:=x3) (by rw[e0];rfl)
  have r4:=row_drop (l:=info) (i:=4) (x:=p) (by rw[e0];rfl)
  have r5:=row_drop (l:=info) (i:=5) (x:=q) (by rw[e0];rfl)
  have hnot:¬(x0.toNat=255∧x1.toNat=255∧x2.toNat=255∧x3.toNat=255):=by
   rintro ⟨h0,h1,h2,h3⟩
   unfold numOf at hnum
   cases bg<;>simp[leN,h0,h1,h2,h3] at hnum<;>omega
  simp only[Bool.false_eq_true,if_false] at hl6
  repeat' first|refine rnE (And.intro @r0 (And.intro @r1 (And.intro @r2 @r3))) ?_|refine br fun hb=>?_|with_reducible refine And.intro ?_ ?_|with_reducible refine fun (_:Outc)=>?_|omega
  all_goals try (intro hg;exact ⟨hg,by omega,by omega⟩)
  rename_i o1 o2 o3 o4
  refine hEnt (eKey 33 902 sT (by decide)) ?_;refine sim ?_
  refine hEnt (eKey 34 903 sT (by decide)) ?_;refine sim ?_
  cases bg
  ·simp only[Bool.false_eq_true,if_false,if_true] at hbo
   have z1:((p.toNat:Int) == 0)=false:=by rw[beq_eq_false_iff_ne];omega
   have z2:((q.toNat:Int) == 0)=true:=by rw[hbo.2];rfl
   refine hRegionD (noChi) [0,1,2,3,4,5,6,7,8,9,10,11,12,13,14,15,16] [0,1,3,7,0,31,63,0,128,384,896,0,2048,8064,16256,127,65535] [] mixed (by kernel_rfl) ?_
   refine simE (And.intro @r4 (And.intro @r5 @w45)) ?_
   refine rnE (And.intro @z1 (And.intro @z2 (And.intro @r4 (And.intro @r5 @w45)))) ?_
   refine callA [36,32] 1 (f115_ok hG o4.b ⟨abbs,info,line,ranges,str,o1.b,o2.b,o3.b,false⟩ us hi hlen hal hn hU hao) ?_;rintro ret os fs ⟨h,rfl,rfl,rfl⟩;refine sim ?_
   refine rn ?_
   refine doneO [(36,0),(1147,1)] ?_ (by simp) (by simp) sT
   refine sim ?_
   exact ⟨_,_,_,_,_,rfl,rfl⟩
  ·simp only[Bool.false_eq_true,if_false,if_true] at hbo
   have z1:((p.toNat:Int) == 0)=true:=by rw[hbo.1];rfl
   have z2:((q.toNat:Int) == 0)=false:=by rw[beq_eq_false_iff_ne];omega
   refine hRegionD (noChi) [0,1,2,3,4,5,6,7,8,9,10,11,12,13,14,15,16] [0,1,3,7,0,31,63,0,128,384,896,0,2048,8064,16256,127,65535] [] mixed (by kernel_rfl) ?_
   refine simE (And.intro @r4 (And.intro @r5 @w45)) ?_
   refine rnE (And.intro @z1 (And.intro @z2 (And.intro @r4 (And.intro @r5 @w45)))) ?_
   refine callA [36,32] 1 (f115_ok hG o4.b ⟨abbs,info,line,ranges,str,o1.b,o2.b,o3.b,true⟩ us hi hlen hal hn hU hao) ?_;rintro ret os fs ⟨h,rfl,rfl,rfl⟩;refine sim ?_
   refine rn ?_
   refine doneO [(36,0),(1147,1)] ?_ (by simp) (by simp) sT
   refine sim ?_
   exact ⟨_,_,_,_,_,rfl,rfl⟩
 ·rw[hw] at hR hl6
  simp only[if_true] at hl6
  have e0:info=255 :: 255 :: 255 :: 255 :: (fixed (unitLen bg u) 8 bg++(p :: q :: R)):=by rw[hR,lenText];rfl
  have r0:=row_drop (l:=info) (i:=0) (x:=255) (by rw[e0];rfl)
  have r1:=row_drop (l:=info) (i:=1) (x:=255) (by rw[e0];rfl)
  have r2:=row_drop (l:=info) (i:=2) (x:=255) (by rw[e0];rfl)
  have r3:=row_drop (l:=info) (i:=3) (x:=255) (by rw[e0];rfl)
  have d12:info.drop 12=p :: q :: R:=by rw[e0];exact List.drop_left' (fixed_len _ _ _)
  have r4:=row_drop d12
  have r5:=row_drop (l:=info) (i:=13) (m:=R) (x:=q) (by rw[show 13=12+1 from rfl,←List.drop_drop,d12];rfl)
  have w45:=w123
  repeat' first|refine rnE (And.intro @r0 (And.intro @r1 (And.intro @r2 @r3))) ?_|refine br fun hb=>?_|with_reducible refine And.intro ?_ ?_|with_reducible refine fun (_:Outc)=>?_|omega
  all_goals try (intro hg;exact ⟨hg,by omega,by omega⟩)
  rename_i o1 o2 o3 o4
  refine hEnt (eKey 33 902 sT (by decide)) ?_;refine sim ?_
  refine hEnt (eKey 34 903 sT (by decide)) ?_;refine sim ?_
  cases bg
  ·simp only[Bool.false_eq_true,if_false,if_true] at hbo
   have z1:((p.toNat:Int) == 0)=false:=by rw[beq_eq_false_iff_ne];omega
   have z2:((q.toNat:Int) == 0)=true:=by rw[hbo.2];rfl
   refine hRegionD (noChi) [0,1,2,3,4,5,6,7,8,9,10,11,12,13,14,15,16] [0,1,3,7,0,31,63,0,128,384,896,0,2048,8064,16256,127,65535] [] mixed (by kernel_rfl) ?_
   refine simE (And.intro @r4 (And.intro @r5 @w45)) ?_
   refine rnE (And.intro @z1 (And.intro @z2 (And.intro @r4 (And.intro @r5 @w45)))) ?_
   refine callA [36,32] 1 (f115_ok hG o4.b ⟨abbs,info,line,ranges,str,o1.b,o2.b,o3.b,false⟩ us hi hlen hal hn hU hao) ?_;rintro ret os fs ⟨h,rfl,rfl,rfl⟩;refine sim ?_
   refine rn ?_
   refine doneO [(36,0),(1147,1)] ?_ (by simp) (by simp) sT
   refine sim ?_
   exact ⟨_,_,_,_,_,rfl,rfl⟩
  ·simp only[Bool.false_eq_true,if_false,if_true] at hbo
   have z1:((p.toNat:Int) == 0)=true:=by rw[hbo.1];rfl
   have z2:((q.toNat:Int) == 0)=false:=by rw[beq_eq_false_iff_ne];omega
   refine hRegionD (noChi) [0,1,2,3,4,5,6,7,8,9,10,11,12,13,14,15,16] [0,1,3,7,0,31,63,0,128,384,896,0,2048,8064,16256,127,65535] [] mixed (by kernel_rfl) ?_
   refine simE (And.intro @r4 (And.intro @r5 @w45)) ?_
   refine rnE (And.intro @z1 (And.intro @z2 (And.intro @r4 (And.intro @r5 @w45)))) ?_
   refine callA [36,32] 1 (f115_ok hG o4.b ⟨abbs,info,line,ranges,str,o1.b,o2.b,o3.b,true⟩ us hi hlen hal hn hU hao) ?_;rintro ret os fs ⟨h,rfl,rfl,rfl⟩;refine sim ?_
   refine rn ?_
   refine doneO [(36,0),(1147,1)] ?_ (by simp) (by simp) sT
   refine sim ?_
   exact ⟨_,_,_,_,_,rfl,rfl⟩
end
set_option maxHeartbeats 4000000
set_option maxRecDepth 10000
open Go.AM Go
section
variable {G:Nat→AV} {g:GData}
def openZ0 (s:SectionsD) (bg:Bool) (m1 m2 m3 h:Value):DataR:= ⟨s.abbs,s.info,s.line,s.ranges,s.str,[],[],bg,m1,m2,m3,h⟩
def openZ (s:SectionsD) (bg:Bool) (m1 m2 m3 h:Value):DataR:=s.added.foldl addStep (openZ0 s bg m1 m2 m3 h)
structure SectOK (s:SectionsD) (bg:Bool) (us:List UnitS):Prop where
 inf:InfoOK s.abbs s.info bg us
 line:s.line.length≤1000000000
 ranges:s.ranges.length≤1000000000
 str:s.str.length≤1000000000
 added:∀p∈s.added,(p.1=lineStr∨p.1=rngLists)∧p.2.length≤1000000000
 addn:s.added.length≤10
 types:s.types=[]
def addC (p:Bytes×Bytes):List AV:=[strV p.1,bytesV p.2]
theorem turnR_add {f:AV→AV} [Still f] (l:List (Bytes×Bytes)):turnR f (l.map addC)=l.map addC:=turnR_map (g:=addC) (fun b=>by simp only[addC,turnL,strV,bytesV_eq,AV.turn,Still.s,turnR_by]) l
theorem fitR_add {p:AV→Prop} [StillP p] (l:List (Bytes×Bytes)):fitR p (l.map addC)=True:=eq_true (fitR_map (g:=addC) (fun b=> ⟨fit_v,fitR_by _,trivial⟩) l)
theorem addedV_eq (l:List (Bytes×Bytes)):addedV l= .dat false 2 (l.map addC):=rfl
attribute [-go_sem] addedV
attribute [go_sem] turnR_add fitR_add addedV_eq
theorem f47_ok (hG:GOK G g) (s:SectionsD) (bg:Bool) (us:List UnitS) (hS:SectOK s bg us):
  Fulfils Tryz.prog G 47 [.agg (sectC s)] []
  (fun ret os fs=>∃h m1 m2 m3,ret=(fun _=>.tup [dP (openZ s bg m1 m2 m3 h) 0,.val .nilIface])∧os=[]∧fs=[some (.arr h 216 9 ((unitsTo bg us us.length).map unitRow))]):=by
 have hbig:big=140737488355328:=rfl
 obtain ⟨hI,hl1,hl2,hl3,hadd,hn,hty⟩ :=hS
 have hi1:=hI.len
 have hi2:=hI.alen
 refine fulfilA Tryz.f47 [.tmp 2,.tmp 3] 0 ?_
 simp only[Tryz.f47,Option.getD_some,go_sem]
 (repeat' first|refine s1 ?_|refine hRegion (sim ?_)|with_reducible refine fun (_:Outc)=>?_|fail)
 rename_i o1
 refine hRegionD (fun jx _=>if jx=2 then mkC [] 13 1 [] (f88_ok s.abbs hi2) else if jx=5 then mkC [] 16 1 [] (f88_ok s.info hi1) else if jx=8 then mkC [] 19 1 [] (f88_ok s.line hl1) else if jx=11 then mkC [] 22 1 [] (f88_ok s.ranges hl2) else if jx=14 then mkC [] 25 1 [] (f88_ok s.str hl3) else if jx=15 then mkC [] 26 2 [1013,1016,1019,1022,1025] (f87_ok hG s.abbs s.info s.line s.ranges s.str bg us hI) else (default,([],[]))) [0,1,3,4,6,7,9,10,12,13,2,5,8,11,14,15,16,17,18,19,20] [0,1,3,0,8,31,0,64,255,0,512,2047,0,4096,16383,32767,65535,131071,131071,262143,1048575] [(4,2),(7,2),(7,5),(10,2),(10,5),(10,8),(13,2),(13,5),(13,8),(13,11)] mixed (by kernel_rfl) ?_
 refine sim ?_
 (skip);refine callDA ?_;rintro ret os fs ⟨h1,rfl,rfl,rfl⟩;refine sim ?_
 (skip);refine callDA ?_;rintro ret os fs ⟨h2,rfl,rfl,rfl⟩;refine sim ?_
 (skip);refine callDA ?_;rintro ret os fs ⟨h3,rfl,rfl,rfl⟩;refine sim ?_
 (skip);refine callDA ?_;rintro ret os fs ⟨h4,rfl,rfl,rfl⟩;refine sim ?_
 (skip);refine callDA ?_;rintro ret os fs ⟨h5,rfl,rfl,rfl⟩;refine sim ?_
 (skip);refine callDA ?_;rintro ret os fs ⟨db,hU,m1,m2,m3,rfl,rfl,rfl⟩;refine sim ?_
 refine rn ?_
 refine hLoop (X:={i:Nat // i≤s.added.length}) (fun i=> ⟨[(1,.ref 1 o1.b 0),(4,.ref 1026 db 0),(33,addedV s.added),(34,intV s.added.length),(35,intV i.1)],
  [(1,some (.cells o1.b 0 (sectC s))),(1026,some (.cells db 0 (dataC ((s.added.take i.1).foldl addStep (openZ0 s bg m1 m2 m3 hU)) 2026))),(2026,some (.arr hU 216 9 ((unitsTo bg us us.length).map unitRow)))]⟩) (fun i=>s.added.length - i.1) ⟨0,Nat.zero_le _⟩ (by simp only[List.take_zero,List.foldl_nil,openZ0];refine sim ?_;((repeat' refine And.intro ?_ ?_)<;>rfl)) ?_
 rintro ⟨i,hi⟩
 refine sim ?_
 by_cases hlt:i < s.added.length
 ·obtain ⟨p,hp⟩ :=getX s.added hlt
  have e:=row_at addC hp
  have hpp:=hadd p (List.mem_of_getElem? hp)
  have w4:IntKind.i64.wrap ((i:Int)+1)=((i+1:Nat):Int):=by rw[wrap_i64 (by omega) (by omega)];simp
  have hf:(s.added.take (i+1)).foldl addStep (openZ0 s bg m1 m2 m3 hU)=addStep ((s.added.take i).foldl addStep (openZ0 s bg m1 m2 m3 hU)) p:=by rw[take_succ hp,List.foldl_append];rfl
  generalize (s.added.take i).foldl addStep (openZ0 s bg m1 m2 m3 hU)=z at *
  have ea:addC p=[.val (.string ⟨p.1.toArray⟩),.dat false 1 (bytesR p.2)]:=rfl
  rw[ea] at e
  repeat' first|refine rnE @e ?_|with_reducible refine fun (_:Outc)=>?_|fail
  refine hRegionD (fun jx _=>if jx=5 then mkC [] 44 1 [] (f88_ok p.2 hpp.2) else if jx=6 then mkC [1026] 45 0 [1044] (f89_ok db 2026 z p hpp.1) else (default,([],[]))) [0,1,2,3,4,5,6,7] [0,0,2,0,8,24,63,127] [(2,5)] mixed (by kernel_rfl) ?_
  refine sim ?_
  (skip);refine callDA ?_;rintro ret os fs ⟨h6,rfl,rfl,rfl⟩;refine sim ?_
  (skip);refine callDA ?_;rintro ret os fs ⟨rfl,rfl,rfl⟩;refine sim ?_
  refine rnE @w4 ?_
  refine ⟨⟨i+1,hlt⟩, ?_⟩
  dsimp only
  rw[hf]
  ((repeat' refine And.intro ?_ ?_)<;>first|rfl|omega)
 ·have:i=s.added.length:=by omega
  subst this
  rw[List.take_of_length_le (Nat.le_refl _)]
  rw[hty]
  refine hEnt (eFrz 1026 sT) ?_;refine sim ?_
  refine rn ?_
  refine doneA [(2026,0)] ?_;try exact trivial
  exact ⟨_,_,_,_,rfl,rfl⟩
end
set_option maxHeartbeats 4000000
set_option maxRecDepth 10000
open Go.AM Go
inductive DV where
 |num (n:Int)
 |int (n:Int)
 |flag (b:Bool)
 |text (s:Bytes)
 |bytes (b:Bytes)
 |off (n:Nat)
def dvV:DV→AV
 | .num n=>.ifc 46 (.val (.int .u64 n))
 | .int n=>.ifc 2 (.val (.int .i64 n))
 | .flag b=>.ifc 4 (.val (.bool b))
 | .text s=>.ifc 9 (.val (.string ⟨s.toArray⟩))
 | .bytes b=>.ifc 32 (bytesV b)
 | .off n=>.ifc 145 (.val (.int .u32 n))
structure DField where
 attr:Int
 val:DV
 cls:Int
structure DEntry where
 off:Nat
 tag:Int
 ch:Bool
 fields:List DField
def dfRow (f:DField):List AV:=[u32I f.attr,dvV f.val,intV f.cls]
def deC (e:DEntry):List AV:=[u32V e.off,u32I e.tag,booV e.ch,.dat false 3 (e.fields.map dfRow)]
def deP (e:DEntry):AV:=.pt (deC e)
section
variable {f:AV→AV} {p:AV→Prop}
theorem turn_dv [Still f] (v:DV):(dvV v).turn f=dvV v:=by cases v<;>simp only[dvV,AV.turn,Still.i,Still.b,Still.s,bytesV_eq,turnR_by]
theorem fit_dv [StillP p] (v:DV):(dvV v).fit p:=by
 cases v
 case bytes=>exact fitR_by _
 all_goals exact (fit_v:AV.fit p (.val _))
theorem turnL_df [Still f] (a:DField):turnL f (dfRow a)=dfRow a:=by simp only[dfRow,turnL,u32I,intV,AV.turn,Still.i,turn_dv]
theorem fitL_df [StillP p] (a:DField):fitL p (dfRow a):= ⟨fit_v,fit_dv _,fit_v,trivial⟩
theorem turnR_df [Still f] (l:List DField):turnR f (l.map dfRow)=l.map dfRow:=turnR_map turnL_df l
theorem fitR_df [StillP p] (l:List DField):fitR p (l.map dfRow)=True:=eq_true (fitR_map fitL_df l)
end
attribute [go_sem] dfRow deC deP turn_dv turnR_df fitR_df
section
variable {G:Nat→AV} {g:GData}
def fldAt (l:List DField) (a:Int):Option DField:=l.find? fun f=>f.attr == a
def fldP:Option DField→AV
 |some f=>.pt (dfRow f)
 |none=>.val (.pointer none)
def valP:Option DField→AV
 |some f=>dvV f.val
 |none=>.val .nilIface
theorem fldAt_take {l:List DField} {a:Int} {i:Nat} {f:DField} (h:l[i]? =some f) (hn:∀k,k < i→∀x,l[k]? =some x→x.attr≠a) (hf:f.attr=a):fldAt l a=some f:=by
 have hi:=List.getElem?_eq_some_iff.1 h
 rw[fldAt,List.find?_eq_some_iff_append]
 refine ⟨by simp[hf],l.take i,l.drop (i+1), ?_, ?_⟩
 ·rw[←hi.2,←List.drop_eq_getElem_cons hi.1,List.take_append_drop]
 ·intro x hx
  obtain ⟨k,hk⟩ :=List.getElem?_of_mem hx
  rw[List.getElem?_take] at hk
  split at hk
  ·have:=hn k (by assumption) x hk
   simp[this]
  ·cases hk
theorem fldAt_none {l:List DField} {a:Int} (hn:∀k,k < l.length→∀x,l[k]? =some x→x.attr≠a):fldAt l a=none:=by
 rw[fldAt,List.find?_eq_none]
 intro x hx
 obtain ⟨k,hk⟩ :=List.getElem?_of_mem hx
 have:=hn k (List.getElem?_eq_some_iff.1 hk).1 x hk
 simp[this]
theorem f103_ok (e:DEntry) (a:Int) (hl:e.fields.length≤1000):Fulfils Tryz.prog G 103 [deP e,u32I a] [] (retP (fldP (fldAt e.fields a))):=by
 have hbig:big=140737488355328:=rfl
 refine fulfilP (fn:=Tryz.f103) (rs:=[.tmp 4]) (Tryz.f103.body.getD .skip) (by kernel_rfl) rfl rfl rfl (by simp only[List.length_cons,List.length_nil];decide) rfl (by decide) ?_
 simp only[Tryz.f103,Option.getD_some,go_sem]
 refine rn ?_
 refine hLoop (X:={i:Nat // i≤e.fields.length∧∀k,k < i→∀x,e.fields[k]? =some x→x.attr≠a}) (fun i=> ⟨[(0,deP e),(1,u32I a),(10,.dat false 3 (e.fields.map dfRow)),(11,intV e.fields.length),(12,intV i.1)],[]⟩) (fun i=>e.fields.length - i.1) ⟨0,by simp,by simp⟩ (by refine sim ?_;((repeat' refine And.intro ?_ ?_)<;>rfl)) ?_
 rintro ⟨i,hi,hall⟩
 refine sim ?_
 by_cases hlt:i < e.fields.length
 ·obtain ⟨f,hf⟩ :=getX e.fields hlt
  have er:=row_at dfRow hf
  have w4:IntKind.i64.wrap ((i:Int)+1)=((i+1:Nat):Int):=by rw[wrap_i64 (by omega) (by omega)];simp
  obtain ⟨cv,hcv⟩ :∃cv,cv=dvV f.val:= ⟨_,rfl⟩
  have er2:(e.fields.map dfRow).getD i []=[.val (.int .u32 f.attr),cv,.val (.int .i64 f.cls)]:=by rw[er,hcv];rfl
  repeat' first|refine rnE (And.intro @er2 @w4) ?_|refine br fun hb=>?_|with_reducible refine And.intro ?_ ?_|with_reducible refine fun (_:Outc)=>?_|fail
  ·rw[fldAt_take hf hall (by omega)]
   rw[hcv]
   rfl
  ·refine ⟨⟨i+1,by omega,fun k hk x hx=>?_⟩, ?_⟩
   ·by_cases hki:k < i
    ·exact hall k hki x hx
    ·have:k=i:=by omega
     subst this
     rw[hf] at hx
     cases hx
     omega
   ·((repeat' refine And.intro ?_ ?_)<;>first|rfl|(dsimp only;omega))
 ·have:i=e.fields.length:=by omega
  subst this
  refine rn ?_
  rw[fldAt_none hall];rfl
theorem f100_ok (e:DEntry) (a:Int) (hl:e.fields.length≤1000):Fulfils Tryz.prog G 100 [deP e,u32I a] [] (retP (valP (fldAt e.fields a))):=by
 have h1:=f103_ok (G:=G) e a hl
 refine fulfilP (fn:=Tryz.f100) (rs:=[.tmp 4]) (Tryz.f100.body.getD .skip) (by kernel_rfl) rfl rfl rfl (by simp only[List.length_cons,List.length_nil];decide) rfl (by decide) ?_
 simp only[Tryz.f100,Option.getD_some,go_sem]
 refine rn ?_
 cases hf:fldAt e.fields a with
 |none=>
  rw[hf] at h1
  refine callP h1 rfl ?_;refine sim ?_
  simp only[fldP]
  refine rn ?_
  rfl
 |some f=>
  rw[hf] at h1
  refine callP h1 rfl ?_;refine sim ?_
  simp only[fldP]
  refine rn ?_
  rfl
end
set_option maxHeartbeats 8000000
set_option maxRecDepth 10000
open Go.AM Go
def dvOf (base:Nat) (a:AttrD):DV:=
 if a.form=1∨a.form=32 then .num a.n else if a.form=10∨a.form=3∨a.form=4∨a.form=9∨a.form=24 then .bytes a.b
 else if a.form=12 then .flag (a.n == 1) else if a.form=25 then .flag true
 else if a.form=16 then .off a.n.toNat else if a.form=17∨a.form=18∨a.form=19∨a.form=20∨a.form=21 then .off (a.n.toNat+base)
 else if a.form=8∨a.form=14∨a.form=31 then .text a.s else .int (IntKind.i64.wrap a.n)
def dfOf (base:Nat) (a:AttrD):DField:= ⟨a.attr,dvOf base a,fcls a.form a.attr⟩
def afA (a:AttrD):AfD:= ⟨a.attr,formOf a,fcls (formOf a) a.attr,if formOf a=33 then IntKind.i64.wrap a.n else 0⟩
def dfA (base:Nat) (p:AttrD×TextsD):List AV:=dfRow (dfOf base p.1)
def afR (p:AttrD×TextsD):List AV:=afC (afA p.1)
def indT (a:AttrD):Bytes:=if a.indirect then encU a.form.toNat 0 else []
def atText (ud:UnitD) (bg:Bool) (p:AttrD×TextsD):Bytes:=indT p.1++attrText ud p.1 bg p.2
def atsText (ud:UnitD) (bg:Bool) (l:List (AttrD×TextsD)):Bytes:=l.flatMap (atText ud bg)
structure AttrRd (ud:UnitD) (z:DataR) (a:AttrD) (t:TextsD):Prop where
 frm:FormOK a.form a.attr
 dir:a.form≠22
 ind:a.indirect=true→a.form≠33
 n:0≤a.n∧a.n < 18446744073709551616
 size:0 < sizeOf' ud a.form→a.n.toNat < 256 ^ (sizeOf' ud a.form).toNat
 ref:a.form=16∨a.form=17∨a.form=18∨a.form=19∨a.form=20∨a.form=21∨a.form=23→a.n < 2147483648
 text:a.form=8∨a.form=14∨a.form=31→isText a.s=true
 str:a.form=14→∃pre r,z.str=pre++(a.s++0 :: r)∧pre.length=t.str.length∧z.str.length≤1000000000
 lin:a.form=31→∃pre r,z.lineStr=pre++(a.s++0 :: r)∧pre.length=t.line.length∧z.lineStr.length≤1000000000
 b1:a.form=10→a.b.length < 256
 b2:a.form=3→a.b.length < 65536
 b:a.b.length≤1000000
theorem cast0:((0:Nat):Int)=0:=rfl
attribute [go_sem] cast0
theorem fixed1 (n:Nat) (bg:Bool):fixed n 1 bg=[UInt8.ofNat n]:=by cases bg<;>rfl
theorem wrap_range (n:Int): -9223372036854775808≤IntKind.i64.wrap n∧IntKind.i64.wrap n≤9223372036854775807:=by
 simp only[IntKind.wrap,IntKind.bits,IntKind.signed];simp;omega
theorem form_pos {f a:Int} (h:FormOK f a):0 < f∧f < 64:=by
 have:=h.frm
 unfold isBlock isData at this
 omega
def zDf:List AV:=[u32V 0,.val .nilIface,intV 0]
def rowsG {α:Type} (f:α→List AV) (z:List AV) (l:List α) (j:Nat):List (List AV):=(l.take j).map f++List.replicate (l.length - j) z
theorem rowsG_W {α:Type} {f:α→List AV} {z:List AV} {l:List α} {j:Nat} {x:α} (h:l[j]? =some x):∃W:List AV→List (List AV),rowsG f z l j=W z∧rowsG f z l (j+1)=W (f x)∧(∀r,(W r).getD j []=r)∧(∀r r',(W r).set j r'=W r')∧∀r,(W r).length=l.length:=by
 have hj:=(List.getElem?_eq_some_iff.1 h).1
 have hl:((l.take j).map f).length=j:=by simp;omega
 refine ⟨fun r=>(l.take j).map f++r :: List.replicate (l.length - j - 1) z, ?_, ?_,fun r=>?_,fun r r'=>?_,fun r=>?_⟩
 ·rw[rowsG,show l.length - j=(l.length - j - 1)+1 by omega,List.replicate_succ];rfl
 ·rw[rowsG,take_succ h,List.map_append,List.append_assoc];rfl
 ·exact getD_mid hl
 ·rw[List.set_append_right _ _ (by omega),hl,Nat.sub_self];rfl
 ·simp;omega
theorem rowsG_0 {α:Type} (f:α→List AV) (z:List AV) (l:List α):rowsG f z l 0=List.replicate l.length z:=by simp[rowsG]
theorem rowsG_n {α:Type} (f:α→List AV) (z:List AV) (l:List α):rowsG f z l l.length=l.map f:=by simp[rowsG]
structure Post0 (post:List AV):Prop where
 turn:∀k ob,2≤k→turnL (frz1 k ob) post=post
 fit:∀k ob,2≤k→fitL (frz1P k ob) post=True
theorem atsText_cons {ud:UnitD} {bg:Bool} {l:List (AttrD×TextsD)} {j:Nat} {p:AttrD×TextsD} (h:l[j]? =some p) (rest:Bytes):atsText ud bg (l.drop j)++rest=indT p.1++(attrText ud p.1 bg p.2++(atsText ud bg (l.drop (j+1))++rest)):=by
 obtain ⟨hi,rfl⟩ :=List.getElem?_eq_some_iff.1 h
 rw[atsText,List.drop_eq_getElem_cons hi,List.flatMap_cons,List.append_assoc]
 simp only[atText,List.append_assoc];rfl
section
variable {G:Nat→AV} {g:GData} {b:Nat} {nm:Bytes} {post:List AV}
theorem f99_ok (hG:GOK G g) (hpost:Post0 post) (z:DataR) (h:Value) (us:List UnitR) (i:Nat) (u:UnitR) (hu:us[i]? =some u) (cu:AV) (ud:UnitD) (hud:ud.version=u.vers∧ud.size=u.size∧ud.wide=u.wide) (hv:4≤u.vers∧u.vers≤5) (hzs:u.size=4∨u.size=8) (hbase:u.base < 2147483648)
  (ab:AbbE) (id:Nat) (hid:0 < id∧id < 4294967296) (hab:findE (tabE u.tab) (id:Int)=some (abbV ab)) (ats:List (AttrD×TextsD)) (hfs:ab.fields=ats.map fun p=>afA p.1) (hat:∀p∈ats,AttrRd ud z p.1 p.2) (hn:ats.length≤200)
  (off:Nat) (rest:Bytes) (hlen:off+((encU id 0).length+(atsText ud z.big ats++rest).length)≤2000000000):
  Fulfils Tryz.prog G 99 [.ref 0 b 0,cu,.aref 1 h 9 i 0] [bufO b (dP z 1) z.big (fmU 1 h i) nm off (encU id 0++(atsText ud z.big ats++rest)) post,.arr h 216 9 (us.map unitRow)]
  (retO (deP ⟨off,ab.tag,ab.ch,ats.map fun p=>dfOf u.base p.1⟩) [some (bufO b (dP z 1) z.big (fmU 1 h i) nm (off+((encU id 0).length+(atsText ud z.big ats).length)) rest post),some (.arr h 216 9 (us.map unitRow))]):=by
 have hbig:big=140737488355328:=rfl
 have er:=row_at unitRow hu
 have hi:=(List.getElem?_eq_some_iff.1 hu).1
 have wid:=wrap_u32 id hid.2
 have zid:((id:Int) == 0)=false:=by rw[beq_eq_false_iff_ne];omega
 have hab2:findE (tabE u.tab) (id:Int)=some (.agg [.val (.int .u32 ab.tag),.val (.bool ab.ch),.dat false 4 (ab.fields.map afC)]):=hab
 have hfl:ab.fields.length=ats.length:=by rw[hfs];simp
 have hfr:ab.fields.map afC=ats.map afR:=by rw[hfs,List.map_map];rfl
 refine fulfilA Tryz.f99 [.tmp 6] 2 ?_
 simp only[Tryz.f99,Option.getD_some,go_sem]
 repeat' first|refine rn ?_|with_reducible refine fun (_:Outc)=>?_|fail
 refine hRegionD (noChi) [0,1,2,3,4,5,6,7,8,9,10,11,12,13,14] [0,1,3,7,0,16,48,112,0,256,768,1792,15,4351,16383] [] mixed (by kernel_rfl) ?_
 refine simE @er ?_
 refine rnE @er ?_
 refine callU [0] 0 (f121_ok (dw:=dP z 1) (bg:=z.big) (fm:=fmU 1 h i) (nm:=nm) (post:=post) off id 0 (atsText ud z.big ats++rest) (by omega) (by omega) (by omega) (by omega)) ?_;rintro ret os fs ⟨rfl,rfl,rfl⟩;refine sim ?_
 repeat' first|refine rnE (And.intro @wid (And.intro @zid @hab2)) ?_|with_reducible refine fun (_:Outc)=>?_|fail
 refine hRegionD (noChi) [0,1,2,3,4,5,6,7,8,9,10,11] [0,0,2,0,8,0,32,96,224,511,1023,2047] [(2,8),(4,8)] mixed (by kernel_rfl) ?_
 refine simE @hfl ?_
 repeat' first|refine rnE (And.intro @hfl @hfr) ?_|with_reducible refine fun (_:Outc)=>?_|fail
 rename_i q3 q12 q81 q83
 refine hLoop (X:={p:Nat×Nat // p.1≤ats.length∧p.2+(atsText ud z.big (ats.drop p.1)++rest).length=off+((encU id 0).length+(atsText ud z.big ats++rest).length)}) (fun p=> ⟨[(2,.aref 1 h 9 i 0),(3,.ref 3 q3.b 0),(8,u32V u.base),(9,intV u.vers),(12,.ref 12 q12.b 0),(14,.ref 83 q83.b 0),(90,intV ats.length),(91,intV p.1.1)],
  [(0,some (bufO b (dP z 1) z.big (fmU 1 h i) nm p.1.2 (atsText ud z.big (ats.drop p.1.1)++rest) post)),(1,some (.arr h 216 9 (us.map unitRow))),(3,some (.cells q3.b 0 [.ref 0 b 0])),(12,some (.cells q12.b 0 [.val (.int .u32 ab.tag),.val (.bool ab.ch),.dat false 4 (ats.map afR)])),
   (83,some (.cells q83.b 0 [.val (.int .u32 off),.val (.int .u32 ab.tag),.val (.bool ab.ch),.buf 81 q81.h])),(81,some (.arr q81.h 242 3 (rowsG (dfA u.base) zDf ats p.1.1)))]⟩) (fun p=>ats.length - p.1.1)
  ⟨(0,off+(encU id 0).length),Nat.zero_le _,by simp only[List.drop_zero];omega⟩ (by simp only[List.drop_zero,rowsG_0];refine sim ?_;((repeat' refine And.intro ?_ ?_)<;>rfl)) ?_
 rintro ⟨⟨j,o⟩,hj,ho⟩
 simp only at hj ho
 refine sim ?_
 by_cases hlt:j < ats.length
 ·obtain ⟨⟨a,t⟩,hax⟩ :=getX ats hlt
  have hA:=hat _ (List.mem_of_getElem? hax)
  simp only at hA
  have er2:=row_at afR hax
  obtain ⟨W,hW0,hW1,hg,hs,hwl⟩ :=rowsG_W (f:=dfA u.base) (z:=zDf) hax
  obtain ⟨R,hR⟩ :∃R,R=atsText ud z.big (ats.drop (j+1))++rest:= ⟨_,rfl⟩
  obtain ⟨N,hN⟩ :∃N:Nat,a.n=N:= ⟨a.n.toNat,by have:=hA.n;omega⟩
  rw[atsText_cons hax,←hR] at ho ⊢
  rw[hW0]
  have hz:zDf=[.val (.int .u32 0),.val .nilIface,.val (.int .i64 0)]:=rfl
  rw[hz] at hW1 ⊢
  simp only[List.length_append] at ho hlen
  have w4:IntKind.i64.wrap ((j:Int)+1)=((j+1:Nat):Int):=by rw[wrap_i64 (by omega) (by omega)];simp
  have er3:(ats.map afR).getD j []=[.val (.int .u32 a.attr),.val (.int .u32 (formOf a)),.val (.int .i64 (fcls (formOf a) a.attr)),.val (.int .i64 (if formOf a=33 then IntKind.i64.wrap a.n else 0))]:=er2
  refine rn ?_
  refine hRegionD (noChi) [0,1,2,3,4,5,6,7,8,9,10,11,12,13] [0,1,3,7,0,0,32,0,224,480,992,2047,4095,8191] [] mixed (by kernel_rfl) ?_
  refine simE (And.intro @er3 (And.intro @hg (And.intro @hs @hwl))) ?_
  refine rnE (And.intro @er3 (And.intro @hg (And.intro @hs @hwl))) ?_
  all_goals try (rw[hwl];omega)
  refine hRegionD (noChi) [0,1,2,3,4,5,6,7,8,9,10,11,12,13] [0,1,3,7,0,0,32,0,224,480,992,2047,4095,8191] [] mixed (by kernel_rfl) ?_
  refine simE (And.intro @er3 (And.intro @hg (And.intro @hs @hwl))) ?_
  repeat' first|refine hMeet (a:=Code.seq (Code.region 19 _ _) _) (X:=Unit) (fun _=> ⟨[(2,.aref 1 h 9 i 0),(3,.ref 3 q3.b 0),(8,u32V u.base),(9,intV u.vers),(12,.ref 12 q12.b 0),(14,.ref 83 q83.b 0),(17,intV j),(18,u32I a.form),(90,intV ats.length),(91,intV j)],[(0,some (bufO b (dP z 1) z.big (fmU 1 h i) nm (o+(indT a).length) (attrText ud a z.big t++R) post)),(1,some (.arr h 216 9 (us.map unitRow))),(3,some (.cells q3.b 0 [.ref 0 b 0])),(12,some (.cells q12.b 0 [.val (.int .u32 ab.tag),.val (.bool ab.ch),.dat false 4 (ats.map afR)])),(83,some (.cells q83.b 0 [.val (.int .u32 off),.val (.int .u32 ab.tag),.val (.bool ab.ch),.buf 81 q81.h])),(81,some (.arr q81.h 242 3 (W [.val (.int .u32 a.attr),.val .nilIface,.val (.int .i64 (fcls a.form a.attr))])))]⟩) ?_ ?_|refine s1 ?_|refine hRegion (simE (And.intro @er3 (And.intro @hg (And.intro @hs @hwl))) ?_)|refine hSkip (simE (And.intro @er3 (And.intro @hg (And.intro @hs @hwl))) ?_)|refine s7 rfl (fun hb=>?_) fun hb=>?_|with_reducible refine And.intro ?_ ?_|omega
  ·have hI:a.indirect=true:=by
    cases hh:a.indirect
    ·have:formOf a=a.form:=by rw[formOf,hh];rfl
     exact absurd (this.symm.trans hb) hA.dir
    ·rfl
   have eI:indT a=encU a.form.toNat 0:=by rw[indT,hI];rfl
   have hfb:=form_pos hA.frm
   have wM:IntKind.u32.wrap ((a.form.toNat:Nat):Int)=a.form:=by rw[wrap_u32 _ (by omega)];omega
   rw[eI] at ho ⊢
   refine callU [0] 0 (f121_ok (b:=b) (dw:=dP z 1) (bg:=z.big) (fm:=fmU 1 h i) (nm:=nm) (post:=post) o a.form.toNat 0 (attrText ud a z.big t++R) (by omega) (by omega) (by omega) (by simp only[List.length_append];omega)) ?_;rintro ret os fs ⟨rfl,rfl,rfl⟩;refine sim ?_
   skip
   refine hRegionD (fun jx _=>if jx=14 then mkC [] 145 0 [] (f129_ok hG a.form a.attr u.vers b hA.frm hv.1) else (default,([],[]))) [0,1,2,3,4,5,6,7,8,9,10,11,12,13,14,15,16,17] [0,1,3,7,0,0,0,64,0,448,960,1984,0,0,16352,32767,65535,131071] [(3,14)] mixed (by kernel_rfl) ?_
   refine simE (And.intro @er3 (And.intro @hg (And.intro @hs (And.intro @hwl @wM)))) ?_
   (refine rn ?_);refine callDA ?_;rintro ret os fs ⟨rfl,rfl,rfl⟩;refine sim ?_
   repeat' first|refine rnE (And.intro @hg (And.intro @hs @hwl)) ?_|with_reducible refine And.intro ?_ ?_|fail
   all_goals first|(rw[hwl];omega)|omega|exact ⟨(),by rw[hg,hs];rfl⟩
  ·have hI:a.indirect=false:=by
    cases hh:a.indirect
    ·rfl
    ·exact absurd (by rw[formOf,hh];rfl) hb
   have eF:formOf a=a.form:=by rw[formOf,hI];rfl
   have eI:indT a=[]:=by rw[indT,hI];rfl
   rw[eF,eI]
   exact ⟨(),rfl,rfl,rfl⟩
  ·rintro _
   refine sim ?_
   have hfr2:=hA.frm.frm
   unfold isBlock isData at hfr2
   have hb2:=hA.b
   have hNn:=hA.n
   rw[hN] at hNn
   have hsz:∀k:Nat,0 < k→(sizeOf' ud a.form)=(k:Int)→N < 256 ^ k:=by
    intro k h0 hk
    have:=hA.size (by omega)
    rw[hk,hN] at this
    exact this
   have href:a.form=16∨a.form=17∨a.form=18∨a.form=19∨a.form=20∨a.form=21∨a.form=23→N < 2147483648:=fun h=>by have:=hA.ref h;omega
   obtain ⟨o1,ho1⟩ :∃o1,o1=o+(indT a).length:= ⟨_,rfl⟩
   rw[←ho1]
   have hcs:a.form=1∨a.form=10∨a.form=3∨a.form=4∨a.form=9∨a.form=11∨a.form=5∨a.form=6∨a.form=7∨a.form=13∨a.form=15∨a.form=33∨a.form=12∨a.form=25∨a.form=16∨a.form=17∨a.form=18∨a.form=19∨a.form=20∨a.form=21∨a.form=32∨a.form=8∨a.form=14∨a.form=31∨a.form=23∨a.form=24:=by have:=hA.dir;omega
   rcases hcs with hform|hform|hform|hform|hform|hform|hform|hform|hform|hform|hform|hform|hform|hform|hform|hform|hform|hform|hform|hform|hform|hform|hform|hform|hform|hform
   ·have hA1:N < 256 ^ ud.size.toNat:=hsz ud.size.toNat (by rw[hud.2.1];omega) (by simp[sizeOf',hform];omega)
    have hzp:0 < u.size:=by omega
    have ht:attrText ud a z.big t++R=fixed N u.size.toNat z.big++R:=by simp[attrText,sizeOf',blockText,offsetSize,hform,hN,fixed1,encO,hzp,hud.2.1]
    have hl:(attrText ud a z.big t).length=u.size.toNat:=by
     have:=congrArg List.length ht
     simp only[List.length_append,List.length_cons,fixed_len] at this
     omega
    rw[hl] at ho
    rw[ht]
    refine rnE @hform ?_
    refine callU [0,1] 0 (f131_ok (b:=b) (dw:=dP z 1) (bg:=z.big) (nm:=nm) (post:=post) hu o1 N R hzs (by rw[←hud.2.1];exact hA1) (by omega)) ?_;rintro ret os fs ⟨rfl,rfl,rfl⟩;refine sim ?_
    refine rnE (And.intro @hform (And.intro @hg (And.intro @hs (And.intro @hwl @w4)))) ?_
    all_goals try (rw[hwl];omega)
    refine ⟨⟨(j+1,o1+u.size.toNat),by dsimp only;rw[←hR];simp only[List.length_append];omega⟩, ?_⟩
    subst hR
    have hD:dvOf u.base a= .num N:=by simp[dvOf,hform,hN]
    have eD:dfA u.base (a,t)=[.val (.int .u32 a.attr),dvV (.num N),.val (.int .i64 (fcls 1 a.attr))]:=by
     show [u32I a.attr,dvV (dvOf u.base a),intV (fcls a.form a.attr)]=_
     rw[hD,hform];rfl
    rw[eD] at hW1
    dsimp only
    rw[hW1]
    ((repeat' refine And.intro ?_ ?_)<;>first|rfl|omega)
   ·have wl:IntKind.i64.wrap (((UInt8.ofNat a.b.length).toNat:Nat):Int)=((a.b.length:Nat):Int):=by have:=hA.b1 hform;rw[UInt8.toNat_ofNat',Nat.mod_eq_of_lt (by omega),wrap_i64 (by omega) (by omega)]
    have ht:attrText ud a z.big t++R=UInt8.ofNat a.b.length :: (a.b++R):=by simp[attrText,sizeOf',blockText,offsetSize,hform,hN,fixed1,encO]
    have hl:(attrText ud a z.big t).length=1+a.b.length:=by
     have:=congrArg List.length ht
     simp only[List.length_append,List.length_cons,fixed_len] at this
     omega
    rw[hl] at ho
    rw[ht]
    refine rnE @hform ?_
    refine hRegionD (fun jx _=>if jx=2 then mkC [0] 240 0 [] (f132_ok (b:=b) (dw:=dP z 1) (bg:=z.big) (fm:=fmU 1 h i) (nm:=nm) (post:=post) o1 (UInt8.ofNat a.b.length) (a.b++R) (by omega)) else if jx=4 then mkC [0] 242 0 [] (f137_ok (b:=b) (dw:=dP z 1) (bg:=z.big) (fm:=fmU 1 h i) (nm:=nm) (post:=post) (o1+1) a.b R (by omega)) else (default,([],[]))) [0,1,2,3,4,5,6] [0,0,2,6,15,31,63] [(0,2)] mixed (by kernel_rfl) ?_
    refine simE @wl ?_
    (skip);refine callDA ?_;rintro ret os fs ⟨rfl,rfl,rfl⟩;refine sim ?_
    refine simE @wl ?_
    (skip);refine callDA ?_;rintro ret os fs ⟨rfl,rfl,rfl⟩;refine sim ?_
    refine rnE (And.intro @hform (And.intro @hg (And.intro @hs (And.intro @hwl @w4)))) ?_
    all_goals try (rw[hwl];omega)
    refine ⟨⟨(j+1,o1+1+a.b.length),by dsimp only;rw[←hR];simp only[List.length_append];omega⟩, ?_⟩
    subst hR
    have hD:dvOf u.base a= .bytes a.b:=by simp[dvOf,hform,hN]
    have eD:dfA u.base (a,t)=[.val (.int .u32 a.attr),dvV (.bytes a.b),.val (.int .i64 (fcls 10 a.attr))]:=by
     show [u32I a.attr,dvV (dvOf u.base a),intV (fcls a.form a.attr)]=_
     rw[hD,hform];rfl
    rw[eD] at hW1
    dsimp only
    rw[hW1]
    ((repeat' refine And.intro ?_ ?_)<;>first|rfl|omega)
   ·have wl:IntKind.i64.wrap ((numOf z.big (fixed a.b.length 2 z.big):Nat):Int)=((a.b.length:Nat):Int):=by have:=hA.b2 hform;rw[numOf_fixed,Nat.mod_eq_of_lt (by omega),wrap_i64 (by omega) (by omega)]
    have ht:attrText ud a z.big t++R=fixed a.b.length 2 z.big++(a.b++R):=by simp[attrText,sizeOf',blockText,offsetSize,hform,hN,fixed1,encO]
    have hl:(attrText ud a z.big t).length=2+a.b.length:=by
     have:=congrArg List.length ht
     simp only[List.length_append,List.length_cons,fixed_len] at this
     omega
    rw[hl] at ho
    rw[ht]
    refine rnE @hform ?_
    refine hRegionD (fun jx _=>if jx=2 then mkC [0] 248 0 [] (f133_ok (b:=b) (dw:=dP z 1) (bg:=z.big) (fm:=fmU 1 h i) (nm:=nm) (post:=post) o1 (fixed a.b.length 2 z.big) (a.b++R) (fixed_len _ _ _) (by omega)) else if jx=4 then mkC [0] 250 0 [] (f137_ok (b:=b) (dw:=dP z 1) (bg:=z.big) (fm:=fmU 1 h i) (nm:=nm) (post:=post) (o1+2) a.b R (by omega)) else (default,([],[]))) [0,1,2,3,4,5,6] [0,0,2,6,15,31,63] [(0,2)] mixed (by kernel_rfl) ?_
    refine simE @wl ?_
    (skip);refine callDA ?_;rintro ret os fs ⟨rfl,rfl,rfl⟩;refine sim ?_
    refine simE @wl ?_
    (skip);refine callDA ?_;rintro ret os fs ⟨rfl,rfl,rfl⟩;refine sim ?_
    refine rnE (And.intro @hform (And.intro @hg (And.intro @hs (And.intro @hwl @w4)))) ?_
    all_goals try (rw[hwl];omega)
    refine ⟨⟨(j+1,o1+2+a.b.length),by dsimp only;rw[←hR];simp only[List.length_append];omega⟩, ?_⟩
    subst hR
    have hD:dvOf u.base a= .bytes a.b:=by simp[dvOf,hform,hN]
    have eD:dfA u.base (a,t)=[.val (.int .u32 a.attr),dvV (.bytes a.b),.val (.int .i64 (fcls 3 a.attr))]:=by
     show [u32I a.attr,dvV (dvOf u.base a),intV (fcls a.form a.attr)]=_
     rw[hD,hform];rfl
    rw[eD] at hW1
    dsimp only
    rw[hW1]
    ((repeat' refine And.intro ?_ ?_)<;>first|rfl|omega)
   ·have wl:IntKind.i64.wrap ((numOf z.big (fixed a.b.length 4 z.big):Nat):Int)=((a.b.length:Nat):Int):=by rw[numOf_fixed,Nat.mod_eq_of_lt (by omega),wrap_i64 (by omega) (by omega)]
    have ht:attrText ud a z.big t++R=fixed a.b.length 4 z.big++(a.b++R):=by simp[attrText,sizeOf',blockText,offsetSize,hform,hN,fixed1,encO]
    have hl:(attrText ud a z.big t).length=4+a.b.length:=by
     have:=congrArg List.length ht
     simp only[List.length_append,List.length_cons,fixed_len] at this
     omega
    rw[hl] at ho
    rw[ht]
    refine rnE @hform ?_
    refine hRegionD (fun jx _=>if jx=2 then mkC [0] 256 0 [] (f126_ok (b:=b) (dw:=dP z 1) (bg:=z.big) (fm:=fmU 1 h i) (nm:=nm) (post:=post) o1 (fixed a.b.length 4 z.big) (a.b++R) (fixed_len _ _ _) (by omega)) else if jx=4 then mkC [0] 258 0 [] (f137_ok (b:=b) (dw:=dP z 1) (bg:=z.big) (fm:=fmU 1 h i) (nm:=nm) (post:=post) (o1+4) a.b R (by omega)) else (default,([],[]))) [0,1,2,3,4,5,6] [0,0,2,6,15,31,63] [(0,2)] mixed (by kernel_rfl) ?_
    refine simE @wl ?_
    (skip);refine callDA ?_;rintro ret os fs ⟨rfl,rfl,rfl⟩;refine sim ?_
    refine simE @wl ?_
    (skip);refine callDA ?_;rintro ret os fs ⟨rfl,rfl,rfl⟩;refine sim ?_
    refine rnE (And.intro @hform (And.intro @hg (And.intro @hs (And.intro @hwl @w4)))) ?_
    all_goals try (rw[hwl];omega)
    refine ⟨⟨(j+1,o1+4+a.b.length),by dsimp only;rw[←hR];simp only[List.length_append];omega⟩, ?_⟩
    subst hR
    have hD:dvOf u.base a= .bytes a.b:=by simp[dvOf,hform,hN]
    have eD:dfA u.base (a,t)=[.val (.int .u32 a.attr),dvV (.bytes a.b),.val (.int .i64 (fcls 4 a.attr))]:=by
     show [u32I a.attr,dvV (dvOf u.base a),intV (fcls a.form a.attr)]=_
     rw[hD,hform];rfl
    rw[eD] at hW1
    dsimp only
    rw[hW1]
    ((repeat' refine And.intro ?_ ?_)<;>first|rfl|omega)
   ·have wl:IntKind.i64.wrap ((a.b.length:Nat):Int)=((a.b.length:Nat):Int):=by exact wrap_i64 (by omega) (by omega)
    have ht:attrText ud a z.big t++R=encU a.b.length 0++(a.b++R):=by simp[attrText,sizeOf',blockText,offsetSize,hform,hN,fixed1,encO]
    have hl:(attrText ud a z.big t).length=(encU a.b.length 0).length+a.b.length:=by
     have:=congrArg List.length ht
     simp only[List.length_append,List.length_cons,fixed_len] at this
     omega
    rw[hl] at ho
    rw[ht]
    refine rnE @hform ?_
    refine hRegionD (fun jx _=>if jx=2 then mkC [0] 264 0 [] (f121_ok (b:=b) (dw:=dP z 1) (bg:=z.big) (fm:=fmU 1 h i) (nm:=nm) (post:=post) o1 a.b.length 0 (a.b++R) (by omega) (by omega) (by omega) (by simp only[List.length_append];omega)) else if jx=4 then mkC [0] 266 0 [] (f137_ok (b:=b) (dw:=dP z 1) (bg:=z.big) (fm:=fmU 1 h i) (nm:=nm) (post:=post) (o1+(encU a.b.length 0).length) a.b R (by omega)) else (default,([],[]))) [0,1,2,3,4,5,6] [0,0,2,6,15,31,63] [(0,2)] mixed (by kernel_rfl) ?_
    refine simE @wl ?_
    (skip);refine callDA ?_;rintro ret os fs ⟨rfl,rfl,rfl⟩;refine sim ?_
    refine simE @wl ?_
    (skip);refine callDA ?_;rintro ret os fs ⟨rfl,rfl,rfl⟩;refine sim ?_
    refine rnE (And.intro @hform (And.intro @hg (And.intro @hs (And.intro @hwl @w4)))) ?_
    all_goals try (rw[hwl];omega)
    refine ⟨⟨(j+1,o1+(encU a.b.length 0).length+a.b.length),by dsimp only;rw[←hR];simp only[List.length_append];omega⟩, ?_⟩
    subst hR
    have hD:dvOf u.base a= .bytes a.b:=by simp[dvOf,hform,hN]
    have eD:dfA u.base (a,t)=[.val (.int .u32 a.attr),dvV (.bytes a.b),.val (.int .i64 (fcls 9 a.attr))]:=by
     show [u32I a.attr,dvV (dvOf u.base a),intV (fcls a.form a.attr)]=_
     rw[hD,hform];rfl
    rw[eD] at hW1
    dsimp only
    rw[hW1]
    ((repeat' refine And.intro ?_ ?_)<;>first|rfl|omega)
   ·have hNs:N < 256 ^ 1:=hsz 1 (by decide) (by simp[sizeOf',hform])
    have hnum:((UInt8.ofNat N).toNat:Int)=N:=by rw[UInt8.toNat_ofNat',Nat.mod_eq_of_lt hNs]
    have wi:IntKind.i64.wrap (N:Int)=N:=wrap_i64 (by omega) (by omega)
    have ht:attrText ud a z.big t++R=UInt8.ofNat N :: R:=by simp[attrText,sizeOf',blockText,offsetSize,hform,hN,fixed1,encO]
    have hl:(attrText ud a z.big t).length=1:=by
     have:=congrArg List.length ht
     simp only[List.length_append,List.length_cons,fixed_len] at this
     omega
    rw[hl] at ho
    rw[ht]
    refine rnE @hform ?_
    refine callU [0] 0 (f132_ok (b:=b) (dw:=dP z 1) (bg:=z.big) (fm:=fmU 1 h i) (nm:=nm) (post:=post) o1 (UInt8.ofNat N) R (by omega)) ?_;rintro ret os fs ⟨rfl,rfl,rfl⟩;refine sim ?_
    refine rnE (And.intro @hform (And.intro @hg (And.intro @hs (And.intro @hwl (And.intro @w4 (And.intro @hnum @wi)))))) ?_
    all_goals try (rw[hwl];omega)
    refine ⟨⟨(j+1,o1+1),by dsimp only;rw[←hR];simp only[List.length_append];omega⟩, ?_⟩
    subst hR
    have hD:dvOf u.base a= .int N:=by simp[dvOf,hform,hN,wi]
    have eD:dfA u.base (a,t)=[.val (.int .u32 a.attr),dvV (.int N),.val (.int .i64 (fcls 11 a.attr))]:=by
     show [u32I a.attr,dvV (dvOf u.base a),intV (fcls a.form a.attr)]=_
     rw[hD,hform];rfl
    rw[eD] at hW1
    dsimp only
    rw[hW1]
    ((repeat' refine And.intro ?_ ?_)<;>first|rfl|omega)
   ·have hNs:N < 256 ^ 2:=hsz 2 (by decide) (by simp[sizeOf',hform])
    have hnum:numOf z.big (fixed N 2 z.big)=N:=by rw[numOf_fixed,Nat.mod_eq_of_lt hNs]
    have wi:IntKind.i64.wrap (N:Int)=N:=wrap_i64 (by omega) (by omega)
    have ht:attrText ud a z.big t++R=fixed N 2 z.big++R:=by simp[attrText,sizeOf',blockText,offsetSize,hform,hN,fixed1,encO]
    have hl:(attrText ud a z.big t).length=2:=by
     have:=congrArg List.length ht
     simp only[List.length_append,List.length_cons,fixed_len] at this
     omega
    rw[hl] at ho
    rw[ht]
    refine rnE @hform ?_
    refine callU [0] 0 (f133_ok (b:=b) (dw:=dP z 1) (bg:=z.big) (fm:=fmU 1 h i) (nm:=nm) (post:=post) o1 (fixed N 2 z.big) R (fixed_len _ _ _) (by omega)) ?_;rintro ret os fs ⟨rfl,rfl,rfl⟩;refine sim ?_
    refine rnE (And.intro @hform (And.intro @hg (And.intro @hs (And.intro @hwl (And.intro @w4 (And.intro @hnum @wi)))))) ?_
    all_goals try (rw[hwl];omega)
    refine ⟨⟨(j+1,o1+2),by dsimp only;rw[←hR];simp only[List.length_append];omega⟩, ?_⟩
    subst hR
    have hD:dvOf u.base a= .int N:=by simp[dvOf,hform,hN,wi]
    have eD:dfA u.base (a,t)=[.val (.int .u32 a.attr),dvV (.int N),.val (.int .i64 (fcls 5 a.attr))]:=by
     show [u32I a.attr,dvV (dvOf u.base a),intV (fcls a.form a.attr)]=_
     rw[hD,hform];rfl
    rw[eD] at hW1
    dsimp only
    rw[hW1]
    ((repeat' refine And.intro ?_ ?_)<;>first|rfl|omega)
   ·have hNs:N < 256 ^ 4:=hsz 4 (by decide) (by simp[sizeOf',hform])
    have hnum:numOf z.big (fixed N 4 z.big)=N:=by rw[numOf_fixed,Nat.mod_eq_of_lt hNs]
    have wi:IntKind.i64.wrap (N:Int)=N:=wrap_i64 (by omega) (by omega)
    have ht:attrText ud a z.big t++R=fixed N 4 z.big++R:=by simp[attrText,sizeOf',blockText,offsetSize,hform,hN,fixed1,encO]
    have hl:(attrText ud a z.big t).length=4:=by
     have:=congrArg List.length ht
     simp only[List.length_append,List.length_cons,fixed_len] at this
     omega
    rw[hl] at ho
    rw[ht]
    refine rnE @hform ?_
    refine callU [0] 0 (f126_ok (b:=b) (dw:=dP z 1) (bg:=z.big) (fm:=fmU 1 h i) (nm:=nm) (post:=post) o1 (fixed N 4 z.big) R (fixed_len _ _ _) (by omega)) ?_;rintro ret os fs ⟨rfl,rfl,rfl⟩;refine sim ?_
    refine rnE (And.intro @hform (And.intro @hg (And.intro @hs (And.intro @hwl (And.intro @w4 (And.intro @hnum @wi)))))) ?_
    all_goals try (rw[hwl];omega)
    refine ⟨⟨(j+1,o1+4),by dsimp only;rw[←hR];simp only[List.length_append];omega⟩, ?_⟩
    subst hR
    have hD:dvOf u.base a= .int N:=by simp[dvOf,hform,hN,wi]
    have eD:dfA u.base (a,t)=[.val (.int .u32 a.attr),dvV (.int N),.val (.int .i64 (fcls 6 a.attr))]:=by
     show [u32I a.attr,dvV (dvOf u.base a),intV (fcls a.form a.attr)]=_
     rw[hD,hform];rfl
    rw[eD] at hW1
    dsimp only
    rw[hW1]
    ((repeat' refine And.intro ?_ ?_)<;>first|rfl|omega)
   ·have hNs:N < 256 ^ 8:=hsz 8 (by decide) (by simp[sizeOf',hform])
    have hnum:numOf z.big (fixed N 8 z.big)=N:=by rw[numOf_fixed,Nat.mod_eq_of_lt hNs]
    have ht:attrText ud a z.big t++R=fixed N 8 z.big++R:=by simp[attrText,sizeOf',blockText,offsetSize,hform,hN,fixed1,encO]
    have hl:(attrText ud a z.big t).length=8:=by
     have:=congrArg List.length ht
     simp only[List.length_append,List.length_cons,fixed_len] at this
     omega
    rw[hl] at ho
    rw[ht]
    refine rnE @hform ?_
    refine callU [0] 0 (f125_ok (b:=b) (dw:=dP z 1) (bg:=z.big) (fm:=fmU 1 h i) (nm:=nm) (post:=post) o1 (fixed N 8 z.big) R (fixed_len _ _ _) (by omega)) ?_;rintro ret os fs ⟨rfl,rfl,rfl⟩;refine sim ?_
    refine rnE (And.intro @hform (And.intro @hg (And.intro @hs (And.intro @hwl (And.intro @w4 @hnum))))) ?_
    all_goals try (rw[hwl];omega)
    refine ⟨⟨(j+1,o1+8),by dsimp only;rw[←hR];simp only[List.length_append];omega⟩, ?_⟩
    subst hR
    have hD:dvOf u.base a= .int (IntKind.i64.wrap N):=by simp[dvOf,hform,hN]
    have eD:dfA u.base (a,t)=[.val (.int .u32 a.attr),dvV (.int (IntKind.i64.wrap N)),.val (.int .i64 (fcls 7 a.attr))]:=by
     show [u32I a.attr,dvV (dvOf u.base a),intV (fcls a.form a.attr)]=_
     rw[hD,hform];rfl
    rw[eD] at hW1
    dsimp only
    rw[hW1]
    ((repeat' refine And.intro ?_ ?_)<;>first|rfl|omega)
   ·have ht:attrText ud a z.big t++R=encS (IntKind.i64.wrap N) 0++R:=by simp[attrText,sizeOf',blockText,offsetSize,hform,hN,fixed1,encO]
    have hl:(attrText ud a z.big t).length=(encS (IntKind.i64.wrap N) 0).length:=by
     have:=congrArg List.length ht
     simp only[List.length_append,List.length_cons,fixed_len] at this
     omega
    rw[hl] at ho
    rw[ht]
    refine rnE @hform ?_
    refine callU [0] 0 (f138_ok (b:=b) (dw:=dP z 1) (bg:=z.big) (fm:=fmU 1 h i) (nm:=nm) (post:=post) o1 (IntKind.i64.wrap N) 0 R (wrap_range N) (by omega) (by omega) (by omega)) ?_;rintro ret os fs ⟨rfl,rfl,rfl⟩;refine sim ?_
    refine rnE (And.intro @hform (And.intro @hg (And.intro @hs (And.intro @hwl @w4)))) ?_
    all_goals try (rw[hwl];omega)
    refine ⟨⟨(j+1,o1+(encS (IntKind.i64.wrap N) 0).length),by dsimp only;rw[←hR];simp only[List.length_append];omega⟩, ?_⟩
    subst hR
    have hD:dvOf u.base a= .int (IntKind.i64.wrap N):=by simp[dvOf,hform,hN]
    have eD:dfA u.base (a,t)=[.val (.int .u32 a.attr),dvV (.int (IntKind.i64.wrap N)),.val (.int .i64 (fcls 13 a.attr))]:=by
     show [u32I a.attr,dvV (dvOf u.base a),intV (fcls a.form a.attr)]=_
     rw[hD,hform];rfl
    rw[eD] at hW1
    dsimp only
    rw[hW1]
    ((repeat' refine And.intro ?_ ?_)<;>first|rfl|omega)
   ·have ht:attrText ud a z.big t++R=encU N 0++R:=by simp[attrText,sizeOf',blockText,offsetSize,hform,hN,fixed1,encO]
    have hl:(attrText ud a z.big t).length=(encU N 0).length:=by
     have:=congrArg List.length ht
     simp only[List.length_append,List.length_cons,fixed_len] at this
     omega
    rw[hl] at ho
    rw[ht]
    refine rnE @hform ?_
    refine callU [0] 0 (f121_ok (b:=b) (dw:=dP z 1) (bg:=z.big) (fm:=fmU 1 h i) (nm:=nm) (post:=post) o1 N 0 R (by omega) (by omega) (by omega) (by omega)) ?_;rintro ret os fs ⟨rfl,rfl,rfl⟩;refine sim ?_
    refine rnE (And.intro @hform (And.intro @hg (And.intro @hs (And.intro @hwl @w4)))) ?_
    all_goals try (rw[hwl];omega)
    refine ⟨⟨(j+1,o1+(encU N 0).length),by dsimp only;rw[←hR];simp only[List.length_append];omega⟩, ?_⟩
    subst hR
    have hD:dvOf u.base a= .int (IntKind.i64.wrap N):=by simp[dvOf,hform,hN]
    have eD:dfA u.base (a,t)=[.val (.int .u32 a.attr),dvV (.int (IntKind.i64.wrap N)),.val (.int .i64 (fcls 15 a.attr))]:=by
     show [u32I a.attr,dvV (dvOf u.base a),intV (fcls a.form a.attr)]=_
     rw[hD,hform];rfl
    rw[eD] at hW1
    dsimp only
    rw[hW1]
    ((repeat' refine And.intro ?_ ?_)<;>first|rfl|omega)
   ·have ht:attrText ud a z.big t++R=R:=by simp[attrText,sizeOf',blockText,offsetSize,hform,hN,fixed1,encO]
    have hl:(attrText ud a z.big t).length=0:=by
     have:=congrArg List.length ht
     simp only[List.length_append,List.length_cons,fixed_len] at this
     omega
    rw[hl] at ho
    rw[ht]
    have hI:a.indirect=false:=by
     cases hh:a.indirect
     ·rfl
     ·exact absurd hform (hA.ind hh)
    have hfo:formOf a=33:=by rw[formOf,hI];exact hform
    rw[hfo,if_pos rfl,hN] at er3
    refine rnE (And.intro @hform (And.intro @er3 (And.intro @hg (And.intro @hs (And.intro @hwl @w4))))) ?_
    all_goals try (rw[hwl];omega)
    all_goals try (rw[hwl];omega)
    refine ⟨⟨(j+1,o1),by dsimp only;rw[←hR];simp only[List.length_append];omega⟩, ?_⟩
    subst hR
    have hD:dvOf u.base a= .int (IntKind.i64.wrap N):=by simp[dvOf,hform,hN]
    have eD:dfA u.base (a,t)=[.val (.int .u32 a.attr),dvV (.int (IntKind.i64.wrap N)),.val (.int .i64 (fcls 33 a.attr))]:=by
     show [u32I a.attr,dvV (dvOf u.base a),intV (fcls a.form a.attr)]=_
     rw[hD,hform];rfl
    rw[eD] at hW1
    dsimp only
    rw[hW1]
    ((repeat' refine And.intro ?_ ?_)<;>first|rfl|omega)
   ·have hNs:N < 256 ^ 1:=hsz 1 (by decide) (by simp[sizeOf',hform])
    have hnum:((UInt8.ofNat N).toNat:Int)=N:=by rw[UInt8.toNat_ofNat',Nat.mod_eq_of_lt hNs]
    have ht:attrText ud a z.big t++R=UInt8.ofNat N :: R:=by simp[attrText,sizeOf',blockText,offsetSize,hform,hN,fixed1,encO]
    have hl:(attrText ud a z.big t).length=1:=by
     have:=congrArg List.length ht
     simp only[List.length_append,List.length_cons,fixed_len] at this
     omega
    rw[hl] at ho
    rw[ht]
    refine rnE @hform ?_
    refine callU [0] 0 (f132_ok (b:=b) (dw:=dP z 1) (bg:=z.big) (fm:=fmU 1 h i) (nm:=nm) (post:=post) o1 (UInt8.ofNat N) R (by omega)) ?_;rintro ret os fs ⟨rfl,rfl,rfl⟩;refine sim ?_
    refine rnE (And.intro @hform (And.intro @hg (And.intro @hs (And.intro @hwl (And.intro @w4 @hnum))))) ?_
    all_goals try (rw[hwl];omega)
    refine ⟨⟨(j+1,o1+1),by dsimp only;rw[←hR];simp only[List.length_append];omega⟩, ?_⟩
    subst hR
    have hD:dvOf u.base a= .flag ((N:Int) == 1):=by simp[dvOf,hform,hN]
    have eD:dfA u.base (a,t)=[.val (.int .u32 a.attr),dvV (.flag ((N:Int) == 1)),.val (.int .i64 (fcls 12 a.attr))]:=by
     show [u32I a.attr,dvV (dvOf u.base a),intV (fcls a.form a.attr)]=_
     rw[hD,hform];rfl
    rw[eD] at hW1
    dsimp only
    rw[hW1]
    ((repeat' refine And.intro ?_ ?_)<;>first|rfl|omega)
   ·have ht:attrText ud a z.big t++R=R:=by simp[attrText,sizeOf',blockText,offsetSize,hform,hN,fixed1,encO]
    have hl:(attrText ud a z.big t).length=0:=by
     have:=congrArg List.length ht
     simp only[List.length_append,List.length_cons,fixed_len] at this
     omega
    rw[hl] at ho
    rw[ht]
    refine rnE (And.intro @hform (And.intro @hg (And.intro @hs (And.intro @hwl @w4)))) ?_
    all_goals try (rw[hwl];omega)
    refine ⟨⟨(j+1,o1),by dsimp only;rw[←hR];simp only[List.length_append];omega⟩, ?_⟩
    subst hR
    have hD:dvOf u.base a= .flag true:=by simp[dvOf,hform,hN]
    have eD:dfA u.base (a,t)=[.val (.int .u32 a.attr),dvV (.flag true),.val (.int .i64 (fcls 25 a.attr))]:=by
     show [u32I a.attr,dvV (dvOf u.base a),intV (fcls a.form a.attr)]=_
     rw[hD,hform];rfl
    rw[eD] at hW1
    dsimp only
    rw[hW1]
    ((repeat' refine And.intro ?_ ?_)<;>first|rfl|omega)
   ·cases hw:u.wide
    ·have hN31:=href (by simp[hform])
     have hnum:numOf z.big (fixed N 4 z.big)=N:=by rw[numOf_fixed,Nat.mod_eq_of_lt (by omega)]
     have wr:IntKind.u32.wrap (N:Int)=N:=wrap_u32 N (by omega)
     have z0:(u.vers == 0)=false:=by rw[beq_eq_false_iff_ne];omega
     have z2:(u.vers == 2)=false:=by rw[beq_eq_false_iff_ne];omega
     have hwd:ud.wide=false:=by rw[hud.2.2];exact hw
     have hv2:¬ud.version=2:=by rw[hud.1];omega
     have ht:attrText ud a z.big t++R=fixed N 4 z.big++R:=by simp[attrText,sizeOf',blockText,offsetSize,hform,hN,fixed1,encO,hwd,hv2]
     have hl:(attrText ud a z.big t).length=4:=by
      have:=congrArg List.length ht
      simp only[List.length_append,List.length_cons,fixed_len] at this
      omega
     rw[hl] at ho
     rw[ht]
     refine rnE @hform ?_
     refine callU [1] 0 (f226_ok hu) ?_;rintro ret os fs ⟨rfl,rfl,rfl⟩;refine sim ?_
     refine rnE (And.intro @hform (And.intro @z0 @z2)) ?_
     refine callU [1] 0 (f225_ok hu) ?_;rintro ret os fs ⟨rfl,rfl,rfl⟩;refine sim ?_
     refine rnE (And.intro @hform @hw) ?_
     refine callU [0] 0 (f126_ok (b:=b) (dw:=dP z 1) (bg:=z.big) (fm:=fmU 1 h i) (nm:=nm) (post:=post) o1 (fixed N 4 z.big) R (fixed_len _ _ _) (by omega)) ?_;rintro ret os fs ⟨rfl,rfl,rfl⟩;refine sim ?_
     refine rnE (And.intro @hform (And.intro @hg (And.intro @hs (And.intro @hwl (And.intro @w4 (And.intro @hnum @wr)))))) ?_
     all_goals try (rw[hwl];omega)
     refine ⟨⟨(j+1,o1+4),by dsimp only;rw[←hR];simp only[List.length_append];omega⟩, ?_⟩
     subst hR
     have hD:dvOf u.base a= .off N:=by simp[dvOf,hform,hN]
     have eD:dfA u.base (a,t)=[.val (.int .u32 a.attr),dvV (.off N),.val (.int .i64 (fcls 16 a.attr))]:=by
      show [u32I a.attr,dvV (dvOf u.base a),intV (fcls a.form a.attr)]=_
      rw[hD,hform];rfl
     rw[eD] at hW1
     dsimp only
     rw[hW1]
     ((repeat' refine And.intro ?_ ?_)<;>first|rfl|omega)
    ·have hN31:=href (by simp[hform])
     have hnum:numOf z.big (fixed N 8 z.big)=N:=by rw[numOf_fixed,Nat.mod_eq_of_lt (by omega)]
     have wr:IntKind.u32.wrap (N:Int)=N:=wrap_u32 N (by omega)
     have z0:(u.vers == 0)=false:=by rw[beq_eq_false_iff_ne];omega
     have z2:(u.vers == 2)=false:=by rw[beq_eq_false_iff_ne];omega
     have hwd:ud.wide=true:=by rw[hud.2.2];exact hw
     have hv2:¬ud.version=2:=by rw[hud.1];omega
     have ht:attrText ud a z.big t++R=fixed N 8 z.big++R:=by simp[attrText,sizeOf',blockText,offsetSize,hform,hN,fixed1,encO,hwd,hv2]
     have hl:(attrText ud a z.big t).length=8:=by
      have:=congrArg List.length ht
      simp only[List.length_append,List.length_cons,fixed_len] at this
      omega
     rw[hl] at ho
     rw[ht]
     refine rnE @hform ?_
     refine callU [1] 0 (f226_ok hu) ?_;rintro ret os fs ⟨rfl,rfl,rfl⟩;refine sim ?_
     refine rnE (And.intro @hform (And.intro @z0 @z2)) ?_
     refine callU [1] 0 (f225_ok hu) ?_;rintro ret os fs ⟨rfl,rfl,rfl⟩;refine sim ?_
     refine rnE (And.intro @hform @hw) ?_
     refine callU [0] 0 (f125_ok (b:=b) (dw:=dP z 1) (bg:=z.big) (fm:=fmU 1 h i) (nm:=nm) (post:=post) o1 (fixed N 8 z.big) R (fixed_len _ _ _) (by omega)) ?_;rintro ret os fs ⟨rfl,rfl,rfl⟩;refine sim ?_
     refine rnE (And.intro @hform (And.intro @hg (And.intro @hs (And.intro @hwl (And.intro @w4 (And.intro @hnum @wr)))))) ?_
     all_goals try (rw[hwl];omega)
     refine ⟨⟨(j+1,o1+8),by dsimp only;rw[←hR];simp only[List.length_append];omega⟩, ?_⟩
     subst hR
     have hD:dvOf u.base a= .off N:=by simp[dvOf,hform,hN]
     have eD:dfA u.base (a,t)=[.val (.int .u32 a.attr),dvV (.off N),.val (.int .i64 (fcls 16 a.attr))]:=by
      show [u32I a.attr,dvV (dvOf u.base a),intV (fcls a.form a.attr)]=_
      rw[hD,hform];rfl
     rw[eD] at hW1
     dsimp only
     rw[hW1]
     ((repeat' refine And.intro ?_ ?_)<;>first|rfl|omega)
   ·have hNs:N < 256 ^ 1:=hsz 1 (by decide) (by simp[sizeOf',hform])
    have hnum:((UInt8.ofNat N).toNat:Int)=N:=by rw[UInt8.toNat_ofNat',Nat.mod_eq_of_lt hNs]
    have hN31:=href (by simp[hform])
    have wr:IntKind.u32.wrap (N:Int)=N:=wrap_u32 N (by omega)
    have wb:IntKind.u32.wrap ((N:Int)+(u.base:Int))=((N+u.base:Nat):Int):=off_add (by omega)
    have ht:attrText ud a z.big t++R=UInt8.ofNat N :: R:=by simp[attrText,sizeOf',blockText,offsetSize,hform,hN,fixed1,encO]
    have hl:(attrText ud a z.big t).length=1:=by
     have:=congrArg List.length ht
     simp only[List.length_append,List.length_cons,fixed_len] at this
     omega
    rw[hl] at ho
    rw[ht]
    refine rnE @hform ?_
    refine callU [0] 0 (f132_ok (b:=b) (dw:=dP z 1) (bg:=z.big) (fm:=fmU 1 h i) (nm:=nm) (post:=post) o1 (UInt8.ofNat N) R (by omega)) ?_;rintro ret os fs ⟨rfl,rfl,rfl⟩;refine sim ?_
    refine rnE (And.intro @hform (And.intro @hg (And.intro @hs (And.intro @hwl (And.intro @w4 (And.intro @hnum (And.intro @wr @wb))))))) ?_
    all_goals try (rw[hwl];omega)
    refine ⟨⟨(j+1,o1+1),by dsimp only;rw[←hR];simp only[List.length_append];omega⟩, ?_⟩
    subst hR
    have hD:dvOf u.base a= .off (N+u.base):=by simp[dvOf,hform,hN]
    have eD:dfA u.base (a,t)=[.val (.int .u32 a.attr),dvV (.off (N+u.base)),.val (.int .i64 (fcls 17 a.attr))]:=by
     show [u32I a.attr,dvV (dvOf u.base a),intV (fcls a.form a.attr)]=_
     rw[hD,hform];rfl
    rw[eD] at hW1
    dsimp only
    rw[hW1]
    ((repeat' refine And.intro ?_ ?_)<;>first|rfl|omega)
   ·have hNs:N < 256 ^ 2:=hsz 2 (by decide) (by simp[sizeOf',hform])
    have hnum:numOf z.big (fixed N 2 z.big)=N:=by rw[numOf_fixed,Nat.mod_eq_of_lt hNs]
    have hN31:=href (by simp[hform])
    have wr:IntKind.u32.wrap (N:Int)=N:=wrap_u32 N (by omega)
    have wb:IntKind.u32.wrap ((N:Int)+(u.base:Int))=((N+u.base:Nat):Int):=off_add (by omega)
    have ht:attrText ud a z.big t++R=fixed N 2 z.big++R:=by simp[attrText,sizeOf',blockText,offsetSize,hform,hN,fixed1,encO]
    have hl:(attrText ud a z.big t).length=2:=by
     have:=congrArg List.length ht
     simp only[List.length_append,List.length_cons,fixed_len] at this
     omega
    rw[hl] at ho
    rw[ht]
    refine rnE @hform ?_
    refine callU [0] 0 (f133_ok (b:=b) (dw:=dP z 1) (bg:=z.big) (fm:=fmU 1 h i) (nm:=nm) (post:=post) o1 (fixed N 2 z.big) R (fixed_len _ _ _) (by omega)) ?_;rintro ret os fs ⟨rfl,rfl,rfl⟩;refine sim ?_
    refine rnE (And.intro @hform (And.intro @hg (And.intro @hs (And.intro @hwl (And.intro @w4 (And.intro @hnum (And.intro @wr @wb))))))) ?_
    all_goals try (rw[hwl];omega)
    refine ⟨⟨(j+1,o1+2),by dsimp only;rw[←hR];simp only[List.length_append];omega⟩, ?_⟩
    subst hR
    have hD:dvOf u.base a= .off (N+u.base):=by simp[dvOf,hform,hN]
    have eD:dfA u.base (a,t)=[.val (.int .u32 a.attr),dvV (.off (N+u.base)),.val (.int .i64 (fcls 18 a.attr))]:=by
     show [u32I a.attr,dvV (dvOf u.base a),intV (fcls a.form a.attr)]=_
     rw[hD,hform];rfl
    rw[eD] at hW1
    dsimp only
    rw[hW1]
    ((repeat' refine And.intro ?_ ?_)<;>first|rfl|omega)
   ·have hNs:N < 256 ^ 4:=hsz 4 (by decide) (by simp[sizeOf',hform])
    have hnum:numOf z.big (fixed N 4 z.big)=N:=by rw[numOf_fixed,Nat.mod_eq_of_lt hNs]
    have hN31:=href (by simp[hform])
    have wr:IntKind.u32.wrap (N:Int)=N:=wrap_u32 N (by omega)
    have wb:IntKind.u32.wrap ((N:Int)+(u.base:Int))=((N+u.base:Nat):Int):=off_add (by omega)
    have ht:attrText ud a z.big t++R=fixed N 4 z.big++R:=by simp[attrText,sizeOf',blockText,offsetSize,hform,hN,fixed1,encO]
    have hl:(attrText ud a z.big t).length=4:=by
     have:=congrArg List.length ht
     simp only[List.length_append,List.length_cons,fixed_len] at this
     omega
    rw[hl] at ho
    rw[ht]
    refine rnE @hform ?_
    refine callU [0] 0 (f126_ok (b:=b) (dw:=dP z 1) (bg:=z.big) (fm:=fmU 1 h i) (nm:=nm) (post:=post) o1 (fixed N 4 z.big) R (fixed_len _ _ _) (by omega)) ?_;rintro ret os fs ⟨rfl,rfl,rfl⟩;refine sim ?_
    refine rnE (And.intro @hform (And.intro @hg (And.intro @hs (And.intro @hwl (And.intro @w4 (And.intro @hnum (And.intro @wr @wb))))))) ?_
    all_goals try (rw[hwl];omega)
    refine ⟨⟨(j+1,o1+4),by dsimp only;rw[←hR];simp only[List.length_append];omega⟩, ?_⟩
    subst hR
    have hD:dvOf u.base a= .off (N+u.base):=by simp[dvOf,hform,hN]
    have eD:dfA u.base (a,t)=[.val (.int .u32 a.attr),dvV (.off (N+u.base)),.val (.int .i64 (fcls 19 a.attr))]:=by
     show [u32I a.attr,dvV (dvOf u.base a),intV (fcls a.form a.attr)]=_
     rw[hD,hform];rfl
    rw[eD] at hW1
    dsimp only
    rw[hW1]
    ((repeat' refine And.intro ?_ ?_)<;>first|rfl|omega)
   ·have hNs:N < 256 ^ 8:=hsz 8 (by decide) (by simp[sizeOf',hform])
    have hnum:numOf z.big (fixed N 8 z.big)=N:=by rw[numOf_fixed,Nat.mod_eq_of_lt hNs]
    have hN31:=href (by simp[hform])
    have wr:IntKind.u32.wrap (N:Int)=N:=wrap_u32 N (by omega)
    have wb:IntKind.u32.wrap ((N:Int)+(u.base:Int))=((N+u.base:Nat):Int):=off_add (by omega)
    have ht:attrText ud a z.big t++R=fixed N 8 z.big++R:=by simp[attrText,sizeOf',blockText,offsetSize,hform,hN,fixed1,encO]
    have hl:(attrText ud a z.big t).length=8:=by
     have:=congrArg List.length ht
     simp only[List.length_append,List.length_cons,fixed_len] at this
     omega
    rw[hl] at ho
    rw[ht]
    refine rnE @hform ?_
    refine callU [0] 0 (f125_ok (b:=b) (dw:=dP z 1) (bg:=z.big) (fm:=fmU 1 h i) (nm:=nm) (post:=post) o1 (fixed N 8 z.big) R (fixed_len _ _ _) (by omega)) ?_;rintro ret os fs ⟨rfl,rfl,rfl⟩;refine sim ?_
    refine rnE (And.intro @hform (And.intro @hg (And.intro @hs (And.intro @hwl (And.intro @w4 (And.intro @hnum (And.intro @wr @wb))))))) ?_
    all_goals try (rw[hwl];omega)
    refine ⟨⟨(j+1,o1+8),by dsimp only;rw[←hR];simp only[List.length_append];omega⟩, ?_⟩
    subst hR
    have hD:dvOf u.base a= .off (N+u.base):=by simp[dvOf,hform,hN]
    have eD:dfA u.base (a,t)=[.val (.int .u32 a.attr),dvV (.off (N+u.base)),.val (.int .i64 (fcls 20 a.attr))]:=by
     show [u32I a.attr,dvV (dvOf u.base a),intV (fcls a.form a.attr)]=_
     rw[hD,hform];rfl
    rw[eD] at hW1
    dsimp only
    rw[hW1]
    ((repeat' refine And.intro ?_ ?_)<;>first|rfl|omega)
   ·have hN31:=href (by simp[hform])
    have wr:IntKind.u32.wrap (N:Int)=N:=wrap_u32 N (by omega)
    have wb:IntKind.u32.wrap ((N:Int)+(u.base:Int))=((N+u.base:Nat):Int):=off_add (by omega)
    have ht:attrText ud a z.big t++R=encU N 0++R:=by simp[attrText,sizeOf',blockText,offsetSize,hform,hN,fixed1,encO]
    have hl:(attrText ud a z.big t).length=(encU N 0).length:=by
     have:=congrArg List.length ht
     simp only[List.length_append,List.length_cons,fixed_len] at this
     omega
    rw[hl] at ho
    rw[ht]
    refine rnE @hform ?_
    refine callU [0] 0 (f121_ok (b:=b) (dw:=dP z 1) (bg:=z.big) (fm:=fmU 1 h i) (nm:=nm) (post:=post) o1 N 0 R (by omega) (by omega) (by omega) (by omega)) ?_;rintro ret os fs ⟨rfl,rfl,rfl⟩;refine sim ?_
    refine rnE (And.intro @hform (And.intro @hg (And.intro @hs (And.intro @hwl (And.intro @w4 (And.intro @wr @wb)))))) ?_
    all_goals try (rw[hwl];omega)
    refine ⟨⟨(j+1,o1+(encU N 0).length),by dsimp only;rw[←hR];simp only[List.length_append];omega⟩, ?_⟩
    subst hR
    have hD:dvOf u.base a= .off (N+u.base):=by simp[dvOf,hform,hN]
    have eD:dfA u.base (a,t)=[.val (.int .u32 a.attr),dvV (.off (N+u.base)),.val (.int .i64 (fcls 21 a.attr))]:=by
     show [u32I a.attr,dvV (dvOf u.base a),intV (fcls a.form a.attr)]=_
     rw[hD,hform];rfl
    rw[eD] at hW1
    dsimp only
    rw[hW1]
    ((repeat' refine And.intro ?_ ?_)<;>first|rfl|omega)
   ·have hNs:N < 256 ^ 8:=hsz 8 (by decide) (by simp[sizeOf',hform])
    have hnum:numOf z.big (fixed N 8 z.big)=N:=by rw[numOf_fixed,Nat.mod_eq_of_lt hNs]
    have ht:attrText ud a z.big t++R=fixed N 8 z.big++R:=by simp[attrText,sizeOf',blockText,offsetSize,hform,hN,fixed1,encO]
    have hl:(attrText ud a z.big t).length=8:=by
     have:=congrArg List.length ht
     simp only[List.length_append,List.length_cons,fixed_len] at this
     omega
    rw[hl] at ho
    rw[ht]
    refine rnE @hform ?_
    refine callU [0] 0 (f125_ok (b:=b) (dw:=dP z 1) (bg:=z.big) (fm:=fmU 1 h i) (nm:=nm) (post:=post) o1 (fixed N 8 z.big) R (fixed_len _ _ _) (by omega)) ?_;rintro ret os fs ⟨rfl,rfl,rfl⟩;refine sim ?_
    refine rnE (And.intro @hform (And.intro @hg (And.intro @hs (And.intro @hwl (And.intro @w4 @hnum))))) ?_
    all_goals try (rw[hwl];omega)
    refine ⟨⟨(j+1,o1+8),by dsimp only;rw[←hR];simp only[List.length_append];omega⟩, ?_⟩
    subst hR
    have hD:dvOf u.base a= .num N:=by simp[dvOf,hform,hN]
    have eD:dfA u.base (a,t)=[.val (.int .u32 a.attr),dvV (.num N),.val (.int .i64 (fcls 32 a.attr))]:=by
     show [u32I a.attr,dvV (dvOf u.base a),intV (fcls a.form a.attr)]=_
     rw[hD,hform];rfl
    rw[eD] at hW1
    dsimp only
    rw[hW1]
    ((repeat' refine And.intro ?_ ?_)<;>first|rfl|omega)
   ·have ht:attrText ud a z.big t++R=a.s++0 :: R:=by simp[attrText,sizeOf',blockText,offsetSize,hform,hN,fixed1,encO]
    have hl:(attrText ud a z.big t).length=a.s.length+1:=by
     have:=congrArg List.length ht
     simp only[List.length_append,List.length_cons,fixed_len] at this
     omega
    rw[hl] at ho
    rw[ht]
    refine rnE @hform ?_
    refine callU [0] 0 (f127_ok (b:=b) (dw:=dP z 1) (bg:=z.big) (fm:=fmU 1 h i) (nm:=nm) (post:=post) o1 a.s R (hA.text (by simp[hform])) (by omega)) ?_;rintro ret os fs ⟨rfl,rfl,rfl⟩;refine sim ?_
    refine rnE (And.intro @hform (And.intro @hg (And.intro @hs (And.intro @hwl @w4)))) ?_
    all_goals try (rw[hwl];omega)
    refine ⟨⟨(j+1,o1+(a.s.length+1)),by dsimp only;rw[←hR];simp only[List.length_append];omega⟩, ?_⟩
    subst hR
    have hD:dvOf u.base a= .text a.s:=by simp[dvOf,hform,hN]
    have eD:dfA u.base (a,t)=[.val (.int .u32 a.attr),dvV (.text a.s),.val (.int .i64 (fcls 8 a.attr))]:=by
     show [u32I a.attr,dvV (dvOf u.base a),intV (fcls a.form a.attr)]=_
     rw[hD,hform];rfl
    rw[eD] at hW1
    dsimp only
    rw[hW1]
    ((repeat' refine And.intro ?_ ?_)<;>first|rfl|omega)
   ·cases hw:u.wide
    ·obtain ⟨pre,r,hsec,hpre,hsl⟩ :=hA.str hform
     have hlp:z.str.length=pre.length+(a.s.length+(r.length+1)):=by rw[hsec];simp
     have hpt:t.str.length=pre.length:=hpre.symm
     have hnum:numOf z.big (fixed pre.length 4 z.big)=pre.length:=by rw[numOf_fixed,Nat.mod_eq_of_lt (by omega)]
     have wi:IntKind.i64.wrap ((pre.length:Nat):Int)=pre.length:=wrap_i64 (by omega) (by omega)
     have wu:IntKind.u64.wrap ((pre.length:Nat):Int)=pre.length:=wrap_u64 (by omega) (by omega)
     have bne:(((pre.length:Nat):Int) != ((pre.length:Nat):Int))=false:=by simp
     have zl:(((z.str.length:Nat):Int) == 0)=false:=by rw[beq_eq_false_iff_ne];omega
     have hwd:ud.wide=false:=by rw[hud.2.2];exact hw
     have ht:attrText ud a z.big t++R=fixed pre.length 4 z.big++R:=by simp[attrText,sizeOf',blockText,offsetSize,hform,hN,fixed1,encO,hpt,hwd]
     have hl:(attrText ud a z.big t).length=4:=by
      have:=congrArg List.length ht
      simp only[List.length_append,List.length_cons,fixed_len] at this
      omega
     rw[hl] at ho
     rw[ht]
     refine rnE @hform ?_
     refine callU [1] 0 (f225_ok hu) ?_;rintro ret os fs ⟨rfl,rfl,rfl⟩;refine sim ?_
     refine rnE (And.intro @hform @hw) ?_
     refine callU [0] 0 (f126_ok (b:=b) (dw:=dP z 1) (bg:=z.big) (fm:=fmU 1 h i) (nm:=nm) (post:=post) o1 (fixed pre.length 4 z.big) R (fixed_len _ _ _) (by omega)) ?_;rintro ret os fs ⟨rfl,rfl,rfl⟩;refine sim ?_
     repeat' first|refine rnE (And.intro @hform (And.intro @hnum (And.intro @wi (And.intro @wu (And.intro @bne (And.intro @zl (And.intro @hg (And.intro @hs @hwl)))))))) ?_|with_reducible refine fun (_:Outc)=>?_|fail
     refine hRegionD (fun jx _=>if jx=15 then mkC [] 457 0 [] (f94_ok (nm:=[115,116,114]) z 1 1 0 i h z.str) else (default,([],[]))) [0,1,2,3,4,5,6,7,8,9,10,11,12,13,14,15,16] [0,1,3,7,0,16,48,112,0,256,768,1792,3840,7936,16128,32767,65535] [] mixed (by kernel_rfl) ?_
     refine sim ?_
     (skip);refine callDA ?_;rintro ret os fs ⟨rfl,rfl,rfl⟩;refine sim ?_
     rw[hsec]
     refine rnE @wi ?_
     refine callU [29] 0 (f124_ok (dw:=dP z 1) (bg:=z.big) (fm:=fmU 1 h i) (nm:=[115,116,114]) (post:=[]) 0 pre (a.s++0 :: r) (by omega)) ?_;rintro ret os fs ⟨rfl,rfl,rfl⟩;refine sim ?_
     refine rn ?_
     refine callU [29] 0 (f127_ok (dw:=dP z 1) (bg:=z.big) (fm:=fmU 1 h i) (nm:=[115,116,114]) (post:=[]) (0+pre.length) a.s r (hA.text (by simp[hform])) (by omega)) ?_;rintro ret os fs ⟨rfl,rfl,rfl⟩;refine sim ?_
     refine rnE (And.intro @hform (And.intro @hg (And.intro @hs (And.intro @hwl @w4)))) ?_
     all_goals try (rw[hwl];omega)
     refine ⟨⟨(j+1,o1+4),by dsimp only;rw[←hR];simp only[List.length_append];omega⟩, ?_⟩
     subst hR
     have hD:dvOf u.base a= .text a.s:=by simp[dvOf,hform,hN]
     have eD:dfA u.base (a,t)=[.val (.int .u32 a.attr),dvV (.text a.s),.val (.int .i64 (fcls 14 a.attr))]:=by
      show [u32I a.attr,dvV (dvOf u.base a),intV (fcls a.form a.attr)]=_
      rw[hD,hform];rfl
     rw[eD] at hW1
     dsimp only
     rw[hW1]
     ((repeat' refine And.intro ?_ ?_)<;>first|rfl|omega)
    ·obtain ⟨pre,r,hsec,hpre,hsl⟩ :=hA.str hform
     have hlp:z.str.length=pre.length+(a.s.length+(r.length+1)):=by rw[hsec];simp
     have hpt:t.str.length=pre.length:=hpre.symm
     have hnum:numOf z.big (fixed pre.length 8 z.big)=pre.length:=by rw[numOf_fixed,Nat.mod_eq_of_lt (by omega)]
     have wi:IntKind.i64.wrap ((pre.length:Nat):Int)=pre.length:=wrap_i64 (by omega) (by omega)
     have wu:IntKind.u64.wrap ((pre.length:Nat):Int)=pre.length:=wrap_u64 (by omega) (by omega)
     have bne:(((pre.length:Nat):Int) != ((pre.length:Nat):Int))=false:=by simp
     have zl:(((z.str.length:Nat):Int) == 0)=false:=by rw[beq_eq_false_iff_ne];omega
     have hwd:ud.wide=true:=by rw[hud.2.2];exact hw
     have ht:attrText ud a z.big t++R=fixed pre.length 8 z.big++R:=by simp[attrText,sizeOf',blockText,offsetSize,hform,hN,fixed1,encO,hpt,hwd]
     have hl:(attrText ud a z.big t).length=8:=by
      have:=congrArg List.length ht
      simp only[List.length_append,List.length_cons,fixed_len] at this
      omega
     rw[hl] at ho
     rw[ht]
     refine rnE @hform ?_
     refine callU [1] 0 (f225_ok hu) ?_;rintro ret os fs ⟨rfl,rfl,rfl⟩;refine sim ?_
     refine rnE (And.intro @hform @hw) ?_
     refine callU [0] 0 (f125_ok (b:=b) (dw:=dP z 1) (bg:=z.big) (fm:=fmU 1 h i) (nm:=nm) (post:=post) o1 (fixed pre.length 8 z.big) R (fixed_len _ _ _) (by omega)) ?_;rintro ret os fs ⟨rfl,rfl,rfl⟩;refine sim ?_
     repeat' first|refine rnE (And.intro @hform (And.intro @hnum (And.intro @wi (And.intro @wu (And.intro @bne (And.intro @zl (And.intro @hg (And.intro @hs @hwl)))))))) ?_|with_reducible refine fun (_:Outc)=>?_|fail
     refine hRegionD (fun jx _=>if jx=15 then mkC [] 457 0 [] (f94_ok (nm:=[115,116,114]) z 1 1 0 i h z.str) else (default,([],[]))) [0,1,2,3,4,5,6,7,8,9,10,11,12,13,14,15,16] [0,1,3,7,0,16,48,112,0,256,768,1792,3840,7936,16128,32767,65535] [] mixed (by kernel_rfl) ?_
     refine sim ?_
     (skip);refine callDA ?_;rintro ret os fs ⟨rfl,rfl,rfl⟩;refine sim ?_
     rw[hsec]
     refine rnE @wi ?_
     refine callU [29] 0 (f124_ok (dw:=dP z 1) (bg:=z.big) (fm:=fmU 1 h i) (nm:=[115,116,114]) (post:=[]) 0 pre (a.s++0 :: r) (by omega)) ?_;rintro ret os fs ⟨rfl,rfl,rfl⟩;refine sim ?_
     refine rn ?_
     refine callU [29] 0 (f127_ok (dw:=dP z 1) (bg:=z.big) (fm:=fmU 1 h i) (nm:=[115,116,114]) (post:=[]) (0+pre.length) a.s r (hA.text (by simp[hform])) (by omega)) ?_;rintro ret os fs ⟨rfl,rfl,rfl⟩;refine sim ?_
     refine rnE (And.intro @hform (And.intro @hg (And.intro @hs (And.intro @hwl @w4)))) ?_
     all_goals try (rw[hwl];omega)
     refine ⟨⟨(j+1,o1+8),by dsimp only;rw[←hR];simp only[List.length_append];omega⟩, ?_⟩
     subst hR
     have hD:dvOf u.base a= .text a.s:=by simp[dvOf,hform,hN]
     have eD:dfA u.base (a,t)=[.val (.int .u32 a.attr),dvV (.text a.s),.val (.int .i64 (fcls 14 a.attr))]:=by
      show [u32I a.attr,dvV (dvOf u.base a),intV (fcls a.form a.attr)]=_
      rw[hD,hform];rfl
     rw[eD] at hW1
     dsimp only
     rw[hW1]
     ((repeat' refine And.intro ?_ ?_)<;>first|rfl|omega)
   ·cases hw:u.wide
    ·obtain ⟨pre,r,hsec,hpre,hsl⟩ :=hA.lin hform
     have hlp:z.lineStr.length=pre.length+(a.s.length+(r.length+1)):=by rw[hsec];simp
     have hpt:t.line.length=pre.length:=hpre.symm
     have hnum:numOf z.big (fixed pre.length 4 z.big)=pre.length:=by rw[numOf_fixed,Nat.mod_eq_of_lt (by omega)]
     have wi:IntKind.i64.wrap ((pre.length:Nat):Int)=pre.length:=wrap_i64 (by omega) (by omega)
     have wu:IntKind.u64.wrap ((pre.length:Nat):Int)=pre.length:=wrap_u64 (by omega) (by omega)
     have bne:(((pre.length:Nat):Int) != ((pre.length:Nat):Int))=false:=by simp
     have zl:(((z.lineStr.length:Nat):Int) == 0)=false:=by rw[beq_eq_false_iff_ne];omega
     have hwd:ud.wide=false:=by rw[hud.2.2];exact hw
     have ht:attrText ud a z.big t++R=fixed pre.length 4 z.big++R:=by simp[attrText,sizeOf',blockText,offsetSize,hform,hN,fixed1,encO,hpt,hwd]
     have hl:(attrText ud a z.big t).length=4:=by
      have:=congrArg List.length ht
      simp only[List.length_append,List.length_cons,fixed_len] at this
      omega
     rw[hl] at ho
     rw[ht]
     refine rnE @hform ?_
     refine callU [1] 0 (f225_ok hu) ?_;rintro ret os fs ⟨rfl,rfl,rfl⟩;refine sim ?_
     refine rnE (And.intro @hform @hw) ?_
     refine callU [0] 0 (f126_ok (b:=b) (dw:=dP z 1) (bg:=z.big) (fm:=fmU 1 h i) (nm:=nm) (post:=post) o1 (fixed pre.length 4 z.big) R (fixed_len _ _ _) (by omega)) ?_;rintro ret os fs ⟨rfl,rfl,rfl⟩;refine sim ?_
     repeat' first|refine rnE (And.intro @hform (And.intro @hnum (And.intro @wi (And.intro @wu (And.intro @bne (And.intro @zl (And.intro @hg (And.intro @hs @hwl)))))))) ?_|with_reducible refine fun (_:Outc)=>?_|fail
     refine hRegionD (fun jx _=>if jx=15 then mkC [] 484 0 [] (f94_ok (nm:=[108,105,110,101,95,115,116,114]) z 1 1 0 i h z.lineStr) else (default,([],[]))) [0,1,2,3,4,5,6,7,8,9,10,11,12,13,14,15,16] [0,1,3,7,0,16,48,112,0,256,768,1792,3840,7936,16128,32767,65535] [] mixed (by kernel_rfl) ?_
     refine sim ?_
     (skip);refine callDA ?_;rintro ret os fs ⟨rfl,rfl,rfl⟩;refine sim ?_
     rw[hsec]
     refine rnE @wi ?_
     refine callU [29] 0 (f124_ok (dw:=dP z 1) (bg:=z.big) (fm:=fmU 1 h i) (nm:=[108,105,110,101,95,115,116,114]) (post:=[]) 0 pre (a.s++0 :: r) (by omega)) ?_;rintro ret os fs ⟨rfl,rfl,rfl⟩;refine sim ?_
     refine rn ?_
     refine callU [29] 0 (f127_ok (dw:=dP z 1) (bg:=z.big) (fm:=fmU 1 h i) (nm:=[108,105,110,101,95,115,116,114]) (post:=[]) (0+pre.length) a.s r (hA.text (by simp[hform])) (by omega)) ?_;rintro ret os fs ⟨rfl,rfl,rfl⟩;refine sim ?_
     refine rnE (And.intro @hform (And.intro @hg (And.intro @hs (And.intro @hwl @w4)))) ?_
     all_goals try (rw[hwl];omega)
     refine ⟨⟨(j+1,o1+4),by dsimp only;rw[←hR];simp only[List.length_append];omega⟩, ?_⟩
     subst hR
     have hD:dvOf u.base a= .text a.s:=by simp[dvOf,hform,hN]
     have eD:dfA u.base (a,t)=[.val (.int .u32 a.attr),dvV (.text a.s),.val (.int .i64 (fcls 31 a.attr))]:=by
      show [u32I a.attr,dvV (dvOf u.base a),intV (fcls a.form a.attr)]=_
      rw[hD,hform];rfl
     rw[eD] at hW1
     dsimp only
     rw[hW1]
     ((repeat' refine And.intro ?_ ?_)<;>first|rfl|omega)
    ·obtain ⟨pre,r,hsec,hpre,hsl⟩ :=hA.lin hform
     have hlp:z.lineStr.length=pre.length+(a.s.length+(r.length+1)):=by rw[hsec];simp
     have hpt:t.line.length=pre.length:=hpre.symm
     have hnum:numOf z.big (fixed pre.length 8 z.big)=pre.length:=by rw[numOf_fixed,Nat.mod_eq_of_lt (by omega)]
     have wi:IntKind.i64.wrap ((pre.length:Nat):Int)=pre.length:=wrap_i64 (by omega) (by omega)
     have wu:IntKind.u64.wrap ((pre.length:Nat):Int)=pre.length:=wrap_u64 (by omega) (by omega)
     have bne:(((pre.length:Nat):Int) != ((pre.length:Nat):Int))=false:=by simp
     have zl:(((z.lineStr.length:Nat):Int) == 0)=false:=by rw[beq_eq_false_iff_ne];omega
     have hwd:ud.wide=true:=by rw[hud.2.2];exact hw
     have ht:attrText ud a z.big t++R=fixed pre.length 8 z.big++R:=by simp[attrText,sizeOf',blockText,offsetSize,hform,hN,fixed1,encO,hpt,hwd]
     have hl:(attrText ud a z.big t).length=8:=by
      have:=congrArg List.length ht
      simp only[List.length_append,List.length_cons,fixed_len] at this
      omega
     rw[hl] at ho
     rw[ht]
     refine rnE @hform ?_
     refine callU [1] 0 (f225_ok hu) ?_;rintro ret os fs ⟨rfl,rfl,rfl⟩;refine sim ?_
     refine rnE (And.intro @hform @hw) ?_
     refine callU [0] 0 (f125_ok (b:=b) (dw:=dP z 1) (bg:=z.big) (fm:=fmU 1 h i) (nm:=nm) (post:=post) o1 (fixed pre.length 8 z.big) R (fixed_len _ _ _) (by omega)) ?_;rintro ret os fs ⟨rfl,rfl,rfl⟩;refine sim ?_
     repeat' first|refine rnE (And.intro @hform (And.intro @hnum (And.intro @wi (And.intro @wu (And.intro @bne (And.intro @zl (And.intro @hg (And.intro @hs @hwl)))))))) ?_|with_reducible refine fun (_:Outc)=>?_|fail
     refine hRegionD (fun jx _=>if jx=15 then mkC [] 484 0 [] (f94_ok (nm:=[108,105,110,101,95,115,116,114]) z 1 1 0 i h z.lineStr) else (default,([],[]))) [0,1,2,3,4,5,6,7,8,9,10,11,12,13,14,15,16] [0,1,3,7,0,16,48,112,0,256,768,1792,3840,7936,16128,32767,65535] [] mixed (by kernel_rfl) ?_
     refine sim ?_
     (skip);refine callDA ?_;rintro ret os fs ⟨rfl,rfl,rfl⟩;refine sim ?_
     rw[hsec]
     refine rnE @wi ?_
     refine callU [29] 0 (f124_ok (dw:=dP z 1) (bg:=z.big) (fm:=fmU 1 h i) (nm:=[108,105,110,101,95,115,116,114]) (post:=[]) 0 pre (a.s++0 :: r) (by omega)) ?_;rintro ret os fs ⟨rfl,rfl,rfl⟩;refine sim ?_
     refine rn ?_
     refine callU [29] 0 (f127_ok (dw:=dP z 1) (bg:=z.big) (fm:=fmU 1 h i) (nm:=[108,105,110,101,95,115,116,114]) (post:=[]) (0+pre.length) a.s r (hA.text (by simp[hform])) (by omega)) ?_;rintro ret os fs ⟨rfl,rfl,rfl⟩;refine sim ?_
     refine rnE (And.intro @hform (And.intro @hg (And.intro @hs (And.intro @hwl @w4)))) ?_
     all_goals try (rw[hwl];omega)
     refine ⟨⟨(j+1,o1+8),by dsimp only;rw[←hR];simp only[List.length_append];omega⟩, ?_⟩
     subst hR
     have hD:dvOf u.base a= .text a.s:=by simp[dvOf,hform,hN]
     have eD:dfA u.base (a,t)=[.val (.int .u32 a.attr),dvV (.text a.s),.val (.int .i64 (fcls 31 a.attr))]:=by
      show [u32I a.attr,dvV (dvOf u.base a),intV (fcls a.form a.attr)]=_
      rw[hD,hform];rfl
     rw[eD] at hW1
     dsimp only
     rw[hW1]
     ((repeat' refine And.intro ?_ ?_)<;>first|rfl|omega)
   ·cases hw:u.wide
    ·have hN31:=href (by simp[hform])
     have hnum:numOf z.big (fixed N 4 z.big)=N:=by rw[numOf_fixed,Nat.mod_eq_of_lt (by omega)]
     have wi:IntKind.i64.wrap (N:Int)=N:=wrap_i64 (by omega) (by omega)
     have hwd:ud.wide=false:=by rw[hud.2.2];exact hw
     have ht:attrText ud a z.big t++R=fixed N 4 z.big++R:=by simp[attrText,sizeOf',blockText,offsetSize,hform,hN,fixed1,encO,hwd]
     have hl:(attrText ud a z.big t).length=4:=by
      have:=congrArg List.length ht
      simp only[List.length_append,List.length_cons,fixed_len] at this
      omega
     rw[hl] at ho
     rw[ht]
     refine rnE @hform ?_
     refine callU [1] 0 (f225_ok hu) ?_;rintro ret os fs ⟨rfl,rfl,rfl⟩;refine sim ?_
     refine rnE (And.intro @hform @hw) ?_
     refine callU [0] 0 (f126_ok (b:=b) (dw:=dP z 1) (bg:=z.big) (fm:=fmU 1 h i) (nm:=nm) (post:=post) o1 (fixed N 4 z.big) R (fixed_len _ _ _) (by omega)) ?_;rintro ret os fs ⟨rfl,rfl,rfl⟩;refine sim ?_
     refine rnE (And.intro @hform (And.intro @hg (And.intro @hs (And.intro @hwl (And.intro @w4 (And.intro @hnum @wi)))))) ?_
     all_goals try (rw[hwl];omega)
     refine ⟨⟨(j+1,o1+4),by dsimp only;rw[←hR];simp only[List.length_append];omega⟩, ?_⟩
     subst hR
     have hD:dvOf u.base a= .int N:=by simp[dvOf,hform,hN,wi]
     have eD:dfA u.base (a,t)=[.val (.int .u32 a.attr),dvV (.int N),.val (.int .i64 (fcls 23 a.attr))]:=by
      show [u32I a.attr,dvV (dvOf u.base a),intV (fcls a.form a.attr)]=_
      rw[hD,hform];rfl
     rw[eD] at hW1
     dsimp only
     rw[hW1]
     ((repeat' refine And.intro ?_ ?_)<;>first|rfl|omega)
    ·have hN31:=href (by simp[hform])
     have hnum:numOf z.big (fixed N 8 z.big)=N:=by rw[numOf_fixed,Nat.mod_eq_of_lt (by omega)]
     have wi:IntKind.i64.wrap (N:Int)=N:=wrap_i64 (by omega) (by omega)
     have hwd:ud.wide=true:=by rw[hud.2.2];exact hw
     have ht:attrText ud a z.big t++R=fixed N 8 z.big++R:=by simp[attrText,sizeOf',blockText,offsetSize,hform,hN,fixed1,encO,hwd]
     have hl:(attrText ud a z.big t).length=8:=by
      have:=congrArg List.length ht
      simp only[List.length_append,List.length_cons,fixed_len] at this
      omega
     rw[hl] at ho
     rw[ht]
     refine rnE @hform ?_
     refine callU [1] 0 (f225_ok hu) ?_;rintro ret os fs ⟨rfl,rfl,rfl⟩;refine sim ?_
     refine rnE (And.intro @hform @hw) ?_
     refine callU [0] 0 (f125_ok (b:=b) (dw:=dP z 1) (bg:=z.big) (fm:=fmU 1 h i) (nm:=nm) (post:=post) o1 (fixed N 8 z.big) R (fixed_len _ _ _) (by omega)) ?_;rintro ret os fs ⟨rfl,rfl,rfl⟩;refine sim ?_
     refine rnE (And.intro @hform (And.intro @hg (And.intro @hs (And.intro @hwl (And.intro @w4 (And.intro @hnum @wi)))))) ?_
     all_goals try (rw[hwl];omega)
     refine ⟨⟨(j+1,o1+8),by dsimp only;rw[←hR];simp only[List.length_append];omega⟩, ?_⟩
     subst hR
     have hD:dvOf u.base a= .int N:=by simp[dvOf,hform,hN,wi]
     have eD:dfA u.base (a,t)=[.val (.int .u32 a.attr),dvV (.int N),.val (.int .i64 (fcls 23 a.attr))]:=by
      show [u32I a.attr,dvV (dvOf u.base a),intV (fcls a.form a.attr)]=_
      rw[hD,hform];rfl
     rw[eD] at hW1
     dsimp only
     rw[hW1]
     ((repeat' refine And.intro ?_ ?_)<;>first|rfl|omega)
   ·have wl:IntKind.i64.wrap ((a.b.length:Nat):Int)=((a.b.length:Nat):Int):=by exact wrap_i64 (by omega) (by omega)
    have ht:attrText ud a z.big t++R=encU a.b.length 0++(a.b++R):=by simp[attrText,sizeOf',blockText,offsetSize,hform,hN,fixed1,encO]
    have hl:(attrText ud a z.big t).length=(encU a.b.length 0).length+a.b.length:=by
     have:=congrArg List.length ht
     simp only[List.length_append,List.length_cons,fixed_len] at this
     omega
    rw[hl] at ho
    rw[ht]
    refine rnE @hform ?_
    refine hRegionD (fun jx _=>if jx=2 then mkC [0] 625 0 [] (f121_ok (b:=b) (dw:=dP z 1) (bg:=z.big) (fm:=fmU 1 h i) (nm:=nm) (post:=post) o1 a.b.length 0 (a.b++R) (by omega) (by omega) (by omega) (by simp only[List.length_append];omega)) else if jx=4 then mkC [0] 627 0 [] (f137_ok (b:=b) (dw:=dP z 1) (bg:=z.big) (fm:=fmU 1 h i) (nm:=nm) (post:=post) (o1+(encU a.b.length 0).length) a.b R (by omega)) else (default,([],[]))) [0,1,2,3,4,5,6] [0,0,2,6,15,31,63] [(0,2)] mixed (by kernel_rfl) ?_
    refine simE @wl ?_
    (skip);refine callDA ?_;rintro ret os fs ⟨rfl,rfl,rfl⟩;refine sim ?_
    refine simE @wl ?_
    (skip);refine callDA ?_;rintro ret os fs ⟨rfl,rfl,rfl⟩;refine sim ?_
    refine rnE (And.intro @hform (And.intro @hg (And.intro @hs (And.intro @hwl @w4)))) ?_
    all_goals try (rw[hwl];omega)
    refine ⟨⟨(j+1,o1+(encU a.b.length 0).length+a.b.length),by dsimp only;rw[←hR];simp only[List.length_append];omega⟩, ?_⟩
    subst hR
    have hD:dvOf u.base a= .bytes a.b:=by simp[dvOf,hform,hN]
    have eD:dfA u.base (a,t)=[.val (.int .u32 a.attr),dvV (.bytes a.b),.val (.int .i64 (fcls 24 a.attr))]:=by
     show [u32I a.attr,dvV (dvOf u.base a),intV (fcls a.form a.attr)]=_
     rw[hD,hform];rfl
    rw[eD] at hW1
    dsimp only
    rw[hW1]
    ((repeat' refine And.intro ?_ ?_)<;>first|rfl|omega)
 ·have:j=ats.length:=by omega
  subst this
  have e0:atsText ud z.big (ats.drop ats.length)++rest=rest:=by rw[List.drop_length];rfl
  have ed:ats.map (dfA u.base)=(ats.map fun p=>dfOf u.base p.1).map dfRow:=by rw[List.map_map];rfl
  rw[e0] at ho ⊢
  rw[rowsG_n,ed,←hfr]
  have p1:=hpost.turn 81
  have p2:=hpost.turn 83
  have p3:=hpost.fit 81
  have p4:=hpost.fit 83
  refine hEnt (eFrz 81 (by simp -implicitDefEqProofs only[go_sem,↓reduceIte,Nat.reduceEqDiff,Nat.reduceLT,Nat.reduceLeDiff,Nat.reduceAdd,Nat.reduceSub,Nat.reduceMul,reduceCtorEq,List.reduceReplicate,Nat.reduceBEq,p3 _ (by decide)])) ?_
  simp -implicitDefEqProofs only[go_sem,↓reduceIte,Nat.reduceEqDiff,Nat.reduceLT,Nat.reduceLeDiff,Nat.reduceAdd,Nat.reduceSub,Nat.reduceMul,reduceCtorEq,List.reduceReplicate,Nat.reduceBEq,p1 _ (by decide)]
  refine hEnt (eFrz 83 (by simp -implicitDefEqProofs only[go_sem,↓reduceIte,Nat.reduceEqDiff,Nat.reduceLT,Nat.reduceLeDiff,Nat.reduceAdd,Nat.reduceSub,Nat.reduceMul,reduceCtorEq,List.reduceReplicate,Nat.reduceBEq,p4 _ (by decide)])) ?_
  simp -implicitDefEqProofs only[go_sem,↓reduceIte,Nat.reduceEqDiff,Nat.reduceLT,Nat.reduceLeDiff,Nat.reduceAdd,Nat.reduceSub,Nat.reduceMul,reduceCtorEq,List.reduceReplicate,Nat.reduceBEq,p2 _ (by decide)]
  refine rn ?_
  refine doneA [] ?_;try exact trivial
  simp only[List.length_append] at ho
  refine ⟨rfl, ?_,rfl⟩
  have:o=off+((encU id 0).length+(atsText ud z.big ats).length):=by omega
  rw[this]
end
end Go.Proofs.YtbkfdnkeelmloaaGreatDoor
