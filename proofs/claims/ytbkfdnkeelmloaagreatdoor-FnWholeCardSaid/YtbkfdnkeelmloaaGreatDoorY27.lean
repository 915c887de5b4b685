/- Part 27 of the proof: R17 R18 R19. -/
import Derived.Test.YtbkfdnkeelmloaaGreatDoorY19
import Derived.Test.YtbkfdnkeelmloaaGreatDoorZ20
set_option linter.unusedVariables false
set_option linter.unusedSimpArgs false
namespace Go.Proofs.YtbkfdnkeelmloaaGreatDoor
set_option maxHeartbeats 4000000
set_option maxRecDepth 10000
open Go.AM Go
structure ListedOK (l:LayoutD) (x:SpanD):Prop where
 listed:x.listed=true
 sp:SpanIn x
 good:∀p∈x.pieces,¬badPiece l p
 ends:∀p∈places x,p.2 < most
def restText (l:LayoutD) (x:SpanD) (j:Nat):Bytes:=(x.pieces.drop j).flatMap (pieceText l)++(if l.version < 5 then address l 0++address l 0 else [0])
theorem restText_0 (l:LayoutD) (x:SpanD):restText l x 0=listText l x:=by simp[restText,listText]
theorem restText_cons {l:LayoutD} {x:SpanD} {j:Nat} {p:PieceD} (h:x.pieces[j]? =some p):restText l x j=pieceText l p++restText l x (j+1):=by
 obtain ⟨hj,rfl⟩ :=List.getElem?_eq_some_iff.1 h
 rw[restText,List.drop_eq_getElem_cons hj,List.flatMap_cons,List.append_assoc];rfl
theorem restText_n (l:LayoutD) (x:SpanD):restText l x x.pieces.length=if l.version < 5 then address l 0++address l 0 else [0]:=by simp[restText]
section
variable {G:Nat→AV} {g:GData} {z:DataR}
theorem f106_ok (l:LayoutD) (x:SpanD) (hx:ListedOK l x) (hv:l.version < 5) (hbg:z.big=l.big) (us:List UnitR) (i:Nat) (u:UnitR) (hu:us[i]? =some u) (hz:l.size=4∨l.size=8) (hsz:u.size=l.size)
  (pre rest:Bytes) (hr:z.ranges=pre++(listText l x++rest)) (hl:z.ranges.length≤1000000000) (kz:Nat):
  Fulfils Tryz.prog G 106 [dP z kz,.aref 0 z.hU 9 i 0,u64V x.low,.val (.int .i64 pre.length),.val (.slice none 0 0)] [.arr z.hU 216 9 (us.map unitRow)]
  (fun ret os fs=>∃h,ret=(fun _=>.tup [.buf 1 h,.val .nilIface])∧os=[some (.arr z.hU 216 9 (us.map unitRow))]∧fs=[some (.arr h 154 2 (placeR (places x)))]):=by
 have hbig:big=140737488355328:=rfl
 have hm:most=2147483648:=rfl
 have hpl:pre.length+(listText l x++rest).length=z.ranges.length:=by rw[hr];simp only[List.length_append]
 have w0:=wrap_u32 pre.length (by omega)
 have c0:decide (((pre.length:Nat):Int) < 0)=false:=by rw[decide_eq_false_iff_not];omega
 have c1:decide ((z.ranges.length:Int) < ((pre.length:Nat):Int))=false:=by rw[decide_eq_false_iff_not];omega
 have e1:z.ranges.drop pre.length=restText l x 0++rest:=by rw[hr,List.drop_left' rfl,restText_0]
 have hn:=hx.sp.len
 refine dP_any ?_
 refine fulfilA Tryz.f106 [.tmp 10,.tmp 11] 1 ?_
 simp only[Tryz.f106,Option.getD_some,go_sem]
 refine rnE (And.intro @c0 (And.intro @c1 (And.intro @w0 @e1))) ?_
 refine callA [] 0 (f94_ok (nm:=[114,97,110,103,101,115]) z 0 0 pre.length i z.hU (restText l x 0++rest)) ?_;rintro ret os fs ⟨rfl,rfl,rfl⟩;refine sim ?_
 with_reducible refine fun (_:Outc)=>?_
 rename Outc=>o1
 refine hEnt (eOwn 3001 4 154 2 sT) ?_
 refine sim ?_
 refine rn ?_
 refine hLoop (X:={p:Value×Nat×Nat // p.2.1≤x.pieces.length∧p.2.2+(restText l x p.2.1++rest).length=z.ranges.length}) (fun p=> ⟨[(1,.aref 0 z.hU 9 i 0),(2,u64V (placesAcc x (x.pieces.take p.1.2.1)).base),(4,.buf 3001 p.1.1),(12,.ref 12 o1.b 0)],
  [(0,some (.arr z.hU 216 9 (us.map unitRow))),(12,some (bufO o1.b (dP z 0) z.big (fmU 0 z.hU i) [114,97,110,103,101,115] p.1.2.2 (restText l x p.1.2.1++rest) [])),(3001,some (.arr p.1.1 154 2 (placeR (placesAcc x (x.pieces.take p.1.2.1)).out)))]⟩) (fun p=>x.pieces.length - p.1.2.1)
  ⟨(.slice none 0 0,0,pre.length),Nat.zero_le _,by rw[restText_0];exact hpl⟩ (by simp only[List.take_zero,placesAcc,List.foldl_nil];refine sim ?_;all_goals ((repeat' refine And.intro ?_ ?_)<;>rfl)) ?_
 rintro ⟨⟨h,j,o⟩,hj,ho⟩
 simp only at hj ho
 refine sim ?_
 have hacc:=placesAcc_in hx.sp j
 have hal:∀n,(address l n).length=l.size.toNat:=fun n=>fixed_len _ _ _
 have hrl:0 < (restText l x j).length:=by
  have:=hal 0
  simp only[restText,if_pos hv,List.length_append];omega
 by_cases hlt:j < x.pieces.length
 ·obtain ⟨p,hp⟩ :=getX x.pieces hlt
  have hpb:=hx.sp.pieces p (List.mem_of_getElem? hp)
  have hg:=hx.good p (List.mem_of_getElem? hp)
  have hk:p.kind=0∨p.kind=1:=by unfold badPiece at hg;omega
  obtain ⟨A,hA⟩ :∃A:Nat,p.a=A:= ⟨p.a.toNat,by omega⟩
  obtain ⟨B,hB⟩ :∃B:Nat,p.b=B:= ⟨p.b.toNat,by omega⟩
  have hst:=placesAcc_succ (x:=x) hp
  unfold placeStep at hst
  have hrc:=restText_cons (l:=l) hp
  obtain ⟨R,hR⟩ :∃R,R=restText l x (j+1)++rest:= ⟨_,rfl⟩
  have hzz:u.size=4∨u.size=8:=by omega
  have hu0:u.size.toNat=4∨u.size.toNat=8:=by omega
  have h256:∀n:Nat,n < 4294967296→n < 256 ^ u.size.toNat:=fun n hn=>by rcases hu0 with e|e<;>rw[e]<;>omega
  obtain ⟨T,V,hTV⟩ :∃T V:Nat,(p.kind=0∧T=A∧V=B)∨(p.kind=1∧T=(topL l).toNat∧V=A):=by
   rcases hk with hk|hk
   ·exact ⟨A,B,.inl ⟨hk,rfl,rfl⟩⟩
   ·exact ⟨_,A,.inr ⟨hk,rfl,rfl⟩⟩
  have htop:(topL l).toNat < 256 ^ u.size.toNat∧2147483648 < (topL l).toNat:=by
   rw[hsz]
   unfold topL
   rcases hz with e|e<;>rw[e]<;>decide
  have hT:T < 256 ^ u.size.toNat:=by
   rcases hTV with ⟨_,e,_⟩ | ⟨_,e,_⟩
   ·rw[e];exact h256 A (by omega)
   ·rw[e];exact htop.1
  have ht:restText l x j++rest=fixed T u.size.toNat z.big++(fixed V u.size.toNat z.big++R):=by
   rw[hrc,pieceText,if_pos hv,hR,hbg,hsz]
   rcases hTV with ⟨e,rfl,rfl⟩ | ⟨e,rfl,rfl⟩
   ·rw[if_neg (by omega)];simp[address,hA,hB]
   ·rw[if_pos e];simp[address,hA]
  have cTV:(((T:Int) == 0) && ((V:Int) == 0))=false:=by
   have:¬(T=0∧V=0):=by unfold badPiece at hg;omega
   grind
  have htl:=congrArg List.length ht
  have lT:=fixed_len T u.size.toNat z.big
  have lV:=fixed_len V u.size.toNat z.big
  simp only[List.length_append,fixed_len] at htl ho
  rw[ht]
  refine rn ?_
  refine callA [12,0] 0 (f131_ok (h:=z.hU) (dw:=dP z 1) (bg:=z.big) (nm:=[114,97,110,103,101,115]) (post:=[]) hu o T (fixed V u.size.toNat z.big++R) hzz hT (by omega)) ?_;rintro ret os fs ⟨rfl,rfl,rfl⟩;refine sim ?_
  refine rn ?_
  refine callA [12,0] 0 (f131_ok (h:=z.hU) (dw:=dP z 1) (bg:=z.big) (nm:=[114,97,110,103,101,115]) (post:=[]) hu (o+u.size.toNat) V R hzz (h256 V (by omega)) (by omega)) ?_;rintro ret os fs ⟨rfl,rfl,rfl⟩;refine sim ?_
  refine rnE @cTV ?_
  refine callA [0] 0 (f150_ok (h:=z.hU) hu) ?_;rintro ret os fs ⟨rfl,rfl,rfl⟩;refine sim ?_
  repeat' first|refine rn ?_|refine br fun hb=>?_|with_reducible refine And.intro ?_ ?_|with_reducible refine fun (_:Outc)=>?_|fail
  all_goals
   have hmask:Int.fdiv 18446744073709551615 (2 ^ min (IntKind.u64.wrap (IntKind.i64.wrap (IntKind.i64.wrap (8 - u.size) * 8))).toNat 64)=(((topL l).toNat:Nat):Int):=by
    rw[hsz];unfold topL
    rcases hz with e|e<;>rw[e]<;>rfl
   rw[hmask] at hb
  ·refine ⟨⟨(h,j+1,o+u.size.toNat+u.size.toNat),hlt,by dsimp only;rw[←hR];omega⟩, ?_⟩
   have hk1:p.kind=1∧V=A:=by omega
   rw[if_neg (by omega),if_pos hk1.1,hA] at hst
   dsimp only
   rw[hst,hk1.2,←hR]
   ((repeat' refine And.intro ?_ ?_)<;>first|rfl|omega)
  ·rename Outc=>oz
   refine ⟨⟨(oz.h,j+1,o+u.size.toNat+u.size.toNat),hlt,by dsimp only;rw[←hR];omega⟩, ?_⟩
   have hk0:p.kind=0∧T=A∧V=B:=by omega
   have hp0:=hpb
   rw[if_pos hk0.1,hA,hB] at hst
   have w1:IntKind.u64.wrap ((placesAcc x (x.pieces.take j)).base+(T:Int))=(placesAcc x (x.pieces.take j)).base+(A:Int):=by rw[hk0.2.1];exact wrap_u64 (by omega) (by omega)
   have w2:IntKind.u64.wrap ((placesAcc x (x.pieces.take j)).base+(V:Int))=(placesAcc x (x.pieces.take j)).base+(B:Int):=by rw[hk0.2.2];exact wrap_u64 (by omega) (by omega)
   dsimp only
   rw[hst,w1,w2,←hR]
   ((repeat' refine And.intro ?_ ?_)<;>first|rfl|omega)
 ·have:j=x.pieces.length:=by omega
  subst this
  rw[restText_n,if_pos hv] at ho ⊢
  have z0:address l 0=fixed 0 u.size.toNat z.big:=by rw[address,hbg,hsz];rfl
  rw[z0,List.append_assoc] at ho ⊢
  have l0:=fixed_len 0 u.size.toNat z.big
  have hzz:u.size=4∨u.size=8:=by omega
  simp only[List.length_append] at ho
  refine rn ?_
  refine callA [12,0] 0 (f131_ok (h:=z.hU) (dw:=dP z 1) (bg:=z.big) (nm:=[114,97,110,103,101,115]) (post:=[]) hu o 0 (fixed 0 u.size.toNat z.big++rest) hzz (Nat.pow_pos (by decide)) (by omega)) ?_;rintro ret os fs ⟨rfl,rfl,rfl⟩;refine sim ?_
  refine rn ?_
  refine callA [12,0] 0 (f131_ok (h:=z.hU) (dw:=dP z 1) (bg:=z.big) (nm:=[114,97,110,103,101,115]) (post:=[]) hu (o+u.size.toNat) 0 rest hzz (Nat.pow_pos (by decide)) (by omega)) ?_;rintro ret os fs ⟨rfl,rfl,rfl⟩;refine sim ?_
  refine rn ?_
  refine doneA [(3001,1)] ?_;try exact trivial
  refine ⟨_,rfl, ?_⟩
  rw[places,if_pos hx.listed]
end
set_option maxHeartbeats 4000000
set_option maxRecDepth 10000
open Go.AM Go
section
variable {G:Nat→AV} {g:GData} {z:DataR}
def rngN:Bytes:=[114,110,103,108,105,115,116,115]
attribute [go_sem] rngN
theorem f105_ok (l:LayoutD) (x:SpanD) (hx:ListedOK l x) (hv:¬l.version < 5) (hbg:z.big=l.big) (us:List UnitR) (i:Nat) (u:UnitR) (hu:us[i]? =some u) (hz:l.size=4∨l.size=8) (hsz:u.size=l.size)
  (e:DEntry) (hel:e.fields.length≤1000) (he:fldAt e.fields 115=none) (pre rest:Bytes) (hr:z.rngLists=pre++(listText l x++rest)) (hl:z.rngLists.length≤1000000000) (kz:Nat):
  Fulfils Tryz.prog G 105 [dP z kz,.aref 0 z.hU 9 i 0,deP e,u64V x.low,.val (.int .i64 pre.length),.val (.slice none 0 0)] [.arr z.hU 216 9 (us.map unitRow)]
  (fun ret os fs=>∃h,ret=(fun _=>.tup [.buf 1 h,.val .nilIface])∧os=[some (.arr z.hU 216 9 (us.map unitRow))]∧fs=[some (.arr h 154 2 (placeR (places x)))]):=by
 have hbig:big=140737488355328:=rfl
 have hm:most=2147483648:=rfl
 have hpl:pre.length+(listText l x++rest).length=z.rngLists.length:=by rw[hr];simp only[List.length_append]
 have c0:decide (((pre.length:Nat):Int) < 0)=false:=by rw[decide_eq_false_iff_not];omega
 have c1:decide ((z.rngLists.length:Int) < ((pre.length:Nat):Int))=false:=by rw[decide_eq_false_iff_not];omega
 have e1:z.rngLists=pre++(restText l x 0++rest):=by rw[hr,restText_0]
 have wi:=wrap_i64 (n:=(pre.length:Int)) (by omega) (by omega)
 have hn:=hx.sp.len
 have hval:=f100_ok (G:=G) e 115 hel
 rw[he] at hval
 refine dP_any ?_
 refine fulfilA Tryz.f105 [.tmp 12,.tmp 13] 1 ?_
 simp only[Tryz.f105,Option.getD_some,go_sem]
 refine hEnt (eKey 0 902 sT (by decide)) ?_;refine sim ?_
 refine rnE (And.intro @c0 @c1) ?_
 refine callP hval rfl ?_;refine sim ?_
 refine rn ?_
 refine callA [] 0 (f94_ok (nm:=rngN) z 902 902 0 i z.hU z.rngLists) ?_;rintro ret os fs ⟨rfl,rfl,rfl⟩;refine sim ?_
 with_reducible refine fun (_:Outc)=>?_
 rename Outc=>o1
 rw[e1]
 refine rnE @wi ?_
 refine callA [15] 0 (f124_ok (dw:=dP z 902) (bg:=z.big) (fm:=fmU 902 z.hU i) (nm:=rngN) (post:=[]) 0 pre (restText l x 0++rest) (by omega)) ?_;rintro ret os fs ⟨rfl,rfl,rfl⟩;refine sim ?_
 refine hEnt (eOwn 3001 5 154 2 sT) ?_
 refine sim ?_
 refine rn ?_
 refine hLoop (X:={p:Value×Nat×Nat // p.2.1≤x.pieces.length∧p.2.2+(restText l x p.2.1++rest).length=z.rngLists.length}) (fun p=> ⟨[(0,dP z 902),(1,.aref 902 z.hU 9 i 0),(3,u64V (placesAcc x (x.pieces.take p.1.2.1)).base),(5,.buf 3001 p.1.1),(15,.ref 15 o1.b 0)],
  [(902,some (.arr z.hU 216 9 (us.map unitRow))),(15,some (bufO o1.b (dP z 902) z.big (fmU 902 z.hU i) rngN p.1.2.2 (restText l x p.1.2.1++rest) [])),(3001,some (.arr p.1.1 154 2 (placeR (placesAcc x (x.pieces.take p.1.2.1)).out)))]⟩) (fun p=>x.pieces.length - p.1.2.1)
  ⟨(.slice none 0 0,0,0+pre.length),Nat.zero_le _,by rw[restText_0];simp only[Nat.zero_add];exact hpl⟩ (by simp only[List.take_zero,placesAcc,List.foldl_nil];refine sim ?_;all_goals ((repeat' refine And.intro ?_ ?_)<;>rfl)) ?_
 rintro ⟨⟨h,j,o⟩,hj,ho⟩
 simp only at hj ho
 refine sim ?_
 have hacc:=placesAcc_in hx.sp j
 have hzz:u.size=4∨u.size=8:=by omega
 have hu0:u.size.toNat=4∨u.size.toNat=8:=by omega
 have h256:∀n:Nat,n < 4294967296→n < 256 ^ u.size.toNat:=fun n hn=>by rcases hu0 with e|e<;>rw[e]<;>omega
 by_cases hlt:j < x.pieces.length
 ·obtain ⟨p,hp⟩ :=getX x.pieces hlt
  have hpb:=hx.sp.pieces p (List.mem_of_getElem? hp)
  have hg:=hx.good p (List.mem_of_getElem? hp)
  have hk:p.kind=0∨p.kind=1∨p.kind=2∨p.kind=3:=by unfold badPiece at hg;omega
  obtain ⟨A,hA⟩ :∃A:Nat,p.a=A:= ⟨p.a.toNat,by omega⟩
  obtain ⟨B,hB⟩ :∃B:Nat,p.b=B:= ⟨p.b.toNat,by omega⟩
  rw[hA,hB] at hpb
  have hst:=placesAcc_succ (x:=x) hp
  unfold placeStep at hst
  have hrc:=restText_cons (l:=l) hp
  obtain ⟨R,hR⟩ :∃R,R=restText l x (j+1)++rest:= ⟨_,rfl⟩
  have lA:=fixed_len A u.size.toNat z.big
  have lB:=fixed_len B u.size.toNat z.big
  have eA:=encU_len 0 (n:=A) (by omega)
  have eB:=encU_len 0 (n:=B) (by omega)
  generalize hbase:(placesAcc x (x.pieces.take j)).base=bs at *
  have w1:IntKind.u64.wrap (bs+(A:Int))=bs+(A:Int):=wrap_u64 (by omega) (by omega)
  have w2:IntKind.u64.wrap (bs+(B:Int))=bs+(B:Int):=wrap_u64 (by omega) (by omega)
  have w3:IntKind.u64.wrap ((A:Int)+(B:Int))=(A:Int)+(B:Int):=wrap_u64 (by omega) (by omega)
  rcases hk with hk|hk|hk|hk
  ·have ht:restText l x j++rest=4 :: (encU A 0++(encU B 0++R)):=by
    rw[hrc,pieceText,if_neg hv,if_pos hk,hR];simp[hA,hB]
   have htl:=congrArg List.length ht
   simp only[List.length_append,List.length_cons] at htl ho
   rw[ht]
   refine rn ?_
   refine callA [15] 0 (f132_ok (dw:=dP z 902) (bg:=z.big) (fm:=fmU 902 z.hU i) (nm:=rngN) (post:=[]) o 4 (encU A 0++(encU B 0++R)) (by omega)) ?_;rintro ret os fs ⟨rfl,rfl,rfl⟩;refine sim ?_
   refine rn ?_
   refine callA [15] 0 (f121_ok (dw:=dP z 902) (bg:=z.big) (fm:=fmU 902 z.hU i) (nm:=rngN) (post:=[]) (o+1) A 0 (encU B 0++R) (by omega) (by omega) (by omega) (by (try simp only[List.length_append]);omega)) ?_;rintro ret os fs ⟨rfl,rfl,rfl⟩;refine sim ?_
   refine rnE (And.intro @w1 (And.intro @w2 @w3)) ?_
   refine callA [15] 0 (f121_ok (dw:=dP z 902) (bg:=z.big) (fm:=fmU 902 z.hU i) (nm:=rngN) (post:=[]) (o+1+(encU A 0).length) B 0 (R) (by omega) (by omega) (by omega) (by (try simp only[List.length_append]);omega)) ?_;rintro ret os fs ⟨rfl,rfl,rfl⟩;refine sim ?_
   repeat' first|refine rnE (And.intro @w1 (And.intro @w2 @w3)) ?_|with_reducible refine fun (_:Outc)=>?_|fail
   rename Outc=>oz
   refine ⟨⟨(oz.h,j+1,o+1+(encU A 0).length+(encU B 0).length),hlt,by dsimp only;rw[←hR];omega⟩, ?_⟩
   rw[if_pos hk,hA,hB] at hst
   dsimp only
   rw[hst,←hR]
   ((repeat' refine And.intro ?_ ?_)<;>first|rfl|omega)
  ·have ht:restText l x j++rest=5 :: (fixed A u.size.toNat z.big++R):=by
    rw[hrc,pieceText,if_neg hv,if_neg (by omega),if_pos hk,hR];simp[address,hA,hbg,hsz]
   have htl:=congrArg List.length ht
   simp only[List.length_append,List.length_cons] at htl ho
   rw[ht]
   refine rn ?_
   refine callA [15] 0 (f132_ok (dw:=dP z 902) (bg:=z.big) (fm:=fmU 902 z.hU i) (nm:=rngN) (post:=[]) o 5 (fixed A u.size.toNat z.big++R) (by omega)) ?_;rintro ret os fs ⟨rfl,rfl,rfl⟩;refine sim ?_
   refine rn ?_
   refine callA [15,902] 0 (f131_ok (h:=z.hU) (dw:=dP z 1) (bg:=z.big) (nm:=rngN) (post:=[]) hu (o+1) A (R) hzz (h256 A (by omega)) (by omega)) ?_;rintro ret os fs ⟨rfl,rfl,rfl⟩;refine sim ?_
   skip
   refine ⟨⟨(h,j+1,o+1+u.size.toNat),hlt,by dsimp only;rw[←hR];omega⟩, ?_⟩
   rw[if_neg (by omega),if_pos hk,hA] at hst
   dsimp only
   rw[hst,←hR]
   ((repeat' refine And.intro ?_ ?_)<;>first|rfl|omega)
  ·have ht:restText l x j++rest=6 :: (fixed A u.size.toNat z.big++(fixed B u.size.toNat z.big++R)):=by
    rw[hrc,pieceText,if_neg hv,if_neg (by omega),if_neg (by omega),if_pos hk,hR];simp[address,hA,hB,hbg,hsz]
   have htl:=congrArg List.length ht
   simp only[List.length_append,List.length_cons] at htl ho
   rw[ht]
   refine rn ?_
   refine callA [15] 0 (f132_ok (dw:=dP z 902) (bg:=z.big) (fm:=fmU 902 z.hU i) (nm:=rngN) (post:=[]) o 6 (fixed A u.size.toNat z.big++(fixed B u.size.toNat z.big++R)) (by omega)) ?_;rintro ret os fs ⟨rfl,rfl,rfl⟩;refine sim ?_
   refine rn ?_
   refine callA [15,902] 0 (f131_ok (h:=z.hU) (dw:=dP z 1) (bg:=z.big) (nm:=rngN) (post:=[]) hu (o+1) A (fixed B u.size.toNat z.big++R) hzz (h256 A (by omega)) (by omega)) ?_;rintro ret os fs ⟨rfl,rfl,rfl⟩;refine sim ?_
   refine rnE (And.intro @w1 (And.intro @w2 @w3)) ?_
   refine callA [15,902] 0 (f131_ok (h:=z.hU) (dw:=dP z 1) (bg:=z.big) (nm:=rngN) (post:=[]) hu (o+1+u.size.toNat) B (R) hzz (h256 B (by omega)) (by omega)) ?_;rintro ret os fs ⟨rfl,rfl,rfl⟩;refine sim ?_
   repeat' first|refine rnE (And.intro @w1 (And.intro @w2 @w3)) ?_|with_reducible refine fun (_:Outc)=>?_|fail
   rename Outc=>oz
   refine ⟨⟨(oz.h,j+1,o+1+u.size.toNat+u.size.toNat),hlt,by dsimp only;rw[←hR];omega⟩, ?_⟩
   rw[if_neg (by omega),if_neg (by omega),if_pos hk,hA,hB] at hst
   dsimp only
   rw[hst,←hR]
   ((repeat' refine And.intro ?_ ?_)<;>first|rfl|omega)
  ·have ht:restText l x j++rest=7 :: (fixed A u.size.toNat z.big++(encU B 0++R)):=by
    rw[hrc,pieceText,if_neg hv,if_neg (by omega),if_neg (by omega),if_neg (by omega),hR];simp[address,hA,hB,hbg,hsz]
   have htl:=congrArg List.length ht
   simp only[List.length_append,List.length_cons] at htl ho
   rw[ht]
   refine rn ?_
   refine callA [15] 0 (f132_ok (dw:=dP z 902) (bg:=z.big) (fm:=fmU 902 z.hU i) (nm:=rngN) (post:=[]) o 7 (fixed A u.size.toNat z.big++(encU B 0++R)) (by omega)) ?_;rintro ret os fs ⟨rfl,rfl,rfl⟩;refine sim ?_
   refine rn ?_
   refine callA [15,902] 0 (f131_ok (h:=z.hU) (dw:=dP z 1) (bg:=z.big) (nm:=rngN) (post:=[]) hu (o+1) A (encU B 0++R) hzz (h256 A (by omega)) (by omega)) ?_;rintro ret os fs ⟨rfl,rfl,rfl⟩;refine sim ?_
   refine rnE (And.intro @w1 (And.intro @w2 @w3)) ?_
   refine callA [15] 0 (f121_ok (dw:=dP z 902) (bg:=z.big) (fm:=fmU 902 z.hU i) (nm:=rngN) (post:=[]) (o+1+u.size.toNat) B 0 (R) (by omega) (by omega) (by omega) (by (try simp only[List.length_append]);omega)) ?_;rintro ret os fs ⟨rfl,rfl,rfl⟩;refine sim ?_
   repeat' first|refine rnE (And.intro @w1 (And.intro @w2 @w3)) ?_|with_reducible refine fun (_:Outc)=>?_|fail
   rename Outc=>oz
   refine ⟨⟨(oz.h,j+1,o+1+u.size.toNat+(encU B 0).length),hlt,by dsimp only;rw[←hR];omega⟩, ?_⟩
   rw[if_neg (by omega),if_neg (by omega),if_neg (by omega),if_pos hk,hA,hB] at hst
   dsimp only
   rw[hst,←hR]
   ((repeat' refine And.intro ?_ ?_)<;>first|rfl|omega)
 ·have:j=x.pieces.length:=by omega
  subst this
  have ht:restText l x x.pieces.length++rest=0 :: rest:=by rw[restText_n,if_neg hv];rfl
  have htl:=congrArg List.length ht
  simp only[List.length_append,List.length_cons] at htl ho
  rw[ht]
  refine rn ?_
  refine callA [15] 0 (f132_ok (dw:=dP z 902) (bg:=z.big) (fm:=fmU 902 z.hU i) (nm:=rngN) (post:=[]) o 0 (rest) (by omega)) ?_;rintro ret os fs ⟨rfl,rfl,rfl⟩;refine sim ?_
  repeat' first|refine s1 ?_|refine s2 ?_|refine hRegion (sim ?_)|refine hSkip (sim ?_)|(refine s7 rfl ?_ ?_<;>intro hb<;>first|(exact absurd hb (by decide))|skip)|fail
  refine hEnt (eKey 902 0 sT (by decide)) ?_;refine sim ?_
  refine rn ?_
  refine doneA [(3001,1)] ?_;try exact trivial
  refine ⟨_,rfl, ?_⟩
  rw[places,if_pos hx.listed]
end
set_option maxHeartbeats 4000000
set_option maxRecDepth 10000
open Go.AM Go
structure TopOK (x:SpanD) (pos:Nat) (e:DEntry):Prop where
 tag:e.tag=17
 len:e.fields.length≤1000
 low:fldAt e.fields 17=some ⟨17,.num x.low,1⟩
 hi:fldAt e.fields 18=if x.listed then none else if x.length then some ⟨18,.int (x.high - x.low),3⟩ else some ⟨18,.num x.high,1⟩
 rng:fldAt e.fields 85=if x.listed then some ⟨85,.int pos,9⟩ else none
 entry:fldAt e.fields 82=none
 base:fldAt e.fields 115=none
structure SpanRd (l:LayoutD) (z:DataR) (x:SpanD) (pos:Nat):Prop where
 vers:4≤l.version∧l.version≤5
 size:l.size=4∨l.size=8
 big:z.big=l.big
 listed:x.listed=true→ListedOK l x
 old:x.listed=true→l.version < 5→∃pre rest,z.ranges=pre++(listText l x++rest)∧pre.length=pos
 new:x.listed=true→¬l.version < 5→∃pre rest,z.rngLists=pre++(listText l x++rest)∧pre.length=pos
 len:z.ranges.length≤1000000000∧z.rngLists.length≤1000000000
 ne:¬l.version < 5→z.rngLists≠[]
 low:0≤x.low∧x.low < 2147483648
 high:0≤x.high∧x.high < 2147483648
 up:x.listed=false→x.low < x.high
section
variable {G:Nat→AV} {g:GData} {z:DataR}
theorem f104_ok (kz:Nat) (x:SpanD) (pos:Nat) (e:DEntry) (he:TopOK x pos e):Fulfils Tryz.prog G 104 [dP z kz,deP e] [] (retP (.tup [deP e,u64V x.low,.val .nilIface])):=by
 have e1:=f100_ok (G:=G) e 82 he.len
 have e2:=f100_ok (G:=G) e 17 he.len
 rw[he.entry] at e1
 rw[he.low] at e2
 have ht:(e.tag == 17)=true:=by rw[he.tag];rfl
 refine fulfilP (fn:=Tryz.f104) (rs:=[.tmp 4,.tmp 5,.tmp 6]) (Tryz.f104.body.getD .skip) (by kernel_rfl) rfl rfl rfl (by simp only[List.length_cons,List.length_nil];decide) rfl (by decide) ?_
 simp only[Tryz.f104,Option.getD_some,go_sem]
 refine rnE @ht ?_
 refine callP e1 rfl ?_;refine sim ?_
 refine rn ?_
 refine callP e2 rfl ?_;refine sim ?_
 exact rn trivial
theorem f56_ok (l:LayoutD) (x:SpanD) (pos kz:Nat) (e:DEntry) (he:TopOK x pos e) (hx:SpanRd l z x pos) (us:List UnitR) (i:Nat) (u:UnitR) (hu:us[i]? =some u) (hsz:u.size=l.size) (hvs:u.vers=l.version) (ho:e.off=u.off)
  (hd:0 < u.data.length) (h1:∀k v,us[k]? =some v→k < i→v.off≤e.off) (h2:∀k v,us[k]? =some v→i < k→e.off < v.off) (hn:us.length≤1000) (hl:u.off+u.data.length≤2000000000):
  Fulfils Tryz.prog G 56 [dP z kz,deP e] [.arr z.hU 216 9 (us.map unitRow)]
  (fun ret os fs=>∃h,ret=(fun _=>.tup [.buf 1 h,.val .nilIface])∧os=[some (.arr z.hU 216 9 (us.map unitRow))]∧fs=[some (.arr h 154 2 (placeR (places x)))]):=by
 have hbig:big=140737488355328:=rfl
 have er:=row_at unitRow hu
 have hi:=(List.getElem?_eq_some_iff.1 hu).1
 have e1:=f100_ok (G:=G) e 17 he.len
 have e2:=f103_ok (G:=G) e 18 he.len
 have e3:=f103_ok (G:=G) e 85 he.len
 have e4:=f100_ok (G:=G) e 85 he.len
 have e5:=f96_ok (G:=G) z us i u e.off 0 hu (by omega) (by omega) h1 h2 hn hl
 have e6:=f104_ok (G:=G) (z:=z) 0 x pos e he
 have hhi:=he.hi
 have hrng:=he.rng
 have hvv:=hx.vers
 rw[he.low] at e1
 refine dP_any ?_
 refine fulfilA Tryz.f56 [.tmp 4,.tmp 5] 1 ?_
 simp only[Tryz.f56,Option.getD_some,go_sem]
 refine rn ?_
 refine callP e1 rfl ?_;refine sim ?_
 have hnn:decide (u.vers≥5)=true→bytesR z.rngLists≠[]:=fun h hq=>hx.ne (by have:=of_decide_eq_true h;omega) (by simpa [bytesR] using hq)
 cases hli:x.listed
 ·rw[hli] at hhi hrng
  simp only[Bool.false_eq_true,if_false] at hhi hrng
  rw[hrng] at e3 e4
  have hpl:places x=[(x.low,x.high)]:=by simp[places,hli]
  have hup:=hx.up hli
  have hlo:=hx.low
  have hh2:=hx.high
  cases hle:x.length
  all_goals
   rw[hle] at hhi
   simp only[Bool.false_eq_true,if_false,if_true] at hhi
   rw[hhi] at e2
   have w1:IntKind.u64.wrap (x.low+IntKind.u64.wrap (x.high - x.low))=x.high:=by rw[wrap_u64 (n:=x.high - x.low) (by omega) (by omega),wrap_u64 (by omega) (by omega)];omega
   repeat' first|refine rn ?_|fail
   refine callP e2 rfl ?_;refine sim ?_
   repeat' first|refine rnE @w1 ?_|with_reducible refine fun (_:Outc)=>?_|fail
   refine callA [0] 0 (e5) ?_;rintro ret os fs ⟨rfl,rfl,rfl⟩;refine sim ?_
   repeat' first|refine rnE @er ?_|refine br fun hb=>?_|with_reducible refine And.intro ?_ ?_|fail
   ·exact hnn (by assumption) hb
   ·refine callP e3 rfl ?_;refine sim ?_
    repeat' first|refine rn ?_|fail
    refine doneA [(80,1)] ?_;try exact trivial
    exact ⟨_,rfl,by rw[hpl];rfl⟩
   ·refine callP e4 rfl ?_;refine sim ?_
    repeat' first|refine rn ?_|fail
    refine doneA [(80,1)] ?_;try exact trivial
    exact ⟨_,rfl,by rw[hpl];rfl⟩
 ·rw[hli] at hhi hrng
  simp only[if_true] at hhi hrng
  rw[hhi] at e2
  rw[hrng] at e3 e4
  refine rn ?_
  refine callP e2 rfl ?_;refine sim ?_
  refine rn ?_
  refine callA [0] 0 (e5) ?_;rintro ret os fs ⟨rfl,rfl,rfl⟩;refine sim ?_
  repeat' first|refine rnE @er ?_|refine br fun hb=>?_|with_reducible refine And.intro ?_ ?_|fail
  ·exact hnn (by assumption) hb
  ·obtain ⟨pre,rest,hr,hp⟩ :=hx.new hli (by omega)
   subst hp
   refine callP e3 rfl ?_;refine sim ?_
   refine rn ?_
   refine callP e6 rfl ?_;refine sim ?_
   refine rn ?_
   refine callA [0] 1 (f105_ok l x (hx.listed hli) (by omega) hx.big us i u hu hx.size hsz e he.len he.base pre rest hr hx.len.2 0) ?_;rintro ret os fs ⟨h,rfl,rfl,rfl⟩;refine sim ?_
   refine rn ?_
   refine doneA [(1159,1)] ?_;try exact trivial
   exact ⟨_,rfl,rfl⟩
  ·obtain ⟨pre,rest,hr,hp⟩ :=hx.old hli (by omega)
   subst hp
   have cr:(bytesR z.ranges=[])=False:=eq_false fun hq=>by
    have h0:z.ranges=[]:=by simpa [bytesR] using hq
    have:=congrArg List.length (hr.symm.trans h0)
    have hal:(address l 0).length=l.size.toNat:=fixed_len _ _ _
    have hz:=hx.size
    simp only[listText,if_pos (show l.version < 5 by omega),List.length_append,List.length_nil] at this
    omega
   refine callP e4 rfl ?_;refine sim ?_
   refine rnE @cr ?_
   refine callP e6 rfl ?_;refine sim ?_
   refine rn ?_
   refine callA [0] 1 (f106_ok l x (hx.listed hli) (by omega) hx.big us i u hu hx.size hsz pre rest hr hx.len.1 0) ?_;rintro ret os fs ⟨h,rfl,rfl,rfl⟩;refine sim ?_
   refine rn ?_
   refine doneA [(1224,1)] ?_;try exact trivial
   exact ⟨_,rfl,rfl⟩
end
end Go.Proofs.YtbkfdnkeelmloaaGreatDoor
