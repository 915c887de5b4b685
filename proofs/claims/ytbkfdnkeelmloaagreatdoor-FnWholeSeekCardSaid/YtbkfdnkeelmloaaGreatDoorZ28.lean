/- Part 28 of the proof: I3 I4. -/
import Derived.Test.YtbkfdnkeelmloaaGreatDoorZ20
import Derived.Test.YtbkfdnkeelmloaaGreatDoorZ26
import Derived.Test.YtbkfdnkeelmloaaGreatDoorZ27
set_option linter.unusedVariables false
set_option linter.unusedSimpArgs false
namespace Go.Proofs.YtbkfdnkeelmloaaGreatDoor
set_option maxHeartbeats 4000000
set_option maxRecDepth 10000
open Go.AM Go
section
variable {G:Nat→AV} {g:GData} {z:DataR} {us0:List UnitR} {ns:Nat→List NodeR}
structure CoverOK (l:LayoutD) (z:DataR) (us0:List UnitR) (ns:Nat→List NodeR) (i:Nat) (x:SpanD) (pos:Nat):Prop where
 lt:i < us0.length
 size:(uAt us0 i).size=l.size
 vers:(uAt us0 i).vers=l.version
 top:TopOK x pos (entAt z.big (uAt us0 i) (ns i) 0)
 rd:SpanRd l z x pos
theorem entAt_off {u:UnitR} {n:NodeR} {r:List NodeR} {id:Nat} {ab:AbbE} {ats:List (AttrD×TextsD)} {ls:List NodeR} (bg:Bool) (hne:ls= .ent id ab ats :: r):(entAt bg u ls 0).off=u.off:=by
 subst hne
 simp[entAt,nodeE,nodeAtOff,nodesB]
theorem f56u_ok (l:LayoutD) (hF:FileRK z us0 ns) (us:List UnitR) (hus:us.map bare=us0) (kz i:Nat) (x:SpanD) (pos:Nat) (hc:CoverOK l z us0 ns i x pos):
  Fulfils Tryz.prog G 56 [dP z kz,deP (entAt z.big (uAt us0 i) (ns i) 0)] [.arr z.hU 216 9 (us.map unitRow)]
  (fun ret os fs=>∃h,ret=(fun _=>.tup [.buf 1 h,.val .nilIface])∧os=[some (.arr z.hU 216 9 (us.map unitRow))]∧fs=[some (.arr h 154 2 (placeR (places x)))]):=by
 have hgi:=uAt_get hc.lt
 have hU:=hF.unit i _ hgi
 obtain ⟨v,hv,hb⟩ :=bare_of hus hgi
 have hlen:=hU.len
 have hn:=hF.n
 obtain ⟨id,ab,ats,r,hne,_⟩ :=hU.ne
 have ho:=entAt_off (u:=uAt us0 i) (n:=.fin) z.big hne
 have hdl:0 < (uAt us0 i).data.length:=by
  rw[hU.data,hne]
  have:=nodeB_pos (udOf (uAt us0 i)) z.big (.ent id ab ats)
  simp only[nodesB,List.flatMap_cons,List.length_append];omega
 have hvo:v.off=(uAt us0 i).off:=by rw[←hb];rfl
 have hvd:v.data=(uAt us0 i).data:=by rw[←hb];rfl
 refine f56_ok l x pos kz _ hc.top hc.rd us i v hv (by rw[←hc.size,←hb];rfl) (by rw[←hc.vers,←hb];rfl) (by rw[ho,hvo]) (by rw[hvd];exact hdl) (fun k w hw hk=>?_) (fun k w hw hk=>?_) (by rw[bare_len hus];exact hn) (by rw[hvo,hvd];exact hlen)
 ·rw[ho];exact Nat.le_of_lt (show (bare w).off < _ from hF.inc k i _ _ (bare_get hus hw) hgi hk)
 ·rw[ho];exact (show _ < (bare w).off from hF.inc i k _ _ hgi (bare_get hus hw) hk)
end
set_option maxHeartbeats 4000000
set_option maxRecDepth 10000
open Go.AM Go
section
variable {G:Nat→AV} {g:GData} {z:DataR} {us0:List UnitR} {ns:Nat→List NodeR}
abbrev m5:List Bool:=[true,true,true,true,true,true,true,false,true,true,true,true,true,true]
def rawT (rb:Nat) (z:DataR) (j:Nat):AObj:=.cells rb 0 [.top,.top,.top,.top,.top,.top,.top,dP z j,.top,.top,.top,.top,.top,.top]
attribute [go_sem] rawT
attribute [-go_sem] rdAt
theorem f57_ok (hG:GOK G g) (l:LayoutD) (hF:FileRK z us0 ns) (us:List UnitR) (hus:us.map bare=us0) (rb:Nat) (spans:List SpanD) (pos:Nat→Nat) (hc:∀i x,spans[i]? =some x→CoverOK l z us0 ns i x (pos i)) (hsl:spans.length=us0.length) (hpl:∀x∈spans,(places x).length≤1000)
  (k:Nat) (pc:Int) (hk:k < us0.length) (hcov:∀i x,spans[i]? =some x→i≤k→(covers x pc=true↔i=k)):
  Fulfils Tryz.prog G 57 [.ref 0 rb 0,u64V pc] [rdAt rb z 1 0 (uAt us0 0) (ns 0) 0,.arr z.hU 216 9 (us.map unitRow)]
  (fun ret os fs=>∃us':List UnitR,us'.map bare=us0∧ret=(fun _=>.tup [deP (entAt z.big (uAt us0 k) (ns k) 0),.val .nilIface])∧os=[some (rawT rb z 1),some (.arr z.hU 216 9 (us'.map unitRow))]∧fs=[]):=by
 have hbig:big=140737488355328:=rfl
 have hn:=hF.n
 rw[rdAt_eq]
 generalize nodeAtOff (uAt us0 0) z.big (ns 0) 0=o0
 generalize nodesB (udOf (uAt us0 0)) z.big ((ns 0).drop 0)=d0
 refine fulfilA Tryz.f57 [.tmp 4,.tmp 5] 2 ?_
 simp only[Tryz.f57,Option.getD_some,go_sem]
 refine rn ?_
 refine hEnt (eTops 0 m5 (by refine sim ?_;rfl)) ?_
 refine sim ?_
 refine hLoop (X:={p:List UnitR×Nat // p.1.map bare=us0∧p.2≤k}) (fun p=> ⟨[(0,.ref 0 rb 0),(1,u64V pc),(6,intV p.1.2),(7,intV p.1.2)],[(0,some (rawT rb z 1)),(1,some (.arr z.hU 216 9 (p.1.1.map unitRow)))]⟩) (fun p=>k - p.1.2) ⟨(us,0),hus,Nat.zero_le _⟩ (by exact sT;all_goals ((repeat' refine And.intro ?_ ?_)<;>first|rfl|omega|(dsimp only;omega)|(simp;done)|(simp;rfl)|skip)) ?_
 rintro ⟨⟨us1,j⟩,h1,hj⟩
 simp only at h1 hj
 refine sim ?_
 have hul:=bare_len h1
 have hgi:=uAt_get (us0:=us0) (i:=j) (by omega)
 obtain ⟨u,hu,hb⟩ :=bare_of h1 hgi
 have er:=row_at unitRow hu
 have hU:=hF.unit j _ hgi
 obtain ⟨x,hx⟩ :=getX spans (i:=j) (by omega)
 have hcj:=hc j x hx
 have hpx:=hpl x (List.mem_of_getElem? hx)
 have hcv:=hcov j x hx hj
 obtain ⟨id,ab,ats,r,hne,_⟩ :=hU.ne
 have hn0:(ns j)[0]? =some (.ent id ab ats):=by rw[hne];rfl
 have hen:entAt z.big (uAt us0 j) (ns j) 0=nodeE (uAt us0 j).base (nodeAtOff (uAt us0 j) z.big (ns j) 0) (.ent id ab ats):=by
  rw[entAt,List.getD_eq_getElem?_getD,hn0];rfl
 have htag:((entAt z.big (uAt us0 j) (ns j) 0).tag == 0)=false:=by rw[hcj.top.tag];rfl
 have f95:=f95_ok hG z us1 rb j (uAt us0 j).off (uAt us0 j).data u (ns j) hu (by rw[hb];exact hU)
 have hrd:=rdAt0 hF hgi rb 1
 have f53:=fun us' h'=>f53_ok (G:=G) hG hF us' h' rb j 0 j 0 _ _ _ hgi hgi (.inl ⟨rfl,rfl,hn0⟩)
 have f56:=fun us' h'=>f56u_ok (G:=G) l hF us' h' 1 j x (pos j) hcj
 have f94:=f94_ok (G:=G) (nm:=infoN) z 1 1 (uAt us0 j).off j z.hU (uAt us0 j).data
 have ho:u.off=(uAt us0 j).off:=by rw[←hb];rfl
 have hd:u.data=(uAt us0 j).data:=by rw[←hb];rfl
 have er2:(us1.map unitRow).getD j []=[u32V u.base,u32V (uAt us0 j).off,bytesV (uAt us0 j).data,tabV u.tab,u5V u.u5,intV u.size,intV u.vers,booV u.wide,.val (.int .u8 u.ut)]:=by rw[er,unitRow,ho,hd]
 rw[hrd,←hen] at f53
 simp only[rdAt_eq] at f53
 have w4:IntKind.i64.wrap ((j:Int)+1)=((j+1:Nat):Int):=by rw[wrap_i64 (by omega) (by omega)];simp
 generalize hee:entAt z.big (uAt us0 j) (ns j) 0=e at *
 generalize nodeAtOff (uAt us0 j) z.big (ns j) (0+1)=o1 at *
 generalize nodesB (udOf (uAt us0 j)) z.big ((ns j).drop (0+1))=d1 at *
 generalize (uAt us0 j).off=uo at *
 generalize (uAt us0 j).data=ud at *
 refine rn ?_
 refine hRegionD (fun jx _=>if jx=15 then mkC [] 77 0 [] (f94) else (default,([],[]))) [0,1,2,3,4,5,6,7,8,9,10,11,12,13,14,15,16,17,18] [0,0,2,6,14,0,32,0,128,384,896,0,2048,6144,14336,32766,65535,131071,262143] [] mixed (by kernel_rfl) ?_
 refine simE @er2 ?_
 (refine rn ?_);refine callDA ?_;rintro ret os fs ⟨rfl,rfl,rfl⟩;refine sim ?_
 skip
 refine hEnt (eTops 0 m4 (by refine sim ?_;rfl)) ?_
 refine sim ?_
 refine rn ?_
 refine callA [0,1] 0 (f95) ?_;rintro ret os fs ⟨us2,h2,rfl,rfl,rfl⟩;refine sim ?_
 refine rn ?_
 refine callA [0,1] 0 (f53 us2 (h2.trans h1)) ?_;rintro ret os fs ⟨us3,h3,rfl,rfl,rfl⟩;refine sim ?_
 refine hEnt (eTops 0 m5 (by refine sim ?_;rfl)) ?_
 refine sim ?_
 refine rnE @htag ?_
 refine callA [1] 1 (f56 us3 h3) ?_;rintro ret os fs ⟨h,rfl,rfl,rfl⟩;refine sim ?_
 refine rn ?_
 refine hLoop (X:=Upto (places x) (fun p=>!inPlace pc p)) (fun i=> ⟨[(0,.ref 0 rb 0),(1,u64V pc),(6,intV j),(7,intV j),(9,deP e),(113,.buf 1107 h),(114,intV (places x).length),(115,intV i.1)],[(0,some (rawT rb z 1)),(1,some (.arr z.hU 216 9 (us3.map unitRow))),(1107,some (.arr h 154 2 (placeR (places x))))]⟩) (fun i=>(places x).length - i.1) ⟨0,by simp⟩ (by exact sT;all_goals ((repeat' refine And.intro ?_ ?_)<;>first|rfl|omega|(dsimp only;omega)|(simp;done)|(simp;rfl)|skip)) ?_
 rintro ⟨i,hi,hall⟩
 refine sim ?_
 by_cases hlt:i < (places x).length
 ·obtain ⟨p,hp⟩ :=getX (places x) hlt
  have ep:=placeR_get hp
  have w5:IntKind.i64.wrap ((i:Int)+1)=((i+1:Nat):Int):=by rw[wrap_i64 (by omega) (by omega)];simp
  repeat' first|refine rnE (And.intro @ep @w5) ?_|refine br fun hb=>?_|with_reducible refine And.intro ?_ ?_|with_reducible refine fun (_:Outc)=>?_|fail
  ·have hin:inPlace pc p=true:=by simp[inPlace];omega
   have hjk:j=k:=hcv.1 (by rw[covers,List.any_eq_true];exact ⟨p,List.mem_of_getElem? hp,hin⟩)
   subst hjk
   rw[hee]
   refine doneA [] ?_;try exact trivial
   exact ⟨us3,h3,rfl⟩
  ·have hnp:(!inPlace pc p)=true:=by simp[inPlace];omega
   refine ⟨⟨i+1,by omega,all_take hp hall hnp⟩, ?_⟩
   ((repeat' refine And.intro ?_ ?_)<;>first|rfl|(dsimp only;omega))
 ·have:i=(places x).length:=by omega
  subst this
  have hnc:covers x pc=false:=by rw[covers,any_f (Nat.le_refl _) hall]
  have hjk:j≠k:=fun h=>by rw[hcv.2 h] at hnc;cases hnc
  refine rnE @w4 ?_
  refine ⟨⟨(us3,j+1),h3,by dsimp only;omega⟩, ?_⟩
  dsimp only
  ((repeat' refine And.intro ?_ ?_)<;>first|rfl|omega)
theorem f22_ok (hG:GOK G g) (l:LayoutD) (s:SectionsD) (bg:Bool) (us:List UnitS) (hS:SectOK s bg us) (us0:List UnitR) (hus0:us0=unitsTo bg us us.length) (hF:∀h m1 m2 m3,FileRK (openZ s bg m1 m2 m3 h) us0 ns)
  (spans:List SpanD) (pos:Nat→Nat) (hc:∀h m1 m2 m3 i x,spans[i]? =some x→CoverOK l (openZ s bg m1 m2 m3 h) us0 ns i x (pos i)) (hsl:spans.length=us0.length) (hpl:∀x∈spans,(places x).length≤1000)
  (k:Nat) (pc:Int) (hk:k < us0.length) (hcov:∀i x,spans[i]? =some x→i≤k→(covers x pc=true↔i=k)) (he:DentOK (entAt bg (uAt us0 k) (ns k) 0)) (htag:(entAt bg (uAt us0 k) (ns k) 0).tag=17):
  Fulfils Tryz.prog G 22 [.agg (sectC s),u64V pc,.val (.slice none 0 0)] []
  (retP (.tup [.agg (entryC (entE (entAt bg (uAt us0 k) (ns k) 0))),.val (.slice none 0 0),intV 0])):=by
 have hbig:big=140737488355328:=rfl
 have f47:=f47_ok hG s bg us hS
 have hub:=unitsTo_bare bg us us.length
 rw[←hus0] at f47 hub
 have hg0:=uAt_get (us0:=us0) (i:=0) (by omega)
 refine fulfilA Tryz.f22 [.cell 6 65,.tmp 7,.tmp 8] 0 ?_
 simp only[Tryz.f22,Option.getD_some,go_sem]
 repeat' first|refine rn ?_|with_reducible refine fun (_:Outc)=>?_|fail
 refine callA [] 1 (f47) ?_;rintro ret os fs ⟨hU,m1,m2,m3,rfl,rfl,rfl⟩;refine sim ?_
 obtain ⟨hzb,hzh⟩ :=openZ_keep s bg m1 m2 m3 hU
 have hFz:=hF hU m1 m2 m3
 have hcz:=hc hU m1 m2 m3
 generalize openZ s bg m1 m2 m3 hU=z at *
 subst hzh
 have hrd0:=fun rb=>rdAt0 hFz hg0 rb 1
 have f57:=fun us' h' rb=>f57_ok (G:=G) hG l hFz us' h' rb spans pos hcz hsl hpl k pc hk hcov
 rw[hzb] at f57
 generalize entAt bg (uAt us0 k) (ns k) 0=e at *
 refine rn ?_
 refine callA [1018] 1 (f49_ok hG hFz us0 hub 1018 (uAt us0 0) hg0) ?_;rintro ret os fs ⟨us1,rb,h1,rfl,rfl,rfl⟩;refine sim ?_
 have f57':=f57 us1 h1 rb
 rw[hrd0 rb] at f57'
 refine rn ?_
 refine callA [1027,1018] 0 (f57') ?_;rintro ret os fs ⟨us2,h2,rfl,rfl,rfl⟩;refine sim ?_
 refine rn ?_
 refine hLoop0 ?_
 refine rn ?_
 refine callP (f58_ok e he) rfl ?_;refine sim ?_
 refine rn ?_
 refine doneA [] ?_;try exact trivial
 exact ⟨rfl,rfl,rfl⟩
end
end Go.Proofs.YtbkfdnkeelmloaaGreatDoor
