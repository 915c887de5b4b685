/- Part 26 of the proof: I2. -/
import Derived.Test.YtbkfdnkeelmloaaGreatDoorY23
set_option linter.unusedVariables false
set_option linter.unusedSimpArgs false
namespace Go.Proofs.YtbkfdnkeelmloaaGreatDoor
set_option maxHeartbeats 4000000
set_option maxRecDepth 10000
open Go.AM Go
theorem dent_ok {ud:UnitD} {z:DataR} {tab:List AbbE} {n:NodeR} {base off:Nat} (h:NodeRd ud z tab n) (hb:base < 2147483648) (ho:off < 4294967296):DentOK (nodeE base off n):=by
 cases n with
 |fin=>exact ⟨by simp[nodeE],by simp[nodeE],by simp[nodeE],fun f hf=>by simp[nodeE] at hf⟩
 |ent id ab ats=>
  obtain ⟨h1,h2,h3,h4,h5,h6,h7⟩ :=h
  refine ⟨ho,by simp only[nodeE];omega,by simp only[nodeE,List.length_map];omega,fun f hf=>?_⟩
  obtain ⟨p,hp,rfl⟩ :=List.mem_map.1 hf
  have hA:=h4 p hp
  have hat:=h7 p hp
  refine ⟨⟨fun b hbv=>?_,fun n hnv=>?_⟩,by simp only[dfOf];omega,by simp only[dfOf];omega⟩
  ·have:=hA.b
   simp only[dfOf,dvOf] at hbv
   repeat' split at hbv
   all_goals first|(cases hbv;done)|(cases hbv;exact this)
  ·have hr:=hA.ref
   have hn:=hA.n
   simp only[dfOf,dvOf] at hnv
   repeat' split at hnv
   all_goals first|(cases hnv;done)|(cases hnv;have:=hr (by omega);omega)
section
variable {G:Nat→AV} {g:GData} {z:DataR} {us0:List UnitR} {ns:Nat→List NodeR}
theorem f50_ok (hG:GOK G g) (hF:FileRK z us0 ns) (us:List UnitR) (hus:us.map bare=us0) (rb i k i' k':Nat) (n:NodeR) (u u':UnitR) (hu:us0[i]? =some u) (hu':us0[i']? =some u') (hs:StepTo ns i k i' k' n):
  Fulfils Tryz.prog G 50 [.ref 0 rb 0,.agg [intV 0,intV 0]] [rdAt rb z 1 i u (ns i) k,.arr z.hU 216 9 (us.map unitRow)]
  (fun ret os fs=>∃us':List UnitR,us'.map bare=us0∧ret=(fun _=>.agg (answerC (entE (nodeE u'.base (nodeAtOff u' z.big (ns i') k') n))))∧os=[some (rdAt rb z 1 i' u' (ns i') (k'+1)),some (.arr z.hU 216 9 (us'.map unitRow))]∧fs=[]):=by
 have hbig:big=140737488355328:=rfl
 have hU:=hF.unit i' u' hu'
 have hk:(ns i')[k']? =some n:=by
  rcases hs with ⟨rfl,rfl,h⟩ | ⟨rfl,rfl,rfl,h⟩ <;>exact h
 have hsp:=nodesB_split (udOf u') z.big (ns i') k'
 have hlen:=hU.len
 rw[hU.data] at hlen
 have ho2:nodeAtOff u' z.big (ns i') k'=u'.off+(nodesB (udOf u') z.big ((ns i').take k')).length:=rfl
 have he:=dent_ok (base:=u'.base) (off:=nodeAtOff u' z.big (ns i') k') (hU.nodes n (List.mem_of_getElem? hk)) hU.base (by omega)
 have h53:=f53_ok hG hF us hus rb i k i' k' n u u' hu hu' hs
 generalize nodeE u'.base (nodeAtOff u' z.big (ns i') k') n=e at *
 simp only[rdAt_eq] at h53 ⊢
 generalize nodeAtOff u z.big (ns i) k=o0 at *
 generalize nodesB (udOf u) z.big ((ns i).drop k)=d0 at *
 generalize nodeAtOff u' z.big (ns i') (k'+1)=o1 at *
 generalize nodesB (udOf u') z.big ((ns i').drop (k'+1))=d1 at *
 refine fulfilA Tryz.f50 [.cell 4 67] 2 ?_
 simp only[Tryz.f50,Option.getD_some,go_sem]
 repeat' first|refine rn ?_|with_reducible refine fun (_:Outc)=>?_|fail
 refine callA [0,1] 0 (h53) ?_;rintro ret os fs ⟨us',h',rfl,rfl,rfl⟩;refine sim ?_
 refine rn ?_
 refine callP f48_ok rfl ?_;refine sim ?_
 refine rn ?_
 refine callP (f58_ok e he) rfl ?_;refine sim ?_
 refine rn ?_
 refine doneA [] ?_;try exact trivial
 exact ⟨us',h',rfl⟩
def noAnswer:List AV:=[booV false,intV 0,intV 0,booV false,.val (.slice none 0 0),intV 0,intV 0]
attribute [go_sem] noAnswer
theorem f50e_ok (us:List UnitR) (hus:us.map bare=us0) (hF:FileRK z us0 ns) (rb i:Nat) (u:UnitR) (hu:us0[i]? =some u) (hl:us0.length=i+1):
  Fulfils Tryz.prog G 50 [.ref 0 rb 0,.agg [intV 0,intV 0]] [rdAt rb z 1 i u (ns i) (ns i).length,.arr z.hU 216 9 (us.map unitRow)] (retO (.agg noAnswer) [some (rdAt rb z 1 i u (ns i) (ns i).length),some (.arr z.hU 216 9 (us.map unitRow))]):=by
 have h53:=f53e_ok (G:=G) us hus hF rb i u hu hl
 simp only[rdAt_eq] at h53 ⊢
 generalize nodeAtOff u z.big (ns i) (ns i).length=o0 at *
 generalize nodesB (udOf u) z.big ((ns i).drop (ns i).length)=d0 at *
 refine fulfilA Tryz.f50 [.cell 4 67] 2 ?_
 simp only[Tryz.f50,Option.getD_some,go_sem]
 repeat' first|refine rn ?_|with_reducible refine fun (_:Outc)=>?_|fail
 refine callA [0,1] 0 (h53) ?_;rintro ret os fs ⟨rfl,rfl,rfl⟩;refine sim ?_
 refine rn ?_
 refine callP f48_ok rfl ?_;refine sim ?_
 refine rn ?_
 refine doneA [] ?_;try exact trivial
 exact ⟨rfl,rfl,rfl⟩
theorem openZ_keep (s:SectionsD) (bg:Bool) (m1 m2 m3 h:Value):(openZ s bg m1 m2 m3 h).big=bg∧(openZ s bg m1 m2 m3 h).hU=h:=by
 have:∀(l:List (Bytes×Bytes)) (z:DataR),(l.foldl addStep z).big=z.big∧(l.foldl addStep z).hU=z.hU:=by
  intro l
  induction l with
  |nil=>intro z;exact ⟨rfl,rfl⟩
  |cons p l ih=>
   intro z
   obtain ⟨e1,e2⟩ :=ih (addStep z p)
   rw[List.foldl_cons,e1,e2]
   unfold addStep
   split<;>exact ⟨rfl,rfl⟩
 exact this _ _
theorem unitsTo_bare (bg:Bool) (us:List UnitS) (m:Nat):(unitsTo bg us m).map bare=unitsTo bg us m:=by
 unfold unitsTo
 rw[List.map_map];rfl
theorem turn_rdC {σ:Nat→Nat} {j i k:Nat} {u:UnitR} {l:List NodeR}:turnL (rkA σ) (rdC z j i u l k)=rdC z (σ j) i u l k:=by
 unfold rdC
 exact sT
def uAt (us0:List UnitR) (i:Nat):UnitR:=us0.getD i ⟨0,0,[],[],false,0,0,false,0⟩
theorem uAt_get {us0:List UnitR} {i:Nat} (h:i < us0.length):us0[i]? =some (uAt us0 i):=by
 unfold uAt;rw[List.getD_eq_getElem?_getD,List.getElem?_eq_getElem h];rfl
def entAt (bg:Bool) (u:UnitR) (l:List NodeR) (k:Nat):DEntry:=nodeE u.base (nodeAtOff u bg l k) (l.getD k .fin)
def unitEs (bg:Bool) (u:UnitR) (l:List NodeR) (m:Nat):List EntryE:=(List.range m).map fun k=>entE (entAt bg u l k)
def allEs (bg:Bool) (us0:List UnitR) (ns:Nat→List NodeR) (m:Nat):List EntryE:=(List.range m).flatMap fun i=>unitEs bg (uAt us0 i) (ns i) (ns i).length
theorem allEs_succ {bg:Bool} {m:Nat}:allEs bg us0 ns (m+1)=allEs bg us0 ns m++unitEs bg (uAt us0 m) (ns m) (ns m).length:=by
 unfold allEs;rw[List.range_succ,List.flatMap_append];simp
theorem unitEs_succ {bg:Bool} {u:UnitR} {l:List NodeR} {m:Nat}:unitEs bg u l (m+1)=unitEs bg u l m++[entE (entAt bg u l m)]:=by
 unfold unitEs;rw[List.range_succ,List.map_append];rfl
theorem unitEs_len {bg:Bool} {u:UnitR} {l:List NodeR} {m:Nat}:(unitEs bg u l m).length=m:=by simp[unitEs]
theorem allEs_le {bg:Bool}:∀{m i:Nat},i≤m→(allEs bg us0 ns i).length≤(allEs bg us0 ns m).length
 |0,i,h=>by cases Nat.le_zero.1 h;exact Nat.le_refl _
 |m+1,i,h=>by
  rcases Nat.lt_or_ge i (m+1) with h1|h1
  ·have:=allEs_le (bg:=bg) (m:=m) (i:=i) (by omega)
   rw[allEs_succ,List.length_append];omega
  ·have:i=m+1:=by omega
   subst this;exact Nat.le_refl _
def ansR (l:List EntryE):List (List AV):=l.map answerC
theorem turnL_answer {f:AV→AV} [Still f] (e:EntryE):turnL f (answerC e)=answerC e:=by simp only[answerC,turnL,intV,booV,fieldsV,AV.turn,Still.i,Still.b,turnR_field]
theorem turnR_ans {f:AV→AV} [Still f] (l:List EntryE):turnR f (ansR l)=ansR l:=turnR_map (g:=answerC) (fun b=>turnL_answer b) l
theorem ansR_len (l:List EntryE):(ansR l).length=l.length:=by simp[ansR]
theorem ans_snoc (l:List EntryE) (e:EntryE):ansR l++[answerC e]=ansR (l++[e]):=by simp[ansR]
theorem repl_get {n j:Nat} (h:j < n) (r:List AV):(List.replicate n r).getD j []=r:=by
 rw[List.getD_eq_getElem?_getD,List.getElem?_replicate,if_pos h];rfl
attribute [go_sem] rdAt turn_rdC unitEs_len turnR_ans ansR_len List.length_replicate turnR_app
theorem f15_ok (hG:GOK G g) (s:SectionsD) (bg:Bool) (us:List UnitS) (hS:SectOK s bg us) (hF:∀h m1 m2 m3,FileRK (openZ s bg m1 m2 m3 h) (unitsTo bg us us.length) ns)
  (N:Nat) (hN:N=(allEs bg (unitsTo bg us us.length) ns us.length).length) (hNl:N≤1000000):
  Fulfils Tryz.prog G 15 [.agg (sectC s),.dat false 2 (List.replicate (N+1) [intV 0,intV 0])] []
  (fun ret os fs=>∃h,ret=(fun _=>.tup [.buf 0 h,intV 0])∧os=[]∧fs=[some (.arr h 67 7 (ansR (allEs bg (unitsTo bg us us.length) ns us.length)++[noAnswer]))]):=by
 have hbig:big=140737488355328:=rfl
 have hne:=hS.inf.ne
 have hub:=unitsTo_bare bg us us.length
 have hul:(unitsTo bg us us.length).length=us.length:=by simp[unitsTo]
 have hn0:0 < us.length:=List.length_pos_iff.2 hne
 obtain ⟨us0,hus0⟩ :∃l,l=unitsTo bg us us.length:= ⟨_,rfl⟩
 rw[←hus0] at hF hN hub hul ⊢
 have f47:=f47_ok hG s bg us hS
 rw[←hus0] at f47
 have hg0:=uAt_get (us0:=us0) (i:=0) (by omega)
 refine fulfilA Tryz.f15 [.tmp 4,.tmp 5] 0 ?_
 simp only[Tryz.f15,Option.getD_some,go_sem]
 repeat' first|refine rn ?_|with_reducible refine fun (_:Outc)=>?_|fail
 refine callA [] 1 (f47) ?_;rintro ret os fs ⟨hU,m1,m2,m3,rfl,rfl,rfl⟩;refine sim ?_
 obtain ⟨hzb,hzh⟩ :=openZ_keep s bg m1 m2 m3 hU
 have hFz:=hF hU m1 m2 m3
 generalize openZ s bg m1 m2 m3 hU=z at *
 subst hzh
 refine rn ?_
 refine callA [1014] 1 (f49_ok hG hFz us0 hub 1014 (uAt us0 0) hg0) ?_;rintro ret os fs ⟨us1,rb,h1,rfl,rfl,rfl⟩;refine sim ?_
 have hrd0:=rdAt0 hFz hg0 rb 1014
 (refine s1 ?_;refine hRegion (sim ?_);skip)
 refine hEnt (eOwn 3001 9 67 7 sT) ?_
 refine sim ?_
 refine rn ?_
 have hall:∀i k,i < us.length→k≤(ns i).length→(allEs bg us0 ns i).length+k≤N:=by
  intro i k hi hk
  have:=allEs_le (bg:=bg) (us0:=us0) (ns:=ns) (m:=us.length) (i:=i+1) (by omega)
  rw[allEs_succ,List.length_append,unitEs_len] at this
  omega
 refine hLoop (X:={p:Value×List UnitR×Nat×Nat // p.2.1.map bare=us0∧p.2.2.1 < us.length∧p.2.2.2≤(ns p.2.2.1).length} ⊕ (Value×List UnitR×Nat)) (fun x=>match x with
  | .inl ⟨(h,us',i,k),_⟩ => ⟨[(8,.ref 1022 rb 0),(9,.buf 3001 h),(23,.dat false 2 (List.replicate (N+1) [intV 0,intV 0])),(24,intV ((N+1:Nat):Int)),(25,intV (((allEs bg us0 ns i).length+k:Nat):Int))],
    [(1022,some (rdAt rb z 1014 i (uAt us0 i) (ns i) k)),(1014,some (.arr z.hU 216 9 (us'.map unitRow))),(3001,some (.arr h 67 7 (ansR (allEs bg us0 ns i++unitEs bg (uAt us0 i) (ns i) k))))]⟩
  | .inr (h,us',i)=> ⟨[(9,.buf 3001 h),(24,intV ((N+1:Nat):Int)),(25,intV ((N+1:Nat):Int))],[(3001,some (.arr h 67 7 (ansR (allEs bg us0 ns us.length)++[noAnswer])))]⟩)
  (fun x=>match x with| .inl ⟨(h,us',i,k),_⟩ =>N+1 - ((allEs bg us0 ns i).length+k)| .inr _=>0) (.inl ⟨(.slice none 0 0,us1,0,0),h1,hn0,Nat.zero_le _⟩) (by
   have e1:ansR (allEs bg us0 ns 0++unitEs bg (uAt us0 0) (ns 0) 0)=[]:=rfl
   have e2:(allEs bg us0 ns 0).length+0=0:=rfl
   dsimp only
   rw[hrd0,e1,e2]
   exact sT
   all_goals ((repeat' refine And.intro ?_ ?_)<;>first|rfl|omega|(dsimp only;omega)|(simp;done)|(simp;rfl)|skip)) ?_
 rintro (⟨⟨h,us',i,k⟩,hb',hi,hk⟩ | ⟨h,us',i⟩)
 ·simp only at hb' hi hk
  have hjN:=hall i k hi hk
  have hgi:=uAt_get (us0:=us0) (i:=i) (by omega)
  have er:=repl_get (n:=N+1) (j:=(allEs bg us0 ns i).length+k) (by omega) [intV 0,intV 0]
  simp only[intV] at er
  have w4:IntKind.i64.wrap ((((allEs bg us0 ns i).length+k:Nat):Int)+1)=(((allEs bg us0 ns i).length+k+1:Nat):Int):=by rw[wrap_i64 (by omega) (by omega)];simp
  have hrl:(ansR (allEs bg us0 ns i++unitEs bg (uAt us0 i) (ns i) k)).length=(allEs bg us0 ns i).length+k:=by rw[ansR_len,List.length_append,unitEs_len]
  refine sim ?_
  by_cases hkl:k < (ns i).length
  ·obtain ⟨n,hn⟩ :=getX (ns i) hkl
   have f50:=f50_ok hG hFz us' hb' rb i k i k n (uAt us0 i) (uAt us0 i) hgi hgi (.inl ⟨rfl,rfl,hn⟩)
   have hen:entAt bg (uAt us0 i) (ns i) k=nodeE (uAt us0 i).base (nodeAtOff (uAt us0 i) z.big (ns i) k) n:=by
    rw[entAt,hzb,List.getD_eq_getElem?_getD,hn];rfl
   rw[←hen] at f50
   repeat' first|refine rnE @er ?_|with_reducible refine fun (_:Outc)=>?_|fail
   refine callA [1022,1014] 0 (f50) ?_;rintro ret os fs ⟨us'',h'',rfl,rfl,rfl⟩;refine sim ?_
   repeat' first|refine rnE @w4 ?_|with_reducible refine fun (_:Outc)=>?_|fail
   rename Outc=>oz
   refine ⟨.inl ⟨(oz.h,us'',i,k+1),h'',hi,hkl⟩, ?_⟩
   dsimp only
   rw[unitEs_succ,←List.append_assoc,←ans_snoc]
   ((repeat' refine And.intro ?_ ?_)<;>first|omega|(simp;rfl))
  ·have:k=(ns i).length:=by omega
   subst this
   rw[←allEs_succ]
   by_cases hil:i+1 < us.length
   ·have hgi':=uAt_get (us0:=us0) (i:=i+1) (by omega)
    obtain ⟨id,ab,ats,r,hne',_⟩ :=(hFz.unit (i+1) _ hgi').ne
    have hn:(ns (i+1))[0]? =some (.ent id ab ats):=by rw[hne'];rfl
    have hk0:0 < (ns (i+1)).length:=(List.getElem?_eq_some_iff.1 hn).1
    have f50:=f50_ok hG hFz us' hb' rb i (ns i).length (i+1) 0 (.ent id ab ats) (uAt us0 i) (uAt us0 (i+1)) hgi hgi' (.inr ⟨rfl,rfl,rfl,hn⟩)
    have hen:entAt bg (uAt us0 (i+1)) (ns (i+1)) 0=nodeE (uAt us0 (i+1)).base (nodeAtOff (uAt us0 (i+1)) z.big (ns (i+1)) 0) (.ent id ab ats):=by
     rw[entAt,hzb,List.getD_eq_getElem?_getD,hn];rfl
    rw[←hen] at f50
    have hl1:(allEs bg us0 ns (i+1)).length=(allEs bg us0 ns i).length+(ns i).length:=by rw[allEs_succ,List.length_append,unitEs_len]
    repeat' first|refine rnE @er ?_|with_reducible refine fun (_:Outc)=>?_|fail
    refine callA [1022,1014] 0 (f50) ?_;rintro ret os fs ⟨us'',h'',rfl,rfl,rfl⟩;refine sim ?_
    repeat' first|refine rnE @w4 ?_|with_reducible refine fun (_:Outc)=>?_|fail
    rename Outc=>oz
    have hu1:unitEs bg (uAt us0 (i+1)) (ns (i+1)) 1=[entE (entAt bg (uAt us0 (i+1)) (ns (i+1)) 0)]:=rfl
    refine ⟨.inl ⟨(oz.h,us'',i+1,1),h'',hil,hk0⟩, ?_⟩
    dsimp only
    rw[hu1,hl1,←ans_snoc]
    ((repeat' refine And.intro ?_ ?_)<;>first|omega|(simp;done)|(simp;rfl))
   ·have hil':i+1=us.length:=by omega
    have hl1:(allEs bg us0 ns (i+1)).length=(allEs bg us0 ns i).length+(ns i).length:=by rw[allEs_succ,List.length_append,unitEs_len]
    rw[hil',←hN] at hl1
    rw[←hl1] at er w4 ⊢
    rw[hil']
    repeat' first|refine rnE @er ?_|with_reducible refine fun (_:Outc)=>?_|fail
    refine callA [1022,1014] 0 (f50e_ok us' hb' hFz rb i (uAt us0 i) hgi (by omega)) ?_;rintro ret os fs ⟨rfl,rfl,rfl⟩;refine sim ?_
    repeat' first|refine rnE @w4 ?_|with_reducible refine fun (_:Outc)=>?_|fail
    rename Outc=>oz
    refine ⟨.inr (oz.h,us',i), ?_⟩
    dsimp only
    ((repeat' refine And.intro ?_ ?_)<;>first|omega|(simp;done))
 ·refine sim ?_
  refine rn ?_
  refine doneA [(3001,0)] ?_;try exact trivial
  exact ⟨_,rfl,rfl⟩
end
end Go.Proofs.YtbkfdnkeelmloaaGreatDoor
