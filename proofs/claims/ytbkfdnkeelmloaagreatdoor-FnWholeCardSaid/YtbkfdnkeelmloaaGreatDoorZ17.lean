/- Part 17 of the proof: G21 G22 G23 G24. -/
import Derived.Test.YtbkfdnkeelmloaaGreatDoorZ13
import Derived.Test.YtbkfdnkeelmloaaGreatDoorZ16
set_option linter.unusedVariables false
set_option linter.unusedSimpArgs false
namespace Go.Proofs.YtbkfdnkeelmloaaGreatDoor
set_option maxHeartbeats 4000000
set_option maxRecDepth 10000
open Go.AM Go
section
variable {G:Nat→AV}
def nodeAt (u:UnitD) (j:Nat):NodeD:=u.nodes.getD j ⟨0,false,false,[]⟩
theorem nodeAt_get {u:UnitD} {j:Nat} (h:j < u.nodes.length):u.nodes[j]? =some (nodeAt u j):=by
 unfold nodeAt
 rw[List.getD_eq_getElem?_getD,List.getElem?_eq_getElem h];rfl
structure AccD where
 parts:List Bytes
 texts:TextsD
 abb:Bytes
 places:List Int
 pos:Nat
def accStep (u:UnitD) (bg:Bool) (j:Nat) (z:AccD):AccD:=
 ⟨z.parts++[(nodeText u j (nodeAt u j) bg z.texts).1],(nodeText u j (nodeAt u j) bg z.texts).2,z.abb++(if (nodeAt u j).tag=0 then [] else abbText j (nodeAt u j)),z.places++[(z.pos:Int)],z.pos+(nodeText u j (nodeAt u j) bg z.texts).1.length⟩
def accN (u:UnitD) (bg:Bool) (z:AccD):Nat→AccD
 |0=>z
 |j+1=>accStep u bg j (accN u bg z j)
def codeLen (i:Nat):Nat:=(encU (codeN i) 0).length
def patch (u:UnitD) (base:Int) (places:List Int) (bg:Bool) (i:Nat) (p:Bytes):Bytes:=
 if (nodeAt u i).sibling=true∧(nodeAt u i).tag≠0 then p.take (codeLen i)++fixed (places.getD (afterOf u.nodes i) 0 - base).toNat 4 bg++p.drop (codeLen i+4) else p
def finN (u:UnitD) (base:Int) (places:List Int) (bg:Bool) (parts:List Bytes):Nat→Bytes×List EntryE
 |0=>([],[])
 |j+1=>((finN u base places bg parts j).1++patch u base places bg j (parts.getD j []),(finN u base places bg parts j).2++[entryOf u base places j (nodeAt u j)])
structure SectD where
 abbs:Bytes
 info:Bytes
def acc0 (u:UnitD) (bg:Bool) (s:SectD) (t:TextsD):AccD:= ⟨[],t,s.abbs,[],s.info.length+(lengthy (headText u s.abbs.length bg) u.wide bg).length⟩
def accOf (u:UnitD) (bg:Bool) (s:SectD) (t:TextsD):AccD:=accN u bg (acc0 u bg s t) u.nodes.length
def placesOf (u:UnitD) (bg:Bool) (s:SectD) (t:TextsD):List Int:=(accOf u bg s t).places++[((accOf u bg s t).pos:Int)]
def finOf (u:UnitD) (bg:Bool) (s:SectD) (t:TextsD):Bytes×List EntryE:=finN u s.info.length (placesOf u bg s t) bg (accOf u bg s t).parts u.nodes.length
def addS (u:UnitD) (bg:Bool) (s:SectD) (t:TextsD):SectD:= ⟨(accOf u bg s t).abb++[0],s.info++lengthy (headText u s.abbs.length bg++(finOf u bg s t).1) u.wide bg⟩
def foundOf (u:UnitD) (bg:Bool) (s:SectD) (t:TextsD):FoundE:= ⟨s.info.length,(finOf u bg s t).2⟩
def sectO (sb:Nat) (ha hi:Value) (s:SectD):List AObj:=[.cells sb 0 [.buf 1 ha,.buf 2 hi,.val (.slice none 0 0),.val (.slice none 0 0),.val (.slice none 0 0),.val (.slice none 0 0),.val (.slice none 0 0)],.arr ha 5 1 (bytesR s.abbs),.arr hi 5 1 (bytesR s.info)]
def texts3 (tb:Nat) (hs hl:Value) (t:TextsD):List AObj:=[.cells tb 0 [.buf 4 hs,.buf 5 hl],.arr hs 5 1 (bytesR t.str),.arr hl 5 1 (bytesR t.line)]
def nodesW (l:List NodeD):Nat:=(l.map fun x=>attrsW x.attrs).sum
structure UnitOK (u:UnitD):Prop where
 version:0≤u.version∧u.version≤5
 size:0≤u.size∧u.size≤8
 len:u.nodes.length≤5000
 nodes:∀x∈u.nodes,NodeOK x
 weight:nodesW u.nodes≤2000000
theorem nodesW_take {l:List NodeD} {j:Nat} {x:NodeD} (h:l[j]? =some x):nodesW (l.take (j+1))=nodesW (l.take j)+attrsW x.attrs:=by
 rw[take_succ h];simp[nodesW]
theorem nodesW_le {l:List NodeD} (j:Nat):nodesW (l.take j)≤nodesW l:=by
 have h:nodesW l=nodesW (l.take j)+nodesW (l.drop j):=by
  conv=>lhs;rw[←List.take_append_drop j l]
  unfold nodesW
  rw[List.map_append,List.sum_append]
 omega
theorem abbText_len {i:Nat} {x:NodeD} (hi:i≤1000000) (hx:NodeOK x):(abbText i x).length≤40+attrsW x.attrs:=by
 have ht:=hx.tag
 have c1:codeN i=1+50 * i:=rfl
 have n1:=encU_len 0 (n:=codeN i) (by omega)
 have n2:=encU_len 0 (n:=x.tag.toNat) (by omega)
 have m0:(abbHead i x).length≤30:=by unfold abbHead;simp only[List.length_append,List.length_cons,List.length_nil];split<;>simp only[List.length_cons,List.length_nil]<;>omega
 have m1:∀l:List AttrD,(∀a∈l,AttrOK a)→(l.flatMap attrAbb).length≤attrsW l:=by
  intro l
  induction l with
  |nil=>simp[attrsW]
  |cons a l ih=>
   intro h
   have h1:=ih fun a ha=>h a (List.mem_cons_of_mem _ ha)
   have h2:=attrAbb_len (h a (List.mem_cons_self ..))
   simp only[attrsW,List.map_cons,List.sum_cons,List.flatMap_cons,List.length_append,attrW] at *
   omega
 have:=m1 x.attrs hx.attrs
 simp only[abbText,List.length_append,List.length_cons,List.length_nil]
 omega
theorem accN_ok {u:UnitD} {bg:Bool} {z:AccD} (hu:UnitOK u) (hz0:z.parts=[]) (hz1:z.places=[]):∀j,j≤u.nodes.length→
  (accN u bg z j).parts.length=j∧(accN u bg z j).places.length=j∧z.pos≤(accN u bg z j).pos∧(accN u bg z j).pos≤z.pos+14 * j+nodesW (u.nodes.take j)∧
  (accN u bg z j).texts.str.length≤z.texts.str.length+nodesW (u.nodes.take j)∧(accN u bg z j).texts.line.length≤z.texts.line.length+nodesW (u.nodes.take j)∧
  (accN u bg z j).abb.length≤z.abb.length+40 * j+nodesW (u.nodes.take j)∧(∀n∈(accN u bg z j).places,(z.pos:Int)≤n∧n≤(accN u bg z j).pos)
 |0,_=>by simp[accN,hz0,hz1]
 |j+1,hj=>by
  obtain ⟨h1,h2,h3,h4,h5,h6,h7,h8⟩ :=accN_ok (bg:=bg) hu hz0 hz1 j (by omega)
  have hx:=nodeAt_get (u:=u) (j:=j) (by omega)
  have ho:=hu.nodes _ (List.mem_of_getElem? hx)
  have hl:=hu.len
  have hw:=nodesW_take hx
  have ht:=nodeText_len (u:=u) (i:=j) (x:=nodeAt u j) (bg:=bg) (t:=(accN u bg z j).texts) (by omega) hu.size ho.attrs
  have hb:=abbText_len (i:=j) (by omega) ho
  have hif:(if (nodeAt u j).tag=0 then [] else abbText j (nodeAt u j)).length≤40+attrsW (nodeAt u j).attrs:=by
   split
   ·simp
   ·exact hb
  simp only[accN,accStep,List.length_append,List.length_cons,List.length_nil,List.mem_append,List.mem_singleton]
  refine ⟨by omega,by omega,by omega,by omega,by omega,by omega,by omega,fun n hn=>?_⟩
  rcases hn with hn|hn
  ·have:=h8 n hn;omega
  ·subst hn;omega
theorem nodeFold_ge {u:UnitD} {bg:Bool}:∀(l:List AttrD) (z:Bytes×TextsD),z.1.length≤(nodeFold u bg z l).1.length
 | [],z=>Nat.le_refl _
 |a :: l,z=>by
  have h:=nodeFold_ge (u:=u) (bg:=bg) l (nodeStep u bg z a)
  have:nodeFold u bg z (a :: l)=nodeFold u bg (nodeStep u bg z a) l:=rfl
  rw[this]
  refine Nat.le_trans ?_ h
  simp[nodeStep]
theorem nodeText_ge {u:UnitD} {bg:Bool} {i:Nat} {x:NodeD} {t:TextsD} (hs:x.sibling=true) (ht:x.tag≠0):codeLen i+4≤(nodeText u i x bg t).1.length:=by
 rw[nodeText,if_neg ht]
 refine Nat.le_trans ?_ (nodeFold_ge x.attrs (nodeHead i x,t))
 simp[nodeHead,hs,codeLen]
theorem accN_get {u:UnitD} {bg:Bool} {z:AccD} (hu:UnitOK u) (hz0:z.parts=[]) (hz1:z.places=[]):∀n,n≤u.nodes.length→∀j,j < n→(accN u bg z n).parts[j]? =some (nodeText u j (nodeAt u j) bg (accN u bg z j).texts).1
 |0,_,j,h=>by omega
 |n+1,hn,j,h=>by
  obtain ⟨h1,_⟩ :=accN_ok (bg:=bg) hu hz0 hz1 n (by omega)
  simp only[accN,accStep]
  by_cases e:j=n
  ·subst e
   rw[List.getElem?_append_right (by omega)]
   simp[h1]
  ·rw[List.getElem?_append_left (by omega)]
   exact accN_get (bg:=bg) hu hz0 hz1 n (by omega) j (by omega)
attribute [go_sem] sectO texts3
end
set_option maxHeartbeats 4000000
set_option maxRecDepth 10000
open Go.AM Go
section
variable {G:Nat→AV}
attribute [go_sem] Option.map_some Option.map_none
theorem encU_pos (n:Nat):0 < (encU n 0).length:=by
 rw[encU,carry_len,List.length_append,leb_eq]
 simp
theorem take_b (l:Bytes) (n:Nat):(bytesR l).take n=bytesR (l.take n):=by unfold bytesR;rw[List.map_take]
theorem drop_b (l:Bytes) (n:Nat):(bytesR l).drop n=bytesR (l.drop n):=by unfold bytesR;rw[List.map_drop]
def finsN (u:UnitD) (base:Int) (places:List Int) (bg:Bool) (parts:List Bytes) (i:Nat):List Bytes:=(List.range i).map fun k=>patch u base places bg k (parts.getD k [])
theorem finsN_length {u:UnitD} {base:Int} {places:List Int} {bg:Bool} {parts:List Bytes} {i:Nat}:(finsN u base places bg parts i).length=i:=by simp[finsN]
theorem finsN_succ {u:UnitD} {base:Int} {places:List Int} {bg:Bool} {parts:List Bytes} {i:Nat}:datR (finsN u base places bg parts (i+1))=datR (finsN u base places bg parts i)++[[.dat false 1 (bytesR (patch u base places bg i (parts.getD i [])))]]:=by
 simp[finsN,List.range_succ,datR]
theorem finN_len {u:UnitD} {base:Int} {places:List Int} {bg:Bool} {parts:List Bytes}:∀i,(finN u base places bg parts i).2.length=i
 |0=>rfl
 |i+1=>by simp[finN,finN_len i]
theorem patch_len {u:UnitD} {base:Int} {places:List Int} {bg:Bool} {i:Nat} {p:Bytes} (h:(nodeAt u i).sibling=true→(nodeAt u i).tag≠0→codeLen i+4≤p.length):(patch u base places bg i p).length=p.length:=by
 unfold patch
 split
 ·rename_i c
  have:=h c.1 c.2
  simp only[List.length_append,List.length_take,List.length_drop,fixed_len]
  omega
 ·rfl
theorem finN_pos {u:UnitD} {base:Int} {places:List Int} {bg:Bool} {parts:List Bytes} {z0:AccD} (hpg:∀k,k < u.nodes.length→parts.getD k []=(nodeText u k (nodeAt u k) bg (accN u bg z0 k).texts).1):
  ∀i,i≤u.nodes.length→(finN u base places bg parts i).1.length+z0.pos=(accN u bg z0 i).pos
 |0,_=>by simp[finN,accN]
 |i+1,hi=>by
  have ih:=finN_pos (base:=base) (places:=places) hpg i (by omega)
  have hp:=patch_len (u:=u) (base:=base) (places:=places) (bg:=bg) (i:=i) (p:=parts.getD i []) (fun h1 h2=>by rw[hpg i (by omega)];exact nodeText_ge h1 h2)
  rw[hpg i (by omega)] at hp
  simp only[finN,accN,accStep,List.length_append]
  rw[hpg i (by omega)]
  omega
theorem f45_ok (u:UnitD) (bg:Bool) (s:SectD) (t:TextsD) (sb tb:Nat) (ha hi hs hl:Value) (hu:UnitOK u) (h1:s.abbs.length≤50000000) (h2:s.info.length≤50000000) (h3:t.str.length≤50000000) (h4:t.line.length≤50000000):
  Fulfils Tryz.prog G 45 [.ref 0 sb 0,.agg (unitC u),booV bg,.ref 3 tb 0] (sectO sb ha hi s++texts3 tb hs hl t)
  (fun ret os fs=>∃ha' hi' hs' hl',ret=(fun _=>.agg (foundC (foundOf u bg s t)))∧os=(sectO sb ha' hi' (addS u bg s t)++texts3 tb hs' hl' (accOf u bg s t).texts).map some∧fs=[]):=by
 have hbig:big=140737488355328:=rfl
 have hlen:=hu.len
 simp only[sectO,texts3,List.map_cons,List.map_nil,List.cons_append,List.nil_append]
 have hhl:(headText u s.abbs.length bg).length≤20:=by
  have n2:=encO_len s.abbs.length u.wide bg
  unfold headText;split<;>simp only[List.length_append,List.length_cons,List.length_nil,fixed_len]<;>omega
 have hll:(lengthy (headText u s.abbs.length bg) u.wide bg).length≤40:=by
  have n2:=encO_len (headText u s.abbs.length bg).length u.wide bg
  unfold lengthy;split<;>simp only[List.length_append,List.length_cons,List.length_nil]<;>omega
 have w1:IntKind.i64.wrap ((s.info.length:Int)+((lengthy (headText u s.abbs.length bg) u.wide bg).length:Int))=(((acc0 u bg s t).pos:Nat):Int):=by
  rw[wrap_i64 (by omega) (by omega)];simp[acc0]
 refine fulfilA Tryz.f45 [.cell 8 58] 6 ?_
 simp only[Tryz.f45,Option.getD_some,go_sem]
 refine hEnt (eKey 5 2000 sT (by decide)) ?_;refine sim ?_
 repeat' first|refine s1 ?_|refine hRegion (sim ?_)|with_reducible refine fun (_:Outc)=>?_|fail
 refine hRegionD (fun jx _=>if jx=7 then mkC [] 31 1 [] (f82_ok u s.abbs.length bg hu.version (by omega)) else (default,([],[]))) [0,1,2,3,4,5,6,7,8] [0,0,2,6,14,30,0,127,255] [] mixed (by kernel_rfl) ?_
 refine sim ?_
 (skip);refine callDA ?_;rintro ret os fs ⟨o1,rfl,rfl,rfl⟩;refine sim ?_
 refine s1 ?_
 refine hRegionD (fun jx _=>if jx=6 then mkC [1031] 38 1 [] (f41o_ok o1 (headText u s.abbs.length bg) u.wide bg (by omega)) else (default,([],[]))) [0,1,2,3,4,5,6,7,8,9] [0,1,0,0,8,0,60,124,255,511] [(1,6)] mixed (by kernel_rfl) ?_
 refine simE @w1 ?_
 (skip);refine callDA ?_;rintro ret os fs ⟨o2,rfl,rfl,rfl⟩;refine sim ?_
 repeat' first|refine s1 ?_|refine s2 ?_|refine hRegion (simE @w1 ?_)|with_reducible refine fun (_:Outc)=>?_|fail
 rename_i o5 o8 o9 op oq
 generalize hz0:acc0 u bg s t=z0
 have ez1:z0.parts=[]:=by rw[←hz0];rfl
 have ez2:z0.places=[]:=by rw[←hz0];rfl
 have ez3:z0.texts=t:=by rw[←hz0];rfl
 have ez4:z0.abb=s.abbs:=by rw[←hz0];rfl
 have ez5:z0.pos=s.info.length+(lengthy (headText u s.abbs.length bg) u.wide bg).length:=by rw[←hz0];rfl
 have hacc:=accN_ok (bg:=bg) hu ez1 ez2
 have hnw:=hu.weight
 have l3:z0.texts.str.length=t.str.length:=by rw[ez3]
 have l4:z0.texts.line.length=t.line.length:=by rw[ez3]
 have l5:z0.abb.length=s.abbs.length:=by rw[ez4]
 refine hLoop (X:={p:(List (Value×Bytes)×(Value×Value×Value×Value×Value))×Nat // p.2≤u.nodes.length∧p.1.1.map (·.2)=(accN u bg z0 p.2).parts})
  (fun p=> ⟨[(0,.ref 0 sb 0),(2,booV bg),(3,.ref 3 tb 0),(5,.ref 5 o5.b 0),(8,.ref 8 o8.b 0),(9,.ref 9 o9.b 0),(10,.buf 1031 o1),(11,intV (accN u bg z0 p.1.2).pos),(12,.buf 41 p.1.1.2.1),(13,.buf 42 p.1.1.2.2.1),(44,nodesV u.nodes),(45,intV u.nodes.length),(46,intV p.1.2)],
   (5,some (.cells o5.b 0 (unitC u))) :: (8,some (.cells o8.b 0 [intV 0,.val (.slice none 0 0)])) :: (9,some (.cells o9.b 0 [intV s.info.length,.val (.slice none 0 0)])) :: (1031,some (.arr o1 5 1 (bytesR (headText u s.abbs.length bg)))) ::
   (41,some (.arr p.1.1.2.1 32 1 (famR p.1.1.1 0))) :: (42,some (.arr p.1.1.2.2.1 3 1 (intsR (accN u bg z0 p.1.2).places))) ::
   (0,some (.cells sb 0 [.buf 1 p.1.1.2.2.2.1,.buf 2 hi,.val (.slice none 0 0),.val (.slice none 0 0),.val (.slice none 0 0),.val (.slice none 0 0),.val (.slice none 0 0)])) :: (1,some (.arr p.1.1.2.2.2.1 5 1 (bytesR (accN u bg z0 p.1.2).abb))) :: (2,some (.arr hi 5 1 (bytesR s.info))) ::
   (3,some (.cells tb 0 [.buf 4 p.1.1.2.2.2.2.1,.buf 2000 p.1.1.2.2.2.2.2])) :: (4,some (.arr p.1.1.2.2.2.2.1 5 1 (bytesR (accN u bg z0 p.1.2).texts.str))) :: (2000,some (.arr p.1.1.2.2.2.2.2 5 1 (bytesR (accN u bg z0 p.1.2).texts.line))) :: famH p.1.1.1 0⟩) (fun p=>u.nodes.length - p.1.2)
  ⟨(([],op.h,oq.h,ha,hs,hl),0),by simp[accN,ez1]⟩ (by simp only[accN,ez2,ez3,ez4,famR,famH];refine sim ?_;((repeat' refine And.intro ?_ ?_)<;>rfl)) ?_
 ·rintro ⟨⟨⟨l,hp,hq,ha',hs',hl'⟩,j⟩,hj,hl0⟩
  simp only at hj hl0
  refine sim ?_
  obtain ⟨c1,c2,c3,c4,c5,c6,c7,c8⟩ :=hacc j hj
  have hwj:=nodesW_le (l:=u.nodes) j
  have hll2:l.length=j:=by rw[←c1,←hl0,List.length_map]
  by_cases hlt:j < u.nodes.length
  ·have hx:=nodeAt_get (u:=u) (j:=j) hlt
   have e:=row_at nodeC hx
   have ho:=hu.nodes _ (List.mem_of_getElem? hx)
   have hb1:=abbText_len (i:=j) (by omega) ho
   have ht1:=nodeText_len (u:=u) (i:=j) (x:=nodeAt u j) (bg:=bg) (t:=(accN u bg z0 j).texts) (by omega) hu.size ho.attrs
   have hsm:=attrsW_small ho.len ho.attrs
   have hst:accN u bg z0 (j+1)=accStep u bg j (accN u bg z0 j):=rfl
   generalize accN u bg z0 j=z at *
   have w4:IntKind.i64.wrap ((j:Int)+1)=((j+1:Nat):Int):=by rw[wrap_i64 (by omega) (by omega)];simp
   have e2:∀a,(famR l 0++[a]).getD j []=a:=fun a=>getD_mid (by rw[famR_length];exact hll2)
   have w2:IntKind.i64.wrap ((z.pos:Int)+((nodeText u j (nodeAt u j) bg z.texts).1.length:Int))=((z.pos+(nodeText u j (nodeAt u j) bg z.texts).1.length:Nat):Int):=by rw[wrap_i64 (by omega) (by omega)];simp
   repeat' first|refine s1 ?_|refine s2 ?_|refine hRegion (simE @e ?_)|refine hSkip (simE @e ?_)|(refine s7 rfl ?_ ?_<;>intro hb<;>first|(exfalso;omega)|skip)|with_reducible refine And.intro ?_ ?_|with_reducible refine fun (_:Outc)=>?_|omega
   ·refine hRegionD (fun jx _=>if jx=7 then mkC [] 61 1 [] (f83_ok j (nodeAt u j) (by omega) ho) else (default,([],[]))) [0,1,2,3,4,5,6,7,8,9,10,11] [0,0,2,6,14,0,0,96,254,511,1023,2047] [(4,7)] mixed (by kernel_rfl) ?_
    refine sim ?_
    (skip);refine callDA ?_;rintro ret os fs ⟨o3,rfl,rfl,rfl⟩;refine sim ?_
    repeat' first|refine s1 ?_|refine hRegion (sim ?_)|with_reducible refine And.intro ?_ ?_|with_reducible refine fun (_:Outc)=>?_|omega
    rename Outc=>oa
    refine callA [3,4,2000] 1 (f84_ok u j (nodeAt u j) bg z.texts tb hs' hl' (by omega) (by omega) hx ho hu.size (by omega) (by omega)) ?_;rintro ret os fs ⟨o4,hs2,hl2,rfl,rfl,rfl⟩;refine sim ?_
    repeat' first|with_reducible refine And.intro ?_ ?_|omega|with_reducible refine fun (_:Outc)=>?_|fail
    refine hEnt (eKey 1070 (fk j) (by simp -implicitDefEqProofs only[go_sem,↓reduceIte,Nat.reduceEqDiff,Nat.reduceLT,Nat.reduceLeDiff,Nat.reduceAdd,Nat.reduceSub,Nat.reduceMul,reduceCtorEq,List.reduceReplicate,Nat.reduceBEq,getO_fam_ge (i:=j) l 0 (by omega)]) (by unfold fk;omega)) ?_
    simp -implicitDefEqProofs only[go_sem,↓reduceIte,Nat.reduceEqDiff,Nat.reduceLT,Nat.reduceLeDiff,Nat.reduceAdd,Nat.reduceSub,Nat.reduceMul,reduceCtorEq,List.reduceReplicate,Nat.reduceBEq,turnR]
    repeat' first|refine s1 ?_|refine hRegion (simE (And.intro @e2 (And.intro @w2 @w4)) ?_)|with_reducible refine And.intro ?_ ?_|with_reducible refine fun (_:Outc)=>?_|omega
    rename_i q1 q2 q3 q4
    refine ⟨⟨((l++[(o4,(nodeText u j (nodeAt u j) bg z.texts).1)],q2.h,q4.h,oa.h,hs2,hl2),j+1),by omega,by rw[hst];simp[accStep,hl0]⟩, ?_⟩
    dsimp only
    rw[hst]
    simp only[accStep,if_neg (show¬(nodeAt u j).tag=0 by assumption),famR_snoc,hll2,Nat.zero_add,true_and]
    refine ⟨?_,by omega⟩
    intro a ha
    rw[famH_snoc,List.mem_append,List.mem_singleton] at ha
    rcases ha with ha|ha
    ·obtain ⟨i,i1,i2,i3,i4⟩ :=fam_mem _ _ ha
     have ij:(j=i)=False:=eq_false (by omega)
     rw[i3]
     (refine simE (And.intro @ij @i4) ?_;try exact trivial)
    ·subst ha
     (refine simE @hll2 ?_;try exact trivial)
   ·skip
    refine callA [3,4,2000] 1 (f84_ok u j (nodeAt u j) bg z.texts tb hs' hl' (by omega) (by omega) hx ho hu.size (by omega) (by omega)) ?_;rintro ret os fs ⟨o4,hs2,hl2,rfl,rfl,rfl⟩;refine sim ?_
    repeat' first|with_reducible refine And.intro ?_ ?_|omega|with_reducible refine fun (_:Outc)=>?_|fail
    refine hEnt (eKey 1070 (fk j) (by simp -implicitDefEqProofs only[go_sem,↓reduceIte,Nat.reduceEqDiff,Nat.reduceLT,Nat.reduceLeDiff,Nat.reduceAdd,Nat.reduceSub,Nat.reduceMul,reduceCtorEq,List.reduceReplicate,Nat.reduceBEq,getO_fam_ge (i:=j) l 0 (by omega)]) (by unfold fk;omega)) ?_
    simp -implicitDefEqProofs only[go_sem,↓reduceIte,Nat.reduceEqDiff,Nat.reduceLT,Nat.reduceLeDiff,Nat.reduceAdd,Nat.reduceSub,Nat.reduceMul,reduceCtorEq,List.reduceReplicate,Nat.reduceBEq,turnR]
    repeat' first|refine s1 ?_|refine hRegion (simE (And.intro @e2 (And.intro @w2 @w4)) ?_)|with_reducible refine And.intro ?_ ?_|with_reducible refine fun (_:Outc)=>?_|omega
    rename_i q1 q2 q3 q4
    refine ⟨⟨((l++[(o4,(nodeText u j (nodeAt u j) bg z.texts).1)],q2.h,q4.h,ha',hs2,hl2),j+1),by omega,by rw[hst];simp[accStep,hl0]⟩, ?_⟩
    dsimp only
    rw[hst]
    simp only[accStep,if_pos (show (nodeAt u j).tag=0 by assumption),List.append_nil,famR_snoc,hll2,Nat.zero_add,true_and]
    refine ⟨?_,by omega⟩
    intro a ha
    rw[famH_snoc,List.mem_append,List.mem_singleton] at ha
    rcases ha with ha|ha
    ·obtain ⟨i,i1,i2,i3,i4⟩ :=fam_mem _ _ ha
     have ij:(j=i)=False:=eq_false (by omega)
     rw[i3]
     (refine simE (And.intro @ij @i4) ?_;try exact trivial)
    ·subst ha
     (refine simE @hll2 ?_;try exact trivial)
  ·have:j=u.nodes.length:=by omega
   subst this
   have hz1:accOf u bg s t=accN u bg z0 u.nodes.length:=by rw[accOf,hz0]
   have hget:=accN_get (bg:=bg) hu ez1 ez2 u.nodes.length (Nat.le_refl _)
   have hP:placesOf u bg s t=(accN u bg z0 u.nodes.length).places++[((accN u bg z0 u.nodes.length).pos:Int)]:=by rw[placesOf,hz1]
   have hfin:finOf u bg s t=finN u s.info.length (placesOf u bg s t) bg (accN u bg z0 u.nodes.length).parts u.nodes.length:=by rw[finOf,hz1]
   simp only[addS,foundOf,hfin,hz1]
   generalize hPP:placesOf u bg s t=P at *
   have hPl:P.length=u.nodes.length+1:=by rw[hP];simp[c2]
   have hPb:∀n∈P,(s.info.length:Int)≤n∧n≤100000000:=by
    intro n hn
    rw[hP,List.mem_append,List.mem_singleton] at hn
    rcases hn with hn|hn
    ·have:=c8 n hn;omega
    ·subst hn;omega
   have hpg:∀k,k < u.nodes.length→(accN u bg z0 u.nodes.length).parts.getD k []=(nodeText u k (nodeAt u k) bg (accN u bg z0 k).texts).1:=by
    intro k hk
    rw[List.getD_eq_getElem?_getD,hget k hk];rfl
   generalize hzz:accN u bg z0 u.nodes.length=z at *
   repeat' first|refine s1 ?_|refine s2 ?_|refine hRegion (sim ?_)|refine hExit (sim ?_)|(refine s7 rfl ?_ ?_<;>intro hb<;>first|(exfalso;omega)|skip)|with_reducible refine And.intro ?_ ?_|with_reducible refine fun (_:Outc)=>?_|omega
   rename_i r1 r2 r3 r4
   rw[←hP]
   refine hEnt (eOwnCell 3001 9 1 65 4 (by refine sim ?_;rfl) rfl (by decide)) ?_;refine sim ?_
   have hB0:bytesR []=[]:=rfl
   refine hLoop (X:={p:(Value×Value)×Nat // p.2≤u.nodes.length})
    (fun p=> ⟨[(0,.ref 0 sb 0),(2,booV bg),(5,.ref 5 o5.b 0),(8,.ref 8 o8.b 0),(9,.ref 9 o9.b 0),(10,.buf 1031 p.1.1.1),(12,.buf 41 hp),(13,.buf 42 r4.h),(99,nodesV u.nodes),(100,intV u.nodes.length),(101,intV p.1.2)],
     (5,some (.cells o5.b 0 (unitC u))) :: (8,some (.cells o8.b 0 [intV 0,.val (.slice none 0 0)])) :: (9,some (.cells o9.b 0 [intV s.info.length,.buf 3001 p.1.1.2])) :: (1031,some (.arr p.1.1.1 5 1 (bytesR (headText u s.abbs.length bg++(finN u s.info.length P bg z.parts p.1.2).1)))) ::
     (3001,some (.arr p.1.1.2 65 4 ((finN u s.info.length P bg z.parts p.1.2).2.map entryC))) :: (41,some (.arr hp 32 1 (datR (finsN u s.info.length P bg z.parts p.1.2)++famR (l.drop p.1.2) p.1.2))) :: (42,some (.arr r4.h 3 1 (intsR P))) ::
     (0,some (.cells sb 0 [.buf 1 r2.h,.buf 2 hi,.val (.slice none 0 0),.val (.slice none 0 0),.val (.slice none 0 0),.val (.slice none 0 0),.val (.slice none 0 0)])) :: (1,some (.arr r2.h 5 1 (bytesR (z.abb++[0])))) :: (2,some (.arr hi 5 1 (bytesR s.info))) ::
     (3,some (.cells tb 0 [.buf 4 hs',.buf 2000 hl'])) :: (4,some (.arr hs' 5 1 (bytesR z.texts.str))) :: (2000,some (.arr hl' 5 1 (bytesR z.texts.line))) :: famH (l.drop p.1.2) p.1.2⟩) (fun p=>u.nodes.length - p.1.2)
    ⟨((o1,.slice none 0 0),0),by simp⟩ ?_ ?_
   ·simp only[finN,finsN,List.range_zero,List.map_nil,datR,List.nil_append,List.append_nil,List.drop_zero]
    refine sim ?_
    ((repeat' refine And.intro ?_ ?_)<;>first|rfl|skip)
    intro a ha
    obtain ⟨i,i1,i2,i3,i4⟩ :=fam_mem _ _ ha
    rw[i3]
    (refine simE @i4 ?_;try exact trivial)
   ·rintro ⟨⟨⟨hh,he⟩,i⟩,hi'⟩
    simp only at hi'
    refine sim ?_
    by_cases hlt:i < u.nodes.length
    ·have hx:=nodeAt_get (u:=u) (j:=i) hlt
     have e:=row_at nodeC hx
     have ho:=hu.nodes _ (List.mem_of_getElem? hx)
     have w4:IntKind.i64.wrap ((i:Int)+1)=((i+1:Nat):Int):=by rw[wrap_i64 (by omega) (by omega)];simp
     obtain ⟨y,hy⟩ :=getX l (i:=i) (by omega)
     have hyd:l.drop i=y :: l.drop (i+1):=by
      obtain ⟨hi2,e2⟩ :=List.getElem?_eq_some_iff.1 hy
      rw[List.drop_eq_getElem_cons hi2,e2]
     have hy2:z.parts.getD i []=y.2:=by rw[←hl0,List.getD_eq_getElem?_getD,List.getElem?_map,hy];rfl
     have e2:∀a b,(datR (finsN u s.info.length P bg z.parts i)++a :: b).getD i []=a:=fun a b=>getD_mid (by rw[datR_length,finsN_length])
     rw[hyd]
     refine simE (And.intro @famR_cons @famH_cons) ?_
     have q1:(finsN u s.info.length P bg z.parts i).length=i:=finsN_length
     have q2:=finN_pos (base:=s.info.length) (places:=P) hpg i hi'
     obtain ⟨_,_,d3,d4,_⟩ :=hacc i hi'
     have d5:=nodesW_le (l:=u.nodes) i
     have q3:(finN u s.info.length P bg z.parts i).2.length=i:=finN_len i
     have hyl:y.2.length≤1000014:=by
      have:=hpg i hlt
      rw[hy2] at this
      rw[this]
      have h5:=nodeText_len (u:=u) (i:=i) (x:=nodeAt u i) (bg:=bg) (t:=(accN u bg z0 i).texts) (by omega) hu.size ho.attrs
      have h6:=attrsW_small ho.len ho.attrs
      omega
     have haf:=afterOf_le (l:=u.nodes) (i:=i) (by omega)
     have ea:=row_i (l:=P) (i:=afterOf u.nodes i) (by omega)
     have hpa:=hPb (P.getD (afterOf u.nodes i) 0) (by rw[List.getD_eq_getElem?_getD,List.getElem?_eq_getElem (show afterOf u.nodes i < P.length by omega)];exact List.getElem_mem ..)
     have w5:IntKind.i64.wrap (P.getD (afterOf u.nodes i) 0 - (s.info.length:Int))=P.getD (afterOf u.nodes i) 0 - (s.info.length:Int):=wrap_i64 (by omega) (by omega)
     have w6:IntKind.u64.wrap (P.getD (afterOf u.nodes i) 0 - (s.info.length:Int))=P.getD (afterOf u.nodes i) 0 - (s.info.length:Int):=wrap_u64 (by omega) (by omega)
     have c0:codeN i=1+50 * i:=rfl
     have nn:=encU_len 0 (n:=codeN i) (by omega)
     repeat' first|refine s1 ?_|refine s2 ?_|refine hRegion (simE (And.intro @e @e2) ?_)|refine hSkip (simE (And.intro @e @e2) ?_)|(refine s7 rfl ?_ ?_<;>intro hb<;>first|(exfalso;omega)|skip)|with_reducible refine And.intro ?_ ?_|with_reducible refine fun (_:Outc)=>?_|omega
     ·have hcl:codeLen i+4≤y.2.length:=by
       have:=hpg i hlt
       rw[hy2] at this
       rw[this]
       have h5:=‹(nodeAt u i).sibling=true∧¬(nodeAt u i).tag=0›
       exact nodeText_ge h5.1 h5.2
      unfold codeLen at hcl
      have hcp:0 < (encU (codeN i) 0).length:=encU_pos _
      have fl4:=fixed_len (P.getD (afterOf u.nodes i) 0 - (s.info.length:Int)).toNat 4 bg
      have tk:(List.take (encU (codeN i) 0).length y.2).length=(encU (codeN i) 0).length:=by rw[List.length_take];omega
      have dr:(List.drop ((encU (codeN i) 0).length+4) y.2).length=y.2.length - ((encU (codeN i) 0).length+4):=by rw[List.length_drop]
      have e3:(((encU (codeN i) 0).length:Int)=0)=False:=eq_false (by omega)
      refine hRegionD (fun jx _=>if jx=5 then mkC [] 118 0 [] (f85_ok i (by omega)) else if jx=6 then mkC [] 119 1 [] (f76_n0 (codeN i) (by omega)) else if jx=13 then mkC [] 126 0 [] (f63_ok u.nodes (by omega) i (by omega)) else if jx=21 then mkC [] 134 1 [] (f38_4 (P.getD (afterOf u.nodes i) 0 - (s.info.length:Int)) bg (by omega) (by omega)) else (default,([],[]))) [0,1,2,3,4,9,10,11,12,16,17,20,5,6,7,8,13,14,15,18,19,21,22] [0,0,3,7,0,16,48,112,255,0,0,1024,0,7280,15984,32368,0,65536,261744,523888,0,2096752,4194303] [(2,5),(2,6),(2,13),(2,21),(3,5),(3,6),(3,13),(3,21),(11,5),(11,6),(17,5),(17,6),(17,13),(7,13),(7,21),(8,13),(8,21)] mixed (by kernel_rfl) ?_
      refine simE (And.intro @e2 (And.intro @ea (And.intro @w5 (And.intro @w6 (And.intro @e3 @false_and))))) ?_
      repeat' first|with_reducible refine And.intro ?_ ?_|omega
      (skip);refine callDA ?_;rintro ret os fs ⟨rfl,rfl,rfl⟩;refine sim ?_
      (skip);refine callDA ?_;rintro ret os fs ⟨o3,rfl,rfl,rfl⟩;refine sim ?_
      repeat' first|with_reducible refine And.intro ?_ ?_|omega
      (skip);refine callDA ?_;rintro ret os fs ⟨rfl,rfl,rfl⟩;refine sim ?_
      refine simE (And.intro @ea (And.intro @w5 (And.intro @w6 (And.intro @e3 @false_and)))) ?_
      repeat' first|with_reducible refine And.intro ?_ ?_|omega
      (skip);refine callDA ?_;rintro ret os fs ⟨o4,rfl,rfl,rfl⟩;refine sim ?_
      refine simE (And.intro @take_b (And.intro @drop_b (And.intro @e3 (And.intro @false_and @fl4)))) ?_
      repeat' first|with_reducible refine And.intro ?_ ?_|omega
      repeat' first|refine s1 ?_|refine hRegion (simE (And.intro @e2 (And.intro @take_b (And.intro @drop_b @fl4))) ?_)|with_reducible refine And.intro ?_ ?_|with_reducible refine fun (_:Outc)=>?_|omega
      refine hRegionD (fun jx _=>if jx=7 then mkC [42] 149 0 [] (f86_ok u s.info.length P i (nodeAt u i) r4.h (by omega) (by omega) hPl (fun n hn=>by have:=hPb n hn;omega) hx ho) else (default,([],[]))) [0,1,2,3,4,5,6,7,8,9,10,11] [0,1,0,0,8,0,0,124,252,511,1023,2047] [(1,7),(1,8)] mixed (by kernel_rfl) ?_
      refine sim ?_
      skip
      (skip);refine callDA ?_;rintro ret os fs ⟨rfl,rfl,rfl⟩;refine sim ?_
      repeat' first|with_reducible refine And.intro ?_ ?_|omega|with_reducible refine fun (_:Outc)=>?_|fail
      rename_i q8 q9 q10
      refine hEnt (eFrz (fk i) (by simp -implicitDefEqProofs only[go_sem,↓reduceIte,Nat.reduceEqDiff,Nat.reduceLT,Nat.reduceLeDiff,Nat.reduceAdd,Nat.reduceSub,Nat.reduceMul,reduceCtorEq,List.reduceReplicate,Nat.reduceBEq,fitR,fitL,AV.fit,frz1P,fitR_frz_fam_lt (i:=i) (l.drop (i+1)) (i+1) (Nat.lt_succ_self i),fitL_entry])) ?_
      simp -implicitDefEqProofs only[go_sem,↓reduceIte,Nat.reduceEqDiff,Nat.reduceLT,Nat.reduceLeDiff,Nat.reduceAdd,Nat.reduceSub,Nat.reduceMul,reduceCtorEq,List.reduceReplicate,Nat.reduceBEq,turnR,turnL,AV.turn,frz1,turnR_frz_fam_lt (i:=i) (l.drop (i+1)) (i+1) (Nat.lt_succ_self i)]
      refine hRegion (simE @w4 ?_)
      refine ⟨⟨((q8.h,q10.h),i+1),by omega⟩, ?_⟩
      dsimp only
      have hpt:patch u s.info.length P bg i y.2=y.2.take (encU (codeN i) 0).length++(fixed (P.getD (afterOf u.nodes i) 0 - (s.info.length:Int)).toNat 4 bg++y.2.drop ((encU (codeN i) 0).length+4)):=by rw[patch,if_pos (by assumption),List.append_assoc];rfl
      simp only[finN,finsN_succ,hy2,hpt,List.map_append,List.map_cons,List.map_nil,List.append_assoc,List.cons_append,List.nil_append,true_and]
      refine ⟨⟨?_, ?_⟩,by omega⟩
      ·rfl
      intro a ha
      obtain ⟨k,i1,i2,i3,i4⟩ :=fam_mem _ _ ha
      have ik:(i=k)=False:=eq_false (by omega)
      rw[i3]
      (refine simE (And.intro @ik @i4) ?_;try exact trivial)
     ·skip
      skip
      refine hRegionD (fun jx _=>if jx=7 then mkC [42] 149 0 [] (f86_ok u s.info.length P i (nodeAt u i) r4.h (by omega) (by omega) hPl (fun n hn=>by have:=hPb n hn;omega) hx ho) else (default,([],[]))) [0,1,2,3,4,5,6,7,8,9,10,11] [0,1,0,0,8,0,0,124,252,511,1023,2047] [(1,7),(1,8)] mixed (by kernel_rfl) ?_
      refine sim ?_
      skip
      (skip);refine callDA ?_;rintro ret os fs ⟨rfl,rfl,rfl⟩;refine sim ?_
      repeat' first|with_reducible refine And.intro ?_ ?_|omega|with_reducible refine fun (_:Outc)=>?_|fail
      rename_i q8 q9 q10
      refine hEnt (eFrz (fk i) (by simp -implicitDefEqProofs only[go_sem,↓reduceIte,Nat.reduceEqDiff,Nat.reduceLT,Nat.reduceLeDiff,Nat.reduceAdd,Nat.reduceSub,Nat.reduceMul,reduceCtorEq,List.reduceReplicate,Nat.reduceBEq,fitR,fitL,AV.fit,frz1P,fitR_frz_fam_lt (i:=i) (l.drop (i+1)) (i+1) (Nat.lt_succ_self i),fitL_entry])) ?_
      simp -implicitDefEqProofs only[go_sem,↓reduceIte,Nat.reduceEqDiff,Nat.reduceLT,Nat.reduceLeDiff,Nat.reduceAdd,Nat.reduceSub,Nat.reduceMul,reduceCtorEq,List.reduceReplicate,Nat.reduceBEq,turnR,turnL,AV.turn,frz1,turnR_frz_fam_lt (i:=i) (l.drop (i+1)) (i+1) (Nat.lt_succ_self i)]
      refine hRegion (simE @w4 ?_)
      refine ⟨⟨((q8.h,q10.h),i+1),by omega⟩, ?_⟩
      dsimp only
      have hpt:patch u s.info.length P bg i y.2=y.2:=by rw[patch,if_neg (fun hh=>(‹(nodeAt u i).sibling=false∨(nodeAt u i).tag=0›).elim (fun h=>by rw[h] at hh;exact absurd hh.1 (by decide)) (fun h=>hh.2 h))]
      simp only[finN,finsN_succ,hy2,hpt,List.map_append,List.map_cons,List.map_nil,List.append_assoc,List.cons_append,List.nil_append,true_and]
      refine ⟨⟨?_, ?_⟩,by omega⟩
      ·rfl
      intro a ha
      obtain ⟨k,i1,i2,i3,i4⟩ :=fam_mem _ _ ha
      have ik:(i=k)=False:=eq_false (by omega)
      rw[i3]
      (refine simE (And.intro @ik @i4) ?_;try exact trivial)
    ·have:i=u.nodes.length:=by omega
     subst this
     rw[show l.drop u.nodes.length=[] by rw[←hll2];exact List.drop_length ..]
     simp -implicitDefEqProofs only[go_sem,↓reduceIte,Nat.reduceEqDiff,Nat.reduceLT,Nat.reduceLeDiff,Nat.reduceAdd,Nat.reduceSub,Nat.reduceMul,reduceCtorEq,List.reduceReplicate,Nat.reduceBEq,famR,famH]
     have q2:=finN_pos (base:=s.info.length) (places:=P) hpg u.nodes.length (Nat.le_refl _)
     rw[hzz] at q2
     have lln:(lengthy (headText u s.abbs.length bg++(finN u s.info.length P bg z.parts u.nodes.length).1) u.wide bg).length≤4000000:=by
      have n2:=encO_len (headText u s.abbs.length bg++(finN u s.info.length P bg z.parts u.nodes.length).1).length u.wide bg
      unfold lengthy
      split<;>simp only[List.length_append,List.length_cons,List.length_nil] at *<;>omega
     repeat' first|refine s1 ?_|refine hRegion (sim ?_)|refine hExit (sim ?_)|(refine s7 rfl ?_ ?_<;>intro hb<;>first|(exfalso;omega)|skip)|fail
     refine hRegionD (fun jx _=>if jx=9 then mkC [1031] 163 1 [] (f41o_ok hh (headText u s.abbs.length bg++(finN u s.info.length P bg z.parts u.nodes.length).1) u.wide bg (by simp only[List.length_append];omega)) else (default,([],[]))) [0,1,2,3,4,5,6,7,8,9,10,11,12,13] [0,0,2,6,14,0,0,64,0,480,1022,2047,4095,8191] [(4,9)] mixed (by kernel_rfl) ?_
     refine sim ?_
     skip
     (skip);refine callDA ?_;rintro ret os fs ⟨o3,rfl,rfl,rfl⟩;refine sim ?_
     repeat' first|refine s1 ?_|refine hRegion (sim ?_)|with_reducible refine And.intro ?_ ?_|with_reducible refine fun (_:Outc)=>?_|omega
     refine hEnt (eFrz 3001 sT) ?_;refine sim ?_
     refine hEnt (eKey 5 2001 sT (by decide)) ?_;refine sim ?_
     refine hEnt (eKey 2000 5 sT (by decide)) ?_;refine sim ?_
     refine rn ?_
     refine doneA [] ?_;try exact trivial
     exact ⟨_,_,_,_,rfl⟩
end
set_option maxHeartbeats 4000000
set_option maxRecDepth 10000
open Go.AM Go
section
variable {G:Nat→AV}
theorem f46_ok (l:LayoutD) (ns:List NodeD):Fulfils Tryz.prog G 46 [.agg (layoutC l),nodesV ns] [] (retP (.agg (unitC ⟨l.version,l.wide,l.size,ns⟩))):=by
 refine fulfilA Tryz.f46 [.cell 4 96] 0 ?_
 simp only[Tryz.f46,Option.getD_some,go_sem]
 repeat' first|refine rn ?_|with_reducible refine fun (_:Outc)=>?_|fail
 refine doneA [] ?_;try exact trivial
 exact ⟨rfl,rfl,rfl⟩
def listsTo (l:LayoutD) (spans:List SpanD) (j:Nat):Bytes:=(spans.take j).flatMap fun x=>if x.listed then listText l x else []
def beginOf (l:LayoutD):Nat:=if 4 < l.version then (listsHead l []).length else 0
def atOf (l:LayoutD) (spans:List SpanD) (j:Nat):Int:=((beginOf l+(listsTo l spans j).length:Nat):Int)
def atsTo (l:LayoutD) (spans:List SpanD) (j:Nat):List Int:=(List.range j).map (atOf l spans)
theorem listsTo_succ {l:LayoutD} {spans:List SpanD} {j:Nat} {x:SpanD} (h:spans[j]? =some x):listsTo l spans (j+1)=listsTo l spans j++(if x.listed then listText l x else []):=by
 rw[listsTo,take_succ h];simp[listsTo]
theorem atsTo_succ {l:LayoutD} {spans:List SpanD} {j:Nat}:atsTo l spans (j+1)=atsTo l spans j++[atOf l spans j]:=by simp[atsTo,List.range_succ]
structure SpanOK (l:LayoutD) (x:SpanD):Prop where
 low:0≤x.low∧x.low < 2147483648
 high:0≤x.high∧x.high < 2147483648
 up:x.listed=false→x.low < x.high
 len:x.pieces.length≤100
 pieces:∀p∈x.pieces,PieceOK l p
theorem listText_len {l:LayoutD} {x:SpanD} (hz:0≤l.size∧l.size≤8) (h:SpanOK l x):(listText l x).length≤4000:=by
 have m1:=flat_len (pieceText l) 30 x.pieces (fun p hp=>pieceText_len hz (h.pieces p hp))
 have hl:=h.len
 unfold listText
 split<;>simp only[List.length_append,List.length_cons,List.length_nil,address,fixed_len]<;>omega
theorem listsTo_len {l:LayoutD} {spans:List SpanD} (hz:0≤l.size∧l.size≤8) (h:∀x∈spans,SpanOK l x):∀j,j≤spans.length→(listsTo l spans j).length≤4000 * j
 |0,_=>by simp[listsTo]
 |j+1,hj=>by
  have ih:=listsTo_len hz h j (by omega)
  obtain ⟨x,hx⟩ :=getX spans (i:=j) (by omega)
  rw[listsTo_succ hx,List.length_append]
  have:=listText_len hz (h x (List.mem_of_getElem? hx))
  split<;>(try simp only[List.length_nil])<;>omega
theorem listsHead_len {l:LayoutD} {b:Bytes}:(listsHead l b).length≤b.length+30:=by
 have n2:=encO_len (fixed 5 2 l.big++[byI l.size,0]++fixed 0 4 l.big++b).length l.wide l.big
 unfold listsHead lengthy
 split<;>simp only[List.length_append,List.length_cons,List.length_nil,fixed_len] at *<;>omega
theorem beginOf_le {l:LayoutD}:beginOf l≤30:=by
 have:=listsHead_len (l:=l) (b:=[])
 unfold beginOf
 split<;>simp only[List.length_nil] at *<;>omega
def keepAttr (a:AttrD):Bool:=a.attr != 17 && a.attr != 18 && a.attr != 16 && a.attr != 82 && a.attr != 85 && a.attr != 27
def headNode (x:SpanD) (u:UnitD) (f:List AttrD) (a:Int):NodeD:= ⟨17,(nodeAt u 0).children,false,f++spanAttrs x a++(nodeAt u 0).attrs.filter keepAttr⟩
def unitAt (l:LayoutD) (x:SpanD) (u:UnitD) (f:List AttrD) (a:Int):UnitD:= ⟨l.version,l.wide,l.size,headNode x u f a :: u.nodes.drop 1⟩
def spanAt (spans:List SpanD) (i:Nat):SpanD:=spans.getD i ⟨0,0,false,false,[]⟩
def unitOf (units:List UnitD) (i:Nat):UnitD:=units.getD i ⟨0,false,0,[]⟩
structure SpState where
 s:SectD
 t:TextsD
 found:List FoundE
def newUnit (l:LayoutD) (spans:List SpanD) (units:List UnitD) (first:List (List AttrD)) (i:Nat):UnitD:=unitAt l (spanAt spans i) (unitOf units i) (first.getD i []) (atOf l spans i)
def spN (l:LayoutD) (spans:List SpanD) (units:List UnitD) (first:List (List AttrD)) (tx:Bytes):Nat→SpState
 |0=> ⟨⟨[],[]⟩, ⟨[],tx⟩,[]⟩
 |i+1=> ⟨addS (newUnit l spans units first i) l.big (spN l spans units first tx i).s (spN l spans units first tx i).t,(accOf (newUnit l spans units first i) l.big (spN l spans units first tx i).s (spN l spans units first tx i).t).texts,
   (spN l spans units first tx i).found++[foundOf (newUnit l spans units first i) l.big (spN l spans units first tx i).s (spN l spans units first tx i).t]⟩
theorem addS_len {u:UnitD} {bg:Bool} {s:SectD} {t:TextsD} (hu:UnitOK u):(addS u bg s t).abbs.length≤s.abbs.length+2300000∧(addS u bg s t).info.length≤s.info.length+2300000∧
  (accOf u bg s t).texts.str.length≤t.str.length+2000000∧(accOf u bg s t).texts.line.length≤t.line.length+2000000:=by
 have hn:=hu.len
 have hw:=hu.weight
 have e1:(acc0 u bg s t).parts=[]:=rfl
 have e2:(acc0 u bg s t).places=[]:=rfl
 obtain ⟨_,_,c3,c4,c5,c6,c7,_⟩ :=accN_ok (bg:=bg) (z:=acc0 u bg s t) hu e1 e2 u.nodes.length (Nat.le_refl _)
 have hget:=accN_get (bg:=bg) (z:=acc0 u bg s t) hu e1 e2 u.nodes.length (Nat.le_refl _)
 have hp:=finN_pos (base:=s.info.length) (places:=placesOf u bg s t) (parts:=(accOf u bg s t).parts) (z0:=acc0 u bg s t) (fun k hk=>by
  rw[List.getD_eq_getElem?_getD,accOf,hget k hk];rfl) u.nodes.length (Nat.le_refl _)
 rw[List.take_of_length_le (Nat.le_refl _)] at c4 c5 c6 c7
 have l1:(acc0 u bg s t).texts=t:=rfl
 have l2:(acc0 u bg s t).abb=s.abbs:=rfl
 rw[l1] at c5 c6
 rw[l2] at c7
 have n2:=encO_len (headText u s.abbs.length bg++(finOf u bg s t).1).length u.wide bg
 have hhl:(headText u s.abbs.length bg).length≤20:=by
  have n2:=encO_len s.abbs.length u.wide bg
  unfold headText;split<;>simp only[List.length_append,List.length_cons,List.length_nil,fixed_len]<;>omega
 refine ⟨?_, ?_, ?_, ?_⟩
 ·simp only[addS,List.length_append,List.length_cons,List.length_nil,accOf];omega
 ·have hl:(lengthy (headText u s.abbs.length bg++(finOf u bg s t).1) u.wide bg).length≤40+(finOf u bg s t).1.length:=by
   unfold lengthy
   split<;>simp only[List.length_append,List.length_cons,List.length_nil] at *<;>omega
  have e:(finOf u bg s t).1.length=(finN u s.info.length (placesOf u bg s t) bg (accOf u bg s t).parts u.nodes.length).1.length:=rfl
  simp only[addS,List.length_append]
  omega
 ·simp only[accOf];omega
 ·simp only[accOf];omega
theorem spN_len {l:LayoutD} {spans:List SpanD} {units:List UnitD} {first:List (List AttrD)} {tx:Bytes} {n:Nat} (hu:∀i,i < n→UnitOK (newUnit l spans units first i)):∀i,i≤n→
  (spN l spans units first tx i).s.abbs.length≤2300000 * i∧(spN l spans units first tx i).s.info.length≤2300000 * i∧(spN l spans units first tx i).t.str.length≤2000000 * i∧(spN l spans units first tx i).t.line.length≤tx.length+2000000 * i∧(spN l spans units first tx i).found.length=i
 |0,_=>by simp[spN]
 |i+1,hi=>by
  obtain ⟨h1,h2,h3,h4,h5⟩ :=spN_len (tx:=tx) hu i (by omega)
  obtain ⟨k1,k2,k3,k4⟩ :=addS_len (bg:=l.big) (s:=(spN l spans units first tx i).s) (t:=(spN l spans units first tx i).t) (hu i (by omega))
  simp only[spN,List.length_append,List.length_cons,List.length_nil]
  omega
end
set_option maxHeartbeats 4000000
set_option maxRecDepth 10000
open Go.AM Go
section
variable {G:Nat→AV}
structure SectionsD where
 abbs:Bytes
 info:Bytes
 line:Bytes
 ranges:Bytes
 str:Bytes
 added:List (Bytes×Bytes)
 types:Bytes
def addedV (l:List (Bytes×Bytes)):AV:=.dat false 2 (l.map fun p=>[strV p.1,bytesV p.2])
def sectC (s:SectionsD):List AV:=[bytesV s.abbs,bytesV s.info,bytesV s.line,bytesV s.ranges,bytesV s.str,addedV s.added,bytesV s.types]
def foundsV (l:List FoundE):AV:=.dat false 2 (l.map foundC)
def firstV (l:List (List AttrD)):AV:=.dat false 1 (l.map fun x=>[attrsV x])
def lineStr:Bytes:=[46,100,101,98,117,103,95,108,105,110,101,95,115,116,114]
def rngLists:Bytes:=[46,100,101,98,117,103,95,114,110,103,108,105,115,116,115]
def spannedS (l:LayoutD) (spans:List SpanD) (units:List UnitD) (first:List (List AttrD)) (tx:Bytes):SectionsD:=
 let z:=spN l spans units first tx units.length
 let ls:=listsTo l spans spans.length
 if 4 < l.version then ⟨z.s.abbs,z.s.info,[],[],z.t.str,[(lineStr,z.t.line),(rngLists,listsHead l ls)],[]⟩
 else ⟨z.s.abbs,z.s.info,[],ls,z.t.str,[(lineStr,z.t.line)],[]⟩
theorem turnR_first {f:AV→AV} [Still f] (l:List (List AttrD)):turnR f (l.map fun x=>[AV.dat false 6 (x.map attrC)])=l.map fun x=>[AV.dat false 6 (x.map attrC)]:=
 turnR_map (g:=fun x=>[AV.dat false 6 (x.map attrC)]) (fun b=>by simp only[turnL,AV.turn,turnR_attr]) l
theorem fitR_first {p:AV→Prop} [StillP p] (l:List (List AttrD)):fitR p (l.map fun x=>[AV.dat false 6 (x.map attrC)])=True:=
 eq_true (fitR_map (g:=fun x=>[AV.dat false 6 (x.map attrC)]) (fun b=> ⟨by have:=fitR_attr (p:=p) b;simp only[AV.fit,this],trivial⟩) l)
attribute [go_sem] addedV sectC foundsV firstV Int.toNat_zero turnR_first fitR_first
theorem f14_ok (l:LayoutD) (spans:List SpanD) (units:List UnitD) (first:List (List AttrD)) (tx:Bytes) (hv:4≤l.version∧l.version≤5) (hz:0≤l.size∧l.size≤8) (hn:units.length≤10) (hs:spans.length=units.length) (hf:first.length=units.length)
  (hsp:∀x∈spans,SpanOK l x) (hne:∀u∈units,0 < u.nodes.length∧u.nodes.length≤5000) (hfl:∀f∈first,f.length≤10) (hal:∀u∈units,∀x∈u.nodes,x.attrs.length≤100) (htx:tx.length≤1000000) (hu:∀i,i < units.length→UnitOK (newUnit l spans units first i)):
  Fulfils Tryz.prog G 14 [.agg (layoutC l),spansV spans,unitsV units,firstV first,bytesV tx] []
  (retP (.tup [.agg (sectC (spannedS l spans units first tx)),foundsV (spN l spans units first tx units.length).found])):=by
 have hbig:big=140737488355328:=rfl
 have e0:bytesR []=[]:=rfl
 have hlh:=listsHead_len (l:=l) (b:=[])
 have hbe:=beginOf_le (l:=l)
 have hll:=listsTo_len hz hsp
 simp only[List.length_nil] at hlh
 simp only[bytesV_eq]
 refine fulfilA Tryz.f14 [.cell 10 52,.tmp 11] 0 ?_
 simp only[Tryz.f14,Option.getD_some,go_sem]
 (refine s1 ?_;refine hRegion (sim ?_);repeat' first|with_reducible refine fun (_:Outc)=>?_|fail)
 rename_i o5 o10
 (refine s1 ?_;refine hRegion (sim ?_);repeat' first|with_reducible refine fun (_:Outc)=>?_|fail)
 rename_i oa ob
 (refine s1 ?_;refine hRegion (sim ?_);skip)
 refine hMeet (X:=Unit) (fun _=> ⟨[(1,spansV spans),(2,unitsV units),(3,firstV first),(4,bytesV tx),(5,.ref 5 o5.b 0),(10,.ref 10 o10.b 0),(12,.buf 26 oa.h),(13,.buf 27 ob.h),(14,intV (beginOf l))],
  [(5,some (.cells o5.b 0 (layoutC l))),(10,some (.cells o10.b 0 (List.replicate 7 (.val (.slice none 0 0))))),(26,some (.arr oa.h 5 1 (bytesR []))),(27,some (.arr ob.h 3 1 (intsR [])))]⟩) ?_ ?_
 ·repeat' first|refine s1 ?_|refine hRegion (sim ?_)|refine hSkip (sim ?_)|refine s7 rfl (fun hb=>?_) fun hb=>?_|fail
  ·refine callA [] 1 (f42n_ok l) ?_;rintro ret os fs ⟨o1,rfl,rfl,rfl⟩;refine sim ?_
   skip
   refine ⟨(), ?_⟩
   rw[beginOf,if_pos (by assumption)]
   refine sim ?_
   ((repeat' refine And.intro ?_ ?_)<;>rfl)
  ·refine ⟨(), ?_⟩
   rw[beginOf,if_neg (by omega)]
   ((repeat' refine And.intro ?_ ?_)<;>rfl)
 rintro _
 repeat' first|refine s1 ?_|refine s2 ?_|refine hRegion (sim ?_)|fail
 refine hLoop (X:={p:(Value×Value)×Nat // p.2≤spans.length}) (fun p=> ⟨[(1,spansV spans),(2,unitsV units),(3,firstV first),(4,bytesV tx),(5,.ref 5 o5.b 0),(10,.ref 10 o10.b 0),(12,.buf 26 p.1.1.1),(13,.buf 27 p.1.1.2),(14,intV (beginOf l)),(34,spansV spans),(35,intV spans.length),(36,intV p.1.2)],
  [(5,some (.cells o5.b 0 (layoutC l))),(10,some (.cells o10.b 0 (List.replicate 7 (.val (.slice none 0 0))))),(26,some (.arr p.1.1.1 5 1 (bytesR (listsTo l spans p.1.2)))),(27,some (.arr p.1.1.2 3 1 (intsR (atsTo l spans p.1.2))))]⟩) (fun p=>spans.length - p.1.2) ⟨((oa.h,ob.h),0),by simp⟩
  (by simp only[listsTo,atsTo,List.take_zero,List.flatMap_nil,List.range_zero,List.map_nil];refine sim ?_;((repeat' refine And.intro ?_ ?_)<;>rfl)) ?_
 rintro ⟨⟨⟨h,h2⟩,j⟩,hj⟩
 simp only at hj
 refine sim ?_
 have hlj:=hll j hj
 have haj:(atsTo l spans j).length=j:=by simp[atsTo]
 by_cases hlt:j < spans.length
 ·obtain ⟨x,hx⟩ :=getX spans hlt
  have e:=row_at spanC hx
  have hox:=hsp x (List.mem_of_getElem? hx)
  have hxl:=listText_len hz hox
  have w4:IntKind.i64.wrap ((j:Int)+1)=((j+1:Nat):Int):=by rw[wrap_i64 (by omega) (by omega)];simp
  have w5:IntKind.i64.wrap ((beginOf l:Int)+((listsTo l spans j).length:Int))=atOf l spans j:=by rw[wrap_i64 (by omega) (by omega)];simp[atOf]
  repeat' first|refine s1 ?_|refine s2 ?_|refine hRegion (simE (And.intro @e @w5) ?_)|refine hSkip (simE (And.intro @e @w5) ?_)|(refine s7 rfl ?_ ?_<;>intro hb<;>first|(exfalso;omega)|skip)|with_reducible refine And.intro ?_ ?_|with_reducible refine fun (_:Outc)=>?_|omega
  ·refine callA [] 1 (f43_ok l x hz hox.len hox.pieces) ?_;rintro ret os fs ⟨o1,rfl,rfl,rfl⟩;refine sim ?_
   repeat' first|refine hRegion (simE @w4 ?_)|with_reducible refine And.intro ?_ ?_|with_reducible refine fun (_:Outc)=>?_|omega
   rename_i p1 p2 p3 p4
   refine ⟨⟨((p4.h,p3.h),j+1),by omega⟩, ?_⟩
   dsimp only
   rw[listsTo_succ hx,atsTo_succ,if_pos (by assumption)]
   ((repeat' refine And.intro ?_ ?_)<;>first|rfl|omega)
  ·rename_i p3
   refine ⟨⟨((h,p3.h),j+1),by omega⟩, ?_⟩
   dsimp only
   rw[listsTo_succ hx,atsTo_succ,if_neg (by simp[*]),w4,List.append_nil]
   ((repeat' refine And.intro ?_ ?_)<;>first|rfl|omega)
 ·have:j=spans.length:=by omega
  subst this
  repeat' first|refine s1 ?_|refine s2 ?_|refine hRegion (sim ?_)|refine hExit (sim ?_)|(refine s7 rfl ?_ ?_<;>intro hb<;>first|(exfalso;omega)|skip)|with_reducible refine And.intro ?_ ?_|with_reducible refine fun (_:Outc)=>?_|omega
  rename_i os q1 q2 q3 q4
  refine hEnt (eOwnCell 3001 17 0 5 1 (by refine sim ?_;rfl) rfl (by decide)) ?_;refine sim ?_
  refine hEnt (eOwnCell 3002 17 1 5 1 (by refine sim ?_;rfl) rfl (by decide)) ?_;refine sim ?_
  refine hEnt (eOwnCell 3003 60 0 5 1 (by refine sim ?_;rfl) rfl (by decide)) ?_;refine sim ?_
  have hsl:=spN_len (tx:=tx) hu
  refine hLoop (X:={p:(Value×Value×Value×Value×Value)×Nat // p.2≤units.length}) (fun p=> ⟨[(1,spansV spans),(2,unitsV units),(3,firstV first),(5,.ref 5 o5.b 0),(10,.ref 10 o10.b 0),(12,.buf 26 h),(13,.buf 27 h2),(17,.ref 17 os.b 0),(18,.ref 60 q3.b 0),(19,.buf 61 p.1.1.2.2.2.2),(62,unitsV units),(63,intV units.length),(64,intV p.1.2)],
   [(5,some (.cells o5.b 0 (layoutC l))),(10,some (.cells o10.b 0 (List.replicate 7 (.val (.slice none 0 0))))),(26,some (.arr h 5 1 (bytesR (listsTo l spans spans.length)))),(27,some (.arr h2 3 1 (intsR (atsTo l spans spans.length)))),
    (17,some (.cells os.b 0 [.buf 3001 p.1.1.1,.buf 3002 p.1.1.2.1,.val (.slice none 0 0),.val (.slice none 0 0),.val (.slice none 0 0),.val (.slice none 0 0),.val (.slice none 0 0)])),
    (3001,some (.arr p.1.1.1 5 1 (bytesR (spN l spans units first tx p.1.2).s.abbs))),(3002,some (.arr p.1.1.2.1 5 1 (bytesR (spN l spans units first tx p.1.2).s.info))),
    (60,some (.cells q3.b 0 [.buf 3003 p.1.1.2.2.1,.buf 56 p.1.1.2.2.2.1])),(3003,some (.arr p.1.1.2.2.1 5 1 (bytesR (spN l spans units first tx p.1.2).t.str))),(56,some (.arr p.1.1.2.2.2.1 5 1 (bytesR (spN l spans units first tx p.1.2).t.line))),
    (61,some (.arr p.1.1.2.2.2.2 58 2 ((spN l spans units first tx p.1.2).found.map foundC)))]⟩) (fun p=>units.length - p.1.2)
   ⟨((.slice none 0 0,.slice none 0 0,.slice none 0 0,q2.h,q4.h),0),by simp⟩ (by simp only[spN,List.map_nil];refine sim ?_;((repeat' refine And.intro ?_ ?_)<;>rfl)) ?_
  rintro ⟨⟨⟨ha,hi,hst,hl,hfd⟩,i⟩,hi'⟩
  simp only at hi'
  refine sim ?_
  by_cases hlt:i < units.length
  ·obtain ⟨u,hx⟩ :=getX units hlt
   have e:=row_at unitC hx
   obtain ⟨b1,b2,b3,b4,b5⟩ :=hsl i hi'
   have w4:IntKind.i64.wrap ((i:Int)+1)=((i+1:Nat):Int):=by rw[wrap_i64 (by omega) (by omega)];simp
   have hne':=hne u (List.mem_of_getElem? hx)
   have hn0:=nodeAt_get (u:=u) (j:=0) hne'.1
   have en0:=row_at nodeC hn0
   obtain ⟨x,hsx⟩ :=getX spans (i:=i) (by omega)
   have es:=row_at spanC hsx
   have hox:=hsp x (List.mem_of_getElem? hsx)
   obtain ⟨f,hfx⟩ :=getX first (i:=i) (by omega)
   have ef:(first.map (fun x=>[AV.dat false 6 (x.map attrC)])).getD i []=[AV.dat false 6 (f.map attrC)]:=row_at (fun x=>[AV.dat false 6 (x.map attrC)]) hfx
   have hfl':=hfl f (List.mem_of_getElem? hfx)
   have hal':=hal u (List.mem_of_getElem? hx) (nodeAt u 0) (List.mem_of_getElem? hn0)
   have eat:(intsR (atsTo l spans spans.length)).getD i []=[intV (atOf l spans i)]:=by
    rw[row_i (by simp[atsTo];omega)]
    simp[atsTo,List.getD_eq_getElem?_getD,List.getElem?_range (show i < spans.length by omega)]
   have hab:0≤atOf l spans i∧atOf l spans i≤1000000:=by
    have:=hll i (by omega)
    unfold atOf;omega
   have sal:(spanAttrs x (atOf l spans i)).length=2:=rfl
   repeat' first|refine s1 ?_|refine s2 ?_|refine hRegion (simE @e ?_)|refine hSkip (simE @e ?_)|(refine s7 rfl ?_ ?_<;>intro hb<;>first|(exfalso;omega)|skip)|with_reducible refine And.intro ?_ ?_|with_reducible refine fun (_:Outc)=>?_|omega
   refine hRegionD (fun jx _=>if jx=15 then mkC [] 88 1 [] (f44_ok l x (atOf l spans i) hv.1 (by omega) hox.low hox.high hox.up) else (default,([],[]))) [0,1,2,3,4,5,6,7,8,9,10,11,12,13,14,15,16,17] [0,0,0,6,14,31,0,0,0,384,896,0,0,6144,14336,32767,65535,131071] [(0,3),(0,4),(0,6),(0,9),(0,10),(0,13),(0,14),(5,6),(5,9),(5,10),(5,13),(5,14)] mixed (by kernel_rfl) ?_
   refine simE (And.intro @es (And.intro @ef @eat)) ?_
   repeat' first|with_reducible refine And.intro ?_ ?_|omega|with_reducible refine fun (_:Outc)=>?_|fail
   (skip);refine callDA ?_;rintro ret os fs ⟨o1,rfl,rfl,rfl⟩;refine sim ?_
   repeat' first|refine s1 ?_|refine s2 ?_|refine hRegion (simE @en0 ?_)|with_reducible refine And.intro ?_ ?_|with_reducible refine fun (_:Outc)=>?_|omega
   rename_i q5 q6 q7 q8
   refine hLoop (X:={p:Value×Nat // p.2≤(nodeAt u 0).attrs.length}) (fun p=> ⟨[(1,spansV spans),(2,unitsV units),(3,firstV first),(5,.ref 5 o5.b 0),(10,.ref 10 o10.b 0),(12,.buf 26 h),(13,.buf 27 h2),(17,.ref 17 os.b 0),(18,.ref 60 q3.b 0),(19,.buf 61 hfd),(62,unitsV units),(63,intV units.length),(64,intV i),(20,intV i),(22,.buf 69 q5.h),(23,.buf 73 p.1.1),(93,attrsV (nodeAt u 0).attrs),(94,intV (nodeAt u 0).attrs.length),(95,intV p.1.2)],
    [(5,some (.cells o5.b 0 (layoutC l))),(10,some (.cells o10.b 0 (List.replicate 7 (.val (.slice none 0 0))))),(26,some (.arr h 5 1 (bytesR (listsTo l spans spans.length)))),(27,some (.arr h2 3 1 (intsR (atsTo l spans spans.length)))),
     (17,some (.cells os.b 0 [.buf 3001 ha,.buf 3002 hi,.val (.slice none 0 0),.val (.slice none 0 0),.val (.slice none 0 0),.val (.slice none 0 0),.val (.slice none 0 0)])),
     (3001,some (.arr ha 5 1 (bytesR (spN l spans units first tx i).s.abbs))),(3002,some (.arr hi 5 1 (bytesR (spN l spans units first tx i).s.info))),
     (60,some (.cells q3.b 0 [.buf 3003 hst,.buf 56 hl])),(3003,some (.arr hst 5 1 (bytesR (spN l spans units first tx i).t.str))),(56,some (.arr hl 5 1 (bytesR (spN l spans units first tx i).t.line))),
     (61,some (.arr hfd 58 2 ((spN l spans units first tx i).found.map foundC))),(69,some (.arr q5.h 125 4 (u.nodes.map nodeC))),
     (73,some (.arr p.1.1 48 6 ((f++spanAttrs x (atOf l spans i)++((nodeAt u 0).attrs.take p.1.2).filter keepAttr).map attrC)))]⟩) (fun p=>(nodeAt u 0).attrs.length - p.1.2) ⟨(q8.h,0),by simp⟩ (by simp only[List.take_zero,List.filter_nil,List.append_nil,List.map_append];refine sim ?_;((repeat' refine And.intro ?_ ?_)<;>rfl)) ?_
   ·rintro ⟨⟨h3,k⟩,hk⟩
    simp only at hk
    refine sim ?_
    by_cases hlk:k < (nodeAt u 0).attrs.length
    ·obtain ⟨a,ha1⟩ :=getX (nodeAt u 0).attrs hlk
     have ea:=row_at attrC ha1
     have w5:IntKind.i64.wrap ((k:Int)+1)=((k+1:Nat):Int):=by rw[wrap_i64 (by omega) (by omega)];simp
     have hfk:(((nodeAt u 0).attrs.take k).filter keepAttr).length≤100:=Nat.le_trans (List.length_filter_le ..) (by rw[List.length_take];omega)
     repeat' first|refine s1 ?_|refine s2 ?_|refine hRegion (simE (And.intro @ea @w5) ?_)|refine hSkip (simE (And.intro @ea @w5) ?_)|(refine s7 rfl ?_ ?_<;>intro hb<;>first|(exfalso;omega)|skip)|with_reducible refine And.intro ?_ ?_|with_reducible refine fun (_:Outc)=>?_|omega
     ·rename Outc=>o9
      refine ⟨⟨(o9.h,k+1),by omega⟩, ?_⟩
      dsimp only
      have kp:keepAttr a=true:=by have:=‹((((¬a.attr=17∧¬a.attr=18)∧¬a.attr=16)∧¬a.attr=82)∧¬a.attr=85)∧¬a.attr=27›;simp[keepAttr,this]
      rw[take_succ ha1,List.filter_append]
      simp only[List.filter_cons,kp,if_true,List.filter_nil,List.map_append,List.map_cons,List.map_nil,List.append_assoc]
      ((repeat' refine And.intro ?_ ?_)<;>first|rfl|omega|(simp;done))
     ·refine ⟨⟨(h3,k+1),by omega⟩, ?_⟩
      dsimp only
      have kp:keepAttr a=false:=by
       rcases ‹((((a.attr=17∨a.attr=18)∨a.attr=16)∨a.attr=82)∨a.attr=85)∨a.attr=27› with ((((g|g)|g)|g)|g)|g<;>simp[keepAttr,g]
      rw[take_succ ha1,List.filter_append]
      simp only[List.filter_cons,kp,Bool.false_eq_true,if_false,List.filter_nil,List.append_nil]
      ((repeat' refine And.intro ?_ ?_)<;>first|omega|(simp;done))
    ·have:k=(nodeAt u 0).attrs.length:=by omega
     subst this
     have hset:∀r,(u.nodes.map nodeC).set 0 r=r :: (u.nodes.drop 1).map nodeC:=by
      intro r
      cases hc:u.nodes with
      |nil=>rw[hc] at hne';simp at hne'
      |cons y ys=>rfl
     obtain ⟨NN,hNN⟩ :∃NN,NN=headNode x u f (atOf l spans i) :: u.nodes.drop 1:= ⟨_,rfl⟩
     have hnu:newUnit l spans units first i= ⟨l.version,l.wide,l.size,NN⟩ :=by
      simp only[newUnit,unitAt,spanAt,unitOf,List.getD_eq_getElem?_getD,hx,hsx,hfx,Option.getD_some,hNN]
     have hfold:[AV.val (.int .i64 17),AV.val (.bool (nodeAt u 0).children),AV.val (.bool false),AV.dat false 6 (f.map attrC++(spanAttrs x (atOf l spans i)).map attrC++((nodeAt u 0).attrs.filter keepAttr).map attrC)] :: (u.nodes.drop 1).map nodeC=NN.map nodeC:=by
      rw[hNN]
      simp only[List.map_cons,nodeC,headNode,List.map_append,attrsV,intV,booV]
     have hok:=hu i hlt
     have hst1:spN l spans units first tx (i+1)= ⟨addS (newUnit l spans units first i) l.big (spN l spans units first tx i).s (spN l spans units first tx i).t,(accOf (newUnit l spans units first i) l.big (spN l spans units first tx i).s (spN l spans units first tx i).t).texts,
      (spN l spans units first tx i).found++[foundOf (newUnit l spans units first i) l.big (spN l spans units first tx i).s (spN l spans units first tx i).t]⟩ :=rfl
     generalize spN l spans units first tx i=z at *
     rw[hnu] at hok hst1
     rw[List.take_of_length_le (Nat.le_refl _)]
     repeat' first|refine s1 ?_|refine hRegion (simE (And.intro @en0 @hset) ?_)|refine hExit (simE (And.intro @en0 @hset) ?_)|(refine s7 rfl ?_ ?_<;>intro hb<;>first|(exfalso;omega)|skip)|with_reducible refine And.intro ?_ ?_|omega
     refine hEnt (eFrz 73 (by simp -implicitDefEqProofs only[go_sem,↓reduceIte,Nat.reduceEqDiff,Nat.reduceLT,Nat.reduceLeDiff,Nat.reduceAdd,Nat.reduceSub,Nat.reduceMul,reduceCtorEq,List.reduceReplicate,Nat.reduceBEq,fitR,fitL])) ?_
     simp -implicitDefEqProofs only[go_sem,↓reduceIte,Nat.reduceEqDiff,Nat.reduceLT,Nat.reduceLeDiff,Nat.reduceAdd,Nat.reduceSub,Nat.reduceMul,reduceCtorEq,List.reduceReplicate,Nat.reduceBEq,turnR,turnL,hfold]
     refine hEnt (eFrz 69 sT) ?_;refine sim ?_
     refine hRegionD (fun jx _=>if jx=3 then mkC [] 143 0 [] (f46_ok l NN) else if jx=7 then mkC [17,3001,3002,60,3003,56] 147 0 [] (f45_ok ⟨l.version,l.wide,l.size,NN⟩ l.big z.s z.t os.b q3.b ha hi hst hl hok (by omega) (by omega) (by omega) (by omega)) else (default,([],[]))) [0,1,2,4,5,6,3,7,8,9,10] [0,0,0,6,0,16,0,126,254,511,1023] [(5,3)] mixed (by kernel_rfl) ?_
     refine sim ?_
     (skip);refine callDA ?_;rintro ret os fs ⟨rfl,rfl,rfl⟩;refine sim ?_
     (skip);refine callDA ?_;rintro ret os fs ⟨ha2,hi2,hst2,hl2,rfl,rfl,rfl⟩;refine sim ?_
     repeat' first|refine hRegion (simE @w4 ?_)|with_reducible refine And.intro ?_ ?_|with_reducible refine fun (_:Outc)=>?_|omega
     rename Outc=>o9
     refine ⟨⟨((ha2,hi2,hst2,hl2,o9.h),i+1),by omega⟩, ?_⟩
     dsimp only
     rw[hst1]
     simp only[List.map_append,List.map_cons,List.map_nil,foundC]
     ((repeat' refine And.intro ?_ ?_)<;>first|rfl|omega|(simp;done))
  ·have:i=units.length:=by omega
   subst this
   have hlj:=hll spans.length (Nat.le_refl _)
   repeat' first|refine s1 ?_|refine hRegion (sim ?_)|refine hExit (sim ?_)|(refine s7 rfl ?_ ?_<;>intro hb<;>first|(exfalso;omega)|skip)|with_reducible refine fun (_:Outc)=>?_|fail
   ·refine hRegionD (fun jx _=>if jx=4 then mkC [] 170 1 [26] (f42_ok l (listsTo l spans spans.length) (by omega)) else (default,([],[]))) [0,1,2,3,4,5,6,7,8,9] [0,1,0,0,12,28,60,127,255,511] [(1,4),(1,5),(1,6)] mixed (by kernel_rfl) ?_
    refine sim ?_
    (skip);refine callDA ?_;rintro ret os fs ⟨o1,rfl,rfl,rfl⟩;refine sim ?_
    repeat' first|refine s1 ?_|refine hRegion (sim ?_)|with_reducible refine And.intro ?_ ?_|with_reducible refine fun (_:Outc)=>?_|omega
    rename Outc=>o9
    refine hLe ⟨[(10,.ref 10 o10.b 0),(11,.buf 61 hfd)],[(10,some (.cells o10.b 0 [.buf 3001 ha,.buf 3002 hi,.val (.slice none 0 0),.val (.slice none 0 0),.buf 3003 hst,.buf 161 o9.h,.val (.slice none 0 0)])),
     (3001,some (.arr ha 5 1 (bytesR (spN l spans units first tx units.length).s.abbs))),(3002,some (.arr hi 5 1 (bytesR (spN l spans units first tx units.length).s.info))),(3003,some (.arr hst 5 1 (bytesR (spN l spans units first tx units.length).t.str))),
     (56,some (.arr hl 5 1 (bytesR (spN l spans units first tx units.length).t.line))),(61,some (.arr hfd 58 2 ((spN l spans units first tx units.length).found.map foundC))),(161,some (.arr o9.h 130 2 [[strV lineStr,.buf 56 hl],[strV rngLists,.buf 1170 o1]])),(1170,some (.arr o1 5 1 (bytesR (listsHead l (listsTo l spans spans.length)))))]⟩ (by refine sim ?_;((repeat' refine And.intro ?_ ?_)<;>rfl)) ?_
    refine sim ?_
    refine hEnt (eFrz 56 (by simp -implicitDefEqProofs only[go_sem,↓reduceIte,Nat.reduceEqDiff,Nat.reduceLT,Nat.reduceLeDiff,Nat.reduceAdd,Nat.reduceSub,Nat.reduceMul,reduceCtorEq,List.reduceReplicate,Nat.reduceBEq,fitR,fitL])) ?_;simp -implicitDefEqProofs only[go_sem,↓reduceIte,Nat.reduceEqDiff,Nat.reduceLT,Nat.reduceLeDiff,Nat.reduceAdd,Nat.reduceSub,Nat.reduceMul,reduceCtorEq,List.reduceReplicate,Nat.reduceBEq,turnR,turnL]
    refine hEnt (eFrz 1170 (by simp -implicitDefEqProofs only[go_sem,↓reduceIte,Nat.reduceEqDiff,Nat.reduceLT,Nat.reduceLeDiff,Nat.reduceAdd,Nat.reduceSub,Nat.reduceMul,reduceCtorEq,List.reduceReplicate,Nat.reduceBEq,fitR,fitL])) ?_;simp -implicitDefEqProofs only[go_sem,↓reduceIte,Nat.reduceEqDiff,Nat.reduceLT,Nat.reduceLeDiff,Nat.reduceAdd,Nat.reduceSub,Nat.reduceMul,reduceCtorEq,List.reduceReplicate,Nat.reduceBEq,turnR,turnL]
    refine hEnt (eFrz 161 (by simp -implicitDefEqProofs only[go_sem,↓reduceIte,Nat.reduceEqDiff,Nat.reduceLT,Nat.reduceLeDiff,Nat.reduceAdd,Nat.reduceSub,Nat.reduceMul,reduceCtorEq,List.reduceReplicate,Nat.reduceBEq,fitR,fitL])) ?_;simp -implicitDefEqProofs only[go_sem,↓reduceIte,Nat.reduceEqDiff,Nat.reduceLT,Nat.reduceLeDiff,Nat.reduceAdd,Nat.reduceSub,Nat.reduceMul,reduceCtorEq,List.reduceReplicate,Nat.reduceBEq,turnR,turnL]
    refine hEnt (eFrz 61 (by simp -implicitDefEqProofs only[go_sem,↓reduceIte,Nat.reduceEqDiff,Nat.reduceLT,Nat.reduceLeDiff,Nat.reduceAdd,Nat.reduceSub,Nat.reduceMul,reduceCtorEq,List.reduceReplicate,Nat.reduceBEq,fitR,fitL])) ?_;simp -implicitDefEqProofs only[go_sem,↓reduceIte,Nat.reduceEqDiff,Nat.reduceLT,Nat.reduceLeDiff,Nat.reduceAdd,Nat.reduceSub,Nat.reduceMul,reduceCtorEq,List.reduceReplicate,Nat.reduceBEq,turnR,turnL]
    refine hEnt (eFrz 3001 (by simp -implicitDefEqProofs only[go_sem,↓reduceIte,Nat.reduceEqDiff,Nat.reduceLT,Nat.reduceLeDiff,Nat.reduceAdd,Nat.reduceSub,Nat.reduceMul,reduceCtorEq,List.reduceReplicate,Nat.reduceBEq,fitR,fitL])) ?_;simp -implicitDefEqProofs only[go_sem,↓reduceIte,Nat.reduceEqDiff,Nat.reduceLT,Nat.reduceLeDiff,Nat.reduceAdd,Nat.reduceSub,Nat.reduceMul,reduceCtorEq,List.reduceReplicate,Nat.reduceBEq,turnR,turnL]
    refine hEnt (eFrz 3002 (by simp -implicitDefEqProofs only[go_sem,↓reduceIte,Nat.reduceEqDiff,Nat.reduceLT,Nat.reduceLeDiff,Nat.reduceAdd,Nat.reduceSub,Nat.reduceMul,reduceCtorEq,List.reduceReplicate,Nat.reduceBEq,fitR,fitL])) ?_;simp -implicitDefEqProofs only[go_sem,↓reduceIte,Nat.reduceEqDiff,Nat.reduceLT,Nat.reduceLeDiff,Nat.reduceAdd,Nat.reduceSub,Nat.reduceMul,reduceCtorEq,List.reduceReplicate,Nat.reduceBEq,turnR,turnL]
    refine hEnt (eFrz 3003 (by simp -implicitDefEqProofs only[go_sem,↓reduceIte,Nat.reduceEqDiff,Nat.reduceLT,Nat.reduceLeDiff,Nat.reduceAdd,Nat.reduceSub,Nat.reduceMul,reduceCtorEq,List.reduceReplicate,Nat.reduceBEq,fitR,fitL])) ?_;simp -implicitDefEqProofs only[go_sem,↓reduceIte,Nat.reduceEqDiff,Nat.reduceLT,Nat.reduceLeDiff,Nat.reduceAdd,Nat.reduceSub,Nat.reduceMul,reduceCtorEq,List.reduceReplicate,Nat.reduceBEq,turnR,turnL]
    refine hEnt eNilD ?_;simp -implicitDefEqProofs only[go_sem,↓reduceIte,Nat.reduceEqDiff,Nat.reduceLT,Nat.reduceLeDiff,Nat.reduceAdd,Nat.reduceSub,Nat.reduceMul,reduceCtorEq,List.reduceReplicate,Nat.reduceBEq,turnR,turnL]
    refine rn ?_
    refine doneX [] ?_ (by simp) (by simp) sT;simp -implicitDefEqProofs only[go_sem,↓reduceIte,Nat.reduceEqDiff,Nat.reduceLT,Nat.reduceLeDiff,Nat.reduceAdd,Nat.reduceSub,Nat.reduceMul,reduceCtorEq,List.reduceReplicate,Nat.reduceBEq,turnR,turnL]
    simp only[spannedS,if_pos (show 4 < l.version by assumption),lineStr,rngLists,List.map_cons,List.map_nil]
    exact ⟨rfl,rfl,rfl⟩
   ·skip
    rename Outc=>o9
    refine hLe ⟨[(10,.ref 10 o10.b 0),(11,.buf 61 hfd)],[(10,some (.cells o10.b 0 [.buf 3001 ha,.buf 3002 hi,.val (.slice none 0 0),.buf 26 h,.buf 3003 hst,.buf 161 o9.h,.val (.slice none 0 0)])),
     (3001,some (.arr ha 5 1 (bytesR (spN l spans units first tx units.length).s.abbs))),(3002,some (.arr hi 5 1 (bytesR (spN l spans units first tx units.length).s.info))),(3003,some (.arr hst 5 1 (bytesR (spN l spans units first tx units.length).t.str))),
     (56,some (.arr hl 5 1 (bytesR (spN l spans units first tx units.length).t.line))),(61,some (.arr hfd 58 2 ((spN l spans units first tx units.length).found.map foundC))),(161,some (.arr o9.h 130 2 [[strV lineStr,.buf 56 hl]])),(26,some (.arr h 5 1 (bytesR (listsTo l spans spans.length))))]⟩ (by refine sim ?_;((repeat' refine And.intro ?_ ?_)<;>rfl)) ?_
    refine sim ?_
    refine hEnt (eFrz 56 (by simp -implicitDefEqProofs only[go_sem,↓reduceIte,Nat.reduceEqDiff,Nat.reduceLT,Nat.reduceLeDiff,Nat.reduceAdd,Nat.reduceSub,Nat.reduceMul,reduceCtorEq,List.reduceReplicate,Nat.reduceBEq,fitR,fitL])) ?_;simp -implicitDefEqProofs only[go_sem,↓reduceIte,Nat.reduceEqDiff,Nat.reduceLT,Nat.reduceLeDiff,Nat.reduceAdd,Nat.reduceSub,Nat.reduceMul,reduceCtorEq,List.reduceReplicate,Nat.reduceBEq,turnR,turnL]
    refine hEnt (eFrz 26 (by simp -implicitDefEqProofs only[go_sem,↓reduceIte,Nat.reduceEqDiff,Nat.reduceLT,Nat.reduceLeDiff,Nat.reduceAdd,Nat.reduceSub,Nat.reduceMul,reduceCtorEq,List.reduceReplicate,Nat.reduceBEq,fitR,fitL])) ?_;simp -implicitDefEqProofs only[go_sem,↓reduceIte,Nat.reduceEqDiff,Nat.reduceLT,Nat.reduceLeDiff,Nat.reduceAdd,Nat.reduceSub,Nat.reduceMul,reduceCtorEq,List.reduceReplicate,Nat.reduceBEq,turnR,turnL]
    refine hEnt (eFrz 161 (by simp -implicitDefEqProofs only[go_sem,↓reduceIte,Nat.reduceEqDiff,Nat.reduceLT,Nat.reduceLeDiff,Nat.reduceAdd,Nat.reduceSub,Nat.reduceMul,reduceCtorEq,List.reduceReplicate,Nat.reduceBEq,fitR,fitL])) ?_;simp -implicitDefEqProofs only[go_sem,↓reduceIte,Nat.reduceEqDiff,Nat.reduceLT,Nat.reduceLeDiff,Nat.reduceAdd,Nat.reduceSub,Nat.reduceMul,reduceCtorEq,List.reduceReplicate,Nat.reduceBEq,turnR,turnL]
    refine hEnt (eFrz 61 (by simp -implicitDefEqProofs only[go_sem,↓reduceIte,Nat.reduceEqDiff,Nat.reduceLT,Nat.reduceLeDiff,Nat.reduceAdd,Nat.reduceSub,Nat.reduceMul,reduceCtorEq,List.reduceReplicate,Nat.reduceBEq,fitR,fitL])) ?_;simp -implicitDefEqProofs only[go_sem,↓reduceIte,Nat.reduceEqDiff,Nat.reduceLT,Nat.reduceLeDiff,Nat.reduceAdd,Nat.reduceSub,Nat.reduceMul,reduceCtorEq,List.reduceReplicate,Nat.reduceBEq,turnR,turnL]
    refine hEnt (eFrz 3001 (by simp -implicitDefEqProofs only[go_sem,↓reduceIte,Nat.reduceEqDiff,Nat.reduceLT,Nat.reduceLeDiff,Nat.reduceAdd,Nat.reduceSub,Nat.reduceMul,reduceCtorEq,List.reduceReplicate,Nat.reduceBEq,fitR,fitL])) ?_;simp -implicitDefEqProofs only[go_sem,↓reduceIte,Nat.reduceEqDiff,Nat.reduceLT,Nat.reduceLeDiff,Nat.reduceAdd,Nat.reduceSub,Nat.reduceMul,reduceCtorEq,List.reduceReplicate,Nat.reduceBEq,turnR,turnL]
    refine hEnt (eFrz 3002 (by simp -implicitDefEqProofs only[go_sem,↓reduceIte,Nat.reduceEqDiff,Nat.reduceLT,Nat.reduceLeDiff,Nat.reduceAdd,Nat.reduceSub,Nat.reduceMul,reduceCtorEq,List.reduceReplicate,Nat.reduceBEq,fitR,fitL])) ?_;simp -implicitDefEqProofs only[go_sem,↓reduceIte,Nat.reduceEqDiff,Nat.reduceLT,Nat.reduceLeDiff,Nat.reduceAdd,Nat.reduceSub,Nat.reduceMul,reduceCtorEq,List.reduceReplicate,Nat.reduceBEq,turnR,turnL]
    refine hEnt (eFrz 3003 (by simp -implicitDefEqProofs only[go_sem,↓reduceIte,Nat.reduceEqDiff,Nat.reduceLT,Nat.reduceLeDiff,Nat.reduceAdd,Nat.reduceSub,Nat.reduceMul,reduceCtorEq,List.reduceReplicate,Nat.reduceBEq,fitR,fitL])) ?_;simp -implicitDefEqProofs only[go_sem,↓reduceIte,Nat.reduceEqDiff,Nat.reduceLT,Nat.reduceLeDiff,Nat.reduceAdd,Nat.reduceSub,Nat.reduceMul,reduceCtorEq,List.reduceReplicate,Nat.reduceBEq,turnR,turnL]
    refine hEnt eNilD ?_;simp -implicitDefEqProofs only[go_sem,↓reduceIte,Nat.reduceEqDiff,Nat.reduceLT,Nat.reduceLeDiff,Nat.reduceAdd,Nat.reduceSub,Nat.reduceMul,reduceCtorEq,List.reduceReplicate,Nat.reduceBEq,turnR,turnL]
    refine rn ?_
    refine doneX [] ?_ (by simp) (by simp) sT;simp -implicitDefEqProofs only[go_sem,↓reduceIte,Nat.reduceEqDiff,Nat.reduceLT,Nat.reduceLeDiff,Nat.reduceAdd,Nat.reduceSub,Nat.reduceMul,reduceCtorEq,List.reduceReplicate,Nat.reduceBEq,turnR,turnL]
    simp only[spannedS,if_neg (show¬4 < l.version by omega),lineStr,rngLists,List.map_cons,List.map_nil]
    exact ⟨rfl,rfl,rfl⟩
end
end Go.Proofs.YtbkfdnkeelmloaaGreatDoor
