/- Part 19 of the proof: R12 R13 R14 R15 R16. -/
import Derived.Test.YtbkfdnkeelmloaaGreatDoorZ18
set_option linter.unusedVariables false
set_option linter.unusedSimpArgs false
namespace Go.Proofs.YtbkfdnkeelmloaaGreatDoor
set_option maxHeartbeats 4000000
set_option maxRecDepth 10000
open Go.AM Go
inductive NodeR where
 |fin
 |ent (id:Nat) (ab:AbbE) (ats:List (AttrD×TextsD))
def nodeB (ud:UnitD) (bg:Bool):NodeR→Bytes
 | .fin=>[0]
 | .ent id _ ats=>encU id 0++atsText ud bg ats
def nodesB (ud:UnitD) (bg:Bool) (l:List NodeR):Bytes:=l.flatMap (nodeB ud bg)
def nodeE (base off:Nat):NodeR→DEntry
 | .fin=> ⟨0,0,false,[]⟩
 | .ent _ ab ats=> ⟨off,ab.tag,ab.ch,ats.map fun p=>dfOf base p.1⟩
def NodeRd (ud:UnitD) (z:DataR) (tab:List AbbE):NodeR→Prop
 | .fin=>True
 | .ent id ab ats=>(0 < id∧id < 4294967296)∧findE (tabE tab) (id:Int)=some (abbV ab)∧(ab.fields=ats.map fun p=>afA p.1)∧(∀p∈ats,AttrRd ud z p.1 p.2)∧ats.length≤200∧(0≤ab.tag∧ab.tag < 65536)∧∀p∈ats,0 < p.1.attr∧p.1.attr < 65536
def udOf (u:UnitR):UnitD:= ⟨u.vers,u.wide,u.size,[]⟩
structure UnitRK (z:DataR) (u:UnitR) (ns:List NodeR):Prop where
 data:u.data=nodesB (udOf u) z.big ns
 vers:4≤u.vers∧u.vers≤5
 size:u.size=4∨u.size=8
 base:u.base < 2147483648
 len:u.off+u.data.length≤2000000000
 off:0 < u.off
 nodes:∀n∈ns,NodeRd (udOf u) z u.tab n
 ne:∃id ab ats r,ns= .ent id ab ats :: r∧ab.tag=17∧∀p∈ats,p.1.attr≠114∧p.1.attr≠115∧p.1.attr≠116∧p.1.attr≠140
def bare (u:UnitR):UnitR:={ u with u5:=false }
theorem nodesB_cons {ud:UnitD} {bg:Bool} {l:List NodeR} {k:Nat} {n:NodeR} (h:l[k]? =some n):nodesB ud bg (l.drop k)=nodeB ud bg n++nodesB ud bg (l.drop (k+1)):=by
 obtain ⟨hk,rfl⟩ :=List.getElem?_eq_some_iff.1 h
 rw[nodesB,List.drop_eq_getElem_cons hk,List.flatMap_cons];rfl
def nodeAtOff (u:UnitR) (bg:Bool) (ns:List NodeR) (k:Nat):Nat:=u.off+(nodesB (udOf u) bg (ns.take k)).length
theorem nodesB_split (ud:UnitD) (bg:Bool) (l:List NodeR) (k:Nat):(nodesB ud bg (l.take k)).length+(nodesB ud bg (l.drop k)).length=(nodesB ud bg l).length:=by
 rw[←List.length_append,nodesB,nodesB,←List.flatMap_append,List.take_append_drop];rfl
theorem nodeAtOff_succ {u:UnitR} {bg:Bool} {ns:List NodeR} {k:Nat} {n:NodeR} (h:ns[k]? =some n):nodeAtOff u bg ns (k+1)=nodeAtOff u bg ns k+(nodeB (udOf u) bg n).length:=by
 unfold nodeAtOff
 rw[nodesB,take_succ h,List.flatMap_append,List.length_append]
 simp only[List.flatMap_cons,List.flatMap_nil,List.append_nil,nodesB];omega
theorem eCell {C:Ctx} {S:St} (k i:Nat) {b o:Nat} {cs:List AV} (a:AV) (hk:getO S.H k=some (.cells b o cs)) (h:∀M v,(cs.getD i .top).rel M v→a.rel M v):Ent C S ⟨S.ρ,(k,some (.cells b o (cs.set i a))) :: S.H⟩ :=by
 refine eObj (ob':=.cells b o (cs.set i a)) k hk ?_ rfl ⟨rfl,Nat.le_refl _,by simp⟩
 rintro M w ⟨arr,T,vs,h1,h2,h3⟩
 refine ⟨arr,T,vs,h1, ?_,h3⟩
 have key:∀(cs:List AV) (i:Nat) (vs:List Value),(∀v,(cs.getD i .top).rel M v→a.rel M v)→relL M cs vs→relL M (cs.set i a) vs:=by
  intro cs
  induction cs with
  |nil=>intro i vs _ h;exact h
  |cons c cs ih=>
   rintro i vs h ⟨v,r,e,g1,g2,g3⟩
   cases i with
   |zero=>exact ⟨v,r,e,g1,h v (by simpa using g2),g3⟩
   |succ i=>exact ⟨v,r,e,g1,g2,ih i r (fun v hv=>h v (by simpa using hv)) g3⟩
 exact key cs i vs (fun v=>h M v) h2
theorem relL_sub {M:Mem}:∀{xs ys:List AV} {vs:List Value},xs.length=ys.length→(∀(i:Nat) (a:AV),ys[i]? =some a→a= .top∨xs[i]? =some a)→relL M xs vs→relL M ys vs
 | [],[],_,_,_,h=>h
 |a :: xs,c :: ys,_,hl,hi, ⟨v,r,e,h1,h2,h3⟩ => ⟨v,r,e,h1,by
   rcases hi 0 c rfl with rfl|h
   ·trivial
   ·cases h;exact h2,relL_sub (by simpa using hl) (fun i x hx=>by simpa using hi (i+1) x (by simpa using hx)) h3⟩
theorem top_rel {b o:Nat} {xs ys:List AV} (hl:xs.length=ys.length) (hi:∀(i:Nat) (a:AV),ys[i]? =some a→a= .top∨xs[i]? =some a) (M:Mem) (w:World) (h:(AObj.cells b o xs).rel M w):(AObj.cells b o ys).rel M w:=by
 obtain ⟨arr,T,vs,h1,h2,h3⟩ :=h
 exact ⟨arr,T,vs,h1,relL_sub hl hi h2,h3⟩
def tops:List Bool→List AV→List AV
 |true :: m,_ :: l=>.top :: tops m l
 |false :: m,a :: l=>a :: tops m l
 |_,l=>l
theorem tops_len:∀(m:List Bool) (l:List AV),l.length=(tops m l).length
 |true :: m,_ :: l=>by simp[tops,←tops_len m l]
 |false :: m,a :: l=>by simp[tops,←tops_len m l]
 |true :: _,[]=>rfl
 |false :: _,[]=>rfl
 | [],l=>by cases l<;>rfl
theorem tops_get:∀(m:List Bool) (l:List AV) (i:Nat) (a:AV),(tops m l)[i]? =some a→a= .top∨l[i]? =some a
 |true :: m,_ :: l,0,a,h=>by simp[tops] at h;exact .inl h.symm
 |true :: m,_ :: l,i+1,a,h=>by simp[tops] at h;simpa using tops_get m l i a h
 |false :: m,_ :: l,0,a,h=>by simp[tops] at h;simp[h]
 |false :: m,_ :: l,i+1,a,h=>by simp[tops] at h;simpa using tops_get m l i a h
 |true :: _,[],i,a,h=>.inr h
 |false :: _,[],i,a,h=>.inr h
 | [],l,i,a,h=>by cases l<;>exact .inr h
theorem eTops {C:Ctx} {S:St} (k:Nat) (m:List Bool) {b o:Nat} {cs:List AV} (hk:getO S.H k=some (.cells b o cs)):Ent C S ⟨S.ρ,(k,some (.cells b o (tops m cs))) :: S.H⟩ :=
 eObj (ob':=.cells b o (tops m cs)) k hk (top_rel (tops_len m cs) (tops_get m cs)) rfl ⟨rfl,Nat.le_refl _,by rw[←tops_len];omega⟩
attribute [go_sem] tops
abbrev m4:List Bool:=[false,false,false,false,false,false,false,false,false,false,true,true,true,true]
abbrev m0':List Bool:=[true,true,true,true,true,true,true,false,true,false,true,true,true,true]
theorem After.weak {M M':Mem} {w w':World} {objs:List AObj} {ob ob':AObj} {os fs:List (Option AObj)} (hr:∀M w,ob.rel M w→ob'.rel M w) (hb:ob'.blk=ob.blk) (hw:∀o0,ob.within o0→ob'.within o0) (h:After M w objs M' w' (some ob :: os) fs):After M w objs M' w' (some ob' :: os) fs:=by
 refine ⟨h.le,h.memw,h.memd,h.frame,h.len,fun o ho=>?_,fun i j a c b hi hj ha hc=>?_⟩
 ·rw[List.cons_append,List.mem_cons] at ho
  rcases ho with ho|ho
  ·cases ho
   obtain ⟨h1,h2⟩ :=h.own ob (by simp)
   refine ⟨hr _ _ h1,fun b hb'=>?_⟩
   rw[hb] at hb'
   exact ⟨(h2 b hb').1,(h2 b hb').2.imp id fun ⟨o0,ho0,e,hx⟩ => ⟨o0,ho0,e,hw o0 hx⟩⟩
  ·exact h.own o (by rw[List.cons_append,List.mem_cons];exact .inr ho)
 ·have key:∀(n:Nat) x,(some ob' :: os++fs)[n]? =some (some x)→x.blk=some b→∃y,(some ob :: os++fs)[n]? =some (some y)∧y.blk=some b:=by
   intro n x hx hxb
   cases n with
   |zero=>simp at hx;subst hx;exact ⟨ob,by simp,by rw[←hb];exact hxb⟩
   |succ n=>exact ⟨x,by simpa using hx,hxb⟩
  obtain ⟨y1,g1,k1⟩ :=key i a hi ha
  obtain ⟨y2,g2,k2⟩ :=key j c hj hc
  exact h.disj i j y1 y2 b g1 g2 k1 k2
section
variable {G:Nat→AV} {g:GData} {b:Nat} {nm:Bytes} {post:List AV}
theorem f99z_ok (hpost:Post0 post) (z:DataR) (h:Value) (us:List UnitR) (i:Nat) (u:UnitR) (hu:us[i]? =some u) (cu:AV) (off:Nat) (rest:Bytes) (hlen:off+(1+rest.length)≤2000000000):
  Fulfils Tryz.prog G 99 [.ref 0 b 0,cu,.aref 1 h 9 i 0] [bufO b (dP z 1) z.big (fmU 1 h i) nm off (0 :: rest) post,.arr h 216 9 (us.map unitRow)]
  (retO (deP ⟨0,0,false,[]⟩) [some (bufO b (dP z 1) z.big (fmU 1 h i) nm (off+1) rest post),some (.arr h 216 9 (us.map unitRow))]):=by
 have hbig:big=140737488355328:=rfl
 have er:=row_at unitRow hu
 have hi:=(List.getElem?_eq_some_iff.1 hu).1
 refine fulfilA Tryz.f99 [.tmp 6] 2 ?_
 simp only[Tryz.f99,Option.getD_some,go_sem]
 repeat' first|refine rn ?_|with_reducible refine fun (_:Outc)=>?_|fail
 refine hRegionD (noChi) [0,1,2,3,4,5,6,7,8,9,10,11,12,13,14] [0,1,3,7,0,16,48,112,0,256,768,1792,15,4351,16383] [] mixed (by kernel_rfl) ?_
 refine simE @er ?_
 refine rnE @er ?_
 refine callU [0] 0 (f121z_ok (dw:=dP z 1) (bg:=z.big) (fm:=fmU 1 h i) (nm:=nm) (post:=post) off rest (by omega) (by omega)) ?_;rintro ret os fs ⟨rfl,rfl,rfl⟩;refine sim ?_
 repeat' first|refine s1 ?_|refine hRegion (sim ?_)|(refine s7 rfl ?_ ?_<;>intro hb<;>first|(exact absurd hb (by decide))|skip)|with_reducible refine fun (_:Outc)=>?_|fail
 refine hEnt (eCell 62 3 (cs:=[.val (.int .u32 0),.val (.int .u32 0),.val (.bool false),.val (.slice none 0 0)]) (.dat false 3 []) (by refine sim ?_;rfl) (by intro M v hv;exact nil_dat hv)) ?_
 rename Outc=>oz
 refine hLe ⟨[(6,.ref 62 oz.b 0)],[(0,some (bufO b (dP z 1) z.big (fmU 1 h i) nm (off+1) rest post)),(1,some (.arr h 216 9 (us.map unitRow))),(62,some (.cells oz.b 0 [.val (.int .u32 0),.val (.int .u32 0),.val (.bool false),.dat false 3 []]))]⟩ sT ?_
 refine sim ?_
 have p2:=hpost.turn 62
 have p4:=hpost.fit 62
 refine hEnt (eFrz 62 (by simp -implicitDefEqProofs only[go_sem,↓reduceIte,Nat.reduceEqDiff,Nat.reduceLT,Nat.reduceLeDiff,Nat.reduceAdd,Nat.reduceSub,Nat.reduceMul,reduceCtorEq,List.reduceReplicate,Nat.reduceBEq,p4 _ (by decide)])) ?_
 simp -implicitDefEqProofs only[go_sem,↓reduceIte,Nat.reduceEqDiff,Nat.reduceLT,Nat.reduceLeDiff,Nat.reduceAdd,Nat.reduceSub,Nat.reduceMul,reduceCtorEq,List.reduceReplicate,Nat.reduceBEq,p2 _ (by decide)]
 refine rn ?_
 refine doneA [] ?_;try exact trivial
 exact ⟨rfl,rfl,rfl⟩
theorem f99n_ok (hG:GOK G g) (hpost:Post0 post) (z:DataR) (h:Value) (us:List UnitR) (i:Nat) (u:UnitR) (hu:us[i]? =some u) (cu:AV) (hv:4≤u.vers∧u.vers≤5) (hzs:u.size=4∨u.size=8) (hbase:u.base < 2147483648)
  (n:NodeR) (hn:NodeRd (udOf u) z u.tab n) (off:Nat) (rest:Bytes) (hlen:off+(nodeB (udOf u) z.big n++rest).length≤2000000000):
  Fulfils Tryz.prog G 99 [.ref 0 b 0,cu,.aref 1 h 9 i 0] [bufO b (dP z 1) z.big (fmU 1 h i) nm off (nodeB (udOf u) z.big n++rest) post,.arr h 216 9 (us.map unitRow)]
  (retO (deP (nodeE u.base off n)) [some (bufO b (dP z 1) z.big (fmU 1 h i) nm (off+(nodeB (udOf u) z.big n).length) rest post),some (.arr h 216 9 (us.map unitRow))]):=by
 cases n with
 |fin=>exact f99z_ok hpost z h us i u hu cu off rest (by simp only[nodeB,List.length_append,List.length_cons,List.length_nil] at hlen;omega)
 |ent id ab ats=>
  obtain ⟨h1,h2,h3,h4,h5,_⟩ :=hn
  have e:nodeB (udOf u) z.big (.ent id ab ats)++rest=encU id 0++(atsText (udOf u) z.big ats++rest):=by simp[nodeB]
  have:=f99_ok (b:=b) (nm:=nm) hG hpost z h us i u hu cu (udOf u) ⟨rfl,rfl,rfl⟩ hv hzs hbase ab id h1 h2 ats h3 h4 h5 off rest (by rw[e,List.length_append] at hlen;exact hlen)
  rw[e,nodeB,List.length_append]
  exact this
end
set_option maxHeartbeats 4000000
set_option maxRecDepth 10000
open Go.AM Go
section
variable {G:Nat→AV} {g:GData}
theorem dP_any {f:FuncId} {z:DataR} {j:Nat} {rest:List AV} {objs:List AObj} {R:(Nat→AV)→List (Option AObj)→List (Option AObj)→Prop} (h:Fulfils Tryz.prog G f (dP z 0 :: rest) objs R):Fulfils Tryz.prog G f (dP z j :: rest) objs R:=
 h.argsOf fun M vs hv=>by simpa only[relT,AV.rel,dP,dataC,relC,bytesV_eq,booV] using hv
theorem f120_ok (z:DataR) (us:List UnitR) (b1 b2 n:Nat) (u:UnitR) (hu:us[n]? =some u) (off:Nat):
  Fulfils Tryz.prog G 120 [intV n,.ref 0 b1 0,.ref 1 b2 0] [.cells b1 0 [dP z 2],.cells b2 0 [u32V off],.arr z.hU 216 9 (us.map unitRow)] (retO (booV (decide ((off:Int) < u.off))) [some (.cells b1 0 [dP z 2]),some (.cells b2 0 [u32V off]),some (.arr z.hU 216 9 (us.map unitRow))]):=by
 have er:=row_at unitRow hu
 have hi:=(List.getElem?_eq_some_iff.1 hu).1
 refine fulfilA Tryz.f120 [.tmp 4] 3 ?_
 simp only[Tryz.f120,Option.getD_some,go_sem]
 refine rn ?_
 refine hRegionD (noChi) [0,1,2,3,4,5,6,7,8,9,10] [0,1,3,7,0,31,63,127,0,511,1023] [] mixed (by kernel_rfl) ?_
 refine simE @er ?_
 refine rnE @er ?_
 refine doneA [] ?_;try exact trivial
 exact ⟨rfl,rfl,rfl⟩
theorem f119_ok (z:DataR) (us:List UnitR) (b1 b2 off r k1 k2:Nat) (hr:r≤us.length) (h1:∀k u,us[k]? =some u→k < r→u.off≤off) (h2:∀k u,us[k]? =some u→r≤k→off < u.off) (hn:us.length≤1000):
  Fulfils Tryz.prog G 119 [intV us.length,.fn 120 [.ref k1 b1 0,.ref k2 b2 0]] [.cells b1 0 [dP z 2],.cells b2 0 [u32V off],.arr z.hU 216 9 (us.map unitRow)] (retO (intV r) [some (.cells b1 0 [dP z 2]),some (.cells b2 0 [u32V off]),some (.arr z.hU 216 9 (us.map unitRow))]):=by
 have hbig:big=140737488355328:=rfl
 refine Fulfils.argsOf (args:=[intV us.length,.fn 120 [.ref 0 b1 0,.ref 1 b2 0]]) ?_ (fun M vs hv=>by simpa only[relT,AV.rel] using hv)
 refine fulfilA Tryz.f119 [.tmp 4] 3 ?_
 simp only[Tryz.f119,Option.getD_some,go_sem]
 refine rn ?_
 refine hLoop (X:={p:Nat×Nat // p.1≤r∧r≤p.2∧p.2≤us.length}) (fun p=> ⟨[(1,.fn 120 [.ref 0 b1 0,.ref 1 b2 0]),(5,intV p.1.1),(6,intV p.1.2)],[(0,some (.cells b1 0 [dP z 2])),(1,some (.cells b2 0 [u32V off])),(2,some (.arr z.hU 216 9 (us.map unitRow)))]⟩) (fun p=>p.1.2 - p.1.1) ⟨(0,us.length),by simp,hr,Nat.le_refl _⟩ (by exact sT;all_goals ((repeat' refine And.intro ?_ ?_)<;>first|rfl|omega|(dsimp only;omega)|(simp;done)|(simp;rfl)|skip)) ?_
 rintro ⟨⟨i,j⟩,h3,h4,h5⟩
 simp only at h3 h4 h5
 refine sim ?_
 by_cases hlt:i < j
 ·obtain ⟨m,hm⟩ :∃m,m=(i+j) / 2:= ⟨_,rfl⟩
  have w1:IntKind.i64.wrap ((i:Int)+(j:Int))=((i+j:Nat):Int):=by rw[wrap_i64 (by omega) (by omega)];simp
  have w2:IntKind.u64.wrap ((i+j:Nat):Int)=((i+j:Nat):Int):=wrap_u64 (by omega) (by omega)
  have sh:((i+j:Nat):Int).fdiv (2 ^ min 1 64)=((m:Nat):Int):=by rw[hm,show (2:Int) ^ min 1 64=2 from rfl,Int.fdiv_eq_ediv_of_nonneg _ (by decide)];omega
  have w3:IntKind.i64.wrap ((m:Nat):Int)=m:=wrap_i64 (by omega) (by omega)
  have w4:IntKind.i64.wrap ((m:Int)+1)=((m+1:Nat):Int):=by rw[wrap_i64 (by omega) (by omega)];simp
  obtain ⟨u,hu⟩ :=getX us (i:=m) (by omega)
  have g1:=h1 m u hu
  have g2:=h2 m u hu
  refine rnE (And.intro @w1 (And.intro @w2 (And.intro @sh @w3))) ?_
  refine callA [0,1,2] 0 (f120_ok z us b1 b2 m u hu off) ?_;rintro ret os fs ⟨rfl,rfl,rfl⟩;refine sim ?_
  repeat' first|refine rnE @w4 ?_|refine br fun hb=>?_|with_reducible refine And.intro ?_ ?_|fail
  ·refine ⟨⟨(m+1,j),by dsimp only;omega⟩, ?_⟩
   ((repeat' refine And.intro ?_ ?_)<;>first|rfl|(dsimp only;omega))
  ·refine ⟨⟨(i,m),by dsimp only;omega⟩, ?_⟩
   ((repeat' refine And.intro ?_ ?_)<;>first|rfl|(dsimp only;omega))
 ·have:i=r:=by omega
  subst this
  refine rn ?_
  refine doneA [] ?_;try exact trivial
  exact ⟨rfl,rfl,rfl⟩
theorem f96_ok (z:DataR) (us:List UnitR) (i:Nat) (u:UnitR) (off kz:Nat) (hu:us[i]? =some u) (h0:u.off≤off) (h3:off < u.off+u.data.length) (h1:∀k v,us[k]? =some v→k < i→v.off≤off) (h2:∀k v,us[k]? =some v→i < k→off < v.off) (hn:us.length≤1000) (hl:u.off+u.data.length≤2000000000):
  Fulfils Tryz.prog G 96 [dP z kz,u32V off] [.arr z.hU 216 9 (us.map unitRow)] (retO (intV i) [some (.arr z.hU 216 9 (us.map unitRow))]):=by
 have hbig:big=140737488355328:=rfl
 have er:=row_at unitRow hu
 have hi:=(List.getElem?_eq_some_iff.1 hu).1
 have w1:IntKind.i64.wrap (((i+1:Nat):Int) - 1)=i:=by rw[wrap_i64 (by omega) (by omega)];omega
 have w2:IntKind.u32.wrap (u.data.length:Int)=(u.data.length:Int):=wrap_u32 _ (by omega)
 have w3:=off_add (off:=u.off) (n:=u.data.length) (by omega)
 have c1:decide ((u.off:Int)≤(off:Int))=true:=by simpa using h0
 have c2:decide ((off:Int) < ((u.off+u.data.length:Nat):Int))=true:=by rw[decide_eq_true_eq];omega
 have h1':∀k v,us[k]? =some v→k < i+1→v.off≤off:=by
  intro k v hv hk
  by_cases e:k=i
  ·subst e;rw[hu] at hv;cases hv;exact h0
  ·exact h1 k v hv (by omega)
 refine dP_any ?_
 refine fulfilA Tryz.f96 [.tmp 4] 1 ?_
 simp only[Tryz.f96,Option.getD_some,go_sem]
 repeat' first|refine rn ?_|with_reducible refine fun (_:Outc)=>?_|fail
 rename_i o1 o2
 refine callA [2,3,0] 0 (f119_ok z us o1.b o2.b off (i+1) 2 3 (by omega) h1' (fun k v hv hk=>h2 k v hv (by omega)) hn) ?_;rintro ret os fs ⟨rfl,rfl,rfl⟩;refine sim ?_
 refine rnE @w1 ?_
 refine hRegionD (noChi) [0,1,2,3,4,5,6,7,8,9,10,11,12,13,14,15,16,17,18,19,20] [0,1,3,7,0,31,63,127,127,383,895,1919,127,4223,12415,28799,61567,127103,262015,524287,1048575] [] mixed (by kernel_rfl) ?_
 refine simE (And.intro @er (And.intro @w2 (And.intro @w3 (And.intro @c1 @c2)))) ?_
 refine rnE (And.intro @er (And.intro @w1 (And.intro @w2 (And.intro @w3 (And.intro @c1 @c2))))) ?_
 refine doneA [] ?_;try exact trivial
 exact ⟨rfl,rfl,rfl⟩
end
set_option maxHeartbeats 4000000
set_option maxRecDepth 10000
open Go.AM Go
theorem turnR_set {f:AV→AV}:∀(xs:List (List AV)) (i:Nat) (r:List AV),turnR f (xs.set i r)=(turnR f xs).set i (turnL f r)
 | [],_,_=>rfl
 |x :: xs,0,r=>rfl
 |x :: xs,i+1,r=>by simp only[List.set_cons_succ,turnR,turnR_set xs i r]
theorem fitR_set {p:AV→Prop}:∀{xs:List (List AV)} {i:Nat} {r:List AV},fitR p xs→fitL p r→fitR p (xs.set i r)
 | [],_,_,h,_=>h
 |x :: xs,0,r,h,k=> ⟨k,h.2⟩
 |x :: xs,i+1,r,h,k=> ⟨h.1,fitR_set h.2 k⟩
theorem fitR_get {p:AV→Prop}:∀{xs:List (List AV)} {i:Nat} {r:List AV},fitR p xs→xs[i]? =some r→fitL p r
 |x :: xs,0,r,h,e=>by cases e;exact h.1
 |x :: xs,i+1,r,h,e=>fitR_get h.2 e
theorem fitR_unitS {us:List UnitR} {i:Nat} (hi:i < us.length) {k:Nat} {ob:AObj} {r:List AV}:fitR (frz1P k ob) ((us.map unitRow).set i r)=fitL (frz1P k ob) r:=by
 refine propext ⟨fun h=>fitR_get (i:=i) h (by rw[List.getElem?_set];simp[hi]),fun h=>fitR_set ?_ h⟩
 rw[fitR_unitR];trivial
theorem post0_nil:Post0 []:= ⟨fun _ _ _=>rfl,fun _ _ _=>rfl⟩
def rdT (z:DataR) (j i:Nat):List AV:=[dP z j,.val .nilIface,intV i,.top,.top,.top,.top]
def readerO (rb:Nat) (z:DataR) (j i off:Nat) (l:Bytes):AObj:=bufO rb (dP z j) z.big (fmU j z.hU i) infoN off l (rdT z j i)
theorem valP_n:valP none= .val .nilIface:=rfl
theorem valP_s (f:DField):valP (some f)=dvV f.val:=rfl
theorem fldP_n:fldP none= .val (.pointer none):=rfl
theorem fldP_s (f:DField):fldP (some f)= .pt (dfRow f):=rfl
theorem dv_num (n:Int):dvV (.num n)= .ifc 46 (.val (.int .u64 n)):=rfl
theorem dv_int (n:Int):dvV (.int n)= .ifc 2 (.val (.int .i64 n)):=rfl
theorem dv_flag (b:Bool):dvV (.flag b)= .ifc 4 (.val (.bool b)):=rfl
theorem dv_text (s:Bytes):dvV (.text s)= .ifc 9 (.val (.string ⟨s.toArray⟩)):=rfl
theorem dv_bytes (b:Bytes):dvV (.bytes b)= .ifc 32 (bytesV b):=rfl
theorem dv_off (n:Nat):dvV (.off n)= .ifc 145 (.val (.int .u32 n)):=rfl
attribute [go_sem] valP_n valP_s fldP_n fldP_s dv_num dv_int dv_flag dv_text dv_bytes dv_off infoN rdT readerO turnR_set
theorem post0_rd (z:DataR) (i:Nat):Post0 (rdT z 1 i):=by
 refine ⟨fun k ob hk=>?_,fun k ob hk=>?_⟩
 ·have h1:¬1=k:=by omega
  (refine simE @h1 ?_;try exact trivial)
 ·have h1:¬1=k:=by omega
  (refine simE @h1 ?_;try exact trivial)
section
variable {G:Nat→AV} {g:GData}
theorem f118_ok (hG:GOK G g) (z:DataR) (us:List UnitR) (i kz:Nat) (u:UnitR) (ns:List NodeR) (hu:us[i]? =some u) (h5:u.u5=true) (hU:UnitRK z u ns):
  Fulfils Tryz.prog G 118 [dP z kz,.aref 0 z.hU 9 i 0] [.arr z.hU 216 9 (us.map unitRow)] (retO (.val .nilIface) [some (.arr z.hU 216 9 (us.map unitRow))]):=by
 have hbig:big=140737488355328:=rfl
 have er:=row_at unitRow hu
 have hi:=(List.getElem?_eq_some_iff.1 hu).1
 obtain ⟨id,ab,ats,r,hne,htag,hno⟩ :=hU.ne
 have hd:u.data=nodeB (udOf u) z.big (.ent id ab ats)++nodesB (udOf u) z.big r:=by rw[hU.data,hne];rfl
 have hlen:=hU.len
 have hn0:=hU.nodes (.ent id ab ats) (by rw[hne];exact List.mem_cons_self ..)
 have hfl:(nodeE u.base u.off (.ent id ab ats)).fields.length≤1000:=by simp only[nodeE,List.length_map];have:=hn0.2.2.2.2.1;omega
 have hnone:∀a:Int,(a=114∨a=115∨a=116∨a=140)→fldAt (nodeE u.base u.off (.ent id ab ats)).fields a=none:=by
  intro a ha
  rw[fldAt,List.find?_eq_none]
  intro x hx
  obtain ⟨p,hp,rfl⟩ :=List.mem_map.1 hx
  have:=hno p hp
  simp only[dfOf,beq_iff_eq];omega
 have e1:=f100_ok (G:=G) (nodeE u.base u.off (.ent id ab ats)) 115 hfl
 have e2:=f100_ok (G:=G) (nodeE u.base u.off (.ent id ab ats)) 114 hfl
 have e3:=f100_ok (G:=G) (nodeE u.base u.off (.ent id ab ats)) 116 hfl
 have e4:=f100_ok (G:=G) (nodeE u.base u.off (.ent id ab ats)) 140 hfl
 rw[hnone _ (by omega)] at e1 e2 e3 e4
 have er5:(us.map unitRow).getD i []=[u32V u.base,u32V u.off,bytesV u.data,tabV u.tab,.pt [.val (.int .u64 0),.val (.int .u64 0),.val (.int .u64 0),.val (.int .u64 0)],intV u.size,intV u.vers,booV u.wide,.val (.int .u8 u.ut)]:=by rw[er,unitRow,h5];rfl
 refine dP_any ?_
 refine fulfilA Tryz.f118 [.tmp 4] 1 ?_
 simp only[Tryz.f118,Option.getD_some,go_sem]
 refine rnE @er5 ?_
 refine hRegionD (fun jx _=>if jx=11 then mkC [] 32 0 [] (f94_ok (nm:=infoN) z 0 0 u.off i z.hU u.data) else (default,([],[]))) [0,1,2,3,4,5,6,7,8,9,10,12,11,13] [0,0,2,0,8,24,56,0,128,384,896,2047,0,8191] [(6,12),(10,12),(12,11)] mixed (by kernel_rfl) ?_
 refine simE @er5 ?_
 (repeat' first|refine rn ?_|with_reducible refine fun (_:Outc)=>?_|fail);refine callDA ?_;rintro ret os fs ⟨rfl,rfl,rfl⟩;refine sim ?_
 refine rn ?_
 rw[hd]
 refine callA [5,0] 0 (f99n_ok (nm:=infoN) hG post0_nil z z.hU us i u hu (.val (.pointer none)) hU.vers hU.size hU.base (.ent id ab ats) hn0 u.off (nodesB (udOf u) z.big r) (by rw[←hd];exact hlen)) ?_;rintro ret os fs ⟨rfl,rfl,rfl⟩;refine sim ?_
 refine rn ?_
 refine callP e1 rfl ?_;refine sim ?_
 refine rn ?_
 refine callP e2 rfl ?_;refine sim ?_
 refine rn ?_
 refine callP e3 rfl ?_;refine sim ?_
 refine rn ?_
 refine callP e4 rfl ?_;refine sim ?_
 refine rn ?_
 refine doneA [] ?_;try exact trivial
 exact ⟨rfl,rfl,rfl⟩
theorem bare_set {us:List UnitR} {i:Nat} {u:UnitR} (hu:us[i]? =some u):(us.set i { u with u5:=true }).map bare=us.map bare:=by
 rw[List.map_set]
 apply List.ext_getElem?
 intro k
 rw[List.getElem?_set]
 split
 ·rename_i e;subst e
  rw[List.length_map,if_pos (List.getElem?_eq_some_iff.1 hu).1,List.getElem?_map,hu];rfl
 ·rfl
theorem f95_ok (hG:GOK G g) (z:DataR) (us:List UnitR) (rb i off:Nat) (l:Bytes) (u:UnitR) (ns:List NodeR) (hu:us[i]? =some u) (hU:UnitRK z (bare u) ns):
  Fulfils Tryz.prog G 95 [.ref 0 rb 0,.aref 1 z.hU 9 i 0] [readerO rb z 1 i off l,.arr z.hU 216 9 (us.map unitRow)]
  (fun ret os fs=>∃us':List UnitR,us'.map bare=us.map bare∧ret=(fun _=>.tup [])∧os=[some (readerO rb z 1 i off l),some (.arr z.hU 216 9 (us'.map unitRow))]∧fs=[]):=by
 have er:=row_at unitRow hu
 have hi:=(List.getElem?_eq_some_iff.1 hu).1
 have hv:=hU.vers
 have hv':4≤u.vers∧u.vers≤5:=hv
 have erf:u.u5=false→(us.map unitRow).getD i []=[u32V u.base,u32V u.off,bytesV u.data,tabV u.tab,.val (.pointer none),intV u.size,intV u.vers,booV u.wide,.val (.int .u8 u.ut)]:=by intro h5;rw[er,unitRow,h5];rfl
 have ert:u.u5=true→(us.map unitRow).getD i []=[u32V u.base,u32V u.off,bytesV u.data,tabV u.tab,.pt [.val (.int .u64 0),.val (.int .u64 0),.val (.int .u64 0),.val (.int .u64 0)],intV u.size,intV u.vers,booV u.wide,.val (.int .u8 u.ut)]:=by intro h5;rw[er,unitRow,h5];rfl
 have eq:(us.map unitRow).set i [u32V u.base,u32V u.off,bytesV u.data,tabV u.tab,.pt [.val (.int .u64 0),.val (.int .u64 0),.val (.int .u64 0),.val (.int .u64 0)],intV u.size,intV u.vers,booV u.wide,.val (.int .u8 u.ut)]=(us.set i { u with u5:=true }).map unitRow:=by
  rw[List.map_set];rfl
 refine fulfilA Tryz.f95 [] 2 ?_
 simp only[Tryz.f95,Option.getD_some,go_sem]
 cases h5:u.u5
 ·have er5:=erf h5
  by_cases h4:u.vers < 5
  ·have c4:decide (u.vers < 5)=true:=by simpa using h4
   refine rnE (And.intro @er5 @c4) ?_
   refine doneA [] ?_;try exact trivial
   exact ⟨us,rfl,rfl⟩
  ·have hs:=bare_set hu
   have hu':(us.set i { u with u5:=true })[i]? =some { u with u5:=true }:=by rw[List.getElem?_set];simp[hi]
   have c4:decide (u.vers < 5)=false:=by simpa using h4
   have hfs:=@fitR_unitS us i hi
   generalize us.set i { u with u5:=true }=us' at *
   refine s1 ?_;refine s1 ?_;refine hRegion ?_
   refine simE (And.intro @er5 @c4) ?_
   refine ⟨hi,hi, ?_⟩
   refine hCond rfl (fun h=>by cases h) fun _=>?_
   refine hSkip ?_
   refine sim ?_
   refine s1 ?_;refine hRegion ?_
   refine simE @er5 ?_
   repeat' first|with_reducible refine And.intro ?_ ?_|omega|with_reducible refine fun (_:Outc)=>?_|fail
   refine hEnt (eFrz 18 (by (refine simE @hfs ?_;try exact trivial))) ?_
   refine sim ?_
   simp only[u32V,intV,booV,bytesV_eq,tabV] at eq
   rw[eq]
   refine rn ?_
   refine callA [1] 0 (f118_ok hG z us' i 1 { u with u5:=true } ns hu' rfl ⟨hU.data,hU.vers,hU.size,hU.base,hU.len,hU.off,hU.nodes,hU.ne⟩) ?_;rintro ret os fs ⟨rfl,rfl,rfl⟩;refine sim ?_
   refine rn ?_
   refine doneA [] ?_;try exact trivial
   exact ⟨us',hs,rfl⟩
 ·have er5:=ert h5
  cases c4:decide (u.vers < 5)
  all_goals
   repeat' first|refine rnE (And.intro @er5 @c4) ?_|fail
   refine doneA [] ?_;try exact trivial
   exact ⟨us,rfl,rfl⟩
end
set_option maxHeartbeats 4000000
set_option maxRecDepth 10000
open Go.AM Go
structure FileRK (z:DataR) (us0:List UnitR) (ns:Nat→List NodeR):Prop where
 unit:∀(i:Nat) (u:UnitR),us0[i]? =some u→UnitRK z u (ns i)
 inc:∀(k i:Nat) (u v:UnitR),us0[k]? =some u→us0[i]? =some v→k < i→u.off < v.off
 n:us0.length≤1000
theorem bare_get {us us0:List UnitR} (h:us.map bare=us0) {i:Nat} {u:UnitR} (hu:us[i]? =some u):us0[i]? =some (bare u):=by
 rw[←h,List.getElem?_map,hu];rfl
theorem bare_of {us us0:List UnitR} (h:us.map bare=us0) {i:Nat} {u0:UnitR} (hu:us0[i]? =some u0):∃u,us[i]? =some u∧bare u=u0:=by
 rw[←h,List.getElem?_map] at hu
 cases hx:us[i]? with
 |none=>rw[hx] at hu;cases hu
 |some u=>rw[hx] at hu;cases hu;exact ⟨u,rfl,rfl⟩
theorem bare_len {us us0:List UnitR} (h:us.map bare=us0):us.length=us0.length:=by rw[←h,List.length_map]
section
variable {G:Nat→AV} {g:GData} {z:DataR} {us0:List UnitR} {ns:Nat→List NodeR}
def rawO (rb:Nat) (z:DataR) (j:Nat) (n:Int):AObj:=.cells rb 0 [.top,.top,.top,.top,.top,.top,.top,dP z j,.top,intV n,.top,.top,.top,.top]
attribute [go_sem] rawO
theorem f52z_ok (hG:GOK G g) (hF:FileRK z us0 ns) (us:List UnitR) (hus:us.map bare=us0) (rb:Nat) (n:Int) (u:UnitR) (hu:us[0]? =some u):
  Fulfils Tryz.prog G 52 [.ref 0 rb 0,.val (.int .u32 0)] [rawO rb z 1 n,.arr z.hU 216 9 (us.map unitRow)]
  (fun ret os fs=>∃us':List UnitR,us'.map bare=us0∧ret=(fun _=>.tup [])∧os=[some (readerO rb z 1 0 u.off u.data),some (.arr z.hU 216 9 (us'.map unitRow))]∧fs=[]):=by
 have hbig:big=140737488355328:=rfl
 have er:=row_at unitRow hu
 have hi:=(List.getElem?_eq_some_iff.1 hu).1
 have hn:=hF.n
 rw[←bare_len hus] at hn
 have hU:=hF.unit 0 _ (bare_get hus hu)
 refine fulfilA Tryz.f52 [] 2 ?_
 simp only[Tryz.f52,Option.getD_some,go_sem]
 refine rn ?_
 refine hRegionD (fun jx _=>if jx=15 then mkC [] 49 0 [] (f94_ok (nm:=infoN) z 1 1 u.off 0 z.hU u.data) else (default,([],[]))) [0,1,2,3,4,5,6,7,8,9,10,11,12,13,14,15,16,17,18] [0,0,2,6,14,0,32,0,128,384,896,0,2048,6144,14336,32766,65535,131071,262143] [] mixed (by kernel_rfl) ?_
 refine simE @er ?_
 (refine rn ?_);refine callDA ?_;rintro ret os fs ⟨rfl,rfl,rfl⟩;refine sim ?_
 skip
 refine hEnt (eTops 0 m4 (by refine sim ?_;rfl)) ?_
 refine sim ?_
 refine rn ?_
 refine callA [0,1] 0 (f95_ok hG z us rb 0 u.off u.data u (ns 0) hu hU) ?_;rintro ret os fs ⟨us',h',rfl,rfl,rfl⟩;refine sim ?_
 repeat' first|refine s1 ?_|refine hRegion (sim ?_)|fail
 refine hEnt (eTops 0 m4 (by refine sim ?_;rfl)) ?_
 refine sim ?_
 refine rn ?_
 refine doneA [] ?_;try exact trivial
 exact ⟨us',h'.trans hus,rfl⟩
theorem f52_ok (hG:GOK G g) (hF:FileRK z us0 ns) (us:List UnitR) (hus:us.map bare=us0) (rb:Nat) (n:Int) (i:Nat) (u:UnitR) (hu:us[i]? =some u):
  Fulfils Tryz.prog G 52 [.ref 0 rb 0,u32V u.off] [rawO rb z 1 n,.arr z.hU 216 9 (us.map unitRow)]
  (fun ret os fs=>∃us':List UnitR,us'.map bare=us0∧ret=(fun _=>.tup [])∧os=[some (readerO rb z 1 i u.off u.data),some (.arr z.hU 216 9 (us'.map unitRow))]∧fs=[]):=by
 have hbig:big=140737488355328:=rfl
 have er:=row_at unitRow hu
 have hi:=(List.getElem?_eq_some_iff.1 hu).1
 have hn:=hF.n
 rw[←bare_len hus] at hn
 have hU:=hF.unit i _ (bare_get hus hu)
 have hlen:u.off+u.data.length≤2000000000:=hU.len
 have ho:0 < u.off:=hU.off
 obtain ⟨id,ab,ats,r,hne,_⟩ :=hU.ne
 have hdl:0 < u.data.length:=by
  have:u.data=nodeB (udOf (bare u)) z.big (.ent id ab ats)++nodesB (udOf (bare u)) z.big r:=by
   have:=hU.data
   rw[hne] at this
   exact this
  rw[this,nodeB]
  have:=encU_pos id
  simp only[List.length_append];omega
 have z0:((u.off:Int) == 0)=false:=by rw[beq_eq_false_iff_ne];omega
 have zm:((i:Int) == -1)=false:=by rw[beq_eq_false_iff_ne];omega
 have w0:IntKind.u32.wrap ((u.off:Int) - (u.off:Int))=0:=by rw[Int.sub_self];rfl
 refine fulfilA Tryz.f52 [] 2 ?_
 simp only[Tryz.f52,Option.getD_some,go_sem]
 refine rnE @z0 ?_
 refine callA [1] 0 (f96_ok z us i u u.off 1 hu (Nat.le_refl _) (by omega) (fun k v hv hk=>by have:=hF.inc k i _ _ (bare_get hus hv) (bare_get hus hu) hk;exact Nat.le_of_lt this) (fun k v hv hk=>show (bare u).off < (bare v).off from hF.inc i k _ _ (bare_get hus hu) (bare_get hus hv) hk) hn hlen) ?_;rintro ret os fs ⟨rfl,rfl,rfl⟩;refine sim ?_
 repeat' first|refine rnE @zm ?_|refine br fun hb=>?_|with_reducible refine And.intro ?_ ?_|fail
 all_goals
  refine hRegionD (fun jx _=>if jx=19 then mkC [] 105 0 [] (f94_ok (nm:=infoN) z 1 1 u.off i z.hU u.data) else (default,([],[]))) [0,1,2,3,4,5,6,7,8,9,10,11,12,13,14,15,16,17,18,19,20,21,22] [0,0,2,6,14,0,32,0,0,256,768,1792,0,0,8192,24576,57344,126976,261888,524286,1048575,2097151,4194303] [] mixed (by kernel_rfl) ?_
  simp -implicitDefEqProofs only[go_sem,↓reduceIte,Nat.reduceEqDiff,Nat.reduceLT,Nat.reduceLeDiff,Nat.reduceAdd,Nat.reduceSub,Nat.reduceMul,reduceCtorEq,List.reduceReplicate,Nat.reduceBEq,er,w0,List.drop_zero]
  (repeat' first|refine rn ?_|fail);refine callDA ?_;rintro ret os fs ⟨rfl,rfl,rfl⟩;refine sim ?_
  skip
  refine hEnt (eTops 0 m4 (by refine sim ?_;rfl)) ?_
  refine sim ?_
  repeat' first|refine rn ?_|fail
  refine callA [0,1] 0 (f95_ok hG z us rb i u.off u.data u (ns i) hu hU) ?_;rintro ret os fs ⟨us',h',rfl,rfl,rfl⟩;refine sim ?_
  skip
  refine doneA [] ?_;try exact trivial
  exact ⟨us',h'.trans hus,rfl⟩
theorem f49_ok (hG:GOK G g) (hF:FileRK z us0 ns) (us:List UnitR) (hus:us.map bare=us0) (kz:Nat) (u:UnitR) (hu:us[0]? =some u):
  Fulfils Tryz.prog G 49 [dP z kz] [.arr z.hU 216 9 (us.map unitRow)]
  (fun ret os fs=>∃(us':List UnitR) (rb:Nat),us'.map bare=us0∧ret=(fun _=>.ref 1 rb 0)∧os=[some (.arr z.hU 216 9 (us'.map unitRow))]∧fs=[some (readerO rb z 0 0 u.off u.data)]):=by
 have hbig:big=140737488355328:=rfl
 refine dP_any ?_
 refine fulfilA Tryz.f49 [.tmp 2] 1 ?_
 simp only[Tryz.f49,Option.getD_some,go_sem]
 (refine s1 ?_;refine hRegion (sim ?_);skip)
 (refine s1 ?_;refine hRegion (sim ?_);with_reducible refine fun (_:Outc)=>?_)
 rename_i o1
 refine hEnt (eTops 6 m0' (by refine sim ?_;rfl)) ?_
 refine sim ?_
 refine rn ?_
 refine callA [6,0] 0 (f52z_ok hG hF us hus o1.b 0 u hu) ?_;rintro ret os fs ⟨us',h',rfl,rfl,rfl⟩;refine sim ?_
 refine rn ?_
 refine doneA [(6,1)] ?_;try exact trivial
 exact ⟨us',_,h',rfl,rfl,rfl⟩
theorem f117_ok (hG:GOK G g) (hF:FileRK z us0 ns) (us:List UnitR) (hus:us.map bare=us0) (rb i off:Nat) (l:Bytes) (u:UnitR) (hu:us[i+1]? =some u):
  Fulfils Tryz.prog G 117 [.ref 0 rb 0] [readerO rb z 1 i off l,.arr z.hU 216 9 (us.map unitRow)]
  (fun ret os fs=>∃us':List UnitR,us'.map bare=us0∧ret=(fun _=>.tup [])∧os=[some (readerO rb z 1 (i+1) u.off u.data),some (.arr z.hU 216 9 (us'.map unitRow))]∧fs=[]):=by
 have hbig:big=140737488355328:=rfl
 have er:=row_at unitRow hu
 have hi:=(List.getElem?_eq_some_iff.1 hu).1
 have hn:=hF.n
 rw[←bare_len hus] at hn
 have hU:=hF.unit (i+1) _ (bare_get hus hu)
 have w1:IntKind.i64.wrap ((i:Int)+1)=((i+1:Nat):Int):=by rw[wrap_i64 (by omega) (by omega)];simp
 refine fulfilA Tryz.f117 [] 2 ?_
 simp only[Tryz.f117,Option.getD_some,go_sem]
 refine rnE @w1 ?_
 refine hRegionD (noChi) [0,1,2,3,4,5,6,7,8,9,10,11,12] [0,1,3,7,15,31,63,0,128,384,896,2047,4095] [] mixed (by kernel_rfl) ?_
 refine sim ?_
 refine rn ?_
 refine hRegionD (fun jx _=>if jx=15 then mkC [] 37 0 [] (f94_ok (nm:=infoN) z 1 1 u.off (i+1) z.hU u.data) else (default,([],[]))) [0,1,2,3,4,5,6,7,8,9,10,11,12,13,14,15,16,17,18] [0,0,2,6,14,0,32,0,128,384,896,0,2048,6144,14336,32766,65535,131071,262143] [] mixed (by kernel_rfl) ?_
 refine simE @er ?_
 (refine rn ?_);refine callDA ?_;rintro ret os fs ⟨rfl,rfl,rfl⟩;refine sim ?_
 skip
 (refine s1 ?_;refine hRegion (sim ?_);skip)
 refine hEnt (eTops 0 m4 (by refine sim ?_;rfl)) ?_
 refine sim ?_
 refine rn ?_
 refine callA [0,1] 0 (f95_ok hG z us rb (i+1) u.off u.data u (ns (i+1)) hu hU) ?_;rintro ret os fs ⟨us',h',rfl,rfl,rfl⟩;refine sim ?_
 skip
 refine doneA [] ?_;try exact trivial
 exact ⟨us',h'.trans hus,rfl⟩
theorem f98s_ok (us:List UnitR) (hn:us.length≤1000) (rb i off:Nat) (l:Bytes) (h:l≠[]∨us.length≤i+1) (hi:i < us.length):
  Fulfils Tryz.prog G 98 [.ref 0 rb 0] [readerO rb z 1 i off l,.arr z.hU 216 9 (us.map unitRow)] (retO (.tup []) [some (readerO rb z 1 i off l),some (.arr z.hU 216 9 (us.map unitRow))]):=by
 have hbig:big=140737488355328:=rfl
 have w1:IntKind.i64.wrap ((i:Int)+1)=((i+1:Nat):Int):=by rw[wrap_i64 (by omega) (by omega)];simp
 refine fulfilA Tryz.f98 [] 2 ?_
 simp only[Tryz.f98,Option.getD_some,go_sem]
 refine rn ?_
 refine hLoop0 ?_
 refine rn ?_
 have c:((((l.length:Int) == 0):Bool)=true→decide (((i+1:Nat):Int) < (us.length:Int))=false):=by
  intro e
  rw[beq_iff_eq] at e
  rw[decide_eq_false_iff_not]
  have:l=[]:=List.length_eq_zero_iff.1 (by omega)
  rcases h with h|h
  ·exact absurd this h
  ·omega
 cases hc:(((l.length:Int) == 0):Bool)
 ·refine hRegionD (noChi) [0,1,2,3,4,5,6,7,8,9,10,11,12,13,14,15,16,17,18,19,20,21,22] [0,1,3,7,15,31,63,127,255,511,1023,2047,4095,255,8447,24831,57599,123135,254207,516351,1040639,2097151,4194303] [] mixed (by kernel_rfl) ?_
  refine simE (And.intro @w1 @hc) ?_
  refine rnE (And.intro @w1 @hc) ?_
  refine doneA [] ?_;try exact trivial
  exact ⟨rfl,rfl,rfl⟩
 ·have c2:=c hc
  refine hRegionD (noChi) [0,1,2,3,4,5,6,7,8,9,10,11,12,13,14,15,16,17,18,19,20,21,22] [0,1,3,7,15,31,63,127,255,511,1023,2047,4095,255,8447,24831,57599,123135,254207,516351,1040639,2097151,4194303] [] mixed (by kernel_rfl) ?_
  refine simE (And.intro @w1 (And.intro @hc @c2)) ?_
  refine rnE (And.intro @w1 (And.intro @hc @c2)) ?_
  refine doneA [] ?_;try exact trivial
  exact ⟨rfl,rfl,rfl⟩
end
set_option maxHeartbeats 4000000
set_option maxRecDepth 10000
open Go.AM Go
def rdC (z:DataR) (j i:Nat) (u:UnitR) (l:List NodeR) (k:Nat):List AV:=dP z j :: booV z.big :: fmU j z.hU i :: strV infoN :: u32V (nodeAtOff u z.big l k) :: bytesV (nodesB (udOf u) z.big (l.drop k)) :: .val .nilIface :: rdT z j i
def rdAt (rb:Nat) (z:DataR) (j i:Nat) (u:UnitR) (l:List NodeR) (k:Nat):AObj:=.cells rb 0 (rdC z j i u l k)
theorem rdAt_eq {rb:Nat} {z:DataR} {j i:Nat} {u:UnitR} {l:List NodeR} {k:Nat}:rdAt rb z j i u l k=readerO rb z j i (nodeAtOff u z.big l k) (nodesB (udOf u) z.big (l.drop k)):=rfl
def StepTo (ns:Nat→List NodeR) (i k i' k':Nat) (n:NodeR):Prop:=(i'=i∧k'=k∧(ns i)[k]? =some n)∨(k=(ns i).length∧i'=i+1∧k'=0∧(ns (i+1))[0]? =some n)
theorem nodeB_pos (ud:UnitD) (bg:Bool) (n:NodeR):0 < (nodeB ud bg n).length:=by
 cases n with
 |fin=>simp[nodeB]
 |ent id ab ats=>have:=encU_pos id;simp only[nodeB,List.length_append];omega
section
variable {G:Nat→AV} {g:GData} {z:DataR} {us0:List UnitR} {ns:Nat→List NodeR}
theorem rdAt0 {u:UnitR} (hF:FileRK z us0 ns) {i:Nat} (hu:us0[i]? =some u) (rb j:Nat):rdAt rb z j i u (ns i) 0=readerO rb z j i u.off u.data:=by
 have hU:=hF.unit i u hu
 rw[rdAt_eq,nodeAtOff,List.take_zero,List.drop_zero,←hU.data]
 simp[nodesB]
theorem f98n_ok (hG:GOK G g) (hF:FileRK z us0 ns) (us:List UnitR) (hus:us.map bare=us0) (rb i off:Nat) (u:UnitR) (hu:us[i+1]? =some u):
  Fulfils Tryz.prog G 98 [.ref 0 rb 0] [readerO rb z 1 i off [],.arr z.hU 216 9 (us.map unitRow)]
  (fun ret os fs=>∃us':List UnitR,us'.map bare=us0∧ret=(fun _=>.tup [])∧os=[some (readerO rb z 1 (i+1) u.off u.data),some (.arr z.hU 216 9 (us'.map unitRow))]∧fs=[]):=by
 have hbig:big=140737488355328:=rfl
 have hn:=hF.n
 rw[←bare_len hus] at hn
 have hi:=(List.getElem?_eq_some_iff.1 hu).1
 have w1:IntKind.i64.wrap ((i:Int)+1)=((i+1:Nat):Int):=by rw[wrap_i64 (by omega) (by omega)];simp
 have c2:decide (((i+1:Nat):Int) < (us.length:Int))=true:=by rw[decide_eq_true_eq];omega
 have hU:=hF.unit (i+1) _ (bare_get hus hu)
 obtain ⟨id,ab,ats,r,hne,_⟩ :=hU.ne
 have hdl:0 < u.data.length:=by
  have:u.data=nodeB (udOf (bare u)) z.big (.ent id ab ats)++nodesB (udOf (bare u)) z.big r:=by
   have:=hU.data
   rw[hne] at this
   exact this
  rw[this]
  have:=nodeB_pos (udOf (bare u)) z.big (.ent id ab ats)
  simp only[List.length_append];omega
 have c3:((u.data.length:Int) == 0)=false:=by rw[beq_eq_false_iff_ne];omega
 have e0:([]:Bytes).length=0:=rfl
 refine fulfilA Tryz.f98 [] 2 ?_
 simp only[Tryz.f98,Option.getD_some,go_sem]
 refine rn ?_
 refine hLoop (X:=Option {l:List UnitR // l.map bare=us0}) (fun o=>match o with|none=> ⟨[(0,.ref 0 rb 0)],[(0,some (readerO rb z 1 i off [])),(1,some (.arr z.hU 216 9 (us.map unitRow)))]⟩ |some l=> ⟨[(0,.ref 0 rb 0)],[(0,some (readerO rb z 1 (i+1) u.off u.data)),(1,some (.arr z.hU 216 9 (l.1.map unitRow)))]⟩) (fun o=>match o with|none=>1|some _=>0) none (by exact sT;all_goals ((repeat' refine And.intro ?_ ?_)<;>first|rfl|omega|(dsimp only;omega)|(simp;done)|(simp;rfl)|skip)) ?_
 rintro (_| ⟨us',h'⟩)
 ·refine sim ?_
  refine rn ?_
  refine hRegionD (noChi) [0,1,2,3,4,5,6,7,8,9,10,11,12,13,14,15,16,17,18,19,20,21,22] [0,1,3,7,15,31,63,127,255,511,1023,2047,4095,255,8447,24831,57599,123135,254207,516351,1040639,2097151,4194303] [] mixed (by kernel_rfl) ?_
  refine simE (And.intro @w1 @c2) ?_
  refine rnE (And.intro @w1 @c2) ?_
  refine callA [0,1] 0 (f117_ok hG hF us hus rb i off [] u hu) ?_;rintro ret os fs ⟨us',h',rfl,rfl,rfl⟩;refine sim ?_
  skip
  exact ⟨some ⟨us',h'⟩,by exact sT;all_goals ((repeat' refine And.intro ?_ ?_)<;>first|rfl|omega|(dsimp only;omega)|(simp;done)|(simp;rfl)|skip)⟩
 ·refine sim ?_
  refine rn ?_
  refine hRegionD (noChi) [0,1,2,3,4,5,6,7,8,9,10,11,12,13,14,15,16,17,18,19,20,21,22] [0,1,3,7,15,31,63,127,255,511,1023,2047,4095,255,8447,24831,57599,123135,254207,516351,1040639,2097151,4194303] [] mixed (by kernel_rfl) ?_
  refine simE @c3 ?_
  refine rnE @c3 ?_
  refine doneA [] ?_;try exact trivial
  exact ⟨us',h',rfl⟩
theorem f98_ok (hG:GOK G g) (hF:FileRK z us0 ns) (us:List UnitR) (hus:us.map bare=us0) (rb i k i' k':Nat) (n:NodeR) (u u':UnitR) (hu:us0[i]? =some u) (hu':us0[i']? =some u') (hs:StepTo ns i k i' k' n):
  Fulfils Tryz.prog G 98 [.ref 0 rb 0] [rdAt rb z 1 i u (ns i) k,.arr z.hU 216 9 (us.map unitRow)]
  (fun ret os fs=>∃us':List UnitR,us'.map bare=us0∧ret=(fun _=>.tup [])∧os=[some (rdAt rb z 1 i' u' (ns i') k'),some (.arr z.hU 216 9 (us'.map unitRow))]∧fs=[]):=by
 have hn:=hF.n
 rw[←bare_len hus] at hn
 rcases hs with ⟨rfl,rfl,hk⟩ | ⟨rfl,rfl,rfl,hk⟩
 ·rw[hu] at hu'
  cases hu'
  have hi:=(List.getElem?_eq_some_iff.1 hu).1
  rw[←bare_len hus] at hi
  have h1:=f98s_ok (G:=G) (z:=z) us hn rb i' (nodeAtOff u z.big (ns i') k') (nodesB (udOf u) z.big ((ns i').drop k')) (.inl (by
   rw[nodesB_cons hk]
   intro e
   have:=congrArg List.length e
   have:=nodeB_pos (udOf u) z.big n
   simp only[List.length_append,List.length_nil] at *
   omega)) hi
  exact h1.imp rfl (fun i ob hi=> ⟨ob,hi,rfl,fun M w h=>h⟩) fun M M' w v w' ret os fs ⟨e1,e2,e3⟩ hx ha=> ⟨ret,os,fs, ⟨us,hus,e1,e2,e3⟩,hx,ha⟩
 ·obtain ⟨v,hv,rfl⟩ :=bare_of hus hu'
  have h1:=f98n_ok hG hF us hus rb i (nodeAtOff u z.big (ns i) (ns i).length) v hv
  have e0:nodesB (udOf u) z.big ((ns i).drop (ns i).length)=[]:=by rw[List.drop_length];rfl
  rw[rdAt0 hF hu',rdAt_eq,e0]
  exact h1
theorem f98e_ok (us:List UnitR) (hus:us.map bare=us0) (hF:FileRK z us0 ns) (rb i:Nat) (u:UnitR) (hu:us0[i]? =some u) (hl:us0.length=i+1):
  Fulfils Tryz.prog G 98 [.ref 0 rb 0] [rdAt rb z 1 i u (ns i) (ns i).length,.arr z.hU 216 9 (us.map unitRow)] (retO (.tup []) [some (rdAt rb z 1 i u (ns i) (ns i).length),some (.arr z.hU 216 9 (us.map unitRow))]):=by
 have hn:=hF.n
 rw[←bare_len hus] at hn hl
 exact f98s_ok us hn rb i _ _ (.inr (by omega)) (by omega)
theorem f53_ok (hG:GOK G g) (hF:FileRK z us0 ns) (us:List UnitR) (hus:us.map bare=us0) (rb i k i' k':Nat) (n:NodeR) (u u':UnitR) (hu:us0[i]? =some u) (hu':us0[i']? =some u') (hs:StepTo ns i k i' k' n):
  Fulfils Tryz.prog G 53 [.ref 0 rb 0] [rdAt rb z 1 i u (ns i) k,.arr z.hU 216 9 (us.map unitRow)]
  (fun ret os fs=>∃us':List UnitR,us'.map bare=us0∧ret=(fun _=>.tup [deP (nodeE u'.base (nodeAtOff u' z.big (ns i') k') n),.val .nilIface])∧os=[some (rdAt rb z 1 i' u' (ns i') (k'+1)),some (.arr z.hU 216 9 (us'.map unitRow))]∧fs=[]):=by
 have hbig:big=140737488355328:=rfl
 have hU:=hF.unit i' u' hu'
 have hk:(ns i')[k']? =some n:=by
  rcases hs with ⟨rfl,rfl,h⟩ | ⟨rfl,rfl,rfl,h⟩ <;>exact h
 have hd:=nodesB_cons (ud:=udOf u') (bg:=z.big) hk
 have hsp:=nodesB_split (udOf u') z.big (ns i') k'
 have hso:=nodeAtOff_succ (u:=u') (bg:=z.big) hk
 have hlen:=hU.len
 rw[hU.data] at hlen
 have hnr:=hU.nodes n (List.mem_of_getElem? hk)
 have hnp:=nodeB_pos (udOf u') z.big n
 have hun:us0.length≤1000:=hF.n
 have hi':=(List.getElem?_eq_some_iff.1 hu').1
 obtain ⟨o,ho⟩ :∃o,o=nodeAtOff u' z.big (ns i') k':= ⟨_,rfl⟩
 have ho2:o=u'.off+(nodesB (udOf u') z.big ((ns i').take k')).length:=ho
 obtain ⟨R,hR⟩ :∃R,R=nodesB (udOf u') z.big ((ns i').drop (k'+1)):= ⟨_,rfl⟩
 obtain ⟨B,hB⟩ :∃B,B=nodeB (udOf u') z.big n:= ⟨_,rfl⟩
 have hrd:rdAt rb z 1 i' u' (ns i') k'=readerO rb z 1 i' o (B++R):=by rw[rdAt_eq,hd,ho,hR,hB]
 have hrd2:rdAt rb z 1 i' u' (ns i') (k'+1)=readerO rb z 1 i' (o+B.length) R:=by rw[rdAt_eq,hso,ho,hR,hB]
 have hfl:(nodeE u'.base o n).fields.length≤1000:=by
  cases n with
  |fin=>simp[nodeE]
  |ent id ab ats=>simp only[nodeE,List.length_map];have:=hnr.2.2.2.2.1;omega
 have hl2:o+(B++R).length≤2000000000:=by rw[hd,←hR,←hB] at hsp;omega
 have hpos:(((B.length+R.length:Nat):Int) == 0)=false:=by rw[beq_eq_false_iff_ne,hB];omega
 have h98:=f98_ok hG hF us hus rb i k i' k' n u u' hu hu' hs
 rw[hrd] at h98
 have hval:=f100_ok (G:=G) (nodeE u'.base o n) 1 hfl
 have h99:∀us':List UnitR,us'.map bare=us0→Fulfils Tryz.prog G 99 [.ref 0 rb 0,.top,.aref 1 z.hU 9 i' 0] [bufO rb (dP z 1) z.big (fmU 1 z.hU i') infoN o (B++R) (rdT z 1 i'),.arr z.hU 216 9 (us'.map unitRow)]
   (retO (deP (nodeE u'.base o n)) [some (bufO rb (dP z 1) z.big (fmU 1 z.hU i') infoN (o+B.length) R (rdT z 1 i')),some (.arr z.hU 216 9 (us'.map unitRow))]):=by
  intro us' h'
  obtain ⟨v,hv,rfl⟩ :=bare_of h' hu'
  subst hB
  exact f99n_ok hG (post0_rd z i') z z.hU us' i' v hv .top hU.vers hU.size hU.base n hnr o R hl2
 rw[hrd2,←ho]
 have key:Fulfils Tryz.prog G 53 [.ref 0 rb 0] [rdAt rb z 1 i u (ns i) k,.arr z.hU 216 9 (us.map unitRow)]
   (fun ret os fs=>∃(us':List UnitR) (d0 d1 d2 d3:AV),us'.map bare=us0∧ret=(fun _=>.tup [deP (nodeE u'.base o n),.val .nilIface])∧
    os=[some (bufO rb (dP z 1) z.big (fmU 1 z.hU i') infoN (o+B.length) R [dP z 1,.val .nilIface,intV i',d0,d1,d2,d3]),some (.arr z.hU 216 9 (us'.map unitRow))]∧fs=[]):=by
  rw[rdAt_eq] at h98 ⊢
  generalize nodeE u'.base o n=e at *
  generalize nodeAtOff u z.big (ns i) k=o0 at *
  generalize nodesB (udOf u) z.big ((ns i).drop k)=d0 at *
  clear hrd hrd2 hd hso ho ho2 hsp hlen hnr hnp hB hR
  refine fulfilA Tryz.f53 [.tmp 2,.tmp 3] 2 ?_
  simp only[Tryz.f53,Option.getD_some,go_sem]
  refine rn ?_
  refine callA [0,1] 0 (h98) ?_;rintro ret os fs ⟨us',h',rfl,rfl,rfl⟩;refine sim ?_
  have hlu:=bare_len h'
  have h99':=h99 us' h'
  refine rnE @hpos ?_
  refine hRegionD (noChi) [0,1,2,3,4,5,6,7,8,9,10,11,12] [0,1,3,7,15,31,63,0,128,384,896,2047,4095] [] mixed (by kernel_rfl) ?_
  refine sim ?_
  refine rn ?_
  refine hRegionD (fun jx _=>if jx=8 then mkC [0,1] 44 0 [] (h99') else (default,([],[]))) [0,1,2,3,4,5,6,7,8,9] [0,1,3,0,8,24,56,0,255,511] [] mixed (by kernel_rfl) ?_
  refine sim ?_
  (skip);refine callDA ?_;rintro ret os fs ⟨rfl,rfl,rfl⟩;refine sim ?_
  repeat' first|refine rn ?_|refine br fun hb=>?_|with_reducible refine And.intro ?_ ?_|fail
  ·cases hf:fldAt e.fields 1 with
   |none=>
    rw[hf] at hval
    refine callP hval rfl ?_;refine sim ?_
    repeat' first|refine rn ?_|refine br fun hb=>?_|with_reducible refine And.intro ?_ ?_|fail
    all_goals (refine doneA [] ?_;exact ⟨us',_,_,_,_,h',rfl⟩)
   |some f=>
    rw[hf] at hval
    refine callP hval rfl ?_;refine sim ?_
    cases f.val
    all_goals
     refine sim ?_
     repeat' first|refine rn ?_|refine br fun hb=>?_|with_reducible refine And.intro ?_ ?_|fail
     all_goals (refine doneA [] ?_;exact ⟨us',_,_,_,_,h',rfl⟩)
  all_goals (refine doneA [] ?_;exact ⟨us',_,_,_,_,h',rfl⟩)
 refine key.imp rfl (fun i ob hi=> ⟨ob,hi,rfl,fun M w h=>h⟩) ?_
 rintro M M' w v w' ret os fs ⟨us',d0,d1,d2,d3,e1,e2,rfl,rfl⟩ hx ha
 refine ⟨ret,_,[], ⟨us',e1,e2,rfl,rfl⟩,hx,After.weak (ob':=readerO rb z 1 i' (o+B.length) R) (top_rel (tops_len m4 [dP z 1,booV z.big,fmU 1 z.hU i',strV infoN,u32V (o+B.length),bytesV R,.val .nilIface,dP z 1,.val .nilIface,intV i',d0,d1,d2,d3]) (tops_get m4 [dP z 1,booV z.big,fmU 1 z.hU i',strV infoN,u32V (o+B.length),bytesV R,.val .nilIface,dP z 1,.val .nilIface,intV i',d0,d1,d2,d3])) rfl ?_ ha⟩
 intro o0 h
 cases o0<;>simp only[AObj.within,bufO,List.length_cons,List.length_nil] at h ⊢
 exact h
end
end Go.Proofs.YtbkfdnkeelmloaaGreatDoor
