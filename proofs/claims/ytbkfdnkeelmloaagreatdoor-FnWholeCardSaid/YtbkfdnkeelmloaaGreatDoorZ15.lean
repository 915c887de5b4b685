/- Part 15 of the proof: R6 R7. -/
import Derived.Test.YtbkfdnkeelmloaaGreatDoorZ13
import Derived.Test.YtbkfdnkeelmloaaGreatDoorZ14
set_option linter.unusedVariables false
set_option linter.unusedSimpArgs false
namespace Go.Proofs.YtbkfdnkeelmloaaGreatDoor
set_option maxHeartbeats 4000000
set_option maxRecDepth 10000
open Go.AM Go
structure FldS where
 attr:Nat
 form:Nat
 val:Int
structure AbbS where
 id:Nat
 tag:Nat
 ch:Bool
 fs:List FldS
def fldText (f:FldS):Bytes:=encU f.attr 0++(encU f.form 0++if f.form=33 then encS f.val 0 else [])
def absText (a:AbbS):Bytes:=encU a.id 0++(encU a.tag 0++(if a.ch then 1 else 0) :: (a.fs.flatMap fldText++[0,0]))
def afOf (f:FldS):AfD:= ⟨f.attr,f.form,fcls f.form f.attr,if f.form=33 then f.val else 0⟩
def abbOf (a:AbbS):AbbE:= ⟨a.id,a.tag,a.ch,a.fs.map afOf⟩
structure FldOK (f:FldS):Prop where
 attr:0 < f.attr∧f.attr < 65536
 form:f.form < 65536
 ok:FormOK f.form f.attr
 val: -9223372036854775808≤f.val∧f.val≤9223372036854775807
structure AbbOK (a:AbbS):Prop where
 id:0 < a.id∧a.id < 4294967296
 tag:a.tag < 65536
 fs:∀f∈a.fs,FldOK f
 len:a.fs.length≤200
theorem enc0:encU 0 0=[0]:=by rw[encU,leb,dif_pos (by decide)];rfl
section
variable {G:Nat→AV} {g:GData} {b:Nat} {dw fm:AV} {bg:Bool} {nm:Bytes} {post:List AV}
theorem f121z_ok (off:Nat) (l:Bytes) (h:off+1 < 4294967296) (hbl:l.length≤3000000000):Fulfils Tryz.prog G 121 [.ref 0 b 0] [bufO b dw bg fm nm off (0 :: l) post] (retO (.val (.int .u64 0)) [some (bufO b dw bg fm nm (off+1) l post)]):=by
 have:=f121_ok (G:=G) (b:=b) (dw:=dw) (fm:=fm) (bg:=bg) (nm:=nm) (post:=post) off 0 0 l (by decide) (by decide) (by rw[enc0];exact h) hbl
 rw[enc0] at this
 exact this
def nilS:AV:=.val (.slice none 0 0)
structure NewD where
 abbs:Bytes
 info:Bytes
 line:Bytes
 ranges:Bytes
 str:Bytes
 r1:Nat
 r2:Nat
 r3:Nat
 big:Bool
def newC (z:NewD):List AV:=[bytesV z.abbs,nilS,nilS,bytesV z.info,bytesV z.line,nilS,bytesV z.ranges,bytesV z.str,nilS,nilS,nilS,nilS,.omap 1 z.r1,booV z.big,booV z.big,.omap 902 z.r2,.omap 903 z.r3,nilS]
attribute [go_sem] nilS newC
def cacheE (l:List (Nat×List AbbE)):List (Int×AV):=l.map fun p=>((p.1:Int),tabV p.2)
theorem turnE_cache {f:AV→AV} [Still f]:∀l:List (Nat×List AbbE),turnE f (cacheE l)=cacheE l
 | []=>rfl
 |a :: l=>by
  have:=turnE_cache (f:=f) l
  simp only[cacheE,List.map_cons,turnE,turn_tab] at this ⊢
  rw[this]
theorem fitE_cache {p:AV→Prop} [StillP p]:∀l:List (Nat×List AbbE),fitE p (cacheE l)=True
 | []=>rfl
 |a :: l=>by
  have h:=fitE_cache (p:=p) l
  have h2:=fitE_tab (p:=p) a.2
  simp only[cacheE,List.map_cons,fitE,tabV,AV.fit] at h ⊢
  rw[h,h2];simp
theorem findE_cache:∀{l:List (Nat×List AbbE)} {off:Nat},(∀p∈l,p.1≠off)→findE (cacheE l) (off:Int)=none
 | [],_,_=>rfl
 |a :: l,off,h=>by
  have h1:=h a (by simp)
  have:=findE_cache (l:=l) (off:=off) fun p hp=>h p (by simp[hp])
  simp only[cacheE,List.map_cons,findE] at this ⊢
  rw[if_neg (by omega),this]
theorem cache_snoc (l:List (Nat×List AbbE)) (off:Nat) (t:List AbbE):cacheE l++[((off:Int),AV.mp .u32 (tabE t))]=cacheE (l++[(off,t)]):=by simp[cacheE,tabV]
attribute [go_sem] turnE_cache fitE_cache cache_snoc
def abbrevN:Bytes:=[97,98,98,114,101,118]
def abbTail (L:List AbbS) (rest:Bytes):Bytes:=L.flatMap absText++0 :: rest
theorem abbTail_cons {L:List AbbS} {i:Nat} {a:AbbS} (h:L[i]? =some a) (rest:Bytes):abbTail (L.drop i) rest=absText a++abbTail (L.drop (i+1)) rest:=by
 obtain ⟨hi,rfl⟩ :=List.getElem?_eq_some_iff.1 h
 rw[abbTail,List.drop_eq_getElem_cons hi,List.flatMap_cons,List.append_assoc]
 rfl
def chB (c:Bool):UInt8:=if c then 1 else 0
def implT (f:FldS):Bytes:=if f.form=33 then encS f.val 0 else []
def fldTail (l:List FldS) (T:Bytes):Bytes:=l.flatMap fldText++0 :: 0 :: T
theorem absText_app (a:AbbS) (T:Bytes):absText a++T=encU a.id 0++(encU a.tag 0++(chB a.ch :: fldTail a.fs T)):=by
 simp[absText,fldTail,chB]
theorem fldTail_cons {l:List FldS} {i:Nat} {f:FldS} (h:l[i]? =some f) (T:Bytes):fldTail (l.drop i) T=encU f.attr 0++(encU f.form 0++(implT f++fldTail (l.drop (i+1)) T)):=by
 obtain ⟨hi,rfl⟩ :=List.getElem?_eq_some_iff.1 h
 rw[fldTail,List.drop_eq_getElem_cons hi,List.flatMap_cons,List.append_assoc]
 simp[fldText,implT,fldTail]
def slA (db off:Nat) (vers:Int) (b1 b2:Nat):List (Nat×AV):=[(0,.ref 0 db 0),(1,.val (.int .u64 off)),(2,intV vers),(11,.ref 11 b1 0),(12,.omap 48 b2)]
def obA (db:Nat) (z:NewD) (es:List (Nat×List AbbE)) (b1 b2 o:Nat) (data:Bytes) (m:List AbbE):List (Nat×Option AObj):=
 [(0,some (.cells db 0 (newC z))),(1,some (.mapo z.r1 .u64 (cacheE es))),(11,some (bufO b1 (ptrV db) z.big (.ifc 314 (.agg [])) abbrevN o data [])),(48,some (.mapo b2 .u32 (tabE m)))]
attribute [go_sem] slA obA
def zAf:List AV:=[u32V 0,u32V 0,intV 0,.val (.int .i64 0)]
def rowsAt (fs:List FldS) (j:Nat):List (List AV):=(fs.take j).map (fun f=>afC (afOf f))++List.replicate (fs.length - j) zAf
theorem rowsAt_W {fs:List FldS} {j:Nat} {f:FldS} (h:fs[j]? =some f):∃W:List AV→List (List AV),rowsAt fs j=W zAf∧rowsAt fs (j+1)=W (afC (afOf f))∧(∀r,(W r).getD j []=r)∧(∀r r',(W r).set j r'=W r')∧∀r,(W r).length=fs.length:=by
 have hj:=(List.getElem?_eq_some_iff.1 h).1
 have hl:((fs.take j).map (fun f=>afC (afOf f))).length=j:=by simp;omega
 refine ⟨fun r=>(fs.take j).map (fun f=>afC (afOf f))++r :: List.replicate (fs.length - j - 1) zAf, ?_, ?_,fun r=>?_,fun r r'=>?_,fun r=>?_⟩
 ·rw[rowsAt,show fs.length - j=(fs.length - j - 1)+1 by omega,List.replicate_succ];rfl
 ·rw[rowsAt,take_succ h,List.map_append,List.append_assoc];rfl
 ·exact getD_mid hl
 ·rw[List.set_append_right _ _ (by omega),hl,Nat.sub_self];rfl
 ·simp;omega
theorem findE_tab:∀{l:List AbbE} {n:Int},(∀x∈l,x.id≠n)→findE (tabE l) n=none
 | [],_,_=>rfl
 |a :: l,n,h=>by
  have h1:=h a (by simp)
  have:=findE_tab (l:=l) (n:=n) fun p hp=>h p (by simp[hp])
  simp only[tabE,List.map_cons,findE] at this ⊢
  rw[if_neg h1,this]
theorem tab_snoc (l:List AbbE) (a:AbbS):tabE l++[((a.id:Int),AV.agg [u32V a.tag,booV a.ch,.dat false 4 ((a.fs.map afOf).map afC)])]=tabE (l++[abbOf a]):=by simp[tabE,abbOf,abbV,u32I,u32V]
theorem rowsAt_0 (fs:List FldS):rowsAt fs 0=List.replicate fs.length zAf:=by simp[rowsAt]
theorem rowsAt_n (fs:List FldS):rowsAt fs fs.length=(fs.map afOf).map afC:=by simp[rowsAt]
theorem f158_ok (hG:GOK G g) (db:Nat) (z:NewD) (es:List (Nat×List AbbE)) (off:Nat) (vers:Int) (L:List AbbS) (pre rest:Bytes) (habb:z.abbs=pre++abbTail L rest) (hoff:pre.length=off)
  (hL:∀a∈L,AbbOK a) (hid:L.Pairwise fun a c=>a.id≠c.id) (hv:4≤vers) (hne:∀p∈es,p.1≠off) (hlen:z.abbs.length≤1000000000):
  Fulfils Tryz.prog G 158 [.ref 0 db 0,.val (.int .u64 off),intV vers] [.cells db 0 (newC z),.mapo z.r1 .u64 (cacheE es)]
  (retO (.tup [tabV (L.map abbOf),.val .nilIface]) [some (.cells db 0 (newC z)),some (.mapo z.r1 .u64 (cacheE (es++[(off,L.map abbOf)])))]):=by
 have hbig:big=140737488355328:=rfl
 have hnf:=findE_cache hne
 have hle:z.abbs.length=off+(abbTail L rest).length:=by rw[habb,List.length_append,hoff]
 have ed:z.abbs.drop off=abbTail L rest:=by rw[habb,List.drop_left' hoff]
 have w1:IntKind.u64.wrap (z.abbs.length:Int)=z.abbs.length:=wrap_u64 (by omega) (by omega)
 refine fulfilA Tryz.f158 [.tmp 6,.tmp 7] 2 ?_
 simp only[Tryz.f158,Option.getD_some,go_sem]
 refine rnE (And.intro @hnf (And.intro @w1 @ed)) ?_
 refine callU [0] 0 (f94o_ok (bg:=z.big) (nm:=abbrevN) db 0 (newC z) [.omap 902 z.r2,.omap 903 z.r3,nilS] (abbTail L rest) rfl (by simp[newC])) ?_;rintro ret os fs ⟨rfl,rfl,rfl⟩;refine sim ?_
 repeat' first|refine rn ?_|with_reducible refine fun (_:Outc)=>?_|fail
 rename_i o1 o2
 refine hEnt (eCell0 11 (by refine sim ?_;rfl)) ?_;refine sim ?_
 refine hLoop (X:={p:Nat×Nat // p.1≤L.length∧p.2+(abbTail (L.drop p.1) rest).length=(abbTail L rest).length}) (fun p=> ⟨slA db off vers o1.b o2.b,obA db z es o1.b o2.b p.1.2 (abbTail (L.drop p.1.1) rest) ((L.take p.1.1).map abbOf)⟩) (fun p=>L.length - p.1.1)
  ⟨(0,0),by simp⟩ (by simp only[List.drop_zero,List.take_zero,List.map_nil];refine sim ?_;((repeat' refine And.intro ?_ ?_)<;>rfl)) ?_
 rintro ⟨⟨i,o⟩,hi,ho⟩
 simp only at hi ho
 refine sim ?_
 by_cases hlt:i < L.length
 ·obtain ⟨a,ha⟩ :=getX L hlt
  have hA:=hL a (List.mem_of_getElem? ha)
  have ec:=abbTail_cons ha rest
  obtain ⟨T,hT⟩ :∃T,T=abbTail (L.drop (i+1)) rest:= ⟨_,rfl⟩
  rw[ec,←hT,absText_app] at ho ⊢
  have hlo:∀n:Nat,n≤(abbTail L rest).length→n < 4294967296:=fun n hn=>by omega
  have hid1:=hA.id
  have htg:=hA.tag
  simp only[List.length_append,List.length_cons] at ho
  have w2:=wrap_u32 a.id (by omega)
  have z1:((a.id:Int) == 0)=false:=by rw[beq_eq_false_iff_ne];omega
  refine rn ?_
  refine callU [11] 0 (f121_ok (dw:=ptrV db) (fm:=.ifc 314 (.agg [])) (post:=[]) o a.id 0 (encU a.tag 0++(chB a.ch :: fldTail a.fs T)) (by omega) (by omega) (by omega) (by simp only[List.length_append,List.length_cons];omega)) ?_;rintro ret os fs ⟨rfl,rfl,rfl⟩;refine sim ?_
  repeat' first|refine rnE (And.intro @w2 @z1) ?_|with_reducible refine fun (_:Outc)=>?_|fail
  rename_i o3
  refine callU [15] 0 (f121_ok (dw:=ptrV db) (fm:=.ifc 314 (.agg [])) (post:=[]) (o+(encU a.id 0).length) a.tag 0 (chB a.ch :: fldTail a.fs T) (by omega) (by omega) (by omega) (by simp only[List.length_cons];omega)) ?_;rintro ret os fs ⟨rfl,rfl,rfl⟩;refine sim ?_
  refine rn ?_
  refine callU [15] 0 (f132_ok (dw:=ptrV db) (fm:=.ifc 314 (.agg [])) (post:=[]) (o+(encU a.id 0).length+(encU a.tag 0).length) (chB a.ch) (fldTail a.fs T) (by omega)) ?_;rintro ret os fs ⟨rfl,rfl,rfl⟩;refine sim ?_
  refine rn ?_
  have hfl:=hA.fs
  have hln:=hA.len
  have hcf:encU a.id 0++(encU a.tag 0++(chB a.ch :: fldTail a.fs T))=encU a.id 0++(encU a.tag 0++(chB a.ch :: fldTail a.fs T)):=rfl
  refine hLoop (X:={p:Nat×Nat // p.1≤a.fs.length∧p.2+(fldTail (a.fs.drop p.1) T).length=o+(encU a.id 0).length+(encU a.tag 0).length+1+(fldTail a.fs T).length}) (fun p=> ⟨slA db off vers o1.b o2.b++[(13,u32V a.id),(14,intV p.1.1),(15,.ref 15 o3.b 0)],
   obA db z es o1.b o2.b (o+(encU a.id 0).length) (encU a.tag 0++(chB a.ch :: fldTail a.fs T)) ((L.take i).map abbOf)++[(15,some (bufO o3.b (ptrV db) z.big (.ifc 314 (.agg [])) abbrevN p.1.2 (fldTail (a.fs.drop p.1.1) T) []))]⟩) (fun p=>a.fs.length - p.1.1)
   ⟨(0,o+(encU a.id 0).length+(encU a.tag 0).length+1),by simp⟩ (by simp only[List.drop_zero];refine sim ?_;((repeat' refine And.intro ?_ ?_)<;>rfl)) ?_
  rintro ⟨⟨j,o4⟩,hj,ho4⟩
  simp only at hj ho4
  refine sim ?_
  by_cases hjl:j < a.fs.length
  ·obtain ⟨f,hf⟩ :=getX a.fs hjl
   have hF:=hfl f (List.mem_of_getElem? hf)
   have hfa:=hF.attr
   have hff:=hF.form
   obtain ⟨R,hR⟩ :∃R,R=fldTail (a.fs.drop (j+1)) T:= ⟨_,rfl⟩
   rw[fldTail_cons hf,←hR] at ho4 ⊢
   simp only[List.length_append] at ho4
   have z2:((f.attr:Int) == 0)=false:=by rw[beq_eq_false_iff_ne];omega
   have w3:=wrap_u32 f.form (by omega)
   have w4:IntKind.i64.wrap ((j:Int)+1)=((j+1:Nat):Int):=by rw[wrap_i64 (by omega) (by omega)];simp
   refine rn ?_
   refine callU [15] 0 (f121_ok (dw:=ptrV db) (fm:=.ifc 314 (.agg [])) (post:=[]) o4 f.attr 0 (encU f.form 0++(implT f++R)) (by omega) (by omega) (by omega) (by simp only[List.length_append];omega)) ?_;rintro ret os fs ⟨rfl,rfl,rfl⟩;refine sim ?_
   refine rn ?_
   refine callU [15] 0 (f121_ok (dw:=ptrV db) (fm:=.ifc 314 (.agg [])) (post:=[]) (o4+(encU f.attr 0).length) f.form 0 (implT f++R) (by omega) (by omega) (by omega) (by simp only[List.length_append];omega)) ?_;rintro ret os fs ⟨rfl,rfl,rfl⟩;refine sim ?_
   by_cases h33:f.form=33
   ·have eI:implT f=encS f.val 0:=by rw[implT,if_pos h33]
    have z3:((f.form:Int) == 33)=true:=by rw[h33];rfl
    rw[eI] at ho4 ⊢
    refine rnE (And.intro @z2 (And.intro @w3 @z3)) ?_
    refine callU [15] 0 (f138_ok (dw:=ptrV db) (fm:=.ifc 314 (.agg [])) (post:=[]) (o4+(encU f.attr 0).length+(encU f.form 0).length) f.val 0 R hF.val (by omega) (by omega) (by omega)) ?_;rintro ret os fs ⟨rfl,rfl,rfl⟩;refine sim ?_
    refine rnE @w4 ?_
    refine ⟨⟨(j+1,o4+(encU f.attr 0).length+(encU f.form 0).length+(encS f.val 0).length),by dsimp only;rw[←hR];omega⟩, ?_⟩
    subst hR
    ((repeat' refine And.intro ?_ ?_)<;>first|rfl|(dsimp only;omega))
   ·have eI:implT f=[]:=by rw[implT,if_neg h33]
    have z3:((f.form:Int) == 33)=false:=by rw[beq_eq_false_iff_ne];omega
    rw[eI] at ho4 ⊢
    rw[List.nil_append]
    simp only[List.length_nil] at ho4
    refine rnE (And.intro @z2 (And.intro @w3 (And.intro @z3 @w4))) ?_
    refine ⟨⟨(j+1,o4+(encU f.attr 0).length+(encU f.form 0).length),by dsimp only;rw[←hR];omega⟩, ?_⟩
    subst hR
    ((repeat' refine And.intro ?_ ?_)<;>first|rfl|(dsimp only;omega))
  ·have:j=a.fs.length:=by omega
   subst this
   have eT:fldTail (a.fs.drop a.fs.length) T=0 :: 0 :: T:=by rw[List.drop_length];rfl
   rw[eT] at ho4 ⊢
   simp only[List.length_cons] at ho4
   refine rn ?_
   refine callU [15] 0 (f121z_ok (dw:=ptrV db) (fm:=.ifc 314 (.agg [])) (post:=[]) o4 (0 :: T) (by omega) (by simp only[List.length_cons];omega)) ?_;rintro ret os fs ⟨rfl,rfl,rfl⟩;refine sim ?_
   refine rn ?_
   refine callU [15] 0 (f121z_ok (dw:=ptrV db) (fm:=.ifc 314 (.agg [])) (post:=[]) (o4+1) T (by omega) (by omega)) ?_;rintro ret os fs ⟨rfl,rfl,rfl⟩;refine sim ?_
   repeat' first|refine rn ?_|with_reducible refine fun (_:Outc)=>?_|fail
   rename_i o5
   have wt:=wrap_u32 a.tag (by omega)
   have zc:(((chB a.ch).toNat:Int) != 0)=a.ch:=by cases a.ch<;>rfl
   refine callU [11] 0 (f121_ok (dw:=ptrV db) (fm:=.ifc 314 (.agg [])) (post:=[]) (o+(encU a.id 0).length) a.tag 0 (chB a.ch :: fldTail a.fs T) (by omega) (by omega) (by omega) (by simp only[List.length_cons];omega)) ?_;rintro ret os fs ⟨rfl,rfl,rfl⟩;refine sim ?_
   refine rnE @wt ?_
   refine callU [11] 0 (f132_ok (dw:=ptrV db) (fm:=.ifc 314 (.agg [])) (post:=[]) (o+(encU a.id 0).length+(encU a.tag 0).length) (chB a.ch) (fldTail a.fs T) (by omega)) ?_;rintro ret os fs ⟨rfl,rfl,rfl⟩;refine sim ?_
   repeat' first|refine rnE @zc ?_|with_reducible refine fun (_:Outc)=>?_|fail
   rename_i o6
   have hn0:(a.fs.length:Int).toNat=a.fs.length:=rfl
   refine hLoop (X:={p:Nat×Nat // p.1≤a.fs.length∧p.2+(fldTail (a.fs.drop p.1) T).length=o+(encU a.id 0).length+(encU a.tag 0).length+1+(fldTail a.fs T).length}) (fun p=> ⟨slA db off vers o1.b o2.b++[(13,u32V a.id),(18,.ref 18 o5.b 0),(86,intV a.fs.length),(87,intV p.1.1)],
    obA db z es o1.b o2.b p.1.2 (fldTail (a.fs.drop p.1.1) T) ((L.take i).map abbOf)++[(18,some (.cells o5.b 0 [u32V a.tag,booV a.ch,.buf 82 o6.h])),(82,some (.arr o6.h 281 4 (rowsAt a.fs p.1.1)))]⟩) (fun p=>a.fs.length - p.1.1)
    ⟨(0,o+(encU a.id 0).length+(encU a.tag 0).length+1),by simp⟩ (by simp only[List.drop_zero,rowsAt_0];refine sim ?_;((repeat' refine And.intro ?_ ?_)<;>rfl)) ?_
   rintro ⟨⟨j,o7⟩,hj,ho7⟩
   simp only at hj ho7
   refine sim ?_
   by_cases hjl:j < a.fs.length
   ·obtain ⟨f,hf⟩ :=getX a.fs hjl
    have hF:=hfl f (List.mem_of_getElem? hf)
    have hfa:=hF.attr
    have hff:=hF.form
    obtain ⟨W,hW0,hW1,hg,hs,hwl⟩ :=rowsAt_W hf
    obtain ⟨R,hR⟩ :∃R,R=fldTail (a.fs.drop (j+1)) T:= ⟨_,rfl⟩
    rw[fldTail_cons hf,←hR] at ho7 ⊢
    rw[hW0]
    simp only[List.length_append] at ho7
    have wa:=wrap_u32 f.attr (by omega)
    have wf:=wrap_u32 f.form (by omega)
    have w4:IntKind.i64.wrap ((j:Int)+1)=((j+1:Nat):Int):=by rw[wrap_i64 (by omega) (by omega)];simp
    have hz:zAf=[.val (.int .u32 0),.val (.int .u32 0),.val (.int .i64 0),.val (.int .i64 0)]:=rfl
    rw[hz]
    refine rn ?_
    refine hRegionD (fun jx _=>if jx=3 then mkC [11] 93 0 [] (f121_ok (dw:=ptrV db) (fm:=.ifc 314 (.agg [])) (post:=[]) (bg:=z.big) (nm:=abbrevN) (b:=o1.b) o7 f.attr 0 (encU f.form 0++(implT f++R)) (by omega) (by omega) (by omega) (by simp only[List.length_append];omega)) else (default,([],[]))) [0,1,2,3,4,5,6,7] [0,1,0,0,8,31,63,127] [(1,3)] mixed (by kernel_rfl) ?_
    refine sim ?_
    (skip);refine callDA ?_;rintro ret os fs ⟨rfl,rfl,rfl⟩;refine sim ?_
    repeat' first|refine rnE (And.intro @hg (And.intro @hs (And.intro @hwl @wa))) ?_|with_reducible refine And.intro ?_ ?_|fail
    all_goals try (rw[hwl];omega)
    refine hRegionD (fun jx _=>if jx=3 then mkC [11] 100 0 [] (f121_ok (dw:=ptrV db) (fm:=.ifc 314 (.agg [])) (post:=[]) (bg:=z.big) (nm:=abbrevN) (b:=o1.b) (o7+(encU f.attr 0).length) f.form 0 (implT f++R) (by omega) (by omega) (by omega) (by simp only[List.length_append];omega)) else (default,([],[]))) [0,1,2,3,4,5,6,7] [0,1,0,0,8,31,63,127] [(1,3)] mixed (by kernel_rfl) ?_
    refine sim ?_
    (skip);refine callDA ?_;rintro ret os fs ⟨rfl,rfl,rfl⟩;refine sim ?_
    repeat' first|refine rnE (And.intro @hg (And.intro @hs (And.intro @hwl (And.intro @wf @wa)))) ?_|with_reducible refine And.intro ?_ ?_|fail
    all_goals try (rw[hwl];omega)
    refine hRegionD (fun jx _=>if jx=16 then mkC [] 120 0 [] (f129_ok hG f.form f.attr vers o1.b hF.ok hv) else (default,([],[]))) [0,1,2,3,4,5,6,7,8,9,10,11,12,13,14,15,16,17,18,19] [0,1,0,0,8,0,56,120,248,0,512,0,3584,7680,15872,0,65528,131071,262143,524287] [(1,16)] mixed (by kernel_rfl) ?_
    refine simE (And.intro @hg (And.intro @hs (And.intro @hwl (And.intro @wa @wf)))) ?_
    all_goals try (rw[hwl];omega)
    (refine rn ?_);refine callDA ?_;rintro ret os fs ⟨rfl,rfl,rfl⟩;refine sim ?_
    by_cases h33:f.form=33
    ·have eI:implT f=encS f.val 0:=by rw[implT,if_pos h33]
     have z3:((f.form:Int) == 33)=true:=by rw[h33];rfl
     rw[eI] at ho7 ⊢
     repeat' first|refine rnE (And.intro @hg (And.intro @hs (And.intro @hwl @z3))) ?_|with_reducible refine And.intro ?_ ?_|fail
     all_goals try (rw[hwl];omega)
     refine hRegionD (fun jx _=>if jx=3 then mkC [11] 133 0 [] (f138_ok (dw:=ptrV db) (fm:=.ifc 314 (.agg [])) (post:=[]) (bg:=z.big) (nm:=abbrevN) (b:=o1.b) (o7+(encU f.attr 0).length+(encU f.form 0).length) f.val 0 R hF.val (by omega) (by omega) (by omega)) else (default,([],[]))) [0,1,2,3,4,5,6] [0,1,0,0,15,31,63] [(1,3)] mixed (by kernel_rfl) ?_
     refine simE (And.intro @hg (And.intro @hs @hwl)) ?_
     (skip);refine callDA ?_;rintro ret os fs ⟨rfl,rfl,rfl⟩;refine sim ?_
     repeat' first|refine rnE (And.intro @hg (And.intro @hs (And.intro @hwl @w4))) ?_|with_reducible refine And.intro ?_ ?_|fail
     all_goals try (rw[hwl];omega)
     refine ⟨⟨(j+1,o7+(encU f.attr 0).length+(encU f.form 0).length+(encS f.val 0).length),by dsimp only;rw[←hR];omega⟩, ?_⟩
     subst hR
     have eAf:afC (afOf f)=[.val (.int .u32 f.attr),.val (.int .u32 f.form),.val (.int .i64 (fcls f.form f.attr)),.val (.int .i64 f.val)]:=by simp only[afOf,if_pos h33];rfl
     rw[eAf] at hW1
     dsimp only
     rw[hW1]
     ((repeat' refine And.intro ?_ ?_)<;>first|rfl|omega)
    ·have eI:implT f=[]:=by rw[implT,if_neg h33]
     have z3:((f.form:Int) == 33)=false:=by rw[beq_eq_false_iff_ne];omega
     rw[eI] at ho7 ⊢
     rw[List.nil_append]
     simp only[List.length_nil] at ho7
     repeat' first|refine rnE (And.intro @hg (And.intro @hs (And.intro @hwl (And.intro @z3 @w4)))) ?_|with_reducible refine And.intro ?_ ?_|fail
     all_goals try (rw[hwl];omega)
     refine ⟨⟨(j+1,o7+(encU f.attr 0).length+(encU f.form 0).length),by dsimp only;rw[←hR];omega⟩, ?_⟩
     subst hR
     have eAf:afC (afOf f)=[.val (.int .u32 f.attr),.val (.int .u32 f.form),.val (.int .i64 (fcls f.form f.attr)),.val (.int .i64 0)]:=by simp only[afOf,if_neg h33];rfl
     rw[eAf] at hW1
     dsimp only
     rw[hW1]
     ((repeat' refine And.intro ?_ ?_)<;>first|rfl|omega)
   ·have:j=a.fs.length:=by omega
    subst this
    rw[eT] at ho7 ⊢
    rw[rowsAt_n]
    simp only[List.length_cons] at ho7
    have hnew:findE (tabE ((L.take i).map abbOf)) (a.id:Int)=none:=by
     refine findE_tab fun x hx=>?_
     obtain ⟨c,hc,rfl⟩ :=List.mem_map.1 hx
     obtain ⟨k,hk⟩ :=List.getElem?_of_mem hc
     rw[List.getElem?_take] at hk
     split at hk
     ·rename_i hki
      have hk1:=List.getElem?_eq_some_iff.1 hk
      have ha1:=List.getElem?_eq_some_iff.1 ha
      have:=List.pairwise_iff_getElem.1 hid k i hk1.1 ha1.1 hki
      rw[hk1.2,ha1.2] at this
      simp only[abbOf];omega
     ·cases hk
    refine hEnt (eFrz 82 sT) ?_;refine sim ?_
    refine rn ?_
    refine callU [11] 0 (f121z_ok (dw:=ptrV db) (fm:=.ifc 314 (.agg [])) (post:=[]) o7 (0 :: T) (by omega) (by simp only[List.length_cons];omega)) ?_;rintro ret os fs ⟨rfl,rfl,rfl⟩;refine sim ?_
    refine rn ?_
    refine callU [11] 0 (f121z_ok (dw:=ptrV db) (fm:=.ifc 314 (.agg [])) (post:=[]) (o7+1) T (by omega) (by omega)) ?_;rintro ret os fs ⟨rfl,rfl,rfl⟩;refine sim ?_
    refine rnE @hnew ?_
    refine ⟨⟨(i+1,o7+1+1),by dsimp only;rw[←hT];omega⟩, ?_⟩
    subst hT
    have ets:=tab_snoc ((L.take i).map abbOf) a
    simp only[u32V,booV] at ets
    rw[ets]
    dsimp only
    rw[take_succ ha,List.map_append]
    ((repeat' refine And.intro ?_ ?_)<;>first|rfl|omega)
 ·have:i=L.length:=by omega
  subst this
  have et:abbTail (L.drop L.length) rest=0 :: rest:=by rw[List.drop_length];rfl
  rw[et] at ho ⊢
  rw[List.take_of_length_le (Nat.le_refl _)]
  refine hEnt (eFrz 48 sT) ?_;refine sim ?_
  refine rn ?_
  refine callU [11] 0 (f121z_ok (dw:=ptrV db) (fm:=.ifc 314 (.agg [])) (post:=[]) o rest (by simp at ho;omega) (by simp at ho;omega)) ?_;rintro ret os fs ⟨rfl,rfl,rfl⟩;refine sim ?_
  refine rnE @hnf ?_
  refine doneA [] ?_;try exact trivial
  exact ⟨rfl,rfl,rfl⟩
end
set_option maxHeartbeats 4000000
set_option maxRecDepth 10000
open Go.AM Go
structure UnitS where
 vers:Nat
 wide:Bool
 size:Nat
 aoff:Nat
 body:Bytes
 abbs:List AbbS
def headB (bg:Bool) (u:UnitS):Bytes:=fixed u.vers 2 bg++(if 5≤u.vers then 1 :: byI u.size :: encO u.aoff u.wide bg else encO u.aoff u.wide bg++[byI u.size])
def unitLen (bg:Bool) (u:UnitS):Nat:=(headB bg u++u.body).length
def unitText (bg:Bool) (u:UnitS):Bytes:=lenText (unitLen bg u) u.wide bg++(headB bg u++u.body)
def infoText (bg:Bool) (us:List UnitS):Bytes:=us.flatMap (unitText bg)
def unitRd (bg:Bool) (base:Nat) (u:UnitS):UnitR:=
 ⟨base,base+(lenText (unitLen bg u) u.wide bg).length+(headB bg u).length,u.body,u.abbs.map abbOf,false,u.size,u.vers,u.wide,if 5≤u.vers then 1 else 0⟩
def baseOf (bg:Bool) (us:List UnitS) (i:Nat):Nat:=(infoText bg (us.take i)).length
def unitsTo (bg:Bool) (us:List UnitS) (j:Nat):List UnitR:=(List.range j).map fun i=>unitRd bg (baseOf bg us i) (us.getD i ⟨0,false,0,0,[],[]⟩)
structure UnitSOK (abbs:Bytes) (u:UnitS):Prop where
 vers:4≤u.vers∧u.vers≤5
 size:u.size < 256
 aoff:u.aoff < 1000000000
 abb:∃pre rest,abbs=pre++abbTail u.abbs rest∧pre.length=u.aoff
 ok:∀a∈u.abbs,AbbOK a
 ids:u.abbs.Pairwise fun a c=>a.id≠c.id
theorem infoText_cons {bg:Bool} {us:List UnitS} {i:Nat} {u:UnitS} (h:us[i]? =some u):infoText bg (us.drop i)=unitText bg u++infoText bg (us.drop (i+1)):=by
 obtain ⟨hi,rfl⟩ :=List.getElem?_eq_some_iff.1 h
 rw[infoText,List.drop_eq_getElem_cons hi,List.flatMap_cons];rfl
theorem base_rest (bg:Bool) (us:List UnitS) (i:Nat):baseOf bg us i+(infoText bg (us.drop i)).length=(infoText bg us).length:=by
 rw[baseOf,←List.length_append]
 congr 1
 unfold infoText
 rw[←List.flatMap_append,List.take_append_drop]
theorem base_succ {bg:Bool} {us:List UnitS} {i:Nat} {u:UnitS} (h:us[i]? =some u):baseOf bg us (i+1)=baseOf bg us i+(unitText bg u).length:=by
 rw[baseOf,infoText,flat_take _ h,List.length_append];rfl
def zUn:List AV:=[u32V 0,u32V 0,nilS,.val (.map none),.val (.pointer none),intV 0,intV 0,booV false,.val (.int .u8 0)]
def rowsU (bg:Bool) (us:List UnitS) (j:Nat):List (List AV):=(unitsTo bg us j).map unitRow++List.replicate (us.length - j) zUn
theorem rowsU_W {bg:Bool} {us:List UnitS} {j:Nat} {u:UnitS} (h:us[j]? =some u):∃W:List AV→List (List AV),rowsU bg us j=W zUn∧rowsU bg us (j+1)=W (unitRow (unitRd bg (baseOf bg us j) u))∧(∀r,(W r).getD j []=r)∧(∀r r',(W r).set j r'=W r')∧∀r,(W r).length=us.length:=by
 have hj:=(List.getElem?_eq_some_iff.1 h).1
 have hl:((unitsTo bg us j).map unitRow).length=j:=by simp[unitsTo]
 refine ⟨fun r=>(unitsTo bg us j).map unitRow++r :: List.replicate (us.length - j - 1) zUn, ?_, ?_,fun r=>?_,fun r r'=>?_,fun r=>?_⟩
 ·rw[rowsU,show us.length - j=(us.length - j - 1)+1 by omega,List.replicate_succ];rfl
 ·have:us.getD j ⟨0,false,0,0,[],[]⟩ =u:=by rw[List.getD_eq_getElem?_getD,h];rfl
  rw[rowsU,unitsTo,List.range_succ,List.map_append,List.map_append,List.append_assoc,List.map_cons,this];rfl
 ·exact getD_mid hl
 ·rw[List.set_append_right _ _ (by omega),hl,Nat.sub_self];rfl
 ·rw[List.length_append,hl,List.length_cons,List.length_replicate];omega
attribute [go_sem] u5V
section
variable {G:Nat→AV} {g:GData}
def infoN:Bytes:=[105,110,102,111]
def ufm:AV:=.ifc 314 (.agg [])
attribute [go_sem] ufm
theorem head5 {bg:Bool} {u:UnitS} (h:u.vers=5) (R:Bytes):headB bg u++u.body++R=fixed 5 2 bg++(1 :: byI u.size :: (encO u.aoff u.wide bg++(u.body++R))):=by
 rw[headB,h,if_pos (by omega)];simp
theorem head4 {bg:Bool} {u:UnitS} (h:u.vers=4) (R:Bytes):headB bg u++u.body++R=fixed 4 2 bg++(encO u.aoff u.wide bg++(byI u.size :: (u.body++R))):=by
 rw[headB,h,if_neg (by omega)];simp
theorem cache_take {us:List UnitS} {j:Nat} {u:UnitS} (h:us[j]? =some u):((us.take (j+1)).map fun u=>(u.aoff,u.abbs.map abbOf))=((us.take j).map fun u=>(u.aoff,u.abbs.map abbOf))++[(u.aoff,u.abbs.map abbOf)]:=by
 rw[take_succ h,List.map_append];rfl
theorem f115_ok (hG:GOK G g) (db:Nat) (z:NewD) (us:List UnitS) (hi:z.info=infoText z.big us) (hlen:z.info.length≤1000000000) (hal:z.abbs.length≤1000000000) (hn:us.length≤1000) (hU:∀u∈us,UnitSOK z.abbs u) (hao:us.Pairwise fun a c=>a.aoff≠c.aoff):
  Fulfils Tryz.prog G 115 [.ref 0 db 0] [.cells db 0 (newC z),.mapo z.r1 .u64 (cacheE [])]
  (fun ret os fs=>∃h,ret=(fun _=>.tup [.buf 2 h,.val .nilIface])∧os=[some (.cells db 0 (newC z)),some (.mapo z.r1 .u64 (cacheE (us.map fun u=>(u.aoff,u.abbs.map abbOf))))]∧fs=[some (.arr h 216 9 ((unitsTo z.big us us.length).map unitRow))]):=by
 have hbig:big=140737488355328:=rfl
 refine fulfilA Tryz.f115 [.tmp 2,.tmp 3] 2 ?_
 simp only[Tryz.f115,Option.getD_some,go_sem]
 refine rn ?_
 refine callU [0] 0 (f94o_ok (bg:=z.big) (nm:=infoN) db 0 (newC z) [.omap 902 z.r2,.omap 903 z.r3,nilS] z.info rfl (by simp[newC])) ?_;rintro ret os fs ⟨rfl,rfl,rfl⟩;refine sim ?_
 repeat' first|refine rn ?_|with_reducible refine fun (_:Outc)=>?_|fail
 rename_i o1
 refine hEnt (eCell0 5 (by refine sim ?_;rfl)) ?_;refine sim ?_
 have hu0:z.info=infoText z.big (us.drop 0):=hi
 refine hLoop (X:={p:Nat×Nat // p.1≤us.length∧p.2+(infoText z.big (us.drop p.1)).length=z.info.length}) (fun p=> ⟨[(0,.ref 0 db 0),(5,.ref 5 o1.b 0),(4,intV p.1.1)],
  [(0,some (.cells db 0 (newC z))),(1,some (.mapo z.r1 .u64 (cacheE []))),(5,some (bufO o1.b (ptrV db) z.big ufm infoN p.1.2 (infoText z.big (us.drop p.1.1)) []))]⟩) (fun p=>us.length - p.1.1) ⟨(0,0),by rw[hi];simp⟩ (by simp only[List.drop_zero,←hi];refine sim ?_;((repeat' refine And.intro ?_ ?_)<;>rfl)) ?_
 rintro ⟨⟨i,o⟩,hil,ho⟩
 simp only at hil ho
 refine sim ?_
 by_cases hlt:i < us.length
 ·obtain ⟨u,hu⟩ :=getX us hlt
  obtain ⟨R,hR⟩ :∃R,R=infoText z.big (us.drop (i+1)):= ⟨_,rfl⟩
  rw[infoText_cons hu,←hR] at ho ⊢
  have ha:unitText z.big u++R=lenText (unitLen z.big u) u.wide z.big++((headB z.big u++u.body)++R):=by rw[unitText,List.append_assoc]
  rw[ha] at ho ⊢
  obtain ⟨x,hx⟩ :∃x,x=headB z.big u++u.body:= ⟨_,rfl⟩
  have hul:unitLen z.big u=x.length:=by rw[hx];rfl
  have hxl:2≤x.length:=by rw[hx,headB];simp[fixed_len]
  rw[←hx,hul] at ho ⊢
  simp only[List.length_append] at ho
  have w1:IntKind.i64.wrap (x.length:Int)=x.length:=wrap_i64 (by omega) (by omega)
  have w2:IntKind.i64.wrap ((i:Int)+1)=((i+1:Nat):Int):=by rw[wrap_i64 (by omega) (by omega)];simp
  have hl4:4≤(lenText x.length u.wide z.big).length:=by unfold lenText;split<;>simp[fixed_len]
  refine rn ?_
  refine callU [5] 0 (f156_ok (dw:=ptrV db) (fm:=ufm) (post:=[]) o x.length u.wide (x++R) (by omega) (by omega)) ?_;rintro ret os fs ⟨rfl,rfl,rfl⟩;refine sim ?_
  refine rnE @w1 ?_
  refine callU [5] 0 (f124_ok (dw:=ptrV db) (fm:=ufm) (post:=[]) (o+(lenText x.length u.wide z.big).length) x R (by omega)) ?_;rintro ret os fs ⟨rfl,rfl,rfl⟩;refine sim ?_
  refine rnE @w2 ?_
  refine ⟨⟨(i+1,o+(lenText x.length u.wide z.big).length+x.length),by dsimp only;rw[←hR];omega⟩, ?_⟩
  subst hR
  ((repeat' refine And.intro ?_ ?_)<;>first|rfl|(dsimp only;omega))
 ·have:i=us.length:=by omega
  subst this
  have e0:infoText z.big (us.drop us.length)=[]:=by rw[List.drop_length];rfl
  rw[e0] at ho ⊢
  refine rn ?_
  refine callU [0] 0 (f94o_ok (bg:=z.big) (nm:=infoN) db 0 (newC z) [.omap 902 z.r2,.omap 903 z.r3,nilS] z.info rfl (by simp[newC])) ?_;rintro ret os fs ⟨rfl,rfl,rfl⟩;refine sim ?_
  repeat' first|refine rn ?_|with_reducible refine fun (_:Outc)=>?_|fail
  rename_i o2
  refine hEnt (eCell0 5 (by refine sim ?_;rfl)) ?_;refine sim ?_
  refine hLoop (X:={j:Nat // j≤us.length}) (fun j=> ⟨[(0,.ref 0 db 0),(5,.ref 5 o1.b 0),(8,.buf 58 o2.h),(60,intV us.length),(61,intV j.1)],
   [(0,some (.cells db 0 (newC z))),(1,some (.mapo z.r1 .u64 (cacheE ((us.take j.1).map fun u=>(u.aoff,u.abbs.map abbOf))))),(5,some (bufO o1.b (ptrV db) z.big ufm infoN (baseOf z.big us j.1) (infoText z.big (us.drop j.1)) [])),(58,some (.arr o2.h 216 9 (rowsU z.big us j.1)))]⟩) (fun j=>us.length - j.1)
   ⟨0,Nat.zero_le _⟩ (by
    have eb:baseOf z.big us 0=0:=rfl
    have er:rowsU z.big us 0=List.replicate us.length zUn:=by simp[rowsU,unitsTo]
    simp only[List.drop_zero,List.take_zero,List.map_nil,←hi,eb,er];refine sim ?_;((repeat' refine And.intro ?_ ?_)<;>rfl)) ?_
  rintro ⟨j,hj⟩
  have hbr:=base_rest z.big us j
  rw[←hi] at hbr
  refine sim ?_
  by_cases hlt:j < us.length
  ·obtain ⟨u,hu⟩ :=getX us hlt
   obtain ⟨hv,hsz,hao1, ⟨pre,rest,hpre,hprel⟩,hok,hids⟩ :=hU u (List.mem_of_getElem? hu)
   obtain ⟨W,hW0,hW1,hg,hs,hwl⟩ :=rowsU_W (bg:=z.big) hu
   obtain ⟨R,hR⟩ :∃R,R=infoText z.big (us.drop (j+1)):= ⟨_,rfl⟩
   have hbs:=base_succ (bg:=z.big) hu
   have hct:=cache_take hu
   have hne:∀p∈(us.take j).map (fun u=>(u.aoff,u.abbs.map abbOf)),p.1≠u.aoff:=by
    intro p hp
    obtain ⟨c,hc,rfl⟩ :=List.mem_map.1 hp
    obtain ⟨k,hk⟩ :=List.getElem?_of_mem hc
    rw[List.getElem?_take] at hk
    split at hk
    ·rename_i hkj
     have hk1:=List.getElem?_eq_some_iff.1 hk
     have hu1:=List.getElem?_eq_some_iff.1 hu
     have:=List.pairwise_iff_getElem.1 hao k j hk1.1 hu1.1 hkj
     rwa [hk1.2,hu1.2] at this
    ·cases hk
   rw[infoText_cons hu,←hR] at hbr ⊢
   rw[hW0]
   have ha:unitText z.big u++R=lenText (unitLen z.big u) u.wide z.big++(headB z.big u++u.body++R):=by rw[unitText,List.append_assoc]
   rw[ha] at hbr ⊢
   have hul:unitLen z.big u=(headB z.big u).length+u.body.length:=by simp[unitLen]
   have hutl:(unitText z.big u).length=(lenText (unitLen z.big u) u.wide z.big).length+unitLen z.big u:=by rw[unitText,List.length_append];rfl
   simp only[List.length_append] at hbr
   have w4:IntKind.i64.wrap ((j:Int)+1)=((j+1:Nat):Int):=by rw[wrap_i64 (by omega) (by omega)];simp
   have wb:IntKind.i64.wrap (u.body.length:Int)=u.body.length:=wrap_i64 (by omega) (by omega)
   have wz:IntKind.i64.wrap ((UInt8.ofNat u.size).toNat:Int)=u.size:=by rw[←byI_nat,byI_toNat,wrap_i64 (by omega) (by omega)];omega
   have hz:zUn=[.val (.int .u32 0),.val (.int .u32 0),.val (.slice none 0 0),.val (.map none),.val (.pointer none),.val (.int .i64 0),.val (.int .i64 0),.val (.bool false),.val (.int .u8 0)]:=rfl
   rw[hz]
   obtain ⟨L,hL⟩ :∃L,L=unitLen z.big u:= ⟨_,rfl⟩
   rw[←hL] at hul hutl hbr ⊢
   obtain ⟨D,hD⟩ :∃D,D=baseOf z.big us j+(lenText L u.wide z.big).length:= ⟨_,rfl⟩
   have hzL:((L:Int) == 0)=false:=by
    have:2≤(headB z.big u).length:=by rw[headB];simp[fixed_len]
    rw[beq_eq_false_iff_ne];omega
   refine rnE (And.intro @hg (And.intro @hs @hwl)) ?_
   refine hLoop (X:=Bool) (fun q=> ⟨[(0,.ref 0 db 0),(5,.ref 5 o1.b 0),(8,.buf 58 o2.h),(60,intV us.length),(61,intV j),(9,intV j),(10,.aref 58 o2.h 9 j 0),(11,u32V (if q then L else 0))],
    [(0,some (.cells db 0 (newC z))),(1,some (.mapo z.r1 .u64 (cacheE ((us.take j).map fun u=>(u.aoff,u.abbs.map abbOf))))),(5,some (bufO o1.b (ptrV db) z.big ufm infoN (if q then D else baseOf z.big us j) (if q then headB z.big u++u.body++R else lenText L u.wide z.big++(headB z.big u++u.body++R)) [])),
     (58,some (.arr o2.h 216 9 (W [u32V (baseOf z.big us j),.val (.int .u32 0),.val (.slice none 0 0),.val (.map none),.val (.pointer none),.val (.int .i64 0),.val (.int .i64 0),booV (if q then u.wide else false),.val (.int .u8 0)])))]⟩) (fun q=>if q then 0 else 1)
    false (by refine sim ?_;((repeat' refine And.intro ?_ ?_)<;>rfl)) ?_
   rintro (_|_)
   ·refine sim ?_
    refine rn ?_
    refine callU [5] 0 (f156_ok (dw:=ptrV db) (fm:=ufm) (post:=[]) (baseOf z.big us j) L u.wide (headB z.big u++u.body++R) (by omega) (by omega)) ?_;rintro ret os fs ⟨rfl,rfl,rfl⟩;refine sim ?_
    refine simE (And.intro @hg (And.intro @hs @hwl)) ?_
    refine ⟨by omega,true, ?_⟩
    rw[←hD]
    ((repeat' refine And.intro ?_ ?_)<;>first|rfl|(simp;done))
   ·refine sim ?_
    have wo:IntKind.u64.wrap (u.aoff:Int)=u.aoff:=wrap_u64 (by omega) (by omega)
    have hv':u.vers=5∨u.vers=4:=by omega
    rcases hv' with hv|hv
    ·have wv:IntKind.i64.wrap ((5:Nat):Int)=5:=rfl
     cases hw:u.wide
     ·have hfx:=numOf_fixed u.aoff 4 z.big
      rw[Nat.mod_eq_of_lt (by omega)] at hfx
      have hhl:(headB z.big u).length=8:=by rw[headB,hv];simp[fixed_len,encO,hw]
      have ho:encO u.aoff false z.big=fixed u.aoff 4 z.big:=rfl
      rw[head5 hv,hw,ho]
      have hnv:=numOf_fixed 5 2 z.big
      simp only[Nat.reducePow,Nat.reduceMod] at hnv
      have ws1:IntKind.u32.wrap ((((D+2+1+1+4):Nat):Int) - (D:Int))=(((headB z.big u).length:Nat):Int):=by rw[hhl,←wrap_u32 8 (by omega)];congr 1;omega
      have ws2:IntKind.u32.wrap ((L:Int) - (((headB z.big u).length:Nat):Int))=(u.body.length:Int):=by rw[←wrap_u32 u.body.length (by omega)];congr 1;omega
      refine rnE @hzL ?_
      refine callU [5] 0 (f133_ok (dw:=ptrV db) (fm:=ufm) (post:=[]) D _ (1 :: byI u.size :: (fixed u.aoff 4 z.big++(u.body++R))) (fixed_len 5 2 z.big) (by omega)) ?_;rintro ret os fs ⟨rfl,rfl,rfl⟩;refine sim ?_
      refine rnE (And.intro @hnv (And.intro @hg (And.intro @hs (And.intro @hwl @wv)))) ?_
      all_goals try (rw[hwl];omega)
      refine callU [5] 0 (f132_ok (dw:=ptrV db) (fm:=ufm) (post:=[]) (D+2) 1 (byI u.size :: (fixed u.aoff 4 z.big++(u.body++R))) (by omega)) ?_;rintro ret os fs ⟨rfl,rfl,rfl⟩;refine sim ?_
      repeat' first|refine rnE (And.intro @hg (And.intro @hs @hwl)) ?_|with_reducible refine And.intro ?_ ?_|fail
      all_goals try (rw[hwl];omega)
      refine callU [5] 0 (f132_ok (dw:=ptrV db) (fm:=ufm) (post:=[]) (D+2+1) (byI u.size) (fixed u.aoff 4 z.big++(u.body++R)) (by omega)) ?_;rintro ret os fs ⟨rfl,rfl,rfl⟩;refine sim ?_
      repeat' first|refine rnE (And.intro @hg (And.intro @hs (And.intro @hwl @wz))) ?_|with_reducible refine And.intro ?_ ?_|fail
      all_goals try (rw[hwl];omega)
      refine callU [5] 0 (f126_ok (dw:=ptrV db) (fm:=ufm) (post:=[]) (D+2+1+1) _ (u.body++R) (fixed_len u.aoff 4 z.big) (by omega)) ?_;rintro ret os fs ⟨rfl,rfl,rfl⟩;refine sim ?_
      refine rnE (And.intro @hfx (And.intro @wo (And.intro @hg (And.intro @hs @hwl)))) ?_
      all_goals try (rw[hwl];omega)
      refine callU [0,1] 0 (f158_ok hG db z ((us.take j).map fun u=>(u.aoff,u.abbs.map abbOf)) u.aoff 5 u.abbs pre rest hpre hprel hok hids (by omega) hne hal) ?_;rintro ret os fs ⟨rfl,rfl,rfl⟩;refine sim ?_
      refine rnE (And.intro @hg (And.intro @hs (And.intro @hwl (And.intro @ws1 (And.intro @ws2 @wb))))) ?_
      all_goals try (rw[hwl];omega)
      refine callU [5] 0 (f137_ok (dw:=ptrV db) (fm:=ufm) (post:=[]) (D+2+1+1+4) u.body R (by omega)) ?_;rintro ret os fs ⟨rfl,rfl,rfl⟩;refine sim ?_
      repeat' first|refine rnE (And.intro @hg (And.intro @hs (And.intro @hwl @w4))) ?_|with_reducible refine And.intro ?_ ?_|fail
      all_goals try (rw[hwl];omega)
      refine ⟨⟨j+1,by omega⟩, ?_⟩
      subst hR
      have er:unitRow (unitRd z.big (baseOf z.big us j) u)=[.val (.int .u32 (baseOf z.big us j:Nat)),.val (.int .u32 ((D+2+1+1+4):Nat)),.dat false 1 (bytesR u.body),.mp .u32 (tabE (u.abbs.map abbOf)),.val (.pointer none),.val (.int .i64 u.size),.val (.int .i64 5),.val (.bool false),.val (.int .u8 1)]:=by
       have e1:(unitRd z.big (baseOf z.big us j) u).off=(D+2+1+1+4):=by simp only[unitRd,←hL];omega
       have e2:(unitRd z.big (baseOf z.big us j) u).wide=false:=hw
       have e3:(unitRd z.big (baseOf z.big us j) u).vers=5:=by simp only[unitRd,hv];rfl
       have e4:(unitRd z.big (baseOf z.big us j) u).ut=1:=by simp only[unitRd,hv];rfl
       rw[unitRow,e1,e2,e3,e4];rfl
      rw[er] at hW1
      dsimp only
      rw[hct,hW1,hbs,hutl]
      have eo:(D+2+1+1+4)+u.body.length=baseOf z.big us j+((lenText L u.wide z.big).length+L):=by omega
      rw[hw] at eo
      rw[hw,←eo]
      ((repeat' refine And.intro ?_ ?_)<;>first|rfl|omega)
     ·have hfx:=numOf_fixed u.aoff 8 z.big
      rw[Nat.mod_eq_of_lt (by omega)] at hfx
      have hhl:(headB z.big u).length=12:=by rw[headB,hv];simp[fixed_len,encO,hw]
      have ho:encO u.aoff true z.big=fixed u.aoff 8 z.big:=rfl
      rw[head5 hv,hw,ho]
      have hnv:=numOf_fixed 5 2 z.big
      simp only[Nat.reducePow,Nat.reduceMod] at hnv
      have ws1:IntKind.u32.wrap ((((D+2+1+1+8):Nat):Int) - (D:Int))=(((headB z.big u).length:Nat):Int):=by rw[hhl,←wrap_u32 12 (by omega)];congr 1;omega
      have ws2:IntKind.u32.wrap ((L:Int) - (((headB z.big u).length:Nat):Int))=(u.body.length:Int):=by rw[←wrap_u32 u.body.length (by omega)];congr 1;omega
      refine rnE @hzL ?_
      refine callU [5] 0 (f133_ok (dw:=ptrV db) (fm:=ufm) (post:=[]) D _ (1 :: byI u.size :: (fixed u.aoff 8 z.big++(u.body++R))) (fixed_len 5 2 z.big) (by omega)) ?_;rintro ret os fs ⟨rfl,rfl,rfl⟩;refine sim ?_
      refine rnE (And.intro @hnv (And.intro @hg (And.intro @hs (And.intro @hwl @wv)))) ?_
      all_goals try (rw[hwl];omega)
      refine callU [5] 0 (f132_ok (dw:=ptrV db) (fm:=ufm) (post:=[]) (D+2) 1 (byI u.size :: (fixed u.aoff 8 z.big++(u.body++R))) (by omega)) ?_;rintro ret os fs ⟨rfl,rfl,rfl⟩;refine sim ?_
      repeat' first|refine rnE (And.intro @hg (And.intro @hs @hwl)) ?_|with_reducible refine And.intro ?_ ?_|fail
      all_goals try (rw[hwl];omega)
      refine callU [5] 0 (f132_ok (dw:=ptrV db) (fm:=ufm) (post:=[]) (D+2+1) (byI u.size) (fixed u.aoff 8 z.big++(u.body++R)) (by omega)) ?_;rintro ret os fs ⟨rfl,rfl,rfl⟩;refine sim ?_
      repeat' first|refine rnE (And.intro @hg (And.intro @hs (And.intro @hwl @wz))) ?_|with_reducible refine And.intro ?_ ?_|fail
      all_goals try (rw[hwl];omega)
      refine callU [5] 0 (f125_ok (dw:=ptrV db) (fm:=ufm) (post:=[]) (D+2+1+1) _ (u.body++R) (fixed_len u.aoff 8 z.big) (by omega)) ?_;rintro ret os fs ⟨rfl,rfl,rfl⟩;refine sim ?_
      refine rnE (And.intro @hfx (And.intro @wo (And.intro @hg (And.intro @hs @hwl)))) ?_
      all_goals try (rw[hwl];omega)
      refine callU [0,1] 0 (f158_ok hG db z ((us.take j).map fun u=>(u.aoff,u.abbs.map abbOf)) u.aoff 5 u.abbs pre rest hpre hprel hok hids (by omega) hne hal) ?_;rintro ret os fs ⟨rfl,rfl,rfl⟩;refine sim ?_
      refine rnE (And.intro @hg (And.intro @hs (And.intro @hwl (And.intro @ws1 (And.intro @ws2 @wb))))) ?_
      all_goals try (rw[hwl];omega)
      refine callU [5] 0 (f137_ok (dw:=ptrV db) (fm:=ufm) (post:=[]) (D+2+1+1+8) u.body R (by omega)) ?_;rintro ret os fs ⟨rfl,rfl,rfl⟩;refine sim ?_
      repeat' first|refine rnE (And.intro @hg (And.intro @hs (And.intro @hwl @w4))) ?_|with_reducible refine And.intro ?_ ?_|fail
      all_goals try (rw[hwl];omega)
      refine ⟨⟨j+1,by omega⟩, ?_⟩
      subst hR
      have er:unitRow (unitRd z.big (baseOf z.big us j) u)=[.val (.int .u32 (baseOf z.big us j:Nat)),.val (.int .u32 ((D+2+1+1+8):Nat)),.dat false 1 (bytesR u.body),.mp .u32 (tabE (u.abbs.map abbOf)),.val (.pointer none),.val (.int .i64 u.size),.val (.int .i64 5),.val (.bool true),.val (.int .u8 1)]:=by
       have e1:(unitRd z.big (baseOf z.big us j) u).off=(D+2+1+1+8):=by simp only[unitRd,←hL];omega
       have e2:(unitRd z.big (baseOf z.big us j) u).wide=true:=hw
       have e3:(unitRd z.big (baseOf z.big us j) u).vers=5:=by simp only[unitRd,hv];rfl
       have e4:(unitRd z.big (baseOf z.big us j) u).ut=1:=by simp only[unitRd,hv];rfl
       rw[unitRow,e1,e2,e3,e4];rfl
      rw[er] at hW1
      dsimp only
      rw[hct,hW1,hbs,hutl]
      have eo:(D+2+1+1+8)+u.body.length=baseOf z.big us j+((lenText L u.wide z.big).length+L):=by omega
      rw[hw] at eo
      rw[hw,←eo]
      ((repeat' refine And.intro ?_ ?_)<;>first|rfl|omega)
    ·have wv:IntKind.i64.wrap ((4:Nat):Int)=4:=rfl
     cases hw:u.wide
     ·have hfx:=numOf_fixed u.aoff 4 z.big
      rw[Nat.mod_eq_of_lt (by omega)] at hfx
      have hhl:(headB z.big u).length=7:=by rw[headB,hv];simp[fixed_len,encO,hw]
      have ho:encO u.aoff false z.big=fixed u.aoff 4 z.big:=rfl
      rw[head4 hv,hw,ho]
      have hnv:=numOf_fixed 4 2 z.big
      simp only[Nat.reducePow,Nat.reduceMod] at hnv
      have ws1:IntKind.u32.wrap ((((D+2+4+1):Nat):Int) - (D:Int))=(((headB z.big u).length:Nat):Int):=by rw[hhl,←wrap_u32 7 (by omega)];congr 1;omega
      have ws2:IntKind.u32.wrap ((L:Int) - (((headB z.big u).length:Nat):Int))=(u.body.length:Int):=by rw[←wrap_u32 u.body.length (by omega)];congr 1;omega
      refine rnE @hzL ?_
      refine callU [5] 0 (f133_ok (dw:=ptrV db) (fm:=ufm) (post:=[]) D _ (fixed u.aoff 4 z.big++(byI u.size :: (u.body++R))) (fixed_len 4 2 z.big) (by omega)) ?_;rintro ret os fs ⟨rfl,rfl,rfl⟩;refine sim ?_
      refine rnE (And.intro @hnv (And.intro @hg (And.intro @hs (And.intro @hwl @wv)))) ?_
      all_goals try (rw[hwl];omega)
      refine callU [5] 0 (f126_ok (dw:=ptrV db) (fm:=ufm) (post:=[]) (D+2) _ (byI u.size :: (u.body++R)) (fixed_len u.aoff 4 z.big) (by omega)) ?_;rintro ret os fs ⟨rfl,rfl,rfl⟩;refine sim ?_
      refine rnE (And.intro @hfx (And.intro @wo (And.intro @hg (And.intro @hs @hwl)))) ?_
      all_goals try (rw[hwl];omega)
      refine callU [0,1] 0 (f158_ok hG db z ((us.take j).map fun u=>(u.aoff,u.abbs.map abbOf)) u.aoff 4 u.abbs pre rest hpre hprel hok hids (by omega) hne hal) ?_;rintro ret os fs ⟨rfl,rfl,rfl⟩;refine sim ?_
      refine rnE (And.intro @hg (And.intro @hs @hwl)) ?_
      all_goals try (rw[hwl];omega)
      refine callU [5] 0 (f132_ok (dw:=ptrV db) (fm:=ufm) (post:=[]) (D+2+4) (byI u.size) (u.body++R) (by omega)) ?_;rintro ret os fs ⟨rfl,rfl,rfl⟩;refine sim ?_
      repeat' first|refine rnE (And.intro @hg (And.intro @hs (And.intro @hwl (And.intro @wz (And.intro @ws1 (And.intro @ws2 @wb)))))) ?_|with_reducible refine And.intro ?_ ?_|fail
      all_goals try (rw[hwl];omega)
      refine callU [5] 0 (f137_ok (dw:=ptrV db) (fm:=ufm) (post:=[]) (D+2+4+1) u.body R (by omega)) ?_;rintro ret os fs ⟨rfl,rfl,rfl⟩;refine sim ?_
      repeat' first|refine rnE (And.intro @hg (And.intro @hs (And.intro @hwl @w4))) ?_|with_reducible refine And.intro ?_ ?_|fail
      all_goals try (rw[hwl];omega)
      refine ⟨⟨j+1,by omega⟩, ?_⟩
      subst hR
      have er:unitRow (unitRd z.big (baseOf z.big us j) u)=[.val (.int .u32 (baseOf z.big us j:Nat)),.val (.int .u32 ((D+2+4+1):Nat)),.dat false 1 (bytesR u.body),.mp .u32 (tabE (u.abbs.map abbOf)),.val (.pointer none),.val (.int .i64 u.size),.val (.int .i64 4),.val (.bool false),.val (.int .u8 0)]:=by
       have e1:(unitRd z.big (baseOf z.big us j) u).off=(D+2+4+1):=by simp only[unitRd,←hL];omega
       have e2:(unitRd z.big (baseOf z.big us j) u).wide=false:=hw
       have e3:(unitRd z.big (baseOf z.big us j) u).vers=4:=by simp only[unitRd,hv];rfl
       have e4:(unitRd z.big (baseOf z.big us j) u).ut=0:=by simp only[unitRd,hv];rfl
       rw[unitRow,e1,e2,e3,e4];rfl
      rw[er] at hW1
      dsimp only
      rw[hct,hW1,hbs,hutl]
      have eo:(D+2+4+1)+u.body.length=baseOf z.big us j+((lenText L u.wide z.big).length+L):=by omega
      rw[hw] at eo
      rw[hw,←eo]
      ((repeat' refine And.intro ?_ ?_)<;>first|rfl|omega)
     ·have hfx:=numOf_fixed u.aoff 8 z.big
      rw[Nat.mod_eq_of_lt (by omega)] at hfx
      have hhl:(headB z.big u).length=11:=by rw[headB,hv];simp[fixed_len,encO,hw]
      have ho:encO u.aoff true z.big=fixed u.aoff 8 z.big:=rfl
      rw[head4 hv,hw,ho]
      have hnv:=numOf_fixed 4 2 z.big
      simp only[Nat.reducePow,Nat.reduceMod] at hnv
      have ws1:IntKind.u32.wrap ((((D+2+8+1):Nat):Int) - (D:Int))=(((headB z.big u).length:Nat):Int):=by rw[hhl,←wrap_u32 11 (by omega)];congr 1;omega
      have ws2:IntKind.u32.wrap ((L:Int) - (((headB z.big u).length:Nat):Int))=(u.body.length:Int):=by rw[←wrap_u32 u.body.length (by omega)];congr 1;omega
      refine rnE @hzL ?_
      refine callU [5] 0 (f133_ok (dw:=ptrV db) (fm:=ufm) (post:=[]) D _ (fixed u.aoff 8 z.big++(byI u.size :: (u.body++R))) (fixed_len 4 2 z.big) (by omega)) ?_;rintro ret os fs ⟨rfl,rfl,rfl⟩;refine sim ?_
      refine rnE (And.intro @hnv (And.intro @hg (And.intro @hs (And.intro @hwl @wv)))) ?_
      all_goals try (rw[hwl];omega)
      refine callU [5] 0 (f125_ok (dw:=ptrV db) (fm:=ufm) (post:=[]) (D+2) _ (byI u.size :: (u.body++R)) (fixed_len u.aoff 8 z.big) (by omega)) ?_;rintro ret os fs ⟨rfl,rfl,rfl⟩;refine sim ?_
      refine rnE (And.intro @hfx (And.intro @wo (And.intro @hg (And.intro @hs @hwl)))) ?_
      all_goals try (rw[hwl];omega)
      refine callU [0,1] 0 (f158_ok hG db z ((us.take j).map fun u=>(u.aoff,u.abbs.map abbOf)) u.aoff 4 u.abbs pre rest hpre hprel hok hids (by omega) hne hal) ?_;rintro ret os fs ⟨rfl,rfl,rfl⟩;refine sim ?_
      refine rnE (And.intro @hg (And.intro @hs @hwl)) ?_
      all_goals try (rw[hwl];omega)
      refine callU [5] 0 (f132_ok (dw:=ptrV db) (fm:=ufm) (post:=[]) (D+2+8) (byI u.size) (u.body++R) (by omega)) ?_;rintro ret os fs ⟨rfl,rfl,rfl⟩;refine sim ?_
      repeat' first|refine rnE (And.intro @hg (And.intro @hs (And.intro @hwl (And.intro @wz (And.intro @ws1 (And.intro @ws2 @wb)))))) ?_|with_reducible refine And.intro ?_ ?_|fail
      all_goals try (rw[hwl];omega)
      refine callU [5] 0 (f137_ok (dw:=ptrV db) (fm:=ufm) (post:=[]) (D+2+8+1) u.body R (by omega)) ?_;rintro ret os fs ⟨rfl,rfl,rfl⟩;refine sim ?_
      repeat' first|refine rnE (And.intro @hg (And.intro @hs (And.intro @hwl @w4))) ?_|with_reducible refine And.intro ?_ ?_|fail
      all_goals try (rw[hwl];omega)
      refine ⟨⟨j+1,by omega⟩, ?_⟩
      subst hR
      have er:unitRow (unitRd z.big (baseOf z.big us j) u)=[.val (.int .u32 (baseOf z.big us j:Nat)),.val (.int .u32 ((D+2+8+1):Nat)),.dat false 1 (bytesR u.body),.mp .u32 (tabE (u.abbs.map abbOf)),.val (.pointer none),.val (.int .i64 u.size),.val (.int .i64 4),.val (.bool true),.val (.int .u8 0)]:=by
       have e1:(unitRd z.big (baseOf z.big us j) u).off=(D+2+8+1):=by simp only[unitRd,←hL];omega
       have e2:(unitRd z.big (baseOf z.big us j) u).wide=true:=hw
       have e3:(unitRd z.big (baseOf z.big us j) u).vers=4:=by simp only[unitRd,hv];rfl
       have e4:(unitRd z.big (baseOf z.big us j) u).ut=0:=by simp only[unitRd,hv];rfl
       rw[unitRow,e1,e2,e3,e4];rfl
      rw[er] at hW1
      dsimp only
      rw[hct,hW1,hbs,hutl]
      have eo:(D+2+8+1)+u.body.length=baseOf z.big us j+((lenText L u.wide z.big).length+L):=by omega
      rw[hw] at eo
      rw[hw,←eo]
      ((repeat' refine And.intro ?_ ?_)<;>first|rfl|omega)
  ·have:j=us.length:=by omega
   subst this
   have er:rowsU z.big us us.length=(unitsTo z.big us us.length).map unitRow:=by simp[rowsU]
   rw[er,List.take_of_length_le (Nat.le_refl _)]
   refine rn ?_
   refine doneA [(58,2)] ?_;try exact trivial
   exact ⟨_,rfl,rfl⟩
end
end Go.Proofs.YtbkfdnkeelmloaaGreatDoor
