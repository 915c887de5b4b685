/- Part 40 of the proof: C2. -/
import Derived.LaidMore
import Derived.WideKeyArgs
import Derived.WideKeyArgs2
import Derived.Test.YtbkfdnkeelmloaaGreatDoorZ14
import Derived.Test.YtbkfdnkeelmloaaGreatDoorY39
set_option linter.unusedVariables false
set_option linter.unusedSimpArgs false
namespace Go.Proofs.YtbkfdnkeelmloaaGreatDoor
set_option maxRecDepth 10000
open Go.AM Go Go.WideElems
section
variable {W:World}
theorem laid_get {P:Program} {w:World}:∀{l:List (String×DataW Unit)} {ps:List MemPlace},DataW.LaidVars P w l ps→∀n d,(n,d)∈l→
  ∃g t cs fuel p,P.globalNamed n=some g∧(P.globals[g]?).map (·.type)=some t∧w.var? P n=some cs∧DataW.trod (fun _=>()) P w 0 (fun _=>true) false fuel t cs.toList=some (d,p)∧∀x∈MemPlace.row ⟨g,0,none⟩ cs.size,x∈ps
 | [],_,_,_,_,hm=>by cases hm
 |(n',d') :: r,ps,h,n,d,hm=>by
  obtain ⟨g,t,cs,fuel,p,q,h1,h2,h3,h4,h5,rfl⟩ :=h
  rcases List.mem_cons.1 hm with e|e
  ·cases e
   exact ⟨g,t,cs,fuel,p,h1,h2,h3,h4,fun x hx=>by simp[hx]⟩
  ·obtain ⟨g,t,cs,fuel,p,h1,h2,h3,h4,h6⟩ :=laid_get h5 n d e
   exact ⟨g,t,cs,fuel,p,h1,h2,h3,h4,fun x hx=>by simp[h6 x hx]⟩
theorem mem_ins {H:Type} {x y:Lit×DataW H}:∀{l:List (Lit×DataW H)},y∈DataW.insert x l↔y=x∨y∈l
 | []=>by simp[DataW.insert]
 |a :: l=>by
  unfold DataW.insert
  split
  ·simp
  ·simp only[List.mem_cons,mem_ins (l:=l)]
   constructor
   ·rintro (h|h|h)<;>simp[h]
   ·rintro (h|h|h)<;>simp[h]
theorem mem_sorted {H:Type} {y:Lit×DataW H}:∀{l:List (Lit×DataW H)},y∈l.foldr DataW.insert []↔y∈l
 | []=>by simp
 |a :: l=>by simp only[List.foldr_cons,mem_ins,mem_sorted (l:=l),List.mem_cons]
def keyN:Value→Int
 | .int _ n=>n
 |_=>0
theorem keyOf_inv {P:Program} {k:TypeId} {q:IntKind} (hk:P.underlying k=some (.int q)) {v:Value} {l:Lit} (h:keyOf P k v=some l):v= .int q (keyN v)∧l= .int q (keyN v):=by
 rw[keyOf_int hk] at h
 unfold mapKey at h
 rw[hk] at h
 split at h<;>simp_all [keyN]
theorem relE_of {M:Mem} {kk:IntKind}:∀(l:List MapEntry),(∀e∈l,e.key= .int kk (keyN e.key))→relE M kk (l.map fun e=>(keyN e.key,AV.val e.val)) l
 | [],_=>rfl
 |e :: l,h=> ⟨e,l,rfl,h e (by simp),rfl,relE_of l fun x hx=>h x (by simp[hx])⟩
theorem findE_mem:∀{l:List MapEntry} {i:Int} {a:AV},findE (l.map fun e=>(keyN e.key,AV.val e.val)) i=some a→∃e∈l,keyN e.key=i∧a= .val e.val
 | [],_,_,h=>by cases h
 |e :: l,i,a,h=>by
  simp only[List.map_cons,findE] at h
  split at h
  ·rename_i hk
   cases h
   exact ⟨e,by simp,hk,rfl⟩
  ·obtain ⟨x,h1,h2⟩ :=findE_mem h
   exact ⟨x,by simp[h1],h2⟩
theorem findE_some:∀{l:List MapEntry} {e:MapEntry},e∈l→∃a,findE (l.map fun e=>(keyN e.key,AV.val e.val)) (keyN e.key)=some a
 |x :: l,e,h=>by
  simp only[List.map_cons,findE]
  by_cases hk:keyN x.key=keyN e.key
  ·exact ⟨_,if_pos hk⟩
  ·rw[if_neg hk]
   rcases List.mem_cons.1 h with rfl|h
   ·exact absurd rfl hk
   ·exact findE_some h
theorem map_laid {n:String} {g:Nat} {t k e:TypeId} {kk:IntKind} {cs:Array Value} {fuel:Nat} {p:List MemPlace} {L:List (Lit×DataW Unit)} (hg:Tryz.prog.globalNamed n=some g) (hu:Tryz.prog.underlying t=some (.map k e)) (hk:Tryz.prog.underlying k=some (.int kk)) (hne:L≠[])
  (hv:W.var? Tryz.prog n=some cs) (h:DataW.trod (fun _=>()) Tryz.prog W 0 (fun _=>true) false fuel t cs.toList=some (.map L,p)):
  ∃es:List (Int×AV),(AV.pt [.mp kk es]).rel (memOf W) (.pointer (some ⟨g,0,none⟩))∧
   ∀(C:DataW Unit→Value→Prop),(∀n v z,elemAt (fun _=>()) Tryz.prog W 0 (fun _=>true) false n e v=some z→C z.1 v)→
    (∀i a,findE es i=some a→∃d v,a= .val v∧(.int kk i,d)∈L∧C d v)∧∀i d,(.int kk i,d)∈L→∃a,findE es i=some a:=by
 rcases open_map hu h with ⟨_,e1⟩ | ⟨b,ents,clock,m,rfl,hcs,hb,_,hF,e1⟩
 ·cases e1
 obtain ⟨e1,_⟩ :=Prod.mk.inj e1
 have eL:=DataW.map.inj e1
 have hall:∀x∈ents.toList,x.key= .int kk (keyN x.key)∧∃z,elemAt (fun _=>()) Tryz.prog W 0 (fun _=>true) false m e x.val=some z∧(.int kk (keyN x.key),z.1)∈L:=fun x hx=>by
  obtain ⟨y,hy⟩ :=hF.reads x hx
  obtain ⟨h1,h2⟩ :=keyOf_inv hk (rd_key hy)
  obtain ⟨z,h3,h4⟩ :=rd_val hy
  refine ⟨h1,z,h3, ?_⟩
  rw[eL,mem_sorted,List.mem_map]
  refine ⟨x,hx, ?_⟩
  rw[rg_of hy]
  obtain ⟨y1,y2⟩ :=y
  simp only at h2 h4
  rw[h2,h4]
 refine ⟨ents.toList.map fun e=>(keyN e.key,AV.val e.val), ⟨g,0,rfl, ⟨⟨_, ?_,rfl,b,ents,clock,rfl,hb,relE_of _ fun x hx=>(hall x hx).1⟩,trivial⟩⟩,fun C hC=> ⟨fun i a ha=>?_,fun i d hd=>?_⟩⟩
 ·have h0:=World.var?_cell hg hv 0
  have:cs[0]? =some (.map (some b)):=by
   rw[←Array.getElem?_toList,hcs];rfl
  rw[this] at h0
  exact (memOf_cell h0).1
 ·obtain ⟨x,hx,rfl,rfl⟩ :=findE_mem ha
  obtain ⟨_,z,h1,h2⟩ :=hall x hx
  exact ⟨_,_,rfl,h2,hC _ _ _ h1⟩
 ·rw[eL,mem_sorted,List.mem_map] at hd
  obtain ⟨x,hx,hr⟩ :=hd
  obtain ⟨y,hy⟩ :=hF.reads x hx
  rw[rg_of hy] at hr
  obtain ⟨_,h2⟩ :=keyOf_inv hk (rd_key hy)
  rw[hr] at h2
  have:i=keyN x.key:=by
   have:=h2
   simpa using this
  rw[this]
  exact findE_some hx
theorem iface_laid {t:TypeId} {ms:Array (String×TypeId)} {cs:List Value} {fuel:Nat} {name:String} {d:DataW Unit} {p:List MemPlace} (ht:Tryz.prog.underlying t=some (.interface ms)) (h:DataW.trod (fun _=>()) Tryz.prog W 0 (fun _=>true) false fuel t cs=some (.iface name d,p)):
  ∃u v n q,cs=[.iface u v]∧Tryz.prog.typeName? 3 u=some name∧DataW.trod (fun _=>()) Tryz.prog W 0 (fun _=>true) false n u v.cells.toList=some (d,q):=by
 cases fuel with
 |zero=>simp[DataW.trod] at h
 |succ n=>
  unfold DataW.trod at h
  rw[ht] at h
  split at h<;>simp_all
  rename_i u v hx
  cases hn:Tryz.prog.typeName? 3 u with
  |none=>rw[hn] at h;simp at h
  |some s=>
   rw[hn] at h
   simp only[Option.map_eq_some_iff] at h
   obtain ⟨x,h1,h2⟩ :=h
   obtain ⟨h3,h4⟩ :=Prod.mk.inj h2
   obtain ⟨rfl,rfl⟩ :=DataW.iface.inj h3
   exact ⟨u,v, ⟨rfl,rfl⟩,hn,n,x.2,h1⟩
def wordD:TypeDesc→Bool
 | .pointer _| .slice _| .map _ _| .chan _ _| .func _ _ _| .array _ _| .struct _=>true
 |_=>false
theorem rs_desc {info:TypeId→Option TypeInfo} {fs:Array Field} {i:TypeInfo} (h:Made.reckonStruct info fs=some i):∃out,i.desc= .struct out:=by
 unfold Made.reckonStruct at h
 simp only[bind,pure] at h
 obtain ⟨a,_,h⟩ :=Option.bind_eq_some_iff.1 h
 split at h<;>(cases h;exact ⟨_,rfl⟩)
theorem rk_desc {info:TypeId→Option TypeInfo} {d:TypeDesc} {i:TypeInfo} (h:Made.reckon info d=some i):wordD i.desc=true∧∀e,i.desc= .pointer e→∃j,info e=some j∧∀n t,j.desc≠.named n t:=by
 have fin:∀{d':TypeDesc},i.desc=d'→wordD d'=true→(∀e,d'≠.pointer e)→wordD i.desc=true∧∀e,i.desc= .pointer e→∃j,info e=some j∧∀n t,j.desc≠.named n t:=fun e1 e2 e3=> ⟨by rw[e1];exact e2,fun e he=>absurd (e1.symm.trans he) (e3 e)⟩
 unfold Made.reckon at h
 split at h
 ·rename_i e
  simp only[bind,pure] at h
  obtain ⟨j,hj,h2⟩ :=Option.bind_eq_some_iff.1 h
  clear h
  have hn:∀n t,j.desc≠.named n t:=fun n t hd=>by rw[hd] at h2;cases h2
  have:∃s,i=Made.word (.pointer e) s (.pointer none) true:=by
   split at h2
   ·cases h2
   ·split at h2
    ·cases h2
    ·obtain ⟨s,_,h3⟩ :=Option.bind_eq_some_iff.1 h2
     exact ⟨_,(Option.some.inj h3).symm⟩
   ·obtain ⟨s,_,h3⟩ :=Option.bind_eq_some_iff.1 h2
    exact ⟨_,(Option.some.inj h3).symm⟩
  obtain ⟨s,rfl⟩ :=this
  exact ⟨rfl,fun e' he=>by cases he;exact ⟨j,hj,hn⟩⟩
 ·simp only[bind,pure] at h
  obtain ⟨_,_,h⟩ :=Option.bind_eq_some_iff.1 h
  obtain ⟨_,_,h⟩ :=Option.bind_eq_some_iff.1 h
  cases h
  exact fin rfl rfl fun e he=>by cases he
 ·simp only[bind,pure] at h
  obtain ⟨_,_,h⟩ :=Option.bind_eq_some_iff.1 h
  obtain ⟨_,_,h⟩ :=Option.bind_eq_some_iff.1 h
  obtain ⟨_,_,h⟩ :=Option.bind_eq_some_iff.1 h
  obtain ⟨_,_,h⟩ :=Option.bind_eq_some_iff.1 h
  cases h
  exact fin rfl rfl fun e he=>by cases he
 ·simp only[bind,pure] at h
  obtain ⟨_,_,h⟩ :=Option.bind_eq_some_iff.1 h
  obtain ⟨_,_,h⟩ :=Option.bind_eq_some_iff.1 h
  cases h
  exact fin rfl rfl fun e he=>by cases he
 ·simp only[bind,pure] at h
  obtain ⟨_,_,h⟩ :=Option.bind_eq_some_iff.1 h
  cases h
  exact fin rfl rfl fun e he=>by cases he
 ·simp only[bind,pure] at h
  obtain ⟨_,_,h⟩ :=Option.bind_eq_some_iff.1 h
  obtain ⟨_,_,h⟩ :=Option.bind_eq_some_iff.1 h
  cases h
  exact fin rfl rfl fun e he=>by cases he
 ·obtain ⟨out,ho⟩ :=rs_desc h
  exact fin ho rfl fun e he=>by cases he
 ·cases h
theorem tnErr2:((List.range 412).all fun e=>!(Tryz.prog.typeName? 2 e == some "errors.errorString") || (match Tryz.prog.types[e]? with|some i=>(match i.desc with| .named _ _=>true|_=>false)|none=>false))=true:=by kernel_rfl
theorem tnErr3:((List.range 412).all fun u=>!(Tryz.prog.typeName? 3 u == some "*errors.errorString") || u == 263)=true:=by kernel_rfl
theorem nTypes:Tryz.prog.types.size=412:=by kernel_rfl
theorem info_ge {t:TypeId} (h:¬t < 412) {i:TypeInfo} (hi:Tryz.prog.info? t=some i):wordD i.desc=true∧∀e,i.desc= .pointer e→∃j,Made.infoAt Tryz.prog.toTables 99 e=some j∧∀n t,j.desc≠.named n t:=by
 unfold Tables.info? at hi
 rw[if_neg (by rw[nTypes];exact h)] at hi
 rw[show Made.depth=99+1 from rfl,Made.infoAt,if_neg (by rw[nTypes];exact h)] at hi
 obtain ⟨d,_,hd⟩ :=Option.bind_eq_some_iff.1 hi
 exact rk_desc hd
theorem star_ne {s:String}: "*" ++s≠ "errors.errorString" :=fun h=>by
 have:=congrArg String.toList h
 simp at this
theorem tn_eq {u:TypeId} (h:Tryz.prog.typeName? 3 u=some "*errors.errorString"):u=263:=by
 by_cases hu:u < 412
 ·have:=List.all_eq_true.1 tnErr3 u (List.mem_range.2 hu)
  rw[h] at this
  simpa using this
 exfalso
 unfold Program.typeName? at h
 cases hi:Tryz.prog.info? u with
 |none=>rw[hi] at h;cases h
 |some i=>
  obtain ⟨h1,h2⟩ :=info_ge hu hi
  rw[hi] at h
  simp only at h
  cases hd:i.desc<;>rw[hd] at h h1<;>first|(cases h1;done)|(cases h;done)|skip
  rename_i e
  obtain ⟨j,hj,hn⟩ :=h2 e hd
  simp only[Option.map_eq_some_iff] at h
  obtain ⟨s,h3,h4⟩ :=h
  have hs:s= "errors.errorString" :=by
   have h5: "*" ++s= "*" ++ "errors.errorString" :=h4
   have:=congrArg String.toList h5
   simp only[String.toList_append] at this
   exact String.toList_inj.1 (List.append_cancel_left this)
  subst hs
  by_cases he:e < 412
  ·have:=List.all_eq_true.1 tnErr2 e (List.mem_range.2 he)
   rw[h3] at this
   rw[show (99:Nat)=98+1 from rfl,Made.infoAt,if_pos (by rw[nTypes];exact he)] at hj
   rw[hj] at this
   cases hk:j.desc<;>first|exact hn _ _ hk|simp[hk] at this
  ·unfold Program.typeName? at h3
   cases hj':Tryz.prog.info? e with
   |none=>rw[hj'] at h3;cases h3
   |some k=>
    obtain ⟨k1,_⟩ :=info_ge he hj'
    rw[hj'] at h3
    simp only at h3
    cases hd':k.desc<;>rw[hd'] at h3 k1<;>first|(cases k1;done)|(cases h3;done)|skip
    simp only[Option.map_eq_some_iff] at h3
    obtain ⟨s,_,h4⟩ :=h3
    exact star_ne h4
theorem all_map {es:List (Int×AV)} {L:List (Int×Int)} {kk q:IntKind} (h1:∀i a,findE es i=some a→∃d v,a= .val v∧(Lit.int kk i,d)∈(L.map fun p=>(Lit.int kk p.1,DataW.lit (.int q p.2)):List (Lit×DataW Unit))∧∃n,d= .lit (.int q n)∧v= .int q n)
  (h2:∀i d,(Lit.int kk i,d)∈(L.map fun p=>(Lit.int kk p.1,DataW.lit (.int q p.2)):List (Lit×DataW Unit))→∃a,findE es i=some a) (hn:∀i a b,(i,a)∈L→(i,b)∈L→a=b):
  (∀i n,(i,n)∈L→findE es i=some (.val (.int q n)))∧∀i,(∀n,(i,n)∉L)→findE es i=none:=by
 have key:∀i a,findE es i=some a→∃n,(i,n)∈L∧a= .val (.int q n):=fun i a ha=>by
  obtain ⟨d,v,rfl,hm,n,rfl,rfl⟩ :=h1 i a ha
  obtain ⟨x,hx,e⟩ :=List.mem_map.1 hm
  simp only[Prod.mk.injEq,Lit.int.injEq,true_and,DataW.lit.injEq] at e
  obtain ⟨rfl,rfl⟩ :=e
  exact ⟨_,hx,rfl⟩
 refine ⟨fun i n hm=>?_,fun i hi=>?_⟩
 ·obtain ⟨a,ha⟩ :=h2 i _ (List.mem_map.2 ⟨_,hm,rfl⟩)
  obtain ⟨m,hm',rfl⟩ :=key i a ha
  rw[ha,hn i m n hm' hm]
 ·cases hf:findE es i with
  |none=>rfl
  |some a=>
   obtain ⟨n,hm,_⟩ :=key i a hf
   exact absurd hm (hi n)
def exprL:List Int:=[2,11,12,13,25,34,42,46,47,55,56,64,70,72,74,77,78,79,80,81]
def ptrL:List (Int×Int):=[(2,7),(16,6),(25,7),(42,7),(44,9),(56,7),(64,7),(67,8),(70,7),(72,7),(74,7),(77,7),(85,9),(114,19),(115,15),(116,18),(140,7)]
def knownL:List (Int×Int):=[(1,0),(2,1),(3,1),(4,1),(6,0),(7,0),(8,0),(10,0),(11,0),(12,1)]
theorem gok_laid (laid:List (String×DataW Unit)) (h1:("io.EOF",Rows.laid_io_EOF)∈laid) (h2:("loop.example/pub-g03041/pub/dwarf.attrIsExprloc",Rows.laid_loop_example_pub_g03041_pub_dwarf_attrIsExprloc)∈laid)
  (h3:("loop.example/pub-g03041/pub/dwarf.attrPtrClass",Rows.laid_loop_example_pub_g03041_pub_dwarf_attrPtrClass)∈laid) (h4:("loop.example/pub-g03041/pub/dwarf.knownOpcodeLengths",Rows.laid_loop_example_pub_g03041_pub_dwarf_knownOpcodeLengths)∈laid) (hL:laidMet Tryz.prog laid W):
  ∃(G:Nat→AV) (g:GData),GOK G g∧g.eofT=263∧∀i,(G i).rel (memOf W) (.pointer (some ⟨i,0,none⟩)):=by
 obtain ⟨ps,hv,_,hok⟩ :=hL
 obtain ⟨g0,t0,c0,f0,p0,a1,a2,a3,a4,a5⟩ :=laid_get hv _ _ h1
 obtain ⟨g2,t2,c2,f2,p2,b1,b2,b3,b4,_⟩ :=laid_get hv _ _ h2
 obtain ⟨g3,t3,c3,f3,p3,d1,d2,d3,d4,_⟩ :=laid_get hv _ _ h3
 obtain ⟨g4,t4,c4,f4,p4,e1,e2,e3,e4,_⟩ :=laid_get hv _ _ h4
 obtain rfl:=Option.some.inj ((show Tryz.prog.globalNamed "io.EOF" =some 0 by kernel_rfl).symm.trans a1)
 obtain rfl:=Option.some.inj ((show Tryz.prog.globalNamed "loop.example/pub-g03041/pub/dwarf.attrIsExprloc" =some 2 by kernel_rfl).symm.trans b1)
 obtain rfl:=Option.some.inj ((show Tryz.prog.globalNamed "loop.example/pub-g03041/pub/dwarf.attrPtrClass" =some 3 by kernel_rfl).symm.trans d1)
 obtain rfl:=Option.some.inj ((show Tryz.prog.globalNamed "loop.example/pub-g03041/pub/dwarf.knownOpcodeLengths" =some 4 by kernel_rfl).symm.trans e1)
 obtain rfl:=Option.some.inj ((show (Tryz.prog.globals[0]?).map (·.type)=some 133 by kernel_rfl).symm.trans a2)
 obtain rfl:=Option.some.inj ((show (Tryz.prog.globals[2]?).map (·.type)=some 329 by kernel_rfl).symm.trans b2)
 obtain rfl:=Option.some.inj ((show (Tryz.prog.globals[3]?).map (·.type)=some 331 by kernel_rfl).symm.trans d2)
 obtain rfl:=Option.some.inj ((show (Tryz.prog.globals[4]?).map (·.type)=some 334 by kernel_rfl).symm.trans e2)
 obtain ⟨ad,hE⟩ :∃ad,W.cell? ⟨0,0,none⟩ =some (.iface 263 (.pointer (some ad))):=by
  obtain ⟨u,v,n,q,hcs,hn,hd⟩ :=iface_laid Tryz.underlying133 a4
  obtain rfl:=tn_eq hn
  have hc:W.cell? ⟨0,0,none⟩ =some (.iface 263 v):=by
   rw[World.var?_cell a1 a3 0,←Array.getElem?_toList,hcs];rfl
  have hs:c0.size=1:=by
   rw[←Array.length_toList,hcs];rfl
  have hw:=(hok 0 0 (a5 _ (by rw[hs];simp[MemPlace.row]))).2 _ _ hc
  rcases DataW.trod_pointer Tryz.underlying263 hd with ⟨_,e⟩ | ⟨a,cs',y,m,_,hvc,_⟩
  ·cases e
  ·have hv:v= .pointer (some a):=by
    unfold Value.okWide at hw
    rw[Tryz.underlying263] at hw
    unfold Cell.okWide at hw
    rw[Tryz.underlying263] at hw
    cases v<;>simp[Cell.ok,Tryz.underlying263] at hw
    simpa [Value.cells] using hvc
   rw[hv] at hc
   exact ⟨a,hc⟩
 obtain ⟨eE,x1,x2⟩ :=map_laid b1 (k:=228) (e:=4) (kk:=.u32) (by kernel_rfl) (by kernel_rfl) (L:=exprL.map fun i=>(Lit.int .u32 i,DataW.lit (.bool true))) (by simp[exprL]) b3 (show _=some (DataW.map _,p2) from b4)
 obtain ⟨pE,y1,y2⟩ :=map_laid d1 (k:=228) (e:=240) (kk:=.u32) (by kernel_rfl) (by kernel_rfl) (L:=ptrL.map fun p=>(Lit.int .u32 p.1,DataW.lit (.int .i64 p.2))) (by simp[ptrL]) d3 (show _=some (DataW.map _,p3) from d4)
 obtain ⟨kE,z1,z2⟩ :=map_laid e1 (k:=3) (e:=3) (kk:=.i64) (by kernel_rfl) (by kernel_rfl) (L:=knownL.map fun p=>(Lit.int .i64 p.1,DataW.lit (.int .i64 p.2))) (by simp[knownL]) e3 (show _=some (DataW.map _,p4) from e4)
 have x2:=x2 (fun _ _=>True) fun _ _ _ _=>trivial
 obtain ⟨y3,y4⟩ :=y2 (fun d v=>∃n,d= .lit (.int .i64 n)∧v= .int .i64 n) fun n v z hz=>by
  obtain ⟨a,rfl,rfl,_⟩ :=elemAt_int (q:=.i64) (show Tryz.prog.underlying 240=some (.int .i64) by kernel_rfl) hz
  exact ⟨a,rfl,rfl⟩
 obtain ⟨z3,z4⟩ :=z2 (fun d v=>∃n,d= .lit (.int .i64 n)∧v= .int .i64 n) fun n v z hz=>by
  obtain ⟨a,rfl,rfl,_⟩ :=elemAt_int (q:=.i64) (show Tryz.prog.underlying 3=some (.int .i64) by kernel_rfl) hz
  exact ⟨a,rfl,rfl⟩
 have u1:∀p∈ptrL,∀r∈ptrL,p.1=r.1→p.2=r.2:=by decide
 have u2:∀p∈knownL,∀r∈knownL,p.1=r.1→p.2=r.2:=by decide
 obtain ⟨y5,y6⟩ :=all_map (L:=ptrL) y3 y4 fun i a b h1 h2=>u1 _ h1 _ h2 rfl
 obtain ⟨z5,z6⟩ :=all_map (L:=knownL) z3 z4 fun i a b h1 h2=>u2 _ h1 _ h2 rfl
 refine ⟨fun i=>if i=0 then .pt [.val (.iface 263 (.pointer (some ad)))] else if i=2 then .pt [.mp .u32 eE] else if i=3 then .pt [.mp .u32 pE] else if i=4 then .pt [.mp .i64 kE] else .top, ⟨eE,pE,kE,263,ad⟩,
  ⟨rfl,rfl,rfl,rfl, ?_,y5 16 6 (by decide),y5 85 9 (by decide),fun a ha=>y6 a fun n hm=>?_,fun i=>?_⟩,rfl,fun i=>?_⟩
 ·cases hf:findE eE 28 with
  |none=>rfl
  |some a=>
   obtain ⟨d,v,_,hm,_⟩ :=x2.1 28 a hf
   simp[exprL] at hm
 ·simp[ptrL] at hm
  omega
 ·unfold knownOp
  split
  ·exact z5 i 0 (by simp[knownL];omega)
  ·split
   ·exact z5 i 1 (by simp[knownL];omega)
   ·exact z6 i fun n hm=>by simp[knownL] at hm;omega
 ·dsimp only
  by_cases h0:i=0
  ·subst h0
   exact ⟨0,0,rfl, ⟨⟨_,(memOf_cell hE).1,rfl,rfl⟩,trivial⟩⟩
  rw[if_neg h0]
  by_cases h2:i=2
  ·subst h2;exact x1
  rw[if_neg h2]
  by_cases h3:i=3
  ·subst h3;exact y1
  rw[if_neg h3]
  by_cases h4:i=4
  ·subst h4;exact z1
  rw[if_neg h4];trivial
end
end Go.Proofs.YtbkfdnkeelmloaaGreatDoor
