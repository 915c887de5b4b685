/- Part 31 of the proof: P1. -/
import Derived.Test.YtbkfdnkeelmloaaGreatDoorY19
import Derived.Test.YtbkfdnkeelmloaaGreatDoorY22
set_option linter.unusedVariables false
set_option linter.unusedSimpArgs false
namespace Go.Proofs.YtbkfdnkeelmloaaGreatDoor
set_option maxRecDepth 10000
open Go.AM Go
def sibA (n:Int):AttrD:= ⟨1,19,false,n,[],[]⟩
def pairT:List AttrD→TextsD→List (AttrD×TextsD)
 | [],_=>[]
 |a :: l,t=>(a,t) :: pairT l (attrTx a t)
def textsL (l:List AttrD) (t:TextsD):TextsD:=l.foldl (fun t a=>attrTx a t) t
theorem nodeFold_eq {u:UnitD} {bg:Bool}:∀(l:List AttrD) (h:Bytes) (t:TextsD),nodeFold u bg (h,t) l=(h++atsText u bg (pairT l t),textsL l t)
 | [],h,t=>by simp[nodeFold,pairT,atsText,textsL]
 |a :: l,h,t=>by
  have:nodeFold u bg (h,t) (a :: l)=nodeFold u bg (nodeStep u bg (h,t) a) l:=rfl
  rw[this,nodeStep,nodeFold_eq l]
  simp[pairT,atsText,atText,indT,textsL]
def sibN (u:UnitD) (base:Int) (places:List Int) (i:Nat):Int:=places.getD (afterOf u.nodes i) 0 - base
def atsOf (u:UnitD) (base:Int) (places:List Int) (i:Nat) (t:TextsD):List (AttrD×TextsD):=
 (if (nodeAt u i).sibling then [(sibA (sibN u base places i),t)] else [])++pairT (nodeAt u i).attrs t
def abbS (i:Nat) (x:NodeD):AbbS:= ⟨codeN i,x.tag.toNat,x.children,(if x.sibling then [⟨1,19,0⟩] else [])++x.attrs.map fun a=> ⟨a.attr.toNat,(formOf a).toNat,IntKind.i64.wrap a.n⟩⟩
def nodeR (u:UnitD) (base:Int) (places:List Int) (i:Nat) (t:TextsD):NodeR:=
 if (nodeAt u i).tag=0 then .fin else .ent (codeN i) (abbOf (abbS i (nodeAt u i))) (atsOf u base places i t)
theorem sibText (u:UnitD) (bg:Bool) (n:Int) (t:TextsD):atText u bg (sibA n,t)=fixed n.toNat 4 bg:=by
 simp[atText,indT,sibA,attrText,sizeOf']
theorem patch_eq {u:UnitD} {base:Int} {places:List Int} {bg:Bool} {i:Nat} {t:TextsD}:patch u base places bg i (nodeText u i (nodeAt u i) bg t).1=nodeB u bg (nodeR u base places i t):=by
 unfold patch nodeR nodeText
 by_cases h0:(nodeAt u i).tag=0
 ·simp[h0,nodeB]
 ·rw[if_neg h0,if_neg h0,nodeFold_eq]
  simp only[nodeB,atsOf,nodeHead]
  by_cases hs:(nodeAt u i).sibling=true
  ·rw[if_pos ⟨hs,h0⟩,if_pos hs,if_pos hs]
   have e1:(encU (codeN i) 0++[0,0,0,0]++atsText u bg (pairT (nodeAt u i).attrs t)).take (codeLen i)=encU (codeN i) 0:=by
    rw[List.append_assoc];exact List.take_left' rfl
   have e2:(encU (codeN i) 0++[0,0,0,0]++atsText u bg (pairT (nodeAt u i).attrs t)).drop (codeLen i+4)=atsText u bg (pairT (nodeAt u i).attrs t):=List.drop_left' (by simp[codeLen])
   rw[e1,e2,List.append_assoc]
   show _=encU (codeN i) 0++(atText u bg (sibA (sibN u base places i),t)++atsText u bg (pairT (nodeAt u i).attrs t))
   rw[sibText];rfl
  ·rw[if_neg (fun h=>hs h.1),if_neg hs,if_neg hs]
   simp
theorem enc1:encU 1 0=[1]:=by rw[encU,leb,dif_pos (by decide)];rfl
theorem enc19:encU 19 0=[19]:=by rw[encU,leb,dif_pos (by decide)];rfl
theorem abbText_eq {i:Nat} {x:NodeD} (ho:∀a∈x.attrs,0≤a.form):abbText i x=absText (abbS i x):=by
 have h1:∀l:List AttrD,(∀a∈l,0≤a.form)→l.flatMap attrAbb=(l.map fun a=>(⟨a.attr.toNat,(formOf a).toNat,IntKind.i64.wrap a.n⟩ :FldS)).flatMap fldText:=by
  intro l
  induction l with
  |nil=>intro _;rfl
  |cons a l ih=>
   intro h
   have hf:=h a (List.mem_cons_self ..)
   rw[List.flatMap_cons,List.map_cons,List.flatMap_cons,ih fun a ha=>h a (List.mem_cons_of_mem _ ha)]
   congr 1
   unfold attrAbb fldText
   have:formOf a=33↔(formOf a).toNat=33:=by unfold formOf;split<;>omega
   simp only[this,List.append_assoc]
 unfold abbText abbHead absText abbS
 rw[h1 _ ho]
 have e:fldText ⟨1,19,0⟩ =[1,19]:=by simp[fldText,enc1,enc19]
 simp only[List.flatMap_append]
 cases x.sibling<;>cases x.children<;>simp[e]
def absN (u:UnitD):Nat→List AbbS
 |0=>[]
 |j+1=>absN u j++if (nodeAt u j).tag=0 then [] else [abbS j (nodeAt u j)]
theorem absN_id {u:UnitD}:∀{j:Nat} {a:AbbS},a∈absN u j→∃k,k < j∧a=abbS k (nodeAt u k)∧(nodeAt u k).tag≠0
 |0,a,h=>by simp[absN] at h
 |j+1,a,h=>by
  rw[absN,List.mem_append] at h
  rcases h with h|h
  ·obtain ⟨k,hk,e⟩ :=absN_id h;exact ⟨k,by omega,e⟩
  ·split at h
   ·cases h
   ·rw[List.mem_singleton] at h;exact ⟨j,by omega,h,by assumption⟩
theorem absN_pair {u:UnitD}:∀j:Nat,(absN u j).Pairwise fun a c=>a.id≠c.id
 |0=>.nil
 |j+1=>by
  rw[absN,List.pairwise_append]
  refine ⟨absN_pair j, ?_,fun a ha c hc=>?_⟩
  ·split
   ·exact .nil
   ·exact List.pairwise_singleton ..
  ·obtain ⟨k,hk,rfl,_⟩ :=absN_id ha
   split at hc
   ·cases hc
   ·rw[List.mem_singleton] at hc
    subst hc
    show codeN k≠codeN j
    unfold codeN;omega
theorem findE_app {n:Int} {b:List (Int×AV)}:∀{a:List (Int×AV)},findE a n=none→findE (a++b) n=findE b n
 | [],_=>rfl
 |(k,x) :: a,h=>by
  simp only[findE,List.cons_append] at h ⊢
  split at h
  ·cases h
  ·rename_i hk;rw[if_neg hk];exact findE_app h
theorem findE_left {n:Int} {b:List (Int×AV)} {v:AV}:∀{a:List (Int×AV)},findE a n=some v→findE (a++b) n=some v
 | [],h=>by cases h
 |(k,x) :: a,h=>by
  simp only[findE,List.cons_append] at h ⊢
  split at h
  ·rename_i hk;rw[if_pos hk];exact h
  ·rename_i hk;rw[if_neg hk];exact findE_left h
theorem absN_find {u:UnitD} {k:Nat} (h0:(nodeAt u k).tag≠0):∀j,k < j→findE (tabE ((absN u j).map abbOf)) (codeN k:Int)=some (abbV (abbOf (abbS k (nodeAt u k))))
 |0,h=>by omega
 |j+1,h=>by
  rw[absN,List.map_append,tabE,List.map_append]
  by_cases hk:k < j
  ·exact findE_left (absN_find h0 j hk)
  ·have:k=j:=by omega
   subst this
   rw[findE_app]
   ·rw[if_neg h0]
    simp[findE,abbOf,abbS]
   ·refine findE_tab fun x hx=>?_
    obtain ⟨a,ha,rfl⟩ :=List.mem_map.1 hx
    obtain ⟨m,hm,rfl,_⟩ :=absN_id ha
    show ((codeN m:Nat):Int)≠(codeN k:Nat)
    unfold codeN;omega
theorem accN_abb {u:UnitD} {bg:Bool} {z:AccD} (ho:∀x∈u.nodes,∀a∈x.attrs,0≤a.form):∀j,j≤u.nodes.length→(accN u bg z j).abb=z.abb++(absN u j).flatMap absText
 |0,_=>by simp[accN,absN]
 |j+1,hj=>by
  have hx:=nodeAt_get (u:=u) (j:=j) (by omega)
  have ih:=accN_abb (bg:=bg) (z:=z) ho j (by omega)
  simp only[accN,accStep,absN,ih,List.append_assoc,List.flatMap_append]
  congr 2
  split
  ·rfl
  ·rw[abbText_eq (ho _ (List.mem_of_getElem? hx))];simp
def txAt (u:UnitD) (bg:Bool) (s:SectD) (t:TextsD) (j:Nat):TextsD:=(accN u bg (acc0 u bg s t) j).texts
def nodesOf (u:UnitD) (bg:Bool) (s:SectD) (t:TextsD) (j:Nat):List NodeR:=(List.range j).map fun k=>nodeR u s.info.length (placesOf u bg s t) k (txAt u bg s t k)
theorem nodesOf_len {u:UnitD} {bg:Bool} {s:SectD} {t:TextsD} {j:Nat}:(nodesOf u bg s t j).length=j:=by simp[nodesOf]
theorem nodesOf_get {u:UnitD} {bg:Bool} {s:SectD} {t:TextsD} {j k:Nat} (h:k < j):(nodesOf u bg s t j)[k]? =some (nodeR u s.info.length (placesOf u bg s t) k (txAt u bg s t k)):=by simp[nodesOf,h]
theorem nodesOf_succ {u:UnitD} {bg:Bool} {s:SectD} {t:TextsD} {j:Nat}:nodesOf u bg s t (j+1)=nodesOf u bg s t j++[nodeR u s.info.length (placesOf u bg s t) j (txAt u bg s t j)]:=by simp[nodesOf,List.range_succ]
theorem part_get {u:UnitD} {bg:Bool} {s:SectD} {t:TextsD} (hu:UnitOK u) {k:Nat} (hk:k < u.nodes.length):(accOf u bg s t).parts.getD k []=(nodeText u k (nodeAt u k) bg (txAt u bg s t k)).1:=by
 rw[List.getD_eq_getElem?_getD,accOf,accN_get (bg:=bg) hu rfl rfl u.nodes.length (Nat.le_refl _) k hk];rfl
theorem fin_body {u:UnitD} {bg:Bool} {s:SectD} {t:TextsD} (hu:UnitOK u):∀j,j≤u.nodes.length→(finN u s.info.length (placesOf u bg s t) bg (accOf u bg s t).parts j).1=nodesB u bg (nodesOf u bg s t j)
 |0,_=>rfl
 |j+1,hj=>by
  rw[finN,fin_body hu j (by omega),part_get hu (by omega),patch_eq,nodesOf_succ]
  simp[nodesB]
theorem fin_ents {u:UnitD} {base:Int} {places:List Int} {bg:Bool} {parts:List Bytes}:∀j,(finN u base places bg parts j).2=(List.range j).map fun k=>entryOf u base places k (nodeAt u k)
 |0=>rfl
 |j+1=>by rw[finN,fin_ents j];simp[List.range_succ]
theorem accN_places {u:UnitD} {bg:Bool} {z:AccD} (hz:z.places=[]):∀n,(accN u bg z n).places=(List.range n).map fun k=>((accN u bg z k).pos:Int)
 |0=>by simp[accN,hz]
 |n+1=>by simp only[accN,accStep];rw[accN_places hz n];simp[List.range_succ]
theorem place_at {u:UnitD} {bg:Bool} {s:SectD} {t:TextsD} {k:Nat} (hk:k≤u.nodes.length):(placesOf u bg s t).getD k 0=((accN u bg (acc0 u bg s t) k).pos:Int):=by
 unfold placesOf accOf
 rw[accN_places rfl,List.getD_eq_getElem?_getD]
 by_cases h:k < u.nodes.length
 ·rw[List.getElem?_append_left (by simpa using h)];simp[h]
 ·have:k=u.nodes.length:=by omega
  subst this
  rw[List.getElem?_append_right (by simp)];simp
theorem pos_at {u:UnitD} {bg:Bool} {s:SectD} {t:TextsD} (hu:UnitOK u) {k:Nat} (hk:k≤u.nodes.length):(accN u bg (acc0 u bg s t) k).pos=(acc0 u bg s t).pos+(nodesB u bg ((nodesOf u bg s t u.nodes.length).take k)).length:=by
 have h1:=finN_pos (base:=s.info.length) (places:=placesOf u bg s t) (parts:=(accOf u bg s t).parts) (z0:=acc0 u bg s t) (fun k hk=>part_get hu hk) k hk
 have h2:(nodesOf u bg s t u.nodes.length).take k=nodesOf u bg s t k:=by
  unfold nodesOf
  rw[←List.map_take,List.take_range,Nat.min_eq_left hk]
 rw[h2,←fin_body hu k hk];omega
structure Ext (t t':TextsD):Prop where
 str:∃r,t'.str=t.str++r
 line:∃r,t'.line=t.line++r
theorem Ext.refl (t:TextsD):Ext t t:= ⟨⟨[],by simp⟩, ⟨[],by simp⟩⟩
theorem Ext.trans {a b c:TextsD} (h:Ext a b) (k:Ext b c):Ext a c:=by
 obtain ⟨⟨r1,e1⟩, ⟨r2,e2⟩⟩ :=h
 obtain ⟨⟨q1,g1⟩, ⟨q2,g2⟩⟩ :=k
 exact ⟨⟨r1++q1,by rw[g1,e1,List.append_assoc]⟩, ⟨r2++q2,by rw[g2,e2,List.append_assoc]⟩⟩
theorem ext_attr (a:AttrD) (t:TextsD):Ext t (attrTx a t):=by
 unfold attrTx
 split
 ·exact ⟨⟨_,rfl⟩, ⟨[],by simp⟩⟩
 ·split
  ·exact ⟨⟨[],by simp⟩, ⟨_,rfl⟩⟩
  ·exact Ext.refl _
theorem ext_list:∀(l:List AttrD) (t:TextsD),Ext t (textsL l t)
 | [],t=>Ext.refl t
 |a :: l,t=>(ext_attr a t).trans (ext_list l _)
theorem nodeText_tx {u:UnitD} {i:Nat} {x:NodeD} {bg:Bool} {t:TextsD}:(nodeText u i x bg t).2=if x.tag=0 then t else textsL x.attrs t:=by
 unfold nodeText;split
 ·rfl
 ·rw[nodeFold_eq]
theorem ext_node {u:UnitD} {i:Nat} {x:NodeD} {bg:Bool} {t:TextsD}:Ext t (nodeText u i x bg t).2:=by
 rw[nodeText_tx];split
 ·exact Ext.refl _
 ·exact ext_list _ _
theorem ext_acc {u:UnitD} {bg:Bool} {z:AccD}:∀(d j:Nat),Ext (accN u bg z j).texts (accN u bg z (j+d)).texts
 |0,j=>Ext.refl _
 |d+1,j=>(ext_acc d j).trans (by rw[←Nat.add_assoc];exact ext_node)
theorem pair_ext:∀{l:List AttrD} {t:TextsD} {p:AttrD×TextsD},p∈pairT l t→p.1∈l∧Ext (attrTx p.1 p.2) (textsL l t)
 |a :: l,t,p,h=>by
  rw[pairT,List.mem_cons] at h
  rcases h with rfl|h
  ·exact ⟨List.mem_cons_self ..,ext_list l _⟩
  ·have:=pair_ext h
   exact ⟨List.mem_cons_of_mem _ this.1,this.2⟩
theorem pair_fst:∀{l:List AttrD} {t:TextsD},(pairT l t).map Prod.fst=l
 | [],_=>rfl
 |a :: l,t=>by rw[pairT,List.map_cons,pair_fst]
structure AttrG (ud:UnitD) (a:AttrD):Prop where
 frm:FormOK a.form a.attr
 dir:a.form≠22
 ind:a.indirect=true→a.form≠33
 n:0≤a.n∧a.n < 18446744073709551616
 size:0 < sizeOf' ud a.form→a.n.toNat < 256 ^ (sizeOf' ud a.form).toNat
 ref:a.form=16∨a.form=17∨a.form=18∨a.form=19∨a.form=20∨a.form=21∨a.form=23→a.n < 2147483648
 text:a.form=8∨a.form=14∨a.form=31→isText a.s=true
 b1:a.form=10→a.b.length < 256
 b2:a.form=3→a.b.length < 65536
 b:a.b.length≤1000000
 at_:0 < a.attr∧a.attr < 65536
theorem AttrG.rd {ud:UnitD} {a:AttrD} (h:AttrG ud a) {z:DataR} {t:TextsD} (he:Ext (attrTx a t) ⟨z.str,z.lineStr⟩) (h1:z.str.length≤1000000000) (h2:z.lineStr.length≤1000000000):AttrRd ud z a t:=by
 refine ⟨h.frm,h.dir,h.ind,h.n,h.size,h.ref,h.text,fun e=>?_,fun e=>?_,h.b1,h.b2,h.b⟩
 ·obtain ⟨r,hr⟩ :=he.str
  simp only[attrTx,if_pos e] at hr
  exact ⟨t.str,r,by rw[hr];simp,rfl,h1⟩
 ·obtain ⟨r,hr⟩ :=he.line
  simp only[attrTx,if_neg (show¬a.form=14 by omega),if_pos e] at hr
  exact ⟨t.line,r,by rw[hr];simp,rfl,h2⟩
end Go.Proofs.YtbkfdnkeelmloaaGreatDoor
