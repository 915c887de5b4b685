/- Part 33 of the proof: P3 P4 P5. -/
import Derived.Test.YtbkfdnkeelmloaaGreatDoorZ18
import Derived.Test.YtbkfdnkeelmloaaGreatDoorZ20
import Derived.Test.YtbkfdnkeelmloaaGreatDoorY25
import Derived.Test.YtbkfdnkeelmloaaGreatDoorY26
import Derived.Test.YtbkfdnkeelmloaaGreatDoorY27
import Derived.Test.YtbkfdnkeelmloaaGreatDoorY32
set_option linter.unusedVariables false
set_option linter.unusedSimpArgs false
namespace Go.Proofs.YtbkfdnkeelmloaaGreatDoor
set_option maxHeartbeats 4000000
set_option maxRecDepth 10000
open Go.AM Go
structure UnitW (u:UnitD):Prop where
 ok:UnitOK u
 vers:4≤u.version∧u.version≤5
 size:u.size=4∨u.size=8
 ne:0 < u.nodes.length
 head:(nodeAt u 0).tag=17∧(nodeAt u 0).sibling=false
 good:∀k,k < u.nodes.length→∀a∈(nodeAt u k).attrs,AttrG u a
 no:∀a∈(nodeAt u 0).attrs,a.attr≠114∧a.attr≠115∧a.attr≠116∧a.attr≠140
 inn:∀k,0 < k→k < u.nodes.length→∀a∈(nodeAt u k).attrs,AttrIn u a
def unitS (u:UnitD) (bg:Bool) (s:SectD) (t:TextsD):UnitS:= ⟨u.version.toNat,u.wide,u.size.toNat,s.abbs.length,(finOf u bg s t).1,absN u u.nodes.length⟩
theorem lenText_len (n:Nat) (wide bg:Bool):(lenText n wide bg).length=if wide then 12 else 4:=by
 unfold lenText;split<;>simp[fixed_len]
section
variable {u:UnitD} {bg:Bool} {s:SectD} {t:TextsD} {z:DataR}
theorem headB_eq (hW:UnitW u):headB bg (unitS u bg s t)=headText u s.abbs.length bg:=by
 have hv:=hW.vers
 have e2:((u.size.toNat:Nat):Int)=u.size:=by have:=hW.size;omega
 unfold headB headText unitS
 simp only[e2]
 by_cases h:4 < u.version
 ·rw[if_pos h,if_pos (by omega)];simp
 ·rw[if_neg h,if_neg (by omega)];simp
theorem info_eq (hW:UnitW u):(addS u bg s t).info=s.info++unitText bg (unitS u bg s t):=by
 unfold addS unitText unitLen
 rw[lenText_eq,headB_eq hW];rfl
theorem abbs_eq (hW:UnitW u):(addS u bg s t).abbs=s.abbs++abbTail (absN u u.nodes.length) []:=by
 unfold addS accOf abbTail
 rw[accN_abb (fun x hx a ha=>by
  obtain ⟨k,hk⟩ :=List.getElem?_of_mem hx
  exact ((hW.ok.nodes x hx).attrs a ha).form.1) _ (Nat.le_refl _)]
 simp[acc0]
theorem pos0_eq (hW:UnitW u):(unitRd bg s.info.length (unitS u bg s t)).off=(acc0 u bg s t).pos:=by
 unfold unitRd acc0
 simp only[lenText_eq,List.length_append,lenText_len,headB_eq hW]
 simp only[unitS]
 exact Nat.add_assoc ..
theorem udOf_eq (hW:UnitW u) (base:Nat):udOf (unitRd bg base (unitS u bg s t))= ⟨u.version,u.wide,u.size,[]⟩ :=by
 have e1:((u.version.toNat:Nat):Int)=u.version:=by have:=hW.vers;omega
 have e2:((u.size.toNat:Nat):Int)=u.size:=by have:=hW.size;omega
 simp only[udOf,unitRd,unitS,e1,e2]
theorem nodesB_ud (l:List NodeR):nodesB ⟨u.version,u.wide,u.size,[]⟩ bg l=nodesB u bg l:=by cases u;rfl
theorem AttrG.bare {a:AttrD} (h:AttrG u a):AttrG ⟨u.version,u.wide,u.size,[]⟩ a:=by
 cases u;exact ⟨h.frm,h.dir,h.ind,h.n,h.size,h.ref,h.text,h.b1,h.b2,h.b,h.at_⟩
theorem pos_le (hW:UnitW u) {k:Nat} (hk:k≤u.nodes.length):(acc0 u bg s t).pos≤(accN u bg (acc0 u bg s t) k).pos∧(accN u bg (acc0 u bg s t) k).pos≤s.info.length+2300000:=by
 obtain ⟨_,_,h3,h4,_⟩ :=accN_ok (bg:=bg) (z:=acc0 u bg s t) hW.ok rfl rfl k hk
 have hn:=hW.ok.len
 have hw:=hW.ok.weight
 have:=nodesW_le (l:=u.nodes) k
 have hh:(headText u s.abbs.length bg).length≤20:=by
  have:=encO_len s.abbs.length u.wide bg
  unfold headText
  split<;>simp only[List.length_append,List.length_cons,List.length_nil,fixed_len]<;>omega
 have:(acc0 u bg s t).pos≤s.info.length+32:=by
  simp only[acc0,lenText_eq,List.length_append,lenText_len]
  split<;>omega
 omega
theorem sib_good (hW:UnitW u) {k:Nat} (hk:k < u.nodes.length) (hb:s.info.length≤100000000):AttrG u (sibA (sibN u s.info.length (placesOf u bg s t) k)):=by
 have ha:=afterOf_le (l:=u.nodes) (i:=k) (by omega)
 have hp:=pos_le (bg:=bg) (s:=s) (t:=t) hW ha.2
 have h0:s.info.length≤(acc0 u bg s t).pos:=by simp only[acc0];omega
 have e:sibN u s.info.length (placesOf u bg s t) k=((accN u bg (acc0 u bg s t) (afterOf u.nodes k)).pos:Int) - s.info.length:=by rw[sibN,place_at ha.2]
 have hsz:sizeOf' u 19=4:=by simp[sizeOf']
 refine ⟨⟨by simp[sibA,isBlock,isData],fun h=>by simp[sibA,isBlock] at h,fun h=>by simp[sibA,isData] at h,fun h=>by simp[sibA] at h⟩,by simp[sibA],fun h=>by simp[sibA] at h, ?_,fun _=>?_,fun _=>?_,fun h=>by simp[sibA] at h,fun h=>by simp[sibA] at h,fun h=>by simp[sibA] at h,by simp[sibA],by simp[sibA]⟩
 ·simp only[sibA];omega
 ·simp only[sibA,hsz]
  show _ < 256 ^ 4
  omega
 ·simp only[sibA];omega
theorem tx_succ {k:Nat} (h0:(nodeAt u k).tag≠0):txAt u bg s t (k+1)=textsL (nodeAt u k).attrs (txAt u bg s t k):=by
 simp only[txAt,accN,accStep]
 rw[nodeText_tx,if_neg h0]
theorem tx_ext {j n:Nat} (h:j≤n):Ext (txAt u bg s t j) (txAt u bg s t n):=by
 obtain ⟨d,rfl⟩ :=Nat.exists_eq_add_of_le h
 exact ext_acc d j
theorem ats_map {base:Int} {places:List Int} {k:Nat} {t':TextsD}:(atsOf u base places k t').map Prod.fst=(if (nodeAt u k).sibling then [sibA (sibN u base places k)] else [])++(nodeAt u k).attrs:=by
 unfold atsOf
 rw[List.map_append,pair_fst]
 split<;>rfl
theorem ats_good (hW:UnitW u) {k:Nat} (hk:k < u.nodes.length) (h0:(nodeAt u k).tag≠0) (hb:s.info.length≤100000000) (hx:Ext (accOf u bg s t).texts ⟨z.str,z.lineStr⟩):
  ∀p∈atsOf u s.info.length (placesOf u bg s t) k (txAt u bg s t k),AttrG u p.1∧Ext (attrTx p.1 p.2) ⟨z.str,z.lineStr⟩ :=by
 intro p hp
 unfold atsOf at hp
 rw[List.mem_append] at hp
 rcases hp with hp|hp
 ·split at hp
  ·rw[List.mem_singleton] at hp
   subst hp
   refine ⟨sib_good hW hk hb, ?_⟩
   have:attrTx (sibA (sibN u s.info.length (placesOf u bg s t) k)) (txAt u bg s t k)=txAt u bg s t k:=by simp[attrTx,sibA]
   rw[this]
   exact (tx_ext (Nat.le_of_lt hk)).trans hx
  ·cases hp
 ·obtain ⟨h1,h2⟩ :=pair_ext hp
  refine ⟨hW.good k hk _ h1, ?_⟩
  rw[←tx_succ h0] at h2
  exact (h2.trans (tx_ext hk)).trans hx
theorem ats_len (hW:UnitW u) {k:Nat} (hk:k < u.nodes.length) {base:Int} {places:List Int} {t':TextsD}:(atsOf u base places k t').length≤200:=by
 have h:=congrArg List.length (ats_map (u:=u) (base:=base) (places:=places) (k:=k) (t':=t'))
 have hl:=(hW.ok.nodes _ (List.mem_of_getElem? (nodeAt_get hk))).len
 rw[List.length_map,List.length_append] at h
 split at h<;>simp only[List.length_cons,List.length_nil] at h<;>omega
theorem abb_fields (hW:UnitW u) {k:Nat} (hk:k < u.nodes.length) {base:Int} {places:List Int} {t':TextsD}:(abbOf (abbS k (nodeAt u k))).fields=(atsOf u base places k t').map fun p=>afA p.1:=by
 have e:((atsOf u base places k t').map fun p=>afA p.1)=((atsOf u base places k t').map Prod.fst).map afA:=by rw[List.map_map];rfl
 rw[e,ats_map]
 simp only[abbOf,abbS,List.map_append,List.map_map]
 congr 1
 ·split
  ·rfl
  ·rfl
 ·refine List.map_congr_left fun a ha=>?_
  have hx:=(hW.ok.nodes _ (List.mem_of_getElem? (nodeAt_get hk))).attrs a ha
  exact af_eq hx.attr.1 hx.form.1
theorem unit_rk (hW:UnitW u) (hbg:z.big=bg) (hx:Ext (accOf u bg s t).texts ⟨z.str,z.lineStr⟩) (h1:z.str.length≤1000000000) (h2:z.lineStr.length≤1000000000) (hb:s.info.length≤100000000):
  UnitRK z (unitRd bg s.info.length (unitS u bg s t)) (nodesOf u bg s t u.nodes.length):=by
 have hbody:(unitRd bg s.info.length (unitS u bg s t)).data=nodesB u bg (nodesOf u bg s t u.nodes.length):=by
  simp only[unitRd,unitS,finOf]
  exact fin_body hW.ok _ (Nat.le_refl u.nodes.length)
 have hv:=hW.vers
 have e1:((u.version.toNat:Nat):Int)=u.version:=by omega
 have e2:((u.size.toNat:Nat):Int)=u.size:=by have:=hW.size;omega
 have hpos:=pos_le (bg:=bg) (s:=s) (t:=t) hW (Nat.le_refl u.nodes.length)
 have hpa:=pos_at (bg:=bg) (s:=s) (t:=t) hW.ok (Nat.le_refl u.nodes.length)
 have htk:(nodesOf u bg s t u.nodes.length).take u.nodes.length=nodesOf u bg s t u.nodes.length:=List.take_of_length_le (Nat.le_of_eq nodesOf_len)
 rw[htk] at hpa
 have hoff:=pos0_eq (bg:=bg) (s:=s) (t:=t) hW
 have hzero:0 < (acc0 u bg s t).pos:=by
  simp only[acc0,lenText_eq,List.length_append,lenText_len]
  split<;>omega
 refine ⟨?_, ?_, ?_, ?_, ?_,by rw[hoff];exact hzero, ?_, ?_⟩
 ·rw[udOf_eq hW,hbg,nodesB_ud,hbody]
 ·simp only[unitRd,unitS];omega
 ·simp only[unitRd,unitS,e2];have:=hW.size;omega
 ·simp only[unitRd];omega
 ·rw[hbody,hoff,←hpa];omega
 ·intro n hn
  obtain ⟨k,hk,rfl⟩ :=List.mem_map.1 hn
  rw[List.mem_range] at hk
  rw[udOf_eq hW]
  unfold nodeR
  split
  ·trivial
  ·rename_i h0
   have hg:=ats_good (z:=z) hW hk h0 hb hx
   have htag:=(hW.ok.nodes _ (List.mem_of_getElem? (nodeAt_get hk))).tag
   have hkl:=hW.ok.len
   refine ⟨by unfold codeN;omega,absN_find h0 _ hk,abb_fields hW hk,fun p hp=>((hg p hp).1.bare).rd (hg p hp).2 h1 h2,ats_len hW hk, ?_,fun p hp=>(hg p hp).1.at_⟩
   simp only[abbOf,abbS];omega
 ·have hk:=hW.ne
  have h0:(nodeAt u 0).tag≠0:=by rw[hW.head.1];decide
  have e:nodesOf u bg s t u.nodes.length=nodeR u s.info.length (placesOf u bg s t) 0 (txAt u bg s t 0) :: (nodesOf u bg s t u.nodes.length).drop 1:=by
   have:=nodesOf_get (u:=u) (bg:=bg) (s:=s) (t:=t) hk
   rw[List.getElem?_eq_some_iff] at this
   obtain ⟨hi,e⟩ :=this
   rw[←e]
   exact (List.drop_eq_getElem_cons hi)
  refine ⟨_,_,_,_,by rw[e,nodeR,if_neg h0], ?_,fun p hp=>?_⟩
  ·simp only[abbOf,abbS,hW.head.1];rfl
  ·have:p.1∈(atsOf u s.info.length (placesOf u bg s t) 0 (txAt u bg s t 0)).map Prod.fst:=List.mem_map.2 ⟨p,hp,rfl⟩
   rw[ats_map,hW.head.2] at this
   exact hW.no _ (by simpa using this)
theorem ent_at (hW:UnitW u) {k:Nat} (hk:k < u.nodes.length):entAt bg (unitRd bg s.info.length (unitS u bg s t)) (nodesOf u bg s t u.nodes.length) k=
  if (nodeAt u k).tag=0 then ⟨0,0,false,[]⟩ else ⟨(accN u bg (acc0 u bg s t) k).pos,(nodeAt u k).tag,(nodeAt u k).children,((if (nodeAt u k).sibling then [sibA (sibN u s.info.length (placesOf u bg s t) k)] else [])++(nodeAt u k).attrs).map (dfOf s.info.length)⟩ :=by
 have hg:=nodesOf_get (u:=u) (bg:=bg) (s:=s) (t:=t) hk
 have hoff:nodeAtOff (unitRd bg s.info.length (unitS u bg s t)) bg (nodesOf u bg s t u.nodes.length) k=(accN u bg (acc0 u bg s t) k).pos:=by
  rw[nodeAtOff,pos_at hW.ok (Nat.le_of_lt hk),udOf_eq hW,nodesB_ud,pos0_eq hW]
 have htag:=(hW.ok.nodes _ (List.mem_of_getElem? (nodeAt_get hk))).tag
 rw[entAt,List.getD_eq_getElem?_getD,hg,Option.getD_some,hoff]
 unfold nodeR
 split
 ·rfl
 ·simp only[nodeE,abbOf,abbS]
  rw[←ats_map (t':=txAt u bg s t k),List.map_map]
  have:(((nodeAt u k).tag.toNat:Nat):Int)=(nodeAt u k).tag:=by omega
  rw[this];rfl
theorem val_b (u:UnitD) (base:Int) {a:AttrD} (h:AttrG u a):(valueOf u base a).b.length≤1000000:=by
 have:=h.b
 unfold valueOf
 dsimp only
 repeat' split
 all_goals first|exact this|simp
theorem ent_same (hW:UnitW u) (hb:s.info.length≤100000000) {k:Nat} (hk:k < u.nodes.length):SameE (entE (entAt bg (unitRd bg s.info.length (unitS u bg s t)) (nodesOf u bg s t u.nodes.length) k)) (entryOf u s.info.length (placesOf u bg s t) k (nodeAt u k)):=by
 rw[ent_at hW hk,entryOf]
 split
 ·exact .inl ⟨rfl,rfl,rfl,rfl⟩
 ·rename_i h0
  have hsf:sibFields u (placesOf u bg s t) k (nodeAt u k)=(if (nodeAt u k).sibling then [sibA (sibN u s.info.length (placesOf u bg s t) k)] else []).map (fieldOf u s.info.length):=by
   unfold sibFields
   split
   ·have ha:=afterOf_le (l:=u.nodes) (i:=k) (by omega)
    have hp:=pos_le (bg:=bg) (s:=s) (t:=t) hW ha.2
    have e:(placesOf u bg s t).getD (afterOf u.nodes k) 0=((accN u bg (acc0 u bg s t) (afterOf u.nodes k)).pos:Int):=place_at ha.2
    have hw:IntKind.u64.wrap ((placesOf u bg s t).getD (afterOf u.nodes k) 0 - s.info.length+s.info.length)=(placesOf u bg s t).getD (afterOf u.nodes k) 0:=by
     rw[e,wrap_u64 (by omega) (by omega)];omega
    simp only[List.map_cons,List.map_nil,fieldOf,sibField,sibA,sibN,valueOf,classOf]
    simp only[hw]
    simp
   ·rfl
  refine .inr ⟨h0, ?_,rfl,rfl, ?_, ?_⟩
  ·rw[place_at (Nat.le_of_lt hk)];rfl
  ·simp only[entE,hsf,List.length_map,List.length_append]
  ·intro i f g hf hg
   simp only[entE] at hf
   simp only at hg
   rw[hsf,←List.map_append,List.getElem?_map] at hg
   rw[List.map_map,List.getElem?_map] at hf
   cases ha:((if (nodeAt u k).sibling then [sibA (sibN u s.info.length (placesOf u bg s t) k)] else [])++(nodeAt u k).attrs)[i]? with
   |none=>rw[ha] at hf;cases hf
   |some a=>
    rw[ha] at hf hg
    cases hf
    cases hg
    refine ⟨rfl,fun h17=>?_⟩
    simp only[entE] at h17
    have hk0:0 < k:=by
     rcases Nat.eq_zero_or_pos k with rfl|h
     ·exact absurd hW.head.1 h17
     ·exact h
    have hmem:=List.mem_of_getElem? ha
    rw[List.mem_append] at hmem
    have key:valE (dvOf s.info.length a) (fcls a.form a.attr)=valueOf u s.info.length a∧AttrG u a:=by
     rcases hmem with hm|hm
     ·split at hm
      ·rw[List.mem_singleton] at hm
       have hgd:=sib_good (bg:=bg) (t:=t) hW hk hb
       rw[←hm] at hgd
       refine ⟨?_,hgd⟩
       have hn:=hgd.n
       have hr:=hgd.ref
       obtain ⟨n,hn2⟩ :∃n:Nat,a.n=n:= ⟨a.n.toNat,by omega⟩
       subst hm
       simp only[sibA] at hn2 hr ⊢
       simp[valE,dvOf,fcls,valueOf,classOf,hn2]
       rw[hn2] at hr
       simp at hr
       rw[wrap_u64 (by omega) (by omega)]
      ·cases hm
     ·exact ⟨val_eq (by omega) (hW.inn k hk0 hk a hm),hW.good k hk a hm⟩
    have e:fieldEn (dfOf s.info.length a)= ⟨a.attr,valE (dvOf s.info.length a) (fcls a.form a.attr)⟩ :=rfl
    simp only[Function.comp,e,key.1,fieldOf,true_and]
    exact val_b _ _ key.2
theorem ent_dent (hW:UnitW u) (hb:s.info.length≤100000000) {k:Nat} (hk:k < u.nodes.length):DentOK (entAt bg (unitRd bg s.info.length (unitS u bg s t)) (nodesOf u bg s t u.nodes.length) k):=by
 have hp:=pos_le (bg:=bg) (s:=s) (t:=t) hW (Nat.le_of_lt hk)
 have htag:=(hW.ok.nodes _ (List.mem_of_getElem? (nodeAt_get hk))).tag
 have hl:=ats_len hW hk (base:=s.info.length) (places:=placesOf u bg s t) (t':=t)
 have hm:=congrArg List.length (ats_map (u:=u) (base:=s.info.length) (places:=placesOf u bg s t) (k:=k) (t':=t))
 rw[List.length_map] at hm
 rw[ent_at hW hk]
 split
 ·exact ⟨by simp,by simp,by simp,fun f hf=>by cases hf⟩
 ·refine ⟨by simp only;omega,by simp only;omega,by simp only[List.length_map];omega,fun f hf=>?_⟩
  obtain ⟨a,ha,rfl⟩ :=List.mem_map.1 hf
  rw[List.mem_append] at ha
  have hg:AttrG u a:=by
   rcases ha with hm|hm
   ·split at hm
    ·rw[List.mem_singleton] at hm
     subst hm
     exact sib_good hW hk hb
    ·cases hm
   ·exact hW.good k hk a hm
  refine ⟨dv_ok (by omega) hg, ?_⟩
  have:=hg.at_
  simp only[dfOf];omega
end
set_option maxHeartbeats 4000000
set_option maxRecDepth 10000
open Go.AM Go
structure PackOK (l:LayoutD) (spans:List SpanD) (units:List UnitD) (first:List (List AttrD)) (tx:Bytes):Prop where
 vers:4≤l.version∧l.version≤5
 size:l.size=4∨l.size=8
 n:0 < units.length∧units.length≤4
 same:spans.length=units.length
 w:∀i,i < units.length→UnitW (newUnit l spans units first i)
 tx:tx.length≤1000000
theorem Ext.of_eq {a b:TextsD} (h:a=b):Ext a b:=h▸Ext.refl a
section
variable {l:LayoutD} {spans:List SpanD} {units:List UnitD} {first:List (List AttrD)} {tx:Bytes}
def usAt (l:LayoutD) (spans:List SpanD) (units:List UnitD) (first:List (List AttrD)) (tx:Bytes) (i:Nat):UnitS:=unitS (newUnit l spans units first i) l.big (spN l spans units first tx i).s (spN l spans units first tx i).t
def usN (l:LayoutD) (spans:List SpanD) (units:List UnitD) (first:List (List AttrD)) (tx:Bytes) (n:Nat):List UnitS:=(List.range n).map (usAt l spans units first tx)
def rdN (l:LayoutD) (spans:List SpanD) (units:List UnitD) (first:List (List AttrD)) (tx:Bytes) (i:Nat):UnitR:=unitRd l.big (spN l spans units first tx i).s.info.length (usAt l spans units first tx i)
def nsN (l:LayoutD) (spans:List SpanD) (units:List UnitD) (first:List (List AttrD)) (tx:Bytes) (i:Nat):List NodeR:=nodesOf (newUnit l spans units first i) l.big (spN l spans units first tx i).s (spN l spans units first tx i).t (newUnit l spans units first i).nodes.length
theorem usN_len (n:Nat):(usN l spans units first tx n).length=n:=by simp[usN]
theorem usN_get {n i:Nat} (h:i < n):(usN l spans units first tx n)[i]? =some (usAt l spans units first tx i):=by simp[usN,h]
theorem usN_succ (n:Nat):usN l spans units first tx (n+1)=usN l spans units first tx n++[usAt l spans units first tx n]:=by simp[usN,List.range_succ]
theorem usN_take {n i:Nat} (h:i≤n):(usN l spans units first tx n).take i=usN l spans units first tx i:=by
 unfold usN
 rw[←List.map_take,List.take_range,Nat.min_eq_left h]
theorem spN_s (i:Nat):(spN l spans units first tx (i+1)).s=addS (newUnit l spans units first i) l.big (spN l spans units first tx i).s (spN l spans units first tx i).t:=rfl
theorem usN_info (hP:PackOK l spans units first tx):∀n,n≤units.length→infoText l.big (usN l spans units first tx n)=(spN l spans units first tx n).s.info
 |0,_=>rfl
 |n+1,h=>by
  rw[usN_succ]
  simp only[infoText,List.flatMap_append,List.flatMap_cons,List.flatMap_nil,List.append_nil]
  have ih:=usN_info hP n (by omega)
  unfold infoText at ih
  rw[ih,spN,info_eq (hP.w n (by omega))];rfl
theorem base_eq (hP:PackOK l spans units first tx) {n i:Nat} (hn:n≤units.length) (hi:i≤n):baseOf l.big (usN l spans units first tx n) i=(spN l spans units first tx i).s.info.length:=by
 rw[baseOf,usN_take hi,usN_info hP i (by omega)]
theorem us0_eq (hP:PackOK l spans units first tx) {n:Nat} (hn:n≤units.length):unitsTo l.big (usN l spans units first tx n) (usN l spans units first tx n).length=(List.range n).map (rdN l spans units first tx):=by
 unfold unitsTo
 rw[usN_len]
 refine List.map_congr_left fun i hi=>?_
 rw[List.mem_range] at hi
 rw[base_eq hP hn (Nat.le_of_lt hi),List.getD_eq_getElem?_getD,usN_get hi];rfl
theorem us0_get {n i:Nat} (h:i < n):((List.range n).map (rdN l spans units first tx))[i]? =some (rdN l spans units first tx i):=by simp[h]
theorem uAt_rd {n i:Nat} (h:i < n):uAt ((List.range n).map (rdN l spans units first tx)) i=rdN l spans units first tx i:=by
 unfold uAt;rw[List.getD_eq_getElem?_getD,us0_get h];rfl
theorem pk_len (hP:PackOK l spans units first tx) {i:Nat} (hi:i≤units.length):(spN l spans units first tx i).s.abbs.length≤9200000∧(spN l spans units first tx i).s.info.length≤9200000∧(spN l spans units first tx i).t.str.length≤8000000∧(spN l spans units first tx i).t.line.length≤9000000:=by
 have h:=spN_len (l:=l) (spans:=spans) (units:=units) (first:=first) (tx:=tx) (fun i hi=>(hP.w i hi).ok) i hi
 have:=hP.n
 have:=hP.tx
 omega
theorem pk_ext (hP:PackOK l spans units first tx):∀(d i:Nat),i+d≤units.length→Ext (spN l spans units first tx i).t (spN l spans units first tx (i+d)).t
 |0,i,_=>Ext.refl _
 |d+1,i,h=>(pk_ext hP d i (by omega)).trans (by
  rw[←Nat.add_assoc,spN]
  exact (Ext.of_eq rfl).trans (tx_ext (u:=newUnit l spans units first (i+d)) (bg:=l.big) (s:=(spN l spans units first tx (i+d)).s) (t:=(spN l spans units first tx (i+d)).t) (Nat.zero_le (newUnit l spans units first (i+d)).nodes.length)))
theorem pk_abb (hP:PackOK l spans units first tx) (i:Nat):∀d,i+1+d≤units.length→∃rest,(spN l spans units first tx (i+1+d)).s.abbs=(spN l spans units first tx i).s.abbs++abbTail (usAt l spans units first tx i).abbs rest
 |0,h=> ⟨[],abbs_eq (hP.w i (by omega))⟩
 |d+1,h=>by
  obtain ⟨r,hr⟩ :=pk_abb hP i d (by omega)
  have e:=abbs_eq (bg:=l.big) (s:=(spN l spans units first tx (i+1+d)).s) (t:=(spN l spans units first tx (i+1+d)).t) (hP.w (i+1+d) (by omega))
  refine ⟨r++abbTail (absN (newUnit l spans units first (i+1+d)) (newUnit l spans units first (i+1+d)).nodes.length) [], ?_⟩
  rw[←Nat.add_assoc,spN_s,e,hr]
  simp[abbTail]
theorem pk_inc (hP:PackOK l spans units first tx) {i j:Nat} (h:i < j) (hj:j≤units.length):(spN l spans units first tx i).s.abbs.length < (spN l spans units first tx j).s.abbs.length∧(rdN l spans units first tx i).off≤(spN l spans units first tx j).s.info.length:=by
 obtain ⟨d,rfl⟩ :=Nat.exists_eq_add_of_le h
 obtain ⟨r,hr⟩ :=pk_abb hP i d hj
 refine ⟨by rw[hr];simp only[abbTail,List.length_append,List.length_cons];omega, ?_⟩
 have h1:(rdN l spans units first tx i).off≤(spN l spans units first tx (i+1)).s.info.length:=by
  rw[spN_s,info_eq (hP.w i (by omega)),List.length_append]
  simp only[rdN,unitRd,unitText,List.length_append]
  simp only[usAt]
  omega
 have h2:∀d,i+1+d≤units.length→(spN l spans units first tx (i+1)).s.info.length≤(spN l spans units first tx (i+1+d)).s.info.length:=by
  intro d
  induction d with
  |zero=>intro _;exact Nat.le_refl _
  |succ d ih=>
   intro hd
   refine Nat.le_trans (ih (by omega)) ?_
   rw[←Nat.add_assoc,spN_s]
   rw[info_eq (hP.w _ (by omega)),List.length_append];omega
 exact Nat.le_trans h1 (h2 d hj)
theorem abb_ok (hP:PackOK l spans units first tx) {i:Nat} (hi:i < units.length):∀a∈(usAt l spans units first tx i).abbs,AbbOK a:=by
 intro a ha
 have hW:=hP.w i hi
 obtain ⟨k,hk,rfl,h0⟩ :=absN_id (show a∈absN (newUnit l spans units first i) (newUnit l spans units first i).nodes.length from ha)
 have hn:=hW.ok.nodes _ (List.mem_of_getElem? (nodeAt_get hk))
 have hkl:=hW.ok.len
 have hl:=ats_len hW hk (base:=0) (places:=[]) (t':= ⟨[],[]⟩)
 have hm:=congrArg List.length (abb_fields hW hk (base:=0) (places:=[]) (t':= ⟨[],[]⟩))
 rw[List.length_map,abbOf,List.length_map] at hm
 refine ⟨by simp only[abbS,codeN];omega,by simp only[abbS];have:=hn.tag;omega,fun f hf=>?_,by omega⟩
 simp only[abbS,List.mem_append,List.mem_map] at hf
 rcases hf with hf| ⟨a,ha,rfl⟩
 ·split at hf
  ·rw[List.mem_singleton] at hf
   subst hf
   exact ⟨by decide,by decide, ⟨by simp,fun h=>by simp[isBlock] at h,fun h=>by simp[isData] at h,fun h=>by simp at h⟩,by decide⟩
  ·cases hf
 ·have hg:=hW.good k hk a ha
  have ho:=(hn.attrs a ha)
  have h1:=hg.at_
  have h2:=ho.form
  have e1:((a.attr.toNat:Nat):Int)=a.attr:=by omega
  have hfo:formOf a=22∨formOf a=a.form:=by unfold formOf;split<;>simp
  have e2:(((formOf a).toNat:Nat):Int)=formOf a:=by omega
  refine ⟨by simp only;omega,by simp only;omega, ?_,wrap_range _⟩
  simp only[e1,e2]
  rcases hfo with h|h
  ·rw[h];exact ⟨by simp,fun h=>by simp[isBlock] at h,fun h=>by simp[isData] at h,fun h=>by simp at h⟩
  ·rw[h];exact hg.frm
theorem usOK (hP:PackOK l spans units first tx) {i:Nat} (hi:i < units.length):UnitSOK (spN l spans units first tx units.length).s.abbs (usAt l spans units first tx i):=by
 have hW:=hP.w i hi
 have hv:=hW.vers
 have hz:=hW.size
 have hl:=pk_len hP (Nat.le_of_lt hi)
 obtain ⟨d,hd⟩ :=Nat.exists_eq_add_of_le hi
 obtain ⟨r,hr⟩ :=pk_abb hP i d (by omega)
 rw[show i+1+d=units.length by omega] at hr
 refine ⟨by simp only[usAt,unitS];omega,by simp only[usAt,unitS];omega,by simp only[usAt,unitS];omega, ⟨_,r,hr,rfl⟩,abb_ok hP hi,absN_pair _⟩
theorem infoOK (hP:PackOK l spans units first tx):InfoOK (spN l spans units first tx units.length).s.abbs (spN l spans units first tx units.length).s.info l.big (usN l spans units first tx units.length):=by
 have hl:=pk_len hP (Nat.le_refl _)
 have hn:=hP.n
 refine ⟨(usN_info hP _ (Nat.le_refl _)).symm,fun h=>?_,by omega,by omega,by rw[usN_len];omega,fun u hu=>?_, ?_⟩
 ·have:=congrArg List.length h
  rw[usN_len,List.length_nil] at this
  omega
 ·obtain ⟨i,hi,rfl⟩ :=List.mem_map.1 hu
  rw[List.mem_range] at hi
  exact usOK hP hi
 ·rw[List.pairwise_iff_getElem]
  intro i j hi hj hij
  rw[usN_len] at hi hj
  have e1:=usN_get (l:=l) (spans:=spans) (units:=units) (first:=first) (tx:=tx) hi
  have e2:=usN_get (l:=l) (spans:=spans) (units:=units) (first:=first) (tx:=tx) hj
  rw[(List.getElem?_eq_some_iff.1 e1).2,(List.getElem?_eq_some_iff.1 e2).2]
  exact Nat.ne_of_lt (pk_inc hP hij (Nat.le_of_lt hj)).1
theorem fileRK (hP:PackOK l spans units first tx) {z:DataR} (hb:z.big=l.big) (h1:z.str=(spN l spans units first tx units.length).t.str) (h2:z.lineStr=(spN l spans units first tx units.length).t.line):
  FileRK z ((List.range units.length).map (rdN l spans units first tx)) (nsN l spans units first tx):=by
 have hl:=pk_len hP (Nat.le_refl _)
 have hn:=hP.n
 refine ⟨fun i u hu=>?_,fun k i u v hu hv hki=>?_,by simp;omega⟩
 ·have hi:=(List.getElem?_eq_some_iff.1 hu).1
  simp only[List.length_map,List.length_range] at hi
  rw[us0_get hi] at hu
  cases hu
  have hli:=pk_len hP (Nat.le_of_lt hi)
  refine unit_rk (hP.w i hi) hb ?_ (by rw[h1];omega) (by rw[h2];omega) (by omega)
  rw[h1,h2]
  obtain ⟨d,hd⟩ :=Nat.exists_eq_add_of_le hi
  have:=pk_ext hP d (i+1) (by omega)
  rw[show i+1+d=units.length by omega] at this
  exact this
 ·have hi:=(List.getElem?_eq_some_iff.1 hv).1
  simp only[List.length_map,List.length_range] at hi
  rw[us0_get hi] at hv
  rw[us0_get (by omega)] at hu
  cases hu
  cases hv
  refine Nat.lt_of_le_of_lt (pk_inc hP hki (Nat.le_of_lt hi)).2 ?_
  simp only[rdN,unitRd,lenText_len]
  split<;>omega
end
set_option maxHeartbeats 4000000
set_option maxRecDepth 10000
open Go.AM Go
theorem lightA_eq:∀{l:List AttrD} {n m:Int},lightA n l=some m→m=n+attrsW l∧m≤max n 1048576
 | [],n,m,h=>by
  cases h
  simp[attrsW];omega
 |a :: l,n,m,h=>by
  rw[lightA] at h
  split at h
  ·cases h
  ·obtain ⟨h1,h2⟩ :=lightA_eq h
   simp only[attrsW,List.map_cons,List.sum_cons,attrW] at h1 ⊢
   omega
theorem lightN_eq:∀{l:List NodeD} {n m:Int},lightN n l=some m→m=n+nodesW l∧m≤max n 1048576
 | [],n,m,h=>by
  cases h
  simp[nodesW];omega
 |x :: l,n,m,h=>by
  rw[lightN,Option.bind_eq_some_iff] at h
  obtain ⟨k,hk,h⟩ :=h
  obtain ⟨h1,h2⟩ :=lightA_eq hk
  obtain ⟨h3,h4⟩ :=lightN_eq h
  simp only[nodesW,List.map_cons,List.sum_cons] at h3 ⊢
  omega
theorem light_w {u:UnitD} (h:isLight [u]=true):nodesW u.nodes≤1048576:=by
 unfold isLight at h
 rw[lightU] at h
 cases hk:lightN 0 u.nodes with
 |none=>rw[hk] at h;cases h
 |some m=>
  have:=lightN_eq hk
  omega
theorem span_ok {l:LayoutD} {x:SpanD} (h:isSpan l x=true) (hr:SpanR x):SpanOK l x∧SpanIn x∧(x.listed=true→ListedOK l x):=by
 have hm:most=2147483648:=rfl
 unfold isSpan at h
 split at h
 ·cases h
 rename_i hb
 simp only[badSpan,not_or] at hb
 obtain ⟨_,b2,b3,b4,_⟩ :=hb
 have hlow:=hr.low
 have hhigh:=hr.high
 by_cases hl:x.listed=true
 ·rw[if_pos hl,Bool.and_eq_true] at h
  have hg:∀p∈x.pieces,¬badPiece l p:=fun p hp=>by simpa [goodPiece] using List.all_eq_true.1 h.1 p hp
  have hp:∀p∈x.pieces,(0≤p.a∧p.a < most)∧(0≤p.b∧p.b < most)∧0≤p.kind∧p.kind≤3:=fun p hp=>by
   have h1:=hg p hp
   have h2:=hr.pieces p hp
   simp only[badPiece,not_or] at h1
   omega
  have hin:SpanIn x:= ⟨by omega,fun p hq=> ⟨(hp p hq).1,(hp p hq).2.1⟩,by omega⟩
  refine ⟨⟨by omega,by omega,(fun e=>by rw[hl] at e;cases e),by omega,fun p hq=>?_⟩,hin,fun _=> ⟨hl,hin,hg,fun p hq=>by simpa [endsLow] using List.all_eq_true.1 h.2 p hq⟩⟩
  have:=hp p hq
  exact ⟨by omega,by omega,by omega⟩
 ·rw[if_neg hl,Bool.and_eq_true,decide_eq_true_eq,beq_iff_eq] at h
  have hn:x.pieces=[]:=List.eq_nil_of_length_eq_zero h.2
  refine ⟨⟨by omega,by omega,fun _=>h.1,by omega,(fun p hp=>by rw[hn] at hp;cases hp)⟩, ⟨by omega,(fun p hp=>by rw[hn] at hp;cases hp),by omega⟩,fun e=>absurd e hl⟩
structure FirstOK (u:UnitD) (f:List AttrD):Prop where
 len:f.length≤3
 good:∀a∈f,AttrG u a∧AttrOK a
 no:∀a∈f,a.attr=3∨a.attr=27∨a.attr=16
 w:attrsW f≤5000
theorem attrsW_app (a b:List AttrD):attrsW (a++b)=attrsW a+attrsW b:=by simp[attrsW]
theorem attrsW_filter (p:AttrD→Bool):∀l:List AttrD,attrsW (l.filter p)≤attrsW l
 | []=>Nat.le_refl _
 |a :: l=>by
  have ih:=attrsW_filter p l
  rw[List.filter_cons]
  split<;>simp only[attrsW,List.map_cons,List.sum_cons] at ih ⊢<;>omega
theorem sizeOf_1 (u:UnitD):sizeOf' u 1=u.size:=by simp[sizeOf']
theorem sizeOf_7 (u:UnitD):sizeOf' u 7=8:=by simp[sizeOf']
theorem sizeOf_23 (u:UnitD):sizeOf' u 23=if u.wide then 8 else 4:=by simp[sizeOf',offsetSize]
theorem pow_le {n:Int} {k:Int} (hk:k=4∨k=8) (hn:0≤n) (h:n < 2147483648):n.toNat < 256 ^ k.toNat:=by
 rcases hk with rfl|rfl
 ·show _ < 256 ^ 4;omega
 ·show _ < 256 ^ 8;omega
theorem low_good {u:UnitD} {x:SpanD} (hz:u.size=4∨u.size=8) (h:0≤x.low∧x.low < 2147483648):AttrG u (lowAttr x)∧AttrOK (lowAttr x):=by
 refine ⟨⟨⟨by simp[lowAttr],by simp[lowAttr,isBlock],by simp[lowAttr,isData],by simp[lowAttr]⟩,by simp[lowAttr],by simp[lowAttr], ?_,fun _=>?_,by simp[lowAttr],by simp[lowAttr],by simp[lowAttr],by simp[lowAttr],by simp[lowAttr],by simp[lowAttr]⟩, ⟨by simp[lowAttr],by simp[lowAttr], ?_,by simp[lowAttr],by simp[lowAttr]⟩⟩
 ·simp only[lowAttr];omega
 ·simp only[lowAttr,sizeOf_1];exact pow_le hz h.1 h.2
 ·simp only[lowAttr];omega
theorem high_good {u:UnitD} {l:LayoutD} {x:SpanD} {a:Int} (hz:u.size=4∨u.size=8) (h:SpanOK l x) (ha:0≤a∧a < 2147483648):AttrG u (highAttr x a)∧AttrOK (highAttr x a)∧((highAttr x a).attr=85∨(highAttr x a).attr=18):=by
 have h1:=h.low
 have h2:=h.high
 have h3:=h.up
 unfold highAttr
 split
 ·refine ⟨⟨⟨by simp,by simp[isBlock],by simp[isData],by simp⟩,by simp,by simp,by simp only;omega,fun _=>?_,fun _=>by simp only;omega,by simp,by simp,by simp,by simp,by simp⟩, ⟨by simp,by simp,by simp only;omega,by simp,by simp⟩,by simp⟩
  simp only[sizeOf_23]
  exact pow_le (by split<;>simp) ha.1 ha.2
 ·rename_i hl
  have h4:=h3 (by simpa using hl)
  split
  ·refine ⟨⟨⟨by simp[isBlock,isData],by simp[isBlock],by simp[isData],by simp⟩,by simp,by simp,by simp only;omega,fun _=>?_,by simp,by simp,by simp,by simp,by simp,by simp⟩, ⟨by simp,by simp,by simp only;omega,by simp,by simp⟩,by simp⟩
   simp only[sizeOf_7]
   exact pow_le (.inr rfl) (by omega) (by omega)
  ·refine ⟨⟨⟨by simp,by simp[isBlock],by simp[isData],by simp⟩,by simp,by simp,by simp only;omega,fun _=>?_,by simp,by simp,by simp,by simp,by simp,by simp⟩, ⟨by simp,by simp,by simp only;omega,by simp,by simp⟩,by simp⟩
   simp only[sizeOf_1]
   exact pow_le hz (by omega) (by omega)
theorem high_w (x:SpanD) (a:Int):attrW (highAttr x a)=32:=by
 unfold highAttr
 split
 ·rfl
 ·split<;>rfl
def rngUnits (us:List UnitD):Prop:=∀u∈us,∀x∈u.nodes,∀a∈x.attrs,0≤a.n∧a.n < 18446744073709551616
section
variable {l:LayoutD} {spans:List SpanD} {units:List UnitD} {first:List (List AttrD)} {tx:Bytes}
theorem at_lt (hz:0≤l.size∧l.size≤8) (h:∀x∈spans,SpanOK l x) (hn:spans.length≤4) {i:Nat} (hi:i≤spans.length):0≤atOf l spans i∧atOf l spans i≤20000:=by
 have h1:=listsTo_len hz h i hi
 have h2:=beginOf_le (l:=l)
 unfold atOf
 omega
theorem isAttr_same {u v:UnitD} (h1:u.version=v.version) (h2:u.wide=v.wide) (h3:u.size=v.size) (a:AttrD):isAttr u a=isAttr v a:=by
 unfold isAttr sizeOf' offsetSize;rw[h1,h2,h3]
theorem nodeAt_newS {u:UnitD} {x:SpanD} {f:List AttrD} {a:Int} (k:Nat):nodeAt (unitAt l x u f a) (k+1)=nodeAt u (k+1):=by
 simp only[nodeAt,unitAt,List.getD_eq_getElem?_getD,List.getElem?_cons_succ,List.getElem?_drop]
 rw[Nat.add_comm 1 k]
theorem new_w {u:UnitD} {x:SpanD} {f:List AttrD} {a:Int} (hv:4≤l.version∧l.version≤5) (hg:UnitGood u) (hs:u.version=l.version∧u.wide=l.wide∧u.size=l.size) (hr:∀x∈u.nodes,∀a∈x.attrs,0≤a.n∧a.n < 18446744073709551616)
  (hx:SpanOK l x) (ha:0≤a∧a≤20000) (hf:FirstOK (unitAt l x u f a) f):UnitW (unitAt l x u f a):=by
 have hz:=hg.size
 rw[hs.2.2] at hz
 have hlen:=hg.len
 have hne:u.nodes=nodeAt u 0 :: u.nodes.drop 1:=by
  have:=nodeAt_get (u:=u) (j:=0) hlen.1
  obtain ⟨h,e⟩ :=List.getElem?_eq_some_iff.1 this
  rw[←e]
  exact List.drop_eq_getElem_cons h
 have hnl:(unitAt l x u f a).nodes.length=u.nodes.length:=by simp only[unitAt,List.length_cons,List.length_drop];omega
 have hin:∀k,k < u.nodes.length→∀b∈(nodeAt u k).attrs,AttrIn u b:=fun k hk b hb=>by
  have hm:=nodeAt_get hk
  have hgd:=(hg.node k _ hm).attr b hb
  exact ⟨hgd.is,hr _ (List.mem_of_getElem? hm) b hb,hgd.s,hgd.b⟩
 have hin2:∀k,k < u.nodes.length→∀b∈(nodeAt u k).attrs,AttrIn (unitAt l x u f a) b:=fun k hk b hb=>by
  have h:=hin k hk b hb
  exact ⟨by rw[←h.is];exact isAttr_same hs.1.symm hs.2.1.symm hs.2.2.symm b,h.n,h.s,h.b⟩
 have hz2:(unitAt l x u f a).size=4∨(unitAt l x u f a).size=8:=hz
 have hlow:=low_good (u:=unitAt l x u f a) (x:=x) hz2 hx.low
 have hhigh:=high_good (u:=unitAt l x u f a) (a:=a) hz2 hx (by omega)
 have hhead:∀b∈(headNode x u f a).attrs,AttrG (unitAt l x u f a) b∧AttrOK b∧b.attr≠114∧b.attr≠115∧b.attr≠116∧b.attr≠140:=by
  intro b hb
  simp only[headNode,spanAttrs,List.mem_append,List.mem_cons,List.not_mem_nil,or_false,List.mem_filter] at hb
  rcases hb with (hb|rfl|rfl)|hb
  ·have:=hf.good b hb
   have h2:=hf.no b hb
   exact ⟨this.1,this.2,by omega⟩
  ·exact ⟨hlow.1,hlow.2,by simp[lowAttr]⟩
  ·have h3:=hhigh.2.2
   exact ⟨hhigh.1,hhigh.2.1,by omega⟩
  ·have h:=hin2 0 hlen.1 b hb.1
   exact ⟨h.good hz2,h.ok,h.no⟩
 have hhl:(headNode x u f a).attrs.length≤60:=by
  have h1:=hf.len
  have h2:=List.length_filter_le keepAttr (nodeAt u 0).attrs
  have h3:=(hg.node 0 _ (nodeAt_get hlen.1)).len
  simp only[headNode,spanAttrs,List.length_append,List.length_cons,List.length_nil]
  omega
 have hw:nodesW (unitAt l x u f a).nodes≤2000000:=by
  have h1:=light_w hg.light
  rw[hne] at h1
  have h2:=hf.w
  have h3:=attrsW_filter keepAttr (nodeAt u 0).attrs
  have h4:attrsW (spanAttrs x a)=64:=by
   simp only[spanAttrs,attrsW,List.map_cons,List.map_nil,List.sum_cons,List.sum_nil,high_w]
   rfl
  simp only[nodesW,List.map_cons,List.sum_cons] at h1
  simp only[unitAt,nodesW,List.map_cons,List.sum_cons,headNode,attrsW_app]
  omega
 refine ⟨⟨by show 0≤l.version∧l.version≤5;omega,by show 0≤l.size∧l.size≤8;omega,by omega,fun y hy=>?_,hw⟩,hv,hz2,by omega, ⟨rfl,rfl⟩,fun k hk b hb=>?_,fun b hb=>(hhead b hb).2.2,fun k hk0 hk b hb=>?_⟩
 ·simp only[unitAt,List.mem_cons] at hy
  rcases hy with rfl|hy
  ·exact ⟨by simp[headNode],by omega,fun b hb=>(hhead b hb).2.1⟩
  ·have hy:=List.mem_of_mem_drop hy
   obtain ⟨k,hk⟩ :=List.getElem?_of_mem hy
   have hkl:=(List.getElem?_eq_some_iff.1 hk).1
   have e:=nodeAt_get hkl
   rw[hk] at e
   cases e
   have hgd:=hg.node k _ hk
   have:=hgd.len
   exact ⟨hgd.tag,by omega,fun b hb=>(hin k hkl b hb).ok⟩
 ·cases k with
  |zero=>exact (hhead b hb).1
  |succ k=>rw[nodeAt_newS] at hb;exact (hin2 (k+1) (by omega) b hb).good hz2
 ·cases k with
  |zero=>omega
  |succ k=>rw[nodeAt_newS] at hb;exact hin2 (k+1) (by omega) b hb
end
end Go.Proofs.YtbkfdnkeelmloaaGreatDoor
