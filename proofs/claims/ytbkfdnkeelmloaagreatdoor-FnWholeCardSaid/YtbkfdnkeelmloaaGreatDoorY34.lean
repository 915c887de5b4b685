/- Part 34 of the proof: P6. -/
import Derived.Test.YtbkfdnkeelmloaaGreatDoorY28
import Derived.Test.YtbkfdnkeelmloaaGreatDoorY29
import Derived.Test.YtbkfdnkeelmloaaGreatDoorY33
set_option linter.unusedVariables false
set_option linter.unusedSimpArgs false
namespace Go.Proofs.YtbkfdnkeelmloaaGreatDoor
set_option maxHeartbeats 4000000
set_option maxRecDepth 10000
open Go.AM Go
section
variable {l:LayoutD} {spans:List SpanD} {units:List UnitD} {first:List (List AttrD)} {tx:Bytes}
theorem unitOf_get {i:Nat} (h:i < units.length):units[i]? =some (unitOf units i):=by
 unfold unitOf;rw[List.getD_eq_getElem?_getD,List.getElem?_eq_getElem h];rfl
theorem spanAt_get {i:Nat} (h:i < spans.length):spans[i]? =some (spanAt spans i):=by
 unfold spanAt;rw[List.getD_eq_getElem?_getD,List.getElem?_eq_getElem h];rfl
structure AllIn (l:LayoutD) (spans:List SpanD) (units:List UnitD):Prop where
 vers:4≤l.version
 good:SpannedGood l spans units
 sp:∀x∈spans,SpanR x
 rng:rngUnits units
theorem AllIn.ver (h:AllIn l spans units):4≤l.version∧l.version≤5:=by
 have h1:=h.good.lay
 have:=h.vers
 simp only[isLayout,Bool.and_eq_true,decide_eq_true_eq] at h1
 omega
theorem AllIn.size (h:AllIn l spans units):l.size=4∨l.size=8:=by
 have h1:=h.good.lay
 simp only[isLayout,Bool.and_eq_true,Bool.or_eq_true,beq_iff_eq] at h1
 exact h1.2
theorem AllIn.span (h:AllIn l spans units) {x:SpanD} (hx:x∈spans):SpanOK l x∧SpanIn x∧(x.listed=true→ListedOK l x):=by
 obtain ⟨i,hi⟩ :=List.getElem?_of_mem hx
 exact span_ok (h.good.span i x hi) (h.sp x hx)
theorem AllIn.unit (h:AllIn l spans units) {u:UnitD} (hu:u∈units):(u.version=l.version∧u.wide=l.wide∧u.size=l.size)∧UnitGood u:=by
 obtain ⟨i,hi⟩ :=List.getElem?_of_mem hu
 obtain ⟨h1,h2⟩ :=h.good.unit i u hi
 refine ⟨h1,Classical.byContradiction fun hn=>?_⟩
 rw[isUnit_f hn] at h2;cases h2
theorem AllIn.pack (h:AllIn l spans units) (hf:∀i,i < units.length→FirstOK (newUnit l spans units first i) (first.getD i [])) (htx:tx.length≤1000000):PackOK l spans units first tx:=by
 have hn:=h.good.len
 have hs:=h.good.same
 have hz:=h.size
 refine ⟨h.ver,hz,hn,hs,fun i hi=>?_,htx⟩
 have hu:=List.mem_of_getElem? (unitOf_get hi)
 obtain ⟨h1,h2⟩ :=h.unit hu
 have hx:=List.mem_of_getElem? (spanAt_get (spans:=spans) (i:=i) (by omega))
 exact new_w h.ver h2 h1 (h.rng _ hu) (h.span hx).1 (at_lt (by omega) (fun x hx=>(h.span hx).1) (by omega) (by omega)) (hf i hi)
def spannedL (l:LayoutD) (spans:List SpanD) (units:List UnitD) (first:List (List AttrD)) (tx ln:Bytes):SectionsD:={ spannedS l spans units first tx with line:=ln }
theorem lists_len (h:AllIn l spans units):(listsTo l spans spans.length).length≤16000:=by
 have hn:=h.good.len
 have hs:=h.good.same
 have hz:=h.size
 have:=listsTo_len (l:=l) (spans:=spans) (by omega) (fun x hx=>(h.span hx).1) spans.length (Nat.le_refl _)
 omega
theorem open_flds {bg:Bool} {ln:Bytes} {m1 m2 m3 hU:Value}:(openZ (spannedL l spans units first tx ln) bg m1 m2 m3 hU).big=bg∧(openZ (spannedL l spans units first tx ln) bg m1 m2 m3 hU).line=ln∧
  (openZ (spannedL l spans units first tx ln) bg m1 m2 m3 hU).str=(spN l spans units first tx units.length).t.str∧(openZ (spannedL l spans units first tx ln) bg m1 m2 m3 hU).lineStr=(spN l spans units first tx units.length).t.line∧
  (openZ (spannedL l spans units first tx ln) bg m1 m2 m3 hU).ranges=(if 4 < l.version then [] else listsTo l spans spans.length)∧
  (openZ (spannedL l spans units first tx ln) bg m1 m2 m3 hU).rngLists=(if 4 < l.version then listsHead l (listsTo l spans spans.length) else []):=by
 have hne:¬rngLists=lineStr:=by decide
 unfold spannedL spannedS
 dsimp only
 split<;>simp[openZ,openZ0,addStep,hne]
theorem sect_ok (h:AllIn l spans units) (hP:PackOK l spans units first tx) {ln:Bytes} (hln:ln.length≤1000000000):SectOK (spannedL l spans units first tx ln) l.big (usN l spans units first tx units.length):=by
 have hI:=infoOK hP
 have hl:=pk_len hP (Nat.le_refl _)
 have hll:=lists_len h
 have hh:=listsHead_len (l:=l) (b:=listsTo l spans spans.length)
 unfold spannedL spannedS
 dsimp only
 split
 ·refine ⟨hI,hln,by simp,by simp only;omega,fun p hp=>?_,by simp,rfl⟩
  simp only[List.mem_cons,List.not_mem_nil,or_false] at hp
  rcases hp with rfl|rfl
  ·exact ⟨.inl rfl,by simp only;omega⟩
  ·exact ⟨.inr rfl,by simp only;omega⟩
 ·refine ⟨hI,hln,by simp only;omega,by simp only;omega,fun p hp=>?_,by simp,rfl⟩
  simp only[List.mem_cons,List.not_mem_nil,or_false] at hp
  subst hp
  exact ⟨.inl rfl,by simp only;omega⟩
theorem file_ok (hP:PackOK l spans units first tx) {ln:Bytes} (hU m1 m2 m3:Value):FileRK (openZ (spannedL l spans units first tx ln) l.big m1 m2 m3 hU) ((List.range units.length).map (rdN l spans units first tx)) (nsN l spans units first tx):=by
 obtain ⟨h1,_,h2,h3,_⟩ :=open_flds (l:=l) (spans:=spans) (units:=units) (first:=first) (tx:=tx) (bg:=l.big) (ln:=ln) (m1:=m1) (m2:=m2) (m3:=m3) (hU:=hU)
 exact fileRK hP h1 h2 h3
theorem fld_map (base:Nat) (a:Int):∀L:List AttrD,fldAt (L.map (dfOf base)) a=(L.find? fun b=>b.attr == a).map (dfOf base)
 | []=>rfl
 |b :: L=>by
  have ih:=fld_map base a L
  unfold fldAt at ih ⊢
  rw[List.map_cons,List.find?_cons,List.find?_cons]
  have:(dfOf base b).attr=b.attr:=rfl
  rw[this]
  split
  ·rfl
  ·exact ih
theorem top_ent (hP:PackOK l spans units first tx) {i:Nat} (hi:i < units.length):entAt l.big (rdN l spans units first tx i) (nsN l spans units first tx i) 0=
  ⟨(rdN l spans units first tx i).off,17,(nodeAt (unitOf units i) 0).children,(first.getD i []++spanAttrs (spanAt spans i) (atOf l spans i)++(nodeAt (unitOf units i) 0).attrs.filter keepAttr).map (dfOf (spN l spans units first tx i).s.info.length)⟩ :=by
 have hW:=hP.w i hi
 have h:=ent_at (bg:=l.big) (s:=(spN l spans units first tx i).s) (t:=(spN l spans units first tx i).t) hW hW.ne
 have e:nodeAt (newUnit l spans units first i) 0=headNode (spanAt spans i) (unitOf units i) (first.getD i []) (atOf l spans i):=rfl
 rw[e] at h
 have hp:=pos0_eq (bg:=l.big) (s:=(spN l spans units first tx i).s) (t:=(spN l spans units first tx i).t) hW
 rw[show (accN (newUnit l spans units first i) l.big (acc0 (newUnit l spans units first i) l.big (spN l spans units first tx i).s (spN l spans units first tx i).t) 0).pos=(rdN l spans units first tx i).off from hp.symm] at h
 exact h
theorem find_keep (u:UnitD) {a:Int} (ha:a=17∨a=18∨a=16∨a=82∨a=85∨a=27):((nodeAt u 0).attrs.filter keepAttr).find? (fun b=>b.attr == a)=none:=by
 rw[List.find?_eq_none]
 intro b hb
 rw[List.mem_filter] at hb
 have:=hb.2
 simp only[keepAttr,Bool.and_eq_true,bne_iff_ne] at this
 simp only[beq_iff_eq]
 omega
theorem find_first {u:UnitD} {f:List AttrD} (hf:FirstOK u f) {a:Int} (ha:a≠3∧a≠27∧a≠16):f.find? (fun b=>b.attr == a)=none:=by
 rw[List.find?_eq_none]
 intro b hb
 have:=hf.no b hb
 simp only[beq_iff_eq]
 omega
theorem lists_split {i:Nat} (hi:i < spans.length):∃rest,listsTo l spans spans.length=listsTo l spans i++((if (spanAt spans i).listed then listText l (spanAt spans i) else [])++rest):=by
 refine ⟨(spans.drop (i+1)).flatMap fun x=>if x.listed then listText l x else [], ?_⟩
 have h:=spanAt_get hi
 rw[←List.append_assoc,←listsTo_succ h]
 unfold listsTo
 rw[List.take_length,←List.flatMap_append,List.take_append_drop]
def posOf (l:LayoutD) (spans:List SpanD) (i:Nat):Nat:=beginOf l+(listsTo l spans i).length
theorem head_len (l:LayoutD) (b:Bytes):∃pre,listsHead l b=pre++b∧pre.length=(listsHead l []).length:=by
 refine ⟨lenText (fixed 5 2 l.big++[byI l.size,0]++fixed 0 4 l.big++b).length l.wide l.big++(fixed 5 2 l.big++[byI l.size,0]++fixed 0 4 l.big), ?_, ?_⟩
 ·unfold listsHead;rw[lenText_eq];simp only[List.append_assoc]
 ·unfold listsHead;rw[lenText_eq];simp only[List.length_append,lenText_len,List.length_nil];omega
theorem cover_ok (h:AllIn l spans units) (hP:PackOK l spans units first tx) (hf:∀i,i < units.length→FirstOK (newUnit l spans units first i) (first.getD i [])) {ln:Bytes} (hU m1 m2 m3:Value) {i:Nat} (hi:i < units.length):
  CoverOK l (openZ (spannedL l spans units first tx ln) l.big m1 m2 m3 hU) ((List.range units.length).map (rdN l spans units first tx)) (nsN l spans units first tx) i (spanAt spans i) (posOf l spans i):=by
 obtain ⟨h1,_,_,_,h5,h6⟩ :=open_flds (l:=l) (spans:=spans) (units:=units) (first:=first) (tx:=tx) (bg:=l.big) (ln:=ln) (m1:=m1) (m2:=m2) (m3:=m3) (hU:=hU)
 have hsl:=h.good.same
 have hn4:spans.length≤4:=by have:=h.good.len;omega
 have hW:=hP.w i hi
 have hv:=h.ver
 have hz:=h.size
 have hx:=h.span (List.mem_of_getElem? (spanAt_get (spans:=spans) (i:=i) (by omega)))
 have hll:=lists_len h
 have hhl:=listsHead_len (l:=l) (b:=listsTo l spans spans.length)
 obtain ⟨rest,hsp⟩ :=lists_split (l:=l) (spans:=spans) (i:=i) (by omega)
 have hL:=ats_len hW hW.ne (base:=0) (places:=[]) (t':= ⟨[],[]⟩)
 have hpos:atOf l spans i=(posOf l spans i:Int):=rfl
 have hhigh:=high_good (u:=newUnit l spans units first i) (a:=atOf l spans i) hW.size hx.1 (by have:=at_lt (l:=l) (spans:=spans) (by omega) (fun x hx=>(h.span hx).1) (by omega) (i:=i) (by omega);omega)
 have hfi:=hf i hi
 refine ⟨by simpa using hi, ?_, ?_, ?_, ?_⟩
 ·rw[uAt_rd hi];simp only[rdN,unitRd,usAt,unitS,newUnit,unitAt];omega
 ·rw[uAt_rd hi];simp only[rdN,unitRd,usAt,unitS,newUnit,unitAt];omega
 ·rw[uAt_rd hi,h1,top_ent hP hi]
  have hlow:(lowAttr (spanAt spans i)).attr=17:=rfl
  have no18:∀a:Int,a=18∨a=85∨a=82∨a=115→((lowAttr (spanAt spans i)).attr == a)=false:=fun a ha=>by rw[hlow,beq_eq_false_iff_ne];omega
  refine ⟨rfl, ?_, ?_, ?_, ?_, ?_, ?_⟩
  ·have h1:=hfi.len
   have h2:=List.length_filter_le keepAttr (nodeAt (unitOf units i) 0).attrs
   have h3:=((h.unit (List.mem_of_getElem? (unitOf_get hi))).2.node 0 _ (nodeAt_get (h.unit (List.mem_of_getElem? (unitOf_get hi))).2.len.1)).len
   simp only[List.length_map,List.length_append,spanAttrs,List.length_cons,List.length_nil];omega
  ·simp only[fld_map,List.find?_append,find_first hfi (a:=17) (by omega),spanAttrs,List.find?_cons,hlow,beq_self_eq_true,Option.none_or,Option.some_or]
   rfl
  ·simp only[fld_map,List.find?_append,find_first hfi (a:=18) (by omega),find_keep _ (a:=18) (by omega),spanAttrs,List.find?_cons,no18 18 (by omega),Option.none_or,List.find?_nil,Option.or_none]
   have hup:=hx.1.up
   have e1:=hx.1.low
   have e2:=hx.1.high
   by_cases hl:(spanAt spans i).listed=true
   ·rw[show highAttr (spanAt spans i) (atOf l spans i)= ⟨85,23,false,atOf l spans i,[],[]⟩ from if_pos hl,if_pos hl];rfl
   ·have:=hup (by simpa using hl)
    rw[if_neg hl]
    by_cases hg:(spanAt spans i).length=true
    ·rw[show highAttr (spanAt spans i) (atOf l spans i)= ⟨18,7,false,(spanAt spans i).high - (spanAt spans i).low,[],[]⟩ by rw[highAttr,if_neg hl,if_pos hg],if_pos hg]
     have w:IntKind.i64.wrap ((spanAt spans i).high - (spanAt spans i).low)=(spanAt spans i).high - (spanAt spans i).low:=wrap_i64 (by omega) (by omega)
     simp[dfOf,dvOf,fcls,w]
    ·rw[show highAttr (spanAt spans i) (atOf l spans i)= ⟨18,1,false,(spanAt spans i).high,[],[]⟩ by rw[highAttr,if_neg hl,if_neg hg],if_neg hg]
     simp[dfOf,dvOf,fcls]
  ·simp only[fld_map,List.find?_append,find_first hfi (a:=85) (by omega),find_keep _ (a:=85) (by omega),spanAttrs,List.find?_cons,no18 85 (by omega),Option.none_or,List.find?_nil,Option.or_none]
   by_cases hl:(spanAt spans i).listed=true
   ·rw[show highAttr (spanAt spans i) (atOf l spans i)= ⟨85,23,false,atOf l spans i,[],[]⟩ from if_pos hl,if_pos hl]
    have w:IntKind.i64.wrap (atOf l spans i)=(posOf l spans i:Int):=by
     have:=at_lt (l:=l) (spans:=spans) (by omega) (fun x hx=>(h.span hx).1) (by omega) (i:=i) (by omega)
     rw[wrap_i64 (by omega) (by omega)];rfl
    simp[dfOf,dvOf,fcls,w]
   ·rw[if_neg hl]
    have e:((highAttr (spanAt spans i) (atOf l spans i)).attr == 85)=false:=by
     rw[highAttr,if_neg hl]
     split<;>rfl
    simp[e]
  ·have e:((highAttr (spanAt spans i) (atOf l spans i)).attr == 82)=false:=by rw[beq_eq_false_iff_ne];have:=hhigh.2.2;omega
   simp only[fld_map,List.find?_append,find_first hfi (a:=82) (by omega),find_keep _ (a:=82) (by omega),spanAttrs,List.find?_cons,no18 82 (by omega),e,Option.none_or,List.find?_nil,Option.or_none,Option.map_none]
  ·rw[fld_map,Option.map_eq_none_iff,List.find?_eq_none]
   intro b hb
   have:=hW.no b hb
   simp only[beq_iff_eq];omega
 ·refine ⟨hv,hz,h1,hx.2.2,fun hl h5'=>?_,fun hl h5'=>?_, ?_,fun h5'=>?_,hx.1.low,hx.1.high,hx.1.up⟩
  ·rw[h5,if_neg (by omega),hsp,if_pos hl]
   refine ⟨_,_,rfl, ?_⟩
   simp only[posOf,beginOf,if_neg (show¬4 < l.version by omega)];omega
  ·rw[h6,if_pos (by omega)]
   obtain ⟨pre,e1,e2⟩ :=head_len l (listsTo l spans spans.length)
   refine ⟨pre++listsTo l spans i,rest, ?_, ?_⟩
   ·rw[e1,hsp,if_pos hl];simp only[List.append_assoc]
   ·simp only[posOf,beginOf,if_pos (show 4 < l.version by omega),List.length_append,e2]
  ·rw[h5,h6]
   split<;>simp only[List.length_nil]<;>omega
  ·rw[h6,if_pos (by omega)]
   intro e
   have:=congrArg List.length e
   unfold listsHead at this
   rw[lenText_eq] at this
   simp only[List.length_append,List.length_nil,List.length_cons] at this
   omega
end
end Go.Proofs.YtbkfdnkeelmloaaGreatDoor
