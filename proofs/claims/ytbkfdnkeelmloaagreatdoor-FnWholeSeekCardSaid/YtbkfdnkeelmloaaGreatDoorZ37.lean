/- Part 37 of the proof: W4. -/
import Derived.Test.YtbkfdnkeelmloaaGreatDoorZ28
import Derived.Test.YtbkfdnkeelmloaaGreatDoorZ30
import Derived.Test.YtbkfdnkeelmloaaGreatDoorZ35
import Derived.Test.YtbkfdnkeelmloaaGreatDoorZ36
set_option linter.unusedVariables false
set_option linter.unusedSimpArgs false
namespace Go.Proofs.YtbkfdnkeelmloaaGreatDoor
set_option maxHeartbeats 4000000
set_option maxRecDepth 10000
open Go.AM Go
theorem vcL_app {P:Program} {G:Nat→AV} {n:Nat} {ops:Array Oper} {K:St→Prop} {b:List Oper}:∀(a:List Oper) (S:St),vcL P G n ops K (a++b) S=vcL P G n ops (fun S'=>vcL P G n ops K b S') a S
 | [],_=>rfl
 |o :: a,S=>by
  simp only[List.cons_append,vcL_cons,vcL_app a]
theorem hCut {C:Ctx} {Q:Post} {S:St} {id:Nat} {l:List Oper} (m:Nat) (h:∀X:St→Prop,(∀S',vcL C.P C.G C.n l.toArray (Q .normal) (l.drop m) S'→X S')→vcL C.P C.G C.n l.toArray X (l.take m) S):Hoare C (.region id l.toArray false) Q S:=by
 refine hRegion ?_
 have:=h (fun S'=>vcL C.P C.G C.n l.toArray (Q .normal) (l.drop m) S') fun _ k=>k
 rw[←vcL_app,List.take_append_drop] at this
 exact this
theorem relR_imp {M:Mem} {sz b:Nat}:∀(xs ys:List (List AV)) (o:Nat),xs.length=ys.length→(∀(i:Nat) (x y:List AV),xs[i]? =some x→ys[i]? =some y→x.length=y.length∧∀o,relC M b o x→relC M b o y)→relR M sz b o xs→relR M sz b o ys
 | [],[],_,_,_,_=>trivial
 | [],_ :: _,_,h,_,_=>by cases h
 |_ :: _,[],_,h,_,_=>by cases h
 |x :: xs,y :: ys,o,hl,h, ⟨h1,h2,h3⟩ => ⟨by rw[←(h 0 x y rfl rfl).1];exact h1,(h 0 x y rfl rfl).2 o h2,relR_imp xs ys (o+sz) (by simpa using hl) (fun i x y hx hy=>h (i+1) x y (by simpa using hx) (by simpa using hy)) h3⟩
theorem firstK_len (n k:Nat) (f:List AttrD):(firstK n k f).length=n:=by simp[firstK]
theorem dat_imp {M:Mem} {sz:Nat} {xs ys:List (List AV)} {u:Value} (hl:xs.length=ys.length) (h:∀b o,relR M sz b o xs→relR M sz b o ys) (hr:(AV.dat false sz xs).rel M u):(AV.dat false sz ys).rel M u:=by
 obtain ⟨A,cap,e,h1,h2,h3,h4,h5⟩ :=hr
 refine ⟨A,cap,by rw[e,hl],(fun e=>by cases e),by rw[←hl];exact h2,by rw[←hl];exact h3,h4.imp (fun e=>?_) fun ⟨b,o,ea,hr⟩ => ⟨b,o,ea,h b o hr⟩,h5⟩
 rw[e] at hl
 exact List.eq_nil_of_length_eq_zero hl.symm
def attrN (a:AttrD):List AV:=[intV a.attr,intV a.form,booV a.indirect,u64V a.n,strV a.s,.val (.slice none 0 0)]
theorem attrN_rel {M:Mem} {f:List AttrD} (hf:∀a∈f,a.b=[]) (b o:Nat) (h:relR M 6 b o (f.map attrN)):relR M 6 b o (f.map attrC):=by
 refine relR_imp _ _ o (by simp) (fun i x y hx hy=>?_) h
 rw[List.getElem?_map] at hx hy
 cases ha:f[i]? with
 |none=>rw[ha] at hx;cases hx
 |some a=>
  rw[ha] at hx hy
  cases hx
  cases hy
  have hb:=hf a (List.mem_of_getElem? ha)
  refine ⟨rfl,fun o ⟨h1,h2,h3,h4,h5, ⟨v,h6,h7,h8⟩,h9⟩ => ⟨h1,h2,h3,h4,h5, ⟨v,h6,h7, ?_⟩,h9⟩⟩
  rw[hb]
  exact nil_dat h8
theorem first_rel {n k:Nat} {f:List AttrD} {M:Mem} {u:Value} (hf0:∀a∈f,a.b=[]) (h:(AV.dat false 1 ((List.replicate n [.val (.slice none 0 0)]).set k [.dat false 6 (f.map attrN)])).rel M u):(firstV (firstK n k f)).rel M u:=by
 have hl:((List.replicate n [AV.val (.slice none 0 0)]).set k [.dat false 6 (f.map attrN)]).length=((firstK n k f).map fun x=>[attrsV x]).length:=by simp[firstK_len]
 refine dat_imp hl (fun b o hr=>relR_imp _ _ o hl (fun i x y hx hy=>?_) hr) h
 rw[List.getElem?_map] at hy
 have hi:i < n:=by
  have:=(List.getElem?_eq_some_iff.1 hx).1
  simpa using this
 have hf:(firstK n k f)[i]? =some ((firstK n k f).getD i []):=by
  rw[List.getD_eq_getElem?_getD,List.getElem?_eq_getElem (by rw[firstK_len];exact hi)];rfl
 rw[hf,firstK_get] at hy
 rw[List.getElem?_set] at hx
 by_cases hk:k=i
 ·subst hk
  rw[if_pos ⟨rfl,hi⟩] at hy
  rw[if_pos rfl,if_pos (by simpa using hi)] at hx
  cases hx
  cases hy
  exact ⟨rfl,fun o ⟨⟨v,h1,h2,h3⟩,h4⟩ => ⟨⟨v,h1,h2,dat_imp (by simp) (attrN_rel hf0) h3⟩,h4⟩⟩
 ·rw[if_neg (fun e=>hk e.1.symm)] at hy
  rw[if_neg hk,List.getElem?_replicate,if_pos hi] at hx
  cases hx
  cases hy
  exact ⟨rfl,fun o ⟨⟨v,h1,h2,h3⟩,h4⟩ => ⟨⟨v,h1,h2,nil_dat h3⟩,h4⟩⟩
theorem turn_rep {g:AV→AV} [StillN g] {n k:Nat} {r:List AV}:turnR g ((List.replicate n [.val (.slice none 0 0)]).set k r)=(List.replicate n [.val (.slice none 0 0)]).set k (turnL g r):=by
 have h1:∀(l:List (List AV)) (k:Nat),turnR g (l.set k r)=(turnR g l).set k (turnL g r):=by
  intro l
  induction l with
  |nil=>intro k;rfl
  |cons a l ih=>intro k;cases k<;>simp[turnR,ih]
 rw[h1]
 congr 1
 induction n with
 |zero=>rfl
 |succ n ih=>simp only[List.replicate_succ,turnR,turnL,AV.turn,StillN.n,ih]
theorem fit_rep {p:AV→Prop} [StillP p] {n k:Nat} {r:List AV} (h:fitL p r):fitR p ((List.replicate n [.val (.slice none 0 0)]).set k r):=by
 refine fitR_set ?_ h
 induction n with
 |zero=>trivial
 |succ n ih=>exact ⟨⟨fit_v,trivial⟩,ih⟩
def rngTable (t:TableD):Prop:=(∀o∈t.ops,(0≤o.n∧o.n < 18446744073709551616)∧(-9223372036854775808≤o.m∧o.m≤9223372036854775807)∧0≤o.file.mtime∧o.file.mtime < 18446744073709551616)∧∀f∈t.files,0≤f.mtime∧f.mtime < 18446744073709551616
theorem fitR_row {p:AV→Prop} [StillP p] (l:List RowD):fitR p (rowsR l)=True:=eq_true (fitR_map (g:=rowC) (fun b=>by simp only[rowC,intV,u64V,booV,strV,fitL];exact ⟨fit_v,fit_v,fit_v,fit_v,fit_v,fit_v,fit_v,fit_v,fit_v,fit_v,fit_v,fit_v,fit_v,fit_v,fit_v,trivial⟩) l)
theorem fitR_str {p:AV→Prop} [StillP p] (l:List Bytes):fitR p (l.map fun s=>[AV.val (.string ⟨s.toArray⟩)])=True:=eq_true (fitR_map (g:=fun s=>[AV.val (.string ⟨s.toArray⟩)]) (fun b=> ⟨fit_v,trivial⟩) l)
attribute [go_sem] fitR_row fitR_str
section
variable {G:Nat→AV} {g:GData}
theorem f14k_ok {l:LayoutD} {spans:List SpanD} {units:List UnitD} {k:Nat} {f:List AttrD} {tx:Bytes} (txv:AV) (htx:∀M u,txv.rel M u→(bytesV tx).rel M u) (hA:AllIn l spans units) (hf:∀u,FirstOK u f) (hf0:∀a∈f,a.b=[]) (hl:tx.length≤1000000):
  Fulfils Tryz.prog G 14 [.agg (layoutC l),spansV spans,unitsV units,.dat false 1 ((List.replicate units.length [.val (.slice none 0 0)]).set k [.dat false 6 (f.map attrN)]),txv] []
  (retP (.tup [.agg (sectC (spannedS l spans units (firstK units.length k f) tx)),foundsV (spN l spans units (firstK units.length k f) tx units.length).found])):=by
 have hn:=hA.good.len
 have hz:=hA.size
 have hP:=hA.pack (first:=firstK units.length k f) (tx:=tx) (fun i _=>firstK_ok hf i _) hl
 refine (f14_ok l spans units (firstK units.length k f) tx hA.ver (by omega) (by omega) hA.good.same (firstK_len ..) (fun x hx=>(hA.span hx).1) (fun u hu=>?_) (fun f' hf2=>?_) (fun u hu x hx=>?_) hl fun i hi=>(hP.w i hi).ok).argsOf fun M vs h=>?_
 ·have:=(hA.unit hu).2.len;omega
 ·have h3:f.length≤10:=by
   have:=(hf ⟨0,false,0,[]⟩).len;omega
  unfold firstK at hf2
  rcases List.mem_or_eq_of_mem_set hf2 with h|h
  ·rw[(List.mem_replicate.1 h).2];simp
  ·rw[h];exact h3
 ·obtain ⟨i,hi⟩ :=List.getElem?_of_mem hx
  have:=((hA.unit hu).2.node i x hi).len;omega
 ·obtain ⟨v1,_,rfl,a1,v2,_,rfl,a2,v3,_,rfl,a3,v4,_,rfl,a4,v5,_,rfl,a5,a6⟩ :=h
  exact ⟨v1,_,rfl,a1,v2,_,rfl,a2,v3,_,rfl,a3,v4,_,rfl,first_rel hf0 a4,v5,_,rfl,htx M v5 a5,a6⟩
theorem f4_ok (hG:GOK G g) (hT:g.eofT=263) (l:LayoutD) (spans:List SpanD) (units:List UnitD) (k:Int) (t:TableD) (pc:Int) (hsp:inSpans spans) (hus:okUnits units) (hru:rngUnits units) (ht:okTable t) (hrt:rngTable t):
  Fulfils Tryz.prog G 4 [.agg (layoutC l),spansV spans,unitsV units,intV k,.agg (tableC t),u64V pc] [] (retP (booV true)):=by
 have hbig:big=140737488355328:=rfl
 have hl1:=hsp.1
 have hl2:=hus.1
 refine fulfilP (fn:=Tryz.f4) (rs:=[.tmp 12]) (Tryz.f4.body.getD .skip) (by kernel_rfl) rfl rfl rfl (by simp only[List.length_cons,List.length_nil];decide) rfl (by decide) ?_
 simp only[Tryz.f4,Option.getD_some,go_sem]
 repeat' first|refine rn ?_|refine br fun hb=>?_|with_reducible refine And.intro ?_ ?_|with_reducible refine fun (_:Outc)=>?_|omega|exact trivial|fail
 rename_i o6 o10
 refine callP (f5_ok spans ⟨hsp.1,fun x hx=>(hsp.2 x hx).len⟩) rfl ?_;(refine sim ?_;try exact trivial)
 repeat' first|refine rn ?_|refine br fun hb=>?_|with_reducible refine And.intro ?_ ?_|with_reducible refine fun (_:Outc)=>?_|omega|exact trivial|fail
 refine callGP (booV (fitsUnits units)) (fun _=>f6_ok units hus) (fun hg=> ⟨rfl,by simpa [cndOK] using hg⟩) ?_;(refine sim ?_;try exact trivial)
 repeat' first|refine rn ?_|refine br fun hb=>?_|with_reducible refine And.intro ?_ ?_|with_reducible refine fun (_:Outc)=>?_|omega|exact trivial|fail
 refine callGP (booV (fitsTable t)) (fun _=>f7_ok t ht) (fun hg=> ⟨rfl,by simpa [cndOK] using hg⟩) ?_;(refine sim ?_;try exact trivial)
 repeat' first|refine rn ?_|refine br fun hb=>?_|with_reducible refine And.intro ?_ ?_|with_reducible refine fun (_:Outc)=>?_|omega|exact trivial|fail
 refine callGP (booV (areSpanned l spans units)) (fun _=>f9_ok l spans units hsp hus) (fun hg=> ⟨rfl,by simpa [cndOK] using hg⟩) ?_;(refine sim ?_;try exact trivial)
 repeat' first|refine rn ?_|refine br fun hb=>?_|with_reducible refine And.intro ?_ ?_|with_reducible refine fun (_:Outc)=>?_|omega|exact trivial|fail
 rename_i hb0
 clear hb0
 obtain ⟨⟨⟨hv4,hk0⟩,hkl⟩,hsg⟩ :=hb
 by_cases hit:isTable t=true
 rotate_left
 ·have f10:=f10f_ok (G:=G) t ht (by simpa using hit)
  obtain ⟨b,hb0⟩ :∃b,b=false:= ⟨_,rfl⟩
  rw[←hb0] at f10
  refine callP f10 rfl ?_;(refine sim ?_;try exact trivial)
  refine s1 (s1 (hCut 5 fun X hX=>?_))
  simp -implicitDefEqProofs only[go_sem,↓reduceIte,Nat.reduceEqDiff,Nat.reduceLT,Nat.reduceLeDiff,Nat.reduceAdd,Nat.reduceSub,Nat.reduceMul,reduceCtorEq,List.reduceReplicate,Nat.reduceBEq,List.take_succ_cons,List.take_zero]
  refine callGP (bs:=[]) (booV true) (fun hg=>by simp[hb0] at hg) (fun hg=>by simp[hb0] at hg) ?_
  refine hX _ ?_
  simp -implicitDefEqProofs only[go_sem,↓reduceIte,Nat.reduceEqDiff,Nat.reduceLT,Nat.reduceLeDiff,Nat.reduceAdd,Nat.reduceSub,Nat.reduceMul,reduceCtorEq,List.reduceReplicate,Nat.reduceBEq,List.drop_succ_cons,List.drop_zero]
  repeat' first|refine rn ?_|refine br fun hb=>?_|with_reducible refine And.intro ?_ ?_|with_reducible refine fun (_:Outc)=>?_|omega|exact trivial|fail
  rw[hb0] at hb
  simp at hb
 have hin:=machIn_run hit t.ops.length (Nat.le_refl _)
 rw[List.take_length] at hin
 have hrl:=hin.rows
 obtain ⟨R,hR⟩ :∃R,R=(runM t t.ops).rows:= ⟨_,rfl⟩
 have f10:=f10_ok (G:=G) t ht hit
 rw[←hR] at f10 hrl
 obtain ⟨bd,hbd⟩ :∃bd,bd=(runM t t.ops).bad:= ⟨_,rfl⟩
 obtain ⟨kn,hkn⟩ :∃kn,kn=(runM t t.ops).known:= ⟨_,rfl⟩
 rw[←hbd,←hkn] at f10
 refine callA [] 2 (f10) ?_;rintro ret os fs ⟨hr,hk,rfl,rfl,rfl⟩;(refine sim ?_;try exact trivial)
 repeat' first|exact trivial|with_reducible refine And.intro ?_ ?_|omega|with_reducible refine fun (_:Outc)=>?_|fail
 refine hEnt (eFrz 1063 (by (refine sim ?_;try exact trivial))) ?_;(refine sim ?_;try exact trivial)
 refine hEnt (eFrz 2063 (by (refine sim ?_;try exact trivial))) ?_;(refine sim ?_;try exact trivial)
 refine hLe ⟨[(1,spansV spans),(2,unitsV units),(3,intV k),(5,u64V pc),(6,.ref 6 o6.b 0),(10,.ref 10 o10.b 0),(13,.dat false 15 (rowsR R)),(15,booV (!bd))],[(6,some (.cells o6.b 0 (layoutC l))),(10,some (.cells o10.b 0 (tableC t)))]⟩ (by (refine sim ?_;try exact trivial)) ?_
 (refine sim ?_;try exact trivial)
 refine s1 (s1 (hCut 5 fun X hX=>?_))
 simp -implicitDefEqProofs only[go_sem,↓reduceIte,Nat.reduceEqDiff,Nat.reduceLT,Nat.reduceLeDiff,Nat.reduceAdd,Nat.reduceSub,Nat.reduceMul,reduceCtorEq,List.reduceReplicate,Nat.reduceBEq,List.take_succ_cons,List.take_zero]
 refine callGP (booV (rising R)) (fun _=>f11_ok R hrl) (fun hg=> ⟨rfl,by simpa [cndOK] using hg⟩) ?_
 refine hX _ ?_
 simp -implicitDefEqProofs only[go_sem,↓reduceIte,Nat.reduceEqDiff,Nat.reduceLT,Nat.reduceLeDiff,Nat.reduceAdd,Nat.reduceSub,Nat.reduceMul,reduceCtorEq,List.reduceReplicate,Nat.reduceBEq,List.drop_succ_cons,List.drop_zero]
 repeat' first|refine rn ?_|refine br fun hb=>?_|with_reducible refine And.intro ?_ ?_|with_reducible refine fun (_:Outc)=>?_|omega|exact trivial|fail
 clear hX
 clear X
 obtain ⟨⟨⟨⟨⟨hbd0,hris⟩,hdirs⟩,hR0⟩,htb⟩,hts⟩ :=hb
 have hdn:t.dirs=[]:=List.eq_nil_of_length_eq_zero (by omega)
 have hgood:SpannedGood l spans units:=Classical.byContradiction fun h=>by rw[areSpanned_f h] at hsg;cases hsg
 have hAll:AllIn l spans units:= ⟨hv4,hgood,hsp.2,hru⟩
 have hTab:TabIn t:= ⟨hit,hdn,hrt.1,hrt.2⟩
 have hsl:=hgood.same
 have hul:=hgood.len
 refine hLoop (X:={i:Nat // i≤spans.length∧∀(j:Nat) (x:SpanD),j < i→spans[j]? =some x→(covers x pc=true↔(j:Int)=k)}) (fun i=> ⟨[(1,spansV spans),(2,unitsV units),(3,intV k),(5,u64V pc),(6,.ref 6 o6.b 0),(10,.ref 10 o10.b 0),(13,.dat false 15 (rowsR R)),(99,spansV spans),(100,intV spans.length),(101,intV i.1)],[(6,some (.cells o6.b 0 (layoutC l))),(10,some (.cells o10.b 0 (tableC t)))]⟩) (fun i=>spans.length - i.1) ⟨0,by omega,fun j x h=>by omega⟩ (by (refine sim ?_;try exact trivial);all_goals ((repeat' refine And.intro ?_ ?_)<;>first|rfl|omega|(dsimp only;omega)|(simp;done)|(simp;rfl)|skip)) ?_
 rintro ⟨i,hi,hall⟩
 (refine sim ?_;try exact trivial)
 by_cases hlt:i < spans.length
 ·obtain ⟨x,hx⟩ :=getX spans hlt
  have e:=row_at spanC hx
  have w4:IntKind.i64.wrap ((i:Int)+1)=((i+1:Nat):Int):=by rw[wrap_i64 (by omega) (by omega)];simp
  simp only[spanC,u64V,booV] at e
  have hxin:=(hAll.span (List.mem_of_getElem? hx)).2.1
  repeat' first|refine rnE @e ?_|refine br fun hb=>?_|with_reducible refine And.intro ?_ ?_|with_reducible refine fun (_:Outc)=>?_|omega|exact trivial|fail
  refine callP (f21_ok x hxin pc) rfl ?_;(refine sim ?_;try exact trivial)
  repeat' first|refine rnE @w4 ?_|refine br fun hb=>?_|with_reducible refine And.intro ?_ ?_|with_reducible refine fun (_:Outc)=>?_|omega|exact trivial|fail
  refine ⟨⟨i+1,hlt,fun j y hj hy=>?_⟩,rfl,by dsimp only;omega⟩
  rcases Nat.lt_or_ge j i with h|h
  ·exact hall j y h hy
  ·have:j=i:=by omega
   subst this
   rw[hx] at hy
   cases hy
   rw[hb,beq_iff_eq]
 have:i=spans.length:=by omega
 subst this
 repeat' first|refine rn ?_|refine br fun hb=>?_|with_reducible refine And.intro ?_ ?_|with_reducible refine fun (_:Outc)=>?_|omega|exact trivial|fail
 obtain ⟨hTO,hrd,hop⟩ :=hTab.ok
 refine callA [] 2 (f12_ok t hTO) ?_;rintro ret os fs ⟨h1,h2,rfl,rfl,rfl⟩;(refine sim ?_;try exact trivial)
 repeat' first|exact trivial|with_reducible refine And.intro ?_ ?_|omega|with_reducible refine fun (_:Outc)=>?_|fail
 refine hEnt (eFrz 1116 (by (refine sim ?_;try exact trivial))) ?_;(refine sim ?_;try exact trivial)
 refine hEnt (eFrz 2116 (by (refine sim ?_;try exact trivial))) ?_;(refine sim ?_;try exact trivial)
 refine hMeet (X:={a:AV // (∀M u,a.rel M u→(bytesV (lineTx t)).rel M u)∧∀k ob,a.fit (frz1P k ob)∧a.turn (frz1 k ob)=a}) (fun a=> ⟨[(1,spansV spans),(2,unitsV units),(3,intV k),(5,u64V pc),(6,.ref 6 o6.b 0),(10,.ref 10 o10.b 0),(13,.dat false 15 (rowsR R)),(18,.dat false 1 (bytesR (lineText t))),(19,a.1)],[(6,some (.cells o6.b 0 (layoutC l))),(10,some (.cells o10.b 0 (tableC t)))]⟩) ?_ ?_
 ·repeat' first|refine rn ?_|refine br fun hb=>?_|with_reducible refine And.intro ?_ ?_|with_reducible refine fun (_:Outc)=>?_|omega|exact trivial|fail
  ·exact ⟨⟨_,fun M u h=>by rw[lineTx,if_pos hb];exact nil_dat h,fun k ob=> ⟨fit_v,rfl⟩⟩,rfl⟩
  ·exact ⟨⟨_,fun M u h=>h,fun k ob=> ⟨fitR_by _,by (refine sim ?_;try exact trivial)⟩⟩,rfl⟩
 rintro ⟨txv,htx,hfr⟩
 (refine sim ?_;try exact trivial)
 have hft:=fun k ob=>eq_true (hfr k ob).1
 have htt:=fun k ob=>(hfr k ob).2
 obtain ⟨kk,rfl⟩ :∃kk:Nat,k=kk:= ⟨k.toNat,by omega⟩
 repeat' first|refine rn ?_|refine br fun hb=>?_|with_reducible refine And.intro ?_ ?_|with_reducible refine fun (_:Outc)=>?_|omega|exact trivial|fail
 refine callA [] 1 (f13_ok units (by omega)) ?_;rintro ret os fs ⟨h3,rfl,rfl,rfl⟩;(refine sim ?_;try exact trivial)
 repeat' first|exact trivial|with_reducible refine And.intro ?_ ?_|omega|with_reducible refine fun (_:Outc)=>?_|fail
 have er:=repl_get (n:=units.length) (j:=kk) (by omega) [.val (.slice none 0 0)]
 refine s1 (hRegion ?_)
 simp -implicitDefEqProofs only[go_sem,↓reduceIte,Nat.reduceEqDiff,Nat.reduceLT,Nat.reduceLeDiff,Nat.reduceAdd,Nat.reduceSub,Nat.reduceMul,reduceCtorEq,List.reduceReplicate,Nat.reduceBEq,er,List.set_cons_zero]
 repeat' first|exact trivial|with_reducible refine And.intro ?_ ?_|omega|with_reducible refine fun (_:Outc)=>?_|fail
 rename_i ox
 refine hLe ⟨[(1,spansV spans),(2,unitsV units),(3,intV kk),(5,u64V pc),(6,.ref 6 o6.b 0),(10,.ref 10 o10.b 0),(13,.dat false 15 (rowsR R)),(18,.dat false 1 (bytesR (lineText t))),(19,txv),(20,.buf 1123 h3)],[(6,some (.cells o6.b 0 (layoutC l))),(10,some (.cells o10.b 0 (tableC t))),(128,some (.arr ox.h 48 6 [attrN dirA,attrN (lstA 0)])),(1123,some (.arr h3 49 1 ((List.replicate units.length [.val (.slice none 0 0)]).set kk [.buf 128 ox.h])))]⟩ (by (refine sim ?_;try exact trivial);rfl) ?_
 dsimp only[attrN,dirA,lstA]
 (refine sim ?_;try exact trivial)
 refine hEnt (eFrz 128 (by simp -implicitDefEqProofs only[go_sem,↓reduceIte,Nat.reduceEqDiff,Nat.reduceLT,Nat.reduceLeDiff,Nat.reduceAdd,Nat.reduceSub,Nat.reduceMul,reduceCtorEq,List.reduceReplicate,Nat.reduceBEq,fitR,fitL,hft];refine fit_rep ?_;exact ⟨by (refine sim ?_;try exact trivial),trivial⟩)) ?_
 simp -implicitDefEqProofs only[go_sem,↓reduceIte,Nat.reduceEqDiff,Nat.reduceLT,Nat.reduceLeDiff,Nat.reduceAdd,Nat.reduceSub,Nat.reduceMul,reduceCtorEq,List.reduceReplicate,Nat.reduceBEq,turnR,turnL,htt,turn_rep]
 refine hEnt (eFrz 1123 (by simp -implicitDefEqProofs only[go_sem,↓reduceIte,Nat.reduceEqDiff,Nat.reduceLT,Nat.reduceLeDiff,Nat.reduceAdd,Nat.reduceSub,Nat.reduceMul,reduceCtorEq,List.reduceReplicate,Nat.reduceBEq,fitR,fitL,hft];refine fit_rep ?_;exact ⟨by simp -implicitDefEqProofs only[go_sem,↓reduceIte,Nat.reduceEqDiff,Nat.reduceLT,Nat.reduceLeDiff,Nat.reduceAdd,Nat.reduceSub,Nat.reduceMul,reduceCtorEq,List.reduceReplicate,Nat.reduceBEq,fitR,fitL],trivial⟩)) ?_
 simp -implicitDefEqProofs only[go_sem,↓reduceIte,Nat.reduceEqDiff,Nat.reduceLT,Nat.reduceLeDiff,Nat.reduceAdd,Nat.reduceSub,Nat.reduceMul,reduceCtorEq,List.reduceReplicate,Nat.reduceBEq,turnR,turnL,htt,turn_rep]
 have hn100:t.files.length≤100:=hTO.files
 have hlx:(lineTx t).length≤1000000:=by
  have:=txN_len (t:=t) (l:=t.files) hTO.file
  unfold lineTx
  split
  ·simp
  ·omega
 have hlt2:=lineText_len hTO
 have f14:=f14k_ok (G:=G) (k:=kk) (f:=[dirA,lstA 0]) (tx:=lineTx t) txv htx hAll first_seek (fun a ha=>by
  simp only[List.mem_cons,List.not_mem_nil,or_false] at ha
  rcases ha with rfl|rfl<;>rfl) hlx
 have hP:PackOK l spans units (firstK units.length kk [dirA,lstA 0]) (lineTx t):=hAll.pack (fun i _=>firstK_ok first_seek i _) hlx
 obtain ⟨fi,hfi⟩ :∃fi,fi=firstK units.length kk [dirA,lstA 0]:= ⟨_,rfl⟩
 rw[←hfi] at f14 hP
 have hkl':kk < units.length:=by omega
 have hfo:∀i,i < units.length→FirstOK (newUnit l spans units fi i) (fi.getD i []):=fun i _=>by rw[hfi];exact firstK_ok first_seek i _
 have hS:=sect_ok hAll hP (ln:=lineText t) (by omega)
 have hcv:∀i x,spans[i]? =some x→∀h m1 m2 m3,CoverOK l (openZ (spannedL l spans units fi (lineTx t) (lineText t)) l.big m1 m2 m3 h) ((List.range units.length).map (rdN l spans units fi (lineTx t))) (nsN l spans units fi (lineTx t)) i x (posOf l spans i):=fun i x hx h m1 m2 m3=>by
  have hi:=(List.getElem?_eq_some_iff.1 hx).1
  have e:=spanAt_get hi
  rw[hx] at e
  cases e
  exact cover_ok hAll hP hfo h m1 m2 m3 (by omega)
 have hus0:=(us0_eq hP (Nat.le_refl _)).symm
 have hL0:((List.range units.length).map (rdN l spans units fi (lineTx t))).length=units.length:=by simp
 have f22:=f22_ok (G:=G) hG l _ l.big _ hS _ hus0 (fun h m1 m2 m3=>file_ok hP h m1 m2 m3) spans (posOf l spans) (fun h m1 m2 m3 i x hx=>hcv i x hx h m1 m2 m3) (by rw[hL0];exact hsl) (fun x hx=>by have:=places_len (hAll.span hx).2.1;omega) kk pc (by rw[hL0];exact hkl')
  (fun i x hx hi=>by
   have:=hall i x (List.getElem?_eq_some_iff.1 hx).1 hx
   rw[this];omega) (by rw[uAt_rd hkl'];exact (top_dent hP hkl').1) (by rw[uAt_rd hkl'];exact (top_dent hP hkl').2)
 have hLn:∀h m1 m2 m3,LineOK (openZ (spannedL l spans units fi (lineTx t) (lineText t)) l.big m1 m2 m3 h) t [] (entAt l.big (uAt ((List.range units.length).map (rdN l spans units fi (lineTx t))) kk) (nsN l spans units fi (lineTx t) kk) 0):=fun h m1 m2 m3=>by
  rw[uAt_rd hkl']
  exact line_ok hAll hP hTab htb (pre:=[]) (by simp) (fun _=>rfl) hkl' ⟨[],by simp,by rw[hfi,firstK_get,if_pos ⟨rfl,hkl'⟩];rfl⟩ h m1 m2 m3
 have hbf:(t.ops.foldl (stepM t) (m0 t)).bad=false:=by rw[←hbd0];exact hbd.symm
 obtain ⟨L,hL1,hL2,hL3⟩ :=rows_same (c:=ctxOf t []) hdn t.ops (good0 t) (fun o ho=>(hTab.op o ho).1) hbf
 have hRL:R=L:=hR.trans hL1
 subst hRL
 have hAR:AllRd (ctxOf t []) (m0 t) t.ops:=all_rd (c:=ctxOf t []) rfl hTab t.ops (good0 t) (fun o h=>h) (by show t.files.length+t.ops.length≤900000;have:=hTO.ops;omega) hbf
 obtain ⟨r0,hr0⟩ :=getX R (i:=0) (by omega)
 obtain ⟨rx,hrx⟩ :=getX (rowsL (ctxOf t []) (m0 t) t.ops) (i:=0) (by omega)
 have hsame:=(hL3 0 r0 rx hr0 hrx).2.1
 have f17:=f17_ok (G:=G) hG hT _ l.big _ hS _ hus0 (fun h m1 m2 m3=>file_ok hP h m1 m2 m3) kk (by rw[hL0];exact hkl') t [] hLn (by rw[hts];exact (hcv kk _ (spanAt_get (by omega)) (.bool true) (.bool true) (.bool true) (.bool true)).size) hAR _ rfl 1 (by omega) (by omega)
 have e17:lansR (rowsL (ctxOf t []) (m0 t) t.ops) 1=[lansC rx 0]:=by rw[←lansR_succ hrx];rfl
 rw[uAt_rd hkl'] at f17
 rw[uAt_rd hkl'] at f22
 obtain ⟨e0,rr,he0,heo⟩ :=fd_first hP hkl'
 have hoff:(entAt l.big (rdN l spans units fi (lineTx t) kk) (nsN l spans units fi (lineTx t) kk) 0).off=(rdN l spans units fi (lineTx t) kk).off:=by rw[top_ent hP hkl']
 have eF:((spN l spans units fi (lineTx t) units.length).found.map foundC).getD kk []=[intV (fdN l spans units fi (lineTx t) kk).base,.dat false 4 (entryC e0 :: rr.map entryC)]:=by
  rw[found_eq]
  rw[row_at foundC (x:=fdN l spans units fi (lineTx t) kk) (by simp[hkl'])]
  simp only[foundC,entriesV,he0,List.map_cons]
 have eFl:(spN l spans units fi (lineTx t) units.length).found.length=units.length:=by rw[found_eq];simp
 have eR:(rowsR R).getD 0 []=rowC r0:=row_at rowC hr0
 have c1:(((1:Nat):Int) == 1)=true:=rfl
 generalize entAt l.big (rdN l spans units fi (lineTx t) kk) (nsN l spans units fi (lineTx t) kk) 0=en at *
 generalize (spN l spans units fi (lineTx t) units.length).found=FD at *
 obtain ⟨SS,hSS⟩ :∃SS,SS=spannedS l spans units fi (lineTx t):= ⟨_,rfl⟩
 rw[show spannedL l spans units fi (lineTx t) (lineText t)={ SS with line:=lineText t } by rw[hSS];rfl] at f22 f17
 rw[←hSS] at f14
 have heq:(entE en).offset=((rdN l spans units fi (lineTx t) kk).off:Int):=by rw[←hoff];rfl
 rw[←heq] at f17
 clear hcv hLn hus0 hP hS
 repeat' first|refine rn ?_|refine br fun hb=>?_|with_reducible refine And.intro ?_ ?_|with_reducible refine fun (_:Outc)=>?_|omega|exact trivial|fail
 refine callP f14 rfl ?_;(refine sim ?_;try exact trivial)
 repeat' first|refine rn ?_|refine br fun hb=>?_|with_reducible refine And.intro ?_ ?_|with_reducible refine fun (_:Outc)=>?_|omega|exact trivial|fail
 refine callP f22 rfl ?_;(refine sim ?_;try exact trivial)
 repeat' first|refine rn ?_|refine br fun hb=>?_|with_reducible refine And.intro ?_ ?_|with_reducible refine fun (_:Outc)=>?_|omega|exact trivial|fail
 refine hRegionD (noChi) [0,1,2,3,4,5,6,7,8,9,10,11,12,13,14] [0,1,3,7,15,7,7,103,231,487,999,2023,4071,8191,16383] [] mixed (by kernel_rfl) ?_
 simp -implicitDefEqProofs only[go_sem,↓reduceIte,Nat.reduceEqDiff,Nat.reduceLT,Nat.reduceLeDiff,Nat.reduceAdd,Nat.reduceSub,Nat.reduceMul,reduceCtorEq,List.reduceReplicate,Nat.reduceBEq,eF,List.getD_cons_zero,heo,hoff,bne_self_eq_false]
 repeat' first|refine rn ?_|refine br fun hb=>?_|with_reducible refine And.intro ?_ ?_|with_reducible refine fun (_:Outc)=>?_|omega|exact trivial|fail
 refine hRegionD (fun jx _=>if jx=4 then mkC [] 168 1 [167] (f17) else (default,([],[]))) [0,1,2,3,4,5,6,7,8,9,10,11] [0,0,2,0,15,31,63,63,63,127,767,2047] [(0,3),(2,3)] mixed (by kernel_rfl) ?_
 (refine sim ?_;try exact trivial)
 (repeat' first|refine rn ?_|refine br fun hb=>?_|with_reducible refine And.intro ?_ ?_|with_reducible refine fun (_:Outc)=>?_|omega|exact trivial|fail);refine callDA ?_;rintro ret os fs ⟨h17,rfl,rfl,rfl⟩;(refine sim ?_;try exact trivial)
 refine s1 ?_
 refine hRegionD (noChi) [0,1,2,3,4,5,6,7,8,9,10,11,12,13,14,15,16,17,18,19,20,21,22,23,24,25,26,27,28,29] [0,1,3,7,15,31,63,127,255,511,1023,2047,4095,8191,16383,32767,65535,131071,262143,524287,1048575,2097151,4194303,262143,8650751,25427967,58982399,134217727,268435455,536870911] [] mixed (by kernel_rfl) ?_
 simp -implicitDefEqProofs only[go_sem,↓reduceIte,Nat.reduceEqDiff,Nat.reduceLT,Nat.reduceLeDiff,Nat.reduceAdd,Nat.reduceSub,Nat.reduceMul,reduceCtorEq,List.reduceReplicate,Nat.reduceBEq,e17,eR,rowC,lansC,List.getD_cons_zero,c1,beq_self_eq_true,Bool.and_self,hsame]
 repeat' first|refine rn ?_|refine br fun hb=>?_|with_reducible refine And.intro ?_ ?_|with_reducible refine fun (_:Outc)=>?_|omega|exact trivial|fail
end
end Go.Proofs.YtbkfdnkeelmloaaGreatDoor
