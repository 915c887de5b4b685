/- Part 6 of the proof: Am18 Am19 Am20 Am21 Am22 Am23 Am24 Am25. -/
import Derived.ScopeJumps
import Derived.Test.YtbkfdnkeelmloaaGreatDoorZ5
set_option linter.unusedVariables false
set_option linter.unusedSimpArgs false
namespace Go.AM
open Go
abbrev Post:=Exit→St→Prop
def Hoare (C:Ctx) (c:Code) (Q:Post) (S:St):Prop:=
 ∀w0 M0 M a w,Sat { C with w0:=w0,M0:=M0 } S M a w→c.wp C.P (fun e a' w'=>∃M' S',Sat { C with w0:=w0,M0:=M0 } S' M' a' w'∧Q e S') a w
section
variable {C:Ctx} {Q:Post} {S:St}
def thn (K:St→Prop) (Q:Post):Post
 | .normal,S=>K S
 |e,S=>Q e S
def blk (id:Nat) (Q:Post):Post
 | .exit j,S=>if j=id then Q .normal S else Q (.exit j) S
 |e,S=>Q e S
theorem hSeq {a b:Code} (h:Hoare C a (thn (Hoare C b Q) Q) S):Hoare C (.seq a b) Q S:=by
 intro w0 M0 M a w hS
 refine wp_seq (wp_mono (h w0 M0 M a w hS) fun e a' w' ⟨M',S',hS',hq⟩ =>?_)
 cases e with
 |normal=>exact hq w0 M0 M' a' w' hS'
 |_=>exact ⟨M',S',hS',hq⟩
theorem hRegion {id:Nat} {l:List Oper} (h:vcL C.P C.G C.n l.toArray (Q .normal) l S):Hoare C (.region id l.toArray false) Q S:=by
 intro w0 M0 M a w hS
 exact wp_region_lit (vcL_sound (E:={ C with w0:=w0,M0:=M0 }) (K:=Q .normal) (fun S M a w hS hK=> ⟨M,S,hS,hK⟩) l S M a w hS h)
theorem hRegionD {id:Nat} {l:List Oper} (χ:Chi C.P C.G) (perm ms:List Nat) (fl:List (Nat×Nat)) (hm:C.P.follows .mixedOrders=true) (hok:okD l.toArray perm fl ms=true)
  (h:vcD C.n l.toArray χ fl (Q .normal) [] perm S):Hoare C (.region id l.toArray true) Q S:=by
 intro w0 M0 M a w hS
 exact wp_region_any hm (drawn_sound (E:={ C with w0:=w0,M0:=M0 }) (K:=Q .normal) hok (fun S M a w hS hK=> ⟨M,S,hS,hK⟩) hS.drew h)
theorem hCond {c:Operand} {x y:Code} {b:Bool} (hb:opA C.G S.ρ c= .val (.bool b)) (h1:b=true→Hoare C x Q S) (h2:b=false→Hoare C y Q S):Hoare C (.cond c x y) Q S:=by
 intro w0 M0 M a w hS
 have hr:=opA_rel hS c
 have hb':opA ({ C with w0:=w0,M0:=M0 }:Env).G S.ρ c= .val (.bool b):=hb
 rw[hb'] at hr
 exact wp_cond_split hr (fun e=>h1 e w0 M0 M a w hS) fun e=>h2 e w0 M0 M a w hS
theorem hBlock {id:Nat} {c:Code} (h:Hoare C c (blk id Q) S):Hoare C (.block id c) Q S:=by
 intro w0 M0 M a w hS
 refine wp_block (wp_mono (h w0 M0 M a w hS) fun e a' w' ⟨M',S',hS',hq⟩ =>?_)
 cases e with
 |exit j=>
  simp only[blk] at hq
  simp only[Exit.inBlock]
  split
  ·rename_i e;rw[if_pos e] at hq;exact ⟨M',S',hS',hq⟩
  ·rename_i e;rw[if_neg e] at hq;exact ⟨M',S',hS',hq⟩
 |_=>exact ⟨M',S',hS',hq⟩
theorem hSkip (h:Q .normal S):Hoare C .skip Q S:=fun w0 M0 M a w hS=>wp_skip ⟨M,S,hS,h⟩
theorem hExit {id:Nat} (h:Q (.exit id) S):Hoare C (.exit id) Q S:=fun w0 M0 M a w hS=>wp_exit ⟨M,S,hS,h⟩
theorem hRet (h:Q .ret S):Hoare C .ret Q S:=fun w0 M0 M a w hS=>wp_ret ⟨M,S,hS,h⟩
def leS (A S:St):Prop:=(∀p∈A.ρ,getA S.ρ p.1=p.2)∧∀p∈A.H,getO S.H p.1=p.2
theorem getA_mem:∀{ρ:List (Nat×AV)} {t:Nat},getA ρ t= .top∨(t,getA ρ t)∈ρ
 | [],_=>.inl rfl
 |(k,v) :: r,t=>by
  simp only[getA]
  split
  ·rename_i e;subst e;exact .inr (by simp)
  ·exact (getA_mem (ρ:=r)).imp id (List.mem_cons_of_mem _)
theorem getO_mem:∀{H:List (Nat×Option AObj)} {t:Nat},getO H t=none∨(t,getO H t)∈H
 | [],_=>.inl rfl
 |(k,v) :: r,t=>by
  simp only[getO]
  split
  ·rename_i e;subst e;exact .inr (by simp)
  ·exact (getO_mem (H:=r)).imp id (List.mem_cons_of_mem _)
theorem Sat.le {E:Env} {A S:St} {M:Mem} {a:Act} {w:World} (h:Sat E S M a w) (hl:leS A S):Sat E A M a w:=
 h.sub (fun t=>getA_mem.imp id fun hm=>(hl.1 _ hm).symm) fun k=>getO_mem.imp id fun hm=>(hl.2 _ hm).symm
theorem hLe {c:Code} (A:St) (hl:leS A S) (h:Hoare C c Q A):Hoare C c Q S:=fun w0 M0 M a w hS=>h w0 M0 M a w (hS.le hl)
def Ent (C:Ctx) (S S':St):Prop:=∀w0 M0 M a w,Sat { C with w0:=w0,M0:=M0 } S M a w→∃M',Sat { C with w0:=w0,M0:=M0 } S' M' a w
theorem hEnt {c:Code} {S':St} (he:Ent C S S') (h:Hoare C c Q S'):Hoare C c Q S:=fun w0 M0 M a w hS=>let ⟨M',h'⟩ :=he w0 M0 M a w hS;h w0 M0 M' a w h'
theorem hLoop {c:Code} {X:Type} (F:X→St) (μ:X→Nat) (x0:X) (h0:leS (F x0) S)
  (hr:∀x,Hoare C c (thn (fun S'=>∃x',leS (F x') S'∧μ x' < μ x) Q) (F x)):Hoare C (.loop c) Q S:=by
 intro w0 M0 M a w hS
 have key:∀n x M a w,μ x=n→Sat { C with w0:=w0,M0:=M0 } (F x) M a w→∀b k cs,∃e a' w',(∃M' S',Sat { C with w0:=w0,M0:=M0 } S' M' a' w'∧Q e S')∧
   Arrives C.P (lone (b.at a (.code c :: .inLoop c :: k)) cs w) b k cs e a' w':=by
  intro n
  induction n using Nat.strongRecOn with
  |_ n ih=>
   intro x M a w hn hx b k cs
   obtain ⟨e,a₁,w₁, ⟨M',S',hS',hq⟩,harr⟩ :=hr x w0 M0 M a w hx b (.inLoop c :: k) cs
   cases e with
   |normal=>
    obtain ⟨x',hle,hlt⟩ :=hq
    obtain ⟨e₂,a₂,w₂,hq₂,harr₂⟩ :=ih (μ x') (hn▸hlt) x' M' a₁ w₁ rfl (hS'.le hle) b k cs
    exact ⟨e₂,a₂,w₂,hq₂,.of_steps (Steps.trans harr (.one step_inLoop)) harr₂⟩
   |exit id=>exact ⟨_,a₁,w₁, ⟨M',S',hS',hq⟩,.pass (x:=.inLoop c) rfl (fun _ _=>.inl (by simp)) harr⟩
   |goto l=>exact ⟨_,a₁,w₁, ⟨M',S',hS',hq⟩,.pass (x:=.inLoop c) rfl (fun _ _=>.inl (by simp)) harr⟩
   |ret=>exact ⟨_,a₁,w₁, ⟨M',S',hS',hq⟩,.pass (x:=.inLoop c) rfl (fun _ _=>.inl (by simp)) harr⟩
   |panic ch=>exact ⟨_,a₁,w₁, ⟨M',S',hS',hq⟩,.pass (x:=.inLoop c) rfl (fun _ _=>.inl (by simp)) harr⟩
   |outgrown=>exact ⟨_,a₁,w₁, ⟨M',S',hS',hq⟩,.pass (x:=.inLoop c) rfl (fun _ _=>.inl (by simp)) harr⟩
 intro b k cs
 obtain ⟨e,a',w',hq,harr⟩ :=key _ x0 M a w rfl (hS.le h0) b k cs
 exact ⟨e,a',w',hq,.of_steps (.one step_loop) harr⟩
def jmp (l:Nat) (K:St→Prop) (Q:Post):Post
 | .goto l',S=>l'=l∧K S
 |e,S=>Q e S
def noGo (Q:Post):Post
 | .goto _,_=>False
 |e,S=>Q e S
theorem hScope {c rest:Code} (l:Nat) (hf:findLabel c l=some rest) (h:Hoare C c (jmp l (Hoare C rest (noGo Q)) Q) S):Hoare C (.scope c) Q S:=by
 intro w0 M0 M a w hS
 refine wp_scope_jumps (Q:=fun e a' w'=>∃M' S',Sat { C with w0:=w0,M0:=M0 } S' M' a' w'∧Q e S') l (fun a' w'=>∃M' S',Sat { C with w0:=w0,M0:=M0 } S' M' a' w'∧Hoare C rest (noGo Q) S') (fun _ _=>0) hf
  (wp_mono (h w0 M0 M a w hS) fun e a' w' ⟨M',S',hS',hq⟩ =>?_) fun a w ⟨M',S',hS',hr⟩ =>wp_mono (hr w0 M0 M' a w hS') fun e a' w' ⟨M2,S2,hS2,hq⟩ =>?_
 ·cases e with
  |goto l'=>exact ⟨hq.1,M',S',hS',hq.2⟩
  |_=>exact ⟨M',S',hS',hq⟩
 ·cases e with
  |goto l'=>exact hq.elim
  |_=>exact ⟨M2,S2,hS2,hq⟩
theorem hGoto {l:Nat} (h:Q (.goto l) S):Hoare C (.goto l) Q S:=fun w0 M0 M a w hS=>wp_goto ⟨M,S,hS,h⟩
theorem hMeet {a b:Code} {X:Type} (F:X→St) (h:Hoare C a (thn (fun S'=>∃x,leS (F x) S') Q) S) (hr:∀x,Hoare C b Q (F x)):Hoare C (.seq a b) Q S:=by
 refine hSeq fun w0 M0 M a w hS=>wp_mono (h w0 M0 M a w hS) fun e a' w' ⟨M',S',hS',hq⟩ => ⟨M',S',hS', ?_⟩
 cases e with
 |normal=>obtain ⟨x,hx⟩ :=hq;exact hLe (F x) hx (hr x)
 |_=>exact hq
theorem eOwn (k t e sz:Nat) (h:getA S.ρ t= .val (.slice none 0 0)):Ent C S ⟨(t,.buf k (.slice none 0 0)) :: S.ρ,(k,some (.arr (.slice none 0 0) e sz [])) :: S.H⟩ :=by
 intro w0 M0 M a w hS
 have h1:=Sat.world (M':=M) hS [] [(k,some (.arr (.slice none 0 0) e sz []))] rfl rfl rfl (Nat.le_refl _) (fun _ _ _=>rfl) (fun k hk=>by cases hk) (fun k hk=>by cases hk) (Mem.le.refl M) hS.memw (fun b o hb=>.inl hb)
  (fun k' ob e1=>by
   simp only[getO] at e1
   split at e1
   ·cases e1
    exact ⟨⟨[],ownsZ_nil w e sz,rfl,by simp,by simp⟩,fun b hb=>by simp[AObj.blk,Value.ownBlock] at hb⟩
   ·cases e1)
  (fun k1 k2 ob1 ob2 b e1 e2 hb=>by
   simp only[getO] at e1
   split at e1
   ·cases e1;simp[AObj.blk,Value.ownBlock] at hb
   ·cases e1)
 refine ⟨M,{ h1 with slot:=fun t'=>?_ }⟩
 simp only[getA]
 split
 ·rename_i e1
  subst e1
  have:=hS.slot t
  rw[h] at this
  exact ⟨this,none,0,0,rfl⟩
 ·exact hS.slot t'
end
def idxA:Nat→List AV→List (Nat×AV)
 |_,[]=>[]
 |i,a :: as=>(i,a) :: idxA (i+1) as
def idxO:Nat→List AObj→List (Nat×Option AObj)
 |_,[]=>[]
 |i,a :: as=>(i,some a) :: idxO (i+1) as
def osA (H:List (Nat×Option AObj)):Nat→Nat→List (Option AObj)
 |_,0=>[]
 |i,n+1=>getO H i :: osA H (i+1) n
def resOne (P:Program) (S:St):ResultVar→AV
 | .tmp t=>getA S.ρ t
 | .cell a t=>(actLoad P t (getA S.ρ a) (getO S.H)).res default
def resOK (P:Program) (S:St):ResultVar→Prop
 | .tmp _=>True
 | .cell a t=>(actLoad P t (getA S.ρ a) (getO S.H)).pre
def resA (P:Program) (S:St):List ResultVar→AV
 | [r]=>resOne P S r
 |rs=>.tup (rs.map (resOne P S))
def done (P:Program) (no:Nat) (rs:List ResultVar) (R:(Nat→AV)→List (Option AObj)→List (Option AObj)→Prop) (S:St):Prop:=
 ∃(ret:Nat→AV) (ks:List Nat),R ret (osA S.H 0 no) (ks.map (getO S.H))∧(∀k∈ks,no≤k)∧ks.Nodup∧allP (rs.map (resOK P S))∧∀n,normA (ret n)=normA (resA P S rs)
def endQ (P:Program) (no:Nat) (rs:List ResultVar) (R:(Nat→AV)→List (Option AObj)→List (Option AObj)→Prop):Post
 | .ret,S=>done P no rs R S
 | .normal,S=>done P no rs R S
 |_,_=>False
theorem getA_idx:∀{as:List AV} {i t:Nat},getA (idxA i as) t=if i≤t then as.getD (t - i) .top else .top
 | [],i,t=>by simp[idxA,getA]
 |a :: as,i,t=>by
  simp only[idxA,getA,getA_idx (as:=as)]
  by_cases e:i=t
  ·subst e;simp
  ·by_cases h:i≤t
   ·have:i+1≤t:=by omega
    have e2:t - i=(t - (i+1))+1:=by omega
    simp only[if_neg e,if_pos this,if_pos h,e2,List.getD_cons_succ]
   ·have:¬i+1≤t:=by omega
    simp only[if_neg e,if_neg this,if_neg h]
theorem getO_idx:∀{os:List AObj} {i t:Nat},getO (idxO i os) t=if i≤t then os[t - i]? else none
 | [],i,t=>by simp[idxO,getO]
 |a :: as,i,t=>by
  simp only[idxO,getO,getO_idx (os:=as)]
  by_cases e:i=t
  ·subst e;simp
  ·by_cases h:i≤t
   ·have:i+1≤t:=by omega
    have e2:t - i=(t - (i+1))+1:=by omega
    simp only[if_neg e,if_pos this,if_pos h,e2,List.getElem?_cons_succ]
   ·have:¬i+1≤t:=by omega
    simp only[if_neg e,if_neg this,if_neg h]
theorem osA_get (H:List (Nat×Option AObj)):∀(n i j:Nat),(osA H i n)[j]? =if j < n then some (getO H (i+j)) else none
 |0,i,j=>by simp[osA]
 |n+1,i,0=>by simp[osA]
 |n+1,i,j+1=>by
  simp only[osA,List.getElem?_cons_succ,osA_get H n (i+1) j,Nat.add_lt_add_iff_right]
  rw[show i+1+j=i+(j+1) by omega]
theorem osA_len (H:List (Nat×Option AObj)):∀(n i:Nat),(osA H i n).length=n
 |0,i=>rfl
 |n+1,i=>by simp[osA,osA_len H n (i+1)]
theorem run_sure {P:Program} {w:World} {t:TypeId} {v u:Value} (h:(Instr.loadAt t v).run P w= .ok u w):(do loadVar t (←asAddr v):Sem Value).run P w= .ok u w:=by
 unfold Instr.loadAt at h
 cases v<;>simp[Instr.sureAddr,asAddr] at h ⊢
 rename_i A
 cases A<;>simp at h ⊢
 exact h
def resF (tmps:Array Value):ResultVar→Sem Value
 | .tmp t=>pure (tmps.getD t undef)
 | .cell a t=>do loadVar t (←asAddr (tmps.getD a undef))
theorem run_resF {E:Env} {S:St} {M:Mem} {a:Act} {w:World} (hS:Sat E S M a w):∀r,resOK E.P S r→∃v,(resF a.tmps r).run E.P w= .ok v w∧(resOne E.P S r).rel M v
 | .tmp t,_=> ⟨_,rfl,hS.slot t⟩
 | .cell x t,h=>by
  obtain ⟨p,u,v,e,h1,h2⟩ :=s_load hS.mw (hS.slot x) h
  refine ⟨v,run_sure h1, ?_⟩
  simp only[resOne]
  rw[e]
  exact h2
theorem run_results {E:Env} {S:St} {M:Mem} {a:Act} {w:World} {fn:Func} (hS:Sat E S M a w):∀{rs:List ResultVar},fn.results=rs.toArray→rs.length≤4→allP (rs.map (resOK E.P S))→
  ∃v,(results fn a.tmps).run E.P w= .ok v w∧(resA E.P S rs).rel M v:=by
 intro rs h hl hall
 have hfun:results fn a.tmps=(do let vs←Array.mapM (resF a.tmps) fn.results;pure (if h:vs.size=1 then vs[0] else .tuple vs)):=by
  unfold results
  congr 2
 have key:∀l:List ResultVar,allP (l.map (resOK E.P S))→∃vs:List Value,(List.mapM (resF a.tmps) l).run E.P w= .ok vs w∧relT M (l.map (resOne E.P S)) vs:=by
  intro l
  induction l with
  |nil=>intro _;exact ⟨[],by simp,rfl⟩
  |cons r l ih=>
   rintro ⟨h1,h2⟩
   obtain ⟨v,hv,hr⟩ :=run_resF hS r h1
   obtain ⟨vs,hvs,hrs⟩ :=ih h2
   exact ⟨v :: vs,by simp[List.mapM_cons,hv,hvs],v,vs,rfl,hr,hrs⟩
 obtain ⟨vs,hvs,hrel⟩ :=key rs hall
 have hlen:=relT_length hrel
 have hm:(Array.mapM (resF a.tmps) rs.toArray).run E.P w= .ok vs.toArray w:=by
  rw[List.mapM_toArray]
  have:(List.toArray <$> List.mapM (resF a.tmps) rs:Sem (Array Value))=(do let l←List.mapM (resF a.tmps) rs;pure l.toArray):=rfl
  rw[this]
  simp[hvs]
 rw[hfun,h]
 match rs,vs,hrel,hlen,hm with
 | [r],[v], ⟨u,q,e,h1,_⟩,_,hm=>
  cases e
  exact ⟨v,by simp only[Sem.run_bind,hm,Result.andThen_ok];rfl,h1⟩
 | [],[],_,_,hm=>exact ⟨.tuple #[],by simp only[Sem.run_bind,hm,Result.andThen_ok];rfl,[],rfl,rfl⟩
 |r :: r' :: rs,v :: v' :: vs,hrel,_,hm=>
  refine ⟨.tuple (v :: v' :: vs).toArray, ?_,_,rfl,hrel⟩
  simp only[Sem.run_bind,hm,Result.andThen_ok]
  simp
theorem fulfil {P:Program} {G:Nat→AV} {f:FuncId} {fn:Func} {body:Code} {n:Nat} {rs:List ResultVar} {args:List AV} {objs:List AObj} {R:(Nat→AV)→List (Option AObj)→List (Option AObj)→Prop}
  (hf:P.funcs[f]? =some fn) (hb:fn.body=some body) (hn:(fn.name == "runtime.NumGoroutine")=false) (hnt:fn.ntmps=n) (hl:args.length≤n) (hres:fn.results=rs.toArray) (hrs:rs.length≤4)
  (h:Hoare ⟨P,G,n,objs⟩ body (endQ P objs.length rs R) ⟨idxA 0 args,idxO 0 objs⟩):Fulfils P G f args objs R:=by
 intro M w vs hmw hG hargs hown hdisj
 have hvl:=relT_length hargs
 unfold CallsX
 have hc:(callFunc f vs.toArray).run P w= .ok (.enter f vs.toArray) w:=by
  have hn':¬fn.name= "runtime.NumGoroutine" :=by simpa using hn
  simp[callFunc,hf,hb,hn']
 rw[hc]
 simp only
 refine calls_of_wp hf hb ?_
 have hgetE:∀(i:Nat) ob,getO (idxO 0 objs) i=some ob→objs[i]? =some ob:=fun i ob e=>by rw[getO_idx] at e;simpa using e
 have hS:Sat { P:=P,G:=G,n:=n,O0:=objs,w0:=w,M0:=M } ⟨idxA 0 args,idxO 0 objs⟩ M { tmps:=vs.toArray++Array.replicate (fn.ntmps - vs.toArray.size) undef,defers:=[] } w:=by
  refine { mem0:=Mem.le.refl M,memw:=hmw,memd:=fun b o hb=>.inl hb,glob:=hG,own:=fun k ob hk=>?_,disj:=fun k k' ob ob' b hk hk'=>?_,slot:=fun t=>?_,size:=?_,dfr:=rfl,frame:=Frame.refl w objs fun b o cs hO=>?_,uniq:=fun o1 h1 o2 h2 b hb1 hb2=>?_,hold:=fun b o cs hO=>?_ }
  ·have:=hgetE k ob hk
   have hm:=List.mem_of_getElem? this
   exact ⟨(hown ob hm).1,fun b hb=>.inr ⟨ob,hm,hb,AObj.within.refl ob⟩,(hown ob hm).2⟩
  ·exact hdisj k k' ob ob' b (hgetE k ob hk) (hgetE k' ob' hk')
  ·simp only[getA_idx,Nat.zero_le,if_true,Nat.sub_zero]
   rw[List.getD_eq_getElem?_getD]
   cases ha:args[t]? with
   |none=>trivial
   |some x=>
    obtain ⟨v,hv,hx⟩ :=relT_get hargs t x ha
    have hlt:t < vs.length:=(List.getElem?_eq_some_iff.1 hv).1
    simp only[Option.getD_some,Array.getD_eq_getD_getElem?]
    rw[Array.getElem?_append_left (by simpa using hlt)]
    simp only[List.getElem?_toArray,hv,Option.getD_some]
    exact hx
  ·simp[hnt,hvl];omega
  ·obtain ⟨arr,T,vs,e,_⟩ :=(hown _ hO).1
   exact ⟨arr,T,_,e⟩
  ·obtain ⟨i,hi⟩ :=List.getElem?_of_mem h1
   obtain ⟨j,hj⟩ :=List.getElem?_of_mem h2
   have:=hdisj i j o1 o2 b hi hj hb1 hb2
   subst this
   rw[hi] at hj
   exact Option.some.inj hj
  ·obtain ⟨arr,T,vs,e,_⟩ :=(hown _ hO).1
   exact (Array.getElem?_eq_some_iff.1 e).1
 refine wp_mono (h w M M _ w hS) fun e a' w' ⟨M',S',hS',hq⟩ =>?_
 have fin:done P objs.length rs R S'→a'.defers=[]∧∃v,(results fn a'.tmps).run P w'= .ok v w'∧∃M' ret os fs,R ret os fs∧(∀n,(ret n).rel M' v)∧After M w objs M' w' os fs:=by
  rintro ⟨ret,ks,hR,hks,hnd,hok,hret⟩
  obtain ⟨v,hv,hrv⟩ :=run_results hS' hres hrs hok
  refine ⟨hS'.dfr,v,hv,M',ret,_,_,hR,fun m=>?_, ?_⟩
  ·exact normA_rel.1 (hret m▸normA_rel.2 hrv)
  ·have hall:∀(i:Nat) ob,(osA S'.H 0 objs.length++ks.map (getO S'.H))[i]? =some (some ob)→∃k,getO S'.H k=some ob∧((i < objs.length∧k=i)∨(objs.length≤i∧ks[i - objs.length]? =some k)):=by
    intro i ob hi
    rcases Nat.lt_or_ge i objs.length with hlt|hge
    ·rw[List.getElem?_append_left (by rw[osA_len];exact hlt),osA_get,if_pos hlt,Nat.zero_add] at hi
     exact ⟨i,Option.some.inj hi,.inl ⟨hlt,rfl⟩⟩
    ·rw[List.getElem?_append_right (by rw[osA_len];exact hge),osA_len,List.getElem?_map] at hi
     cases hk:ks[i - objs.length]? with
     |none=>rw[hk] at hi;cases hi
     |some k=>rw[hk] at hi;exact ⟨k,Option.some.inj hi,.inr ⟨hge,rfl⟩⟩
   refine ⟨hS'.mem0,hS'.memw,hS'.memd,hS'.frame,osA_len _ _ _,fun ob hob=>?_,fun i j ob ob' b hi hj hb1 hb2=>?_⟩
   ·obtain ⟨i,hi⟩ :=List.getElem?_of_mem hob
    obtain ⟨k,hk,_⟩ :=hall i ob hi
    obtain ⟨h1,h2,h3⟩ :=hS'.own k ob hk
    exact ⟨h1,fun b hb=> ⟨h3 b hb,h2 b hb⟩⟩
   ·obtain ⟨k,hk,hik⟩ :=hall i ob hi
    obtain ⟨k',hk',hjk⟩ :=hall j ob' hj
    have:=hS'.disj k k' ob ob' b hk hk' hb1 hb2
    subst this
    rcases hik with ⟨h1,h2⟩ | ⟨h1,h2⟩ <;>rcases hjk with ⟨h3,h4⟩ | ⟨h3,h4⟩
    ·omega
    ·have:=hks k (List.mem_of_getElem? h4);omega
    ·have:=hks k (List.mem_of_getElem? h2);omega
    ·have:=(List.getElem?_inj (List.getElem?_eq_some_iff.1 h2).1 hnd).1 (h2.trans h4.symm)
     omega
 cases e with
 |normal=>exact fin hq
 |ret=>exact fin hq
 |_=>exact hq.elim
open Go
@[congr] theorem vcL_congr {P:Program} {G:Nat→AV} {n:Nat} {ops:Array Oper} {K:St→Prop} {l:List Oper} {S S':St} (h:S=S'):vcL P G n ops K l S=vcL P G n ops K l S':=by rw[h]
@[congr] theorem vcD_congr {P:Program} {G:Nat→AV} {n:Nat} {ops:Array Oper} {χ:Chi P G} {fl:List (Nat×Nat)} {K:St→Prop} {log log':Log} {l:List Nat} {S S':St} (h:S=S') (hl:log=log'):vcD n ops χ fl K log l S=vcD n ops χ fl K log' l S':=by rw[h,hl]
@[congr] theorem Hoare_congr {C:Ctx} {c:Code} {Q:Post} {S S':St} (h:S=S'):Hoare C c Q S=Hoare C c Q S':=by rw[h]
@[congr] theorem opR_congrS {P:Program} {G:Nat→AV} {ops:Array Oper} {c:Inst P G} {keys:List Nat×List Nat} {o:Oper} {S S':St} (h:S=S'):opR P G ops c keys o S=opR P G ops c keys o S':=by rw[h]
section
variable {P:Program} {G:Nat→AV} {n:Nat} {ops:Array Oper} {K:St→Prop} {o:Oper} {rest:List Oper} {S:St}
theorem vcL_nil:vcL P G n ops K [] S=K S:=rfl
theorem vcL_cons:vcL P G n ops K (o :: rest) S=(dstLt n o.dst∧if isCall o.op=true then∃(c:Inst P G) (keys:List Nat×List Nat),(opR P G ops c keys o S).pre∧∀x,(opR P G ops c keys o S).out x→vcL P G n ops K rest (nextS o (opR P G ops c keys o S) x S)
   else (opR P G ops default ([],[]) o S).pre∧∀x,(opR P G ops default ([],[]) o S).out x→vcL P G n ops K rest (nextS o (opR P G ops default ([],[]) o S) x S)):=rfl
def vcCall (P:Program) (G:Nat→AV) (d:Nat) (f:AV) (args:List AV) (H:List (Nat×Option AObj)) (K:AV→List (Nat×Option AObj)→Prop):Prop:=
 match f with
 | .fn f caps=>∃(c:Inst P G) (keys:List Nat×List Nat),(callR d f (args++caps) (getO H) c keys).pre∧∀x,(callR d f (args++caps) (getO H) c keys).out x→K ((callR d f (args++caps) (getO H) c keys).res x) ((callR d f (args++caps) (getO H) c keys).upd x)
 |_=>False
def vcInv1 (P:Program) (G:Nat→AV) (d:Nat) (m:Option FuncId) (x:AV) (args:List AV) (H:List (Nat×Option AObj)) (K:AV→List (Nat×Option AObj)→Prop):Prop:=
 match m with
 |some f=>vcCall P G d (.fn f []) (x :: args) H K
 |none=>False
@[congr] theorem vcInv1_congr {d:Nat} {m m':Option FuncId} {f f':AV} {args args':List AV} {H H':List (Nat×Option AObj)} {K:AV→List (Nat×Option AObj)→Prop} (hm:m=m') (hf:f=f') (h:args=args') (hH:H=H'):vcInv1 P G d m f args H K=vcInv1 P G d m' f' args' H' K:=by rw[hm,h,hf,hH]
def vcInv (P:Program) (G:Nat→AV) (d:Nat) (name:String) (g:AV) (args:List AV) (H:List (Nat×Option AObj)) (K:AV→List (Nat×Option AObj)→Prop):Prop:=
 match g with
 | .ifc t x=>vcInv1 P G d (methR P t name) x args H K
 |_=>False
@[congr] theorem vcInv_congr {d:Nat} {name:String} {f f':AV} {args args':List AV} {H H':List (Nat×Option AObj)} {K:AV→List (Nat×Option AObj)→Prop} (hf:f=f') (h:args=args') (hH:H=H'):vcInv P G d name f args H K=vcInv P G d name f' args' H' K:=by rw[h,hf,hH]
theorem vcInv_ifc {d:Nat} {name:String} {t:TypeId} {x:AV} {args:List AV} {H:List (Nat×Option AObj)} {K:AV→List (Nat×Option AObj)→Prop}:vcInv P G d name (.ifc t x) args H K=vcInv1 P G d (methR P t name) x args H K:=rfl
def vcCallG (P:Program) (G:Nat→AV) (g:Option Bool) (f:AV) (args:List AV) (K:AV→Prop):Prop:=
 match g,f with
 |some g,.fn f caps=>∃(c:Inst P G),((g=true→c.hyp∧c.f=f∧((args.map stripC)++caps).map normA=c.args.map normA∧c.objs=[]∧∀x∈args,cndOK x=true)∧c.nf=0∧∀ret os fs,c.R ret os fs→ret=fun _=>c.pv)∧K (.cnd g c.pv)
 |_,_=>False
@[congr] theorem vcCall_congr {d:Nat} {f f':AV} {args args':List AV} {H H':List (Nat×Option AObj)} {K:AV→List (Nat×Option AObj)→Prop} (hf:f=f') (h:args=args') (hH:H=H'):vcCall P G d f args H K=vcCall P G d f' args' H' K:=by rw[h,hf,hH]
@[congr] theorem vcCallG_congr {g g':Option Bool} {f f':AV} {args args':List AV} {K:AV→Prop} (hg:g=g') (hf:f=f') (h:args=args'):vcCallG P G g f args K=vcCallG P G g' f' args' K:=by rw[h,hf,hg]
theorem vcL_call {d:Option Nat} {f:Operand} {args:Array Operand} {ts:Array TypeId} {ty:TypeId} {pos:String} {aft:Array Edge}:
  vcL P G n ops K (⟨d,.call ⟨.value f,args,ts⟩,ty,pos,aft,none⟩ :: rest) S=(dstLt n d∧vcCall P G (d.getD 0) (opA G S.ρ f) (args.toList.map (opA G S.ρ)) S.H fun v u=>vcL P G n ops K rest ⟨bindA d v S.ρ,u++S.H⟩):=by
 simp only[vcL,isCall,if_true,opR,vcCall]
 congr 1
 generalize opA G S.ρ f=fv
 cases fv<;>first|rfl|simp only[ActR.stuck,false_and,exists_false]
theorem vcL_inv {d:Option Nat} {f:Operand} {name:String} {args:Array Operand} {ts:Array TypeId} {ty:TypeId} {pos:String} {aft:Array Edge}:
  vcL P G n ops K (⟨d,.call ⟨.invoke f name,args,ts⟩,ty,pos,aft,none⟩ :: rest) S=(dstLt n d∧vcInv P G (d.getD 0) name (opA G S.ρ f) (args.toList.map (opA G S.ρ)) S.H fun v u=>vcL P G n ops K rest ⟨bindA d v S.ρ,u++S.H⟩):=by
 simp only[vcL,isCall,if_true,opR,vcInv,vcInv1]
 congr 1
 generalize opA G S.ρ f=fv
 cases fv<;>first|(simp only[ActR.stuck,false_and,exists_false];done)|skip
 rename_i t x
 simp only
 cases methR P t name with
 |none=>simp only[ActR.stuck,false_and,exists_false]
 |some f=>simp only[vcCall,List.append_nil];rfl
theorem vcL_callG {d:Option Nat} {f:Operand} {args:Array Operand} {ts:Array TypeId} {ty:TypeId} {pos:String} {aft:Array Edge} {j:Nat} {want:Bool}:
  vcL P G n ops K (⟨d,.call ⟨.value f,args,ts⟩,ty,pos,aft,some (j,want)⟩ :: rest) S=(dstLt n d∧vcCallG P G (grd ops S.ρ j want) (opA G S.ρ f) (args.toList.map (opA G S.ρ)) fun v=>vcL P G n ops K rest ⟨bindA d v S.ρ,S.H⟩):=by
 simp only[vcL,isCall,if_true,opR,vcCallG,nextS]
 congr 1
 cases grd ops S.ρ j want with
 |none=>simp only[ActR.stuck,false_and,exists_false]
 |some g=>
  simp only
  generalize opA G S.ρ f=fv
  cases fv
  case fn f caps=>
   simp only[ActR.pure,List.nil_append,List.map_map,List.forall_mem_map,true_implies,Function.comp_def]
   apply propext
   constructor
   ·rintro ⟨c,keys,h1,h2⟩;exact ⟨c,h1,h2 default⟩
   ·rintro ⟨c,h1,h2⟩;exact ⟨c,([],[]),h1,fun _=>h2⟩
  all_goals simp only[ActR.stuck,false_and,exists_false]
end
theorem thn_normal {K:St→Prop} {Q:Post} {S:St}:thn K Q .normal S=K S:=rfl
theorem thn_exit {K:St→Prop} {Q:Post} {S:St} {i:Nat}:thn K Q (.exit i) S=Q (.exit i) S:=rfl
theorem thn_ret {K:St→Prop} {Q:Post} {S:St}:thn K Q .ret S=Q .ret S:=rfl
theorem blk_exit {id j:Nat} {Q:Post} {S:St}:blk id Q (.exit j) S=if j=id then Q .normal S else Q (.exit j) S:=rfl
theorem blk_normal {id:Nat} {Q:Post} {S:St}:blk id Q .normal S=Q .normal S:=rfl
theorem blk_ret {id:Nat} {Q:Post} {S:St}:blk id Q .ret S=Q .ret S:=rfl
theorem endQ_ret {P:Program} {no:Nat} {rs:List ResultVar} {R:(Nat→AV)→List (Option AObj)→List (Option AObj)→Prop} {S:St}:endQ P no rs R .ret S=done P no rs R S:=rfl
theorem endQ_normal {P:Program} {no:Nat} {rs:List ResultVar} {R:(Nat→AV)→List (Option AObj)→List (Option AObj)→Prop} {S:St}:endQ P no rs R .normal S=done P no rs R S:=rfl
theorem okG_move {e:Operand→AV} {x:Operand}:okG e (.move x)=(cndOK (e x)=true):=by simp[okG,Op.operands]
theorem okG_assign {e:Operand→AV} {x:Operand}:okG e (.assign x)=(cndOK (e x)=true):=by simp[okG,Op.operands]
theorem okG_pick {e:Operand→AV} {c x y:Operand}:okG e (.pick c x y)=(cndOK (e c)=true):=rfl
theorem okG_load {e:Operand→AV} {t:Nat} {x:Operand}:okG e (.load t x)=(cndOK (e x)=true):=by simp[okG,Op.operands]
theorem okG_nil {e:Operand→AV} {x:Operand}:okG e (.nilCheck x)=(cndOK (e x)=true):=by simp[okG,Op.operands]
theorem okG_bin {e:Operand→AV} {op:BinOp} {t u:Nat} {x y:Operand}:okG e (.binOp op t x y u)=(cndOK (e x)=true∧cndOK (e y)=true):=by simp[okG,Op.operands]
theorem okG_un {e:Operand→AV} {op:UnOp} {t:Nat} {x:Operand}:okG e (.unOp op t x)=(cndOK (e x)=true):=by simp[okG,Op.operands]
theorem okG_conv {e:Operand→AV} {t u:Nat} {x:Operand}:okG e (.convert t u x)=(cndOK (e x)=true):=by simp[okG,Op.operands]
theorem okG_field {e:Operand→AV} {t f:Nat} {x:Operand}:okG e (.fieldAddr t x f)=(cndOK (e x)=true):=by simp[okG,Op.operands]
theorem okG_idxA {e:Operand→AV} {t:Nat} {x y:Operand}:okG e (.indexAddr t x y)=(cndOK (e x)=true∧cndOK (e y)=true):=by simp[okG,Op.operands]
theorem okG_idx {e:Operand→AV} {t:Nat} {x y:Operand}:okG e (.index t x y)=(cndOK (e x)=true∧cndOK (e y)=true):=by simp[okG,Op.operands]
theorem okG_extract {e:Operand→AV} {x:Operand} {i:Nat}:okG e (.extract x i)=(cndOK (e x)=true):=by simp[okG,Op.operands]
theorem okG_call {e:Operand→AV} {b:Builtin} {x:Operand} {ts:Array TypeId}:okG e (.call ⟨.builtin b,#[x],ts⟩)=(cndOK (e x)=true):=by simp[okG,Op.operands,Call.operands]
theorem okG_call2 {e:Operand→AV} {b:Builtin} {x y:Operand} {ts:Array TypeId}:okG e (.call ⟨.builtin b,#[x,y],ts⟩)=(cndOK (e x)=true∧cndOK (e y)=true):=by simp[okG,Op.operands,Call.operands]
theorem not_tt {b:Bool}:((!b)=true)=(b=false):=by cases b<;>simp
theorem not_ff {b:Bool}:((!b)=false)=(b=true):=by cases b<;>simp
theorem imp_same {p:Prop}:(p→p)=True:=by simp
theorem implies_tt {p:Prop}:(p→True)=True:=by simp
theorem beq_ff {b:Bool}:(b == false)= !b:=by cases b<;>rfl
theorem beq_tt {b:Bool}:(b == true)=b:=by cases b<;>rfl
theorem pickB_or {g y:Bool}:pickB g true y=(g || y):=by cases g<;>rfl
theorem pickB_and {g y:Bool}:pickB g y false=(g && y):=by cases g<;>simp[pickB]
theorem imp_true_iff' {p:Prop}:(True→p)=p:=by simp
theorem thn_goto {K:St→Prop} {Q:Post} {l:Nat} {S:St}:thn K Q (.goto l) S=Q (.goto l) S:=rfl
theorem blk_goto {id:Nat} {Q:Post} {l:Nat} {S:St}:blk id Q (.goto l) S=Q (.goto l) S:=rfl
theorem jmp_goto {l:Nat} {K:St→Prop} {Q:Post} {l':Nat} {S:St}:jmp l K Q (.goto l') S=(l'=l∧K S):=rfl
theorem jmp_normal {l:Nat} {K:St→Prop} {Q:Post} {S:St}:jmp l K Q .normal S=Q .normal S:=rfl
theorem jmp_ret {l:Nat} {K:St→Prop} {Q:Post} {S:St}:jmp l K Q .ret S=Q .ret S:=rfl
theorem jmp_exit {l:Nat} {K:St→Prop} {Q:Post} {id:Nat} {S:St}:jmp l K Q (.exit id) S=Q (.exit id) S:=rfl
theorem noGo_normal {Q:Post} {S:St}:noGo Q .normal S=Q .normal S:=rfl
theorem noGo_ret {Q:Post} {S:St}:noGo Q .ret S=Q .ret S:=rfl
theorem noGo_exit {Q:Post} {id:Nat} {S:St}:noGo Q (.exit id) S=Q (.exit id) S:=rfl
attribute [go_sem] thn_goto blk_goto jmp_goto jmp_normal jmp_ret jmp_exit noGo_normal noGo_ret noGo_exit
attribute [go_sem high] vcL_call vcL_callG vcL_inv
attribute [go_sem] vcL_nil vcL_cons thn_normal thn_exit thn_ret blk_exit blk_normal blk_ret endQ_ret endQ_normal dstLt isCall opR nextS opA bindA getA getO act ActR.pure ActR.stuck
 actPick actLoad actStore actAlloc actBox fillA actBuild fillRows actBuildSlice actMakeSlice srcA srcS isStrA slackP slackZ actAppend actAppendZ binInt binStr actBin actUn actConv actNil actField actIndexAddr actIndex bndA actSlice actLen actAssert actExtract actBuiltin valsA eqV eqVs eqI actEqT mapA actLookup actInsert actMakeMap capV actCap actMax actCopy vcInv_ifc vcInv1
 grd grdV okG_move okG_assign okG_pick okG_load okG_nil okG_bin okG_un okG_conv okG_field okG_idxA okG_idx okG_extract okG_call okG_call2 implies_tt not_tt not_ff imp_same beq_ff beq_tt actG quiet stripC cndOK pickB_or pickB_and oneA cellsA ldv setAt zerosA callR frzV frzP allP fkeys nilV shapeV isC idxA idxO leS
 imp_true_iff' true_and and_true forall_const List.getD_cons_zero List.getD_cons_succ Bool.false_eq_true if_true if_false List.nil_append List.cons_append Option.getD_some List.map_cons List.map_nil not_false_eq_true not_true_eq_false
 false_implies or_true true_or or_false false_or and_false false_and Bool.true_and Bool.and_true Bool.false_and Bool.and_false Bool.not_true Bool.not_false Bool.or_true Bool.true_or Bool.or_false Bool.false_or
open Go
section
variable {P:Program} {G:Nat→AV} {n:Nat} {ops:Array Oper} {χ:Chi P G} {fl:List (Nat×Nat)} {K:St→Prop} {log:Log} {rest:List Nat} {S:St} {j:Nat}
def vcD1 (n:Nat) (ops:Array Oper) (χ:Chi P G) (fl:List (Nat×Nat)) (K:St→Prop) (log:Log) (j:Nat) (rest:List Nat) (S:St):Option Oper→Prop
 |none=>False
 |some o=>dstLt n o.dst∧(stepR χ ops j o S).pre∧clear fl log j (rdC χ j o S) (wrC χ j o S)∧
    ∀x,(stepR χ ops j o S).out x→vcD n ops χ fl K ((j,rdC χ j o S,wrC χ j o S) :: log) rest (nextS o (stepR χ ops j o S) x S)
theorem vcD_nil:vcD n ops χ fl K log [] S=K S:=rfl
theorem vcD_cons:vcD n ops χ fl K log (j :: rest) S=vcD1 n ops χ fl K log j rest S ops[j]?:=by
 rw[vcD]
 cases ops[j]?<;>rfl
@[congr] theorem vcD1_congr {log':Log} {S':St} {o o':Option Oper} (ho:o=o') (hl:log=log') (h:S=S'):vcD1 n ops χ fl K log j rest S o=vcD1 n ops χ fl K log' j rest S' o':=by rw[ho,hl,h]
def vcCallD (d:Nat) (f:AV) (args:List AV) (H:List (Nat×Option AObj)) (ch:Inst P G×List Nat×List Nat) (K:AV→List (Nat×Option AObj)→Prop):Prop:=
 match f with
 | .fn f caps=>(callR d f (args++caps) (getO H) ch.1 ch.2).pre∧∀x,(callR d f (args++caps) (getO H) ch.1 ch.2).out x→K ((callR d f (args++caps) (getO H) ch.1 ch.2).res x) ((callR d f (args++caps) (getO H) ch.1 ch.2).upd x)
 |_=>False
def vcCallGD (g:Option Bool) (f:AV) (args:List AV) (c:Inst P G) (K:AV→Prop):Prop:=
 match g,f with
 |some g,.fn f caps=>((g=true→c.hyp∧c.f=f∧((args.map stripC)++caps).map normA=c.args.map normA∧c.objs=[]∧∀x∈args,cndOK x=true)∧c.nf=0∧∀ret os fs,c.R ret os fs→ret=fun _=>c.pv)∧K (.cnd g c.pv)
 |_,_=>False
@[congr] theorem vcCallD_congr {d:Nat} {f f':AV} {args args':List AV} {H H':List (Nat×Option AObj)} {ch ch':Inst P G×List Nat×List Nat} {K:AV→List (Nat×Option AObj)→Prop} (hf:f=f') (h:args=args') (hH:H=H') (hc:ch=ch'):vcCallD d f args H ch K=vcCallD d f' args' H' ch' K:=by rw[h,hf,hH,hc]
@[congr] theorem vcCallGD_congr {g g':Option Bool} {f f':AV} {args args':List AV} {c c':Inst P G} {K:AV→Prop} (hg:g=g') (hf:f=f') (h:args=args') (hc:c=c'):vcCallGD g f args c K=vcCallGD g' f' args' c' K:=by rw[h,hf,hg,hc]
theorem vcD1_op {o:Oper} (h:isCall o.op=false):vcD1 n ops χ fl K log j rest S (some o)=(dstLt n o.dst∧(opR P G ops default ([],[]) o S).pre∧clear fl log j (rdO o.op (opA G S.ρ)) (match o.guard with|some _=>[]|none=>wrO (o.dst.getD 0) o.op (opA G S.ρ))∧
  ∀x,(opR P G ops default ([],[]) o S).out x→vcD n ops χ fl K ((j,rdO o.op (opA G S.ρ),(match o.guard with|some _=>[]|none=>wrO (o.dst.getD 0) o.op (opA G S.ρ))) :: log) rest (nextS o (opR P G ops default ([],[]) o S) x S)):=by
 have h1:∀c keys,opR P G ops c keys o S=opR P G ops default ([],[]) o S:=by
  intro c keys
  unfold opR
  cases ho:o.op<;>try rfl
  rename_i cl
  obtain ⟨callee,args,ts⟩ :=cl
  cases callee<;>try rfl
  all_goals (rw[ho] at h;cases h)
 have h2:∀keys,rdR G keys o S=rdO o.op (opA G S.ρ):=by intro keys;simp[rdR,h]
 have h3:∀(c:Inst P G) keys,wrR G c keys o S=(match o.guard with|some _=>[]|none=>wrO (o.dst.getD 0) o.op (opA G S.ρ)):=by
  intro c keys
  unfold wrR
  cases o.guard<;>simp[h]
 simp only[vcD1,stepR,rdC,wrC,h1,h2,h3]
theorem vcD1_call {d:Option Nat} {f:Operand} {args:Array Operand} {ts:Array TypeId} {ty:TypeId} {pos:String} {aft:Array Edge}:
  vcD1 n ops χ fl K log j rest S (some ⟨d,.call ⟨.value f,args,ts⟩,ty,pos,aft,none⟩)=(dstLt n d∧
   clear fl log j ((χ j (args.toList.map fun x=>stripC (opA G S.ρ x))).2.1++(χ j (args.toList.map fun x=>stripC (opA G S.ρ x))).2.2)
    ((χ j (args.toList.map fun x=>stripC (opA G S.ρ x))).2.1++fkeys (d.getD 0) (χ j (args.toList.map fun x=>stripC (opA G S.ρ x))).1.nf++(χ j (args.toList.map fun x=>stripC (opA G S.ρ x))).2.2)∧
   vcCallD (d.getD 0) (opA G S.ρ f) (args.toList.map (opA G S.ρ)) S.H (χ j (args.toList.map fun x=>stripC (opA G S.ρ x))) fun v u=>
    vcD n ops χ fl K ((j,(χ j (args.toList.map fun x=>stripC (opA G S.ρ x))).2.1++(χ j (args.toList.map fun x=>stripC (opA G S.ρ x))).2.2,
     (χ j (args.toList.map fun x=>stripC (opA G S.ρ x))).2.1++fkeys (d.getD 0) (χ j (args.toList.map fun x=>stripC (opA G S.ρ x))).1.nf++(χ j (args.toList.map fun x=>stripC (opA G S.ρ x))).2.2) :: log) rest ⟨bindA d v S.ρ,u++S.H⟩):=by
 simp only[vcD1,stepR,rdC,wrC,rdR,wrR,isCall,if_true,argsOf,opR,vcCallD,nextS]
 congr 1
 generalize opA G S.ρ f=fv
 cases fv<;>simp only[ActR.stuck,false_and,and_false]
 apply propext
 constructor
 ·rintro ⟨h1,h2,h3⟩;exact ⟨h2,h1,h3⟩
 ·rintro ⟨h1,h2,h3⟩;exact ⟨h2,h1,h3⟩
def vcInvD (d:Nat) (name:String) (g:AV) (args:List AV) (H:List (Nat×Option AObj)) (ch:Inst P G×List Nat×List Nat) (K:AV→List (Nat×Option AObj)→Prop):Prop:=
 match g with
 | .ifc t x=>match methR P t name with
  |some f=>vcCallD d (.fn f []) (x :: args) H ch K
  |none=>False
 |_=>False
@[congr] theorem vcInvD_congr {d:Nat} {name:String} {f f':AV} {args args':List AV} {H H':List (Nat×Option AObj)} {ch ch':Inst P G×List Nat×List Nat} {K:AV→List (Nat×Option AObj)→Prop} (hf:f=f') (h:args=args') (hH:H=H') (hc:ch=ch'):vcInvD d name f args H ch K=vcInvD d name f' args' H' ch' K:=by rw[h,hf,hH,hc]
theorem vcD1_inv {d:Option Nat} {f:Operand} {name:String} {args:Array Operand} {ts:Array TypeId} {ty:TypeId} {pos:String} {aft:Array Edge}:
  vcD1 n ops χ fl K log j rest S (some ⟨d,.call ⟨.invoke f name,args,ts⟩,ty,pos,aft,none⟩)=(dstLt n d∧
   clear fl log j ((χ j (stripC (opA G S.ρ f) :: args.toList.map fun x=>stripC (opA G S.ρ x))).2.1++(χ j (stripC (opA G S.ρ f) :: args.toList.map fun x=>stripC (opA G S.ρ x))).2.2)
    ((χ j (stripC (opA G S.ρ f) :: args.toList.map fun x=>stripC (opA G S.ρ x))).2.1++fkeys (d.getD 0) (χ j (stripC (opA G S.ρ f) :: args.toList.map fun x=>stripC (opA G S.ρ x))).1.nf++(χ j (stripC (opA G S.ρ f) :: args.toList.map fun x=>stripC (opA G S.ρ x))).2.2)∧
   vcInvD (d.getD 0) name (opA G S.ρ f) (args.toList.map (opA G S.ρ)) S.H (χ j (stripC (opA G S.ρ f) :: args.toList.map fun x=>stripC (opA G S.ρ x))) fun v u=>
    vcD n ops χ fl K ((j,(χ j (stripC (opA G S.ρ f) :: args.toList.map fun x=>stripC (opA G S.ρ x))).2.1++(χ j (stripC (opA G S.ρ f) :: args.toList.map fun x=>stripC (opA G S.ρ x))).2.2,
     (χ j (stripC (opA G S.ρ f) :: args.toList.map fun x=>stripC (opA G S.ρ x))).2.1++fkeys (d.getD 0) (χ j (stripC (opA G S.ρ f) :: args.toList.map fun x=>stripC (opA G S.ρ x))).1.nf++(χ j (stripC (opA G S.ρ f) :: args.toList.map fun x=>stripC (opA G S.ρ x))).2.2) :: log) rest ⟨bindA d v S.ρ,u++S.H⟩):=by
 simp only[vcD1,stepR,rdC,wrC,rdR,wrR,isCall,if_true,argsOf,opR,vcInvD,nextS]
 congr 1
 generalize opA G S.ρ f=fv
 cases fv<;>first|(simp only[ActR.stuck,false_and,and_false];done)|skip
 rename_i t x
 simp only
 cases methR P t name with
 |none=>simp only[ActR.stuck,false_and,and_false]
 |some f=>
  simp only[vcCallD,List.append_nil]
  apply propext
  constructor
  ·rintro ⟨h1,h2,h3⟩;exact ⟨h2,h1,h3⟩
  ·rintro ⟨h1,h2,h3⟩;exact ⟨h2,h1,h3⟩
theorem vcD1_callG {d:Option Nat} {f:Operand} {args:Array Operand} {ts:Array TypeId} {ty:TypeId} {pos:String} {aft:Array Edge} {i:Nat} {want:Bool}:
  vcD1 n ops χ fl K log j rest S (some ⟨d,.call ⟨.value f,args,ts⟩,ty,pos,aft,some (i,want)⟩)=(dstLt n d∧
   clear fl log j ((χ j (args.toList.map fun x=>stripC (opA G S.ρ x))).2.1++(χ j (args.toList.map fun x=>stripC (opA G S.ρ x))).2.2) []∧
   vcCallGD (grd ops S.ρ i want) (opA G S.ρ f) (args.toList.map (opA G S.ρ)) (χ j (args.toList.map fun x=>stripC (opA G S.ρ x))).1 fun v=>
    vcD n ops χ fl K ((j,(χ j (args.toList.map fun x=>stripC (opA G S.ρ x))).2.1++(χ j (args.toList.map fun x=>stripC (opA G S.ρ x))).2.2,[]) :: log) rest ⟨bindA d v S.ρ,S.H⟩):=by
 simp only[vcD1,stepR,rdC,wrC,rdR,wrR,isCall,if_true,argsOf,opR,vcCallGD,nextS]
 congr 1
 cases grd ops S.ρ i want with
 |none=>simp only[ActR.stuck,false_and,and_false]
 |some g=>
  simp only
  generalize opA G S.ρ f=fv
  cases fv<;>simp only[ActR.stuck,false_and,and_false]
  simp only[ActR.pure,List.nil_append,List.map_map,List.forall_mem_map,true_implies,Function.comp_def]
  apply propext
  constructor
  ·rintro ⟨h1,h2,h3⟩;exact ⟨h2,h1,h3 default⟩
  ·rintro ⟨h1,h2,h3⟩;exact ⟨h2,h1,fun _=>h3⟩
theorem vcD1_some {o:Oper}:vcD1 n ops χ fl K log j rest S (some o)=(if isCall o.op=true then vcD1 n ops χ fl K log j rest S (some o) else (dstLt n o.dst∧(opR P G ops default ([],[]) o S).pre∧clear fl log j (rdO o.op (opA G S.ρ)) (match o.guard with|some _=>[]|none=>wrO (o.dst.getD 0) o.op (opA G S.ρ))∧
  ∀x,(opR P G ops default ([],[]) o S).out x→vcD n ops χ fl K ((j,rdO o.op (opA G S.ρ),(match o.guard with|some _=>[]|none=>wrO (o.dst.getD 0) o.op (opA G S.ρ))) :: log) rest (nextS o (opR P G ops default ([],[]) o S) x S))):=by
 split
 ·rfl
 ·rename_i h;exact vcD1_op (by simpa using h)
def predsOf:List (Nat×Nat)→Nat→List Nat
 | [],_=>[]
 |(a,b) :: l,j=>if b=j then a :: predsOf l j else predsOf l j
def clk (i:Nat) (rd wr:List Nat):Log→Prop
 | []=>True
 |(q,r,w) :: log=>(if q=i then apart w rd∧apart w wr∧apart r wr else True)∧clk i rd wr log
def clr (log:Log) (rd wr:List Nat):List Nat→Prop
 | []=>True
 |i :: l=>clk i rd wr log∧clr log rd wr l
theorem clear_eq {rd wr:List Nat}:clear fl log j rd wr=clr log rd wr (predsOf fl j):=by
 have hk:∀(i:Nat) (log:Log),clk i rd wr log↔∀p∈log,p.1=i→apart p.2.2 rd∧apart p.2.2 wr∧apart p.2.1 wr:=by
  intro i log
  induction log with
  |nil=>simp[clk]
  |cons q log ih=>
   obtain ⟨q,r,w⟩ :=q
   simp only[clk,ih,List.mem_cons,forall_eq_or_imp]
   by_cases h:q=i
   ·simp[h]
   ·simp[h]
 have hr:∀l:List Nat,clr log rd wr l↔∀i∈l,clk i rd wr log:=by
  intro l
  induction l with
  |nil=>simp[clr]
  |cons i l ih=>simp[clr,ih]
 have hp:∀(fl:List (Nat×Nat)) i,i∈predsOf fl j↔fl.contains (i,j)=true:=by
  intro fl i
  induction fl with
  |nil=>simp[predsOf]
  |cons q fl ih=>
   obtain ⟨a,b⟩ :=q
   simp only[predsOf]
   split
   ·rename_i e;subst e
    rw[List.mem_cons,ih,List.contains_cons]
    cases hb:((i,b) == (a,b)) with
    |false=>
     rw[Bool.false_or]
     constructor
     ·rintro (e|h)
      ·subst e;simp at hb
      ·exact h
     ·exact .inr
    |true=>
     have:=(Prod.mk.inj (eq_of_beq hb)).1
     simp[this]
   ·rename_i e
    rw[ih]
    rw[List.contains_cons]
    cases hb:((i,j) == (a,b)) with
    |false=>rw[Bool.false_or]
    |true=>exact absurd (Prod.mk.inj (eq_of_beq hb)).2.symm e
 apply propext
 rw[hr]
 unfold clear
 constructor
 ·intro h i hi
  rw[hk]
  intro p hpm e
  exact h p hpm (by rw[e];exact (hp fl i).1 hi)
 ·intro h p hpm hc
  exact (hk p.1 log).1 (h p.1 ((hp fl p.1).2 hc)) p hpm rfl
theorem apart_nil {l:List Nat}:apart [] l=True:=by simp[apart]
theorem apart_nil' {l:List Nat}:apart l []=True:=by simp[apart]
theorem apart_cons {a:Nat} {l l':List Nat}:apart (a :: l) l'=(a∉l'∧apart l l'):=by simp[apart]
attribute [go_sem high] vcD1_call vcD1_callG vcD1_inv
attribute [go_sem] vcD_nil vcD_cons vcD1_some clear_eq predsOf clk clr apart_nil apart_nil' apart_cons rdO wrO keyS keyA List.getElem?_toArray List.getElem?_cons_zero List.getElem?_cons_succ List.flatMap_cons List.flatMap_nil
end
open Go
mutual
def AV.turn (f:AV→AV):AV→AV
 | .dat nn sz xs=>.dat nn sz (turnR f xs)
 | .pt cs=>.pt (turnL f cs)
 | .ifc t a=>.ifc t (a.turn f)
 | .fn g caps=>.fn g (turnL f caps)
 | .agg cs=>.agg (turnL f cs)
 | .tup cs=>.tup (turnL f cs)
 | .cnd g a=>.cnd g (a.turn f)
 | .mp kk es=>.mp kk (turnE f es)
 |a=>f a
def turnL (f:AV→AV):List AV→List AV
 | []=>[]
 |a :: as=>a.turn f :: turnL f as
def turnR (f:AV→AV):List (List AV)→List (List AV)
 | []=>[]
 |a :: as=>turnL f a :: turnR f as
def turnE (f:AV→AV):List (Int×AV)→List (Int×AV)
 | []=>[]
 |(k,a) :: as=>(k,a.turn f) :: turnE f as
end
mutual
def AV.fit (p:AV→Prop):AV→Prop
 | .dat _ _ xs=>fitR p xs
 | .pt cs=>fitL p cs
 | .ifc _ a=>a.fit p
 | .fn _ caps=>fitL p caps
 | .agg cs=>fitL p cs
 | .tup cs=>fitL p cs
 | .cnd _ a=>a.fit p
 | .mp _ es=>fitE p es
 |a=>p a
def fitL (p:AV→Prop):List AV→Prop
 | []=>True
 |a :: as=>a.fit p∧fitL p as
def fitR (p:AV→Prop):List (List AV)→Prop
 | []=>True
 |a :: as=>fitL p a∧fitR p as
def fitE (p:AV→Prop):List (Int×AV)→Prop
 | []=>True
 |(_,a) :: as=>a.fit p∧fitE p as
end
theorem turnR_len {f:AV→AV}:∀xs,(turnR f xs).length=xs.length
 | []=>rfl
 |_ :: xs=>by simp only[turnR,List.length_cons,turnR_len xs]
theorem turnL_len {f:AV→AV}:∀xs,(turnL f xs).length=xs.length
 | []=>rfl
 |_ :: xs=>by simp only[turnL,List.length_cons,turnL_len xs]
set_option linter.unusedSectionVars false
section
variable {M:Mem} {f:AV→AV} {p:AV→Prop} (hf:∀a v,p a→a.rel M v→(f a).rel M v)
include hf
mutual
theorem AV.turn_rel:∀(a:AV) (v:Value),a.fit p→a.rel M v→(a.turn f).rel M v
 | .top,v,hp,h=>hf .top v hp h
 | .val u,v,hp,h=>hf (.val u) v hp h
 | .dat nn sz xs,v,hp, ⟨A,cap,e,h1,h2,h2',h3,h4⟩ =>by
  refine ⟨A,cap,by rw[turnR_len];exact e,h1,by rw[turnR_len];exact h2,by rw[turnR_len];exact h2', ?_,h4⟩
  rcases h3 with rfl| ⟨b,o,e2,hr⟩
  ·exact .inl rfl
  ·exact .inr ⟨b,o,e2,turnR_rel sz b o xs hp hr⟩
 | .pt cs,v,hp, ⟨b,o,e,hr⟩ => ⟨b,o,e,turnC_rel b o cs hp hr⟩
 | .ref k b o,v,hp,h=>hf (.ref k b o) v hp h
 | .buf k b,v,hp,h=>hf (.buf k b) v hp h
 | .aref k a b c d,v,hp,h=>hf (.aref k a b c d) v hp h
 | .sub k a b c,v,hp,h=>hf (.sub k a b c) v hp h
 | .omap k r,v,hp,h=>hf (.omap k r) v hp h
 | .ifc t a,v,hp, ⟨u,e,h⟩ => ⟨u,e,a.turn_rel u hp h⟩
 | .fn g caps,v,hp, ⟨vs,e,h⟩ => ⟨vs,e,turnT_rel caps vs hp h⟩
 | .agg cs,v,hp, ⟨vs,e,h⟩ => ⟨vs,e,turnL_rel cs vs hp h⟩
 | .tup cs,v,hp, ⟨vs,e,h⟩ => ⟨vs,e,turnT_rel cs vs hp h⟩
 | .cnd g a,v,hp, ⟨h1,h2⟩ => ⟨fun e=>a.turn_rel v hp (h1 e),h2⟩
 | .mp kk es,v,hp, ⟨r,ents,clock,e,hM,hr⟩ => ⟨r,ents,clock,e,hM,turnE_rel kk es _ hp hr⟩
theorem turnL_rel:∀(as:List AV) (vs:List Value),fitL p as→relL M as vs→relL M (turnL f as) vs
 | [],_,_,h=>h
 |a :: as,_, ⟨p1,p2⟩, ⟨v,r,e,h1,h2,h3⟩ => ⟨v,r,e,h1,a.turn_rel v p1 h2,turnL_rel as r p2 h3⟩
theorem turnT_rel:∀(as:List AV) (vs:List Value),fitL p as→relT M as vs→relT M (turnL f as) vs
 | [],_,_,h=>h
 |a :: as,_, ⟨p1,p2⟩, ⟨v,r,e,h2,h3⟩ => ⟨v,r,e,a.turn_rel v p1 h2,turnT_rel as r p2 h3⟩
theorem turnC_rel (b:Nat):∀(o:Nat) (as:List AV),fitL p as→relC M b o as→relC M b o (turnL f as)
 |_,[],_,_=>trivial
 |o,a :: as, ⟨p1,p2⟩, ⟨⟨v,hc,h1,h2⟩,h3⟩ => ⟨⟨v,hc,h1,a.turn_rel v p1 h2⟩,turnC_rel b (o+1) as p2 h3⟩
theorem turnR_rel (sz b:Nat):∀(o:Nat) (rs:List (List AV)),fitR p rs→relR M sz b o rs→relR M sz b o (turnR f rs)
 |_,[],_,_=>trivial
 |o,r :: rs, ⟨p1,p2⟩, ⟨h1,h2,h3⟩ => ⟨by rw[turnL_len];exact h1,turnC_rel b o r p1 h2,turnR_rel sz b (o+sz) rs p2 h3⟩
theorem turnE_rel (kk:IntKind):∀(as:List (Int×AV)) (es:List MapEntry),fitE p as→relE M kk as es→relE M kk (turnE f as) es
 | [],_,_,h=>h
 |(_,a) :: as,_, ⟨p1,p2⟩, ⟨e,r,he,h1,h2,h3⟩ => ⟨e,r,he,h1,a.turn_rel e.val p1 h2,turnE_rel kk as r p2 h3⟩
end
end
def AObj.turn (f:AV→AV):AObj→AObj
 | .cells b o cs=>.cells b o (turnL f cs)
 | .arr h E sz xs=>.arr h E sz (turnR f xs)
 | .mapo r kk es=>.mapo r kk (turnE f es)
def AObj.fit (p:AV→Prop):AObj→Prop
 | .cells _ _ cs=>fitL p cs
 | .arr _ _ _ xs=>fitR p xs
 | .mapo _ _ es=>fitE p es
theorem turn_flat {f:AV→AV}:∀xs,(turnR f xs).flatten=turnL f xs.flatten
 | []=>rfl
 |x :: xs=>by
  have:∀l m,turnL f (l++m)=turnL f l++turnL f m:=by
   intro l m
   induction l with
   |nil=>rfl
   |cons a l ih=>simp only[List.cons_append,turnL,ih]
  simp only[turnR,List.flatten_cons,turn_flat xs,this]
theorem fit_flat {p:AV→Prop}:∀xs,fitR p xs→fitL p xs.flatten
 | [],_=>trivial
 |x :: xs, ⟨h1,h2⟩ =>by
  have:∀l m,fitL p l→fitL p m→fitL p (l++m):=by
   intro l m
   induction l with
   |nil=>intro _ h;exact h
   |cons a l ih=>rintro ⟨k1,k2⟩ h;exact ⟨k1,ih k2 h⟩
  exact this _ _ h1 (fit_flat xs h2)
theorem turn_rows {f:AV→AV} {sz:Nat}:∀xs:List (List AV),(∀r∈xs,r.length=sz)→∀r∈turnR f xs,r.length=sz
 | [],_,r,h=>by simp[turnR] at h
 |x :: xs,hx,r,h=>by
  simp only[turnR,List.mem_cons] at h
  rcases h with rfl|h
  ·rw[turnL_len];exact hx x (by simp)
  ·exact turn_rows xs (fun r hr=>hx r (by simp[hr])) r h
theorem AObj.turn_rel {M:Mem} {f:AV→AV} {p:AV→Prop} (hf:∀a v,p a→a.rel M v→(f a).rel M v) {w:World}:∀(ob:AObj),ob.fit p→ob.rel M w→(ob.turn f).rel M w
 | .cells b o cs,hp, ⟨ar,T,vs,h1,h2,h3⟩ => ⟨ar,T,vs,h1,turnL_rel hf cs vs hp h2,h3⟩
 | .arr h E sz xs,hp, ⟨vs,h1,h2,h3,h4⟩ => ⟨vs,by rw[turnR_len];exact h1,by rw[turn_flat];exact turnL_rel hf _ vs (fit_flat xs hp) h2,turn_rows xs h3,by rw[turnR_len];exact h4⟩
 | .mapo r kk es,hp, ⟨ents,clock,h1,h2⟩ => ⟨ents,clock,h1,turnE_rel hf kk es _ hp h2⟩
theorem AObj.turn_blk {f:AV→AV} (ob:AObj):(ob.turn f).blk=ob.blk:=by cases ob<;>rfl
def turnρ (f:AV→AV):List (Nat×AV)→List (Nat×AV)
 | []=>[]
 |(t,a) :: r=>(t,a.turn f) :: turnρ f r
def turnH (f:AV→AV):List (Nat×Option AObj)→List (Nat×Option AObj)
 | []=>[]
 |(k,none) :: r=>(k,none) :: turnH f r
 |(k,some ob) :: r=>(k,some (ob.turn f)) :: turnH f r
def fitρ (p:AV→Prop):List (Nat×AV)→Prop
 | []=>True
 |(_,a) :: r=>a.fit p∧fitρ p r
def fitH (p:AV→Prop):List (Nat×Option AObj)→Prop
 | []=>True
 |(_,none) :: r=>fitH p r
 |(_,some ob) :: r=>ob.fit p∧fitH p r
theorem getA_turn {f:AV→AV} (hf:f .top= .top):∀(ρ:List (Nat×AV)) (t:Nat),getA (turnρ f ρ) t=(getA ρ t).turn f
 | [],t=>by simp[turnρ,getA,AV.turn,hf]
 |(k,a) :: r,t=>by
  simp only[turnρ,getA]
  split
  ·rfl
  ·exact getA_turn hf r t
theorem getO_turn {f:AV→AV}:∀(H:List (Nat×Option AObj)) (k:Nat),getO (turnH f H) k=(getO H k).map (AObj.turn f)
 | [],k=>rfl
 |(k',none) :: r,k=>by
  simp only[turnH,getO]
  split
  ·rfl
  ·exact getO_turn r k
 |(k',some ob) :: r,k=>by
  simp only[turnH,getO]
  split
  ·rfl
  ·exact getO_turn r k
theorem getA_fit {p:AV→Prop} (hp:p .top):∀{ρ:List (Nat×AV)},fitρ p ρ→∀t,(getA ρ t).fit p
 | [],_,t=>hp
 |(k,a) :: r, ⟨h1,h2⟩,t=>by
  simp only[getA]
  split
  ·exact h1
  ·exact getA_fit hp h2 t
theorem getO_fit {p:AV→Prop}:∀{H:List (Nat×Option AObj)},fitH p H→∀k ob,getO H k=some ob→ob.fit p
 | [],_,k,ob,h=>by cases h
 |(k',none) :: r,h2,k,ob,h=>by
  simp only[getO] at h
  split at h
  ·cases h
  ·exact getO_fit (H:=r) h2 k ob h
 |(k',some ob') :: r, ⟨h1,h2⟩,k,ob,h=>by
  simp only[getO] at h
  split at h
  ·cases h;exact h1
  ·exact getO_fit (H:=r) h2 k ob h
theorem Sat.turn {E:Env} {S:St} {M:Mem} {a:Act} {w:World} (h:Sat E S M a w) {f:AV→AV} {p:AV→Prop} (ht:f .top= .top) (hpt:p .top) (hf:∀a v,p a→a.rel M v→(f a).rel M v) (hρ:fitρ p S.ρ) (hH:fitH p S.H):
  Sat E ⟨turnρ f S.ρ,turnH f S.H⟩ M a w:=
 { h with
  own:=fun k ob hk=>by
   rw[getO_turn] at hk
   cases h0:getO S.H k with
   |none=>rw[h0] at hk;cases hk
   |some o0=>
    rw[h0] at hk
    cases hk
    obtain ⟨h1,h2,h3⟩ :=h.own k o0 h0
    refine ⟨AObj.turn_rel hf o0 (getO_fit hH k o0 h0) h1,fun b hb=>?_,fun b hb=>h3 b (by rwa [AObj.turn_blk] at hb)⟩
    rw[AObj.turn_blk] at hb
    refine (h2 b hb).imp id fun ⟨o1,ho1,e1,hw⟩ => ⟨o1,ho1,e1, ?_⟩
    cases o0<;>cases o1<;>simp only[AObj.within,AObj.turn,turnL_len] at hw ⊢<;>exact hw
  disj:=fun k k' ob ob' b hk hk' hb hb'=>by
   rw[getO_turn] at hk hk'
   cases h0:getO S.H k with
   |none=>rw[h0] at hk;cases hk
   |some o0=>
    cases h1:getO S.H k' with
    |none=>rw[h1] at hk';cases hk'
    |some o1=>
     rw[h0] at hk;rw[h1] at hk'
     cases hk;cases hk'
     rw[AObj.turn_blk] at hb hb'
     exact h.disj k k' o0 o1 b h0 h1 hb hb'
  slot:=fun t=>by
   rw[getA_turn ht]
   exact AV.turn_rel hf _ _ (getA_fit hpt hρ t) (h.slot t) }
def frz1 (k:Nat) (ob:AObj):AV→AV
 | .buf k' h=>if k'=k then (match ob with| .arr _ _ sz xs=>.dat false sz xs|_=>.top) else .buf k' h
 | .ref k' b o=>if k'=k then (match ob with| .cells _ o' cs=>.pt (cs.drop (o - o'))|_=>.top) else .ref k' b o
 | .omap k' r=>if k'=k then (match ob with| .mapo _ kk es=>.mp kk es|_=>.top) else .omap k' r
 | .aref k' h sz i o=>if k'=k then .top else .aref k' h sz i o
 | .sub k' h l n=>if k'=k then .top else .sub k' h l n
 |a=>a
def frz1P (k:Nat) (ob:AObj):AV→Prop
 | .buf k' h=>if k'=k then (match ob with| .arr h' _ _ _=>h=h'|_=>True) else True
 | .ref k' b o=>if k'=k then (match ob with| .cells b' o' _=>b=b'∧o'≤o|_=>True) else True
 | .omap k' r=>if k'=k then (match ob with| .mapo r' _ _=>r=r'|_=>True) else True
 |_=>True
def frzS (k:Nat) (S:St):Option AObj→St
 |some ob=> ⟨turnρ (frz1 k ob) S.ρ,(k,none) :: turnH (frz1 k ob) S.H⟩
 |none=>S
def frzSP (k:Nat) (S:St):Option AObj→Prop
 |some ob=>fitρ (frz1P k ob) S.ρ∧fitH (frz1P k ob) S.H
 |none=>True
theorem eFrz {C:Ctx} {S:St} (k:Nat) (hp:frzSP k S (getO S.H k)):Ent C S (frzS k S (getO S.H k)):=by
 intro w0 M0 M a w hS
 cases hk:getO S.H k with
 |none=>exact ⟨M,hS⟩
 |some ob=>
  rw[hk] at hp
  obtain ⟨hρ,hH⟩ :=hp
  obtain ⟨M',h1,hle,h2⟩ :=hS.freeze k
  have hob:=(hS.own k ob hk).1
  refine ⟨M', ?_⟩
  have h3:=Sat.turn (f:=frz1 k ob) (p:=frz1P k ob) h1 rfl trivial (fun x v hx hr=>by
   cases x<;>first|exact hr|skip
   ·rename_i k' b o
    simp only[frz1P,frz1] at hx ⊢
    split
    ·rename_i e
     rw[if_pos e] at hx
     cases ob<;>first|trivial|skip
     obtain ⟨rfl,ho⟩ :=hx
     simp only[AV.rel] at hr
     subst hr
     exact frz_cells hle hob (h2 _ hk _ rfl) ho
    ·exact hr
   ·rename_i k' h
    simp only[frz1P,frz1] at hx ⊢
    split
    ·rename_i e
     rw[if_pos e] at hx
     cases ob<;>first|trivial|skip
     subst hx
     obtain ⟨rfl,_⟩ :=hr
     exact frz_arr hle hob fun b hb=>h2 _ hk b hb
    ·exact hr
   ·simp only[frz1]
    split
    ·trivial
    ·exact hr
   ·simp only[frz1]
    split
    ·trivial
    ·exact hr
   ·rename_i k' r
    simp only[frz1P,frz1] at hx ⊢
    split
    ·rename_i e
     rw[if_pos e] at hx
     cases ob<;>first|trivial|skip
     subst hx
     simp only[AV.rel] at hr
     subst hr
     exact frz_map hle hob (h2 _ hk _ rfl)
    ·exact hr) hρ (by simpa only[fitH] using hH)
  simpa only[frzS,turnH] using h3
def ren1 (k k2:Nat):AV→AV
 | .buf k' h=>.buf (if k'=k then k2 else k') h
 | .ref k' b o=>.ref (if k'=k then k2 else k') b o
 | .omap k' r=>.omap (if k'=k then k2 else k') r
 | .aref k' h sz i o=>.aref (if k'=k then k2 else k') h sz i o
 | .sub k' h l n=>.sub (if k'=k then k2 else k') h l n
 |a=>a
mutual
theorem fit_true:∀a:AV,a.fit fun _=>True
 | .top=>trivial
 | .val _=>trivial
 | .dat _ _ xs=>fitR_true xs
 | .pt cs=>fitL_true cs
 | .ref ..=>trivial
 | .buf ..=>trivial
 | .aref ..=>trivial
 | .sub ..=>trivial
 | .omap ..=>trivial
 | .ifc _ a=>fit_true a
 | .fn _ cs=>fitL_true cs
 | .agg cs=>fitL_true cs
 | .tup cs=>fitL_true cs
 | .cnd _ a=>fit_true a
 | .mp _ es=>fitE_true es
theorem fitL_true:∀as:List AV,fitL (fun _=>True) as
 | []=>trivial
 |a :: as=> ⟨fit_true a,fitL_true as⟩
theorem fitR_true:∀as:List (List AV),fitR (fun _=>True) as
 | []=>trivial
 |a :: as=> ⟨fitL_true a,fitR_true as⟩
theorem fitE_true:∀as:List (Int×AV),fitE (fun _=>True) as
 | []=>trivial
 |(_,a) :: as=> ⟨fit_true a,fitE_true as⟩
end
theorem fitρ_true:∀ρ,fitρ (fun _=>True) ρ
 | []=>trivial
 |(_,a) :: r=> ⟨fit_true a,fitρ_true r⟩
theorem fitH_true:∀H,fitH (fun _=>True) H
 | []=>trivial
 |(_,none) :: r=>fitH_true r
 |(_,some ob) :: r=> ⟨by cases ob<;>first|exact fitL_true _|exact fitR_true _|exact fitE_true _,fitH_true r⟩
theorem eKey {C:Ctx} {S:St} (k k2:Nat) (h2:getO S.H k2=none) (hne:k≠k2):
  Ent C S ⟨turnρ (ren1 k k2) S.ρ,(k2,getO (turnH (ren1 k k2) S.H) k) :: (k,none) :: turnH (ren1 k k2) S.H⟩ :=by
 intro w0 M0 M a w hS
 have h:=Sat.turn (f:=ren1 k k2) (p:=fun _=>True) hS rfl trivial (fun x v _ hr=>by
  cases x<;>exact hr) (fitρ_true _) (fitH_true _)
 have h2':getO (turnH (ren1 k k2) S.H) k2=none:=by rw[getO_turn,h2];rfl
 generalize turnH (ren1 k k2) S.H=H at h h2' ⊢
 refine ⟨M,{ h with own:=fun k' ob hk=>?_,disj:=fun k' k'' ob ob' b hk hk' hb hb'=>?_ }⟩
 ·simp only[getO] at hk
  split at hk
  ·exact h.own k ob hk
  ·split at hk
   ·cases hk
   ·exact h.own k' ob hk
 ·simp only[getO] at hk hk'
  split at hk<;>split at hk'
  ·rename_i e1 e2;exact e1.symm.trans e2
  ·rename_i e1 e2
   split at hk'
   ·cases hk'
   ·rename_i e3
    exact absurd (h.disj _ _ _ _ b hk hk' hb hb') e3
  ·rename_i e1 e2
   split at hk
   ·cases hk
   ·rename_i e3
    exact absurd (h.disj _ _ _ _ b hk' hk hb' hb) e3
  ·split at hk
   ·cases hk
   ·split at hk'
    ·cases hk'
    ·exact h.disj _ _ _ _ b hk hk' hb hb'
attribute [go_sem] frzS frzSP fitρ fitH turnρ turnH AObj.turn AObj.fit AV.turn turnL turnE AV.fit fitL fitE frz1 frz1P ren1
open Go
def rkA (σ:Nat→Nat):AV→AV
 | .buf k h=>.buf (σ k) h
 | .ref k b o=>.ref (σ k) b o
 | .omap k r=>.omap (σ k) r
 | .aref k h sz i o=>.aref (σ k) h sz i o
 | .sub k h l n=>.sub (σ k) h l n
 |a=>a
theorem rkA_rel {M:Mem} {σ:Nat→Nat} (a:AV) (v:Value):(rkA σ a).rel M v↔a.rel M v:=by cases a<;>exact Iff.rfl
section
variable {M:Mem} {σ:Nat→Nat}
mutual
theorem rk_rel:∀(a:AV) (v:Value),(a.turn (rkA σ)).rel M v→a.rel M v
 | .top,v,h=>h
 | .val u,v,h=>h
 | .dat nn sz xs,v, ⟨A,cap,e,h1,h2,h2',h3,h4⟩ =>by
  rw[turnR_len] at e h2 h2'
  refine ⟨A,cap,e,h1,h2,h2', ?_,h4⟩
  rcases h3 with h3| ⟨b,o,e2,hr⟩
  ·left
   cases xs with
   |nil=>rfl
   |cons x xs=>simp[turnR] at h3
  ·exact .inr ⟨b,o,e2,rk_relR sz b o xs hr⟩
 | .pt cs,v, ⟨b,o,e,hr⟩ => ⟨b,o,e,rk_relC b o cs hr⟩
 | .ref k b o,v,h=>h
 | .buf k b,v,h=>h
 | .aref k a b c d,v,h=>h
 | .sub k a b c,v,h=>h
 | .omap k r,v,h=>h
 | .ifc t a,v, ⟨u,e,h⟩ => ⟨u,e,rk_rel a u h⟩
 | .fn g caps,v, ⟨vs,e,h⟩ => ⟨vs,e,rk_relT caps vs h⟩
 | .agg cs,v, ⟨vs,e,h⟩ => ⟨vs,e,rk_relL cs vs h⟩
 | .tup cs,v, ⟨vs,e,h⟩ => ⟨vs,e,rk_relT cs vs h⟩
 | .cnd g a,v, ⟨h1,h2⟩ => ⟨fun e=>rk_rel a v (h1 e),h2⟩
 | .mp kk es,v, ⟨r,ents,clock,e,hM,hr⟩ => ⟨r,ents,clock,e,hM,rk_relE kk es _ hr⟩
theorem rk_relL:∀(as:List AV) (vs:List Value),relL M (turnL (rkA σ) as) vs→relL M as vs
 | [],_,h=>h
 |a :: as,_, ⟨v,r,e,h1,h2,h3⟩ => ⟨v,r,e,h1,rk_rel a v h2,rk_relL as r h3⟩
theorem rk_relT:∀(as:List AV) (vs:List Value),relT M (turnL (rkA σ) as) vs→relT M as vs
 | [],_,h=>h
 |a :: as,_, ⟨v,r,e,h2,h3⟩ => ⟨v,r,e,rk_rel a v h2,rk_relT as r h3⟩
theorem rk_relC (b:Nat):∀(o:Nat) (as:List AV),relC M b o (turnL (rkA σ) as)→relC M b o as
 |_,[],_=>trivial
 |o,a :: as, ⟨⟨v,hc,h1,h2⟩,h3⟩ => ⟨⟨v,hc,h1,rk_rel a v h2⟩,rk_relC b (o+1) as h3⟩
theorem rk_relR (sz b:Nat):∀(o:Nat) (rs:List (List AV)),relR M sz b o (turnR (rkA σ) rs)→relR M sz b o rs
 |_,[],_=>trivial
 |o,r :: rs, ⟨h1,h2,h3⟩ => ⟨by rwa [turnL_len] at h1,rk_relC b o r h2,rk_relR sz b (o+sz) rs h3⟩
theorem rk_relE (kk:IntKind):∀(as:List (Int×AV)) (es:List MapEntry),relE M kk (turnE (rkA σ) as) es→relE M kk as es
 | [],_,h=>h
 |(_,a) :: as,_, ⟨e,r,he,h1,h2,h3⟩ => ⟨e,r,he,h1,rk_rel a e.val h2,rk_relE kk as r h3⟩
end
theorem rk_to (a:AV) (v:Value) (h:a.rel M v):(a.turn (rkA σ)).rel M v:=AV.turn_rel (p:=fun _=>True) (fun a v _ h=>(rkA_rel a v).2 h) a v (fit_true a) h
theorem AObj.fit_true:∀ob:AObj,ob.fit fun _=>True
 | .cells _ _ cs=>fitL_true cs
 | .arr _ _ _ xs=>fitR_true xs
 | .mapo _ _ es=>fitE_true es
theorem rk_ofO {w:World}:∀(ob:AObj),(ob.turn (rkA σ)).rel M w→ob.rel M w
 | .cells b o cs, ⟨ar,T,vs,h1,h2,h3⟩ => ⟨ar,T,vs,h1,rk_relL cs vs h2,h3⟩
 | .arr h E sz xs, ⟨vs,h1,h2,h3,h4⟩ =>by
  rw[turnR_len] at h1 h4
  rw[turn_flat] at h2
  refine ⟨vs,h1,rk_relL _ vs h2,fun r hr=>?_,h4⟩
  have key:∀l:List (List AV),(∀r∈turnR (rkA σ) l,r.length=sz)→∀r∈l,r.length=sz:=by
   intro l
   induction l with
   |nil=>intro _ r hr;cases hr
   |cons x l ih=>
    intro hx r hr
    simp only[turnR,List.mem_cons,forall_eq_or_imp,turnL_len] at hx
    rcases List.mem_cons.1 hr with rfl|hr
    ·exact hx.1
    ·exact ih hx.2 r hr
  exact key xs h3 r hr
 | .mapo r kk es, ⟨ents,clock,h1,h2⟩ => ⟨ents,clock,h1,rk_relE kk es _ h2⟩
theorem turn_within {f:AV→AV} {a b:AObj}:(a.turn f).within b↔a.within b:=by
 cases a<;>cases b<;>simp only[AObj.within,AObj.turn,turnL_len]
theorem within_turn {f:AV→AV} {a b:AObj}:a.within (b.turn f)↔a.within b:=by
 cases a<;>cases b<;>simp only[AObj.within,AObj.turn,turnL_len]
end
def turnO (f:AV→AV):Option AObj→Option AObj
 |some ob=>some (ob.turn f)
 |none=>none
theorem Frame.turn {w w':World} {objs:List AObj} {f:AV→AV} (h:Frame w (objs.map (AObj.turn f)) w'):Frame w objs w':=by
 refine ⟨h.os,h.tape,h.output,h.size,fun b hb hno=>h.block b hb fun ob hob e=>?_,fun b o cs hc=>?_⟩
 ·obtain ⟨o0,ho0,rfl⟩ :=List.mem_map.1 hob
  rw[AObj.turn_blk] at e
  exact hno o0 ho0 e
 ·have:=h.part b o (turnL f cs) (List.mem_map.2 ⟨_,hc,rfl⟩)
  rwa [turnL_len] at this
theorem Frame.unturn {w w':World} {objs:List AObj} {f:AV→AV} (h:Frame w objs w'):Frame w (objs.map (AObj.turn f)) w':=by
 refine ⟨h.os,h.tape,h.output,h.size,fun b hb hno=>h.block b hb fun ob hob e=>?_,fun b o cs hc=>?_⟩
 ·exact hno _ (List.mem_map.2 ⟨ob,hob,rfl⟩) (by rw[AObj.turn_blk];exact e)
 ·obtain ⟨o0,ho0,e⟩ :=List.mem_map.1 hc
  cases o0<;>simp only[AObj.turn,reduceCtorEq,AObj.cells.injEq] at e
  obtain ⟨rfl,rfl,rfl⟩ :=e
  rw[turnL_len]
  exact h.part _ _ _ ho0
variable {P:Program} {G:Nat→AV} {f:FuncId} {args:List AV} {objs:List AObj} {R:(Nat→AV)→List (Option AObj)→List (Option AObj)→Prop}
theorem Fulfils.imp {R':(Nat→AV)→List (Option AObj)→List (Option AObj)→Prop} {objs':List AObj}
  (h:Fulfils P G f args objs R) (hl:objs'.length=objs.length) (hob:∀(i:Nat) (ob:AObj),objs[i]? =some ob→∃ob',objs'[i]? =some ob'∧ob'.blk=ob.blk∧∀M w,ob'.rel M w→ob.rel M w)
  (hR:∀M M' w v w' ret os fs,R ret os fs→(∀n,(ret n).rel M' v)→After M w objs M' w' os fs→∃ret os fs,R' ret os fs∧(∀n,(ret n).rel M' v)∧After M w objs' M' w' os fs):Fulfils P G f args objs' R':=by
 intro M w vs h1 h2 h3 h4 h5
 have get:∀ob∈objs,∃ob'∈objs',ob'.blk=ob.blk∧∀M w,ob'.rel M w→ob.rel M w:=by
  intro ob hob
  obtain ⟨i,hi⟩ :=List.getElem?_of_mem hob
  obtain ⟨ob',ho,e⟩ :=hob' i ob hi
  exact ⟨ob',List.mem_of_getElem? ho,e⟩
 have k:=h M w vs h1 h2 h3 (fun ob hob=>by
  obtain ⟨ob',ho,e,hr⟩ :=get ob hob
  exact ⟨hr _ _ (h4 ob' ho).1,fun b hb=>(h4 ob' ho).2 b (by rw[e];exact hb)⟩) (fun i j ob ob' b hi hj hb hb'=>by
  obtain ⟨o1,g1,e1,_⟩ :=hob' i ob hi
  obtain ⟨o2,g2,e2,_⟩ :=hob' j ob' hj
  exact h5 i j o1 o2 b g1 g2 (by rw[e1];exact hb) (by rw[e2];exact hb'))
 have fin:∀v w',(∃M' ret os fs,R ret os fs∧(∀n,(ret n).rel M' v)∧After M w objs M' w' os fs)→∃M' ret os fs,R' ret os fs∧(∀n,(ret n).rel M' v)∧After M w objs' M' w' os fs:=
  fun v w' ⟨M',ret,os,fs,hr,hx,ha⟩ => ⟨M',hR M M' w v w' ret os fs hr hx ha⟩
 unfold CallsX at k ⊢
 split at k
 ·refine Calls.mono k fun e w' he=>?_
  cases e with
  |returned v=>exact fin v w' he
  |panicked _=>exact he.elim
  |outgrown=>exact he.elim
 ·exact fin _ _ k
 ·exact k.elim
where hob':=hob
theorem turnO_mem {g:AV→AV} {l:List (Option AObj)} {ob:AObj} (h:some ob∈l.map (turnO g)):∃o0,some o0∈l∧ob=o0.turn g:=by
 obtain ⟨x,hx,e⟩ :=List.mem_map.1 h
 cases x with
 |none=>cases e
 |some o0=>cases e;exact ⟨o0,hx,rfl⟩
theorem turnO_get {g:AV→AV} {l:List (Option AObj)} {i:Nat} {ob:AObj} (h:(l.map (turnO g))[i]? =some (some ob)):∃o0,l[i]? =some (some o0)∧ob=o0.turn g:=by
 rw[List.getElem?_map] at h
 cases hx:l[i]? with
 |none=>rw[hx] at h;cases h
 |some x=>
  rw[hx] at h
  cases x with
  |none=>cases h
  |some o0=>cases h;exact ⟨o0,rfl,rfl⟩
theorem After.turnG {M M':Mem} {w w':World} {os fs:List (Option AObj)} {g:AV→AV} (hg:∀a v,a.rel M' v→(g a).rel M' v) (h:After M w objs M' w' os fs):After M w objs M' w' (os.map (turnO g)) (fs.map (turnO g)):=by
 refine ⟨h.le,h.memw,h.memd,h.frame,by rw[List.length_map];exact h.len,fun ob hob=>?_,fun i j ob ob' b hi hj hb hb'=>?_⟩
 ·rw[←List.map_append] at hob
  obtain ⟨o0,ho0,rfl⟩ :=turnO_mem hob
  obtain ⟨h1,h2⟩ :=h.own o0 ho0
  refine ⟨AObj.turn_rel (p:=fun _=>True) (fun a v _ hr=>hg a v hr) o0 (AObj.fit_true o0) h1,fun b hb=>?_⟩
  rw[AObj.turn_blk] at hb
  refine ⟨(h2 b hb).1,(h2 b hb).2.imp id fun ⟨o1,ho1,e,hw⟩ => ⟨o1,ho1,e,turn_within.2 hw⟩⟩
 ·rw[←List.map_append] at hi hj
  obtain ⟨o1,g1,rfl⟩ :=turnO_get hi
  obtain ⟨o2,g2,rfl⟩ :=turnO_get hj
  rw[AObj.turn_blk] at hb hb'
  exact h.disj i j o1 o2 b g1 g2 hb hb'
theorem After.turn {M M':Mem} {w w':World} {os fs:List (Option AObj)} (σ:Nat→Nat) (h:After M w objs M' w' os fs):After M w objs M' w' (os.map (turnO (rkA σ))) (fs.map (turnO (rkA σ))):=h.turnG fun a v hr=>(rkA_rel a v).2 hr
theorem After.turnObjs {M M':Mem} {w w':World} {os fs:List (Option AObj)} (σ:Nat→Nat) (h:After M w objs M' w' os fs):After M w (objs.map (AObj.turn (rkA σ))) M' w' os fs:=by
 refine ⟨h.le,h.memw,fun b o hb=>(h.memd b o hb).imp id fun h=>h.imp id fun ⟨ob,hob,e⟩ => ⟨_,List.mem_map.2 ⟨ob,hob,rfl⟩,by rw[AObj.turn_blk];exact e⟩,h.frame.unturn,by rw[List.length_map];exact h.len,fun ob hob=>?_,h.disj⟩
 obtain ⟨h1,h2⟩ :=h.own ob hob
 refine ⟨h1,fun b hb=> ⟨(h2 b hb).1,(h2 b hb).2.imp id fun ⟨o1,ho1,e,hw⟩ => ⟨_,List.mem_map.2 ⟨o1,ho1,rfl⟩,by rw[AObj.turn_blk];exact e,within_turn.2 hw⟩⟩⟩
def Rk (σ:Nat→Nat) (R:(Nat→AV)→List (Option AObj)→List (Option AObj)→Prop):(Nat→AV)→List (Option AObj)→List (Option AObj)→Prop:=
 fun ret os fs=>∃ret0 os0 fs0,R ret0 os0 fs0∧ret=(fun n=>(ret0 n).turn (rkA σ))∧os=os0.map (turnO (rkA σ))∧fs=fs0.map (turnO (rkA σ))
theorem Fulfils.rekey (σ:Nat→Nat) (h:Fulfils P G f args objs R):Fulfils P G f args (objs.map (AObj.turn (rkA σ))) (Rk σ R):=
 h.imp (by simp) (fun i ob hi=> ⟨ob.turn (rkA σ),by rw[List.getElem?_map,hi];rfl,AObj.turn_blk ob,fun M w hr=>rk_ofO ob hr⟩)
  fun M M' w v w' ret os fs hr hx ha=> ⟨_,_,_, ⟨ret,os,fs,hr,rfl,rfl,rfl⟩,fun n=>rk_to _ _ (hx n),(ha.turn σ).turnObjs σ⟩
def Rf (R:(Nat→AV)→List (Option AObj)→List (Option AObj)→Prop):(Nat→AV)→List (Option AObj)→List (Option AObj)→Prop:=
 fun ret os fs=>∃g:AV→AV,(∀M a v,a.rel M v→(g a).rel M v)∧R (fun n=>(ret n).turn g) (os.map (turnO g)) (fs.map (turnO g))
theorem turnG_rel {M:Mem} {g:AV→AV} (hg:∀a v,a.rel M v→(g a).rel M v) (a:AV) (v:Value) (h:a.rel M v):(a.turn g).rel M v:=AV.turn_rel (p:=fun _=>True) (fun a v _ h=>hg a v h) a v (fit_true a) h
theorem Fulfils.fold (h:Fulfils P G f args objs (Rf R)):Fulfils P G f args objs R:=
 h.imp rfl (fun i ob hi=> ⟨ob,hi,rfl,fun M w hr=>hr⟩) fun M M' w v w' ret os fs ⟨g,hg,hr⟩ hx ha=> ⟨_,_,_,hr,fun n=>turnG_rel (hg M') _ _ (hx n),ha.turnG (hg M')⟩
def assocN:List (Nat×Nat)→Nat→Nat
 | [],k=>k
 |(a,b) :: l,k=>if a=k then b else assocN l k
theorem doneG {no:Nat} {rs:List ResultVar} {S:St} (g:AV→AV) (hg:∀M a v,a.rel M v→(g a).rel M v) (ks:List Nat) (hR:R (fun _=>(resA P S rs).turn g) ((osA S.H 0 no).map (turnO g)) ((ks.map (getO S.H)).map (turnO g))) (hk:∀k∈ks,no≤k) (hn:ks.Nodup)
  (ho:allP (rs.map (resOK P S))):done P no rs (Rf R) S:=
 ⟨fun _=>resA P S rs,ks, ⟨g,hg,hR⟩,hk,hn,ho,fun _=>rfl⟩
theorem doneX {no:Nat} {rs:List ResultVar} {S:St} (ks:List (Nat×Nat)) (hR:R (fun _=>(resA P S rs).turn (rkA (assocN ks))) ((osA S.H 0 no).map (turnO (rkA (assocN ks)))) ((ks.map fun p=>getO S.H p.1).map (turnO (rkA (assocN ks))))) (hk:∀k∈ks.map (·.1),no≤k) (hn:(ks.map (·.1)).Nodup)
  (ho:allP (rs.map (resOK P S))):done P no rs (Rf R) S:=
 doneG (rkA (assocN ks)) (fun M a v h=>(rkA_rel a v).2 h) (ks.map (·.1)) (by rw[show (ks.map (·.1)).map (getO S.H)=ks.map fun p=>getO S.H p.1 by simp];exact hR) hk hn ho
def nilD (σ:Nat→Nat):AV→AV
 | .val (.slice none 0 0)=>.dat false 1 []
 |a=>rkA σ a
theorem nilD_rel {σ:Nat→Nat} (M:Mem) (a:AV) (v:Value) (h:a.rel M v):(nilD σ a).rel M v:=by
 unfold nilD
 split
 ·cases h
  exact ⟨none,0,rfl,(fun e=>by cases e),by simp,by simp,.inl rfl,fun p e=>by cases e⟩
 ·exact (rkA_rel a v).2 h
theorem doneN {no:Nat} {rs:List ResultVar} {S:St} (ks:List (Nat×Nat)) (hR:R (fun _=>(resA P S rs).turn (nilD (assocN ks))) ((osA S.H 0 no).map (turnO (nilD (assocN ks)))) ((ks.map fun p=>getO S.H p.1).map (turnO (nilD (assocN ks))))) (hk:∀k∈ks.map (·.1),no≤k) (hn:(ks.map (·.1)).Nodup)
  (ho:allP (rs.map (resOK P S))):done P no rs (Rf R) S:=
 doneG (nilD (assocN ks)) nilD_rel (ks.map (·.1)) (by rw[show (ks.map (·.1)).map (getO S.H)=ks.map fun p=>getO S.H p.1 by simp];exact hR) hk hn ho
theorem fulfilX {fn:Func} {n no:Nat} {rs:List ResultVar} (c:Code)
  (hf:P.funcs[f]? =some fn) (hb:fn.body=some c) (hn:(fn.name == "runtime.NumGoroutine")=false) (hnt:fn.ntmps=n) (hl:args.length≤n) (hres:fn.results=rs.toArray) (hrs:rs.length≤4) (hno:objs.length=no)
  (h:Hoare ⟨P,G,n,objs⟩ c (endQ P no rs (Rf R)) ⟨idxA 0 args,idxO 0 objs⟩):Fulfils P G f args objs R:=Fulfils.fold (fulfil hf hb hn hnt hl hres hrs (by rw[hno];exact h))
def keyOf (l:List Nat) (k:Nat):Nat:=l.getD k k
theorem callXF {d:Nat} {args' caps:List AV} {H:List (Nat×Option AObj)} {K:AV→List (Nat×Option AObj)→Prop} (keys fz:List Nat) (nf:Nat)
  (hf:Fulfils P G f args objs R) (ha:((args'++caps).map (frzV (getO H) fz)).map normA=args.map normA) (hp:allP ((args'++caps).map (frzP (getO H) fz))) (ho:keys.map (getO H)=objs.map fun o=>some (o.turn (rkA (keyOf (keys++fkeys d nf))))) (hnd:(keys++fz).Nodup)
  (hK:∀ret os fs,R ret os fs→K ((ret d).turn (rkA (keyOf (keys++fkeys d nf)))) ((keys++fkeys d nf).zip (os.map (turnO (rkA (keyOf (keys++fkeys d nf))))++fs.map (turnO (rkA (keyOf (keys++fkeys d nf)))))++fz.map fun k=>(k,none))):vcCall P G d (.fn f caps) args' H K:=
 ⟨⟨f,args,_,nf,True,.top,_,fun _=>hf.rekey (keyOf (keys++fkeys d nf))⟩,(keys,fz), ⟨trivial,rfl,ha,hp,by rw[ho,List.map_map];rfl,hnd⟩,fun x ⟨ret,os,fs,hr,e1,e2,e3⟩ =>by
  have:=hK ret os fs hr
  simp only[callR,e1,e2,e3]
  exact this⟩
theorem frzV_nil {look:Look} {x:AV}:frzV look [] x=x:=by cases x<;>simp[frzV]
theorem frzP_nil {look:Look} {x:AV}:frzP look [] x:=by cases x<;>simp[frzP]
theorem frz_all {look:Look}:∀{l:List AV},l.map (frzV look [])=l∧allP (l.map (frzP look []))
 | []=> ⟨rfl,trivial⟩
 |a :: l=> ⟨by simp only[List.map_cons,frzV_nil,(frz_all (l:=l)).1],frzP_nil,(frz_all (l:=l)).2⟩
theorem callX {d:Nat} {args' caps:List AV} {H:List (Nat×Option AObj)} {K:AV→List (Nat×Option AObj)→Prop} (keys:List Nat) (nf:Nat)
  (hf:Fulfils P G f args objs R) (ha:(args'++caps).map normA=args.map normA) (ho:keys.map (getO H)=objs.map fun o=>some (o.turn (rkA (keyOf (keys++fkeys d nf))))) (hnd:keys.Nodup)
  (hK:∀ret os fs,R ret os fs→K ((ret d).turn (rkA (keyOf (keys++fkeys d nf)))) ((keys++fkeys d nf).zip (os.map (turnO (rkA (keyOf (keys++fkeys d nf))))++fs.map (turnO (rkA (keyOf (keys++fkeys d nf))))))):vcCall P G d (.fn f caps) args' H K:=
 callXF keys [] nf hf (by rw[frz_all.1];exact ha) frz_all.2 ho (by simpa using hnd) fun ret os fs h=>by simpa using hK ret os fs h
def objI (f:FuncId) (args:List AV) (objs:List AObj) (keys:List Nat) (d nf:Nat) (R:(Nat→AV)→List (Option AObj)→List (Option AObj)→Prop) (hyp:Prop) (ok:hyp→Fulfils P G f args objs R):Inst P G:=
 ⟨f,args,objs.map (AObj.turn (rkA (keyOf (keys++fkeys d nf)))),nf,hyp,.top,Rk (keyOf (keys++fkeys d nf)) R,fun h=>(ok h).rekey _⟩
theorem objI_nf {keys:List Nat} {d nf:Nat} {hyp:Prop} {ok:hyp→Fulfils P G f args objs R}:(objI f args objs keys d nf R hyp ok).nf=nf:=rfl
theorem callDX {d:Nat} {args' caps:List AV} {H:List (Nat×Option AObj)} {K:AV→List (Nat×Option AObj)→Prop} {keys fz:List Nat} {nf:Nat} {hyp:Prop} {ok:hyp→Fulfils P G f args objs R}
  (hh:hyp) (ha:((args'++caps).map (frzV (getO H) fz)).map normA=args.map normA) (hp:allP ((args'++caps).map (frzP (getO H) fz))) (ho:keys.map (getO H)=objs.map fun o=>some (o.turn (rkA (keyOf (keys++fkeys d nf))))) (hnd:(keys++fz).Nodup)
  (hK:∀ret os fs,R ret os fs→K ((ret d).turn (rkA (keyOf (keys++fkeys d nf)))) ((keys++fkeys d nf).zip (os.map (turnO (rkA (keyOf (keys++fkeys d nf))))++fs.map (turnO (rkA (keyOf (keys++fkeys d nf)))))++fz.map fun k=>(k,none))):vcCallD d (.fn f caps) args' H (objI f args objs keys d nf R hyp ok,(keys,fz)) K:=
 ⟨⟨hh,rfl,ha,hp,by simp only[objI];rw[ho,List.map_map];rfl,hnd⟩,fun x ⟨ret,os,fs,hr,e1,e2,e3⟩ =>by
  have:=hK ret os fs hr
  simp only[callR,e1,e2,e3]
  exact this⟩
def retO (a:AV) (os':List (Option AObj)):(Nat→AV)→List (Option AObj)→List (Option AObj)→Prop:=fun ret os fs=>ret=(fun _=>a)∧os=os'∧fs=[]
def retB (no E sz:Nat) (rows:List (List AV)) (os':List (Option AObj)):(Nat→AV)→List (Option AObj)→List (Option AObj)→Prop:=fun ret os fs=>∃h,ret=(fun _=>.buf no h)∧os=os'∧fs=[some (.arr h E sz rows)]
attribute [go_sem] objI_nf fkeys List.zip_cons_cons List.zip_nil_right List.zip_nil_left osA turnO rkA nilD keyOf assocN List.getD_nil List.map_append
open Go
variable {P:Program} {G:Nat→AV} {f:FuncId} {args:List AV} {objs:List AObj} {R:(Nat→AV)→List (Option AObj)→List (Option AObj)→Prop}
def mkC (keys:List Nat) (d nf:Nat) (fz:List Nat) (hf:Fulfils P G f args objs R):Inst P G×List Nat×List Nat:=(objI f args objs keys d nf R True fun _=>hf,(keys,fz))
theorem mkC_nf {keys:List Nat} {d nf:Nat} {fz:List Nat} {hf:Fulfils P G f args objs R}:(mkC keys d nf fz hf).1.nf=nf:=rfl
theorem mkC_keys {keys:List Nat} {d nf:Nat} {fz:List Nat} {hf:Fulfils P G f args objs R}:(mkC keys d nf fz hf).2.1=keys:=rfl
theorem mkC_fz {keys:List Nat} {d nf:Nat} {fz:List Nat} {hf:Fulfils P G f args objs R}:(mkC keys d nf fz hf).2.2=fz:=rfl
theorem callDm {d:Nat} {args' caps:List AV} {H:List (Nat×Option AObj)} {K:AV→List (Nat×Option AObj)→Prop} {keys fz:List Nat} {nf:Nat} {hf:Fulfils P G f args objs R}
  (ha:((args'++caps).map (frzV (getO H) fz)).map normA=args.map normA) (hp:allP ((args'++caps).map (frzP (getO H) fz))) (ho:keys.map (getO H)=objs.map fun o=>some (o.turn (rkA (keyOf (keys++fkeys d nf))))) (hnd:(keys++fz).Nodup)
  (hK:∀ret os fs,R ret os fs→K ((ret d).turn (rkA (keyOf (keys++fkeys d nf)))) ((keys++fkeys d nf).zip (os.map (turnO (rkA (keyOf (keys++fkeys d nf))))++fs.map (turnO (rkA (keyOf (keys++fkeys d nf)))))++fz.map fun k=>(k,none))):vcCallD d (.fn f caps) args' H (mkC keys d nf fz hf) K:=
 callDX trivial ha hp ho hnd hK
theorem Fulfils.argsOf {args':List AV} (h:Fulfils P G f args objs R) (ha:∀M vs,relT M args' vs→relT M args vs):Fulfils P G f args' objs R:=
 fun M w vs h1 h2 h3 h4 h5=>h M w vs h1 h2 (ha M vs h3) h4 h5
theorem nil_dat {M:Mem} {sz:Nat} {v:Value} (h:(AV.val (.slice none 0 0)).rel M v):(AV.dat false sz []).rel M v:=by
 cases h
 exact ⟨none,0,rfl,(fun e=>by cases e),by simp,by simp,.inl rfl,fun p e=>by cases e⟩
theorem hLoop0 {C:Ctx} {Q:Post} {S:St} {c:Code} (h:Hoare C c (thn (fun _=>False) Q) S):Hoare C (.loop c) Q S:=by
 intro w0 M0 M a w hS b k cs
 obtain ⟨e,a₁,w₁, ⟨M',S',hS',hq⟩,harr⟩ :=h w0 M0 M a w hS b (.inLoop c :: k) cs
 cases e with
 |normal=>exact hq.elim
 |exit id=>exact ⟨_,a₁,w₁, ⟨M',S',hS',hq⟩,.of_steps (.one step_loop) (.pass (x:=.inLoop c) rfl (fun _ _=>.inl (by simp)) harr)⟩
 |goto l=>exact ⟨_,a₁,w₁, ⟨M',S',hS',hq⟩,.of_steps (.one step_loop) (.pass (x:=.inLoop c) rfl (fun _ _=>.inl (by simp)) harr)⟩
 |ret=>exact ⟨_,a₁,w₁, ⟨M',S',hS',hq⟩,.of_steps (.one step_loop) (.pass (x:=.inLoop c) rfl (fun _ _=>.inl (by simp)) harr)⟩
 |panic ch=>exact ⟨_,a₁,w₁, ⟨M',S',hS',hq⟩,.of_steps (.one step_loop) (.pass (x:=.inLoop c) rfl (fun _ _=>.inl (by simp)) harr)⟩
 |outgrown=>exact ⟨_,a₁,w₁, ⟨M',S',hS',hq⟩,.of_steps (.one step_loop) (.pass (x:=.inLoop c) rfl (fun _ _=>.inl (by simp)) harr)⟩
attribute [go_sem] mkC_nf mkC_keys mkC_fz normA frzV_nil frzP_nil
open Go
theorem Chg.refl' {w:World} {b o n:Nat} {cs:List AV} {M:Mem} (h:(AObj.cells b o cs).rel M w):Chg w w b o n:=by
 obtain ⟨arr,T,vs,h1,h2,h3⟩ :=h
 exact ⟨arr,arr,T,(0,0),h1,h1,rfl,fun _ _=>rfl⟩
theorem eObj {C:Ctx} {S:St} (k:Nat) {ob ob':AObj} (hk:getO S.H k=some ob) (hr:∀M w,ob.rel M w→ob'.rel M w) (hb:ob'.blk=ob.blk) (hw:ob'.within ob):Ent C S ⟨S.ρ,(k,some ob') :: S.H⟩ :=by
 intro w0 M0 M a w hS
 have ho:=hS.own k ob hk
 refine ⟨M,Sat.world (M':=M) hS [k] [(k,some ob')] rfl rfl rfl (Nat.le_refl _) (fun _ _ _=>rfl) ?_ (by simp) (Mem.le.refl M) hS.memw (fun b o hb=>.inl hb) ?_ ?_⟩
 ·intro k' hk' b o cs hc
  simp only[List.mem_singleton] at hk'
  subst hk'
  rw[hk] at hc
  cases hc
  exact Chg.refl' ho.1
 ·intro k' ob1 e1
  simp only[getO] at e1
  split at e1
  ·rename_i e2
   subst e2
   cases e1
   exact ⟨hr M w ho.1,fun b hbb=> ⟨ho.2.2 b (hb▸hbb),.inr ⟨k,by simp,ob,hk,hb▸hbb,hw⟩⟩⟩
  ·cases e1
 ·intro k1 k2 ob1 ob2 b e1 e2 hb1 hb2
  simp only[getO] at e1 e2
  split at e1
  ·split at e2
   ·rename_i x y;exact x.symm.trans y
   ·cases e2
  ·cases e1
theorem eNil {C:Ctx} {S:St} (k e sz:Nat):Ent C S ⟨S.ρ,(k,some (.arr (.slice none 0 0) e sz [])) :: S.H⟩ :=by
 intro w0 M0 M a w hS
 exact ⟨M,Sat.world (M':=M) hS [] [(k,some (.arr (.slice none 0 0) e sz []))] rfl rfl rfl (Nat.le_refl _) (fun _ _ _=>rfl) (fun k hk=>by cases hk) (fun k hk=>by cases hk) (Mem.le.refl M) hS.memw (fun b o hb=>.inl hb)
  (fun k' ob e1=>by
   simp only[getO] at e1
   split at e1
   ·cases e1
    exact ⟨⟨[],ownsZ_nil w e sz,rfl,by simp,by simp⟩,fun b hb=>by simp[AObj.blk,Value.ownBlock] at hb⟩
   ·cases e1)
  (fun k1 k2 ob1 ob2 b e1 e2 hb=>by
   simp only[getO] at e1
   split at e1
   ·cases e1;simp[AObj.blk,Value.ownBlock] at hb
   ·cases e1)⟩
theorem eOwnCell {C:Ctx} {S:St} (k k2 i e sz:Nat) {b o:Nat} {cs:List AV} (hk:getO S.H k2=some (.cells b o cs)) (hi:cs[i]? =some (.val (.slice none 0 0))) (hne:k≠k2):
  Ent C S ⟨S.ρ,(k2,some (.cells b o (cs.set i (.buf k (.slice none 0 0))))) :: (k,some (.arr (.slice none 0 0) e sz [])) :: S.H⟩ :=by
 intro w0 M0 M a w hS
 obtain ⟨M',h'⟩ :=eNil (C:=C) (S:=S) k e sz w0 M0 M a w hS
 have hk':getO ((k,some (AObj.arr (.slice none 0 0) e sz [])) :: S.H) k2=some (.cells b o cs):=by
  simp only[getO]
  rw[if_neg hne]
  exact hk
 refine eObj (C:=C) (ob':=.cells b o (cs.set i (.buf k (.slice none 0 0)))) (S:= ⟨S.ρ,(k,some (.arr (.slice none 0 0) e sz [])) :: S.H⟩) k2 hk' ?_ rfl ⟨rfl,Nat.le_refl _,by simp⟩ w0 M0 M' a w h'
 rintro M w ⟨arr,T,vs,h1,h2,h3⟩
 obtain ⟨v,e1,e2,e3⟩ :=relL_get h2 i _ hi
 cases e3
 have hset:=relL_set i (.buf k (.slice none 0 0)) (.slice none 0 0) h2 e2 ⟨rfl,none,0,0,rfl⟩
 have:vs.set i (.slice none 0 0)=vs:=by
  apply List.ext_getElem?
  intro j
  rw[List.getElem?_set]
  split
  ·rename_i ej;subst ej
   rw[e1]
   have:=(List.getElem?_eq_some_iff.1 e1).1
   simp[this]
  ·rfl
 rw[this] at hset
 exact ⟨arr,T,vs,h1,hset,h3⟩
theorem eNilD {C:Ctx} {S:St}:Ent C S ⟨turnρ (nilD id) S.ρ,turnH (nilD id) S.H⟩ :=by
 intro w0 M0 M a w hS
 exact ⟨M,Sat.turn (f:=nilD id) (p:=fun _=>True) hS rfl trivial (fun x v _ hr=>nilD_rel M x v hr) (fitρ_true _) (fitH_true _)⟩
attribute [go_sem] id
open Go
theorem sim {p q:Prop} (hq:q) (h:p=q:=by simp -implicitDefEqProofs only[go_sem,↓reduceIte,Nat.reduceEqDiff,Nat.reduceLT,Nat.reduceLeDiff,Nat.reduceAdd,Nat.reduceSub,Nat.reduceMul,reduceCtorEq,List.reduceReplicate,Nat.reduceBEq];rfl):p:=h▸hq
theorem sT {p:Prop} (h:p:=by refine sim ?_;exact trivial):p:=h
theorem simE {E p q:Prop} (e:E) (hq:q) (h:E→p=q:=by intro e;simp -implicitDefEqProofs only[go_sem,↓reduceIte,Nat.reduceEqDiff,Nat.reduceLT,Nat.reduceLeDiff,Nat.reduceAdd,Nat.reduceSub,Nat.reduceMul,reduceCtorEq,List.reduceReplicate,Nat.reduceBEq,e];rfl):p:=h e▸hq
variable {C:Ctx} {Q:Post} {S:St}
theorem s1 {a b:Code} (h:Hoare C a (thn (Hoare C b Q) Q) S):Hoare C (.seq a b) Q S:=hSeq h
theorem s2 {id:Nat} {c:Code} (h:Hoare C c (blk id Q) S):Hoare C (.block id c) Q S:=hBlock h
theorem s7 {c:Operand} {x y:Code} {b:Bool} {p n:Prop} (hb:opA C.G S.ρ c= .val (.bool b)) (h1:p→Hoare C x Q S) (h2:n→Hoare C y Q S)
  (hp:(b=true)=p:=by first|(simp only[decide_eq_true_eq,decide_eq_false_iff_not,beq_iff_eq,beq_eq_false_iff_ne,bne_iff_ne,bne_eq_false_iff_eq,Bool.not_eq_true',Bool.not_eq_false',Int.not_lt,Int.not_le,gt_iff_lt,ge_iff_le,ne_eq,Bool.and_eq_true,Bool.or_eq_true,Bool.and_eq_false_iff,Bool.or_eq_false_iff,Decidable.not_not];rfl)|rfl)
  (hn:(b=false)=n:=by first|(simp only[decide_eq_true_eq,decide_eq_false_iff_not,beq_iff_eq,beq_eq_false_iff_ne,bne_iff_ne,bne_eq_false_iff_eq,Bool.not_eq_true',Bool.not_eq_false',Int.not_lt,Int.not_le,gt_iff_lt,ge_iff_le,ne_eq,Bool.and_eq_true,Bool.or_eq_true,Bool.and_eq_false_iff,Bool.or_eq_false_iff,Decidable.not_not];rfl)|rfl):Hoare C (.cond c x y) Q S:=
 hCond hb (fun h=>h1 (hp▸h)) (fun h=>h2 (hn▸h))
theorem s8 {p:Prop} (h:p):p∧p:= ⟨h,h⟩
section
variable {P:Program} {G:Nat→AV} {f:FuncId} {args:List AV} {objs:List AObj} {R:(Nat→AV)→List (Option AObj)→List (Option AObj)→Prop}
theorem doneA {no:Nat} {rs:List ResultVar} {S:St} (ks:List (Nat×Nat)) {q:Prop} (hq:q)
  (hR:R (fun _=>(resA P S rs).turn (rkA (assocN ks))) ((osA S.H 0 no).map (turnO (rkA (assocN ks)))) ((ks.map fun p=>getO S.H p.1).map (turnO (rkA (assocN ks))))=q:=by simp -implicitDefEqProofs only[go_sem,↓reduceIte,Nat.reduceEqDiff,Nat.reduceLT,Nat.reduceLeDiff,Nat.reduceAdd,Nat.reduceSub,Nat.reduceMul,reduceCtorEq,List.reduceReplicate,Nat.reduceBEq];rfl)
  (hk:∀k∈ks.map (·.1),no≤k:=by simp) (hn:(ks.map (·.1)).Nodup:=by simp)
  (ho:allP (rs.map (resOK P S)):=by simp -implicitDefEqProofs only[go_sem,↓reduceIte,Nat.reduceEqDiff,Nat.reduceLT,Nat.reduceLeDiff,Nat.reduceAdd,Nat.reduceSub,Nat.reduceMul,reduceCtorEq,List.reduceReplicate,Nat.reduceBEq]):done P no rs (Rf R) S:=
 doneX ks (hR▸hq) hk hn ho
theorem callA {d:Nat} {args' caps:List AV} {H:List (Nat×Option AObj)} {K:AV→List (Nat×Option AObj)→Prop} (keys:List Nat) (nf:Nat) (hf:Fulfils P G f args objs R)
  (hK:∀ret os fs,R ret os fs→K ((ret d).turn (rkA (keyOf (keys++fkeys d nf)))) ((keys++fkeys d nf).zip (os.map (turnO (rkA (keyOf (keys++fkeys d nf))))++fs.map (turnO (rkA (keyOf (keys++fkeys d nf)))))))
  (ha:(args'++caps).map normA=args.map normA:=by rfl)
  (ho:keys.map (getO H)=objs.map (fun o=>some (o.turn (rkA (keyOf (keys++fkeys d nf))))):=by simp -implicitDefEqProofs only[go_sem,↓reduceIte,Nat.reduceEqDiff,Nat.reduceLT,Nat.reduceLeDiff,Nat.reduceAdd,Nat.reduceSub,Nat.reduceMul,reduceCtorEq,List.reduceReplicate,Nat.reduceBEq])
  (hnd:keys.Nodup:=by simp):vcCall P G d (.fn f caps) args' H K:=callX keys nf hf ha ho hnd hK
theorem callDA {d:Nat} {args' caps:List AV} {H:List (Nat×Option AObj)} {K:AV→List (Nat×Option AObj)→Prop} {keys fz:List Nat} {nf:Nat} {hf:Fulfils P G f args objs R}
  (hK:∀ret os fs,R ret os fs→K ((ret d).turn (rkA (keyOf (keys++fkeys d nf)))) ((keys++fkeys d nf).zip (os.map (turnO (rkA (keyOf (keys++fkeys d nf))))++fs.map (turnO (rkA (keyOf (keys++fkeys d nf)))))++fz.map fun k=>(k,none)))
  (ha:((args'++caps).map (frzV (getO H) fz)).map normA=args.map normA:=by simp -implicitDefEqProofs only[go_sem,↓reduceIte,Nat.reduceEqDiff,Nat.reduceLT,Nat.reduceLeDiff,Nat.reduceAdd,Nat.reduceSub,Nat.reduceMul,reduceCtorEq,List.reduceReplicate,Nat.reduceBEq])
  (hp:allP ((args'++caps).map (frzP (getO H) fz)):=by simp -implicitDefEqProofs only[go_sem,↓reduceIte,Nat.reduceEqDiff,Nat.reduceLT,Nat.reduceLeDiff,Nat.reduceAdd,Nat.reduceSub,Nat.reduceMul,reduceCtorEq,List.reduceReplicate,Nat.reduceBEq])
  (ho:keys.map (getO H)=objs.map (fun o=>some (o.turn (rkA (keyOf (keys++fkeys d nf))))):=by simp -implicitDefEqProofs only[go_sem,↓reduceIte,Nat.reduceEqDiff,Nat.reduceLT,Nat.reduceLeDiff,Nat.reduceAdd,Nat.reduceSub,Nat.reduceMul,reduceCtorEq,List.reduceReplicate,Nat.reduceBEq])
  (hnd:(keys++fz).Nodup:=by simp):vcCallD d (.fn f caps) args' H (mkC keys d nf fz hf) K:=callDm ha hp ho hnd hK
theorem fulfilA (fn:Func) (rs:List ResultVar) (no:Nat) {n:Nat} (h:Hoare ⟨P,G,n,objs⟩ (fn.body.getD .skip) (endQ P no rs (Rf R)) ⟨idxA 0 args,idxO 0 objs⟩)
  (hf:P.funcs[f]? =some fn:=by kernel_rfl) (hb:fn.body=some (fn.body.getD .skip):=by rfl) (hn:(fn.name == "runtime.NumGoroutine")=false:=by rfl) (hnt:fn.ntmps=n:=by rfl) (hl:args.length≤n:=by simp only[List.length_cons,List.length_nil];decide)
  (hres:fn.results=rs.toArray:=by rfl) (hrs:rs.length≤4:=by decide) (hno:objs.length=no:=by rfl):Fulfils P G f args objs R:=fulfilX _ hf hb hn hnt hl hres hrs hno h
end
end Go.AM
