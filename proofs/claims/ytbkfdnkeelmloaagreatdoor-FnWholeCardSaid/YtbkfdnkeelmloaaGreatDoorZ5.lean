/- Part 5 of the proof: Am14 Am15 Am16 Am17. -/
import Derived.Test.YtbkfdnkeelmloaaGreatDoorZ3
set_option linter.unusedVariables false
set_option linter.unusedSimpArgs false
namespace Go.AM
open Go
def opA (G:Nat→AV) (ρ:List (Nat×AV)):Operand→AV
 | .tmp t=>getA ρ t
 | .const v=>.val v
 | .global g=>G g
 | .func f=>.fn f []
def bindA (d:Option Nat) (v:AV) (ρ:List (Nat×AV)):List (Nat×AV):=match d with|some d=>(d,v) :: ρ|none=>ρ
def dstLt (n:Nat):Option Nat→Prop
 |some d=>d < n
 |none=>True
def grdV (want:Bool):AV→Option Bool
 | .val (.bool b)=>some (b == want)
 | .cnd g (.val (.bool b))=>some (g && (b == want))
 |_=>none
def grd (ops:Array Oper) (ρ:List (Nat×AV)) (j:Nat) (want:Bool):Option Bool:=
 match ops[j]? with
 |some o=>match o.dst with
  |some d=>grdV want (getA ρ d)
  |none=>none
 |none=>none
def okG (e:Operand→AV):Op→Prop
 | .pick c _ _=>cndOK (e c)=true
 |op=>∀x∈op.operands.toList,cndOK (e x)=true
def actG (P:Program) (d:Nat) (op:Op) (e:Operand→AV) (look:Look):ActR:=
 match op with
 | .pick c x y=>actPick (stripC (e c)) (e x) (e y)
 |op=>act P d op (fun x=>stripC (e x)) look
def quiet:Op→Bool
 | .move _| .assign _| .pick .. | .load .. | .nilCheck _| .binOp .. | .unOp .. | .makeInterface .. | .makeFunc .. | .slice .. | .fieldAddr .. | .indexAddr .. | .index .. | .typeAssert .. | .extract .. | .lookup ..=>true
 | .call ⟨.builtin .len,_,_⟩ =>true
 | .call ⟨.builtin .max,_,_⟩ =>true
 | .convert _ t _=>!(t == 32)
 |_=>false
def isCall:Op→Bool
 | .call ⟨.value _,_,_⟩ =>true
 | .call ⟨.invoke _ _,_,_⟩ =>true
 |_=>false
def opR (P:Program) (G:Nat→AV) (ops:Array Oper) (c:Inst P G) (keys:List Nat×List Nat) (o:Oper) (S:St):ActR:=
 match o.guard with
 |none=>match o.op with
  | .call ⟨.value f,args,_⟩ =>match opA G S.ρ f with
   | .fn f caps=>callR (o.dst.getD 0) f (args.toList.map (opA G S.ρ)++caps) (getO S.H) c keys
   |_=>.stuck
  | .call ⟨.invoke g name,args,_⟩ =>match opA G S.ρ g with
   | .ifc t x=>match methR P t name with
    |some f=>callR (o.dst.getD 0) f (x :: args.toList.map (opA G S.ρ)) (getO S.H) c keys
    |none=>.stuck
   |_=>.stuck
  |op=>act P (o.dst.getD 0) op (opA G S.ρ) (getO S.H)
 |some (j,want)=>match grd ops S.ρ j want with
  |some g=>match o.op with
   | .call ⟨.value f,args,_⟩ =>match opA G S.ρ f with
    | .fn f caps=>.pure ((g=true→c.hyp∧c.f=f∧((args.toList.map fun x=>stripC (opA G S.ρ x))++caps).map normA=c.args.map normA∧c.objs=[]∧∀x∈args.toList,cndOK (opA G S.ρ x)=true)∧c.nf=0∧
      ∀ret os fs,c.R ret os fs→ret=fun _=>c.pv) (.cnd g c.pv)
    |_=>.stuck
   | .call ⟨.invoke _ _,_,_⟩ =>.stuck
   |op=>.pure (quiet op=true∧(g=true→okG (opA G S.ρ) op∧(actG P (o.dst.getD 0) op (opA G S.ρ) (getO S.H)).pre)) (.cnd g ((actG P (o.dst.getD 0) op (opA G S.ρ) (getO S.H)).res default))
  |none=>.stuck
def nextS (o:Oper) (r:ActR) (x:Outc) (S:St):St:= ⟨bindA o.dst (r.res x) S.ρ,r.upd x++S.H⟩
def vcL (P:Program) (G:Nat→AV) (n:Nat) (ops:Array Oper) (K:St→Prop):List Oper→St→Prop
 | [],S=>K S
 |o :: rest,S=>dstLt n o.dst∧if isCall o.op=true then∃(c:Inst P G) (keys:List Nat×List Nat),(opR P G ops c keys o S).pre∧∀x,(opR P G ops c keys o S).out x→vcL P G n ops K rest (nextS o (opR P G ops c keys o S) x S)
   else (opR P G ops default ([],[]) o S).pre∧∀x,(opR P G ops default ([],[]) o S).out x→vcL P G n ops K rest (nextS o (opR P G ops default ([],[]) o S) x S)
section
variable {E:Env} {S:St} {M:Mem} {a:Act} {w:World}
theorem opA_rel (hS:Sat E S M a w):∀x,(opA E.G S.ρ x).rel M (a.eval x)
 | .tmp t=>hS.slot t
 | .const v=>rfl
 | .global g=>hS.glob g
 | .func f=> ⟨[],rfl,rfl⟩
theorem strip_rel {x:AV} {v:Value} (h:x.rel M v) (hc:cndOK x=true):(stripC x).rel M v:=by
 cases x<;>first|exact h|skip
 exact h.1 hc
theorem act_quiet {P:Program} {d:Nat} {op:Op} {e:Operand→AV} {look:Look} (h:quiet op=true):∃p v,act P d op e look= .pure p v:=by
 have st:∃p v,ActR.stuck=ActR.pure p v:= ⟨False,.top,rfl⟩
 cases op<;>first|(cases h;done)|skip
 case call c=>
  obtain ⟨callee,args,ts⟩ :=c
  cases callee<;>first|(cases h;done)|skip
  rename_i b
  cases b<;>first|(cases h;done)|skip
  all_goals simp only[act,actBuiltin]
  all_goals repeat' first|exact ⟨_,_,rfl⟩ |exact st|contradiction|(unfold actLen)|(unfold actMax)|split
 case convert s t x=>
  have h32:t≠32:=by simpa [quiet] using h
  simp only[act]
  unfold actConv
  repeat' first|exact ⟨_,_,rfl⟩ |exact st|(exact absurd ‹_› h32)|split
 case makeFunc f _ _=>
  cases f<;>simp only[act]<;>first|exact st|skip
  split
  ·exact ⟨_,_,rfl⟩
  ·exact st
 case slice t x lo hi mx=>
  cases mx<;>simp only[act]<;>first|exact st|skip
  repeat' first|exact ⟨_,_,rfl⟩ |exact st|(unfold actSlice)|split
 all_goals simp only[act]
 all_goals repeat' first|exact ⟨_,_,rfl⟩ |exact st|(unfold actPick)|(unfold actLoad)|(unfold actNil)|(unfold actBin)|(unfold actEqT)|(unfold actLookup)|(unfold actUn)|(unfold actConv)|(unfold actField)|(unfold actIndexAddr)|(unfold actIndex)|(unfold actAssert)|(unfold actExtract)|split
def StepOK (E:Env) (S:St) (M:Mem) (a:Act) (w:World) (ops:Array Oper) (o:Oper) (r:ActR):Prop:=
 ∀next Q,(∀x,r.out x→∀M' w' v,(r.res x).rel M' v→Sat E ⟨S.ρ,r.upd x++S.H⟩ M' a w'→next (a.put o.dst v) w')→
  if Region.wanted o (yielded ops a.tmps)=true then o.wp E.P a w next Q else next (a.put o.dst undef) w
theorem OpOK.step {ops:Array Oper} {o:Oper} {r:ActR} (hg:o.guard=none) (h:OpOK E S M a w o r):StepOK E S M a w ops o r:=by
 intro next Q hn
 rw[if_pos (by simp[Region.wanted,hg])]
 exact h next Q hn
theorem grd_ok (hS:Sat E S M a w) {ops:Array Oper} {j:Nat} {want g:Bool} {o:Oper} (ho:o.guard=some (j,want)) (h:grd ops S.ρ j want=some g):(Region.wanted o (yielded ops a.tmps)=true)↔g=true:=by
 unfold grd at h
 split at h
 ·rename_i o' ho'
  split at h
  ·rename_i d hd
   have hs:=hS.slot d
   have hnu:∀b,Value.bool b≠undef:=fun b=>by simp[undef]
   have hy:∀v,a.tmps.getD d undef=v→yielded ops a.tmps j=(match v with| .bool b=>some b|_=>none):=by
    intro v hv
    unfold yielded
    simp only[ho',Option.bind_some,hd]
    rw[Array.getD_eq_getD_getElem?] at hv
    cases h1:a.tmps[d]? with
    |none=>rw[h1] at hv;subst hv;rfl
    |some u=>rw[h1] at hv;simp only[Option.getD_some] at hv;subst hv;cases u<;>rfl
   unfold grdV at h
   split at h
   ·rename_i b hb
    rw[hb] at hs
    simp only[AV.rel] at hs
    simp only[Option.some.injEq] at h
    have:=hy _ hs
    simp only at this
    unfold Region.wanted
    rw[ho]
    simp[this,←h]
   ·rename_i g' b hb
    rw[hb] at hs
    obtain ⟨h1,h2⟩ :=hs
    simp only[Option.some.injEq] at h
    unfold Region.wanted
    rw[ho]
    cases g' with
    |true=>
     have:=hy _ (h1 rfl)
     simp only at this
     simp[this,←h]
    |false=>
     have:=hy _ (h2 rfl)
     simp only[undef] at this
     simp[this,←h]
   ·cases h
  ·cases h
 ·cases h
theorem guard_ok (hS:Sat E S M a w) {ops:Array Oper} {o:Oper} {g:Bool} {p:Prop} {v:AV} (hw:Region.wanted o (yielded ops a.tmps)=true↔g=true)
  (h:g=true→∀next Q,(∀M' w' u,v.rel M' u→Sat E S M' a w'→next (a.put o.dst u) w')→o.wp E.P a w next Q):StepOK E S M a w ops o (.pure p (.cnd g v)):=by
 intro next Q hn
 by_cases hwt:Region.wanted o (yielded ops a.tmps)=true
 ·have hgt:=hw.1 hwt
  subst hgt
  rw[if_pos hwt]
  exact h rfl next Q fun M' w' u hu hs=>hn default trivial M' w' u ⟨fun _=>hu,fun e=>by cases e⟩ (by simpa [ActR.pure] using hs)
 ·rw[if_neg hwt]
  have hgf:g=false:=by cases g with|false=>rfl|true=>exact absurd (hw.2 rfl) hwt
  subst hgf
  exact hn default trivial M w undef ⟨fun e=>(by cases e),fun _=>rfl⟩ (by simpa [ActR.pure] using hS)
theorem opR_ok (hS:Sat E S M a w) {ops:Array Oper} (c:Inst E.P E.G) (keys:List Nat×List Nat) (o:Oper) (h:(opR E.P E.G ops c keys o S).pre):StepOK E S M a w ops o (opR E.P E.G ops c keys o S):=by
 unfold opR at h ⊢
 split at h
 ·rename_i hg
  refine OpOK.step hg ?_
  split at h
  ·rename_i f args ts ho
   split at h
   ·rename_i f' caps hf
    exact call_ok hS o f args ts ho f' caps _ (by have:=opA_rel hS f;rwa [hf] at this) (relT_map fun x _=>opA_rel hS x) c keys _ h
   ·exact h.elim
  ·rename_i g name args ts ho
   split at h
   ·rename_i t x hg
    split at h
    ·rename_i f hm
     exact inv_ok hS o g name args ts ho t x _ f hm (by have:=opA_rel hS g;rwa [hg] at this) (relT_map fun x _=>opA_rel hS x) c keys _ h
    ·exact h.elim
   ·exact h.elim
  ·exact (act_sound hS o _ (fun x _=>opA_rel hS x) _ h).ok
 ·rename_i j want hg
  split at h
  ·rename_i g hgr
   have hw:=grd_ok hS hg hgr
   split at h
   ·rename_i f args ts ho
    split at h
    ·rename_i f' caps hf
     obtain ⟨h1,hnf,hpv⟩ :=h
     refine guard_ok hS hw fun hgt next Q hn=>?_
     obtain ⟨hh,hcf,hargs,hobjs,hok⟩ :=h1 hgt
     have k:=callB_ok hS o f args ts ho f' caps (args.toList.map fun x=>stripC (opA E.G S.ρ x)) (by have:=opA_rel hS f;rwa [hf] at this) (relT_map fun x hx=>strip_rel (opA_rel hS x) (hok x hx)) c [] 0
      ⟨hh,hcf,hargs,by simp[hobjs],by simp⟩
     refine k next Q fun x hx M' w' v hv hSat=>?_
     have e1:x.ret 0=c.pv:=by rw[hpv _ _ _ hx]
     have e2:(fkeys 0 c.nf)=[]:=by rw[hnf];rfl
     refine hn M' w' v ?_ ?_
     ·have:(x.ret 0).rel M' v:=hv
      rwa [e1] at this
     ·have:Sat E ⟨S.ρ,([]++fkeys 0 c.nf).zip (x.objs++x.fresh)++S.H⟩ M' a w':=hSat
      rw[e2] at this
      simpa using this
    ·exact h.elim
   ·exact h.elim
   ·rename_i op hnc hnc2
    obtain ⟨hq,h1⟩ :=h
    refine guard_ok hS hw fun hgt next Q hn=>?_
    obtain ⟨hok,hp⟩ :=h1 hgt
    have k:YO E S M a (actG E.P (o.dst.getD 0) o.op (opA E.G S.ρ) (getO S.H)) ((execOp a.eval o).run E.P w)∧∃p v,actG E.P (o.dst.getD 0) o.op (opA E.G S.ρ) (getO S.H)= .pure p v:=by
     by_cases hpk:∃c x y,o.op= .pick c x y
     ·obtain ⟨c,x,y,e⟩ :=hpk
      rw[e] at hp hok
      simp only[actG] at hp
      simp only[okG] at hok
      obtain ⟨p,r,b,k1,k2,k3⟩ :=s_pick (strip_rel (opA_rel hS c) hok) (opA_rel hS x) (opA_rel hS y) hp
      rw[e]
      simp only[actG]
      refine ⟨?_, ⟨p,r,k1⟩⟩
      rw[k1]
      refine ⟨_,w,default,.inl ?_,trivial,k3,by simpa [ActR.pure] using hS⟩
      unfold execOp
      simp only[e]
      rw[k2]
      cases b<;>rfl
     ·have e1:actG E.P (o.dst.getD 0) o.op (opA E.G S.ρ) (getO S.H)=act E.P (o.dst.getD 0) o.op (fun x=>stripC (opA E.G S.ρ x)) (getO S.H):=by
       unfold actG
       split
       ·rename_i e;exact absurd ⟨_,_,_,e⟩ hpk
       ·rfl
      have e2:∀x∈o.op.operands.toList,cndOK (opA E.G S.ρ x)=true:=by
       unfold okG at hok
       split at hok
       ·rename_i e;exact absurd ⟨_,_,_,e⟩ hpk
       ·exact hok
      rw[e1] at hp ⊢
      exact ⟨act_sound hS o _ (fun x hx=>strip_rel (opA_rel hS x) (e2 x hx)) _ hp,act_quiet hq⟩
    obtain ⟨k1,p,u,k2⟩ :=k
    refine k1.ok next Q fun x _ M' w' v hv hSat=>hn M' w' v ?_ ?_
    ·rw[k2] at hv ⊢;exact hv
    ·rw[k2] at hSat;exact hSat
  ·exact h.elim
theorem Sat.bind (h:Sat E S M a w) {d:Option Nat} (hd:dstLt E.n d) {x:AV} {v:Value} (hx:x.rel M v):Sat E ⟨bindA d x S.ρ,S.H⟩ M (a.put d v) w:=by
 cases d with
 |none=>exact h
 |some d=>exact h.put hd hx
theorem vcL_sound {ops:Array Oper} {K:St→Prop} {Q:Exit→Act→World→Prop} (hK:∀S M a w,Sat E S M a w→K S→Q .normal a w):
  ∀(l:List Oper) (S:St) (M:Mem) (a:Act) (w:World),Sat E S M a w→vcL E.P E.G E.n ops K l S→wpList E.P ops Q l a w
 | [],S,M,a,w,hS,h=>hK S M a w hS h
 |o :: rest,S,M,a,w,hS,h=>by
  obtain ⟨hd,h⟩ :=h
  have key:∀(c:Inst E.P E.G) keys,(opR E.P E.G ops c keys o S).pre→(∀x,(opR E.P E.G ops c keys o S).out x→vcL E.P E.G E.n ops K rest (nextS o (opR E.P E.G ops c keys o S) x S))→wpList E.P ops Q (o :: rest) a w:=by
   intro c keys hp hn
   have k:=opR_ok hS c keys o hp (wpList E.P ops Q rest) Q fun x hx M' w' v hv hSat=>vcL_sound hK rest _ M' _ w' (hSat.bind hd hv) (hn x hx)
   unfold wpList
   split
   ·rename_i hw;rw[if_pos hw] at k;exact .inl k
   ·rename_i hw;rw[if_neg hw] at k;exact k
  split at h
  ·obtain ⟨c,keys,hp,hn⟩ :=h
   exact key c keys hp hn
  ·exact key _ _ h.1 h.2
end
open Go
def keyA:AV→List Nat
 | .ref k _ _=>[k]
 | .buf k _=>[k]
 | .aref k _ _ _ _=>[k]
 | .sub k _ _ _=>[k]
 | .omap k _=>[k]
 |_=>[]
def keyS:AV→List Nat
 | .ref k _ _=>[k]
 | .buf k _=>[k]
 | .aref k _ _ _ _=>[k]
 | .sub k _ _ _=>[k]
 | .omap k _=>[k]
 | .cnd _ a=>keyS a
 |_=>[]
theorem keyS_strip (x:AV):keyS (stripC x)=keyS x:=by cases x<;>rfl
def rdO (op:Op) (e:Operand→AV):List Nat:=
 match op with
 | .load _ x=>keyS (e x)
 | .store _ x _=>keyS (e x)
 | .indexAddr _ x _=>keyS (e x)
 | .convert _ _ x=>keyS (e x)
 | .slice _ x _ _ _=>keyS (e x)
 | .lookup _ x _ _=>keyS (e x)
 | .mapUpdate _ x _ _=>keyS (e x)
 | .call ⟨.builtin _,args,_⟩ =>args.toList.flatMap fun x=>keyS (e x)
 |_=>[]
def wrO (d:Nat) (op:Op) (e:Operand→AV):List Nat:=
 match op with
 | .alloc _| .box .. | .buildSlice .. | .makeSlice .. | .makeMap ..=>[d]
 | .store _ x _=>keyA (e x)
 | .mapUpdate _ x _ _=>keyA (e x)
 | .convert _ t _=>if t=32 then [d] else []
 | .call ⟨.builtin .len,_,_⟩ =>[]
 | .call ⟨.builtin .max,_,_⟩ =>[]
 | .call ⟨.builtin .cap,_,_⟩ =>[]
 | .call ⟨.builtin _,args,_⟩ =>d :: args.toList.flatMap fun x=>keyA (e x)
 |_=>[]
def rdR (G:Nat→AV) (keys:List Nat×List Nat) (o:Oper) (S:St):List Nat:=
 if isCall o.op=true then keys.1++keys.2 else rdO o.op (opA G S.ρ)
def wrR {P:Program} (G:Nat→AV) (c:Inst P G) (keys:List Nat×List Nat) (o:Oper) (S:St):List Nat:=
 match o.guard with
 |some _=>[]
 |none=>if isCall o.op=true then keys.1++fkeys (o.dst.getD 0) c.nf++keys.2 else wrO (o.dst.getD 0) o.op (opA G S.ρ)
def argsOf (G:Nat→AV) (o:Oper) (S:St):List AV:=
 match o.op with
 | .call ⟨.value _,args,_⟩ =>args.toList.map fun x=>stripC (opA G S.ρ x)
 | .call ⟨.invoke g _,args,_⟩ =>stripC (opA G S.ρ g) :: args.toList.map fun x=>stripC (opA G S.ρ x)
 |_=>[]
theorem actLoad_congr {P:Program} {t:TypeId} {x:AV} {l l':Look} (h:∀k∈keyS x,l k=l' k):actLoad P t x l=actLoad P t x l':=by
 unfold actLoad
 cases x<;>try rfl
 all_goals simp only[keyS,List.mem_singleton,forall_eq] at h
 all_goals simp only[h]
theorem actStore_congr {P:Program} {t:TypeId} {x v:AV} {l l':Look} (h:∀k∈keyS x,l k=l' k):actStore P t x v l=actStore P t x v l':=by
 unfold actStore
 cases x<;>try rfl
 all_goals simp only[keyS,List.mem_singleton,forall_eq] at h
 all_goals simp only[h]
theorem actIndexAddr_congr {P:Program} {t:TypeId} {x i:AV} {l l':Look} (h:∀k∈keyS x,l k=l' k):actIndexAddr P t x i l=actIndexAddr P t x i l':=by
 unfold actIndexAddr
 split<;>try rfl
 cases x<;>try rfl
 all_goals simp only[keyS,List.mem_singleton,forall_eq] at h
 all_goals simp only[h]
theorem srcA_congr {x:AV} {l l':Look} (h:∀k∈keyS x,l k=l' k):srcA l x=srcA l' x:=by
 unfold srcA
 cases x<;>try rfl
 all_goals simp only[keyS,List.mem_singleton,forall_eq] at h
 all_goals simp only[h]
theorem actConv_congr {P:Program} {d:Nat} {s t:TypeId} {x:AV} {l l':Look} (h:∀k∈keyS x,l k=l' k):actConv P d s t x l=actConv P d s t x l':=by
 unfold actConv
 rw[srcA_congr h]
theorem actSlice_congr {P:Program} {t:TypeId} {x:AV} {lo hi:Option AV} {l l':Look} (h:∀k∈keyS x,l k=l' k):actSlice P t x lo hi l=actSlice P t x lo hi l':=by
 unfold actSlice
 cases x<;>try rfl
 case val v=>cases v<;>rfl
 all_goals simp only[keyS,List.mem_singleton,forall_eq] at h
 all_goals simp only[h]
theorem mapA_congr {x:AV} {l l':Look} (h:∀k∈keyS x,l k=l' k):mapA l x=mapA l' x:=by
 unfold mapA
 cases x<;>try rfl
 all_goals simp only[keyS,List.mem_singleton,forall_eq] at h
 all_goals simp only[h]
theorem actLookup_congr {P:Program} {t:TypeId} {x i:AV} {ok:Bool} {l l':Look} (h:∀k∈keyS x,l k=l' k):actLookup P t x i ok l=actLookup P t x i ok l':=by
 unfold actLookup
 rw[mapA_congr h]
theorem actInsert_congr {P:Program} {t:TypeId} {x i v:AV} {l l':Look} (h:∀k∈keyS x,l k=l' k):actInsert P t x i v l=actInsert P t x i v l':=by
 unfold actInsert
 rcases mapR P t with _| ⟨kk,e⟩
 ·rfl
 cases x<;>try rfl
 cases i<;>try rfl
 rename_i u
 cases u<;>try rfl
 all_goals simp only[keyS,List.mem_singleton,forall_eq] at h
 all_goals simp only[h]
theorem actCopy_congr {P:Program} {t:TypeId} {x s:AV} {l l':Look} (h:∀k∈keyS x,l k=l' k) (hs:∀k∈keyS s,l k=l' k):actCopy P t x s l=actCopy P t x s l':=by
 unfold actCopy
 rw[srcA_congr hs]
 rcases elemR P t with _| ⟨e,sz,b⟩
 ·cases x<;>rfl
 rcases srcA l' s with _| ⟨p,sz',ys⟩
 ·cases x<;>rfl
 cases x<;>try rfl
 all_goals simp only[keyS,List.mem_singleton,forall_eq] at h
 all_goals simp only[h]
theorem actLen_congr {P:Program} {t:TypeId} {x:AV} {l l':Look} (h:∀k∈keyS x,l k=l' k):actLen P t x l=actLen P t x l':=by
 unfold actLen
 cases x<;>try rfl
 case val v=>split<;>first|rfl|(rename_i e;cases e)
 all_goals simp only[keyS,List.mem_singleton,forall_eq] at h
 all_goals simp only[h]
theorem srcS_congr {x:AV} {l l':Look} (h:∀k∈keyS x,l k=l' k):srcS l x=srcS l' x:=by
 unfold srcS
 split
 ·rfl
 ·exact srcA_congr h
theorem actAppend_congr {P:Program} {d t:TypeId} {x s:AV} {l l':Look} (h:∀k∈keyS x,l k=l' k) (hs:∀k∈keyS s,l k=l' k):actAppend P d t x s l=actAppend P d t x s l':=by
 unfold actAppend
 rw[srcS_congr hs]
 split<;>try rfl
 cases x<;>try rfl
 case val v=>split<;>first|rfl|(rename_i e;cases e)
 all_goals simp only[keyS,List.mem_singleton,forall_eq] at h
 all_goals simp only[h]
theorem act_congr {P:Program} {d:Nat} {op:Op} {e e':Operand→AV} {l l':Look} (he:∀x∈op.operands.toList,e x=e' x) (hl:∀k∈rdO op e,l k=l' k):act P d op e l=act P d op e' l':=by
 cases op<;>try rfl
 case move x=>simp only[act,he x (by simp[Op.operands])]
 case assign x=>simp only[act,he x (by simp[Op.operands])]
 case pick c x y=>simp only[act,he c (by simp[Op.operands]),he x (by simp[Op.operands]),he y (by simp[Op.operands])]
 case box t x=>simp only[act,he x (by simp[Op.operands])]
 case build t ps=>
  simp only[act]
  rw[List.map_congr_left (g:=fun p=>(p.1,e' p.2)) fun p hp=>by rw[he p.2 (by simp[Op.operands];exact ⟨_,by simpa using hp⟩)]]
 case buildSlice t n ps=>
  simp only[act]
  rw[List.map_congr_left (g:=fun p=>(p.1,e' p.2)) fun p hp=>by rw[he p.2 (by simp[Op.operands];exact ⟨_,by simpa using hp⟩)]]
 case load t x=>simp only[act];rw[←he x (by simp[Op.operands])];exact actLoad_congr (by simpa [rdO] using hl)
 case store t x v=>simp only[act];rw[←he x (by simp[Op.operands]),←he v (by simp[Op.operands])];exact actStore_congr (by simpa [rdO] using hl)
 case nilCheck x=>simp only[act,he x (by simp[Op.operands])]
 case binOp op t x y ty=>simp only[act,he x (by simp[Op.operands]),he y (by simp[Op.operands])]
 case unOp op t x=>simp only[act,he x (by simp[Op.operands])]
 case convert s t x=>simp only[act];rw[←he x (by simp[Op.operands])];exact actConv_congr (by simpa [rdO] using hl)
 case makeInterface t x=>simp only[act,he x (by simp[Op.operands])]
 case makeFunc f first caps=>
  cases f<;>try rfl
  simp only[act]
  split
  ·rename_i hf
   simp only[Array.isEmpty_iff] at hf
   subst hf
   rw[List.map_congr_left fun x hx=>he x (by simpa [Op.operands] using hx)]
  ·rfl
 case makeSlice t l c=>simp only[act,he l (by simp[Op.operands]),he c (by simp[Op.operands])]
 case slice t x lo hi mx=>
  cases mx<;>try rfl
  simp only[act]
  have h1:lo.map e=lo.map e':=by
   cases lo with
   |none=>rfl
   |some y=>simp only[Option.map_some];rw[he y (by simp[Op.operands])]
  have h2:hi.map e=hi.map e':=by
   cases hi with
   |none=>rfl
   |some y=>simp only[Option.map_some];rw[he y (by simp[Op.operands])]
  rw[←he x (by simp[Op.operands]),←h1,←h2]
  exact actSlice_congr (by simpa [rdO] using hl)
 case lookup t x i ok=>simp only[act];rw[←he x (by simp[Op.operands]),←he i (by simp[Op.operands])];exact actLookup_congr (by simpa [rdO] using hl)
 case mapUpdate t m k x=>simp only[act];rw[←he m (by simp[Op.operands]),←he k (by simp[Op.operands]),←he x (by simp[Op.operands])];exact actInsert_congr (by simpa [rdO] using hl)
 case makeMap t r=>cases r<;>rfl
 case fieldAddr s x f=>simp only[act,he x (by simp[Op.operands])]
 case indexAddr t x i=>simp only[act];rw[←he x (by simp[Op.operands]),←he i (by simp[Op.operands])];exact actIndexAddr_congr (by simpa [rdO] using hl)
 case index t x i=>simp only[act,he x (by simp[Op.operands]),he i (by simp[Op.operands])]
 case typeAssert x u t ok=>simp only[act,he x (by simp[Op.operands])]
 case extract x i=>simp only[act,he x (by simp[Op.operands])]
 case call c=>
  obtain ⟨callee,args,ts⟩ :=c
  cases callee<;>try rfl
  rename_i b
  obtain ⟨args⟩ :=args
  obtain ⟨ts⟩ :=ts
  have he':∀x∈args,e x=e' x:=fun x hx=>he x (by simpa [Op.operands,Call.operands] using hx)
  have hl':∀x∈args,∀k∈keyS (e x),l k=l' k:=fun x hx k hk=>hl k (by simp only[rdO,List.mem_flatMap];exact ⟨x,hx,hk⟩)
  simp only[act,actBuiltin]
  split
  ·rename_i x t ts
   rw[←he' x (by simp)]
   exact actLen_congr (hl' x (by simp))
  ·rename_i x s t t'
   rw[←he' x (by simp),←he' s (by simp)]
   split
   ·exact actAppend_congr (hl' x (by simp)) (hl' s (by simp))
   ·split
    ·unfold actAppendZ
     rcases elemR P t with _| ⟨q1,q2,q3⟩
     ·rfl
     have hlx:=hl' x (by simp)
     cases e s<;>try rfl
     rename_i u
     cases u<;>try rfl
     rename_i kk nn
     cases kk<;>try rfl
     cases hx:e x<;>try rfl
     rw[hx] at hlx
     simp only[keyS,List.mem_singleton,forall_eq] at hlx
     simp only[hlx]
    ·rfl
  ·rename_i x t ts
   rw[←he' x (by simp)]
  ·rename_i x y
   rw[←he' x (by simp),←he' y (by simp)]
  ·rename_i x s t t'
   rw[←he' x (by simp),←he' s (by simp)]
   exact actCopy_congr (hl' x (by simp)) (hl' s (by simp))
  ·rfl
open Go
def eqS (S S':St):Prop:=(∀t,getA S.ρ t=getA S'.ρ t)∧∀k,getO S.H k=getO S'.H k
theorem eqS.refl (S:St):eqS S S:= ⟨fun _=>rfl,fun _=>rfl⟩
theorem eqS.symm {S S':St} (h:eqS S S'):eqS S' S:= ⟨fun t=>(h.1 t).symm,fun k=>(h.2 k).symm⟩
theorem eqS.trans {S S' S'':St} (h:eqS S S') (k:eqS S' S''):eqS S S'':= ⟨fun t=>(h.1 t).trans (k.1 t),fun t=>(h.2 t).trans (k.2 t)⟩
section
variable {P:Program} {G:Nat→AV} {ops:Array Oper}
theorem opA_congr {S S':St} {x:Operand} (h:∀t,x= .tmp t→getA S.ρ t=getA S'.ρ t):opA G S.ρ x=opA G S'.ρ x:=by
 cases x<;>try rfl
 exact h _ rfl
theorem looks_op {o:Oper} {t:Nat} (h:Operand.tmp t∈o.op.operands.toList):t∈o.looksAt ops:=by
 simp only[Oper.looksAt,List.mem_append,List.mem_filterMap]
 exact .inl ⟨_,h,rfl⟩
theorem frzV_congr {l l':Look} {fz:List Nat} (h:∀k∈fz,l k=l' k):frzV l fz=frzV l' fz:=by
 funext x
 unfold frzV
 split<;>try rfl
 ·split<;>try rfl
  rename_i hk
  rw[h _ (by simpa using hk)]
 ·split<;>try rfl
  rename_i hk
  rw[h _ (by simpa using hk)]
 ·split<;>try rfl
  rename_i hk
  rw[h _ (by simpa using hk)]
theorem frzP_congr {l l':Look} {fz:List Nat} (h:∀k∈fz,l k=l' k):frzP l fz=frzP l' fz:=by
 funext x
 unfold frzP
 split<;>try rfl
 ·split<;>try rfl
  rename_i hk
  rw[h _ (by simpa using hk)]
 ·split<;>try rfl
  rename_i hk
  rw[h _ (by simpa using hk)]
 ·split<;>try rfl
  rename_i hk
  rw[h _ (by simpa using hk)]
theorem opR_congr {S S':St} {o:Oper} {c:Inst P G} {keys:List Nat×List Nat} (hρ:∀t∈o.looksAt ops,getA S.ρ t=getA S'.ρ t) (hH:∀k∈rdR G keys o S,getO S.H k=getO S'.H k):
  opR P G ops c keys o S=opR P G ops c keys o S':=by
 have he:∀x∈o.op.operands.toList,opA G S.ρ x=opA G S'.ρ x:=fun x hx=>opA_congr fun t ht=>hρ t (looks_op (ht▸hx))
 have hgrd:∀j want,o.guard=some (j,want)→grd ops S.ρ j want=grd ops S'.ρ j want:=by
  intro j want hg
  unfold grd
  split<;>try rfl
  rename_i o' ho'
  split<;>try rfl
  rename_i d hd
  rw[hρ d (by simp only[Oper.looksAt,hg,ho',Option.bind_some,hd,List.mem_append];exact .inr (by simp))]
 unfold rdR at hH
 unfold opR
 split
 ·split
  ·rename_i f args ts ho
   rw[ho] at he hH
   have hf:opA G S.ρ f=opA G S'.ρ f:=he f (by simp[Op.operands,Call.operands])
   have ha:args.toList.map (opA G S.ρ)=args.toList.map (opA G S'.ρ):=List.map_congr_left fun x hx=>he x (by simp only[Op.operands,Call.operands];simp;exact .inr (by simpa using hx))
   simp only[isCall,if_true] at hH
   rw[hf,ha]
   split<;>try rfl
   unfold callR
   have h1:keys.1.map (getO S.H)=keys.1.map (getO S'.H):=List.map_congr_left fun k hk=>hH k (by simp[hk])
   have hfz:∀k∈keys.2,getO S.H k=getO S'.H k:=fun k hk=>hH k (by simp[hk])
   rw[frzV_congr hfz,frzP_congr hfz,h1]
  ·rename_i g name args ts ho
   rw[ho] at he hH
   have hf:opA G S.ρ g=opA G S'.ρ g:=he g (by simp[Op.operands,Call.operands])
   have ha:args.toList.map (opA G S.ρ)=args.toList.map (opA G S'.ρ):=List.map_congr_left fun x hx=>he x (by simp only[Op.operands,Call.operands];simp;exact .inr (by simpa using hx))
   simp only[isCall,if_true] at hH
   rw[hf,ha]
   split<;>try rfl
   split<;>try rfl
   unfold callR
   have h1:keys.1.map (getO S.H)=keys.1.map (getO S'.H):=List.map_congr_left fun k hk=>hH k (by simp[hk])
   have hfz:∀k∈keys.2,getO S.H k=getO S'.H k:=fun k hk=>hH k (by simp[hk])
   rw[frzV_congr hfz,frzP_congr hfz,h1]
  ·rename_i hnc hnc2
   refine act_congr he ?_
   have:isCall o.op=false:=by
    unfold isCall
    split
    ·rename_i e;exact absurd e (hnc _ _ _)
    ·rename_i e;exact absurd e (hnc2 _ _ _ _)
    ·rfl
   simpa [this] using hH
 ·rename_i j want hg
  rw[hgrd j want hg]
  split<;>try rfl
  split
  ·rename_i f args ts ho
   rw[ho] at he hH
   have hf:opA G S.ρ f=opA G S'.ρ f:=he f (by simp[Op.operands,Call.operands])
   have hx:∀x∈args.toList,opA G S.ρ x=opA G S'.ρ x:=fun x hx=>he x (by simp only[Op.operands,Call.operands];simp;exact .inr (by simpa using hx))
   have ha:args.toList.map (fun x=>stripC (opA G S.ρ x))=args.toList.map (fun x=>stripC (opA G S'.ρ x)):=List.map_congr_left fun x h=>by rw[hx x h]
   have hc:(∀x∈args.toList,cndOK (opA G S.ρ x)=true)↔(∀x∈args.toList,cndOK (opA G S'.ρ x)=true):=
    ⟨fun h x hm=>by rw[←hx x hm];exact h x hm,fun h x hm=>by rw[hx x hm];exact h x hm⟩
   rw[hf,ha]
   split<;>try rfl
   rw[hc]
  ·rfl
  ·rename_i hnc hnc2
   have hnc':isCall o.op=false:=by
    unfold isCall
    split
    ·rename_i e;exact absurd e (hnc _ _ _)
    ·rename_i e;exact absurd e (hnc2 _ _ _ _)
    ·rfl
   rw[hnc'] at hH
   simp only[Bool.false_eq_true,if_false] at hH
   have hact:actG P (o.dst.getD 0) o.op (opA G S.ρ) (getO S.H)=actG P (o.dst.getD 0) o.op (opA G S'.ρ) (getO S'.H):=by
    unfold actG
    split
    ·rename_i c x y ho
     rw[ho] at he
     rw[he c (by simp[Op.operands]),he x (by simp[Op.operands]),he y (by simp[Op.operands])]
    ·refine act_congr (fun x hx=>by rw[he x hx]) ?_
     have:rdO o.op (fun x=>stripC (opA G S.ρ x))=rdO o.op (opA G S.ρ):=by
      unfold rdO
      simp only[keyS_strip]
     rw[this]
     exact hH
   have hok:okG (opA G S.ρ) o.op↔okG (opA G S'.ρ) o.op:=by
    unfold okG
    split
    ·rename_i c x y ho
     rw[ho] at he
     rw[he c (by simp[Op.operands])]
    ·exact ⟨fun h x hm=>by rw[←he x hm];exact h x hm,fun h x hm=>by rw[he x hm];exact h x hm⟩
   rw[hact,hok]
theorem rdO_congr {op:Op} {e e':Operand→AV} (he:∀x∈op.operands.toList,e x=e' x):rdO op e=rdO op e':=by
 unfold rdO
 split<;>try rfl
 ·rw[he _ (by simp[Op.operands])]
 ·rw[he _ (by simp[Op.operands])]
 ·rw[he _ (by simp[Op.operands])]
 ·rw[he _ (by simp[Op.operands])]
 ·rw[he _ (by simp[Op.operands])]
 ·rw[he _ (by simp[Op.operands])]
 ·rw[he _ (by simp[Op.operands])]
 ·rename_i b args ts
  have:∀l:List Operand,(∀x∈l,e x=e' x)→(l.flatMap fun x=>keyS (e x))=l.flatMap fun x=>keyS (e' x):=by
   intro l hl
   induction l with
   |nil=>rfl
   |cons y l ih=>simp only[List.flatMap_cons];rw[hl y (by simp),ih fun x hx=>hl x (by simp[hx])]
  exact this _ fun x hx=>he x (by simp[Op.operands,Call.operands];simpa using hx)
theorem wrO_congr {d:Nat} {op:Op} {e e':Operand→AV} (he:∀x∈op.operands.toList,e x=e' x):wrO d op e=wrO d op e':=by
 unfold wrO
 split<;>try rfl
 ·rw[he _ (by simp[Op.operands])]
 ·rw[he _ (by simp[Op.operands])]
 ·rename_i b args ts _
  have:∀l:List Operand,(∀x∈l,e x=e' x)→(l.flatMap fun x=>keyA (e x))=l.flatMap fun x=>keyA (e' x):=by
   intro l hl
   induction l with
   |nil=>rfl
   |cons y l ih=>simp only[List.flatMap_cons];rw[hl y (by simp),ih fun x hx=>hl x (by simp[hx])]
  rw[this _ fun x hx=>he x (by simp[Op.operands,Call.operands];simpa using hx)]
abbrev Chi (P:Program) (G:Nat→AV):=Nat→List AV→Inst P G×List Nat×List Nat
def stepR (χ:Chi P G) (ops:Array Oper) (j:Nat) (o:Oper) (S:St):ActR:=opR P G ops (χ j (argsOf G o S)).1 (χ j (argsOf G o S)).2 o S
def rdC (χ:Chi P G) (j:Nat) (o:Oper) (S:St):List Nat:=rdR G (χ j (argsOf G o S)).2 o S
def wrC (χ:Chi P G) (j:Nat) (o:Oper) (S:St):List Nat:=wrR G (χ j (argsOf G o S)).1 (χ j (argsOf G o S)).2 o S
theorem stepR_congr {χ:Chi P G} {j:Nat} {S S':St} {o:Oper} (hρ:∀t∈o.looksAt ops,getA S.ρ t=getA S'.ρ t) (hH:∀k∈rdC χ j o S,getO S.H k=getO S'.H k):
  stepR χ ops j o S=stepR χ ops j o S'∧rdC χ j o S=rdC χ j o S'∧wrC χ j o S=wrC χ j o S':=by
 have he:∀x∈o.op.operands.toList,opA G S.ρ x=opA G S'.ρ x:=fun x hx=>opA_congr fun t ht=>hρ t (looks_op (ht▸hx))
 have ha:argsOf G o S=argsOf G o S':=by
  unfold argsOf
  split
  ·rename_i f args ts ho
   rw[ho] at he
   exact List.map_congr_left fun x h=>by rw[he x (by simp only[Op.operands,Call.operands];simp;exact .inr (by simpa using h))]
  ·rename_i g name args ts ho
   rw[ho] at he
   rw[he g (by simp[Op.operands,Call.operands])]
   congr 1
   exact List.map_congr_left fun x h=>by rw[he x (by simp only[Op.operands,Call.operands];simp;exact .inr (by simpa using h))]
  ·rfl
 have h1:=opR_congr (P:=P) (c:=(χ j (argsOf G o S)).1) (keys:=(χ j (argsOf G o S)).2) hρ hH
 refine ⟨?_, ?_, ?_⟩
 ·unfold stepR;rw[←ha];exact h1
 ·unfold rdC rdR;rw[←ha,rdO_congr he]
 ·unfold wrC wrR;rw[←ha,wrO_congr he]
theorem act_upd {d:Nat} {op:Op} {e:Operand→AV} {look:Look} (hnc:isCall op=false) (x:Outc):∀p∈(act P d op e look).upd x,p.1∈wrO d op e:=by
 by_cases hq:quiet op=true
 ·obtain ⟨p,v,h⟩ :=act_quiet (P:=P) (d:=d) (e:=e) (look:=look) hq
  rw[h];simp[ActR.pure]
 ·cases op<;>first|(exact absurd rfl hq;done)|skip
  case alloc t=>simp only[act,actAlloc];split<;>simp[wrO,ActR.stuck]
  case box t x=>simp[act,actBox,wrO]
  case build t ps=>
   simp only[act,actBuild];repeat' split
   all_goals simp[ActR.pure,ActR.stuck]
  case buildSlice t n ps=>simp only[act,actBuildSlice];split<;>simp[wrO,ActR.stuck]
  case makeSlice t l c=>simp only[act,actMakeSlice];split<;>simp[wrO,ActR.stuck]
  case convert s t v=>
   have h32:t=32:=by simpa [quiet] using hq
   subst h32
   simp only[act]
   unfold actConv
   repeat' split
   all_goals simp[wrO,ActR.pure,ActR.stuck]
  case makeMap t r=>
   cases r<;>simp only[act,actMakeMap]
   ·split<;>simp[wrO,ActR.stuck]
   ·simp[ActR.stuck]
  case mapUpdate t m k x=>
   simp only[act,actInsert,wrO]
   split
   ·rename_i he _
    split<;>simp[ActR.stuck,he,keyA]
   ·simp[ActR.stuck]
  case store t x v=>
   simp only[act,actStore,wrO]
   split
   ·split
    ·rename_i he;split<;>simp[ActR.stuck,he,keyA]
    ·rename_i he;split<;>simp[ActR.stuck,he,keyA]
    ·simp[ActR.stuck]
   ·simp[ActR.stuck]
  case call c=>
   obtain ⟨callee,args,ts⟩ :=c
   cases callee<;>first|(cases hnc;done)|skip
   ·rename_i b
    obtain ⟨args⟩ :=args
    obtain ⟨ts⟩ :=ts
    simp only[act,actBuiltin]
    split
    ·exact absurd rfl hq
    ·split
     ·unfold actAppend
      split
      ·split
       ·simp[wrO]
       ·rename_i he
        split
        ·simp[wrO,he,keyA]
        ·simp[ActR.stuck]
       ·simp[ActR.stuck]
      ·simp[ActR.stuck]
     ·split
      ·unfold actAppendZ
       split
       ·rename_i he
        split<;>simp[wrO,he,keyA,ActR.stuck]
       ·simp[ActR.stuck]
      ·simp[ActR.stuck]
    ·unfold actCap;split<;>simp[ActR.stuck,ActR.pure]
    ·unfold actMax;split<;>simp[ActR.stuck,ActR.pure]
    ·unfold actCopy
     split
     ·rename_i he _ _
      split<;>simp[wrO,he,keyA,ActR.stuck]
     ·simp[ActR.stuck]
    ·simp[ActR.stuck]
  all_goals simp only[act]
  all_goals simp[ActR.stuck]
theorem opR_upd {S:St} {o:Oper} {c:Inst P G} {keys:List Nat×List Nat} (x:Outc):∀p∈(opR P G ops c keys o S).upd x,p.1∈wrR G c keys o S:=by
 unfold opR wrR
 split
 ·rename_i hg
  simp only[hg]
  split
  ·rename_i ho
   simp only[ho,isCall,if_true]
   split
   ·intro p hp
    rcases List.mem_append.1 hp with hp|hp
    ·exact List.mem_append.2 (.inl (List.of_mem_zip (a:=p.1) (b:=p.2) hp).1)
    ·obtain ⟨k,hk,rfl⟩ :=List.mem_map.1 hp
     exact List.mem_append.2 (.inr hk)
   ·simp[ActR.stuck]
  ·rename_i ho
   simp only[ho,isCall,if_true]
   split
   ·split
    ·intro p hp
     rcases List.mem_append.1 hp with hp|hp
     ·exact List.mem_append.2 (.inl (List.of_mem_zip (a:=p.1) (b:=p.2) hp).1)
     ·obtain ⟨k,hk,rfl⟩ :=List.mem_map.1 hp
      exact List.mem_append.2 (.inr hk)
    ·simp[ActR.stuck]
   ·simp[ActR.stuck]
  ·rename_i hnc hnc2
   have:isCall o.op=false:=by
    unfold isCall
    split
    ·rename_i e;exact absurd e (hnc _ _ _)
    ·rename_i e;exact absurd e (hnc2 _ _ _ _)
    ·rfl
   simp only[this,Bool.false_eq_true,if_false]
   exact act_upd this x
 ·split
  ·split
   ·split<;>simp[ActR.pure,ActR.stuck]
   ·simp[ActR.stuck]
   ·simp[ActR.pure]
  ·simp[ActR.stuck]
theorem act_out {d:Nat} {op:Op} {e:Operand→AV} {look:Look} (x:Outc):(act P d op e look).out x:=by
 by_cases hq:quiet op=true
 ·obtain ⟨p,v,h⟩ :=act_quiet (P:=P) (d:=d) (e:=e) (look:=look) hq
  rw[h];trivial
 ·cases op<;>first|(exact absurd rfl hq;done)|skip
  case alloc t=>simp only[act,actAlloc];split<;>trivial
  case box t x=>trivial
  case build t ps=>
   simp only[act,actBuild];repeat' split
   all_goals trivial
  case buildSlice t n ps=>simp only[act,actBuildSlice];split<;>trivial
  case makeSlice t l c=>simp only[act,actMakeSlice];split<;>trivial
  case convert s t v=>
   simp only[act]
   unfold actConv
   repeat' split
   all_goals trivial
  case makeMap t r=>cases r<;>simp only[act,actMakeMap]<;>(try split)<;>trivial
  case mapUpdate t m k x=>
   simp only[act,actInsert]
   repeat' split
   all_goals trivial
  case store t x v=>
   simp only[act,actStore]
   repeat' split
   all_goals trivial
  case call c=>
   obtain ⟨callee,args,ts⟩ :=c
   cases callee<;>try trivial
   rename_i b
   simp only[act,actBuiltin]
   split
   ·exact absurd rfl hq
   ·split
    ·unfold actAppend
     repeat' split
     all_goals trivial
    ·split
     ·unfold actAppendZ
      repeat' split
      all_goals trivial
     ·trivial
   ·unfold actCap;split<;>trivial
   ·unfold actMax;split<;>trivial
   ·unfold actCopy
    repeat' split
    all_goals trivial
   ·trivial
  all_goals trivial
def flo (o:Oper):Bool:=o.guard.isSome || !isCall o.op
theorem opR_out {S:St} {o:Oper} {c:Inst P G} {keys:List Nat×List Nat} (h:flo o=true) (x:Outc):(opR P G ops c keys o S).out x:=by
 unfold opR
 split
 ·rename_i hg
  simp only[flo,hg,Option.isSome_none,Bool.false_or,Bool.not_eq_true'] at h
  split
  ·rename_i ho;rw[ho] at h;cases h
  ·rename_i ho;rw[ho] at h;cases h
  ·exact act_out x
 ·split
  ·split
   ·split<;>trivial
   ·trivial
   ·trivial
  ·trivial
theorem next_slot {S:St} {o:Oper} {r:ActR} {x:Outc} {t:Nat} (h:o.dst≠some t):getA (nextS o r x S).ρ t=getA S.ρ t:=by
 unfold nextS bindA
 cases hd:o.dst with
 |none=>rfl
 |some d=>
  simp only[getA]
  rw[if_neg fun e=>h (by rw[hd,e])]
theorem next_key {S:St} {o:Oper} {r:ActR} {x:Outc} {k:Nat} (h:∀p∈r.upd x,p.1≠k):getO (nextS o r x S).H k=getO S.H k:=by
 unfold nextS
 simp only[getO_append]
 rw[if_neg]
 simp only[List.any_eq_true,decide_eq_true_eq,not_exists,not_and]
 exact h
theorem next_eqS {S S':St} {o:Oper} {r:ActR} {x:Outc} (h:eqS S S'):eqS (nextS o r x S) (nextS o r x S'):=by
 refine ⟨fun t=>?_,fun k=>?_⟩
 ·unfold nextS bindA
  cases o.dst with
  |none=>exact h.1 t
  |some d=>simp only[getA];rw[h.1 t]
 ·unfold nextS
  simp only[getO_append]
  rw[h.2 k]
def apart (l l':List Nat):Prop:=∀k∈l,k∉l'
abbrev Log:=List (Nat×List Nat×List Nat)
def clear (fl:List (Nat×Nat)) (log:Log) (j:Nat) (rd wr:List Nat):Prop:=
 ∀p∈log,fl.contains (p.1,j)=true→apart p.2.2 rd∧apart p.2.2 wr∧apart p.2.1 wr
def vcD (n:Nat) (ops:Array Oper) (χ:Chi P G) (fl:List (Nat×Nat)) (K:St→Prop):Log→List Nat→St→Prop
 |_,[],S=>K S
 |log,j :: rest,S=>match ops[j]? with
  |none=>False
  |some o=>dstLt n o.dst∧(stepR χ ops j o S).pre∧clear fl log j (rdC χ j o S) (wrC χ j o S)∧
    ∀x,(stepR χ ops j o S).out x→vcD n ops χ fl K ((j,rdC χ j o S,wrC χ j o S) :: log) rest (nextS o (stepR χ ops j o S) x S)
section
variable {n:Nat} {χ:Chi P G} {fl:List (Nat×Nat)} {K:St→Prop}
theorem vcD_log:∀{l:List Nat} {log log':Log} {S:St},(∀e∈log',e∈log)→vcD n ops χ fl K log l S→vcD n ops χ fl K log' l S
 | [],_,_,_,_,h=>h
 |j :: rest,log,log',S,hs,h=>by
  unfold vcD at h ⊢
  split at h
  ·exact h.elim
  ·obtain ⟨h1,h2,h3,h4⟩ :=h
   refine ⟨h1,h2,fun p hp=>h3 p (hs p hp),fun x hx=>vcD_log (fun e he=>?_) (h4 x hx)⟩
   rcases List.mem_cons.1 he with rfl|he
   ·simp
   ·exact List.mem_cons_of_mem _ (hs e he)
theorem vcD_eqS (hK:∀S S',eqS S S'→K S→K S'):∀{l:List Nat} {log:Log} {S S':St},eqS S S'→vcD n ops χ fl K log l S→vcD n ops χ fl K log l S'
 | [],_,_,_,he,h=>hK _ _ he h
 |j :: rest,log,S,S',he,h=>by
  unfold vcD at h ⊢
  split at h
  ·exact h.elim
  ·rename_i o ho
   obtain ⟨h1,h2,h3,h4⟩ :=h
   obtain ⟨e1,e2,e3⟩ :=stepR_congr (χ:=χ) (j:=j) (ops:=ops) (o:=o) (fun t _=>he.1 t) (fun k _=>he.2 k)
   rw[e1] at h2 h4
   rw[e2,e3] at h3 h4
   exact ⟨h1,h2,h3,fun x hx=>vcD_eqS hK (next_eqS he) (h4 x hx)⟩
def noWr (o:Oper):Bool:=o.guard.isSome || quiet o.op
def noRd (o:Oper):Bool:=match o.op with
 | .load .. | .store .. | .indexAddr .. | .convert .. | .slice .. | .lookup .. | .mapUpdate .. | .call _=>false
 |_=>true
def harm (x y:Oper):Bool:=(noWr x && noWr y) || (noWr x && noRd x) || (noWr y && noRd y)
theorem noWr_spec {o:Oper} {j:Nat} {S:St} (h:noWr o=true):wrC χ j o S=[]:=by
 unfold wrC wrR
 split
 ·rfl
 ·rename_i hg
  simp only[noWr,hg,Option.isSome_none,Bool.false_or] at h
  have hnc:isCall o.op=false:=by
   unfold isCall
   split
   ·rename_i e;rw[e] at h;cases h
   ·rename_i e;rw[e] at h;cases h
   ·rfl
  simp only[hnc,Bool.false_eq_true,if_false]
  generalize o.op=op at h
  cases op<;>first|rfl|(cases h;done)|skip
  case convert s t x=>
   have h32:t≠32:=by simpa [quiet] using h
   simp only[wrO,if_neg h32]
  case call c=>
   obtain ⟨callee,args,ts⟩ :=c
   cases callee<;>first|rfl|(cases h;done)|skip
   rename_i b
   cases b<;>first|rfl|(cases h;done)|(simp[wrO];done)|(unfold wrO;split<;>first|rfl|contradiction|(rename_i e;cases e))
theorem noRd_spec {o:Oper} {j:Nat} {S:St} (h:noRd o=true):rdC χ j o S=[]:=by
 unfold rdC rdR
 have hnc:isCall o.op=false:=by
  unfold isCall
  split
  ·rename_i e;simp[noRd,e] at h
  ·rename_i e;simp[noRd,e] at h
  ·rfl
 simp only[hnc,Bool.false_eq_true,if_false]
 unfold rdO
 split<;>first|rfl|(rename_i e;simp[noRd,e] at h)
end
end
open Go
section
variable {P:Program} {G:Nat→AV} {ops:Array Oper} {n:Nat} {χ:Chi P G} {fl:List (Nat×Nat)} {K:St→Prop}
def pairOK (ops:Array Oper) (fl:List (Nat×Nat)) (i j:Nat):Bool:=
 match ops[i]?,ops[j]? with
 |some x,some y=>flo x && Oper.apart ops x y && (fl.contains (i,j) || harm x y)
 |_,_=>false
theorem swap (hK:∀S S',eqS S S'→K S→K S') {log:Log} {i j:Nat} {rest:List Nat} {S:St} (hp:pairOK ops fl i j=true) (hij:fl.contains (j,i)=false)
  (h:vcD n ops χ fl K log (i :: j :: rest) S):vcD n ops χ fl K log (j :: i :: rest) S:=by
 unfold pairOK at hp
 split at hp
 case h_2=>cases hp
 rename_i oi oj hoi hoj
 simp only[Bool.and_eq_true,Bool.or_eq_true] at hp
 obtain ⟨⟨hflo,hap⟩,hfl⟩ :=hp
 obtain ⟨ha1,ha2,ha3⟩ :=Oper.apart_spec hap
 unfold vcD at h
 simp only[hoi] at h
 obtain ⟨hdi,hpi,hci,hni⟩ :=h
 have hni':∀x,vcD n ops χ fl K ((i,rdC χ i oi S,wrC χ i oi S) :: log) (j :: rest) (nextS oi (stepR χ ops i oi S) x S):=fun x=>hni x (opR_out hflo x)
 have key:∀x,apart (wrC χ i oi S) (rdC χ j oj (nextS oi (stepR χ ops i oi S) x S))∧apart (wrC χ i oi S) (wrC χ j oj (nextS oi (stepR χ ops i oi S) x S))∧apart (rdC χ i oi S) (wrC χ j oj (nextS oi (stepR χ ops i oi S) x S)):=by
  intro x
  rcases hfl with hfl|hfl
  ·have:=hni' x
   unfold vcD at this
   simp only[hoj] at this
   exact this.2.2.1 (i,rdC χ i oi S,wrC χ i oi S) (by simp) hfl
  ·unfold harm at hfl
   simp only[Bool.or_eq_true,Bool.and_eq_true] at hfl
   rcases hfl with (⟨h1,h2⟩ | ⟨h1,h2⟩)| ⟨h1,h2⟩
   ·rw[noWr_spec h1,noWr_spec h2];simp[apart]
   ·rw[noWr_spec h1,noRd_spec h2];simp[apart]
   ·rw[noWr_spec h1,noRd_spec h2];simp[apart]
 have ej:∀x,stepR χ ops j oj (nextS oi (stepR χ ops i oi S) x S)=stepR χ ops j oj S∧rdC χ j oj (nextS oi (stepR χ ops i oi S) x S)=rdC χ j oj S∧wrC χ j oj (nextS oi (stepR χ ops i oi S) x S)=wrC χ j oj S:=by
  intro x
  refine stepR_congr (fun t ht=>next_slot fun e=>ha1 t e ht) fun k hk=>next_key fun p hp e=>?_
  exact (key x).1 p.1 (opR_upd x p hp) (e▸hk)
 have hj:=hni' default
 unfold vcD at hj
 simp only[hoj] at hj
 obtain ⟨hdj,hpj,hcj,hnj⟩ :=hj
 rw[(ej default).1] at hpj
 rw[(ej default).2.1,(ej default).2.2] at hcj
 have hk1:=(key default).1;rw[(ej default).2.1] at hk1
 have hk2:=(key default).2.1;rw[(ej default).2.2] at hk2
 have hk3:=(key default).2.2;rw[(ej default).2.2] at hk3
 unfold vcD
 simp only[hoj]
 refine ⟨hdj,hpj,fun p hp=>hcj p (List.mem_cons_of_mem _ hp),fun y hy=>?_⟩
 have ei:stepR χ ops i oi (nextS oj (stepR χ ops j oj S) y S)=stepR χ ops i oi S∧rdC χ i oi (nextS oj (stepR χ ops j oj S) y S)=rdC χ i oi S∧wrC χ i oi (nextS oj (stepR χ ops j oj S) y S)=wrC χ i oi S:=by
  have:=stepR_congr (P:=P) (G:=G) (χ:=χ) (j:=i) (o:=oi) (ops:=ops) (S:=S) (S':=nextS oj (stepR χ ops j oj S) y S) (fun t ht=>(next_slot fun e=>ha3 t e ht).symm) fun k hk=>(next_key fun p hp e=>hk3 k hk (by have:=opR_upd y p hp;rw[e] at this;exact this)).symm
  exact ⟨this.1.symm,this.2.1.symm,this.2.2.symm⟩
 unfold vcD
 simp only[hoi]
 rw[ei.1,ei.2.1,ei.2.2]
 refine ⟨hdi,hpi,fun p hp hc=>?_,fun x hx=>?_⟩
 ·rcases List.mem_cons.1 hp with rfl|hp
  ·simp only at hc;rw[hij] at hc;cases hc
  ·exact hci p hp hc
 ·have hx':=hni' x
  unfold vcD at hx'
  simp only[hoj] at hx'
  have h4:=hx'.2.2.2 y (by rw[(ej x).1];exact hy)
  rw[(ej x).1,(ej x).2.1,(ej x).2.2] at h4
  refine vcD_log (fun e he=>?_) (vcD_eqS hK ⟨fun t=>?_,fun k=>?_⟩ h4)
  ·rcases List.mem_cons.1 he with rfl|he
   ·simp
   ·rcases List.mem_cons.1 he with rfl|he
    ·simp
    ·exact List.mem_cons_of_mem _ (List.mem_cons_of_mem _ he)
  ·by_cases h1:oi.dst=some t
   ·have h2:oj.dst≠some t:=ha2 t h1
    rw[next_slot h2]
    unfold nextS bindA
    simp only[h1,getA,if_true]
   ·rw[next_slot h1 (x:=x) (S:=nextS oj (stepR χ ops j oj S) y S)]
    by_cases h2:oj.dst=some t
    ·unfold nextS bindA
     simp only[h2,getA,if_true]
    ·rw[next_slot h2,next_slot h2,next_slot h1]
  ·unfold nextS
   simp only[getO_append]
   by_cases h1:((stepR χ ops i oi S).upd x).any (fun p=>p.1=k)=true
   ·have h2:¬(((stepR χ ops j oj S).upd y).any (fun p=>p.1=k)=true):=by
     intro h2
     rw[List.any_eq_true] at h1 h2
     obtain ⟨p,hp,e⟩ :=h1
     obtain ⟨q,hq,e'⟩ :=h2
     simp only[decide_eq_true_eq] at e e'
     exact hk2 k (e▸opR_upd x p hp) (e'▸opR_upd y q hq)
    simp only[h1,h2,if_true,if_false,Bool.false_eq_true]
   ·simp only[h1,if_false,Bool.false_eq_true]
theorem bubble (hK:∀S S',eqS S S'→K S→K S') {j:Nat} {post:List Nat}:∀{pre:List Nat} {log:Log} {S:St},(∀i∈pre,pairOK ops fl i j=true∧fl.contains (j,i)=false)→
  vcD n ops χ fl K log (pre++j :: post) S→vcD n ops χ fl K log (j :: (pre++post)) S
 | [],_,_,_,h=>h
 |i :: pre,log,S,hp,h=>by
  refine swap hK (hp i (by simp)).1 (hp i (by simp)).2 ?_
  simp only[List.cons_append] at h
  unfold vcD at h ⊢
  split at h
  ·exact h.elim
  ·obtain ⟨h1,h2,h3,h4⟩ :=h
   exact ⟨h1,h2,h3,fun x hx=>bubble hK (fun i hi=>hp i (by simp[hi])) (h4 x hx)⟩
def maskOf (ms:List Nat) (o:Oper):Nat:=o.after.toList.foldl (fun m e=>if Region.binds .any e=true then m |||(1 <<< e.on) |||ms.getD e.on 0 else m) 0
theorem maskOf_spec {ms:List Nat} {o:Oper} {i:Nat} (h:(maskOf ms o).testBit i=true):∃e∈o.after.toList,Region.binds .any e=true∧(i=e.on∨(ms.getD e.on 0).testBit i=true):=by
 unfold maskOf at h
 have key:∀(l:List Edge) (m:Nat),(l.foldl (fun m e=>if Region.binds .any e=true then m |||(1 <<< e.on) |||ms.getD e.on 0 else m) m).testBit i=true→m.testBit i=true∨∃e∈l,Region.binds .any e=true∧(i=e.on∨(ms.getD e.on 0).testBit i=true):=by
  intro l
  induction l with
  |nil=>intro m h;exact .inl h
  |cons e l ih=>
   intro m h
   simp only[List.foldl_cons] at h
   rcases ih _ h with h| ⟨e',he',h⟩
   ·split at h
    ·rename_i hb
     simp only[Nat.testBit_or,Bool.or_eq_true] at h
     rcases h with (h|h)|h
     ·exact .inl h
     ·refine .inr ⟨e,by simp,hb,.inl ?_⟩
      simp only[Nat.one_shiftLeft,Nat.testBit_two_pow,decide_eq_true_eq] at h
      exact h.symm
     ·exact .inr ⟨e,by simp,hb,.inr h⟩
    ·exact .inl h
   ·exact .inr ⟨e',by simp[he'],h⟩
 rcases key _ _ h with h|h
 ·simp at h
 ·exact h
def masksOK (ops:Array Oper) (ms:List Nat):Bool:=(List.range ops.size).all fun j=>match ops[j]? with|some o=>ms.getD j 0 == maskOf ms o|none=>true
def pairsOK (ops:Array Oper) (fl:List (Nat×Nat)) (ms:List Nat):List Nat→Bool
 | []=>true
 |i :: rest=>(rest.all fun j=>!fl.contains (j,i) && ((ms.getD j 0).testBit i || pairOK ops fl i j)) && pairsOK ops fl ms rest
def extOK (ops:Array Oper):List Nat→List Nat→Bool
 |_,[]=>true
 |done,j :: rest=>(match ops[j]? with|some o=>o.after.toList.all fun e=>!Region.binds .any e || done.contains e.on|none=>false) && extOK ops (j :: done) rest
def okD (ops:Array Oper) (perm:List Nat) (fl:List (Nat×Nat)) (ms:List Nat):Bool:=
 decide (perm.length=ops.size) && decide perm.Nodup && (perm.all fun j=>decide (j < ops.size)) && masksOK ops ms && pairsOK ops fl ms perm && extOK ops [] perm
def Ext (ops:Array Oper) (L:Nat→Prop):List Nat→Prop
 | []=>True
 |j :: rest=>(∃o,ops[j]? =some o∧∀e∈o.after.toList,Region.binds .any e=true→L e.on)∧Ext ops (fun m=>L m∨m=j) rest
theorem Ext.mono:∀{l:List Nat} {L L':Nat→Prop},(∀m,L m→L' m)→Ext ops L l→Ext ops L' l
 | [],_,_,_,_=>trivial
 |j :: rest,L,L',hs, ⟨⟨o,ho,h1⟩,h2⟩ => ⟨⟨o,ho,fun e he hb=>hs _ (h1 e he hb)⟩,h2.mono fun m h=>h.imp (hs m) id⟩
theorem Ext.drop {i:Nat} {post:List Nat}:∀{pre:List Nat} {L:Nat→Prop},Ext ops L (pre++i :: post)→Ext ops (fun m=>L m∨m=i) (pre++post)
 | [],_, ⟨_,h⟩ =>h
 |j :: pre,L, ⟨⟨o,ho,h1⟩,h2⟩ => ⟨⟨o,ho,fun e he hb=>.inl (h1 e he hb)⟩,(Ext.drop h2).mono fun m h=>by
   rcases h with (h|h)|h
   ·exact .inl (.inl h)
   ·exact .inr h
   ·exact .inl (.inr h)⟩
theorem extOK_spec:∀{l done:List Nat},extOK ops done l=true→Ext ops (fun m=>m∈done) l
 | [],_,_=>trivial
 |j :: rest,done,h=>by
  unfold extOK at h
  simp only[Bool.and_eq_true] at h
  obtain ⟨h1,h2⟩ :=h
  split at h1
  ·rename_i o ho
   refine ⟨⟨o,ho,fun e he hb=>?_⟩,(extOK_spec h2).mono fun m hm=>?_⟩
   ·have:=List.all_eq_true.1 h1 e he
    simpa [hb] using this
   ·rcases List.mem_cons.1 hm with h|h
    ·exact .inr h
    ·exact .inl h
  ·cases h1
theorem drawn_aux {E:Env} {Q:Exit→Act→World→Prop} {χ:Chi E.P E.G} {ms:List Nat} (hK:∀S S',eqS S S'→K S→K S') (hQ:∀S M a w,Sat E S M a w→K S→Q .normal a w) (hms:masksOK ops ms=true):
  ∀(fuel:Nat) (listed:Array Bool) (rem:List Nat) (S:St) (log:Log) (M:Mem) (a:Act) (w:World),listed.size=ops.size→rem.length=fuel→rem.Nodup→(∀i,i∈rem↔i < ops.size∧listed.getD i true=false)→
   pairsOK ops fl ms rem=true→Ext ops (fun m=>listed.getD m false=true) rem→(∀m i,m < ops.size→listed.getD m false=true→(ms.getD m 0).testBit i=true→listed.getD i false=true)→
   Sat E S M a w→vcD E.n ops χ fl K log rem S→wpAny E.P .any ops Q fuel listed a w:=by
 intro fuel
 induction fuel with
 |zero=>
  intro listed rem S log M a w hsz hlen hnd hmem hpairs hext hcl hS h
  have:rem=[]:=List.eq_nil_of_length_eq_zero hlen
  subst this
  refine ⟨?_,hQ S M a w hS h⟩
  unfold Region.ready
  rw[List.filter_eq_nil_iff]
  intro i hi
  have:¬(i < ops.size∧listed.getD i true=false):=fun h=>by have:=(hmem i).2 h;cases this
  have hi':i < ops.size:=List.mem_range.1 hi
  have:listed.getD i true=true:=by
   cases hb:listed.getD i true with
   |true=>rfl
   |false=>exact absurd ⟨hi',hb⟩ this
  simp[this]
 |succ fuel ih=>
  intro listed rem S log M a w hsz hlen hnd hmem hpairs hext hcl hS h
  have getE:∀i,i < ops.size→listed.getD i true=listed.getD i false:=by
   intro i hi
   have hi':i < listed.size:=by omega
   simp[Array.getD_eq_getD_getElem?,Array.getElem?_eq_getElem hi']
  refine ⟨fun hr=>?_,fun i hi=>?_⟩
  ·exfalso
   cases rem with
   |nil=>simp at hlen
   |cons j rest=>
    obtain ⟨⟨o,ho,h1⟩,_⟩ :=hext
    have hj:=(hmem j).1 (by simp)
    have:j∈Region.ready .any ops listed:=by
     unfold Region.ready
     rw[List.mem_filter]
     refine ⟨List.mem_range.2 hj.1, ?_⟩
     simp only[hj.2,Bool.not_false,ho,Option.map_some,Option.getD_some,Bool.true_and,Array.all_eq_true',Bool.or_eq_true,Bool.not_eq_true']
     intro e he
     cases hb:Region.binds .any e with
     |false=>exact .inl rfl
     |true=>exact .inr (h1 e (by simpa using he) hb)
    rw[hr] at this
    cases this
  ·unfold Region.ready at hi
   rw[List.mem_filter] at hi
   obtain ⟨hir,hi⟩ :=hi
   have hilt:i < ops.size:=List.mem_range.1 hir
   have ho:ops[i]? =some ops[i]:=Array.getElem?_eq_getElem hilt
   generalize ops[i]=o at ho
   simp only[ho,Option.map_some,Option.getD_some,Bool.and_eq_true,Bool.not_eq_true',Array.all_eq_true',Bool.or_eq_true] at hi
   obtain ⟨hun,hdir⟩ :=hi
   have hin:i∈rem:=(hmem i).2 ⟨hilt,hun⟩
   obtain ⟨pre,post,rfl⟩ :=List.append_of_mem hin
   have hfree:∀k∈pre,(ms.getD i 0).testBit k=false:=by
    intro k hk
    have hkm:=(hmem k).1 (by simp[hk])
    cases hb:(ms.getD i 0).testBit k with
    |false=>rfl
    |true=>
     exfalso
     have hm:ms.getD i 0=maskOf ms o:=by
      have:=List.all_eq_true.1 hms i (List.mem_range.2 hilt)
      simpa [ho] using this
     rw[hm] at hb
     obtain ⟨e,he,hbi,hor⟩ :=maskOf_spec hb
     have hl:listed.getD e.on false=true:=(hdir e (by simpa using he)).resolve_left (by simp[hbi])
     have:listed.getD k false=true:=by
      rcases hor with rfl|hor
      ·exact hl
      ·have helt:e.on < ops.size:=by
        rcases Nat.lt_or_ge e.on ops.size with h|h
        ·exact h
        ·exfalso
         have:listed.getD e.on false=false:=by simp[Array.getD_eq_getD_getElem?,Array.getElem?_eq_none (show listed.size≤e.on by omega)]
         rw[this] at hl;cases hl
       exact hcl e.on k helt hl hor
     rw[←getE k hkm.1,hkm.2] at this
     cases this
   have hpair:∀k∈pre,pairOK ops fl k i=true∧fl.contains (i,k)=false:=by
    have:∀(pre:List Nat),pairsOK ops fl ms (pre++i :: post)=true→(∀k∈pre,(ms.getD i 0).testBit k=false)→∀k∈pre,pairOK ops fl k i=true∧fl.contains (i,k)=false:=by
     intro pre
     induction pre with
     |nil=>intro _ _ k hk;cases hk
     |cons q pre ihp=>
      intro h hf k hk
      simp only[List.cons_append,pairsOK,Bool.and_eq_true] at h
      rcases List.mem_cons.1 hk with rfl|hk
      ·have:=List.all_eq_true.1 h.1 i (by simp)
       simp only[Bool.and_eq_true,Bool.not_eq_true',Bool.or_eq_true] at this
       exact ⟨this.2.resolve_left (by rw[hf k (by simp)];simp),this.1⟩
      ·exact ihp h.2 (fun k hk=>hf k (by simp[hk])) k hk
    exact this pre hpairs hfree
   have hb:=bubble hK hpair h
   unfold vcD at hb
   simp only[ho] at hb
   obtain ⟨hd,hpre,_,hnext⟩ :=hb
   have getset:∀m d,m < ops.size→(listed.setIfInBounds i true).getD m d=if i=m then true else listed.getD m d:=by
    intro m d hm
    simp only[Array.getD_eq_getD_getElem?,Array.getElem?_setIfInBounds]
    by_cases e:i=m
    ·subst e;simp[hsz,hm]
    ·simp[e]
   have getout:∀m,¬m < ops.size→(listed.setIfInBounds i true).getD m false=false:=by
    intro m hm
    simp[Array.getD_eq_getD_getElem?,Array.getElem?_eq_none (show (listed.setIfInBounds i true).size≤m by simp[hsz];omega)]
   have getout':∀m,¬m < ops.size→listed.getD m false=false:=by
    intro m hm
    simp[Array.getD_eq_getD_getElem?,Array.getElem?_eq_none (show listed.size≤m by omega)]
   have hnd':(pre++post).Nodup∧i∉pre++post:=by
    have:(i :: (pre++post)).Nodup:=(List.Perm.nodup_iff List.perm_middle).1 hnd
    exact ⟨(List.nodup_cons.1 this).2,(List.nodup_cons.1 this).1⟩
   have hpairs':pairsOK ops fl ms (pre++post)=true:=by
    have:∀(pre:List Nat),pairsOK ops fl ms (pre++i :: post)=true→pairsOK ops fl ms (pre++post)=true:=by
     intro pre
     induction pre with
     |nil=>intro h;simp only[List.nil_append,pairsOK,Bool.and_eq_true] at h;exact h.2
     |cons q pre ihp=>
      intro h
      simp only[List.cons_append,pairsOK,Bool.and_eq_true] at h ⊢
      refine ⟨List.all_eq_true.2 fun x hx=>List.all_eq_true.1 h.1 x ?_,ihp h.2⟩
      simp only[List.mem_append,List.mem_cons] at hx ⊢
      exact hx.imp id .inr
    exact this pre hpairs
   have k:=opR_ok hS _ _ o hpre (wpAny E.P .any ops Q fuel (listed.setIfInBounds i true)) Q fun x hx M' w' v hv hSat=>
    ih (listed.setIfInBounds i true) (pre++post) _ _ M' _ w' (by simp[hsz]) (by simp at hlen ⊢;omega) hnd'.1 (fun m=>by
      have:=hmem m
      simp only[List.mem_append,List.mem_cons] at this ⊢
      constructor
      ·intro hm
       have hmi:m≠i:=fun e=>hnd'.2 (by subst e;simpa using hm)
       have h1:=this.1 (hm.imp id .inr)
       refine ⟨h1.1, ?_⟩
       rw[getset m true h1.1,if_neg (fun e=>hmi e.symm)]
       exact h1.2
      ·rintro ⟨h1,h2⟩
       rw[getset m true h1] at h2
       split at h2
       ·cases h2
       ·rename_i hne
        rcases this.2 ⟨h1,h2⟩ with h|h|h
        ·exact .inl h
        ·exact absurd h.symm hne
        ·exact .inr h) hpairs'
     ((Ext.drop hext).mono fun m hm=>by
      rcases hm with hm|hm
      ·by_cases hlt:m < ops.size
       ·rw[getset m false hlt];split<;>first|rfl|exact hm
       ·rw[getout' m hlt] at hm;cases hm
      ·subst hm;rw[getset _ false hilt,if_pos rfl])
     (fun m q hm hl hb=>by
      rw[getset m false hm] at hl
      have hqlt:∀{b},listed.getD b false=true→b < ops.size:=fun {b} h=>by
       rcases Nat.lt_or_ge b ops.size with h1|h1
       ·exact h1
       ·rw[getout' b (by omega)] at h;cases h
      have fin:listed.getD q false=true→(listed.setIfInBounds i true).getD q false=true:=fun h=>by
       rw[getset q false (hqlt h)];split<;>first|rfl|exact h
      by_cases e:i=m
      ·subst e
       have hm':ms.getD i 0=maskOf ms o:=by
        have:=List.all_eq_true.1 hms i (List.mem_range.2 hilt)
        simpa [ho] using this
       rw[hm'] at hb
       obtain ⟨e,he,hbi,hor⟩ :=maskOf_spec hb
       have hle:listed.getD e.on false=true:=(hdir e (by simpa using he)).resolve_left (by simp[hbi])
       rcases hor with rfl|hor
       ·exact fin hle
       ·exact fin (hcl e.on q (hqlt hle) hle hor)
      ·rw[if_neg e] at hl
       exact fin (hcl m q hm hl hb))
     (hSat.bind hd hv) (hnext x hx)
   unfold wpOp
   simp only[ho]
   split
   ·rename_i hw;rw[if_pos hw] at k;exact .inl k
   ·rename_i hw;rw[if_neg hw] at k;exact k
theorem drawn_sound {E:Env} {S:St} {M:Mem} {a:Act} {w:World} {Q:Exit→Act→World→Prop} {χ:Chi E.P E.G} {perm ms:List Nat} (hok:okD ops perm fl ms=true) (hQ:∀S M a w,Sat E S M a w→K S→Q .normal a w)
  (hS:Sat E S M a w) (h:vcD E.n ops χ fl K [] perm S):wpAny E.P .any ops Q ops.size (Array.replicate ops.size false) a w:=by
 simp only[okD,Bool.and_eq_true,decide_eq_true_eq] at hok
 obtain ⟨⟨⟨⟨⟨h1,h2⟩,h3⟩,h4⟩,h5⟩,h6⟩ :=hok
 have hlt:∀i∈perm,i < ops.size:=fun i hi=>by simpa using List.all_eq_true.1 h3 i hi
 have hmono:∀{l:List Nat} {log:Log} {S:St},vcD E.n ops χ fl K log l S→vcD E.n ops χ fl (fun S=>∃S0,eqS S0 S∧K S0) log l S:=by
  intro l
  induction l with
  |nil=>intro log S h;exact ⟨S,eqS.refl S,h⟩
  |cons j rest ih=>
   intro log S h
   unfold vcD at h ⊢
   split at h
   ·exact h.elim
   ·obtain ⟨k1,k2,k3,k4⟩ :=h
    exact ⟨k1,k2,k3,fun x hx=>ih (k4 x hx)⟩
 refine drawn_aux (K:=fun S=>∃S0,eqS S0 S∧K S0) (ms:=ms) (fun S S' he ⟨S0,h0,hk⟩ => ⟨S0,h0.trans he,hk⟩) (fun S M a w hS ⟨S0,h0,hk⟩ =>hQ S0 M a w (hS.sub (fun t=>.inr (h0.1 t)) fun k=>.inr (h0.2 k)) hk) h4 ops.size _ perm S [] M a w (by simp) h1 h2 (fun i=>?_) h5
  ((extOK_spec h6).mono fun m hm=>by cases hm) (fun m i hm hl=>?_) hS (hmono h)
 ·constructor
  ·intro hi
   have:=hlt i hi
   exact ⟨this,by simp[Array.getD_eq_getD_getElem?,this]⟩
  ·rintro ⟨hi,_⟩
   have hsub:∀x∈List.range ops.size,x∈perm:=by
    intro x hx
    exact Classical.byContradiction fun hno=>by
     have hs:perm ⊆ (List.range ops.size).erase x:=fun y hy=>by
      have hyx:y≠x:=fun e=>hno (e▸hy)
      exact (List.mem_erase_of_ne hyx).2 (List.mem_range.2 (hlt y hy))
     have hl:=List.Nodup.length_le_of_subset h2 hs
     rw[List.length_erase_of_mem hx] at hl
     simp at hl
     have:0 < ops.size:=by have:=List.mem_range.1 hx;omega
     omega
   exact hsub i (List.mem_range.2 hi)
 ·simp[Array.getD_eq_getD_getElem?,hm] at hl
end
end Go.AM
