/- Part 7 of the proof: B0 Am26 D0 B1. -/
import Derived.Test.YtbkfdnkeelmloaaGreatDoorZ4
import Derived.Test.YtbkfdnkeelmloaaGreatDoorZ6
set_option linter.unusedVariables false
set_option linter.unusedSimpArgs false
namespace Go.AM
open Go
def retP (a:AV):(Nat→AV)→List (Option AObj)→List (Option AObj)→Prop:=fun ret os fs=>ret=(fun _=>a)∧os=[]∧fs=[]
theorem done_pure {P:Program} {rs:List ResultVar} {S:St} {a:AV} (h:allP (rs.map (resOK P S))) (ha:resA P S rs=a):done P 0 rs (retP a) S:=
 ⟨fun _=>a,[], ⟨rfl,rfl,rfl⟩,by simp,by simp,h,fun _=>by rw[ha]⟩
def pureI {P:Program} {G:Nat→AV} (f:FuncId) (args:List AV) (hyp:Prop) (a:AV) (ok:hyp→Fulfils P G f args [] (retP a)):Inst P G:= ⟨f,args,[],0,hyp,a,retP a,ok⟩
theorem fulfilP {P:Program} {G:Nat→AV} {f:FuncId} {fn:Func} {n:Nat} {rs:List ResultVar} {args:List AV} {a:AV} (c:Code)
  (hf:P.funcs[f]? =some fn) (hb:fn.body=some c) (hn:(fn.name == "runtime.NumGoroutine")=false) (hnt:fn.ntmps=n) (hl:args.length≤n) (hres:fn.results=rs.toArray) (hrs:rs.length≤4)
  (h:Hoare ⟨P,G,n,[]⟩ c (endQ P 0 rs (retP a)) ⟨idxA 0 args,[]⟩):Fulfils P G f args [] (retP a):=fulfil hf hb hn hnt hl hres hrs h
theorem callP {P:Program} {G:Nat→AV} {d:Nat} {f:FuncId} {args bs caps:List AV} {a:AV} {H:List (Nat×Option AObj)} {K:AV→List (Nat×Option AObj)→Prop} (hf:Fulfils P G f bs [] (retP a)) (ha:(args++caps).map normA=bs.map normA) (hK:K a []):
  vcCall P G d (.fn f caps) args H K:=by
 refine ⟨pureI f bs True a fun _=>hf,([],[]), ⟨trivial,rfl, ?_,frz_all.2,rfl,by simp⟩, ?_⟩
 ·rw[(frz_all).1];exact ha
 ·rintro ⟨b,h,ret,os,fs⟩ ⟨h1,h2,h3⟩
  simp only at h1 h2 h3
  subst h1;subst h2;subst h3
  exact hK
theorem callGP {P:Program} {G:Nat→AV} {g:Bool} {f:FuncId} {args bs caps:List AV} {K:AV→Prop} (a:AV) (hf:g=true→Fulfils P G f bs [] (retP a)) (ha:g=true→((args.map stripC)++caps).map normA=bs.map normA∧∀x∈args,cndOK x=true) (hK:K (.cnd g a)):
  vcCallG P G (some g) (.fn f caps) args K:=
 ⟨pureI f bs (g=true) a hf, ⟨fun hg=> ⟨hg,rfl,(ha hg).1,rfl,(ha hg).2⟩,rfl,fun _ _ _ h=>h.1⟩,hK⟩
theorem callDP {P:Program} {G:Nat→AV} {d:Nat} {f:FuncId} {args bs caps:List AV} {a:AV} {hyp:Prop} {ok:hyp→Fulfils P G f bs [] (retP a)} {H:List (Nat×Option AObj)} {K:AV→List (Nat×Option AObj)→Prop} (hh:hyp) (ha:(args++caps).map normA=bs.map normA) (hK:K a []):
  vcCallD d (.fn f caps) args H (pureI f bs hyp a ok,([],[])) K:=by
 refine ⟨⟨hh,rfl, ?_,frz_all.2,rfl,by simp⟩, ?_⟩
 ·rw[(frz_all).1];exact ha
 ·rintro ⟨b,h,ret,os,fs⟩ ⟨h1,h2,h3⟩
  simp only at h1 h2 h3
  subst h1;subst h2;subst h3
  exact hK
theorem callGDP {P:Program} {G:Nat→AV} {g:Bool} {f:FuncId} {args bs caps:List AV} {a:AV} {hyp:Prop} {ok:hyp→Fulfils P G f bs [] (retP a)} {K:AV→Prop} (hh:g=true→hyp) (ha:g=true→((args.map stripC)++caps).map normA=bs.map normA∧∀x∈args,cndOK x=true) (hK:K (.cnd g a)):
  vcCallGD (some g) (.fn f caps) args (pureI f bs hyp a ok) K:=
 ⟨⟨fun hg=> ⟨hh hg,rfl,(ha hg).1,rfl,(ha hg).2⟩,rfl,fun _ _ _ h=>h.1⟩,hK⟩
theorem callDF {P:Program} {G:Nat→AV} {d:Nat} {f:FuncId} {args bs caps:List AV} {a:AV} {hyp:Prop} {ok:hyp→Fulfils P G f bs [] (retP a)} {fz:List Nat} {H:List (Nat×Option AObj)} {K:AV→List (Nat×Option AObj)→Prop} (hh:hyp) (ha:((args++caps).map (frzV (getO H) fz)).map normA=bs.map normA)
  (hp:allP ((args++caps).map (frzP (getO H) fz))) (hnd:fz.Nodup) (hK:K a (fz.map fun k=>(k,none))):vcCallD d (.fn f caps) args H (pureI f bs hyp a ok,([],fz)) K:=by
 refine ⟨⟨hh,rfl,ha,hp,rfl,by simpa using hnd⟩, ?_⟩
 rintro ⟨b,h,ret,os,fs⟩ ⟨h1,h2,h3⟩
 simp only at h1 h2 h3
 subst h1;subst h2;subst h3
 exact hK
theorem pureI_nf {P:Program} {G:Nat→AV} {f:FuncId} {bs:List AV} {a:AV} {hyp:Prop} {ok:hyp→Fulfils P G f bs [] (retP a)}:(pureI f bs hyp a ok).nf=0:=rfl
def noChi {P:Program} {G:Nat→AV}:Chi P G:=fun _ _=>(default,([],[]))
def strV (l:List UInt8):AV:=.val (.string ⟨l.toArray⟩)
def intV (n:Int):AV:=.val (.int .i64 n)
def booV (b:Bool):AV:=.val (.bool b)
theorem resA_one {P:Program} {S:St} {r:ResultVar}:resA P S [r]=resOne P S r:=rfl
theorem resA_two {P:Program} {S:St} {r s:ResultVar}:resA P S [r,s]= .tup [resOne P S r,resOne P S s]:=rfl
theorem resA_three {P:Program} {S:St} {r s t:ResultVar}:resA P S [r,s,t]= .tup [resOne P S r,resOne P S s,resOne P S t]:=rfl
theorem resA_nil {P:Program} {S:St}:resA P S []= .tup []:=rfl
theorem wrap_i64 {n:Int} (h: -9223372036854775808≤n) (k:n≤9223372036854775807):IntKind.i64.wrap n=n:=by
 simp[IntKind.wrap,IntKind.bits,IntKind.signed];omega
attribute [go_sem] pureI_nf resA_one resA_two resA_three resA_nil resOne resOK Int.toNat_natCast strV intV booV List.mem_cons List.not_mem_nil forall_eq_or_imp forall_eq false_implies List.length_cons List.length_nil
 List.drop_succ_cons List.drop_zero List.headD_cons List.take_succ_cons List.take_zero List.set_cons_succ List.set_cons_zero Nat.sub_zero Nat.zero_add Nat.add_zero Nat.le_refl Nat.zero_le List.drop_nil List.take_nil
 Nat.sub_self List.all_cons List.all_nil Value.oneCell' ne_eq
open Go
def Br (p q:Prop):Prop:=p→q
theorem br {p q:Prop} (h:p→q):Br p q:=h
section
variable {C:Ctx} {Q:Post} {S:St} {r:Prop}
theorem stReg {id:Nat} {l:List Oper} (h:vcL C.P C.G C.n l.toArray (Q .normal) l S=r) (x:r):Hoare C (.region id l.toArray false) Q S:=hRegion (h▸x)
theorem stSkip (h:Q .normal S=r) (x:r):Hoare C .skip Q S:=hSkip (h▸x)
theorem stExit {id:Nat} (h:Q (.exit id) S=r) (x:r):Hoare C (.exit id) Q S:=hExit (h▸x)
theorem stRet (h:Q .ret S=r) (x:r):Hoare C .ret Q S:=hRet (h▸x)
theorem stDone {P:Program} {rs:List ResultVar} {a:AV} (h:allP (rs.map (resOK P S))) (e:(resA P S rs=a)=r) (x:r):done P 0 rs (retP a) S:=done_pure h (e▸x)
theorem stCL {c:Operand} {x y:Code} {b:Bool} {p n:Prop} (hb:opA C.G S.ρ c= .val (.bool b)) (hp:(b=true)=p) (hn:(b=false)=n) (dead:¬p) (k:n→Hoare C y Q S):Hoare C (.cond c x y) Q S:=
 hCond hb (fun e=>absurd (hp▸e) dead) fun e=>k (hn▸e)
theorem stCR {c:Operand} {x y:Code} {b:Bool} {p n:Prop} (hb:opA C.G S.ρ c= .val (.bool b)) (hp:(b=true)=p) (hn:(b=false)=n) (dead:¬n) (k:p→Hoare C x Q S):Hoare C (.cond c x y) Q S:=
 hCond hb (fun e=>k (hp▸e)) fun e=>absurd (hn▸e) dead
theorem stCB {c:Operand} {x y:Code} {b:Bool} {p n:Prop} (hb:opA C.G S.ρ c= .val (.bool b)) (hp:(b=true)=p) (hn:(b=false)=n) (h:Br p (Hoare C x Q S)∧Br n (Hoare C y Q S)):Hoare C (.cond c x y) Q S:=
 hCond hb (fun e=>h.1 (hp▸e)) fun e=>h.2 (hn▸e)
end
theorem cndw {b v:Bool} {p:Prop} (h:(b=v)=p:=by first|(simp only[decide_eq_true_eq,decide_eq_false_iff_not,beq_iff_eq,beq_eq_false_iff_ne,bne_iff_ne,bne_eq_false_iff_eq,Bool.not_eq_true',Bool.not_eq_false',Int.not_lt,Int.not_le,gt_iff_lt,ge_iff_le,ne_eq,Bool.and_eq_true,Bool.or_eq_true,Bool.and_eq_false_iff,Bool.or_eq_false_iff,Decidable.not_not];rfl)|rfl):(b=v)=p:=h
def Hid (q:Prop):Prop:=q
theorem Hid.out {q:Prop} (h:Hid q):q:=h
theorem rn {p q:Prop} (hq:q) (h:Hid q→p:=by
  intro hq
  first
   |refine s1 ?_
   |refine s2 ?_
   |refine stReg (by simp -implicitDefEqProofs only[go_sem,↓reduceIte,Nat.reduceEqDiff,Nat.reduceLT,Nat.reduceLeDiff,Nat.reduceAdd,Nat.reduceSub,Nat.reduceMul,reduceCtorEq,List.reduceReplicate,Nat.reduceBEq];rfl) ?_
   |refine stSkip (by simp -implicitDefEqProofs only[go_sem,↓reduceIte,Nat.reduceEqDiff,Nat.reduceLT,Nat.reduceLeDiff,Nat.reduceAdd,Nat.reduceSub,Nat.reduceMul,reduceCtorEq,List.reduceReplicate,Nat.reduceBEq];rfl) ?_
   |refine stExit (by simp -implicitDefEqProofs only[go_sem,↓reduceIte,Nat.reduceEqDiff,Nat.reduceLT,Nat.reduceLeDiff,Nat.reduceAdd,Nat.reduceSub,Nat.reduceMul,reduceCtorEq,List.reduceReplicate,Nat.reduceBEq];rfl) ?_
   |refine stRet (by simp -implicitDefEqProofs only[go_sem,↓reduceIte,Nat.reduceEqDiff,Nat.reduceLT,Nat.reduceLeDiff,Nat.reduceAdd,Nat.reduceSub,Nat.reduceMul,reduceCtorEq,List.reduceReplicate,Nat.reduceBEq];rfl) ?_
   |refine stDone (by simp -implicitDefEqProofs only[go_sem,↓reduceIte,Nat.reduceEqDiff,Nat.reduceLT,Nat.reduceLeDiff,Nat.reduceAdd,Nat.reduceSub,Nat.reduceMul,reduceCtorEq,List.reduceReplicate,Nat.reduceBEq]) (by simp -implicitDefEqProofs only[go_sem,↓reduceIte,Nat.reduceEqDiff,Nat.reduceLT,Nat.reduceLeDiff,Nat.reduceAdd,Nat.reduceSub,Nat.reduceMul,reduceCtorEq,List.reduceReplicate,Nat.reduceBEq];rfl) ?_
   |refine stCL rfl cndw cndw (by first|(intro hb;exfalso;omega)|decide) fun hb=>?_
   |refine stCR rfl cndw cndw (by first|(intro hb;exfalso;omega)|decide) fun hb=>?_
   |with_reducible refine And.intro (by first|exact True.intro|omega|with_reducible exact s8|(with_reducible intro hg;refine ⟨hg, ?_⟩;intro hg2;first|(simp[hg,hg2];done)|grind)) ?_
   |refine stCB rfl cndw cndw ?_
  repeat first
   |refine s1 ?_
   |refine s2 ?_
   |refine stReg (by simp -implicitDefEqProofs only[go_sem,↓reduceIte,Nat.reduceEqDiff,Nat.reduceLT,Nat.reduceLeDiff,Nat.reduceAdd,Nat.reduceSub,Nat.reduceMul,reduceCtorEq,List.reduceReplicate,Nat.reduceBEq];rfl) ?_
   |refine stSkip (by simp -implicitDefEqProofs only[go_sem,↓reduceIte,Nat.reduceEqDiff,Nat.reduceLT,Nat.reduceLeDiff,Nat.reduceAdd,Nat.reduceSub,Nat.reduceMul,reduceCtorEq,List.reduceReplicate,Nat.reduceBEq];rfl) ?_
   |refine stExit (by simp -implicitDefEqProofs only[go_sem,↓reduceIte,Nat.reduceEqDiff,Nat.reduceLT,Nat.reduceLeDiff,Nat.reduceAdd,Nat.reduceSub,Nat.reduceMul,reduceCtorEq,List.reduceReplicate,Nat.reduceBEq];rfl) ?_
   |refine stRet (by simp -implicitDefEqProofs only[go_sem,↓reduceIte,Nat.reduceEqDiff,Nat.reduceLT,Nat.reduceLeDiff,Nat.reduceAdd,Nat.reduceSub,Nat.reduceMul,reduceCtorEq,List.reduceReplicate,Nat.reduceBEq];rfl) ?_
   |refine stDone (by simp -implicitDefEqProofs only[go_sem,↓reduceIte,Nat.reduceEqDiff,Nat.reduceLT,Nat.reduceLeDiff,Nat.reduceAdd,Nat.reduceSub,Nat.reduceMul,reduceCtorEq,List.reduceReplicate,Nat.reduceBEq]) (by simp -implicitDefEqProofs only[go_sem,↓reduceIte,Nat.reduceEqDiff,Nat.reduceLT,Nat.reduceLeDiff,Nat.reduceAdd,Nat.reduceSub,Nat.reduceMul,reduceCtorEq,List.reduceReplicate,Nat.reduceBEq];rfl) ?_
   |refine stCL rfl cndw cndw (by first|(intro hb;exfalso;omega)|decide) fun hb=>?_
   |refine stCR rfl cndw cndw (by first|(intro hb;exfalso;omega)|decide) fun hb=>?_
   |with_reducible refine And.intro (by first|exact True.intro|omega|with_reducible exact s8|(with_reducible intro hg;refine ⟨hg, ?_⟩;intro hg2;first|(simp[hg,hg2];done)|grind)) ?_
  exact Hid.out hq):p:=h hq
theorem rnE {E p q:Prop} (e:E) (hq:q) (h:E→Hid q→p:=by
  intro e hq
  first
   |refine s1 ?_
   |refine s2 ?_
   |refine stReg (by simp -implicitDefEqProofs only[go_sem,↓reduceIte,Nat.reduceEqDiff,Nat.reduceLT,Nat.reduceLeDiff,Nat.reduceAdd,Nat.reduceSub,Nat.reduceMul,reduceCtorEq,List.reduceReplicate,Nat.reduceBEq,e];rfl) ?_
   |refine stSkip (by simp -implicitDefEqProofs only[go_sem,↓reduceIte,Nat.reduceEqDiff,Nat.reduceLT,Nat.reduceLeDiff,Nat.reduceAdd,Nat.reduceSub,Nat.reduceMul,reduceCtorEq,List.reduceReplicate,Nat.reduceBEq,e];rfl) ?_
   |refine stExit (by simp -implicitDefEqProofs only[go_sem,↓reduceIte,Nat.reduceEqDiff,Nat.reduceLT,Nat.reduceLeDiff,Nat.reduceAdd,Nat.reduceSub,Nat.reduceMul,reduceCtorEq,List.reduceReplicate,Nat.reduceBEq,e];rfl) ?_
   |refine stRet (by simp -implicitDefEqProofs only[go_sem,↓reduceIte,Nat.reduceEqDiff,Nat.reduceLT,Nat.reduceLeDiff,Nat.reduceAdd,Nat.reduceSub,Nat.reduceMul,reduceCtorEq,List.reduceReplicate,Nat.reduceBEq,e];rfl) ?_
   |refine stDone (by simp -implicitDefEqProofs only[go_sem,↓reduceIte,Nat.reduceEqDiff,Nat.reduceLT,Nat.reduceLeDiff,Nat.reduceAdd,Nat.reduceSub,Nat.reduceMul,reduceCtorEq,List.reduceReplicate,Nat.reduceBEq,e]) (by simp -implicitDefEqProofs only[go_sem,↓reduceIte,Nat.reduceEqDiff,Nat.reduceLT,Nat.reduceLeDiff,Nat.reduceAdd,Nat.reduceSub,Nat.reduceMul,reduceCtorEq,List.reduceReplicate,Nat.reduceBEq,e];rfl) ?_
   |refine stCL rfl cndw cndw (by first|(intro hb;exfalso;omega)|decide) fun hb=>?_
   |refine stCR rfl cndw cndw (by first|(intro hb;exfalso;omega)|decide) fun hb=>?_
   |with_reducible refine And.intro (by first|exact True.intro|omega|with_reducible exact s8|(with_reducible intro hg;refine ⟨hg, ?_⟩;intro hg2;first|(simp[hg,hg2];done)|grind)) ?_
   |refine stCB rfl cndw cndw ?_
  repeat first
   |refine s1 ?_
   |refine s2 ?_
   |refine stReg (by simp -implicitDefEqProofs only[go_sem,↓reduceIte,Nat.reduceEqDiff,Nat.reduceLT,Nat.reduceLeDiff,Nat.reduceAdd,Nat.reduceSub,Nat.reduceMul,reduceCtorEq,List.reduceReplicate,Nat.reduceBEq,e];rfl) ?_
   |refine stSkip (by simp -implicitDefEqProofs only[go_sem,↓reduceIte,Nat.reduceEqDiff,Nat.reduceLT,Nat.reduceLeDiff,Nat.reduceAdd,Nat.reduceSub,Nat.reduceMul,reduceCtorEq,List.reduceReplicate,Nat.reduceBEq,e];rfl) ?_
   |refine stExit (by simp -implicitDefEqProofs only[go_sem,↓reduceIte,Nat.reduceEqDiff,Nat.reduceLT,Nat.reduceLeDiff,Nat.reduceAdd,Nat.reduceSub,Nat.reduceMul,reduceCtorEq,List.reduceReplicate,Nat.reduceBEq,e];rfl) ?_
   |refine stRet (by simp -implicitDefEqProofs only[go_sem,↓reduceIte,Nat.reduceEqDiff,Nat.reduceLT,Nat.reduceLeDiff,Nat.reduceAdd,Nat.reduceSub,Nat.reduceMul,reduceCtorEq,List.reduceReplicate,Nat.reduceBEq,e];rfl) ?_
   |refine stDone (by simp -implicitDefEqProofs only[go_sem,↓reduceIte,Nat.reduceEqDiff,Nat.reduceLT,Nat.reduceLeDiff,Nat.reduceAdd,Nat.reduceSub,Nat.reduceMul,reduceCtorEq,List.reduceReplicate,Nat.reduceBEq,e]) (by simp -implicitDefEqProofs only[go_sem,↓reduceIte,Nat.reduceEqDiff,Nat.reduceLT,Nat.reduceLeDiff,Nat.reduceAdd,Nat.reduceSub,Nat.reduceMul,reduceCtorEq,List.reduceReplicate,Nat.reduceBEq,e];rfl) ?_
   |refine stCL rfl cndw cndw (by first|(intro hb;exfalso;omega)|decide) fun hb=>?_
   |refine stCR rfl cndw cndw (by first|(intro hb;exfalso;omega)|decide) fun hb=>?_
   |with_reducible refine And.intro (by first|exact True.intro|omega|with_reducible exact s8|(with_reducible intro hg;refine ⟨hg, ?_⟩;intro hg2;first|(simp[hg,hg2];done)|grind)) ?_
  exact Hid.out hq):p:=h e hq
end Go.AM
namespace Go.Proofs.YtbkfdnkeelmloaaGreatDoor
open Go.AM Go
abbrev Bytes:=List UInt8
def u64V (n:Int):AV:=.val (.int .u64 n)
def u8V (b:UInt8):AV:=.val (.int .u8 b.toNat)
def bytesV (l:Bytes):AV:=.dat false 1 (l.map fun b=>[u8V b])
structure LayoutD where
 version:Int
 wide:Bool
 size:Int
 big:Bool
 far:Bool
structure PieceD where
 kind:Int
 a:Int
 b:Int
structure SpanD where
 low:Int
 high:Int
 length:Bool
 listed:Bool
 pieces:List PieceD
structure AttrD where
 attr:Int
 form:Int
 indirect:Bool
 n:Int
 s:Bytes
 b:Bytes
structure NodeD where
 tag:Int
 children:Bool
 sibling:Bool
 attrs:List AttrD
structure UnitD where
 version:Int
 wide:Bool
 size:Int
 nodes:List NodeD
structure FileD where
 name:Bytes
 dir:Int
 mtime:Int
 length:Int
structure OpD where
 kind:Int
 n:Int
 m:Int
 file:FileD
structure TableD where
 version:Int
 wide:Bool
 big:Bool
 size:Int
 minInst:Int
 maxOps:Int
 isStmt:Bool
 lineBase:Int
 lineRange:Int
 opcodeBase:Int
 operands:List Int
 shape:Int
 pad:Int
 dirs:List Bytes
 files:List FileD
 ops:List OpD
def layoutC (l:LayoutD):List AV:=[intV l.version,booV l.wide,intV l.size,booV l.big,booV l.far]
def pieceC (p:PieceD):List AV:=[intV p.kind,u64V p.a,u64V p.b]
def piecesV (l:List PieceD):AV:=.dat false 3 (l.map pieceC)
def spanC (s:SpanD):List AV:=[u64V s.low,u64V s.high,booV s.length,booV s.listed,piecesV s.pieces]
def spansV (l:List SpanD):AV:=.dat false 5 (l.map spanC)
def attrC (a:AttrD):List AV:=[intV a.attr,intV a.form,booV a.indirect,u64V a.n,strV a.s,bytesV a.b]
def attrsV (l:List AttrD):AV:=.dat false 6 (l.map attrC)
def nodeC (n:NodeD):List AV:=[intV n.tag,booV n.children,booV n.sibling,attrsV n.attrs]
def nodesV (l:List NodeD):AV:=.dat false 4 (l.map nodeC)
def unitC (u:UnitD):List AV:=[intV u.version,booV u.wide,intV u.size,nodesV u.nodes]
def unitsV (l:List UnitD):AV:=.dat false 4 (l.map unitC)
def fileC (f:FileD):List AV:=[strV f.name,intV f.dir,u64V f.mtime,intV f.length]
def filesV (l:List FileD):AV:=.dat false 4 (l.map fileC)
def opC (o:OpD):List AV:=[intV o.kind,u64V o.n,intV o.m,strV o.file.name,intV o.file.dir,u64V o.file.mtime,intV o.file.length]
def opsV (l:List OpD):AV:=.dat false 7 (l.map opC)
def intsV (l:List Int):AV:=.dat false 1 (l.map fun n=>[intV n])
def strsV (l:List Bytes):AV:=.dat false 1 (l.map fun s=>[strV s])
def tableC (t:TableD):List AV:=[intV t.version,booV t.wide,booV t.big,intV t.size,intV t.minInst,intV t.maxOps,booV t.isStmt,intV t.lineBase,intV t.lineRange,intV t.opcodeBase,
 intsV t.operands,intV t.shape,intV t.pad,strsV t.dirs,filesV t.files,opsV t.ops]
attribute [go_sem] u64V u8V bytesV layoutC pieceC piecesV spanC spansV attrC attrsV nodeC nodesV unitC unitsV fileC filesV opC opsV intsV strsV tableC List.length_map
theorem row_at {α:Type} (f:α→List AV) {l:List α} {i:Nat} {x:α} (h:l[i]? =some x):(l.map f).getD i []=f x:=by
 rw[List.getD_eq_getElem?_getD,List.getElem?_map,h];rfl
theorem all_take {α:Type} {p:α→Bool} {l:List α} {i:Nat} {x:α} (h:l[i]? =some x) (ha:(l.take i).all p=true) (hx:p x=true):(l.take (i+1)).all p=true:=by
 obtain ⟨hi,e⟩ :=List.getElem?_eq_some_iff.1 h
 rw[List.take_succ_eq_append_getElem hi,List.all_append,ha,e]
 simp[hx]
theorem all_no {α:Type} {p:α→Bool} {l:List α} {i:Nat} {x:α} (h:l[i]? =some x) (hx:p x=false):l.all p=false:=by
 rw[List.all_eq_false]
 exact ⟨x,List.mem_of_getElem? h,by simp[hx]⟩
theorem all_full {α:Type} {p:α→Bool} {l:List α} {i:Nat} (hi:l.length≤i) (ha:(l.take i).all p=true):l.all p=true:=by rwa [List.take_of_length_le hi] at ha
abbrev Upto {α:Type} (l:List α) (p:α→Bool):={i:Nat // i≤l.length∧(l.take i).all p=true}
theorem getX {α:Type} (l:List α) {i:Nat} (h:i < l.length):∃x,l[i]? =some x:= ⟨l[i],List.getElem?_eq_getElem h⟩
def fits (n:Nat):Bool:=decide (n≤2147483647)
def fitsSpan (s:SpanD):Bool:=fits s.pieces.length
def fitsSpans (l:List SpanD):Bool:=fits l.length && l.all fitsSpan
def fitsAttr (a:AttrD):Bool:=fits a.s.length && fits a.b.length
def fitsAttrs (l:List AttrD):Bool:=fits l.length && l.all fitsAttr
def fitsNode (n:NodeD):Bool:=fitsAttrs n.attrs
def fitsNodes (l:List NodeD):Bool:=fits l.length && l.all fitsNode
def fitsUnit (u:UnitD):Bool:=fitsNodes u.nodes
def fitsUnits (l:List UnitD):Bool:=fits l.length && l.all fitsUnit
def fitsFile (f:FileD):Bool:=fits f.name.length
def fitsFiles (l:List FileD):Bool:=fits l.length && l.all fitsFile
def fitsOp (o:OpD):Bool:=fitsFile o.file
def fitsOps (l:List OpD):Bool:=fits l.length && l.all fitsOp
def fitsStrs (l:List Bytes):Bool:=fits l.length && l.all fun s=>fits s.length
def fitsTable (t:TableD):Bool:=fits t.operands.length && fitsStrs t.dirs && fitsFiles t.files && fitsOps t.ops
def okSpan (s:SpanD):Prop:=s.pieces.length≤big
def okSpans (l:List SpanD):Prop:=l.length≤big∧∀s∈l,okSpan s
def okAttr (a:AttrD):Prop:=a.s.length≤big∧a.b.length≤big
def okAttrs (l:List AttrD):Prop:=l.length≤big∧∀a∈l,okAttr a
def okNode (n:NodeD):Prop:=okAttrs n.attrs
def okNodes (l:List NodeD):Prop:=l.length≤big∧∀a∈l,okNode a
def okUnit (u:UnitD):Prop:=okNodes u.nodes
def okUnits (l:List UnitD):Prop:=l.length≤big∧∀a∈l,okUnit a
def okFile (f:FileD):Prop:=f.name.length≤big
def okFiles (l:List FileD):Prop:=l.length≤big∧∀a∈l,okFile a
def okOp (o:OpD):Prop:=okFile o.file
def okOps (l:List OpD):Prop:=l.length≤big∧∀a∈l,okOp a
def okStrs (l:List Bytes):Prop:=l.length≤big∧∀a∈l,a.length≤big
def okTable (t:TableD):Prop:=t.operands.length≤big∧okStrs t.dirs∧okFiles t.files∧okOps t.ops
open Go.AM Go
def bytesR (l:Bytes):List (List AV):=l.map fun b=>[u8V b]
theorem bytesV_eq (l:Bytes):bytesV l= .dat false 1 (bytesR l):=rfl
theorem bytesR_append (a b:Bytes):bytesR (a++b)=bytesR a++bytesR b:=by simp[bytesR]
theorem bytesR_length (a:Bytes):(bytesR a).length=a.length:=by simp[bytesR]
def byI (x:Int):UInt8:=UInt8.ofNat (x % 256).toNat
theorem byI_toNat (x:Int):((byI x).toNat:Int)=x % 256:=by
 unfold byI
 have h0:0≤x % 256:=Int.emod_nonneg _ (by decide)
 have h1:x % 256 < 256:=Int.emod_lt_of_pos _ (by decide)
 rw[UInt8.toNat_ofNat']
 omega
theorem u8_wrap (x:Int):IntKind.u8.wrap x=((byI x).toNat:Int):=by
 rw[byI_toNat]
 simp[IntKind.wrap,IntKind.bits,IntKind.signed]
theorem or_u8 (a b:UInt8):bitsV .or .u8 a.toNat b.toNat=((a |||b).toNat:Int):=by
 unfold bitsV
 rw[u8_wrap,byI_toNat]
 have h:(BitVec.ofInt IntKind.u8.bits (a.toNat:Int) |||BitVec.ofInt IntKind.u8.bits (b.toNat:Int)).toNat=(a |||b).toNat:=by
  show (BitVec.ofInt 8 (a.toNat:Int) |||BitVec.ofInt 8 (b.toNat:Int)).toNat=_
  have e:∀c:UInt8,BitVec.ofInt 8 (c.toNat:Int)=c.toBitVec:=by
   intro c
   rw[BitVec.ofInt_natCast]
   apply BitVec.eq_of_toNat_eq
   simp[BitVec.toNat_ofNat]
  rw[e,e]
  rfl
 simp only[h]
 have:(a |||b).toNat < 256:=UInt8.toNat_lt _
 omega
theorem or_u8_128 (a:UInt8):bitsV .or .u8 a.toNat 128=((a |||128).toNat:Int):=or_u8 a 128
theorem row_b {l:Bytes} {i:Nat} (h:i < l.length):(bytesR l).getD i []=[u8V (l.getD i 0)]:=by
 unfold bytesR
 rw[List.getD_eq_getElem?_getD,List.getElem?_map,List.getD_eq_getElem?_getD,List.getElem?_eq_getElem h];rfl
theorem set_b {l:Bytes} {i:Nat} {b:UInt8}:(bytesR l).set i [.val (.int .u8 (b.toNat:Int))]=bytesR (l.set i b):=by
 unfold bytesR
 rw[List.map_set]
 rfl
theorem snoc_b {l:Bytes} {b:UInt8}:bytesR l++[[.val (.int .u8 (b.toNat:Int))]]=bytesR (l++[b]):=by simp[bytesR,u8V]
theorem snoc_0 {l:Bytes}:bytesR l++[[.val (.int .u8 0)]]=bytesR (l++[0]):=snoc_b (b:=0)
theorem one_b {b:UInt8}:[[AV.val (.int .u8 (b.toNat:Int))]]=bytesR [b]:=rfl
theorem app_b {l m:Bytes}:bytesR l++bytesR m=bytesR (l++m):=(bytesR_append l m).symm
theorem setr_b {l:Bytes} {i:Nat} {b:UInt8}:(bytesR l).set i (((bytesR l).getD i []).set 0 (.val (.int .u8 (b.toNat:Int))))=bytesR (l.set i b):=by
 by_cases h:i < l.length
 ·rw[row_b h]
  exact set_b
 ·rw[List.set_eq_of_length_le (by rw[bytesR_length];omega),List.set_eq_of_length_le (by omega)]
theorem repl_b (n:Nat):List.replicate n [AV.val (.int .u8 0)]=bytesR (List.replicate n 0):=by
 unfold bytesR
 rw[List.map_replicate]
 rfl
theorem turnR_b {f:AV→AV} (hf:∀v,f (.val v)= .val v) (l:Bytes):turnR f (bytesR l)=bytesR l:=by
 induction l with
 |nil=>rfl
 |cons b l ih=>
  have:bytesR (b :: l)=[u8V b] :: bytesR l:=rfl
  rw[this]
  simp only[turnR,turnL,u8V,AV.turn,hf,ih]
theorem turnR_rk {σ:Nat→Nat} (l:Bytes):turnR (rkA σ) (bytesR l)=bytesR l:=turnR_b (fun _=>rfl) l
theorem nilD_val {σ:Nat→Nat} {k:IntKind} {n:Int}:nilD σ (.val (.int k n))= .val (.int k n):=rfl
theorem turnR_nd {σ:Nat→Nat} (l:Bytes):turnR (nilD σ) (bytesR l)=bytesR l:=by
 induction l with
 |nil=>rfl
 |cons b l ih=>
  have:bytesR (b :: l)=[u8V b] :: bytesR l:=rfl
  rw[this]
  simp only[turnR,turnL,u8V,AV.turn,nilD_val,ih]
theorem turnR_fz {k:Nat} {ob:AObj} (l:Bytes):turnR (frz1 k ob) (bytesR l)=bytesR l:=turnR_b (fun _=>rfl) l
theorem turnR_rn {k k2:Nat} (l:Bytes):turnR (ren1 k k2) (bytesR l)=bytesR l:=turnR_b (fun _=>rfl) l
theorem fitR_fz {k:Nat} {ob:AObj} (l:Bytes):fitR (frz1P k ob) (bytesR l)=True:=by
 induction l with
 |nil=>rfl
 |cons b l ih=>
  have:bytesR (b :: l)=[u8V b] :: bytesR l:=rfl
  rw[this]
  simp only[fitR,fitL,u8V,AV.fit,frz1P,ih,and_self]
theorem fold_b (l:Bytes):(l.map fun b=>[AV.val (.int .u8 (b.toNat:Int))])=bytesR l:=rfl
theorem byI_nat (n:Nat):byI n=UInt8.ofNat n:=by
 unfold byI
 apply UInt8.toNat.inj
 rw[UInt8.toNat_ofNat',UInt8.toNat_ofNat']
 omega
attribute [go_sem] List.length_append setr_b byI_nat fold_b List.toList_toArray zeroRow turnR_rk turnR_nd turnR_fz turnR_rn fitR_fz set_b snoc_b snoc_0 app_b u8_wrap or_u8_128 bytesR_length List.length_set List.length_replicate
end Go.Proofs.YtbkfdnkeelmloaaGreatDoor
