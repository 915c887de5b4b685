/- Part 9 of the proof: G0 Am27. -/
import Derived.Test.YtbkfdnkeelmloaaGreatDoorZ7
set_option linter.unusedVariables false
set_option linter.unusedSimpArgs false
namespace Go.Proofs.YtbkfdnkeelmloaaGreatDoor
set_option maxRecDepth 10000
open Go.AM Go
section
variable {G:Nat→AV}
def isText (l:List UInt8):Bool:=l.all (·!= 0)
theorem isText_take {l:List UInt8} {i:Nat} (h:isText (l.take i)=true) (hi:i < l.length) (h0:¬(l.getD i 0)=0):isText (l.take (i+1))=true:=by
 unfold isText at *
 rw[List.take_succ_eq_append_getElem hi,List.all_append,h]
 rw[List.getD_eq_getElem?_getD,List.getElem?_eq_getElem hi] at h0
 simpa using h0
theorem toNat0 {x:UInt8}:((x.toNat:Int)=0)↔x=0:=by
 constructor
 ·intro h;exact UInt8.toNat.inj (by simpa using (show x.toNat=0 by omega))
 ·rintro rfl;rfl
theorem f8_ok (l:List UInt8) (hl:l.length≤big):Fulfils Tryz.prog G 8 [strV l] [] (retP (booV (isText l))):=by
 have hbig:big=140737488355328:=rfl
 refine fulfilP (fn:=Tryz.f8) (rs:=[.tmp 2]) (Tryz.f8.body.getD .skip) (by kernel_rfl) rfl rfl rfl (by simp only[List.length_cons,List.length_nil];decide) rfl (by decide) ?_
 simp only[Tryz.f8,Option.getD_some,go_sem]
 repeat' first|refine s1 ?_|refine s2 ?_|refine hRegion (sim ?_)|fail
 refine hLoop (X:={i:Nat // i≤l.length∧isText (l.take i)=true}) (fun i=> ⟨[(3,intV i.1),(0,strV l)],[]⟩) (fun i=>l.length - i.1) ⟨0,by simp[isText]⟩ (by refine sim ?_;simp) ?_
 rintro ⟨i,hi,hall⟩
 simp only[go_sem]
 repeat' first|refine s1 ?_|refine s2 ?_|refine hRegion (sim ?_)|refine hSkip (sim ?_)|refine hExit (sim ?_)|refine hRet (sim ?_)|refine s7 rfl (fun hb=>?_) fun hb=>?_|refine And.intro ?_ ?_|(refine done_pure sT ?_;refine sim ?_)|fail
 ·omega
 ·omega
 ·rw[toNat0] at hb
  have:isText l=false:=by
   unfold isText
   rw[List.all_eq_false]
   refine ⟨l[i]'(by omega),List.getElem_mem _, ?_⟩
   rw[List.getD_eq_getElem?_getD,List.getElem?_eq_getElem (by omega)] at hb
   simpa using hb
  rw[this]
 ·rw[toNat0] at hb
  exact ⟨⟨i+1,by omega,isText_take hall (by omega) hb⟩,by rw[wrap_i64 (by omega) (by omega)];simp,by dsimp only;omega⟩
 ·have:l.take i=l:=List.take_of_length_le (by omega)
  rw[this] at hall
  rw[hall]
end
end Go.Proofs.YtbkfdnkeelmloaaGreatDoor
namespace Go.AM
open Go
section
variable {P:Program} {G:Nat→AV} {ops:Array Oper} {n:Nat} {χ:Chi P G} {fl fl1 fl2:List (Nat×Nat)} {K:St→Prop}
structure Rem (ops:Array Oper) (fl:List (Nat×Nat)) (ms:List Nat) (listed:Array Bool) (rem:List Nat):Prop where
 nd:rem.Nodup
 mem:∀i,i∈rem↔i < ops.size∧listed.getD i true=false
 pairs:pairsOK ops fl ms rem=true
 ext:Ext ops (fun m=>listed.getD m false=true) rem
theorem set_get {listed:Array Bool} {i m:Nat} {d:Bool} (hsz:listed.size=ops.size) (hm:m < ops.size):(listed.setIfInBounds i true).getD m d=if i=m then true else listed.getD m d:=by
 simp only[Array.getD_eq_getD_getElem?,Array.getElem?_setIfInBounds]
 by_cases e:i=m
 ·subst e;simp[hsz,hm]
 ·simp[e]
theorem set_out {listed:Array Bool} {m:Nat} (hsz:listed.size=ops.size) (hm:¬m < ops.size):listed.getD m false=false:=by
 simp[Array.getD_eq_getD_getElem?,Array.getElem?_eq_none (show listed.size≤m by omega)]
theorem Rem.step (hK:∀S S',eqS S S'→K S→K S') {listed:Array Bool} {ms rem:List Nat} {log:Log} {S:St} {i:Nat} (hsz:listed.size=ops.size) (h:Rem ops fl ms listed rem) (hilt:i < ops.size) (hun:listed.getD i true=false)
  (hf:∀k,k < ops.size→listed.getD k true=false→(ms.getD i 0).testBit k=false) (hv:vcD n ops χ fl K log rem S):
  ∃rem' o,ops[i]? =some o∧Rem ops fl ms (listed.setIfInBounds i true) rem'∧i∉rem'∧rem'.length+1=rem.length∧dstLt n o.dst∧(stepR χ ops i o S).pre∧
   ∀x,(stepR χ ops i o S).out x→vcD n ops χ fl K ((i,rdC χ i o S,wrC χ i o S) :: log) rem' (nextS o (stepR χ ops i o S) x S):=by
 obtain ⟨hnd,hmem,hpairs,hext⟩ :=h
 have ho:ops[i]? =some ops[i]:=Array.getElem?_eq_getElem hilt
 generalize ops[i]=o at ho
 have hin:i∈rem:=(hmem i).2 ⟨hilt,hun⟩
 obtain ⟨pre,post,rfl⟩ :=List.append_of_mem hin
 have hfree:∀k∈pre,(ms.getD i 0).testBit k=false:=fun k hk=>by
  have hkm:=(hmem k).1 (by simp[hk])
  exact hf k hkm.1 hkm.2
 have hpair:∀k∈pre,pairOK ops fl k i=true∧fl.contains (i,k)=false:=by
  have:∀(pre:List Nat),pairsOK ops fl ms (pre++i :: post)=true→(∀k∈pre,(ms.getD i 0).testBit k=false)→∀k∈pre,pairOK ops fl k i=true∧fl.contains (i,k)=false:=by
   intro pre
   induction pre with
   |nil=>intro _ _ k hk;cases hk
   |cons q pre ihp=>
    intro h hf k hk
    simp only[List.cons_append,pairsOK,Bool.and_eq_true] at h
    rcases List.mem_cons.1 hk with rfl|hk
    ·have:=List.all_eq_true.1 h.1 i (by simp)
     simp only[Bool.and_eq_true,Bool.not_eq_true',Bool.or_eq_true] at this
     exact ⟨this.2.resolve_left (by rw[hf k (by simp)];simp),this.1⟩
    ·exact ihp h.2 (fun k hk=>hf k (by simp[hk])) k hk
  exact this pre hpairs hfree
 have hb:=bubble hK hpair hv
 unfold vcD at hb
 simp only[ho] at hb
 obtain ⟨hd,hpre,_,hnext⟩ :=hb
 have hnd':(pre++post).Nodup∧i∉pre++post:=by
  have:(i :: (pre++post)).Nodup:=(List.Perm.nodup_iff List.perm_middle).1 hnd
  exact ⟨(List.nodup_cons.1 this).2,(List.nodup_cons.1 this).1⟩
 have hpairs':pairsOK ops fl ms (pre++post)=true:=by
  have:∀(pre:List Nat),pairsOK ops fl ms (pre++i :: post)=true→pairsOK ops fl ms (pre++post)=true:=by
   intro pre
   induction pre with
   |nil=>intro h;simp only[List.nil_append,pairsOK,Bool.and_eq_true] at h;exact h.2
   |cons q pre ihp=>
    intro h
    simp only[List.cons_append,pairsOK,Bool.and_eq_true] at h ⊢
    refine ⟨List.all_eq_true.2 fun x hx=>List.all_eq_true.1 h.1 x ?_,ihp h.2⟩
    simp only[List.mem_append,List.mem_cons] at hx ⊢
    exact hx.imp id .inr
  exact this pre hpairs
 refine ⟨pre++post,o,ho, ⟨hnd'.1,fun m=>?_,hpairs',(Ext.drop hext).mono fun m hm=>?_⟩,hnd'.2,by simp;omega,hd,hpre,hnext⟩
 ·have:=hmem m
  simp only[List.mem_append,List.mem_cons] at this ⊢
  constructor
  ·intro hm
   have hmi:m≠i:=fun e=>hnd'.2 (by subst e;simpa using hm)
   have h1:=this.1 (hm.imp id .inr)
   refine ⟨h1.1, ?_⟩
   rw[set_get hsz h1.1,if_neg (fun e=>hmi e.symm)]
   exact h1.2
  ·rintro ⟨h1,h2⟩
   rw[set_get hsz h1] at h2
   split at h2
   ·cases h2
   ·rename_i hne
    rcases this.2 ⟨h1,h2⟩ with h|h|h
    ·exact .inl h
    ·exact absurd h.symm hne
    ·exact .inr h
 ·rcases hm with hm|hm
  ·by_cases hlt:m < ops.size
   ·rw[set_get hsz hlt];split<;>first|rfl|exact hm
   ·rw[set_out hsz hlt] at hm;cases hm
  ·subst hm;rw[set_get hsz hilt,if_pos rfl]
def Closed (ops:Array Oper) (ms:List Nat) (listed:Array Bool):Prop:=∀m i,m < ops.size→listed.getD m false=true→(ms.getD m 0).testBit i=true→listed.getD i false=true
theorem ready_bits {ms:List Nat} {listed:Array Bool} {k:Nat} (hsz:listed.size=ops.size) (hms:masksOK ops ms=true) (hcl:Closed ops ms listed) (hk:k∈Region.ready .any ops listed):
  k < ops.size∧listed.getD k true=false∧∀q,(ms.getD k 0).testBit q=true→listed.getD q false=true:=by
 unfold Region.ready at hk
 rw[List.mem_filter] at hk
 obtain ⟨hir,hi⟩ :=hk
 have hilt:k < ops.size:=List.mem_range.1 hir
 have ho:ops[k]? =some ops[k]:=Array.getElem?_eq_getElem hilt
 generalize ops[k]=o at ho
 simp only[ho,Option.map_some,Option.getD_some,Bool.and_eq_true,Bool.not_eq_true',Array.all_eq_true',Bool.or_eq_true] at hi
 obtain ⟨hun,hdir⟩ :=hi
 refine ⟨hilt,hun,fun q hb=>?_⟩
 have hm:ms.getD k 0=maskOf ms o:=by
  have:=List.all_eq_true.1 hms k (List.mem_range.2 hilt)
  simpa [ho] using this
 rw[hm] at hb
 obtain ⟨e,he,hbi,hor⟩ :=maskOf_spec hb
 have hl:listed.getD e.on false=true:=(hdir e (by simpa using he)).resolve_left (by simp[hbi])
 rcases hor with rfl|hor
 ·exact hl
 ·have helt:e.on < ops.size:=by
   rcases Nat.lt_or_ge e.on ops.size with h|h
   ·exact h
   ·rw[set_out hsz (by omega)] at hl;cases hl
  exact hcl e.on q helt hl hor
theorem Closed.set {ms:List Nat} {listed:Array Bool} {k:Nat} (hsz:listed.size=ops.size) (hcl:Closed ops ms listed) (hb:∀q,(ms.getD k 0).testBit q=true→listed.getD q false=true):Closed ops ms (listed.setIfInBounds k true):=by
 intro m q hm hl hq
 have fin:listed.getD q false=true→(listed.setIfInBounds k true).getD q false=true:=fun h=>by
  by_cases hlt:q < ops.size
  ·rw[set_get hsz hlt];split<;>first|rfl|exact h
  ·rw[set_out hsz hlt] at h;cases h
 rw[set_get hsz hm] at hl
 by_cases e:k=m
 ·subst e;exact fin (hb q hq)
 ·rw[if_neg e] at hl;exact fin (hcl m q hm hl hq)
def msB (ms:List Nat) (i j:Nat):List Nat:=ms.set j (ms.getD j 0 |||(1 <<< i))
theorem msB_ne {ms:List Nat} {i j k:Nat} (h:k≠j):(msB ms i j).getD k 0=ms.getD k 0:=by
 unfold msB
 rw[List.getD_eq_getElem?_getD,List.getElem?_set_ne (Ne.symm h),List.getD_eq_getElem?_getD]
theorem msB_bit {ms:List Nat} {i j k q:Nat} (h:q≠i):((msB ms i j).getD k 0).testBit q=(ms.getD k 0).testBit q:=by
 by_cases hk:k=j
 ·subst hk
  unfold msB
  by_cases hl:k < ms.length
  ·rw[List.getD_eq_getElem?_getD,List.getElem?_set_self hl,Option.getD_some,Nat.testBit_or,Nat.one_shiftLeft,Nat.testBit_two_pow]
   simp[Ne.symm h]
  ·rw[List.set_eq_of_length_le (by omega)]
 ·rw[msB_ne hk]
theorem pairs_off {ms:List Nat} {i j:Nat}:∀{rem:List Nat},i∉rem→pairsOK ops fl (msB ms i j) rem=true→pairsOK ops fl ms rem=true
 | [],_,_=>rfl
 |q :: rem,hi,h=>by
  simp only[pairsOK,Bool.and_eq_true] at h ⊢
  refine ⟨List.all_eq_true.2 fun x hx=>?_,pairs_off (fun e=>hi (by simp[e])) h.2⟩
  have:=List.all_eq_true.1 h.1 x hx
  rw[msB_bit (fun e=>hi (by simp[e]))] at this
  exact this
theorem notB {listed:Array Bool} {q:Nat} (hsz:listed.size=ops.size) (hq:q < ops.size) (h:listed.getD q true=false):listed.getD q false=false:=by
 have hq':q < listed.size:=by omega
 simp[Array.getD_eq_getD_getElem?,Array.getElem?_eq_getElem hq'] at h ⊢
 exact h
theorem drawn_aux2 {E:Env} {Q:Exit→Act→World→Prop} {χ:Chi E.P E.G} {ms:List Nat} {i j:Nat} (hij:i≠j) (hK:∀S S',eqS S S'→K S→K S') (hQ:∀S M a w,Sat E S M a w→K S→Q .normal a w) (hms:masksOK ops ms=true):
  ∀(fuel:Nat) (listed:Array Bool) (rem1 rem2:List Nat) (S:St) (log1 log2:Log) (M:Mem) (a:Act) (w:World),listed.size=ops.size→rem1.length=fuel→rem2.length=fuel→i < ops.size→listed.getD i true=false→listed.getD j true=false→
   Rem ops fl1 (msB ms i j) listed rem1→Rem ops fl2 (msB ms j i) listed rem2→Closed ops ms listed→Sat E S M a w→vcD E.n ops χ fl1 K log1 rem1 S→vcD E.n ops χ fl2 K log2 rem2 S→wpAny E.P .any ops Q fuel listed a w:=by
 intro fuel
 induction fuel with
 |zero=>
  intro listed rem1 rem2 S log1 log2 M a w hsz hl1 hl2 hi hui huj h1 h2 hcl hS v1 v2
  have:rem1=[]:=List.eq_nil_of_length_eq_zero hl1
  subst this
  exact absurd ((h1.mem i).2 ⟨hi,hui⟩) (by simp)
 |succ fuel ih=>
  intro listed rem1 rem2 S log1 log2 M a w hsz hl1 hl2 hi hui huj h1 h2 hcl hS v1 v2
  refine ⟨fun hr=>?_,fun k hk=>?_⟩
  ·exfalso
   cases rem1 with
   |nil=>simp at hl1
   |cons q rest=>
    obtain ⟨⟨o,ho,h3⟩,_⟩ :=h1.ext
    have hj:=(h1.mem q).1 (by simp)
    have:q∈Region.ready .any ops listed:=by
     unfold Region.ready
     rw[List.mem_filter]
     refine ⟨List.mem_range.2 hj.1, ?_⟩
     simp only[hj.2,Bool.not_false,ho,Option.map_some,Option.getD_some,Bool.true_and,Array.all_eq_true',Bool.or_eq_true,Bool.not_eq_true']
     intro e he
     cases hb:Region.binds .any e with
     |false=>exact .inl rfl
     |true=>exact .inr (h3 e (by simpa using he) hb)
    rw[hr] at this
    cases this
  ·obtain ⟨hklt,hku,hbits⟩ :=ready_bits hsz hms hcl hk
   have hcl':=hcl.set hsz hbits
   have hsz':(listed.setIfInBounds k true).size=ops.size:=by simp[hsz]
   have hfree:∀q,q < ops.size→listed.getD q true=false→(ms.getD k 0).testBit q=false:=by
    intro q hq hqu
    cases hb:(ms.getD k 0).testBit q with
    |false=>rfl
    |true=>have:=hbits q hb;rw[notB hsz hq hqu] at this;cases this
   have fin:∀o,ops[k]? =some o→dstLt E.n o.dst→(stepR χ ops k o S).pre→(∀x,(stepR χ ops k o S).out x→∀M' a' w',Sat E (nextS o (stepR χ ops k o S) x S) M' a' w'→wpAny E.P .any ops Q fuel (listed.setIfInBounds k true) a' w')→
     wpOp E.P ops Q k (wpAny E.P .any ops Q fuel (listed.setIfInBounds k true)) a w:=by
    intro o ho hd hpre hnext
    have kk:=opR_ok hS _ _ o hpre (wpAny E.P .any ops Q fuel (listed.setIfInBounds k true)) Q fun x hx M' w' v hv hSat=>hnext x hx M' _ w' (hSat.bind hd hv)
    unfold wpOp
    simp only[ho]
    split
    ·rename_i hw;rw[if_pos hw] at kk;exact .inl kk
    ·rename_i hw;rw[if_neg hw] at kk;exact kk
   by_cases ei:k=i
   ·subst ei
    obtain ⟨rem',o,ho,hr,hn,hlen,hd,hpre,hnext⟩ :=h1.step hK hsz hklt hku (fun q hq hqu=>by rw[msB_ne hij];exact hfree q hq hqu) v1
    refine fin o ho hd hpre fun x hx M' a' w' hSat=>?_
    exact drawn_aux hK hQ hms fuel _ rem' _ _ M' a' w' hsz' (by omega) hr.nd hr.mem (pairs_off hn hr.pairs) hr.ext hcl' hSat (hnext x hx)
   ·by_cases ej:k=j
    ·subst ej
     obtain ⟨rem',o,ho,hr,hn,hlen,hd,hpre,hnext⟩ :=h2.step hK hsz hklt hku (fun q hq hqu=>by rw[msB_ne (Ne.symm hij)];exact hfree q hq hqu) v2
     refine fin o ho hd hpre fun x hx M' a' w' hSat=>?_
     exact drawn_aux hK hQ hms fuel _ rem' _ _ M' a' w' hsz' (by omega) hr.nd hr.mem (pairs_off hn hr.pairs) hr.ext hcl' hSat (hnext x hx)
    ·obtain ⟨r1,o,ho,hr1,hn1,hlen1,hd,hpre,hnext1⟩ :=h1.step hK hsz hklt hku (fun q hq hqu=>by rw[msB_ne ej];exact hfree q hq hqu) v1
     obtain ⟨r2,o',ho',hr2,hn2,hlen2,hd',hpre',hnext2⟩ :=h2.step hK hsz hklt hku (fun q hq hqu=>by rw[msB_ne ei];exact hfree q hq hqu) v2
     rw[ho] at ho'
     cases ho'
     refine fin o ho hd hpre fun x hx M' a' w' hSat=>?_
     have jlt:j < ops.size:=by
      have hq:(listed.getD j true=false):=huj
      rcases Nat.lt_or_ge j ops.size with h|h
      ·exact h
      ·simp[Array.getD_eq_getD_getElem?,Array.getElem?_eq_none (show listed.size≤j by omega)] at hq
     exact ih _ r1 r2 _ _ _ M' a' w' hsz' (by omega) (by omega) hi (by rw[set_get hsz hi,if_neg ei];exact hui) (by rw[set_get hsz jlt,if_neg ej];exact huj) hr1 hr2 hcl' hSat (hnext1 x hx) (hnext2 x hx)
def okE (ops:Array Oper) (p1 p2:List Nat) (fl1 fl2:List (Nat×Nat)) (ms:List Nat) (i j:Nat):Bool:=
 decide (p1.length=ops.size) && decide p1.Nodup && (p1.all fun j=>decide (j < ops.size)) && decide (p2.length=ops.size) && decide p2.Nodup && (p2.all fun j=>decide (j < ops.size)) && masksOK ops ms &&
 pairsOK ops fl1 (msB ms i j) p1 && pairsOK ops fl2 (msB ms j i) p2 && extOK ops [] p1 && extOK ops [] p2 && decide (i < ops.size) && decide (j < ops.size) && decide (i≠j)
theorem perm_mem {perm:List Nat} (h1:perm.length=ops.size) (h2:perm.Nodup) (hlt:∀i∈perm,i < ops.size) (i:Nat):i∈perm↔i < ops.size∧(Array.replicate ops.size false).getD i true=false:=by
 constructor
 ·intro hi
  have:=hlt i hi
  exact ⟨this,by simp[Array.getD_eq_getD_getElem?,this]⟩
 ·rintro ⟨hi,_⟩
  have hsub:∀x∈List.range ops.size,x∈perm:=by
   intro x hx
   exact Classical.byContradiction fun hno=>by
    have hs:perm ⊆ (List.range ops.size).erase x:=fun y hy=>by
     have hyx:y≠x:=fun e=>hno (e▸hy)
     exact (List.mem_erase_of_ne hyx).2 (List.mem_range.2 (hlt y hy))
    have hl:=List.Nodup.length_le_of_subset h2 hs
    rw[List.length_erase_of_mem hx] at hl
    simp at hl
    have:0 < ops.size:=by have:=List.mem_range.1 hx;omega
    omega
  exact hsub i (List.mem_range.2 hi)
theorem vcD_mono {K':St→Prop} (hk:∀S,K S→K' S):∀{l:List Nat} {log:Log} {S:St},vcD n ops χ fl K log l S→vcD n ops χ fl K' log l S:=by
 intro l
 induction l with
 |nil=>intro log S h;exact hk S h
 |cons j rest ih=>
  intro log S h
  unfold vcD at h ⊢
  split at h
  ·exact h.elim
  ·obtain ⟨k1,k2,k3,k4⟩ :=h
   exact ⟨k1,k2,k3,fun x hx=>ih (k4 x hx)⟩
theorem drawn2_sound {E:Env} {S:St} {M:Mem} {a:Act} {w:World} {Q:Exit→Act→World→Prop} {χ:Chi E.P E.G} {p1 p2 ms:List Nat} {i j:Nat} (hok:okE ops p1 p2 fl1 fl2 ms i j=true) (hQ:∀S M a w,Sat E S M a w→K S→Q .normal a w)
  (hS:Sat E S M a w) (h1:vcD E.n ops χ fl1 K [] p1 S) (h2:vcD E.n ops χ fl2 K [] p2 S):wpAny E.P .any ops Q ops.size (Array.replicate ops.size false) a w:=by
 simp only[okE,Bool.and_eq_true,decide_eq_true_eq] at hok
 obtain ⟨⟨⟨⟨⟨⟨⟨⟨⟨⟨⟨⟨⟨a1,a2⟩,a3⟩,b1⟩,b2⟩,b3⟩,hms⟩,c1⟩,c2⟩,d1⟩,d2⟩,hi⟩,hj⟩,hij⟩ :=hok
 have l1:∀i∈p1,i < ops.size:=fun i hi=>by simpa using List.all_eq_true.1 a3 i hi
 have l2:∀i∈p2,i < ops.size:=fun i hi=>by simpa using List.all_eq_true.1 b3 i hi
 have hm:=fun S (hk:K S)=>show∃S0,eqS S0 S∧K S0 from ⟨S,eqS.refl S,hk⟩
 refine drawn_aux2 (K:=fun S=>∃S0,eqS S0 S∧K S0) (ms:=ms) hij (fun S S' he ⟨S0,h0,hk⟩ => ⟨S0,h0.trans he,hk⟩) (fun S M a w hS ⟨S0,h0,hk⟩ =>hQ S0 M a w (hS.sub (fun t=>.inr (h0.1 t)) fun k=>.inr (h0.2 k)) hk) hms ops.size _ p1 p2 S [] [] M a w (by simp) a1 b1 hi
  (by simp[Array.getD_eq_getD_getElem?,hi]) (by simp[Array.getD_eq_getD_getElem?,hj])
  ⟨a2,perm_mem a1 a2 l1,c1,(extOK_spec d1).mono fun m hm=>by cases hm⟩ ⟨b2,perm_mem b1 b2 l2,c2,(extOK_spec d2).mono fun m hm=>by cases hm⟩ (fun m q hm hl=>?_) hS (vcD_mono hm h1) (vcD_mono hm h2)
 simp[Array.getD_eq_getD_getElem?,hm] at hl
end
theorem hRegionE {C:Ctx} {Q:Post} {S:St} {id:Nat} {l:List Oper} (χ:Chi C.P C.G) (p1 p2 ms:List Nat) (fl1 fl2:List (Nat×Nat)) (i j:Nat) (hm:C.P.follows .mixedOrders=true) (hok:okE l.toArray p1 p2 fl1 fl2 ms i j=true)
  (h1:vcD C.n l.toArray χ fl1 (Q .normal) [] p1 S) (h2:vcD C.n l.toArray χ fl2 (Q .normal) [] p2 S):Hoare C (.region id l.toArray true) Q S:=by
 intro w0 M0 M a w hS
 exact wp_region_any hm (drawn2_sound (E:={ C with w0:=w0,M0:=M0 }) (K:=Q .normal) hok (fun S M a w hS hK=> ⟨M,S,hS,hK⟩) hS.drew h1 h2)
theorem hPostE {C:Ctx} {Q:Post} {K:St→Prop} {S:St} {c:Code} (h:Hoare C c (thn (fun S'=>∃S'',Ent C S' S''∧K S'') Q) S):Hoare C c (thn K Q) S:=fun w0 M0 M a w hS=>
 wp_mono (h w0 M0 M a w hS) fun e a' w' ⟨M',S',hS',hq⟩ =>by
  cases e with
  |normal=>
   obtain ⟨S'',he,hk⟩ :=hq
   obtain ⟨M'',h''⟩ :=he w0 M0 M' a' w' hS'
   exact ⟨M'',S'',h'',hk⟩
  |_=>exact ⟨M',S',hS',hq⟩
end Go.AM
