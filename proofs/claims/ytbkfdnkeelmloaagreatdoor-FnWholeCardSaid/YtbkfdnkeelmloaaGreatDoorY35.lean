/- Part 35 of the proof: P7 P8. -/
import Derived.Test.YtbkfdnkeelmloaaGreatDoorZ20
import Derived.Test.YtbkfdnkeelmloaaGreatDoorY29
import Derived.Test.YtbkfdnkeelmloaaGreatDoorY34
set_option linter.unusedVariables false
set_option linter.unusedSimpArgs false
namespace Go.Proofs.YtbkfdnkeelmloaaGreatDoor
set_option maxHeartbeats 4000000
set_option maxRecDepth 10000
open Go.AM Go
structure TabIn (t:TableD):Prop where
 tab:isTable t=true
 dirs:t.dirs=[]
 op:∀o∈t.ops,(0≤o.n∧o.n < 18446744073709551616)∧(-9223372036854775808≤o.m∧o.m≤9223372036854775807)∧0≤o.file.mtime∧o.file.mtime < 18446744073709551616
 file:∀f∈t.files,0≤f.mtime∧f.mtime < 18446744073709551616
theorem file_rd {t:TableD} {f:FileD} (hd:t.dirs=[]) (h:isFile t f=true) (hm:0≤f.mtime∧f.mtime < 18446744073709551616):FileRd f∧FileOK f:=by
 unfold isFile at h
 split at h
 ·cases h
 rename_i hb
 simp only[not_or] at hb
 rw[hd,if_pos (show ([]:List Bytes).length=0 from rfl)] at h
 simp only[Bool.and_eq_true,decide_eq_true_eq,beq_iff_eq] at h
 obtain ⟨⟨⟨h1,h2⟩,h3⟩,h4⟩ :=h
 obtain ⟨n,d,mt,ln⟩ :=f
 simp only at *
 cases n with
 |nil=>simp at h2
 |cons x r=>
  have hx:x=47:=by
   simp only[List.getD_cons_zero] at h3
   exact UInt8.toNat_inj.1 (by show x.toNat=47;omega)
  subst hx
  exact ⟨⟨⟨r,rfl⟩,by show (47 :: r).length≤4096;omega,h4,hm,by show 0≤ln∧ln≤2147483648;omega⟩, ⟨by show (47 :: r).length≤4096;omega,h1,hm,by show 0≤ln∧ln≤2147483648;omega⟩⟩
theorem TabIn.ok {t:TableD} (h:TabIn t):TableOK t∧LineRd t∧∀o∈t.ops,OpOK t o∧isOp t o=true∧(o.kind= -3→FileRd o.file):=by
 obtain ⟨⟨b1,b2,b3⟩,_,_,_,hf,ho,_⟩ :=isTable_all h.tab
 unfold bad1 at b1
 unfold bad2 at b2
 unfold bad3 at b3
 have hop:∀o∈t.ops,OpOK t o∧isOp t o=true∧(o.kind= -3→FileRd o.file):=fun o hm=>by
  have h1:=List.all_eq_true.1 ho o hm
  obtain ⟨h2,h3,h4⟩ :=h.op o hm
  have hfile:o.kind= -3→FileRd o.file∧FileOK o.file:=fun e=>by
   have h1:=h1
   rw[isOp,if_neg (by omega),if_neg (by omega),if_neg (by omega),if_neg (by omega),if_neg (by omega),if_neg (by omega),if_pos e,Bool.and_eq_true] at h1
   exact file_rd h.dirs h1.2 h4
  refine ⟨⟨h2,h3,fun hk=>?_,fun e=>(hfile e).2,fun hk=>?_⟩,h1,fun e=>(hfile e).1⟩
  ·unfold isOp at h1
   repeat' split at h1
   all_goals simp only[Bool.and_eq_true,decide_eq_true_eq] at h1
   all_goals omega
  ·rw[isOp,if_neg (by omega),if_neg (by omega),if_neg (by omega),if_neg (by omega),if_neg (by omega),if_neg (by omega),if_neg (by omega),if_neg (by omega)] at h1
   simp only[Bool.and_eq_true,decide_eq_true_eq] at h1
   omega
 have hfl:∀f∈t.files,FileRd f∧FileOK f:=fun f hm=>file_rd h.dirs (List.all_eq_true.1 hf f hm) (h.file f hm)
 have hT:TableOK t:= ⟨by omega,by omega,by omega,by omega,by omega,h.dirs,by omega,fun f hm=>(hfl f hm).2,by omega,fun o hm=>(hop o hm).1⟩
 exact ⟨hT, ⟨hT,by omega,by omega,by omega,by omega,fun f hm=>(hfl f hm).1⟩,hop⟩
structure MachGood (m:MachD):Prop where
 line:0≤m.row.line∧m.row.line≤2147483648
 file:0≤m.file∧m.file≤2147483648
 ends:m.row.ends=false
def specRow (t:TableD) (m:MachD) (o:OpD):RowD:=
 if o.kind= -1 then ⟨m.row.address,0,noFile,0,0,false,false,false,false,0,0,true⟩ else { (toldM t m o).row with file:=(fileAt t m.files (numM t m.file)).1 }
theorem step_bad {t:TableD} {m:MachD} {o:OpD} (h:(stepM t m o).bad=false):(stepA t m o).bad=false∧0≤(stepA t m o).row.line∧(stepA t m o).row.line≤2147483648:=by
 simp only[stepM,Bool.or_eq_false_iff,decide_eq_false_iff_not] at h
 exact ⟨h.1.1.1,by omega,by omega⟩
theorem standM_rows (t:TableD) (m:MachD) (o:OpD) (h:o.kind≠1):(standM t m o).rows=m.rows:=by
 simp only[standM,advM,apply_ite MachD.rows,ite_self,if_neg h]
theorem standM_row (t:TableD) (m:MachD) (o:OpD):(standM t m o).row.ends=m.row.ends:=by
 simp only[standM,advM,emitM,apply_ite MachD.row,apply_ite RowD.ends,ite_self]
theorem standM_file (t:TableD) (m:MachD) (o:OpD):(standM t m o).file=if o.kind=4 then IntKind.i64.wrap (o.n.tmod 2147483649) else m.file:=by
 simp only[standM,advM,emitM,apply_ite MachD.file,ite_self]
 by_cases h:o.kind=4
 ·rw[if_neg (by omega),if_neg (by omega),if_neg (by omega),if_pos h]
 ·simp only[if_neg h,ite_self]
theorem standM_bad (t:TableD) (m:MachD) (o:OpD):(standM t m o).bad=if o.kind=1 then (m.bad || (o.kind == 9 && m.row.opIndex != 0)) || !(fileAt t m.files (numM t m.file)).2 else m.bad || (o.kind == 9 && m.row.opIndex != 0):=by
 simp only[standM,advM,emitM,apply_ite MachD.bad,ite_self]
theorem stepA_rows (t:TableD) (m:MachD) (o:OpD):(stepA t m o).rows=m.rows++(if emits o then [specRow t m o] else []):=by
 unfold stepA
 by_cases h0:o.kind=0
 ·rw[if_pos h0];simp[emits,h0,specRow,toldM,emitM,lineM,advM]
 rw[if_neg h0]
 by_cases h1:o.kind=1
 ·rw[if_pos (by omega)];simp[emits,h1,specRow,toldM,standM,emitM]
 by_cases h2:o.kind= -1
 ·rw[if_neg (by omega),if_pos h2];simp[emits,h2,specRow,resetM,endM]
 have he:emits o=false:=by simp[emits];omega
 have e0:(if emits o=true then [specRow t m o] else [])=[]:=by rw[he];rfl
 rw[e0,List.append_nil]
 by_cases h3:0 < o.kind
 ·rw[if_pos h3,standM_rows t m o h1]
 ·rw[if_neg h3,if_neg h2]
  simp only[apply_ite MachD.rows,ite_self]
theorem stepA_keep (t:TableD) (m:MachD) (o:OpD) (hn:0≤o.n∧o.n < 18446744073709551616) (he:m.row.ends=false) (hf:0≤m.file∧m.file≤2147483648):(stepA t m o).row.ends=false∧0≤(stepA t m o).file∧(stepA t m o).file≤2147483648:=by
 have hw:0≤IntKind.i64.wrap (o.n.tmod 2147483649)∧IntKind.i64.wrap (o.n.tmod 2147483649)≤2147483648:=by
  have h1:=Int.tmod_nonneg 2147483649 hn.1
  have h2:=Int.tmod_lt_of_pos o.n (b:=2147483649) (by decide)
  rw[wrap_i64 (by omega) (by omega)];omega
 unfold stepA
 by_cases h0:o.kind=0
 ·rw[if_pos h0];exact ⟨he,hf⟩
 rw[if_neg h0]
 by_cases h3:0 < o.kind
 ·rw[if_pos h3,standM_row,standM_file]
  refine ⟨he, ?_⟩
  split
  ·exact hw
  ·exact hf
 rw[if_neg h3]
 by_cases h2:o.kind= -1
 ·rw[if_pos h2];exact ⟨rfl,by show 0≤(1:Int)∧(1:Int)≤2147483648;decide⟩
 rw[if_neg h2]
 simp only[apply_ite MachD.row,apply_ite MachD.file,apply_ite RowD.ends,ite_self]
 exact ⟨he,hf⟩
theorem stepA_bad {t:TableD} {m:MachD} {o:OpD} (h:(stepA t m o).bad=false):m.bad=false∧(o.kind=0∨o.kind=1→(fileAt t m.files (numM t m.file)).2=true):=by
 unfold stepA at h
 by_cases h0:o.kind=0
 ·rw[if_pos h0] at h
  simp only[emitM,lineM,advM,Bool.or_eq_false_iff,Bool.not_eq_false'] at h
  exact ⟨h.1,fun _=>h.2⟩
 rw[if_neg h0] at h
 by_cases h3:0 < o.kind
 ·rw[if_pos h3,standM_bad] at h
  by_cases h1:o.kind=1
  ·rw[if_pos h1] at h
   simp only[Bool.or_eq_false_iff,Bool.not_eq_false'] at h
   exact ⟨h.1.1,fun _=>h.2⟩
  ·rw[if_neg h1,Bool.or_eq_false_iff] at h
   exact ⟨h.1,fun e=>absurd e (by omega)⟩
 rw[if_neg h3] at h
 refine ⟨?_,fun e=>absurd e (by omega)⟩
 by_cases h2:o.kind= -1
 ·rw[if_pos h2] at h;exact h
 rw[if_neg h2] at h
 by_cases h4:o.kind= -2
 ·rw[if_pos h4] at h;simp only[Bool.or_eq_false_iff] at h;exact h.1
 rw[if_neg h4] at h
 simp only[apply_ite MachD.bad,ite_self] at h
 exact h
theorem good_step {t:TableD} {m:MachD} {o:OpD} (hg:MachGood m) (hn:0≤o.n∧o.n < 18446744073709551616) (h:(stepM t m o).bad=false):MachGood (stepM t m o):=by
 obtain ⟨_,h2,h3⟩ :=step_bad h
 have hk:=stepA_keep t m o hn hg.ends hg.file
 exact ⟨⟨h2,h3⟩,hk.2,hk.1⟩
def RowSame (r x:RowD):Prop:=r.ends=x.ends∧r.address=x.address∧(r.ends=false→r=x)
theorem file_same {c:LCtx} {m:MachD} (hd:c.t.dirs=[]) (hf:0≤m.file) (hm:m.file < 4294967296) (h:(fileAt c.t m.files (numM c.t m.file)).2=true):fileRo (fpM c m)=(fileAt c.t m.files (numM c.t m.file)).1:=by
 have hname:∀f,nameOf c.t f=f.name:=fun f=>by rw[nameOf,hd,if_pos (.inl rfl)]
 unfold fpM selF filesT numM at *
 by_cases hv:c.t.version < 5
 ·rw[if_pos hv] at h
  rw[if_pos hv,if_pos hv]
  rw[wrap_i64 (by omega) (by omega)] at h ⊢
  by_cases h0:m.file=0
  ·rw[h0];rfl
  ·obtain ⟨k,hk⟩ :∃k:Nat,m.file=k+1:= ⟨(m.file - 1).toNat,by omega⟩
   rw[hk] at h ⊢
   have e1:((k:Int)+1 - 1)=k:=by omega
   have e2:((k:Int)+1).toNat=k+1:=by omega
   rw[e1] at h ⊢
   rw[e2,List.getElem?_cons_succ,List.getElem?_map]
   unfold fileAt at h ⊢
   rw[if_neg (by omega),if_neg (by omega)] at h ⊢
   rw[Int.toNat_natCast] at h ⊢
   cases hx:m.files[k]? with
   |none=>rw[hx] at h;cases h
   |some f=>simp[fileRo,hname]
 ·rw[if_neg hv] at h
  rw[if_neg hv,if_neg hv,List.getElem?_map]
  unfold fileAt at h ⊢
  rw[if_neg (by omega),if_neg (by omega)] at h ⊢
  cases hx:m.files[m.file.toNat]? with
  |none=>rw[hx] at h;cases h
  |some f=>simp[fileRo,hname]
theorem row_same {c:LCtx} {m:MachD} {o:OpD} (hd:c.t.dirs=[]) (hg:MachGood m) (he:emits o=true) (h:(stepM c.t m o).bad=false):RowSame (specRow c.t m o) (rowL (toldM c.t m o) (fpM c m) (o.kind == -1)):=by
 obtain ⟨h1,_⟩ :=step_bad h
 have hb:=(stepA_bad h1).2
 by_cases h2:o.kind= -1
 ·have ht:toldM c.t m o=m:=by rw[toldM,if_neg (by omega)]
  refine ⟨?_, ?_,fun e=>?_⟩
  ·simp[specRow,rowL,h2]
  ·simp[specRow,rowL,h2,ht]
  ·simp[specRow,h2] at e
 ·have h3:o.kind=0∨o.kind=1:=by
   simp only[emits,Bool.or_eq_true,beq_iff_eq] at he
   omega
  have hfs:=file_same hd hg.file.1 (by have:=hg.file;omega) (hb h3)
  have hke:(o.kind == -1)=false:=by rw[beq_eq_false_iff_ne];exact h2
  have hends:(toldM c.t m o).row.ends=false:=by
   unfold toldM
   split
   ·exact hg.ends
   ·exact hg.ends
  have e:specRow c.t m o=rowL (toldM c.t m o) (fpM c m) (o.kind == -1):=by
   unfold specRow rowL
   rw[if_neg h2,hke,hfs,←hends]
  rw[e]
  exact ⟨rfl,rfl,fun _=>rfl⟩
theorem foldl_bad {t:TableD}:∀{l:List OpD} {m:MachD},(l.foldl (stepM t) m).bad=false→m.bad=false
 | [],_,h=>h
 |o :: l,m,h=>(stepA_bad (step_bad (foldl_bad (l:=l) h)).1).1
theorem rows_same {c:LCtx} (hd:c.t.dirs=[]) (l:List OpD):∀{m:MachD},MachGood m→(∀o∈l,0≤o.n∧o.n < 18446744073709551616)→(l.foldl (stepM c.t) m).bad=false→
  ∃L,(l.foldl (stepM c.t) m).rows=m.rows++L∧L.length=(rowsL c m l).length∧∀(i:Nat) (r x:RowD),L[i]? =some r→(rowsL c m l)[i]? =some x→RowSame r x:=by
 induction l with
 |nil=>intro m hg hn h;exact ⟨[],by simp,rfl,fun i r x h=>by simp at h⟩
 |cons o l ih=>
  intro m hg hn h
  rw[List.foldl_cons] at h ⊢
  have hb:=foldl_bad h
  have hg':=good_step hg (hn o (List.mem_cons_self ..)) hb
  obtain ⟨L,h1,h2,h3⟩ :=ih hg' (fun o ho=>hn o (List.mem_cons_of_mem _ ho)) h
  have hr:(stepM c.t m o).rows=m.rows++(if emits o then [specRow c.t m o] else []):=stepA_rows c.t m o
  rw[hr] at h1
  rw[rowsL_cons]
  by_cases he:emits o=true
  ·rw[if_pos he] at h1 ⊢
   refine ⟨specRow c.t m o :: L,by rw[h1];simp,by simp[h2],fun i r x hr hx=>?_⟩
   cases i with
   |zero=>
    simp only[List.getElem?_cons_zero,Option.some.injEq] at hr hx
    subst hr
    subst hx
    exact row_same hd hg he hb
   |succ i=>
    rw[List.getElem?_cons_succ] at hr hx
    exact h3 i r x hr hx
  ·rw[if_neg he] at h1 ⊢
   exact ⟨L,by rw[h1];simp,h2,h3⟩
theorem all_rd {c:LCtx} (hc:c.lens=lensOf c.t) (hT:TabIn c.t) (l:List OpD):∀{m:MachD},MachGood m→(∀o∈l,o∈c.t.ops)→m.files.length+l.length≤900000→(l.foldl (stepM c.t) m).bad=false→AllRd c m l:=by
 induction l with
 |nil=>intro m _ _ _ _;trivial
 |cons o l ih=>
  intro m hg hm hf h
  rw[List.foldl_cons] at h
  have ho:=hm o (List.mem_cons_self ..)
  obtain ⟨_,hrd,hop⟩ :=hT.ok
  obtain ⟨h1,h2,h3⟩ :=hop o ho
  have hb:=foldl_bad h
  have hs:=stepM_in c.t m o
  rw[List.length_cons] at hf
  refine ⟨⟨hrd,h1,h2,hc,hg.line,by omega,hg.file.1⟩,h3,ih (good_step hg (hT.op o ho).1 hb) (fun o ho=>hm o (List.mem_cons_of_mem _ ho)) ?_ h⟩
  rcases hs.2.2 with e| ⟨_,e⟩
  ·rw[e];omega
  ·rw[e,List.length_append,List.length_singleton];omega
theorem good0 (t:TableD):MachGood (m0 t):= ⟨by show 0≤(1:Int)∧(1:Int)≤2147483648;decide,by show 0≤(1:Int)∧(1:Int)≤2147483648;decide,rfl⟩
set_option maxHeartbeats 4000000
set_option maxRecDepth 10000
open Go.AM Go
theorem flat_rel {α β:Type} {R:α→β→Prop} {A:Nat→List α} {B:Nat→List β}:∀n,(∀i,i < n→(A i).length=(B i).length∧∀(k:Nat) (a:α) (b:β),(A i)[k]? =some a→(B i)[k]? =some b→R a b)→
  ((List.range n).flatMap A).length=((List.range n).flatMap B).length∧∀(k:Nat) (a:α) (b:β),((List.range n).flatMap A)[k]? =some a→((List.range n).flatMap B)[k]? =some b→R a b
 |0,_=> ⟨rfl,fun k a b h=>by simp at h⟩
 |n+1,h=>by
  obtain ⟨h1,h2⟩ :=flat_rel n fun i hi=>h i (by omega)
  obtain ⟨h3,h4⟩ :=h n (by omega)
  rw[List.range_succ,List.flatMap_append,List.flatMap_append]
  simp only[List.flatMap_cons,List.flatMap_nil,List.append_nil]
  refine ⟨by simp only[List.length_append];omega,fun k a b ha hb=>?_⟩
  by_cases hk:k < ((List.range n).flatMap A).length
  ·rw[List.getElem?_append_left hk] at ha
   rw[List.getElem?_append_left (by omega)] at hb
   exact h2 k a b ha hb
  ·rw[List.getElem?_append_right (by omega)] at ha hb
   rw[←h1] at hb
   exact h4 _ a b ha hb
theorem flatR_len {α:Type} {A:Nat→List α} {w:Nat}:∀n,(∀i,i < n→(A i).length≤w)→((List.range n).flatMap A).length≤n * w
 |0,_=>by simp
 |n+1,h=>by
  have ih:=flatR_len n fun i hi=>h i (by omega)
  have:=h n (by omega)
  rw[List.range_succ,List.flatMap_append,List.length_append,Nat.succ_mul]
  simp only[List.flatMap_cons,List.flatMap_nil,List.append_nil]
  omega
section
variable {l:LayoutD} {spans:List SpanD} {units:List UnitD} {first:List (List AttrD)} {tx:Bytes}
def fdN (l:LayoutD) (spans:List SpanD) (units:List UnitD) (first:List (List AttrD)) (tx:Bytes) (i:Nat):FoundE:=foundOf (newUnit l spans units first i) l.big (spN l spans units first tx i).s (spN l spans units first tx i).t
theorem found_eq:∀n,(spN l spans units first tx n).found=(List.range n).map (fdN l spans units first tx)
 |0=>rfl
 |n+1=>by rw[List.range_succ,List.map_append,←found_eq n];rfl
theorem fd_ents (i:Nat):(fdN l spans units first tx i).entries=(List.range (newUnit l spans units first i).nodes.length).map fun k=>entryOf (newUnit l spans units first i) (spN l spans units first tx i).s.info.length (placesOf (newUnit l spans units first i) l.big (spN l spans units first tx i).s (spN l spans units first tx i).t) k (nodeAt (newUnit l spans units first i) k):=fin_ents _
def wantE (l:LayoutD) (spans:List SpanD) (units:List UnitD) (first:List (List AttrD)) (tx:Bytes) (n:Nat):List EntryE:=(List.range n).flatMap fun i=>(fdN l spans units first tx i).entries
def heardE (l:LayoutD) (spans:List SpanD) (units:List UnitD) (first:List (List AttrD)) (tx:Bytes):List EntryE:=allEs l.big ((List.range units.length).map (rdN l spans units first tx)) (nsN l spans units first tx) units.length
theorem heard_ok (hP:PackOK l spans units first tx):(heardE l spans units first tx).length=(wantE l spans units first tx units.length).length∧(wantE l spans units first tx units.length).length≤20000∧
  ∀(k:Nat) (a c:EntryE),(heardE l spans units first tx)[k]? =some a→(wantE l spans units first tx units.length)[k]? =some c→SameE a c∧a.fields.length≤1000000:=by
 have key:=flat_rel (R:=fun a c=>SameE a c∧a.fields.length≤1000000) (A:=fun i=>unitEs l.big (uAt ((List.range units.length).map (rdN l spans units first tx)) i) (nsN l spans units first tx i) (nsN l spans units first tx i).length) (B:=fun i=>(fdN l spans units first tx i).entries) units.length fun i hi=>by
  have hW:=hP.w i hi
  have hb:=pk_len hP (Nat.le_of_lt hi)
  have hnl:(nsN l spans units first tx i).length=(newUnit l spans units first i).nodes.length:=nodesOf_len
  rw[fd_ents,uAt_rd hi]
  refine ⟨by rw[unitEs_len,hnl];simp,fun k a c ha hc=>?_⟩
  rw[List.getElem?_map] at hc
  unfold unitEs at ha
  rw[hnl,List.getElem?_map] at ha
  cases hk:(List.range (newUnit l spans units first i).nodes.length)[k]? with
  |none=>rw[hk] at ha;cases ha
  |some j=>
   obtain ⟨hkl,hj⟩ :=List.getElem?_eq_some_iff.1 hk
   rw[List.getElem_range] at hj
   subst hj
   rw[List.length_range] at hkl
   rw[hk] at ha hc
   simp only[Option.map_some,Option.some.injEq] at ha hc
   subst ha
   subst hc
   refine ⟨ent_same hW (by omega) hkl, ?_⟩
   have hd:=ent_dent (bg:=l.big) (s:=(spN l spans units first tx i).s) (t:=(spN l spans units first tx i).t) hW (by omega) hkl
   have:=hd.len
   simp only[entE,List.length_map]
   exact Nat.le_trans this (by decide)
 refine ⟨key.1, ?_,key.2⟩
 have h4:=hP.n
 have:=flatR_len (A:=fun i=>(fdN l spans units first tx i).entries) (w:=5000) units.length fun i hi=>by
  have:=(hP.w i hi).ok.len
  rw[fd_ents];simpa using this
 have h5:units.length * 5000≤4 * 5000:=Nat.mul_le_mul_right _ h4.2
 exact Nat.le_trans this h5
theorem fd_first (hP:PackOK l spans units first tx) {i:Nat} (hi:i < units.length):∃e r,(fdN l spans units first tx i).entries=e :: r∧e.offset=((rdN l spans units first tx i).off:Int):=by
 have hW:=hP.w i hi
 have hne:=hW.ne
 have hp:=pos0_eq (bg:=l.big) (s:=(spN l spans units first tx i).s) (t:=(spN l spans units first tx i).t) hW
 obtain ⟨n,hn⟩ :=Nat.exists_eq_add_of_lt hne
 rw[fd_ents,show (newUnit l spans units first i).nodes.length=n+1 by omega,List.range_succ_eq_map,List.map_cons]
 refine ⟨_,_,rfl, ?_⟩
 unfold entryOf
 rw[if_neg (by rw[hW.head.1];decide)]
 simp only
 rw[place_at (Nat.zero_le _)]
 exact congrArg _ hp.symm
theorem top_dent (hP:PackOK l spans units first tx) {i:Nat} (hi:i < units.length):DentOK (entAt l.big (rdN l spans units first tx i) (nsN l spans units first tx i) 0)∧(entAt l.big (rdN l spans units first tx i) (nsN l spans units first tx i) 0).tag=17:=by
 have hb:=pk_len hP (Nat.le_of_lt hi)
 exact ⟨ent_dent (hP.w i hi) (by omega) (hP.w i hi).ne,by rw[top_ent hP hi]⟩
def dirA:AttrD:= ⟨27,8,false,0,[47,100],[]⟩
def lstA (n:Int):AttrD:= ⟨16,23,false,n,[],[]⟩
def nameA (s:Bytes):AttrD:= ⟨3,8,false,0,s,[]⟩
theorem dir_good (u:UnitD):AttrG u dirA∧AttrOK dirA:=by
 refine ⟨⟨⟨by simp[dirA],by simp[dirA,isBlock],by simp[dirA,isData],by simp[dirA]⟩,by simp[dirA],by simp[dirA],by simp[dirA],by simp[dirA,sizeOf'],by simp[dirA],fun _=>rfl,by simp[dirA],by simp[dirA],by simp[dirA],by simp[dirA]⟩, ⟨by simp[dirA],by simp[dirA],by simp[dirA],by simp[dirA],by simp[dirA]⟩⟩
theorem name_good (u:UnitD) {s:Bytes} (hs:isText s=true) (hl:s.length≤4096):AttrG u (nameA s)∧AttrOK (nameA s):=by
 refine ⟨⟨⟨by simp[nameA],by simp[nameA,isBlock],by simp[nameA,isData],by simp[nameA]⟩,by simp[nameA],by simp[nameA],by simp[nameA],by simp[nameA,sizeOf'],by simp[nameA],fun _=>hs,by simp[nameA],by simp[nameA],by simp[nameA],by simp[nameA]⟩, ⟨by simp[nameA],by simp[nameA],by simp[nameA],hl,by simp[nameA]⟩⟩
theorem lst_good (u:UnitD) {n:Nat} (hn:n≤5000):AttrG u (lstA n)∧AttrOK (lstA n):=by
 refine ⟨⟨⟨by simp[lstA],by simp[lstA,isBlock],by simp[lstA,isData],by simp[lstA]⟩,by simp[lstA],by simp[lstA],by simp only[lstA];omega,fun _=>?_,fun _=>by simp only[lstA];omega,by simp[lstA],by simp[lstA],by simp[lstA],by simp[lstA],by simp[lstA]⟩, ⟨by simp[lstA],by simp[lstA],by simp only[lstA];omega,by simp[lstA],by simp[lstA]⟩⟩
 simp only[lstA,sizeOf_23]
 exact pow_le (by split<;>simp) (by omega) (by omega)
theorem first_nil (u:UnitD):FirstOK u []:= ⟨by simp,(fun a h=>by cases h),(fun a h=>by cases h),by simp[attrsW]⟩
theorem first_whole (u:UnitD) {s:Bytes} {n:Nat} (hs:isText s=true) (hl:s.length≤1024) (hn:n≤4096):FirstOK u [nameA s,dirA,lstA n]:=by
 refine ⟨by simp,fun a h=>?_,fun a h=>?_, ?_⟩
 ·simp only[List.mem_cons,List.not_mem_nil,or_false] at h
  rcases h with rfl|rfl|rfl
  ·exact name_good u hs (by omega)
  ·exact dir_good u
  ·exact lst_good u (by omega)
 ·simp only[List.mem_cons,List.not_mem_nil,or_false] at h
  rcases h with rfl|rfl|rfl
  ·exact .inl rfl
  ·exact .inr (.inl rfl)
  ·exact .inr (.inr rfl)
 ·simp only[attrsW,List.map_cons,List.map_nil,List.sum_cons,List.sum_nil,attrW,nameA,dirA,lstA,List.length_cons,List.length_nil]
  omega
theorem lineText_len {t:TableD} (ht:TableOK t):(lineText t).length≤900000000:=by
 have h1:=linePre_len ht
 have h2:=flat_len (opText t) 6000 t.ops fun o ho=>opText_len ht (ht.op o ho)
 have h3:=ht.ops
 rw[lineText,lenText_eq,List.length_append,lenText_len,lineBody,List.length_append]
 split<;>omega
def firstK (n k:Nat) (f:List AttrD):List (List AttrD):=(List.replicate n []).set k f
theorem firstK_get {n k i:Nat} {f:List AttrD}:(firstK n k f).getD i []=if i=k∧k < n then f else []:=by
 unfold firstK
 rw[List.getD_eq_getElem?_getD,List.getElem?_set]
 by_cases h:k=i
 ·subst h
  rw[if_pos rfl]
  by_cases hk:k < n
  ·simp[hk]
  ·simp[hk]
 ·rw[if_neg h,if_neg (fun e=>h e.1.symm),List.getElem?_replicate]
  split<;>rfl
theorem firstK_ok {f:List AttrD} {k:Nat} (hf:∀u,FirstOK u f) (i:Nat) (u:UnitD):FirstOK u ((firstK units.length k f).getD i []):=by
 rw[firstK_get]
 split
 ·exact hf u
 ·exact first_nil u
theorem line_ok (h:AllIn l spans units) (hP:PackOK l spans units first tx) {t:TableD} (hT:TabIn t) (hb:t.big=l.big) {pre:Bytes} (hpre:pre.length≤5000) (htx:t.version=5→tx=lineTx t) {k:Nat} (hk:k < units.length) (hf:∃f0,(∀a∈f0,a.attr=3)∧first.getD k []=f0++[dirA,lstA pre.length]) (hU m1 m2 m3:Value):
  LineOK (openZ (spannedL l spans units first tx (pre++lineText t)) l.big m1 m2 m3 hU) t pre (entAt l.big (rdN l spans units first tx k) (nsN l spans units first tx k) 0):=by
 obtain ⟨h1,h2,_,h4,_,_⟩ :=open_flds (l:=l) (spans:=spans) (units:=units) (first:=first) (tx:=tx) (bg:=l.big) (ln:=pre++lineText t) (m1:=m1) (m2:=m2) (m3:=m3) (hU:=hU)
 obtain ⟨hTO,hrd,_⟩ :=hT.ok
 obtain ⟨f0,hf0,hfe⟩ :=hf
 have hl:=pk_len hP (Nat.le_refl _)
 have hld:=(top_dent hP hk).1.len
 have no3:∀a:Int,a≠3→f0.find? (fun b=>b.attr == a)=none:=fun a ha=>by
  rw[List.find?_eq_none]
  intro b hb
  have:=hf0 b hb
  simp only[beq_iff_eq];omega
 refine ⟨hrd,by rw[h1,hb],h2,fun hv hs=>?_,by rw[h4];omega,hpre,Nat.le_trans (lineText_len hTO) (by decide), ?_, ?_,hld⟩
 ·obtain ⟨r,hr⟩ :=(pk_ext hP units.length 0 (by omega)).line
  rw[Nat.zero_add] at hr
  refine ⟨r, ?_⟩
  rw[h4,hr]
  show tx++r=_
  rw[htx hv,lineTx,if_neg (by omega)]
 ·rw[top_ent hP hk,hfe]
  have e:(dirA.attr == 16)=false:=rfl
  have e2:((lstA pre.length).attr == 16)=true:=rfl
  simp only[fld_map,List.find?_append,no3 16 (by decide),List.find?_cons,e,e2,Option.none_or,Option.some_or]
  have w:IntKind.i64.wrap (pre.length:Int)=pre.length:=wrap_i64 (by omega) (by omega)
  simp[dfOf,dvOf,fcls,lstA,w]
 ·refine ⟨[47,100], ?_⟩
  rw[top_ent hP hk,hfe]
  have e:(dirA.attr == 27)=true:=rfl
  simp only[fld_map,List.find?_append,no3 27 (by decide),List.find?_cons,e,Option.none_or,Option.some_or]
  rfl
end
end Go.Proofs.YtbkfdnkeelmloaaGreatDoor
