/- Part 24 of the proof: G13. -/
import Derived.Test.YtbkfdnkeelmloaaGreatDoorZ11
set_option linter.unusedVariables false
set_option linter.unusedSimpArgs false
namespace Go.Proofs.YtbkfdnkeelmloaaGreatDoor
set_option maxHeartbeats 2000000
set_option maxRecDepth 10000
open Go.AM Go
section
variable {G:Nat→AV}
structure TableOK (t:TableD):Prop where
 version:2≤t.version∧t.version≤5
 size:t.size=4∨t.size=8
 pad:0≤t.pad∧t.pad≤3
 opcodeBase:1≤t.opcodeBase∧t.opcodeBase≤255
 operands:(t.operands.length:Int)=max (t.opcodeBase - 13) 0
 dirs:t.dirs=[]
 files:t.files.length≤100
 file:∀f∈t.files,FileOK f
 ops:t.ops.length≤65536
 op:∀o∈t.ops,OpOK t o
theorem opText_len {t:TableD} {o:OpD} (ht:TableOK t) (h:OpOK t o):(opText t o).length≤6000:=by
 have hp:=ht.pad
 have hz:=ht.size
 obtain ⟨hn,hm,hk,hfile,hrest⟩ :=h
 have l1:=encU_len t.pad.toNat (n:=o.n.toNat) (by omega)
 have l2:=encS_len t.pad.toNat hm
 have ext:∀c b,b.length≤5000→(extended t.pad c b).length≤6000:=by
  intro c b hb
  have:=encU_len t.pad.toNat (n:=b.length+1) (by omega)
  simp only[extended,List.length_append,List.length_cons,List.length_nil];omega
 unfold opText
 repeat' split
 ·simp
 ·simp only[List.length_cons];omega
 ·simp only[List.length_cons,fixed_len];omega
 ·rw[List.length_cons,rep_len]
  have hc:((operands t).getD (o.kind - 1).toNat 0).toNat < 256:=UInt8.toNat_lt _
  have:((operands t).getD (o.kind - 1).toNat 0).toNat * (encU o.n.toNat t.pad.toNat).length≤256 * 13:=Nat.mul_le_mul (by omega) (by omega)
  omega
 ·exact ext _ _ (by simp)
 ·exact ext _ _ (by rw[fixed_len];omega)
 ·exact ext _ _ (fileText_len (hfile (by assumption)) hp)
 ·exact ext _ _ (by omega)
 ·exact ext _ _ (by have:=hrest (by omega);simp;omega)
def lineHead (t:TableD):Bytes:=
 [byI t.minInst]++(if 3 < t.version then [byI t.maxOps] else [])++[if t.isStmt=true then 1 else 0,byI t.lineBase,byI t.lineRange,byI t.opcodeBase]++operands t++(if t.version < 5 then oldLists t else newLists t)
def linePre (t:TableD):Bytes:=fixed t.version.toNat 2 t.big++(if 4 < t.version then [byI t.size,0] else [])++encO (lineHead t).length t.wide t.big++lineHead t
def lineBody (t:TableD):Bytes:=linePre t++t.ops.flatMap (opText t)
def lineText (t:TableD):Bytes:=lengthy (lineBody t) t.wide t.big
def lineTx (t:TableD):Bytes:=if t.version < 5 then [] else txN t t.files
theorem oldLists_len {t:TableD} (ht:TableOK t):(oldLists t).length≤600000:=by
 have:=flat_len (fileText t.pad) 5000 t.files fun f hf=>fileText_len (ht.file f hf) ht.pad
 have hn:=ht.files
 simp only[oldLists,List.length_append,List.length_cons,List.length_nil];omega
theorem newLists_len {t:TableD} (ht:TableOK t):(newLists t).length≤600000:=by
 have:=filesN_len ht.pad t.files 0 ht.file
 have:=newHead_len ht.files ht.pad
 have hn:=ht.files
 simp only[newLists,List.length_append];omega
theorem lineHead_len {t:TableD} (ht:TableOK t):(lineHead t).length≤601000:=by
 have h1:=oldLists_len ht
 have h2:=newLists_len ht
 have h3:=operands_len t ht.opcodeBase ht.operands
 have h4:=ht.opcodeBase
 unfold lineHead
 repeat' split
 all_goals simp only[List.length_append,List.length_cons,List.length_nil];omega
theorem linePre_len {t:TableD} (ht:TableOK t):(linePre t).length≤602000:=by
 have h1:=lineHead_len ht
 have h2:=encO_len (lineHead t).length t.wide t.big
 unfold linePre
 split<;>simp only[List.length_append,List.length_cons,List.length_nil,fixed_len]<;>omega
theorem lh1 {t:TableD} (h3:3 < t.version) (hs:t.isStmt=true) (h5:t.version < 5):byI t.minInst :: byI t.maxOps :: 1 :: byI t.lineBase :: byI t.lineRange :: byI t.opcodeBase :: (operands t++oldLists t)=lineHead t:=by
 simp only[lineHead,hs,if_pos h3,if_pos h5]
 simp
theorem lh2 {t:TableD} (h3:3 < t.version) (hs:t.isStmt=false) (h5:t.version < 5):byI t.minInst :: byI t.maxOps :: 0 :: byI t.lineBase :: byI t.lineRange :: byI t.opcodeBase :: (operands t++oldLists t)=lineHead t:=by
 simp only[lineHead,hs,if_pos h3,if_pos h5]
 simp
theorem lh3 {t:TableD} (h3:3 < t.version) (hs:t.isStmt=true) (h5:5≤t.version):byI t.minInst :: byI t.maxOps :: 1 :: byI t.lineBase :: byI t.lineRange :: byI t.opcodeBase :: (operands t++newLists t)=lineHead t:=by
 simp only[lineHead,hs,if_pos h3,if_neg (show¬t.version < 5 by omega)]
 simp
theorem lh4 {t:TableD} (h3:3 < t.version) (hs:t.isStmt=false) (h5:5≤t.version):byI t.minInst :: byI t.maxOps :: 0 :: byI t.lineBase :: byI t.lineRange :: byI t.opcodeBase :: (operands t++newLists t)=lineHead t:=by
 simp only[lineHead,hs,if_pos h3,if_neg (show¬t.version < 5 by omega)]
 simp
theorem lh5 {t:TableD} (h3:t.version≤3) (hs:t.isStmt=true) (h5:t.version < 5):byI t.minInst :: 1 :: byI t.lineBase :: byI t.lineRange :: byI t.opcodeBase :: (operands t++oldLists t)=lineHead t:=by
 simp only[lineHead,hs,if_neg (show¬3 < t.version by omega),if_pos h5]
 simp
theorem lh6 {t:TableD} (h3:t.version≤3) (hs:t.isStmt=false) (h5:t.version < 5):byI t.minInst :: 0 :: byI t.lineBase :: byI t.lineRange :: byI t.opcodeBase :: (operands t++oldLists t)=lineHead t:=by
 simp only[lineHead,hs,if_neg (show¬3 < t.version by omega),if_pos h5]
 simp
theorem f12_ok (t:TableD) (ht:TableOK t):Fulfils Tryz.prog G 12 [.agg (tableC t)] []
  (fun ret os fs=>∃h h2,ret=(fun _=>.tup [.buf 0 h,.buf 1 h2])∧os=[]∧fs=[some (.arr h 5 1 (bytesR (lineText t))),some (.arr h2 5 1 (bytesR (lineTx t)))]):=by
 have hbig:big=140737488355328:=rfl
 have hver:=ht.version
 have hsz:=ht.size
 have hpad:=ht.pad
 have hob:=ht.opcodeBase
 have hops:=ht.operands
 have h1:=oldLists_len ht
 have h2:=newLists_len ht
 have h3:=operands_len t ht.opcodeBase ht.operands
 have h4:=lineHead_len ht
 have h5:=linePre_len ht
 have h6:=encO_len (lineHead t).length t.wide t.big
 have h7:=fixed_len t.version.toNat 2 t.big
 have hno:=ht.ops
 have w1:IntKind.u64.wrap t.version=t.version:=wrap_u64 (by omega) (by omega)
 refine fulfilA Tryz.f12 [.tmp 2,.tmp 3] 0 ?_
 simp only[Tryz.f12,Option.getD_some,go_sem]
 (repeat' first|refine s1 ?_|refine hRegion (sim ?_)|with_reducible refine fun (_:Outc)=>?_|fail)
 rename_i o1 o2 o3 o4
 have e0:bytesR []=[]:=rfl
 have q4:t.version < 5→linePre t=fixed t.version.toNat 2 t.big++encO (lineHead t).length t.wide t.big++lineHead t:=fun h=>by
  rw[linePre,if_neg (by omega)];simp
 have q5:5≤t.version→linePre t=fixed t.version.toNat 2 t.big++[byI t.size,0]++encO (lineHead t).length t.wide t.big++lineHead t:=fun h=>by
  rw[linePre,if_pos (by omega)]
 have r4:t.version < 5→lineTx t=[]:=fun h=>by rw[lineTx,if_pos h]
 have r5:5≤t.version→lineTx t=txN t t.files:=fun h=>by rw[lineTx,if_neg (by omega)]
 repeat' first|refine rn ?_|refine br fun hb=>?_|with_reducible refine And.intro ?_ ?_|with_reducible refine fun (_:Outc)=>?_|fail
 all_goals (refine callX [] 1 (f35_ok t hob (by omega)) rfl sT (by simp) ?_;rintro ret os fs ⟨o5,rfl,rfl,rfl⟩;refine sim ?_;repeat' first|refine rn ?_|refine br fun hb=>?_|with_reducible refine And.intro ?_ ?_|with_reducible refine fun (_:Outc)=>?_|fail)
 all_goals first|(refine callX [] 1 (f36_ok t hpad ht.dirs ht.files ht.file) rfl (by (refine sim ?_;try exact trivial)) (by simp) ?_;rintro ret os fs ⟨o6,rfl,rfl,rfl⟩;refine sim ?_;repeat' first|refine rnE @w1 ?_|with_reducible refine fun (_:Outc)=>?_|fail)|(refine callX [4,10] 1 (f37_ok t o3.b o2.h hpad ht.dirs ht.files ht.file) rfl (by (refine simE @e0 ?_;try exact trivial)) (by simp) ?_;rintro ret os fs ⟨o6,o7,rfl,rfl,rfl⟩;refine sim ?_;repeat' first|refine rnE @w1 ?_|with_reducible refine fun (_:Outc)=>?_|fail)
 all_goals first|rw[lh1 (t:=t) (by omega) (by assumption) (by omega)]|rw[lh2 (t:=t) (by omega) (by assumption) (by omega)]|rw[lh3 (t:=t) (by omega) (by assumption) (by omega)]|rw[lh4 (t:=t) (by omega) (by assumption) (by omega)]|rw[lh5 (t:=t) (by omega) (by assumption) (by omega)]|rw[lh6 (t:=t) (by omega) (by assumption) (by omega)]
 all_goals (refine callX [] 1 (f38_2 t.version t.big (by omega) (by omega)) rfl sT (by simp) ?_;rintro ret os fs ⟨o8,rfl,rfl,rfl⟩;refine sim ?_;repeat' first|refine rn ?_|with_reducible refine fun (_:Outc)=>?_|fail)
 all_goals (refine callX [] 1 (f39_ok (lineHead t).length t.wide t.big (by omega)) rfl sT (by simp) ?_;rintro ret os fs ⟨o9,rfl,rfl,rfl⟩;refine sim ?_;repeat' first|refine rn ?_|with_reducible refine fun (_:Outc)=>?_|fail)
 all_goals rename Outc=>oz
 all_goals first
  |(refine hLoop (X:={p:Value×Nat // p.2≤t.ops.length}) (fun p=> ⟨[(1,.ref 1 o1.b 0),(4,.ref 4 o3.b 0),(7,.buf 1059 p.1.1),(81,opsV t.ops),(82,intV t.ops.length),(83,intV p.1.2)],
   [(1,some (.cells o1.b 0 (tableC t))),(4,some (.cells o3.b 0 [.buf 10 o2.h])),(10,some (.arr o2.h 5 1 (bytesR (lineTx t)))),(1059,some (.arr p.1.1 5 1 (bytesR (linePre t++(t.ops.take p.1.2).flatMap (opText t)))))]⟩) (fun p=>t.ops.length - p.1.2) ⟨(oz.h,0),by simp⟩ (by rw[q4 (by omega),r4 (by omega)];refine simE @e0 ?_;((repeat' refine And.intro ?_ ?_)<;>first|rfl|(simp;done));done) ?_
    generalize o2.h=hx)
  |(refine hLoop (X:={p:Value×Nat // p.2≤t.ops.length}) (fun p=> ⟨[(1,.ref 1 o1.b 0),(4,.ref 4 o3.b 0),(7,.buf 1059 p.1.1),(81,opsV t.ops),(82,intV t.ops.length),(83,intV p.1.2)],
   [(1,some (.cells o1.b 0 (tableC t))),(4,some (.cells o3.b 0 [.buf 10 o7])),(10,some (.arr o7 5 1 (bytesR (lineTx t)))),(1059,some (.arr p.1.1 5 1 (bytesR (linePre t++(t.ops.take p.1.2).flatMap (opText t)))))]⟩) (fun p=>t.ops.length - p.1.2) ⟨(oz.h,0),by simp⟩ (by rw[q5 (by omega),r5 (by omega)];refine sim ?_;((repeat' refine And.intro ?_ ?_)<;>first|rfl|(simp;done));done) ?_
    generalize o7=hx)
 all_goals rintro ⟨⟨h,j⟩,hj⟩
 all_goals simp only at hj
 all_goals refine sim ?_
 all_goals
  have m1:=flat_len (opText t) 6000 (t.ops.take j) (fun x hx=>opText_len ht (ht.op x (List.mem_of_mem_take hx)))
  rw[List.length_take] at m1
  by_cases hlt:j < t.ops.length
  ·obtain ⟨x,hx1⟩ :=getX t.ops hlt
   have e:=row_at opC hx1
   have hxo:=ht.op x (List.mem_of_getElem? hx1)
   have m2:=opText_len ht hxo
   have w4:IntKind.i64.wrap ((j:Int)+1)=((j+1:Nat):Int):=by rw[wrap_i64 (by omega) (by omega)];simp
   repeat' first|refine rnE @e ?_|with_reducible refine fun (_:Outc)=>?_|fail
   refine callX [] 1 (f40_ok t x hpad hob hops (by omega) hxo) rfl sT (by simp) ?_;rintro ret os fs ⟨o10,rfl,rfl,rfl⟩;refine sim ?_
   repeat' first|refine rnE @w4 ?_|with_reducible refine fun (_:Outc)=>?_|fail
   rename Outc=>o11
   refine ⟨⟨(o11.h,j+1),by dsimp only;omega⟩, ?_⟩
   rw[flat_take _ hx1]
   ((repeat' refine And.intro ?_ ?_)<;>first|rfl|(dsimp only;omega)|(simp;done))
  ·have:j=t.ops.length:=by omega
   subst this
   have eb:linePre t++(t.ops.take t.ops.length).flatMap (opText t)=lineBody t:=by rw[List.take_of_length_le (Nat.le_refl _)];rfl
   have m3:(lineBody t).length≤2000000000:=by rw[←eb,List.length_append];omega
   rw[eb]
   repeat' first|refine rn ?_|fail
   refine hRegionD (fun jx _=>if jx=5 then mkC [1059] 98 1 [] (f41o_ok h (lineBody t) t.wide t.big m3) else (default,([],[]))) [0,1,2,3,4,6,5,7,8] [0,0,2,0,8,31,0,63,255] [(6,5)] mixed (by kernel_rfl) ?_
   refine sim ?_
   refine callDm sT sT sT (by simp) ?_;rintro ret os fs ⟨o12,rfl,rfl,rfl⟩;refine sim ?_
   repeat' first|refine rn ?_|fail
   refine doneA [(1098,0),(10,1)] ?_;try exact trivial
   exact ⟨_,_,rfl,rfl⟩
end
end Go.Proofs.YtbkfdnkeelmloaaGreatDoor
