/- Part 20 of the proof: G27 S1 S2 S3 M1 M2 M3 M4. -/
import Derived.Test.YtbkfdnkeelmloaaGreatDoorZ12
import Derived.Test.YtbkfdnkeelmloaaGreatDoorZ16
set_option linter.unusedVariables false
set_option linter.unusedSimpArgs false
namespace Go.Proofs.YtbkfdnkeelmloaaGreatDoor
set_option maxHeartbeats 4000000
set_option maxRecDepth 10000
open Go.AM Go
section
variable {G:Nat→AV}
def bad1 (t:TableD):Prop:=t.version < 2∨5 < t.version∨(t.wide=true∧t.version < 3)∨(t.size≠4∧t.size≠8)∨t.minInst < 0∨255 < t.minInst∨t.pad < 0∨3 < t.pad
def bad2 (t:TableD):Prop:=t.maxOps < 1∨255 < t.maxOps∨(t.version < 4∧1 < t.maxOps)∨t.lineBase < -128∨127 < t.lineBase∨t.lineRange < 1∨255 < t.lineRange
def bad3 (t:TableD):Prop:=t.opcodeBase < 1∨255 < t.opcodeBase∨(t.operands.length:Int)≠max (t.opcodeBase - 13) 0∨100 < t.dirs.length∨100 < t.files.length∨65536 < t.ops.length
instance (t:TableD):Decidable (bad1 t):=by unfold bad1;infer_instance
instance (t:TableD):Decidable (bad2 t):=by unfold bad2;infer_instance
instance (t:TableD):Decidable (bad3 t):=by unfold bad3;infer_instance
def isByte (n:Int):Bool:=decide (0≤n) && decide (n≤255)
def isDir (s:Bytes):Bool:=decide (2≤s.length) && decide (s.length≤4096) && decide ((s.getD 0 0).toNat=47) && isName (s.drop 1)
def endsOK (t:TableD):Bool:=t.ops.length == 0 || decide ((t.ops.getD (t.ops.length - 1) ⟨0,0,0, ⟨[],0,0,0⟩⟩).kind= -1)
def isTable (t:TableD):Bool:=if bad1 t∨bad2 t∨bad3 t then false else isSmall t && t.operands.all isByte && t.dirs.all isDir && t.files.all (isFile t) && t.ops.all (isOp t) && endsOK t
theorem isTable_bad {t:TableD} (h:bad1 t∨bad2 t∨bad3 t):isTable t=false:=by rw[isTable,if_pos h]
theorem isTable_ok {t:TableD} (h1:¬bad1 t) (h2:¬bad2 t) (h3:¬bad3 t):isTable t=(isSmall t && t.operands.all isByte && t.dirs.all isDir && t.files.all (isFile t) && t.ops.all (isOp t) && endsOK t):=by
 rw[isTable,if_neg (by rintro (h|h|h);exact h1 h;exact h2 h;exact h3 h)]
theorem f32_ok (t:TableD) (ht:okTable t):Fulfils Tryz.prog G 32 [.agg (tableC t)] [] (retP (booV (isTable t))):=by
 have hbig:big=140737488355328:=rfl
 have hsm:=f66_ok (G:=G) t ht
 obtain ⟨hp, ⟨hd1,hd2⟩, ⟨hf1,hf2⟩,ho1,ho2⟩ :=ht
 have w13:1≤t.opcodeBase∧t.opcodeBase≤255→IntKind.i64.wrap (t.opcodeBase - 13)=t.opcodeBase - 13:=fun h=>wrap_i64 (by omega) (by omega)
 refine fulfilP (fn:=Tryz.f32) (rs:=[.tmp 2]) (Tryz.f32.body.getD .skip) (by kernel_rfl) rfl rfl rfl (by simp only[List.length_cons,List.length_nil];decide) rfl (by decide) ?_
 simp only[Tryz.f32,Option.getD_some,go_sem]
 repeat' first|refine s1 ?_|refine hRegion (sim ?_)|refine hSkip (sim ?_)|refine hRet (sim ?_)|refine s7 rfl (fun hb=>?_) fun hb=>?_|with_reducible refine And.intro ?_ ?_|with_reducible refine fun (_:Outc)=>?_|(refine done_pure sT ?_;refine sim ?_)|with_reducible exact s8|(with_reducible intro hg;exact ⟨hg,fun hg2=>by simp[hg,hg2]⟩)|fail
 ·rw[isTable_bad (.inl (by unfold bad1;grind))]
 ·rw[isTable_bad (.inr (.inl (by unfold bad2;omega)))]
 ·rw[isTable_bad (.inr (.inr (by unfold bad3;grind)))]
 have b1:¬bad1 t:=by unfold bad1;grind
 have b2:¬bad2 t:=by unfold bad2;omega
 have b3:¬bad3 t:=by unfold bad3;grind
 rw[isTable_ok b1 b2 b3]
 refine callP hsm rfl ?_;refine sim ?_
 repeat' first|refine s1 ?_|refine s2 ?_|refine hRegion (sim ?_)|refine hSkip (sim ?_)|refine hRet (sim ?_)|refine s7 rfl (fun hb=>?_) fun hb=>?_|(refine done_pure sT ?_;refine sim ?_)|fail
 ·rw[hb];rfl
 rename_i o1 c1 c2 c3
 rw[hb,Bool.true_and]
 refine hLoop (X:=Upto t.operands isByte) (fun i=> ⟨[(1,.ref 1 o1.b 0),(136,intsV t.operands),(137,intV t.operands.length),(138,intV i.1)],[(1,some (.cells o1.b 0 (tableC t)))]⟩) (fun i=>t.operands.length - i.1) ⟨0,by simp⟩ (by refine sim ?_;((repeat' refine And.intro ?_ ?_)<;>rfl)) ?_
 rintro ⟨i,hi,hall⟩
 refine sim ?_
 by_cases hlt:i < t.operands.length
 ·obtain ⟨x,hx⟩ :=getX t.operands hlt
  have e:=row_at (fun n=>[intV n]) hx
  have w4:IntKind.i64.wrap ((i:Int)+1)=((i+1:Nat):Int):=by rw[wrap_i64 (by omega) (by omega)];simp
  simp only[intV] at e
  repeat' first|refine s1 ?_|refine s2 ?_|refine hRegion (simE (And.intro @e @w4) ?_)|refine hSkip (simE (And.intro @e @w4) ?_)|refine hRet (simE (And.intro @e @w4) ?_)|(refine s7 rfl ?_ ?_<;>intro hb<;>first|(exfalso;omega)|skip)|with_reducible refine And.intro ?_ ?_|(refine done_pure sT ?_;refine sim ?_)|omega
  ·have hn:isByte x=false:=by unfold isByte;grind
   rw[all_no hx hn];rfl
  ·have hn:isByte x=true:=by unfold isByte;grind
   refine ⟨⟨i+1,by omega,all_take hx hall hn⟩, ?_⟩
   ((repeat' refine And.intro ?_ ?_)<;>first|rfl|(dsimp only;omega))
 have:i=t.operands.length:=by omega
 subst this
 rw[all_full (Nat.le_refl _) hall,Bool.true_and]
 clear hall hlt
 repeat' first|refine s1 ?_|refine s2 ?_|refine hRegion (sim ?_)|refine hExit (sim ?_)|(refine s7 rfl ?_ ?_<;>intro hb<;>first|(exfalso;omega)|skip)|fail
 refine hLoop (X:=Upto t.dirs isDir) (fun i=> ⟨[(1,.ref 1 o1.b 0),(150,strsV t.dirs),(151,intV t.dirs.length),(152,intV i.1)],[(1,some (.cells o1.b 0 (tableC t)))]⟩) (fun i=>t.dirs.length - i.1) ⟨0,by simp⟩ (by refine sim ?_;((repeat' refine And.intro ?_ ?_)<;>rfl)) ?_
 rintro ⟨i,hi,hall⟩
 refine sim ?_
 by_cases hlt:i < t.dirs.length
 ·obtain ⟨x,hx⟩ :=getX t.dirs hlt
  have e:(t.dirs.map fun s=>[AV.val (.string ⟨s.toArray⟩)]).getD i []=[.val (.string ⟨x.toArray⟩)]:=row_at (fun s=>[AV.val (.string ⟨s.toArray⟩)]) hx
  have hxl:=hd2 x (List.mem_of_getElem? hx)
  have w4:IntKind.i64.wrap ((i:Int)+1)=((i+1:Nat):Int):=by rw[wrap_i64 (by omega) (by omega)];simp
  have ex:(x.take x.length).drop (Int.toNat 1)=x.drop 1:=by rw[List.take_length];rfl
  have hdl:(x.drop 1).length≤big:=by rw[List.length_drop];omega
  repeat' first|refine s1 ?_|refine s2 ?_|refine hRegion (simE (And.intro @e (And.intro @w4 @ex)) ?_)|refine hSkip (simE (And.intro @e (And.intro @w4 @ex)) ?_)|(refine s7 rfl ?_ ?_<;>intro hb<;>first|(exfalso;omega)|skip)|with_reducible refine And.intro ?_ ?_|omega
  ·intro hg;refine ⟨hg,by omega, ?_⟩;simp at hg;omega
  ·intro hg;refine ⟨hg,by omega, ?_,by omega⟩;simp at hg;omega
  ·refine callGP (booV (isName (x.drop 1))) (fun _=>f67_ok (x.drop 1) hdl) (fun hg=> ⟨rfl,by simpa [cndOK] using hg⟩) ?_;refine sim ?_
   repeat' first|refine s1 ?_|refine hRegion (simE @w4 ?_)|refine hSkip (simE @w4 ?_)|refine hRet (simE @w4 ?_)|refine s7 rfl (fun hb=>?_) fun hb=>?_|(refine done_pure sT ?_;refine sim ?_)|fail
   ·have hn:isDir x=false:=by
     unfold isDir;grind
    rw[all_no hx hn];rfl
   ·have hn:isDir x=true:=by
     unfold isDir;grind
    refine ⟨⟨i+1,by omega,all_take hx hall hn⟩, ?_⟩
    ((repeat' refine And.intro ?_ ?_)<;>first|rfl|(dsimp only;omega))
 have:i=t.dirs.length:=by omega
 subst this
 rw[all_full (Nat.le_refl _) hall,Bool.true_and]
 clear hall hlt
 repeat' first|refine s1 ?_|refine s2 ?_|refine hRegion (sim ?_)|refine hExit (sim ?_)|(refine s7 rfl ?_ ?_<;>intro hb<;>first|(exfalso;omega)|skip)|fail
 refine hLoop (X:=Upto t.files (isFile t)) (fun i=> ⟨[(1,.ref 1 o1.b 0),(177,filesV t.files),(178,intV t.files.length),(179,intV i.1)],[(1,some (.cells o1.b 0 (tableC t)))]⟩) (fun i=>t.files.length - i.1) ⟨0,by simp⟩ (by refine sim ?_;((repeat' refine And.intro ?_ ?_)<;>rfl)) ?_
 rintro ⟨i,hi,hall⟩
 refine sim ?_
 by_cases hlt:i < t.files.length
 ·obtain ⟨x,hx⟩ :=getX t.files hlt
  have e:=row_at fileC hx
  have hxl:=hf2 x (List.mem_of_getElem? hx)
  have w4:IntKind.i64.wrap ((i:Int)+1)=((i+1:Nat):Int):=by rw[wrap_i64 (by omega) (by omega)];simp
  repeat' first|refine s1 ?_|refine s2 ?_|refine hRegion (simE @e ?_)|refine hSkip (simE @e ?_)|(refine s7 rfl ?_ ?_<;>intro hb<;>first|(exfalso;omega)|skip)|with_reducible refine And.intro ?_ ?_|with_reducible refine fun (_:Outc)=>?_|omega
  refine callP (f68_ok t x hxl) rfl ?_;refine sim ?_
  repeat' first|refine s1 ?_|refine hRegion (simE @w4 ?_)|refine hSkip (simE @w4 ?_)|refine hRet (simE @w4 ?_)|refine s7 rfl (fun hb=>?_) fun hb=>?_|(refine done_pure sT ?_;refine sim ?_)|fail
  ·rw[all_no hx (by assumption)];rfl
  ·refine ⟨⟨i+1,by omega,all_take hx hall (by assumption)⟩, ?_⟩
   ((repeat' refine And.intro ?_ ?_)<;>first|rfl|(dsimp only;omega))
 have:i=t.files.length:=by omega
 subst this
 rw[all_full (Nat.le_refl _) hall,Bool.true_and]
 clear hall hlt
 repeat' first|refine s1 ?_|refine s2 ?_|refine hRegion (sim ?_)|refine hExit (sim ?_)|(refine s7 rfl ?_ ?_<;>intro hb<;>first|(exfalso;omega)|skip)|fail
 refine hLoop (X:=Upto t.ops (isOp t)) (fun i=> ⟨[(1,.ref 1 o1.b 0),(189,opsV t.ops),(190,intV t.ops.length),(191,intV i.1)],[(1,some (.cells o1.b 0 (tableC t)))]⟩) (fun i=>t.ops.length - i.1) ⟨0,by simp⟩ (by refine sim ?_;((repeat' refine And.intro ?_ ?_)<;>rfl)) ?_
 rintro ⟨i,hi,hall⟩
 refine sim ?_
 by_cases hlt:i < t.ops.length
 ·obtain ⟨x,hx⟩ :=getX t.ops hlt
  have e:=row_at opC hx
  have hxl:=ho2 x (List.mem_of_getElem? hx)
  have w4:IntKind.i64.wrap ((i:Int)+1)=((i+1:Nat):Int):=by rw[wrap_i64 (by omega) (by omega)];simp
  repeat' first|refine s1 ?_|refine s2 ?_|refine hRegion (simE @e ?_)|refine hSkip (simE @e ?_)|(refine s7 rfl ?_ ?_<;>intro hb<;>first|(exfalso;omega)|skip)|with_reducible refine And.intro ?_ ?_|with_reducible refine fun (_:Outc)=>?_|omega
  refine callP (f69_ok t x hxl) rfl ?_;refine sim ?_
  repeat' first|refine s1 ?_|refine hRegion (simE @w4 ?_)|refine hSkip (simE @w4 ?_)|refine hRet (simE @w4 ?_)|refine s7 rfl (fun hb=>?_) fun hb=>?_|(refine done_pure sT ?_;refine sim ?_)|fail
  ·rw[all_no hx (by assumption)];rfl
  ·refine ⟨⟨i+1,by omega,all_take hx hall (by assumption)⟩, ?_⟩
   ((repeat' refine And.intro ?_ ?_)<;>first|rfl|(dsimp only;omega))
 have:i=t.ops.length:=by omega
 subst this
 rw[all_full (Nat.le_refl _) hall,Bool.true_and]
 clear hall hlt
 rcases Nat.eq_zero_or_pos t.ops.length with h0|h0
 ·have e1:((t.ops.length:Int) == 0)=true:=by rw[h0];rfl
  have e2:(t.ops.map opC).getD (IntKind.i64.wrap ((t.ops.length:Int) - 1)).toNat []=[]:=by rw[List.eq_nil_of_length_eq_zero h0];rfl
  repeat' first|refine s1 ?_|(refine hRegion ?_;simp -implicitDefEqProofs only[go_sem,↓reduceIte,Nat.reduceEqDiff,Nat.reduceLT,Nat.reduceLeDiff,Nat.reduceAdd,Nat.reduceSub,Nat.reduceMul,reduceCtorEq,List.reduceReplicate,Nat.reduceBEq,e1,e2,List.headD_nil])|(refine hExit ?_;simp -implicitDefEqProofs only[go_sem,↓reduceIte,Nat.reduceEqDiff,Nat.reduceLT,Nat.reduceLeDiff,Nat.reduceAdd,Nat.reduceSub,Nat.reduceMul,reduceCtorEq,List.reduceReplicate,Nat.reduceBEq,e1,e2,List.headD_nil])|(refine hRet ?_;simp -implicitDefEqProofs only[go_sem,↓reduceIte,Nat.reduceEqDiff,Nat.reduceLT,Nat.reduceLeDiff,Nat.reduceAdd,Nat.reduceSub,Nat.reduceMul,reduceCtorEq,List.reduceReplicate,Nat.reduceBEq,e1,e2,List.headD_nil])|(refine s7 rfl ?_ ?_<;>intro hb<;>first|(exfalso;omega)|skip)|(refine done_pure sT ?_;refine sim ?_)|fail
  rw[endsOK,h0];rfl
 ·have e1:((t.ops.length:Int) == 0)=false:=by rw[beq_eq_false_iff_ne];omega
  have w5:IntKind.i64.wrap ((t.ops.length:Int) - 1)=((t.ops.length - 1:Nat):Int):=by rw[wrap_i64 (by omega) (by omega)];omega
  obtain ⟨x,hx⟩ :=getX t.ops (i:=t.ops.length - 1) (by omega)
  have e:=row_at opC hx
  have e3:endsOK t=(x.kind == -1):=by
   have e4:(t.ops.length == 0)=false:=by rw[beq_eq_false_iff_ne];omega
   rw[endsOK,e4,Bool.false_or,List.getD_eq_getElem?_getD,hx,Option.getD_some]
   by_cases hk:x.kind= -1<;>simp[hk]
  rw[e3]
  repeat' first|refine s1 ?_|refine hRegion (simE (And.intro @e1 (And.intro @w5 @e)) ?_)|refine hExit (simE (And.intro @e1 (And.intro @w5 @e)) ?_)|refine hRet (simE (And.intro @e1 (And.intro @w5 @e)) ?_)|(refine s7 rfl ?_ ?_<;>intro hb<;>first|(exfalso;omega)|skip)|with_reducible refine And.intro ?_ ?_|(refine done_pure sT ?_;exact sT)|omega
end
set_option maxHeartbeats 4000000
set_option maxRecDepth 10000
open Go.AM Go
section
variable {G:Nat→AV}
def most:Int:=2147483648
structure PlaceAcc where
 base:Int
 out:List (Int×Int)
def placeStep (z:PlaceAcc) (p:PieceD):PlaceAcc:=
 if p.kind=0 then ⟨z.base,z.out++[(z.base+p.a,z.base+p.b)]⟩
 else if p.kind=1 then ⟨p.a,z.out⟩
 else if p.kind=2 then ⟨z.base,z.out++[(p.a,p.b)]⟩
 else if p.kind=3 then ⟨z.base,z.out++[(p.a,p.a+p.b)]⟩
 else z
def placesAcc (x:SpanD) (l:List PieceD):PlaceAcc:=l.foldl placeStep ⟨x.low,[]⟩
def places (x:SpanD):List (Int×Int):=if x.listed then (placesAcc x x.pieces).out else [(x.low,x.high)]
def placeR (l:List (Int×Int)):List (List AV):=l.map fun p=>[u64V p.1,u64V p.2]
structure SpanIn (x:SpanD):Prop where
 low:0≤x.low∧x.low < most
 pieces:∀p∈x.pieces,(0≤p.a∧p.a < most)∧(0≤p.b∧p.b < most)
 len:x.pieces.length≤100
theorem placesAcc_succ {x:SpanD} {l:List PieceD} {j:Nat} {p:PieceD} (h:l[j]? =some p):placesAcc x (l.take (j+1))=placeStep (placesAcc x (l.take j)) p:=by
 rw[take_succ h,placesAcc,List.foldl_append];rfl
theorem placesAcc_in {x:SpanD} (h:SpanIn x):∀j,(0≤(placesAcc x (x.pieces.take j)).base∧(placesAcc x (x.pieces.take j)).base < most)∧(placesAcc x (x.pieces.take j)).out.length≤j
 |0=> ⟨h.low,by simp[placesAcc]⟩
 |j+1=>by
  have ih:=placesAcc_in h j
  by_cases hj:j < x.pieces.length
  ·obtain ⟨p,hp⟩ :=getX x.pieces hj
   have hb:=h.pieces p (List.mem_of_getElem? hp)
   rw[placesAcc_succ hp]
   unfold placeStep
   repeat' split
   all_goals refine ⟨?_, ?_⟩ <;>first|exact ih.1|exact hb.1|omega|(simp;omega)
  ·rw[List.take_of_length_le (by omega)] at ih ⊢
   exact ⟨ih.1,by omega⟩
theorem snoc_p (l:List (Int×Int)) (a c:Int):placeR l++[[AV.val (.int .u64 a),.val (.int .u64 c)]]=placeR (l++[(a,c)]):=by simp[placeR,u64V]
theorem placeR_length (l:List (Int×Int)):(placeR l).length=l.length:=by simp[placeR]
theorem placeR_get {l:List (Int×Int)} {i:Nat} {p:Int×Int} (h:l[i]? =some p):(placeR l).getD i []=[.val (.int .u64 p.1),.val (.int .u64 p.2)]:=row_at _ h
theorem turnR_place {f:AV→AV} [Still f] (l:List (Int×Int)):turnR f (placeR l)=placeR l:=turnR_map (g:=fun p:Int×Int=>[u64V p.1,u64V p.2]) (fun b=>by simp only[turnL,u64V,AV.turn,Still.i]) l
attribute [go_sem] snoc_p placeR_length turnR_place
theorem f20_ok (x:SpanD) (hx:SpanIn x):Fulfils Tryz.prog G 20 [.agg (spanC x)] [] (retB 0 154 2 (placeR (places x)) []):=by
 have hbig:big=140737488355328:=rfl
 have hm:most=2147483648:=rfl
 have hl:=hx.len
 refine fulfilA Tryz.f20 [.tmp 2] 0 ?_
 simp only[Tryz.f20,Option.getD_some,go_sem]
 repeat' first|refine rn ?_|refine br fun hb=>?_|with_reducible refine And.intro ?_ ?_|with_reducible refine fun (_:Outc)=>?_|fail
 ·refine doneA [(15,0)] ?_;try exact trivial
  refine ⟨_,rfl,rfl, ?_⟩
  rw[places,if_neg (by simp[*])]
  rfl
 rename_i o1 o2
 refine hLoop (X:={p:Value×Nat // p.2≤x.pieces.length}) (fun p=> ⟨[(1,.ref 1 o1.b 0),(3,.buf 16 p.1.1),(4,u64V (placesAcc x (x.pieces.take p.1.2)).base),(20,piecesV x.pieces),(21,intV x.pieces.length),(22,intV p.1.2)],[(1,some (.cells o1.b 0 (spanC x))),(16,some (.arr p.1.1 154 2 (placeR (placesAcc x (x.pieces.take p.1.2)).out)))]⟩) (fun p=>x.pieces.length - p.1.2) ⟨(o2.h,0),by simp⟩ (by simp only[List.take_zero,placesAcc,List.foldl_nil];refine sim ?_;((repeat' refine And.intro ?_ ?_)<;>rfl)) ?_
 rintro ⟨⟨h,j⟩,hj⟩
 simp only at hj
 refine sim ?_
 have hin:=placesAcc_in hx j
 by_cases hlt:j < x.pieces.length
 ·obtain ⟨p,hp⟩ :=getX x.pieces hlt
  have e:=row_at pieceC hp
  have hpb:=hx.pieces p (List.mem_of_getElem? hp)
  have hs:=placesAcc_succ (x:=x) hp
  have w4:IntKind.i64.wrap ((j:Int)+1)=((j+1:Nat):Int):=by rw[wrap_i64 (by omega) (by omega)];simp
  generalize placesAcc x (x.pieces.take j)=z at *
  have w1:IntKind.u64.wrap (z.base+p.a)=z.base+p.a:=wrap_u64 (by omega) (by omega)
  have w2:IntKind.u64.wrap (z.base+p.b)=z.base+p.b:=wrap_u64 (by omega) (by omega)
  have w3:IntKind.u64.wrap (p.a+p.b)=p.a+p.b:=wrap_u64 (by omega) (by omega)
  repeat' first|refine rnE (And.intro @e (And.intro @w1 (And.intro @w2 (And.intro @w3 @w4)))) ?_|refine br fun hb=>?_|with_reducible refine And.intro ?_ ?_|with_reducible refine fun (_:Outc)=>?_|fail
  all_goals (refine ⟨⟨(_,j+1),hlt⟩, ⟨⟨rfl, ?_,rfl⟩, ?_⟩,by dsimp only;omega⟩ <;>(dsimp only;rw[hs];unfold placeStep;(repeat' first|rw[if_pos (by omega)]|rw[if_neg (by omega)])))
 ·have:j=x.pieces.length:=by omega
  subst this
  refine rn ?_
  refine doneA [(16,0)] ?_;try exact trivial
  refine ⟨_,rfl,rfl, ?_⟩
  rw[places,if_pos (by simp[*])]
structure SpanR (x:SpanD):Prop where
 low:0≤x.low∧x.low < 18446744073709551616
 high:0≤x.high∧x.high < 18446744073709551616
 pieces:∀p∈x.pieces,0≤p.a∧0≤p.b
 len:x.pieces.length≤big
def badSpan (l:LayoutD) (x:SpanD):Prop:=isLayout l=false∨most≤x.low∨most≤x.high∨100 < x.pieces.length∨(x.length=true∧l.version < 4)
def badPiece (l:LayoutD) (p:PieceD):Prop:=most≤p.a∨most≤p.b∨p.kind < 0∨3 < p.kind∨(1 < p.kind∧l.version < 5)∨((p.kind=0∨p.kind=2)∧p.b≤p.a)∨(p.kind=3∧p.b=0)
instance (l:LayoutD) (x:SpanD):Decidable (badSpan l x):=by unfold badSpan;infer_instance
instance (l:LayoutD) (x:PieceD):Decidable (badPiece l x):=by unfold badPiece;infer_instance
def goodPiece (l:LayoutD) (p:PieceD):Bool:=!decide (badPiece l p)
theorem good_f {l:LayoutD} {p:PieceD} (h:badPiece l p):goodPiece l p=false:=by simp[goodPiece,h]
theorem good_t {l:LayoutD} {p:PieceD} (h:¬badPiece l p):goodPiece l p=true:=by simp[goodPiece,h]
def endsLow (p:Int×Int):Bool:=decide (p.2 < most)
def isSpan (l:LayoutD) (x:SpanD):Bool:=if badSpan l x then false else if x.listed=true then x.pieces.all (goodPiece l) && (places x).all endsLow else decide (x.low < x.high) && x.pieces.length == 0
theorem f29_ok (l:LayoutD) (x:SpanD) (hx:SpanR x):Fulfils Tryz.prog G 29 [.agg (layoutC l),.agg (spanC x)] [] (retP (booV (isSpan l x))):=by
 have hbig:big=140737488355328:=rfl
 have hm:most=2147483648:=rfl
 have hl:=hx.len
 refine fulfilP (fn:=Tryz.f29) (rs:=[.tmp 4]) (Tryz.f29.body.getD .skip) (by kernel_rfl) rfl rfl rfl (by simp only[List.length_cons,List.length_nil];decide) rfl (by decide) ?_
 simp only[Tryz.f29,Option.getD_some,go_sem]
 repeat' first|refine rn ?_|with_reducible refine fun (_:Outc)=>?_|fail
 refine callP (f28_ok l) rfl ?_;refine sim ?_
 repeat' first|refine rn ?_|refine br fun hb=>?_|with_reducible refine And.intro ?_ ?_|fail
 ·have h1:badSpan l x:=by unfold badSpan;grind
  rw[isSpan,if_pos h1]
 ·have h1:¬badSpan l x:=by unfold badSpan;grind
  have e0:((x.pieces.length:Int) == 0)=(x.pieces.length == 0):=by cases x.pieces<;>simp;omega
  rw[isSpan,if_neg h1,if_neg (by grind),e0]
 have h1:¬badSpan l x:=by unfold badSpan;grind
 rename_i o1 o2 h2
 rw[isSpan,if_neg h1,if_pos (by assumption)]
 refine hLoop (X:=Upto x.pieces (goodPiece l)) (fun i=> ⟨[(2,.ref 2 o1.b 0),(3,.ref 3 o2.b 0),(52,piecesV x.pieces),(53,intV x.pieces.length),(54,intV i.1)],[(2,some (.cells o1.b 0 (layoutC l))),(3,some (.cells o2.b 0 (spanC x)))]⟩) (fun i=>x.pieces.length - i.1) ⟨0,by simp⟩ (by refine sim ?_;((repeat' refine And.intro ?_ ?_)<;>rfl)) ?_
 rintro ⟨i,hi,hall⟩
 refine sim ?_
 clear h2
 by_cases hlt:i < x.pieces.length
 ·obtain ⟨p,hp⟩ :=getX x.pieces hlt
  have e:=row_at pieceC hp
  have hpp:=hx.pieces p (List.mem_of_getElem? hp)
  have w4:IntKind.i64.wrap ((i:Int)+1)=((i+1:Nat):Int):=by rw[wrap_i64 (by omega) (by omega)];simp
  simp only[pieceC,intV,u64V] at e
  repeat' first|refine rnE (And.intro @e @w4) ?_|refine br fun hb=>?_|with_reducible refine And.intro ?_ ?_|with_reducible refine fun (_:Outc)=>?_|fail
  ·have hn:=good_f (l:=l) (p:=p) (by unfold badPiece;omega)
   rw[all_no hp hn];rfl
  ·have hn:=good_f (l:=l) (p:=p) (by unfold badPiece;omega)
   rw[all_no hp hn];rfl
  ·have hn:=good_t (l:=l) (p:=p) (by unfold badPiece;omega)
   refine ⟨⟨i+1,by omega,all_take hp hall hn⟩, ?_⟩
   ((repeat' refine And.intro ?_ ?_)<;>first|rfl|(dsimp only;omega))
 have:i=x.pieces.length:=by omega
 subst this
 rw[all_full (Nat.le_refl _) hall,Bool.true_and]
 have hin:SpanIn x:=by
  unfold badSpan at h1
  have hlow:=hx.low
  refine ⟨by omega,fun p hp=>?_,by omega⟩
  have h3:=hx.pieces p hp
  have h4:=List.all_eq_true.1 (all_full (Nat.le_refl _) hall) p hp
  unfold goodPiece badPiece at h4
  grind
 clear hall hlt
 refine rn ?_
 refine callA [] 1 (f20_ok x hin) ?_;rintro ret os fs ⟨o5,rfl,rfl,rfl⟩;refine sim ?_
 refine rn ?_
 have hpl:(places x).length≤101:=by
  have:=(placesAcc_in hin x.pieces.length).2
  rw[List.take_length] at this
  have h2:=hin.len
  rw[places,if_pos (by assumption)]
  omega
 refine hLoop (X:=Upto (places x) endsLow) (fun i=> ⟨[(113,.buf 1113 o5),(114,intV (places x).length),(115,intV i.1)],[(1113,some (.arr o5 154 2 (placeR (places x))))]⟩) (fun i=>(places x).length - i.1) ⟨0,by simp⟩ (by refine sim ?_;((repeat' refine And.intro ?_ ?_)<;>rfl)) ?_
 rintro ⟨i,hi,hall⟩
 refine sim ?_
 by_cases hlt:i < (places x).length
 ·obtain ⟨p,hp⟩ :=getX (places x) hlt
  have e:=placeR_get hp
  have w4:IntKind.i64.wrap ((i:Int)+1)=((i+1:Nat):Int):=by rw[wrap_i64 (by omega) (by omega)];simp
  repeat' first|refine rnE (And.intro @e @w4) ?_|refine br fun hb=>?_|with_reducible refine And.intro ?_ ?_|with_reducible refine fun (_:Outc)=>?_|fail
  ·have hn:endsLow p=false:=by simp[endsLow];omega
   rw[all_no hp hn]
  ·have hn:endsLow p=true:=by simp[endsLow];omega
   refine ⟨⟨i+1,by omega,all_take hp hall hn⟩, ?_⟩
   ((repeat' refine And.intro ?_ ?_)<;>first|rfl|(dsimp only;omega))
 have:i=(places x).length:=by omega
 subst this
 rw[all_full (Nat.le_refl _) hall]
 exact rn trivial
end
set_option maxHeartbeats 4000000
set_option maxRecDepth 10000
open Go.AM Go
section
variable {G:Nat→AV}
def inPlace (pc:Int) (p:Int×Int):Bool:=decide (p.1≤pc) && decide (pc < p.2)
def covers (x:SpanD) (pc:Int):Bool:=(places x).any (inPlace pc)
theorem places_len {x:SpanD} (hin:SpanIn x):(places x).length≤101:=by
 have:=(placesAcc_in hin x.pieces.length).2
 rw[List.take_length] at this
 have h2:=hin.len
 rw[places]
 split
 ·omega
 ·simp
theorem any_f {α:Type} {p:α→Bool} {l:List α} {i:Nat} (h:l.length≤i) (ha:(l.take i).all (fun x=>!p x)=true):l.any p=false:=by
 rw[List.take_of_length_le h] at ha
 rw[List.any_eq_false]
 simpa using ha
theorem f21_ok (x:SpanD) (hin:SpanIn x) (pc:Int):Fulfils Tryz.prog G 21 [.agg (spanC x),u64V pc] [] (retP (booV (covers x pc))):=by
 have hbig:big=140737488355328:=rfl
 have hpl:=places_len hin
 refine fulfilP (fn:=Tryz.f21) (rs:=[.tmp 4]) (Tryz.f21.body.getD .skip) (by kernel_rfl) rfl rfl rfl (by simp only[List.length_cons,List.length_nil];decide) rfl (by decide) ?_
 simp only[Tryz.f21,Option.getD_some,go_sem]
 repeat' first|refine rn ?_|with_reducible refine fun (_:Outc)=>?_|fail
 refine callA [] 1 (f20_ok x hin) ?_;rintro ret os fs ⟨o5,rfl,rfl,rfl⟩;refine sim ?_
 refine rn ?_
 refine hLoop (X:=Upto (places x) (fun p=>!inPlace pc p)) (fun i=> ⟨[(1,u64V pc),(8,.buf 1008 o5),(9,intV (places x).length),(10,intV i.1)],[(1008,some (.arr o5 154 2 (placeR (places x))))]⟩) (fun i=>(places x).length - i.1) ⟨0,by simp⟩ (by refine sim ?_;((repeat' refine And.intro ?_ ?_)<;>rfl)) ?_
 rintro ⟨i,hi,hall⟩
 refine sim ?_
 by_cases hlt:i < (places x).length
 ·obtain ⟨p,hp⟩ :=getX (places x) hlt
  have e:=placeR_get hp
  have w4:IntKind.i64.wrap ((i:Int)+1)=((i+1:Nat):Int):=by rw[wrap_i64 (by omega) (by omega)];simp
  repeat' first|refine rnE (And.intro @e @w4) ?_|refine br fun hb=>?_|with_reducible refine And.intro ?_ ?_|with_reducible refine fun (_:Outc)=>?_|fail
  ·have hn:inPlace pc p=true:=by simp[inPlace];omega
   rw[covers,List.any_eq_true.2 ⟨p,List.mem_of_getElem? hp,hn⟩]
  ·have hn:(!inPlace pc p)=true:=by simp[inPlace];omega
   refine ⟨⟨i+1,by omega,all_take hp hall hn⟩, ?_⟩
   ((repeat' refine And.intro ?_ ?_)<;>first|rfl|(dsimp only;omega))
 have:i=(places x).length:=by omega
 subst this
 refine rn ?_
 rw[covers,any_f (Nat.le_refl _) hall]
structure AttrGood (u:UnitD) (a:AttrD):Prop where
 is:isAttr u a=true
 s:a.s.length≤4096
 b:a.b.length≤4096
structure NodeGood (u:UnitD) (i:Nat) (x:NodeD):Prop where
 top:0 < i→isTop x.tag=false
 tag:0≤x.tag∧x.tag≤65535
 len:x.attrs.length≤50
 ending:x.tag=0→x.children=false∧x.sibling=false∧x.attrs.length=0
 sib:x.sibling=true→x.children=true
 attr:∀a∈x.attrs,AttrGood u a
def depthS (d:Int) (x:NodeD):Int:=if x.tag=0 then d - 1 else if x.children then d+1 else d
def dpth (l:List NodeD):Int:=l.foldl depthS 0
theorem dpth_succ {l:List NodeD} {j:Nat} {x:NodeD} (h:l[j]? =some x):dpth (l.take (j+1))=depthS (dpth (l.take j)) x:=by
 rw[take_succ h,dpth,List.foldl_append];rfl
theorem dpth_in (l:List NodeD):∀j:Nat,-(j:Int)≤dpth (l.take j)∧dpth (l.take j)≤j
 |0=>by simp[dpth]
 |j+1=>by
  have ih:=dpth_in l j
  by_cases hj:j < l.length
  ·obtain ⟨x,hx⟩ :=getX l hj
   rw[dpth_succ hx,depthS]
   repeat' split
   all_goals omega
  ·rw[List.take_of_length_le (by omega)] at ih ⊢
   omega
structure UnitGood (u:UnitD):Prop where
 version:2≤u.version∧u.version≤5
 wide:u.wide=true→3≤u.version
 size:u.size=4∨u.size=8
 len:0 < u.nodes.length∧u.nodes.length≤4096
 light:isLight [u]=true
 head:∀x,u.nodes[0]? =some x→x.tag≠0∧x.sibling=false
 after:afterOf u.nodes 0=u.nodes.length
 node:∀i x,u.nodes[i]? =some x→NodeGood u i x
 depth:dpth u.nodes=0
noncomputable def isUnit (u:UnitD):Bool:=@decide (UnitGood u) (Classical.propDecidable _)
theorem isUnit_t {u:UnitD} (h:UnitGood u):isUnit u=true:=by simp[isUnit,h]
theorem isUnit_f {u:UnitD} (h:¬UnitGood u):isUnit u=false:=by simp[isUnit,h]
theorem all_snoc {α:Type} {P:α→Prop} {l:List α} {k:Nat} {a:α} (h:l[k]? =some a) (hk:∀y∈l.take k,P y) (ha:P a):∀y∈l.take (k+1),P y:=fun y hy=>by
 rw[take_succ h,List.mem_append,List.mem_singleton] at hy
 rcases hy with hy|rfl
 ·exact hk y hy
 ·exact ha
theorem nodeBad {u:UnitD} {i:Nat} {x:NodeD} (hx:u.nodes[i]? =some x) (h:¬NodeGood u i x):isUnit u=false:=isUnit_f fun g=>h (g.node i x hx)
theorem f30_ok (u:UnitD) (hu:okUnit u):Fulfils Tryz.prog G 30 [.agg (unitC u)] [] (retP (booV (isUnit u))):=by
 have hbig:big=140737488355328:=rfl
 have hl:=hu.1
 refine fulfilP (fn:=Tryz.f30) (rs:=[.tmp 2]) (Tryz.f30.body.getD .skip) (by kernel_rfl) rfl rfl rfl (by simp only[List.length_cons,List.length_nil];decide) rfl (by decide) ?_
 simp only[Tryz.f30,Option.getD_some,go_sem]
 repeat' first|refine rn ?_|refine br fun hb=>?_|with_reducible refine And.intro ?_ ?_|with_reducible refine fun (_:Outc)=>?_|fail
 ·rw[isUnit_f]
  rintro h
  have h1:=h.version
  have h2:=h.wide
  have h3:=h.size
  have h4:=h.len
  grind
 rename Outc=>o1
 have hok:okUnits [u]:= ⟨by simp[hbig],by simpa using hu⟩
 obtain ⟨n0,hn0⟩ :=getX u.nodes (i:=0) (by omega)
 have e0:=row_at nodeC hn0
 refine hRegionD ((fun jx _=>if jx=2 then (pureI 62 [unitsV [u]] True (booV (isLight [u])) (fun _=>f62_ok [u] hok),([],[48])) else if jx=22 then (pureI 63 [nodesV u.nodes,intV 0] True (intV (afterOf u.nodes 0)) (fun _=>f63_ok u.nodes hl 0 (by omega)),([],[])) else (default,([],[])))) [0,1,2,3,4,5,6,7,8,9,10,11,12,13,14,15,16,17,18,19,20,21,22,23,24,25,26,27] [0,1,3,7,15,31,63,127,255,511,1023,2047,4095,8191,16383,32767,65535,131071,262143,524287,1048575,2097151,4194303,1048575,9437183,26214399,67108863,134217727] [] mixed (by kernel_rfl) ?_
 refine sim ?_
 intro ob
 refine callDF trivial sT sT (by simp) ?_
 simp only[nodeC,intV,booV] at e0
 refine simE @e0 ?_
 repeat' first|refine rn ?_|refine br fun hb=>?_|with_reducible refine And.intro ?_ ?_|omega
 refine callGDP (fun _=>trivial) (fun hg=> ⟨rfl,by simpa [cndOK] using hg⟩) ?_
 refine sim ?_
 repeat' first|refine rn ?_|refine br fun hb=>?_|with_reducible refine And.intro ?_ ?_|fail
 ·rw[isUnit_f]
  rintro h
  have h1:=h.head n0 hn0
  have h2:=h.light
  have h3:=h.after
  grind
 have g1:isLight [u]=true∧(n0.tag≠0∧n0.sibling=false)∧afterOf u.nodes 0=u.nodes.length:=by grind
 clear hb
 have hlen:u.nodes.length≤4096:=by omega
 refine hLoop (X:={i:Nat // i≤u.nodes.length∧∀j < i,∀x,u.nodes[j]? =some x→NodeGood u j x}) (fun i=> ⟨[(1,.ref 1 o1.b 0),(3,intV (dpth (u.nodes.take i.1))),(76,nodesV u.nodes),(77,intV u.nodes.length),(78,intV i.1)],[(1,some (.cells o1.b 0 (unitC u)))]⟩) (fun i=>u.nodes.length - i.1) ⟨0,by simp⟩ (by refine sim ?_;((repeat' refine And.intro ?_ ?_)<;>rfl)) ?_
 rintro ⟨i,hi,hall⟩
 refine sim ?_
 clear e0
 by_cases hlt:i < u.nodes.length
 ·obtain ⟨x,hx⟩ :=getX u.nodes hlt
  have e:=row_at nodeC hx
  have hxo:=hu.2 x (List.mem_of_getElem? hx)
  have hd:=dpth_in u.nodes i
  have hs:=dpth_succ hx
  generalize dpth (u.nodes.take i)=d at *
  have w1:IntKind.i64.wrap (d - 1)=d - 1:=wrap_i64 (by omega) (by omega)
  have w2:IntKind.i64.wrap (d+1)=d+1:=wrap_i64 (by omega) (by omega)
  have w4:IntKind.i64.wrap ((i:Int)+1)=((i+1:Nat):Int):=by rw[wrap_i64 (by omega) (by omega)];simp
  simp only[nodeC,intV,booV] at e
  repeat' first|refine rnE (And.intro @e (And.intro @w1 @w2)) ?_|with_reducible refine fun (_:Outc)=>?_|fail
  refine callGP (booV (isTop x.tag)) (fun _=>f64_ok x.tag) (fun hg=> ⟨rfl,by simpa [cndOK] using hg⟩) ?_
  refine sim ?_
  repeat' first|refine rnE (And.intro @w1 @w2) ?_|refine br fun hb=>?_|with_reducible refine And.intro ?_ ?_|fail
  ·rw[nodeBad hx];intro h;have:=h.top;grind
  all_goals try (rw[nodeBad hx];intro h;have h1:=h.tag;have h2:=h.len;have h3:=h.ending;have h4:=h.sib;grind)
  all_goals
   have h50:x.attrs.length≤50:=by omega
   have hng:(0 < i→isTop x.tag=false)∧(x.tag=0→x.children=false∧x.sibling=false∧x.attrs.length=0)∧(x.sibling=true→x.children=true):=by grind
   have htag:0≤x.tag∧x.tag≤65535:=by omega
   first
    |have hds:depthS d x=d - 1:=by unfold depthS;grind
    |have hds:depthS d x=d+1:=by unfold depthS;grind
    |have hds:depthS d x=d:=by unfold depthS;grind
   refine hLoop (X:={k:Nat // k≤x.attrs.length∧∀a∈x.attrs.take k,AttrGood u a}) (fun k=> ⟨[(1,.ref 1 o1.b 0),(3,intV (depthS d x)),(76,nodesV u.nodes),(77,intV u.nodes.length),(78,intV i),(144,attrsV x.attrs),(145,intV x.attrs.length),(146,intV k.1)],[(1,some (.cells o1.b 0 (unitC u)))]⟩) (fun k=>x.attrs.length - k.1) ⟨0,by simp⟩ (by refine simE @hds ?_;((repeat' refine And.intro ?_ ?_)<;>rfl)) ?_
   clear hb
   rintro ⟨k,hk,hka⟩
   refine sim ?_
   by_cases hkl:k < x.attrs.length
   ·obtain ⟨a,ha⟩ :=getX x.attrs hkl
    have ea:=row_at attrC ha
    have hao:=hxo.2 a (List.mem_of_getElem? ha)
    have hao2:=hao.1
    have hao3:=hao.2
    have w5:IntKind.i64.wrap ((k:Int)+1)=((k+1:Nat):Int):=by rw[wrap_i64 (by omega) (by omega)];simp
    simp only[attrC,intV,booV,u64V,strV,bytesV] at ea
    repeat' first|refine rnE @ea ?_|with_reducible refine fun (_:Outc)=>?_|omega
    all_goals (refine callP (f65_ok u a hao ⟨by omega,by omega⟩) rfl ?_;refine sim ?_;repeat' first|refine rnE @w5 ?_|refine br fun hb=>?_|with_reducible refine And.intro ?_ ?_|fail)
    all_goals try (rw[nodeBad hx];intro h;have h1:=h.attr a (List.mem_of_getElem? ha);have h2:=h1.is;have h3:=h1.s;have h4:=h1.b;grind)
    all_goals (refine ⟨⟨k+1,by omega,all_snoc ha hka ⟨by grind,by omega,by omega⟩⟩, ?_⟩;((repeat' refine And.intro ?_ ?_)<;>first|rfl|(dsimp only;omega)))
   ·have:k=x.attrs.length:=by omega
    subst this
    repeat' first|refine rnE @w4 ?_|fail
    refine ⟨⟨i+1,by omega,fun j hj y hy=>?_⟩, ?_⟩
    ·rcases Nat.lt_or_ge j i with h|h
     ·exact hall j h y hy
     ·have:j=i:=by omega
      subst this
      rw[hx] at hy
      cases hy
      rw[List.take_length] at hka
      exact ⟨hng.1,htag,h50,hng.2.1,hng.2.2,hka⟩
    ·simp only[hs]
     all_goals ((repeat' refine And.intro ?_ ?_)<;>first|omega|(simp;done))
 have:i=u.nodes.length:=by omega
 subst this
 refine rn ?_
 have hv:(dpth u.nodes == 0)=isUnit u:=by
  by_cases h0:dpth u.nodes=0
  ·rw[isUnit_t ⟨by omega,by grind,by omega,by omega,g1.1,fun y hy=>by rw[hn0] at hy;cases hy;exact g1.2.1,g1.2.2,fun j y hy=>hall j (List.getElem?_eq_some_iff.1 hy).1 y hy,h0⟩,h0];rfl
  ·rw[isUnit_f fun h=>h0 h.depth,beq_eq_false_iff_ne];exact h0
 rw[hv]
end
set_option maxHeartbeats 4000000
set_option maxRecDepth 10000
open Go.AM Go
section
variable {G:Nat→AV}
noncomputable def areUnits (l:List UnitD):Bool:=decide (1≤l.length) && decide (l.length≤8) && isLight l && l.all isUnit
theorem f31_ok (l:List UnitD) (hl:okUnits l):Fulfils Tryz.prog G 31 [unitsV l] [] (retP (booV (areUnits l))):=by
 have hbig:big=140737488355328:=rfl
 have hll:=hl.1
 refine fulfilP (fn:=Tryz.f31) (rs:=[.tmp 2]) (Tryz.f31.body.getD .skip) (by kernel_rfl) rfl rfl rfl (by simp only[List.length_cons,List.length_nil];decide) rfl (by decide) ?_
 simp only[Tryz.f31,Option.getD_some,go_sem]
 refine rn ?_
 refine callGP (booV (isLight l)) (fun _=>f62_ok l hl) (fun hg=> ⟨rfl,by simpa [cndOK] using hg⟩) ?_
 refine sim ?_
 repeat' first|refine rn ?_|refine br fun hb=>?_|with_reducible refine And.intro ?_ ?_|fail
 ·have:areUnits l=false:=by unfold areUnits;grind
  rw[this]
 have h0:areUnits l=l.all isUnit:=by unfold areUnits;grind
 rw[h0]
 refine hLoop (X:=Upto l isUnit) (fun i=> ⟨[(18,unitsV l),(19,intV l.length),(20,intV i.1)],[]⟩) (fun i=>l.length - i.1) ⟨0,by simp⟩ (by refine sim ?_;((repeat' refine And.intro ?_ ?_)<;>rfl)) ?_
 rintro ⟨i,hi,hall⟩
 refine sim ?_
 by_cases hlt:i < l.length
 ·obtain ⟨x,hx⟩ :=getX l hlt
  have e:=row_at unitC hx
  have hxo:=hl.2 x (List.mem_of_getElem? hx)
  have w4:IntKind.i64.wrap ((i:Int)+1)=((i+1:Nat):Int):=by rw[wrap_i64 (by omega) (by omega)];simp
  simp only[unitC,intV,booV] at e
  repeat' first|refine rnE @e ?_|with_reducible refine fun (_:Outc)=>?_|fail
  refine callP (f30_ok x hxo) rfl ?_
  refine sim ?_
  repeat' first|refine rnE @w4 ?_|refine br fun hb=>?_|with_reducible refine And.intro ?_ ?_|fail
  ·rw[all_no hx (by grind)]
  ·refine ⟨⟨i+1,by omega,all_take hx hall (by grind)⟩, ?_⟩
   ((repeat' refine And.intro ?_ ?_)<;>first|rfl|(dsimp only;omega))
 have:i=l.length:=by omega
 subst this
 rw[all_full (Nat.le_refl _) hall]
 exact rn trivial
structure SpannedGood (l:LayoutD) (sp:List SpanD) (us:List UnitD):Prop where
 lay:isLayout l=true
 len:0 < us.length∧us.length≤4
 same:sp.length=us.length
 span:∀(i:Nat) (x:SpanD),sp[i]? =some x→isSpan l x=true
 unit:∀(i:Nat) (u:UnitD),us[i]? =some u→(u.version=l.version∧u.wide=l.wide∧u.size=l.size)∧isUnit u=true
 units:areUnits us=true
noncomputable def areSpanned (l:LayoutD) (sp:List SpanD) (us:List UnitD):Bool:=@decide (SpannedGood l sp us) (Classical.propDecidable _)
theorem areSpanned_t {l:LayoutD} {sp:List SpanD} {us:List UnitD} (h:SpannedGood l sp us):areSpanned l sp us=true:=by simp[areSpanned,h]
theorem areSpanned_f {l:LayoutD} {sp:List SpanD} {us:List UnitD} (h:¬SpannedGood l sp us):areSpanned l sp us=false:=by simp[areSpanned,h]
def inSpans (l:List SpanD):Prop:=l.length≤big∧∀x∈l,SpanR x
theorem f9_ok (l:LayoutD) (sp:List SpanD) (us:List UnitD) (hsp:inSpans sp) (hus:okUnits us):Fulfils Tryz.prog G 9 [.agg (layoutC l),spansV sp,unitsV us] [] (retP (booV (areSpanned l sp us))):=by
 have hbig:big=140737488355328:=rfl
 have hl1:=hsp.1
 have hl2:=hus.1
 refine fulfilP (fn:=Tryz.f9) (rs:=[.tmp 6]) (Tryz.f9.body.getD .skip) (by kernel_rfl) rfl rfl rfl (by simp only[List.length_cons,List.length_nil];decide) rfl (by decide) ?_
 simp only[Tryz.f9,Option.getD_some,go_sem]
 repeat' first|refine rn ?_|with_reducible refine fun (_:Outc)=>?_|fail
 refine callP (f28_ok l) rfl ?_
 refine sim ?_
 repeat' first|refine rn ?_|refine br fun hb=>?_|with_reducible refine And.intro ?_ ?_|fail
 ·rw[areSpanned_f]
  intro h
  have h1:=h.lay
  have h2:=h.len
  have h3:=h.same
  grind
 rename Outc=>o1
 have hg:isLayout l=true∧(0 < us.length∧us.length≤4)∧sp.length=us.length:=by grind
 clear hb
 refine hLoop (X:={i:Nat // i≤us.length∧∀j < i,(∀x,sp[j]? =some x→isSpan l x=true)∧∀u,us[j]? =some u→(u.version=l.version∧u.wide=l.wide∧u.size=l.size)∧isUnit u=true}) (fun i=> ⟨[(1,spansV sp),(2,unitsV us),(3,.ref 3 o1.b 0),(29,unitsV us),(30,intV us.length),(31,intV i.1)],[(3,some (.cells o1.b 0 (layoutC l)))]⟩) (fun i=>us.length - i.1) ⟨0,by simp⟩ (by refine sim ?_;((repeat' refine And.intro ?_ ?_)<;>rfl)) ?_
 rintro ⟨i,hi,hall⟩
 refine sim ?_
 by_cases hlt:i < us.length
 ·obtain ⟨u,hx⟩ :=getX us hlt
  obtain ⟨x,hy⟩ :=getX sp (i:=i) (by omega)
  have e:=row_at unitC hx
  have e2:=row_at spanC hy
  have hxo:=hus.2 u (List.mem_of_getElem? hx)
  have hyo:=hsp.2 x (List.mem_of_getElem? hy)
  have w4:IntKind.i64.wrap ((i:Int)+1)=((i+1:Nat):Int):=by rw[wrap_i64 (by omega) (by omega)];simp
  simp only[unitC,spanC,intV,booV,u64V] at e e2
  repeat' first|refine rnE (And.intro @e @e2) ?_|with_reducible refine fun (_:Outc)=>?_|fail
  refine hRegionD ((fun jx _=>if jx=5 then (pureI 29 [.agg (layoutC l),.agg (spanC x)] True (booV (isSpan l x)) (fun _=>f29_ok l x hyo),([],[])) else if jx=30 then (pureI 30 [.agg (unitC u)] True (booV (isUnit u)) (fun _=>f30_ok u hxo),([],[])) else (default,([],[])))) [0,1,2,3,4,5,6,7,8,9,10,11,12,13,14,15,16,17,18,19,20,21,22,23,24,25,26,27,28,29,30,31,32] [0,0,0,6,14,31,63,127,255,511,255,1279,4095,8191,16383,32767,65535,32767,163839,524287,1048575,2097151,4194303,8388607,4194303,20971519,67108863,134217727,268435455,536870911,1073741823,2147483647,4294967295] [] mixed (by kernel_rfl) ?_
  refine simE (And.intro @e @e2) ?_
  refine ⟨⟨by omega,by omega⟩, ?_⟩
  refine callDP trivial rfl ?_
  refine simE (And.intro @e @e2) ?_
  refine rn ?_
  refine callGDP (fun _=>trivial) (fun hg=> ⟨rfl,by simpa [cndOK] using hg⟩) ?_
  refine sim ?_
  repeat' first|refine rnE @w4 ?_|refine br fun hb=>?_|with_reducible refine And.intro ?_ ?_|fail
  ·rw[areSpanned_f]
   intro h
   have h1:=h.span i x hy
   have h2:=h.unit i u hx
   grind
  ·refine ⟨⟨i+1,by omega,fun j hj=>?_⟩, ?_⟩
   ·rcases Nat.lt_or_ge j i with h|h
    ·exact hall j h
    ·have:j=i:=by omega
     subst this
     refine ⟨fun y h1=>?_,fun y h1=>?_⟩
     ·rw[hy] at h1;cases h1;grind
     ·rw[hx] at h1;cases h1;grind
   ·((repeat' refine And.intro ?_ ?_)<;>first|rfl|(dsimp only;omega))
 have:i=us.length:=by omega
 subst this
 refine rn ?_
 refine callP (f31_ok us hus) rfl ?_
 refine sim ?_
 refine rn ?_
 have:areSpanned l sp us=areUnits us:=by
  cases h:areUnits us
  ·exact areSpanned_f fun g=>by rw[g.units] at h;cases h
  ·exact areSpanned_t ⟨hg.1,hg.2.1,hg.2.2,fun j y hj=>(hall j (by have:=(List.getElem?_eq_some_iff.1 hj).1;omega)).1 y hj,fun j y hj=>(hall j (List.getElem?_eq_some_iff.1 hj).1).2 y hj,h⟩
 rw[this]
end
set_option maxHeartbeats 4000000
set_option maxRecDepth 10000
open Go.AM Go
section
variable {G:Nat→AV}
structure FileR where
 none:Bool
 name:Bytes
 mtime:Int
 length:Int
structure RowD where
 address:Int
 opIndex:Int
 file:FileR
 line:Int
 column:Int
 isStmt:Bool
 basic:Bool
 pro:Bool
 epi:Bool
 isa:Int
 disc:Int
 ends:Bool
structure MachD where
 row:RowD
 file:Int
 files:List FileD
 rows:List RowD
 known:List Int
 bad:Bool
def fileRC (f:FileR):List AV:=[booV f.none,strV f.name,u64V f.mtime,intV f.length]
def rowC (r:RowD):List AV:=[u64V r.address,intV r.opIndex,booV r.file.none,strV r.file.name,u64V r.file.mtime,intV r.file.length,intV r.line,intV r.column,booV r.isStmt,booV r.basic,booV r.pro,booV r.epi,intV r.isa,intV r.disc,booV r.ends]
def machK (t:TableD) (m:MachD) (hf hr hk:Value) (k1 k2 k3:Nat):List AV:=[intV t.version,booV t.wide,booV t.big,intV t.size,intV t.minInst,intV t.maxOps,booV t.isStmt,intV t.lineBase,intV t.lineRange,intV t.opcodeBase,
 intsV t.operands,intV t.shape,intV t.pad,strsV t.dirs,filesV t.files,opsV t.ops,u64V m.row.address,intV m.row.opIndex,booV m.row.file.none,strV m.row.file.name,u64V m.row.file.mtime,intV m.row.file.length,intV m.row.line,intV m.row.column,
 booV m.row.isStmt,booV m.row.basic,booV m.row.pro,booV m.row.epi,intV m.row.isa,intV m.row.disc,booV m.row.ends,intV m.file,.buf k1 hf,.buf k2 hr,.buf k3 hk,booV m.bad]
def machC (t:TableD) (m:MachD) (hf hr hk:Value):List AV:=machK t m hf hr hk 1 2 3
def rowsR (l:List RowD):List (List AV):=l.map rowC
def machO (t:TableD) (b:Nat) (m:MachD) (hf hr hk:Value):List AObj:=[.cells b 0 (machC t m hf hr hk),.arr hf 107 4 (m.files.map fileC),.arr hr 76 15 (rowsR m.rows),.arr hk 3 1 (intsR m.known)]
def retM (t:TableD) (b:Nat) (m:MachD):(Nat→AV)→List (Option AObj)→List (Option AObj)→Prop:=fun ret os fs=>∃hf hr hk,ret=(fun _=>.tup [])∧os=(machO t b m hf hr hk).map some∧fs=[]
attribute [go_sem] fileRC rowC machK machC machO
def noFile:FileR:= ⟨false,[],0,0⟩
def resetM (t:TableD) (m:MachD):MachD:={ m with row:= ⟨0,0,noFile,1,0,t.isStmt,false,false,false,0,0,false⟩,file:=1 }
theorem f33_ok (t:TableD) (b:Nat) (m:MachD) (hf hr hk:Value):Fulfils Tryz.prog G 33 [.ref 0 b 0] (machO t b m hf hr hk) (retM t b (resetM t m)):=by
 have hbig:big=140737488355328:=rfl
 refine fulfilA Tryz.f33 [] 4 ?_
 simp only[Tryz.f33,Option.getD_some,go_sem]
 refine rn ?_
 refine doneA [] ?_;try exact trivial
 exact ⟨_,_,_,rfl,rfl,rfl⟩
def advM (t:TableD) (m:MachD) (n:Int):MachD:=
 { m with row:={ m.row with address:=IntKind.u64.wrap (m.row.address+IntKind.u64.wrap (IntKind.i64.wrap (t.minInst * IntKind.i64.wrap ((IntKind.i64.wrap (m.row.opIndex+n)).tdiv t.maxOps)))),opIndex:=(IntKind.i64.wrap (m.row.opIndex+n)).tmod t.maxOps } }
theorem f70_ok (t:TableD) (b:Nat) (m:MachD) (hf hr hk:Value) (n:Int) (ho:t.maxOps≠0):Fulfils Tryz.prog G 70 [.ref 0 b 0,intV n] (machO t b m hf hr hk) (retM t b (advM t m n)):=by
 have hbig:big=140737488355328:=rfl
 refine fulfilA Tryz.f70 [] 4 ?_
 simp only[Tryz.f70,Option.getD_some,go_sem]
 refine rn ?_
 refine hRegionD (noChi) [0,1,2,3,4,5,6,7,8,9,10,11,12,13,14,15,16,17,18,19,20,21,22,23,24] [0,0,2,6,14,30,0,64,192,448,960,0,0,4096,12288,28672,61440,129024,262080,524224,1048574,2097151,4194303,8388607,16777215] [] mixed (by kernel_rfl) ?_
 refine sim ?_
 refine rn ?_
 refine doneA [] ?_;try exact trivial
 exact ⟨_,_,_,rfl,rfl,rfl⟩
def dirOf (t:TableD) (f:FileD):Int:=if t.version < 5 then IntKind.i64.wrap (f.dir - 1) else f.dir
def nameOf (t:TableD) (f:FileD):Bytes:=if t.dirs.length=0∨dirOf t f < 0∨(t.dirs.length:Int)≤dirOf t f then f.name else t.dirs.getD (dirOf t f).toNat []++[47]++f.name
theorem bs_app (a c:Bytes):(⟨a.toArray⟩ :ByteArray)++ ⟨c.toArray⟩ = ⟨(a++c).toArray⟩ :=by
 apply ByteArray.ext
 simp
theorem f154_ok (t:TableD) (f:FileD) (hd:t.dirs.length≤big) (hl:∀s∈t.dirs,s.length≤4096) (hn:f.name.length≤100000):Fulfils Tryz.prog G 154 [.agg (tableC t),.agg (fileC f)] [] (retP (strV (nameOf t f))):=by
 have hbig:big=140737488355328:=rfl
 refine fulfilP (fn:=Tryz.f154) (rs:=[.tmp 4]) (Tryz.f154.body.getD .skip) (by kernel_rfl) rfl rfl rfl (by simp only[List.length_cons,List.length_nil];decide) rfl (by decide) ?_
 simp only[Tryz.f154,Option.getD_some,go_sem]
 by_cases hv:t.version < 5
 all_goals first
  |have hd0:IntKind.i64.wrap (f.dir - 1)=dirOf t f:=(if_pos hv).symm
  |have hd0:f.dir=dirOf t f:=(if_neg hv).symm
 all_goals repeat' first|refine rnE @hd0 ?_|refine br fun hb=>?_|with_reducible refine And.intro ?_ ?_|with_reducible refine fun (_:Outc)=>?_|fail
 all_goals first
  |(rw[nameOf,if_pos (by omega)];done)
  |(obtain ⟨x,hx⟩ :=getX t.dirs (i:=(dirOf t f).toNat) (by omega)
    have e:=row_at (fun s=>[AV.val (.string ⟨s.toArray⟩)]) hx
    have hxl:=hl x (List.mem_of_getElem? hx)
    have hnm:nameOf t f=x++[47]++f.name:=by
     rw[nameOf,if_neg (by omega),List.getD_eq_getElem?_getD,hx];rfl
    rw[hnm]
    refine hRegionD (noChi) [0,1,2,3,4,5,6,7,8,9] [0,1,0,7,15,31,0,64,255,511] [] mixed (by kernel_rfl) ?_
    refine simE (And.intro @hd0 @e) ?_
    repeat' first|refine rn ?_|with_reducible refine And.intro ?_ ?_|fail
    ·simp;omega
    ·simp;omega
    ·rw[bs_app,bs_app])
def numM (t:TableD) (n:Int):Int:=if t.version < 5 then IntKind.i64.wrap (n - 1) else n
def fileAt (t:TableD) (l:List FileD) (k:Int):FileR×Bool:=
 if k= -1 then (⟨true,[],0,0⟩,true)
 else if k < 0 then (noFile,false)
 else match l[k.toNat]? with
  |some f=>(⟨false,nameOf t f,f.mtime,f.length⟩,true)
  |none=>(noFile,false)
theorem fileAt_m {t:TableD} {l:List FileD} {k:Int} (h:k= -1):fileAt t l k=(⟨true,[],0,0⟩,true):=if_pos h
theorem fileAt_no {t:TableD} {l:List FileD} {k:Int} (h:k≠-1) (h2:¬(0≤k∧k < l.length)):fileAt t l k=(noFile,false):=by
 rw[fileAt,if_neg h]
 by_cases h3:k < 0
 ·rw[if_pos h3]
 ·rw[if_neg h3,List.getElem?_eq_none (by omega)]
theorem fileAt_at {t:TableD} {l:List FileD} {k:Int} {f:FileD} (h:0≤k) (hx:l[k.toNat]? =some f):fileAt t l k=(⟨false,nameOf t f,f.mtime,f.length⟩,true):=by
 rw[fileAt,if_neg (by omega),if_neg (by omega),hx]
theorem f111_ok (t:TableD) (b:Nat) (m:MachD) (hf hr hk:Value) (n:Int) (hd:t.dirs.length≤big) (hl:∀s∈t.dirs,s.length≤4096) (hn:∀f∈m.files,f.name.length≤100000) (hfl:m.files.length≤big):
  Fulfils Tryz.prog G 111 [.ref 0 b 0,intV n] (machO t b m hf hr hk) (fun ret os fs=>ret=(fun _=>.tup [.agg (fileRC (fileAt t m.files (numM t n)).1),booV (fileAt t m.files (numM t n)).2])∧os=(machO t b m hf hr hk).map some∧fs=[]):=by
 have hbig:big=140737488355328:=rfl
 refine fulfilA Tryz.f111 [.cell 4 74,.tmp 5] 4 ?_
 simp only[Tryz.f111,Option.getD_some,go_sem]
 by_cases hv:t.version < 5
 all_goals first
  |(obtain ⟨k,hk1⟩ :∃k,IntKind.i64.wrap (n - 1)=k:= ⟨_,rfl⟩
    have hk0:numM t n=k:=(if_pos hv).trans hk1
    rw[hk0]
    clear hk0)
  |(obtain ⟨k,rfl⟩ :∃k,k=n:= ⟨_,rfl⟩
    have hk0:numM t k=k:=if_neg hv
    rw[hk0]
    clear hk0
    have hk1:=True.intro)
 all_goals by_cases h1:k= -1
 ·rw[fileAt_m h1]
  repeat' first|refine rnE @hk1 ?_|with_reducible refine fun (_:Outc)=>?_|fail
  refine doneA [] ?_;try exact trivial
 rotate_left
 ·rw[fileAt_m h1]
  repeat' first|refine rn ?_|with_reducible refine fun (_:Outc)=>?_|fail
  refine doneA [] ?_;try exact trivial
 all_goals
  by_cases h2:0≤k∧k < m.files.length
  ·obtain ⟨f,hx⟩ :=getX m.files (i:=k.toNat) (by omega)
   have e:=row_at fileC hx
   rw[fileAt_at h2.1 hx]
   simp only[fileC,strV,intV,u64V] at e
   first
    |repeat' first|refine rnE (And.intro @hk1 @e) ?_|with_reducible refine fun (_:Outc)=>?_|fail
    |repeat' first|refine rnE @e ?_|refine br fun hb=>?_|with_reducible refine And.intro ?_ ?_|with_reducible refine fun (_:Outc)=>?_|omega|exact trivial|fail
   refine hRegionD (fun jx _=>if jx=5 then mkC [] 42 0 [] (f154_ok t f hd hl (hn f (List.mem_of_getElem? hx))) else (default,([],[]))) [0,1,2,3,4,6,7,8,9,5,10,11,12] [0,1,3,7,0,31,0,64,0,256,1023,2047,4095] [(7,5),(9,5)] mixed (by kernel_rfl) ?_
   refine sim ?_
   (skip);refine callDA ?_;rintro ret os fs ⟨rfl,rfl,rfl⟩;refine sim ?_
   repeat' first|refine rn ?_|fail
   refine doneA [] ?_;try exact trivial
  ·rw[fileAt_no h1 h2]
   first
    |repeat' first|refine rnE @hk1 ?_|with_reducible refine fun (_:Outc)=>?_|fail
    |repeat' first|refine rn ?_|refine br fun hb=>?_|with_reducible refine And.intro ?_ ?_|with_reducible refine fun (_:Outc)=>?_|omega|exact trivial|fail
   refine doneA [] ?_;try exact trivial
   rfl
end
set_option maxHeartbeats 4000000
set_option maxRecDepth 10000
open Go.AM Go
section
variable {G:Nat→AV}
structure MachIn (t:TableD) (m:MachD):Prop where
 dirs:t.dirs.length≤big
 dir:∀s∈t.dirs,s.length≤4096
 file:∀f∈m.files,f.name.length≤100000
 files:m.files.length≤1000000
 rows:m.rows.length≤1000000
 known:m.known.length≤1000000
def emitM (t:TableD) (m:MachD):MachD:=
 let f:=fileAt t m.files (numM t m.file)
 ⟨{ m.row with file:=f.1,basic:=false,pro:=false,epi:=false,disc:=0 },m.file,m.files,m.rows++[{ m.row with file:=f.1 }],m.known++[(m.files.length:Int)],m.bad || !f.2⟩
theorem turnR_int {f:AV→AV} [Still f] (l:List Int):turnR f (l.map fun n=>[AV.val (.int .i64 n)])=l.map fun n=>[AV.val (.int .i64 n)]:=turnR_map (fun b=>by simp only[turnL,AV.turn,Still.i]) l
theorem turnR_str {f:AV→AV} [Still f] (l:List Bytes):turnR f (l.map fun s=>[AV.val (.string ⟨s.toArray⟩)])=l.map fun s=>[AV.val (.string ⟨s.toArray⟩)]:=turnR_map (fun b=>by simp only[turnL,AV.turn,Still.s]) l
theorem turnR_row {f:AV→AV} [Still f] (l:List RowD):turnR f (rowsR l)=rowsR l:=turnR_map (fun b=>by simp only[rowC,intV,u64V,booV,strV,turnL,AV.turn,Still.s,Still.b,Still.i]) l
theorem rowsR_length (l:List RowD):(rowsR l).length=l.length:=by simp[rowsR]
theorem snoc_r (l:List RowD) (r:RowD):rowsR l++[[AV.val (.int .u64 r.address),.val (.int .i64 r.opIndex),.val (.bool r.file.none),.val (.string ⟨r.file.name.toArray⟩),.val (.int .u64 r.file.mtime),.val (.int .i64 r.file.length),.val (.int .i64 r.line),.val (.int .i64 r.column),.val (.bool r.isStmt),.val (.bool r.basic),.val (.bool r.pro),.val (.bool r.epi),.val (.int .i64 r.isa),.val (.int .i64 r.disc),.val (.bool r.ends)]]=rowsR (l++[r]):=by simp only[rowsR,List.map_append,List.map_cons,List.map_nil];rfl
attribute [go_sem] turnR_int turnR_str turnR_row rowsR_length
theorem f71_ok (t:TableD) (b:Nat) (m:MachD) (hf hr hk:Value) (hm:MachIn t m):Fulfils Tryz.prog G 71 [.ref 0 b 0] (machO t b m hf hr hk) (retM t b (emitM t m)):=by
 have hbig:big=140737488355328:=rfl
 have h1:=hm.files
 have h2:=hm.rows
 have h3:=hm.known
 have es:=snoc_r m.rows { m.row with file:=(fileAt t m.files (numM t m.file)).1 }
 dsimp only at es
 refine fulfilA Tryz.f71 [] 4 ?_
 simp only[Tryz.f71,Option.getD_some,go_sem]
 refine hEnt (eKey 2 1002 sT (by decide)) ?_;refine sim ?_
 refine rn ?_
 refine callA [0,1,1002,3] 0 (f111_ok t b m hf hr hk m.file hm.dirs hm.dir hm.file (by omega)) ?_;rintro ret os fs ⟨rfl,rfl,rfl⟩;refine sim ?_
 with_reducible refine fun (_:Outc)=>?_
 refine hEnt (eKey 2 3002 sT (by decide)) ?_;refine sim ?_
 refine hEnt (eKey 1002 2 sT (by decide)) ?_;refine sim ?_
 refine rn ?_
 refine hRegionD (noChi) [0,1,2,3,4,5,6,7,8,9,10,11,12,13] [0,0,2,6,14,0,32,96,224,480,1022,2047,4095,8191] [(4,9)] mixed (by kernel_rfl) ?_
 refine simE @es ?_
 repeat' first|refine rn ?_|with_reducible refine fun (_:Outc)=>?_|fail
 refine hRegionD (noChi) [0,1,2,3,4,5,6,7,8,9,10,11,12,13,14] [0,0,2,6,14,0,32,96,224,480,992,2046,4095,8191,16383] [(4,10)] mixed (by kernel_rfl) ?_
 refine sim ?_
 repeat' first|refine rn ?_|with_reducible refine fun (_:Outc)=>?_|fail
 refine doneA [] ?_;try exact trivial
 exact ⟨_,_,_,rfl,rfl,rfl⟩
def standM (t:TableD) (m:MachD) (o:OpD):MachD:=
 let n:=IntKind.i64.wrap (o.n.tmod 2147483649)
 let m:={ m with bad:=m.bad || (o.kind == 9 && m.row.opIndex != 0) }
 if o.kind=1 then emitM t m
 else if o.kind=2 then advM t m n
 else if o.kind=3 then { m with row:={ m.row with line:=IntKind.i64.wrap (m.row.line+o.m) } }
 else if o.kind=4 then { m with file:=n }
 else if o.kind=5 then { m with row:={ m.row with column:=n } }
 else if o.kind=6 then { m with row:={ m.row with isStmt:=!m.row.isStmt } }
 else if o.kind=7 then { m with row:={ m.row with basic:=true } }
 else if o.kind=8 then advM t m (IntKind.i64.wrap ((IntKind.i64.wrap (255 - t.opcodeBase)).tdiv t.lineRange))
 else if o.kind=9 then { m with row:={ m.row with address:=IntKind.u64.wrap (m.row.address+o.n.tmod 65536) } }
 else if o.kind=10 then { m with row:={ m.row with pro:=true } }
 else if o.kind=11 then { m with row:={ m.row with epi:=true } }
 else if o.kind=12 then { m with row:={ m.row with isa:=n } }
 else m
theorem f72_ok (t:TableD) (b:Nat) (m:MachD) (hf hr hk:Value) (o:OpD) (hm:MachIn t m) (h1:t.maxOps≠0) (h2:t.lineRange≠0):Fulfils Tryz.prog G 72 [.ref 0 b 0,.agg (opC o)] (machO t b m hf hr hk) (retM t b (standM t m o)):=by
 have hbig:big=140737488355328:=rfl
 refine fulfilA Tryz.f72 [] 4 ?_
 simp only[Tryz.f72,Option.getD_some,go_sem]
 refine hEnt (eKey 3 1003 sT (by decide)) ?_;refine sim ?_
 (refine s1 ?_;refine hRegion (sim ?_);with_reducible refine fun (_:Outc)=>?_)
 refine hEnt (eKey 3 3003 sT (by decide)) ?_;refine sim ?_
 refine hEnt (eKey 1003 3 sT (by decide)) ?_;refine sim ?_
 repeat' first|refine rn ?_|refine br fun hb=>?_|with_reducible refine And.intro ?_ ?_|fail
 all_goals unfold standM
 all_goals dsimp only
 all_goals repeat' first|rw[if_pos ‹_›]|rw[if_neg ‹_›]
 ·refine callA [0,1,2,3] 0 (f71_ok t b { m with bad:=m.bad || (o.kind == 9 && m.row.opIndex != 0) } hf hr hk ⟨hm.dirs,hm.dir,hm.file,hm.files,hm.rows,hm.known⟩) ?_;rintro ret os fs ⟨hf',hr',hk',rfl,rfl,rfl⟩;refine sim ?_
  skip
  refine doneA [] ?_;try exact trivial
  exact ⟨_,_,_,rfl,rfl,rfl⟩
 ·refine callA [0,1,2,3] 0 (f70_ok t b { m with bad:=m.bad || (o.kind == 9 && m.row.opIndex != 0) } hf hr hk _ h1) ?_;rintro ret os fs ⟨hf',hr',hk',rfl,rfl,rfl⟩;refine sim ?_
  skip
  refine doneA [] ?_;try exact trivial
  exact ⟨_,_,_,rfl,rfl,rfl⟩
 ·refine hRegionD (noChi) [0,1,2,3,4,5,6,7,8,9,10,11,12] [0,0,2,6,14,30,0,64,254,511,1023,2047,4095] [] mixed (by kernel_rfl) ?_
  refine sim ?_
  skip
  refine doneA [] ?_;try exact trivial
  exact ⟨_,_,_,rfl,rfl,rfl⟩
 ·refine doneA [] ?_;try exact trivial
  exact ⟨_,_,_,rfl,rfl,rfl⟩
 ·refine doneA [] ?_;try exact trivial
  exact ⟨_,_,_,rfl,rfl,rfl⟩
 ·refine doneA [] ?_;try exact trivial
  exact ⟨_,_,_,rfl,rfl,rfl⟩
 ·refine doneA [] ?_;try exact trivial
  exact ⟨_,_,_,rfl,rfl,rfl⟩
 ·refine hRegionD (fun jx _=>if jx=13 then mkC [0,1,2,3] 100 0 [] (f70_ok t b ⟨m.row,m.file,m.files,m.rows,m.known,m.bad || (o.kind == 9 && m.row.opIndex != 0)⟩ hf hr hk (IntKind.i64.wrap ((IntKind.i64.wrap (255 - t.opcodeBase)).tdiv t.lineRange)) h1) else (default,([],[]))) [0,1,2,3,4,5,6,7,8,9,10,11,12,13] [0,0,2,6,14,30,62,0,128,384,896,1920,4094,8191] [] mixed (by kernel_rfl) ?_
  refine sim ?_
  (refine rn ?_);refine callDA ?_;rintro ret os fs ⟨hf',hr',hk',rfl,rfl,rfl⟩;refine sim ?_
  skip
  refine doneA [] ?_;try exact trivial
  exact ⟨_,_,_,rfl,rfl,rfl⟩
 ·refine hRegionD (noChi) [0,1,2,3,4,5,6,7,8,9,10,11,12,13] [0,0,2,6,14,30,0,64,192,510,1023,2047,4095,8191] [] mixed (by kernel_rfl) ?_
  refine sim ?_
  refine rn ?_
  refine doneA [] ?_;try exact trivial
  exact ⟨_,_,_,rfl,rfl,rfl⟩
 ·refine doneA [] ?_;try exact trivial
  exact ⟨_,_,_,rfl,rfl,rfl⟩
 ·refine doneA [] ?_;try exact trivial
  exact ⟨_,_,_,rfl,rfl,rfl⟩
 ·refine doneA [] ?_;try exact trivial
  exact ⟨_,_,_,rfl,rfl,rfl⟩
 ·refine doneA [] ?_;try exact trivial
  exact ⟨_,_,_,rfl,rfl,rfl⟩
end
set_option maxHeartbeats 4000000
set_option maxRecDepth 10000
open Go.AM Go
section
variable {G:Nat→AV}
def specN (t:TableD) (o:OpD):Int:=IntKind.i64.wrap (IntKind.i64.wrap o.n - t.opcodeBase)
def lineM (m:MachD) (n:Int):MachD:={ m with row:={ m.row with line:=n } }
def endM (m:MachD):MachD:={ m with rows:=m.rows++[⟨m.row.address,0,noFile,0,0,false,false,false,false,0,0,true⟩],known:=m.known++[(m.files.length:Int)] }
def stepA (t:TableD) (m:MachD) (o:OpD):MachD:=
 if o.kind=0 then emitM t (lineM (advM t m (IntKind.i64.wrap ((specN t o).tdiv t.lineRange))) (IntKind.i64.wrap (IntKind.i64.wrap (m.row.line+t.lineBase)+(specN t o).tmod t.lineRange)))
 else if 0 < o.kind then standM t m o
 else if o.kind= -1 then resetM t (endM m)
 else if o.kind= -2 then { m with bad:=m.bad || m.row.opIndex != 0,row:={ m.row with address:=o.n } }
 else if o.kind= -3 then { m with files:=m.files++[o.file] }
 else if o.kind= -4 then { m with row:={ m.row with disc:=IntKind.i64.wrap (o.n.tmod 2147483649) } }
 else m
def stepM (t:TableD) (m:MachD) (o:OpD):MachD:=
 let z:=stepA t m o
 { z with bad:=z.bad || decide (z.row.line < 0) || decide (z.row.line > 2147483648) || decide (z.row.address > lastOf t) }
def machH (t:TableD) (b:Nat) (m:MachD) (hf hr hk:Value):List (Nat×Option AObj):=[(0,some (.cells b 0 (machC t m hf hr hk))),(1,some (.arr hf 107 4 (m.files.map fileC))),(2,some (.arr hr 76 15 (rowsR m.rows))),(3,some (.arr hk 3 1 (intsR m.known)))]
attribute [go_sem] machH advM lineM endM specN noFile
theorem f34_ok (t:TableD) (b:Nat) (m:MachD) (hf hr hk:Value) (o:OpD) (hm:MachIn t m) (h1:t.maxOps≠0) (h2:t.lineRange≠0):Fulfils Tryz.prog G 34 [.ref 0 b 0,.agg (opC o)] (machO t b m hf hr hk) (retM t b (stepM t m o)):=by
 have hbig:big=140737488355328:=rfl
 have hm1:=hm.files
 have hm2:=hm.rows
 have hm3:=hm.known
 refine fulfilA Tryz.f34 [] 4 ?_
 simp only[Tryz.f34,Option.getD_some,go_sem]
 refine hEnt (eKey 3 1003 sT (by decide)) ?_;refine sim ?_
 (refine s1 ?_;refine hRegion (sim ?_);with_reducible refine fun (_:Outc)=>?_)
 refine hEnt (eKey 3 3003 sT (by decide)) ?_;refine sim ?_
 refine hEnt (eKey 1003 3 sT (by decide)) ?_;refine sim ?_
 refine hMeet (X:=Value×Value×Value) (fun p=> ⟨[(0,.ref 0 b 0)],machH t b (stepA t m o) p.1 p.2.1 p.2.2⟩) ?_ ?_
 ·rename Outc=>o1
  have es:=snoc_r m.rows ⟨m.row.address,0,noFile,0,0,false,false,false,false,0,0,true⟩
  dsimp only[noFile] at es
  obtain ⟨z,hz⟩ :∃z,stepA t m o=z:= ⟨_,rfl⟩
  rw[hz]
  unfold stepA at hz
  repeat' first|refine rn ?_|refine br fun hb=>?_|with_reducible refine And.intro ?_ ?_|fail
  all_goals repeat' first|rw[if_pos (by omega)] at hz|rw[if_neg (by omega)] at hz
  all_goals subst hz
  ·refine hRegionD (noChi) [0,1,2,3,4,5,6,7,8,9] [0,1,3,0,8,24,56,120,255,511] [] mixed (by kernel_rfl) ?_
   refine sim ?_
   refine rn ?_
   refine callA [0,1,2,3] 0 (f70_ok t b m hf hr hk (IntKind.i64.wrap ((specN t o).tdiv t.lineRange)) h1) ?_;rintro ret os fs ⟨hf',hr',hk',rfl,rfl,rfl⟩;refine sim ?_
   refine rn ?_
   refine hRegionD (noChi) [0,1,2,3,4,5,6,7,8,9,10,11,12,13,14,15,16,17,18,19,20,21,22,23] [0,0,2,6,14,30,0,64,192,448,960,2046,0,0,8192,24576,57344,122880,258048,524286,1048575,2097151,4194303,8388607] [] mixed (by kernel_rfl) ?_
   refine sim ?_
   refine rn ?_
   refine callA [0,1,2,3] 0 (f71_ok t b (lineM (advM t m (IntKind.i64.wrap ((specN t o).tdiv t.lineRange))) (IntKind.i64.wrap (IntKind.i64.wrap (m.row.line+t.lineBase)+(specN t o).tmod t.lineRange))) hf' hr' hk' ⟨hm.dirs,hm.dir,hm.file,hm.files,hm.rows,hm.known⟩) ?_;rintro ret os fs ⟨hf2,hr2,hk2,rfl,rfl,rfl⟩;refine sim ?_
   skip
   refine ⟨(hf2,hr2,hk2), ?_⟩
   ((repeat' refine And.intro ?_ ?_)<;>rfl)
  ·refine callA [0,1,2,3] 0 (f72_ok t b m hf hr hk o hm h1 h2) ?_;rintro ret os fs ⟨hf2,hr2,hk2,rfl,rfl,rfl⟩;refine sim ?_
   skip
   refine ⟨(hf2,hr2,hk2), ?_⟩
   ((repeat' refine And.intro ?_ ?_)<;>rfl)
  ·refine hRegionD (noChi) [0,1,2,3,4,5,6,7,8,9,10,11,12,13,14,15] [0,0,2,6,14,0,32,96,224,480,992,2016,4094,8191,16383,32767] [(4,10),(4,11)] mixed (by kernel_rfl) ?_
   refine simE @es ?_
   repeat' first|refine rn ?_|with_reducible refine fun (_:Outc)=>?_|fail
   refine hRegionD (noChi) [0,1,2,3,4,5,6,7,8,9,10,11,12,13,14] [0,0,2,6,14,0,32,96,224,480,992,2046,4095,8191,16383] [(4,10)] mixed (by kernel_rfl) ?_
   refine sim ?_
   repeat' first|refine rn ?_|with_reducible refine fun (_:Outc)=>?_|fail
   rename_i o2 o3 o4 o5
   refine callA [0,1,2,3] 0 (f33_ok t b (endM m) hf o3.h o5.h) ?_;rintro ret os fs ⟨hf2,hr2,hk2,rfl,rfl,rfl⟩;refine sim ?_
   skip
   refine ⟨(hf2,hr2,hk2), ?_⟩
   ((repeat' refine And.intro ?_ ?_)<;>rfl)
  ·refine ⟨(hf,hr,hk), ?_⟩
   ((repeat' refine And.intro ?_ ?_)<;>rfl)
  ·refine hRegionD (noChi) [0,1,2,3,4,5,6,7,8,9,10,11] [0,0,2,6,14,0,32,96,254,511,1023,2047] [(4,7)] mixed (by kernel_rfl) ?_
   refine sim ?_
   repeat' first|refine rn ?_|with_reducible refine fun (_:Outc)=>?_|fail
   rename_i q1 q2
   refine ⟨(q2.h,hr,hk), ?_⟩
   ((repeat' refine And.intro ?_ ?_)<;>rfl)
  ·refine ⟨(hf,hr,hk), ?_⟩
   ((repeat' refine And.intro ?_ ?_)<;>rfl)
  ·refine ⟨(hf,hr,hk), ?_⟩
   ((repeat' refine And.intro ?_ ?_)<;>rfl)
 ·rintro ⟨hf',hr',hk'⟩
  rw[stepM]
  generalize stepA t m o=z
  dsimp only
  refine hRegionD ((fun jx _=>if jx=31 then (pureI 73 [.agg (tableC t)] True (u64V (lastOf t)) (fun _=>f73_ok t),([],[])) else (default,([],[])))) [0,1,2,3,4,5,6,7,8,9,10,11,12,13,14,15,16,17,18,19,20,21,22,23,24,25,26,27,28,29,30,31,32,33,34,35,36] [0,0,2,6,14,30,62,126,254,510,1022,2046,4094,8190,16382,32766,65534,131070,262142,524286,1048574,2097150,4194302,8388606,16777214,33554430,67108862,4194302,138412030,406847486,943718398,2017460222,4294967294,8589934590,17179869183,34359738367,68719476735] [] mixed (by kernel_rfl) ?_
  refine sim ?_
  skip
  refine callGDP (fun _=>trivial) (fun hg=> ⟨rfl,by simpa [cndOK] using hg⟩) ?_
  refine sim ?_
  refine rn ?_
  refine doneA [] ?_;try exact trivial
  exact ⟨_,_,_,rfl,rfl,rfl⟩
end
set_option maxHeartbeats 4000000
set_option maxRecDepth 10000
open Go.AM Go
section
variable {G:Nat→AV}
theorem isTable_all {t:TableD} (h:isTable t=true):(¬bad1 t∧¬bad2 t∧¬bad3 t)∧isSmall t=true∧t.operands.all isByte=true∧t.dirs.all isDir=true∧t.files.all (isFile t)=true∧t.ops.all (isOp t)=true∧endsOK t=true:=by
 by_cases hb:bad1 t∨bad2 t∨bad3 t
 ·rw[isTable_bad hb] at h;cases h
 ·have hb':¬bad1 t∧¬bad2 t∧¬bad3 t:= ⟨fun k=>hb (.inl k),fun k=>hb (.inr (.inl k)),fun k=>hb (.inr (.inr k))⟩
  rw[isTable_ok hb'.1 hb'.2.1 hb'.2.2] at h
  simp only[Bool.and_eq_true] at h
  exact ⟨hb',h.1.1.1.1.1,h.1.1.1.1.2,h.1.1.1.2,h.1.1.2,h.1.2,h.2⟩
theorem isFile_name {t:TableD} {f:FileD} (h:isFile t f=true):f.name.length≤4096:=by
 rw[isFile] at h
 split at h
 ·cases h
 ·omega
theorem isDir_len {s:Bytes} (h:isDir s=true):s.length≤4096:=by
 unfold isDir at h
 simp only[Bool.and_eq_true,decide_eq_true_eq] at h
 exact h.1.1.2
theorem isOp_file {t:TableD} {o:OpD} (h:isOp t o=true) (hk:o.kind= -3):o.file.name.length≤4096:=by
 rw[isOp,if_neg (by omega),if_neg (by omega),if_neg (by omega),if_neg (by omega),if_neg (by omega),if_neg (by omega),if_pos hk,Bool.and_eq_true] at h
 exact isFile_name h.2
theorem emitM_in (t:TableD) (m:MachD):(emitM t m).files=m.files∧(emitM t m).rows.length=m.rows.length+1∧(emitM t m).known.length=m.known.length+1:= ⟨rfl,by simp[emitM],by simp[emitM]⟩
def StIn (m z:MachD):Prop:=z.files=m.files∧z.rows.length≤m.rows.length+1∧z.known.length≤m.known.length+1
theorem ite_in {m a b:MachD} {c:Prop} [Decidable c] (h1:StIn m a) (h2:StIn m b):StIn m (if c then a else b):=by
 by_cases h:c
 ·rwa [if_pos h]
 ·rwa [if_neg h]
theorem standM_in (t:TableD) (m:MachD) (o:OpD):StIn m (standM t m o):=by
 unfold standM
 dsimp only
 repeat' apply ite_in
 all_goals exact ⟨rfl,by simp[advM,emitM],by simp[advM,emitM]⟩
theorem stepM_in (t:TableD) (m:MachD) (o:OpD):(stepM t m o).rows.length≤m.rows.length+1∧(stepM t m o).known.length≤m.known.length+1∧((stepM t m o).files=m.files∨(o.kind= -3∧(stepM t m o).files=m.files++[o.file])):=by
 unfold stepM
 dsimp only
 unfold stepA
 split
 ·have h:=emitM_in t (lineM (advM t m (IntKind.i64.wrap ((specN t o).tdiv t.lineRange))) (IntKind.i64.wrap (IntKind.i64.wrap (m.row.line+t.lineBase)+(specN t o).tmod t.lineRange)))
  exact ⟨by rw[h.2.1];simp[lineM,advM],by rw[h.2.2];simp[lineM,advM],.inl h.1⟩
 split
 ·have h:=standM_in t m o
  exact ⟨h.2.1,h.2.2,.inl h.1⟩
 split
 ·exact ⟨by simp[resetM,endM],by simp[resetM,endM],.inl rfl⟩
 split
 ·exact ⟨by simp,by simp,.inl rfl⟩
 split
 ·exact ⟨by simp,by simp,.inr ⟨by assumption,rfl⟩⟩
 split
 all_goals exact ⟨by simp,by simp,.inl rfl⟩
def m0 (t:TableD):MachD:=resetM t ⟨⟨0,0,noFile,0,0,false,false,false,false,0,0,false⟩,0,t.files,[],[],false⟩
def runM (t:TableD) (l:List OpD):MachD:=l.foldl (stepM t) (m0 t)
theorem runM_succ {t:TableD} {l:List OpD} {j:Nat} {o:OpD} (h:l[j]? =some o):runM t (l.take (j+1))=stepM t (runM t (l.take j)) o:=by
 rw[take_succ h,runM,List.foldl_append];rfl
theorem runM_in {t:TableD} (h:isTable t=true):∀j:Nat,(runM t (t.ops.take j)).rows.length≤j∧(runM t (t.ops.take j)).known.length≤j∧(runM t (t.ops.take j)).files.length≤100+j∧∀f∈(runM t (t.ops.take j)).files,f.name.length≤4096
 |0=>by
  have h1:=(isTable_all h).1.2.2
  unfold bad3 at h1
  refine ⟨by simp[runM,m0,resetM],by simp[runM,m0,resetM], ?_,fun f hf=>?_⟩
  ·show t.files.length≤100+0
   omega
  ·exact isFile_name (List.all_eq_true.1 (isTable_all h).2.2.2.2.1 f hf)
 |j+1=>by
  have ih:=runM_in h j
  by_cases hj:j < t.ops.length
  ·obtain ⟨o,ho⟩ :=getX t.ops hj
   rw[runM_succ ho]
   have hs:=stepM_in t (runM t (t.ops.take j)) o
   refine ⟨by omega,by omega, ?_,fun f hf=>?_⟩
   ·rcases hs.2.2 with e| ⟨_,e⟩
    ·rw[e];omega
    ·rw[e,List.length_append,List.length_singleton];omega
   ·rcases hs.2.2 with e| ⟨hk,e⟩
    ·rw[e] at hf;exact ih.2.2.2 f hf
    ·rw[e,List.mem_append,List.mem_singleton] at hf
     rcases hf with hf|rfl
     ·exact ih.2.2.2 f hf
     ·exact isOp_file (List.all_eq_true.1 (isTable_all h).2.2.2.2.2.1 o (List.mem_of_getElem? ho)) hk
  ·rw[List.take_of_length_le (by omega)] at ih ⊢
   exact ⟨by omega,by omega,by omega,ih.2.2.2⟩
theorem machIn_run {t:TableD} (h:isTable t=true) (j:Nat) (hj:j≤t.ops.length):MachIn t (runM t (t.ops.take j)):=by
 have h1:=(isTable_all h).1.2.2
 have h2:=runM_in h j
 have hbig:big=140737488355328:=rfl
 unfold bad3 at h1
 exact ⟨by omega,fun s hs=>isDir_len (List.all_eq_true.1 (isTable_all h).2.2.2.1 s hs),fun f hf=>by have:=h2.2.2.2 f hf;omega,by omega,by omega,by omega⟩
theorem rowsR_nil:rowsR []=[]:=rfl
theorem intsR_nil:intsR []=[]:=rfl
attribute [go_sem] rowsR_nil intsR_nil
theorem f10f_ok (t:TableD) (ht:okTable t) (h:isTable t=false):Fulfils Tryz.prog G 10 [.agg (tableC t)] [] (retP (.tup [.val (.slice none 0 0),.val (.slice none 0 0),booV false])):=by
 have hbig:big=140737488355328:=rfl
 refine fulfilA Tryz.f10 [.tmp 2,.tmp 3,.tmp 4] 0 ?_
 simp only[Tryz.f10,Option.getD_some,go_sem]
 repeat' first|refine rn ?_|with_reducible refine fun (_:Outc)=>?_|fail
 refine callP (f32_ok t ht) rfl ?_
 rw[h]
 refine sim ?_
 refine rn ?_
 refine doneA [] ?_;try exact trivial
 exact ⟨rfl,rfl,rfl⟩
theorem f10_ok (t:TableD) (ht:okTable t) (h:isTable t=true):Fulfils Tryz.prog G 10 [.agg (tableC t)] [] (fun ret os fs=>∃hr hk,ret=(fun _=>.tup [.buf 0 hr,.buf 1 hk,booV (!(runM t t.ops).bad)])∧os=[]∧fs=[some (.arr hr 76 15 (rowsR (runM t t.ops).rows)),some (.arr hk 3 1 (intsR (runM t t.ops).known))]):=by
 have hbig:big=140737488355328:=rfl
 refine fulfilA Tryz.f10 [.tmp 2,.tmp 3,.tmp 4] 0 ?_
 simp only[Tryz.f10,Option.getD_some,go_sem]
 repeat' first|refine rn ?_|with_reducible refine fun (_:Outc)=>?_|fail
 refine callP (f32_ok t ht) rfl ?_
 rw[h]
 refine sim ?_
 refine rn ?_
 have hfl:t.files.length≤100:=by
  have h1:=(isTable_all h).1.2.2
  unfold bad3 at h1
  omega
 have hol:t.ops.length≤65536:=by
  have h1:=(isTable_all h).1.2.2
  unfold bad3 at h1
  omega
 have hmo:t.maxOps≠0:=by
  have h1:=(isTable_all h).1.2.1
  unfold bad2 at h1
  omega
 have hlr:t.lineRange≠0:=by
  have h1:=(isTable_all h).1.2.1
  unfold bad2 at h1
  omega
 refine hRegionD (noChi) [0,1,2,3,4,5,6,7] [0,0,0,4,14,31,63,127] [(0,1),(0,4),(1,3)] mixed (by kernel_rfl) ?_
 refine sim ?_
 repeat' first|with_reducible refine And.intro ?_ ?_|omega|with_reducible refine fun (_:Outc)=>?_|fail
 rename_i o1 o2 o3 o4
 refine hEnt (eOwnCell 2001 17 33 76 15 (by refine sim ?_;rfl) rfl (by decide)) ?_;refine sim ?_
 refine hEnt (eOwnCell 2002 17 34 3 1 (by refine sim ?_;rfl) rfl (by decide)) ?_;refine sim ?_
 refine rn ?_
 refine callA [17,12,2001,2002] 0 (f33_ok t o4.b ⟨⟨0,0,noFile,0,0,false,false,false,false,0,0,false⟩,0,t.files,[],[],false⟩ o3.h (.slice none 0 0) (.slice none 0 0)) ?_;rintro ret os fs ⟨hf',hr',hk',rfl,rfl,rfl⟩;refine sim ?_
 refine rn ?_
 refine hLoop (X:=(Value×Value×Value)×{j:Nat // j≤t.ops.length}) (fun p=> ⟨[(5,.ref 17 o4.b 0),(21,opsV t.ops),(22,intV t.ops.length),(23,intV p.2.1)],[(17,some (.cells o4.b 0 (machK t (runM t (t.ops.take p.2.1)) p.1.1 p.1.2.1 p.1.2.2 12 2001 2002))),(12,some (.arr p.1.1 107 4 ((runM t (t.ops.take p.2.1)).files.map fileC))),(2001,some (.arr p.1.2.1 76 15 (rowsR (runM t (t.ops.take p.2.1)).rows))),(2002,some (.arr p.1.2.2 3 1 (intsR (runM t (t.ops.take p.2.1)).known)))]⟩) (fun p=>t.ops.length - p.2.1) ⟨(hf',hr',hk'),0,by omega⟩ (by refine sim ?_;((repeat' refine And.intro ?_ ?_)<;>rfl)) ?_
 rintro ⟨⟨hf,hr,hk⟩,j,hj⟩
 refine sim ?_
 have hin:=machIn_run h j hj
 by_cases hlt:j < t.ops.length
 ·obtain ⟨o,ho⟩ :=getX t.ops hlt
  have e:=row_at opC ho
  have hs:=runM_succ (t:=t) ho
  generalize runM t (t.ops.take j)=m at *
  have w4:IntKind.i64.wrap ((j:Int)+1)=((j+1:Nat):Int):=by rw[wrap_i64 (by omega) (by omega)];simp
  simp only[opC,intV,u64V,strV] at e
  repeat' first|refine rnE @e ?_|with_reducible refine fun (_:Outc)=>?_|fail
  refine callA [17,12,2001,2002] 0 (f34_ok t o4.b m hf hr hk o hin hmo hlr) ?_;rintro ret os fs ⟨hf2,hr2,hk2,rfl,rfl,rfl⟩;refine sim ?_
  refine rnE @w4 ?_
  refine ⟨⟨(hf2,hr2,hk2),j+1,hlt⟩, ?_⟩
  simp only[hs]
  ((repeat' refine And.intro ?_ ?_)<;>first|omega|(simp;done))
 ·have:j=t.ops.length:=by omega
  subst this
  rw[List.take_length]
  refine rn ?_
  refine hRegionD (noChi) [0,1,2,3,4,5,6,7,8,9,10,11,12,13,14,15] [0,1,3,7,0,16,48,112,0,256,768,1792,3840,15,8447,32767] [] mixed (by kernel_rfl) ?_
  refine sim ?_
  refine rn ?_
  refine doneA [(2001,0),(2002,1)] ?_;try exact trivial
  exact ⟨_,_,rfl,rfl⟩
end
end Go.Proofs.YtbkfdnkeelmloaaGreatDoor
