/- Part 36 of the proof: E1 E2. -/
import Derived.Laws.StructEq
import Derived.Test.YtbkfdnkeelmloaaGreatDoorZ20
import Derived.Test.YtbkfdnkeelmloaaGreatDoorY21
set_option linter.unusedVariables false
set_option linter.unusedSimpArgs false
namespace Go.Proofs.YtbkfdnkeelmloaaGreatDoor
set_option maxHeartbeats 4000000
set_option maxRecDepth 10000
open Go.AM Go
theorem eqF_nil (d:Nat) (xs:Array Value) (w:World):(Op.eqFields d xs xs []).run Tryz.prog w= .ok true w:=by simp[Op.eqFields]
theorem eqF_cons {d:Nat} {xs:Array Value} {w:World} {f:Field} {fs:List Field} {v:Value} (hn:f.name≠ "_") (hp:(part f.type xs f.offset).run Tryz.prog w= .ok v w) (he:(Op.equalIn d f.type v v).run Tryz.prog w= .ok true w) (hr:(Op.eqFields d xs xs fs).run Tryz.prog w= .ok true w):
  (Op.eqFields d xs xs (f :: fs)).run Tryz.prog w= .ok true w:=by
 unfold Op.eqFields
 rw[if_pos hn,Sem.run_bind,hp,Result.andThen_ok,Sem.run_bind,hp,Result.andThen_ok,Sem.run_bind,he,Result.andThen_ok]
 simpa using hr
section
variable (w:World) (d:Nat)
theorem eqI (t:TypeId) (k:IntKind) (n:Int) (h:Tryz.prog.underlying t=some (.int k)):(Op.equalIn (d+1) t (.int k n) (.int k n)).run Tryz.prog w= .ok true w:=by rw[run_equalIn_int w d t k k n n h];simp
theorem eqB (t:TypeId) (b:Bool) (h:Tryz.prog.underlying t=some .bool):(Op.equalIn (d+1) t (.bool b) (.bool b)).run Tryz.prog w= .ok true w:=by rw[run_equalIn_bool' w d t b b h];simp
theorem eqS (t:TypeId) (s:ByteArray) (h:Tryz.prog.underlying t=some .string):(Op.equalIn (d+1) t (.string s) (.string s)).run Tryz.prog w= .ok true w:=by rw[run_equalIn_string w d t s s h];simp
end
theorem u46:Tryz.prog.underlying 46=some (.int .u64):=by kernel_rfl
theorem u3:Tryz.prog.underlying 3=some (.int .i64):=by kernel_rfl
theorem u4:Tryz.prog.underlying 4=some .bool:=by kernel_rfl
theorem u9:Tryz.prog.underlying 9=some .string:=by kernel_rfl
theorem pl (t off:Nat) (he:Tryz.prog.plainKey t=true) {xs:Array Value} {v:Value} (hx:xs[off]? =some v) (w:World):(part t xs off).run Tryz.prog w= .ok v w:=run_part_plain w he hx
theorem p46:Tryz.prog.plainKey 46=true:=by kernel_rfl
theorem p3:Tryz.prog.plainKey 3=true:=by kernel_rfl
theorem p4:Tryz.prog.plainKey 4=true:=by kernel_rfl
theorem p9:Tryz.prog.plainKey 9=true:=by kernel_rfl
theorem f74:(Tryz.prog.fieldsOf 74).toList.map (fun f=>(f.type,f.offset))=[(4,0),(9,1),(46,2),(3,3)]:=by kernel_rfl
theorem n74:(Tryz.prog.fieldsOf 74).toList.all (fun f=>f.name != "_")=true:=by kernel_rfl
theorem f76:(Tryz.prog.fieldsOf 76).toList.map (fun f=>(f.type,f.offset))=[(46,0),(3,1),(74,2),(3,6),(3,7),(4,8),(4,9),(4,10),(4,11),(3,12),(3,13),(4,14)]:=by kernel_rfl
theorem n76:(Tryz.prog.fieldsOf 76).toList.all (fun f=>f.name != "_")=true:=by kernel_rfl
theorem eqF_all {d:Nat} {xs:Array Value} {w:World}:∀{fs:List Field} {l:List (Nat×Nat)},fs.map (fun f=>(f.type,f.offset))=l→fs.all (fun f=>f.name != "_")=true→
  (∀p∈l,∃v,(part p.1 xs p.2).run Tryz.prog w= .ok v w∧(Op.equalIn d p.1 v v).run Tryz.prog w= .ok true w)→(Op.eqFields d xs xs fs).run Tryz.prog w= .ok true w
 | [],_,_,_,_=>eqF_nil d xs w
 |f :: fs,l,hl,hn,h=>by
  subst hl
  simp only[List.all_cons,Bool.and_eq_true,bne_iff_ne] at hn
  obtain ⟨v,h1,h2⟩ :=h (f.type,f.offset) (by simp)
  exact eqF_cons hn.1 h1 h2 (eqF_all rfl (by simpa using hn.2) fun p hp=>h p (by simp at hp ⊢;exact .inr hp))
theorem eq74 (w:World) (a:Bool) (s:ByteArray) (b c:Int):(Op.equalIn 9999 74 (.agg #[.bool a,.string s,.int .u64 b,.int .i64 c]) (.agg #[.bool a,.string s,.int .u64 b,.int .i64 c])).run Tryz.prog w= .ok true w:=by
 rw[show (9999:Nat)=9998+1 from rfl,run_equalIn_struct w 9998 74 _ _ (by kernel_rfl) (by kernel_rfl)]
 refine eqF_all f74 n74 fun p hp=>?_
 simp only[List.mem_cons,List.not_mem_nil,or_false] at hp
 rcases hp with rfl|rfl|rfl|rfl
 ·exact ⟨_,pl 4 0 p4 rfl w,eqB w 9997 4 a u4⟩
 ·exact ⟨_,pl 9 1 p9 rfl w,eqS w 9997 9 s u9⟩
 ·exact ⟨_,pl 46 2 p46 rfl w,eqI w 9997 46 .u64 b u46⟩
 ·exact ⟨_,pl 3 3 p3 rfl w,eqI w 9997 3 .i64 c u3⟩
theorem part74 (w:World) (xs:Array Value):(part 74 xs 2).run Tryz.prog w= .ok (.agg (xs.extract 2 6)) w:=by
 have hu:Tryz.prog.underlying 74=some (.struct (Tryz.prog.fieldsOf 74)):=by kernel_rfl
 obtain ⟨i,hi⟩ :∃i,Tryz.prog.info? 74=some i:=by
  cases h:Tryz.prog.info? 74 with
  |none=>exact absurd (show (Tryz.prog.info? 74).isSome=true by kernel_rfl) (by rw[h];decide)
  |some i=>exact ⟨i,rfl⟩
 have hc:Tryz.prog.cellsOf 74=4:=by kernel_rfl
 simp[part,isAgg,run_underlying hu,run_sizeOf w hi,hc]
theorem eq76 (a:Int) (b:Int) (c:Bool) (s:ByteArray) (e f g h:Int) (i j k l:Bool) (m n:Int) (o:Bool):EqT Tryz.prog 76 (.agg #[.int .u64 a,.int .i64 b,.bool c,.string s,.int .u64 e,.int .i64 f,.int .i64 g,.int .i64 h,.bool i,.bool j,.bool k,.bool l,.int .i64 m,.int .i64 n,.bool o]) (.agg #[.int .u64 a,.int .i64 b,.bool c,.string s,.int .u64 e,.int .i64 f,.int .i64 g,.int .i64 h,.bool i,.bool j,.bool k,.bool l,.int .i64 m,.int .i64 n,.bool o]) true:=by
 intro w x y
 have hm:Tryz.prog.eqGuardType Tryz.prog.depth 76=false:=by kernel_rfl
 have h:(Op.equalIn 10000 76 (.agg #[.int .u64 a,.int .i64 b,.bool c,.string s,.int .u64 e,.int .i64 f,.int .i64 g,.int .i64 h,.bool i,.bool j,.bool k,.bool l,.int .i64 m,.int .i64 n,.bool o]) (.agg #[.int .u64 a,.int .i64 b,.bool c,.string s,.int .u64 e,.int .i64 f,.int .i64 g,.int .i64 h,.bool i,.bool j,.bool k,.bool l,.int .i64 m,.int .i64 n,.bool o])).run Tryz.prog w= .ok true w:=by
  rw[show (10000:Nat)=9999+1 from rfl,run_equalIn_struct w 9999 76 _ _ (by kernel_rfl) (by kernel_rfl)]
  refine eqF_all f76 n76 fun p hp=>?_
  simp only[List.mem_cons,List.not_mem_nil,or_false] at hp
  rcases hp with rfl|rfl|rfl|rfl|rfl|rfl|rfl|rfl|rfl|rfl|rfl|rfl
  ·exact ⟨_,pl 46 0 p46 rfl w,eqI w 9998 46 .u64 a u46⟩
  ·exact ⟨_,pl 3 1 p3 rfl w,eqI w 9998 3 .i64 b u3⟩
  ·exact ⟨_,part74 w _,eq74 w c s e f⟩
  ·exact ⟨_,pl 3 6 p3 rfl w,eqI w 9998 3 .i64 g u3⟩
  ·exact ⟨_,pl 3 7 p3 rfl w,eqI w 9998 3 .i64 h u3⟩
  ·exact ⟨_,pl 4 8 p4 rfl w,eqB w 9998 4 i u4⟩
  ·exact ⟨_,pl 4 9 p4 rfl w,eqB w 9998 4 j u4⟩
  ·exact ⟨_,pl 4 10 p4 rfl w,eqB w 9998 4 k u4⟩
  ·exact ⟨_,pl 4 11 p4 rfl w,eqB w 9998 4 l u4⟩
  ·exact ⟨_,pl 3 12 p3 rfl w,eqI w 9998 3 .i64 m u3⟩
  ·exact ⟨_,pl 3 13 p3 rfl w,eqI w 9998 3 .i64 n u3⟩
  ·exact ⟨_,pl 4 14 p4 rfl w,eqB w 9998 4 o u4⟩
 refine ⟨?_, ?_⟩
 ·rw[Sem.run_bind,run_eqGuard_agg _ _ _ _ _ _ _ hm,Result.andThen_ok,run_eql_struct,h];rfl
 ·rw[Sem.run_bind,run_eqGuard_agg _ _ _ _ _ _ _ hm,Result.andThen_ok,run_neq_struct,h];rfl
set_option maxHeartbeats 4000000
set_option maxRecDepth 10000
open Go.AM Go
section
variable {G:Nat→AV}
theorem fitR_place {p:AV→Prop} [StillP p] (l:List (Int×Int)):fitR p (placeR l)=True:=eq_true (fitR_map (g:=fun p:Int×Int=>[u64V p.1,u64V p.2]) (fun b=> ⟨fit_v,fit_v,trivial⟩) l)
attribute [go_sem] fitR_place
theorem f20p_ok (x:SpanD) (hx:SpanIn x):Fulfils Tryz.prog G 20 [.agg (spanC x)] [] (retP (.dat false 2 (placeR (places x)))):=by
 have hbig:big=140737488355328:=rfl
 have hm:most=2147483648:=rfl
 have hl:=hx.len
 refine fulfilA Tryz.f20 [.tmp 2] 0 ?_
 simp only[Tryz.f20,Option.getD_some,go_sem]
 repeat' first|refine s1 ?_|refine s2 ?_|refine hRegion (sim ?_)|refine hSkip (sim ?_)|refine s7 rfl (fun hb=>?_) fun hb=>?_|with_reducible refine fun (_:Outc)=>?_|fail
 ·refine hEnt (eFrz 15 (by simp -implicitDefEqProofs only[go_sem,↓reduceIte,Nat.reduceEqDiff,Nat.reduceLT,Nat.reduceLeDiff,Nat.reduceAdd,Nat.reduceSub,Nat.reduceMul,reduceCtorEq,List.reduceReplicate,Nat.reduceBEq,fitR,fitL])) ?_;simp -implicitDefEqProofs only[go_sem,↓reduceIte,Nat.reduceEqDiff,Nat.reduceLT,Nat.reduceLeDiff,Nat.reduceAdd,Nat.reduceSub,Nat.reduceMul,reduceCtorEq,List.reduceReplicate,Nat.reduceBEq,turnR,turnL]
  refine rn ?_
  refine doneA [] ?_;try exact trivial
  refine ⟨?_,rfl,rfl⟩
  rw[places,if_neg (by simp[*])]
  rfl
 rename_i o1 o2
 refine hLoop (X:={p:Value×Nat // p.2≤x.pieces.length}) (fun p=> ⟨[(1,.ref 1 o1.b 0),(3,.buf 16 p.1.1),(4,u64V (placesAcc x (x.pieces.take p.1.2)).base),(20,piecesV x.pieces),(21,intV x.pieces.length),(22,intV p.1.2)],[(1,some (.cells o1.b 0 (spanC x))),(16,some (.arr p.1.1 154 2 (placeR (placesAcc x (x.pieces.take p.1.2)).out)))]⟩) (fun p=>x.pieces.length - p.1.2) ⟨(o2.h,0),by simp⟩ (by simp only[List.take_zero,placesAcc,List.foldl_nil];refine sim ?_;((repeat' refine And.intro ?_ ?_)<;>rfl)) ?_
 rintro ⟨⟨h,j⟩,hj⟩
 simp only at hj
 refine sim ?_
 have hin:=placesAcc_in hx j
 by_cases hlt:j < x.pieces.length
 ·obtain ⟨p,hp⟩ :=getX x.pieces hlt
  have e:=row_at pieceC hp
  have hpb:=hx.pieces p (List.mem_of_getElem? hp)
  have hs:=placesAcc_succ (x:=x) hp
  have w4:IntKind.i64.wrap ((j:Int)+1)=((j+1:Nat):Int):=by rw[wrap_i64 (by omega) (by omega)];simp
  generalize placesAcc x (x.pieces.take j)=z at *
  have w1:IntKind.u64.wrap (z.base+p.a)=z.base+p.a:=wrap_u64 (by omega) (by omega)
  have w2:IntKind.u64.wrap (z.base+p.b)=z.base+p.b:=wrap_u64 (by omega) (by omega)
  have w3:IntKind.u64.wrap (p.a+p.b)=p.a+p.b:=wrap_u64 (by omega) (by omega)
  repeat' first|refine rnE (And.intro @e (And.intro @w1 (And.intro @w2 (And.intro @w3 @w4)))) ?_|refine br fun hb=>?_|with_reducible refine And.intro ?_ ?_|with_reducible refine fun (_:Outc)=>?_|fail
  all_goals (refine ⟨⟨(_,j+1),hlt⟩, ⟨⟨rfl, ?_,rfl⟩, ?_⟩,by dsimp only;omega⟩ <;>(dsimp only;rw[hs];unfold placeStep;(repeat' first|rw[if_pos (by omega)]|rw[if_neg (by omega)])))
 ·have:j=x.pieces.length:=by omega
  subst this
  repeat' first|refine s1 ?_|refine hRegion (sim ?_)|refine hExit (sim ?_)|(refine s7 rfl ?_ ?_<;>intro hb<;>first|(exfalso;omega)|skip)|fail
  refine hEnt (eFrz 16 sT) ?_;refine sim ?_
  refine rn ?_
  refine doneA [] ?_;try exact trivial
  refine ⟨?_,rfl,rfl⟩
  rw[places,if_pos (by simp[*])]
end
end Go.Proofs.YtbkfdnkeelmloaaGreatDoor
