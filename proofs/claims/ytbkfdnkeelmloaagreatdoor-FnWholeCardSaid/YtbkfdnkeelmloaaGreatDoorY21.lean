/- Part 21 of the proof: L1. -/
import Derived.ChangeKeysEq
import Derived.Test.YtbkfdnkeelmloaaGreatDoorZ20
set_option linter.unusedVariables false
set_option linter.unusedSimpArgs false
namespace Go.Proofs.YtbkfdnkeelmloaaGreatDoor
set_option maxHeartbeats 4000000
set_option maxRecDepth 10000
open Go.AM Go
section
variable {G:Nat→AV}
def Rising (l:List RowD):Prop:=∀(i:Nat) (a c:RowD),l[i]? =some a→l[i+1]? =some c→a.ends=false→a.address≤c.address
noncomputable def rising (l:List RowD):Bool:=@decide (Rising l) (Classical.propDecidable _)
theorem rising_t {l:List RowD} (h:Rising l):rising l=true:=by simp[rising,h]
theorem rising_f {l:List RowD} (h:¬Rising l):rising l=false:=by simp[rising,h]
theorem rowsR_get {l:List RowD} {i:Nat} {r:RowD} (h:l[i]? =some r):(rowsR l).getD i []=rowC r:=row_at rowC h
theorem f11_ok (l:List RowD) (hl:l.length≤1000000):Fulfils Tryz.prog G 11 [.dat false 15 (rowsR l)] [] (retP (booV (rising l))):=by
 have hbig:big=140737488355328:=rfl
 refine fulfilP (fn:=Tryz.f11) (rs:=[.tmp 2]) (Tryz.f11.body.getD .skip) (by kernel_rfl) rfl rfl rfl (by simp only[List.length_cons,List.length_nil];decide) rfl (by decide) ?_
 simp only[Tryz.f11,Option.getD_some,go_sem]
 refine rn ?_
 refine hLoop (X:={j:Nat // 1≤j∧(j≤l.length∨j=1)∧∀(i:Nat) (a c:RowD),i+1 < j→l[i]? =some a→l[i+1]? =some c→a.ends=false→a.address≤c.address}) (fun j=> ⟨[(0,.dat false 15 (rowsR l)),(3,intV j.1)],[]⟩) (fun j=>l.length - j.1) ⟨1,by omega,.inr rfl,fun i _ _ h=>by omega⟩ (by refine sim ?_;rfl) ?_
 rintro ⟨j,hj,hj2,hall⟩
 refine sim ?_
 by_cases hlt:j < l.length
 ·obtain ⟨c,hc⟩ :=getX l hlt
  obtain ⟨a,ha⟩ :=getX l (i:=j - 1) (by omega)
  have e1:=rowsR_get hc
  have e2:=rowsR_get ha
  have w1:IntKind.i64.wrap ((j:Int) - 1)=((j - 1:Nat):Int):=by rw[wrap_i64 (by omega) (by omega)];omega
  have w4:IntKind.i64.wrap ((j:Int)+1)=((j+1:Nat):Int):=by rw[wrap_i64 (by omega) (by omega)];simp
  have hj1:j - 1+1=j:=by omega
  simp only[rowC,intV,u64V,strV,booV] at e1 e2
  refine rn ?_
  refine hRegionD (noChi) [0,1,2,3,4,5,6,7,8,9,10,11,12,13,14,15,16,17,18,19,20] [0,0,2,7,15,31,63,127,255,255,1023,2047,4095,255,255,16639,57599,123135,254207,524287,1048575] [] mixed (by kernel_rfl) ?_
  refine simE (And.intro @e1 (And.intro @e2 @w1)) ?_
  repeat' first|refine rnE (And.intro @e1 (And.intro @e2 (And.intro @w1 @w4))) ?_|refine br fun hb=>?_|with_reducible refine And.intro ?_ ?_|omega
  ·rw[rising_f]
   intro h
   have:=h (j - 1) a c ha (by rw[hj1];exact hc) hb.1
   omega
  ·refine ⟨⟨j+1,by omega,.inl (by omega),fun i x y hi h1 h2 h3=>?_⟩, ?_⟩
   ·rcases Nat.lt_or_ge (i+1) j with h|h
    ·exact hall i x y h h1 h2 h3
    ·have:i=j - 1:=by omega
     subst this
     rw[ha] at h1
     rw[hj1,hc] at h2
     cases h1
     cases h2
     grind
   ·((repeat' refine And.intro ?_ ?_)<;>first|rfl|(dsimp only;omega))
 ·refine rn ?_
  rw[rising_t]
  intro i a c h1 h2 h3
  have:=(List.getElem?_eq_some_iff.1 h2).1
  exact hall i a c (by omega) h1 h2 h3
theorem turnR_repl {σ:Nat→Nat} (n:Nat) (v:Value):turnR (rkA σ) (List.replicate n [.val v])=List.replicate n [.val v]:=by
 induction n with
 |zero=>rfl
 |succ n ih=>rw[List.replicate_succ,turnR,ih];rfl
attribute [go_sem] turnR_repl
theorem f13_ok (l:List UnitD) (hl:l.length≤1000000):Fulfils Tryz.prog G 13 [unitsV l] [] (retB 0 49 1 (List.replicate l.length [.val (.slice none 0 0)]) []):=by
 have hbig:big=140737488355328:=rfl
 refine fulfilA Tryz.f13 [.tmp 2] 0 ?_
 simp only[Tryz.f13,Option.getD_some,go_sem]
 repeat' first|refine rn ?_|with_reducible refine fun (_:Outc)=>?_|fail
 refine doneA [(5,0)] ?_;try exact trivial
 exact ⟨_,rfl,rfl,rfl⟩
theorem eq154 (a b c d:Int):EqT Tryz.prog 154 (.agg #[.int .u64 a,.int .u64 b]) (.agg #[.int .u64 c,.int .u64 d]) (a == c && b == d):=by
 intro w x y
 have hm:Tryz.prog.eqGuardType Tryz.prog.depth 154=false:=by kernel_rfl
 have hu:Tryz.prog.underlying 154=some (.array 2 46):=by kernel_rfl
 have hv:Tryz.prog.underlying 46=some (.int .u64):=by kernel_rfl
 have h:∀w,(Op.equalIn 10000 154 (.agg #[.int .u64 a,.int .u64 b]) (.agg #[.int .u64 c,.int .u64 d])).run Tryz.prog w= .ok (a == c && b == d) w:=by
  intro w
  obtain ⟨i46,hi⟩ :∃i,Tryz.prog.info? 46=some i:=by
   cases h:Tryz.prog.info? 46 with
   |none=>exact absurd (show (Tryz.prog.info? 46).isSome=true by kernel_rfl) (by rw[h];decide)
   |some i=>exact ⟨i,rfl⟩
  have hp:Tryz.prog.plainKey 46=true:=by kernel_rfl
  have hc:Tryz.prog.cellsOf 46=1:=by kernel_rfl
  rw[run_equalIn_array w 9999 _ _ hu hi,hc]
  have r0:∀(x y:Value) w,(part 46 #[x,y] (0 * 1)).run Tryz.prog w= .ok x w:=fun x y w=>run_part_plain w hp rfl
  have r1:∀(x y:Value) w,(part 46 #[x,y] (1 * 1)).run Tryz.prog w= .ok y w:=fun x y w=>run_part_plain w hp rfl
  show (Op.eqItems 9999 46 1 _ _ [0,1]).run Tryz.prog w=_
  simp only[Op.eqItems,Sem.run_bind,r0,r1,Result.andThen_ok,run_equalIn_int w 9998 46 .u64 .u64 _ _ hv]
  cases h:(a == c)
  ·simp[Sem.run_pure]
  ·simp[Sem.run_bind,r1,run_equalIn_int w 9998 46 .u64 .u64 _ _ hv]
   split
   ·next h2=>simp[h2]
   ·next h2=>simp[h2]
 refine ⟨?_, ?_⟩
 ·rw[Sem.run_bind,run_eqGuard_agg _ _ _ _ _ _ _ hm,Result.andThen_ok,run_eql_struct,h];rfl
 ·rw[Sem.run_bind,run_eqGuard_agg _ _ _ _ _ _ _ hm,Result.andThen_ok,run_neq_struct,h];rfl
theorem f19_ok (l q:List (Int×Int)) (hl:l.length≤1000000) (hq:q.length≤1000000):Fulfils Tryz.prog G 19 [.dat false 2 (placeR l),.dat false 2 (placeR q)] [] (retP (booV (l == q))):=by
 have hbig:big=140737488355328:=rfl
 refine fulfilP (fn:=Tryz.f19) (rs:=[.tmp 4]) (Tryz.f19.body.getD .skip) (by kernel_rfl) rfl rfl rfl (by simp only[List.length_cons,List.length_nil];decide) rfl (by decide) ?_
 simp only[Tryz.f19,Option.getD_some,go_sem]
 repeat' first|refine rn ?_|refine br fun hb=>?_|with_reducible refine And.intro ?_ ?_|fail
 ·have:(l == q)=false:=by
   rw[beq_eq_false_iff_ne]
   rintro rfl
   exact hb rfl
  rw[this]
 refine hLoop (X:={j:Nat // j≤l.length∧l.take j=q.take j}) (fun j=> ⟨[(0,.dat false 2 (placeR l)),(1,.dat false 2 (placeR q)),(12,intV l.length),(13,intV j.1)],[]⟩) (fun j=>l.length - j.1) ⟨0,by simp⟩ (by refine sim ?_;rfl) ?_
 rintro ⟨j,hj,hall⟩
 refine sim ?_
 by_cases hlt:j < l.length
 ·obtain ⟨a,ha⟩ :=getX l hlt
  obtain ⟨c,hc⟩ :=getX q (i:=j) (by omega)
  have e1:=placeR_get ha
  have e2:=placeR_get hc
  have w4:IntKind.i64.wrap ((j:Int)+1)=((j+1:Nat):Int):=by rw[wrap_i64 (by omega) (by omega)];simp
  refine rn ?_
  refine hRegionD (noChi) [0,1,2,3,4,5,6,7,8] [0,0,3,7,0,0,48,112,255] [] mixed (by kernel_rfl) ?_
  refine simE (And.intro @e1 @e2) ?_
  repeat' first|refine rnE @w4 ?_|refine br fun hb=>?_|with_reducible refine And.intro ?_ ?_|fail
  ·exact eq154 _ _ _ _
  ·have:(l == q)=false:=by
    rw[beq_eq_false_iff_ne]
    rintro rfl
    rw[ha] at hc
    cases hc
    grind
   rw[this]
  ·refine ⟨⟨j+1,hlt, ?_⟩, ?_⟩
   ·rw[take_succ ha,take_succ hc,hall,Prod.ext_iff.2 hb]
   ·((repeat' refine And.intro ?_ ?_)<;>first|rfl|(dsimp only;omega))
 ·have:j=l.length:=by omega
  subst this
  refine rn ?_
  rw[List.take_length,List.take_of_length_le (by omega)] at hall
  rw[hall,beq_self_eq_true]
end
end Go.Proofs.YtbkfdnkeelmloaaGreatDoor
