/- Part 21 of the proof: L1. -/
import Derived.ChangeKeysEq
import Derived.Test.YtbkfdnkeelmloaaGreatDoorZ20
set_option linter.unusedVariables false
set_option linter.unusedSimpArgs false
namespace Go.Proofs.YtbkfdnkeelmloaaGreatDoor
set_option maxHeartbeats 4000000
set_option maxRecDepth 10000
open Go.AM Go
section
variable {G:Nat→AV}
def Rising (l:List RowD):Prop:=∀(i:Nat) (a c:RowD),l[i]? =some a→l[i+1]? =some c→a.ends=false→a.address≤c.address
noncomputable def rising (l:List RowD):Bool:=@decide (Rising l) (Classical.propDecidable _)
theorem rising_t {l:List RowD} (h:Rising l):rising l=true:=by simp[rising,h]
theorem rising_f {l:List RowD} (h:¬Rising l):rising l=false:=by simp[rising,h]
theorem rowsR_get {l:List RowD} {i:Nat} {r:RowD} (h:l[i]? =some r):(rowsR l).getD i []=rowC r:=row_at rowC h
theorem f11_ok (l:List RowD) (hl:l.length≤1000000):Fulfils Tryz.prog G 11 [.dat false 15 (rowsR l)] [] (retP (booV (rising l))):=by
 have hbig:big=140737488355328:=rfl
 refine fulfilP (fn:=Tryz.f11) (rs:=[.tmp 2]) (Tryz.f11.body.getD .skip) (by kernel_rfl) rfl rfl rfl (by simp only[List.length_cons,List.length_nil];decide) rfl (by decide) ?_
 simp only[Tryz.f11,Option.getD_some,go_sem]
 refine rn ?_
 refine hLoop (X:={j:Nat // 1≤j∧(j≤l.length∨j=1)∧∀(i:Nat) (a c:RowD),i+1 < j→l[i]? =some a→l[i+1]? =some c→a.ends=false→a.address≤c.address}) (fun j=> ⟨[(0,.dat false 15 (rowsR l)),(3,intV j.1)],[]⟩) (fun j=>l.length - j.1) ⟨1,by omega,.inr rfl,fun i _ _ h=>by omega⟩ (by refine sim ?_;rfl) ?_
 rintro ⟨j,hj,hj2,hall⟩
 refine sim ?_
 by_cases hlt:j < l.length
 ·obtain ⟨c,hc⟩ :=getX l hlt
  obtain ⟨a,ha⟩ :=getX l (i:=j - 1) (by omega)
  have e1:=rowsR_get hc
  have e2:=rowsR_get ha
  have w1:IntKind.i64.wrap ((j:Int) - 1)=((j - 1:Nat):Int):=by rw[wrap_i64 (by omega) (by omega)];omega
  have w4:IntKind.i64.wrap ((j:Int)+1)=((j+1:Nat):Int):=by rw[wrap_i64 (by omega) (by omega)];simp
  have hj1:j - 1+1=j:=by omega
  simp only[rowC,intV,u64V,strV,booV] at e1 e2
  refine rn ?_
  refine hRegionD (noChi) [0,1,2,3,4,5,6,7,8,9,10,11,12,13,14,15,16,17,18,19,20] [0,0,2,7,15,31,63,127,255,255,1023,2047,4095,255,255,16639,57599,123135,254207,524287,1048575] [] mixed (by kernel_rfl) ?_
  refine simE (And.intro @e1 (And.intro @e2 @w1)) ?_
  repeat' first|refine rnE (And.intro @e1 (And.intro @e2 (And.intro @w1 @w4))) ?_|refine br fun hb=>?_|with_reducible refine And.intro ?_ ?_|omega
  ·rw[rising_f]
   intro h
   have:=h (j - 1) a c ha (by rw[hj1];exact hc) hb.1
   omega
  ·refine ⟨⟨j+1,by omega,.inl (by omega),fun i x y hi h1 h2 h3=>?_⟩, ?_⟩
   ·rcases Nat.lt_or_ge (i+1) j with h|h
    ·exact hall i x y h h1 h2 h3
    ·have:i=j - 1:=by omega
     subst this
     rw[ha] at h1
     rw[hj1,hc] at h2
     cases h1
     cases h2
     grind
   ·((repeat' refine And.intro ?_ ?_)<;>first|rfl|(dsimp only;omega))
 ·refine rn ?_
  rw[rising_t]
  intro i a c h1 h2 h3
  have:=(List.getElem?_eq_some_iff.1 h2).1
  exact hall i a c (by omega) h1 h2 h3
theorem turnR_repl {σ:Nat→Nat} (n:Nat) (v:Value):turnR (rkA σ) (List.replicate n [.val v])=List.replicate n [.val v]:=by
 induction n with
 |zero=>rfl
 |succ n ih=>rw[List.replicate_succ,turnR,ih];rfl
attribute [go_sem] turnR_repl
theorem f13_ok (l:List UnitD) (hl:l.length≤1000000):Fulfils Tryz.prog G 13 [unitsV l] [] (retB 0 49 1 (List.replicate l.length [.val (.slice none 0 0)]) []):=by
 have hbig:big=140737488355328:=rfl
 refine fulfilA Tryz.f13 [.tmp 2] 0 ?_
 simp only[Tryz.f13,Option.getD_some,go_sem]
 repeat' first|refine rn ?_|with_reducible refine fun (_:Outc)=>?_|fail
 refine doneA [(5,0)] ?_;try exact trivial
 exact ⟨_,rfl,rfl,rfl⟩
end
end Go.Proofs.YtbkfdnkeelmloaaGreatDoor
