/- Part 11 of the proof: G6 G7 G8 B2 G9 G10 G11 G12 G14 G15. -/
import Derived.Test.YtbkfdnkeelmloaaGreatDoorZ7
import Derived.Test.YtbkfdnkeelmloaaGreatDoorZ10
set_option linter.unusedVariables false
set_option linter.unusedSimpArgs false
namespace Go.Proofs.YtbkfdnkeelmloaaGreatDoor
set_option maxRecDepth 10000
open Go.AM Go
section
variable {G:Nat→AV}
def carry:Bytes→Bytes
 | []=>[]
 | [b]=>[b]
 |b :: c :: r=>(b |||128) :: carry (c :: r)
def carryTo:Nat→Bytes→Bytes
 |0,l=>l
 |_+1,[]=>[]
 |n+1,b :: r=>(b |||128) :: carryTo n r
theorem carryTo_len:∀(n:Nat) (l:Bytes),(carryTo n l).length=l.length
 |0,l=>rfl
 |n+1,[]=>rfl
 |n+1,b :: r=>by simp[carryTo,carryTo_len n r]
theorem carryTo_set:∀(n:Nat) (l:Bytes),n < l.length→(carryTo n l).set n ((carryTo n l).getD n 0 |||128)=carryTo (n+1) l
 |0,[],h=>by simp at h
 |0,b :: r,h=>by simp[carryTo]
 |n+1,[],h=>by simp at h
 |n+1,b :: r,h=>by
  have:=carryTo_set n r (by simpa using h)
  simp only[carryTo,List.set_cons_succ,List.getD_cons_succ,this]
theorem carryTo_full:∀(l:Bytes),carryTo (l.length - 1) l=carry l
 | []=>rfl
 | [b]=>rfl
 |b :: c :: r=>by
  have:=carryTo_full (c :: r)
  simp only[List.length_cons,Nat.add_sub_cancel] at this ⊢
  simp only[carryTo,carry,this]
theorem carry_len (l:Bytes):(carry l).length=l.length:=by rw[←carryTo_full,carryTo_len]
theorem f112_ok (h:Value) (l:Bytes) (hl:l.length≤100000):Fulfils Tryz.prog G 112 [.buf 0 h] [.arr h 5 1 (bytesR l)] (retO (.buf 0 h) [some (.arr h 5 1 (bytesR (carry l)))]):=by
 have hbig:big=140737488355328:=rfl
 refine fulfilA Tryz.f112 [.tmp 2] 1 ?_
 simp only[Tryz.f112,Option.getD_some,go_sem]
 repeat' first|refine s1 ?_|refine s2 ?_|refine hRegion (sim ?_)|fail
 refine hLoop (X:={i:Nat // i≤l.length - 1}) (fun i=> ⟨[(3,intV i.1),(0,.buf 0 h)],[(0,some (.arr h 5 1 (bytesR (carryTo i.1 l))))]⟩) (fun i=>l.length - i.1) ⟨0,by omega⟩ (by refine sim ?_;exact ⟨rfl,rfl⟩) ?_
 rintro ⟨i,hi⟩
 refine sim ?_
 have w1:IntKind.i64.wrap ((i:Int)+1)=((i+1:Nat):Int):=by rw[wrap_i64 (by omega) (by omega)];simp
 by_cases hlt:i+1 < l.length
 ·have e:=row_b (l:=carryTo i l) (i:=i) (by rw[carryTo_len];omega)
  have e2:=carryTo_set i l (by omega)
  repeat' first|refine s1 ?_|refine s2 ?_|refine hRegion (simE (And.intro @w1 (And.intro @carryTo_len (And.intro @e @e2))) ?_)|refine hSkip (simE (And.intro @w1 (And.intro @carryTo_len (And.intro @e @e2))) ?_)|(refine s7 rfl ?_ ?_<;>intro hb<;>first|(exfalso;omega)|skip)|refine And.intro ?_ ?_|fail
  all_goals first|omega|skip
  exact ⟨⟨i+1,by omega⟩,by exact sT,by dsimp only;omega⟩
 ·repeat' first|refine s1 ?_|refine hRegion (simE (And.intro @w1 @carryTo_len) ?_)|refine hExit (simE (And.intro @w1 @carryTo_len) ?_)|refine hRet (simE (And.intro @w1 @carryTo_len) ?_)|(refine s7 rfl ?_ ?_<;>intro hb<;>first|(exfalso;omega)|skip)|fail
  have:i=l.length - 1:=by omega
  subst this
  rw[carryTo_full]
  refine doneA [] ?_;try exact trivial
  exact ⟨rfl,rfl,rfl⟩
def leb (n:Nat):Bytes:=if h:n < 128 then [UInt8.ofNat n] else UInt8.ofNat (n % 128) :: leb (n / 128)
decreasing_by omega
def lebR (n:Nat):Bytes:=if n=0 then [] else leb n
theorem leb_eq (n:Nat):leb n=UInt8.ofNat (n % 128) :: lebR (n / 128):=by
 rw[leb,lebR]
 by_cases h:n < 128
 ·rw[dif_pos h,if_pos (by omega),Nat.mod_eq_of_lt h]
 ·rw[dif_neg h,if_neg (by omega)]
theorem lebR_eq {n:Nat} (h:0 < n):lebR n=UInt8.ofNat (n % 128) :: lebR (n / 128):=by
 rw[lebR,if_neg (by omega),leb_eq]
theorem leb_len:∀(k n:Nat),n < 128 ^ (k+1)→(leb n).length≤k+1
 |0,n,h=>by rw[leb,dif_pos (by omega)];simp
 |k+1,n,h=>by
  rw[leb]
  split
  ·simp
  ·have:=leb_len k (n / 128) (by rw[Nat.pow_succ] at h;omega)
   simp;omega
def encU (n pad:Nat):Bytes:=carry (leb n++List.replicate pad 0)
theorem f76_ok (n pad:Nat) (hn:n < 2 ^ 64) (hp:pad≤3):Fulfils Tryz.prog G 76 [.val (.int .u64 n),intV pad] [] (retB 0 5 1 (bytesR (encU n pad)) []):=by
 have hbig:big=140737488355328:=rfl
 have hlen:=leb_len 9 n (by omega)
 have tm:∀m:Nat,(m:Int).tmod 128=((m % 128:Nat):Int):=fun m=>rfl
 have td:∀m:Nat,m < 2 ^ 64→IntKind.u64.wrap ((m:Int).tdiv 128)=((m / 128:Nat):Int):=fun m hm=>by
  have e:(m:Int).tdiv 128=((m / 128:Nat):Int):=rfl
  rw[e]
  simp[IntKind.wrap,IntKind.bits,IntKind.signed];omega
 refine fulfilA Tryz.f76 [.tmp 4] 0 ?_
 simp only[Tryz.f76,Option.getD_some,go_sem]
 repeat' first|refine s1 ?_|refine s2 ?_|(refine hRegion ?_;simp -implicitDefEqProofs only[go_sem,↓reduceIte,Nat.reduceEqDiff,Nat.reduceLT,Nat.reduceLeDiff,Nat.reduceAdd,Nat.reduceSub,Nat.reduceMul,reduceCtorEq,List.reduceReplicate,Nat.reduceBEq,tm,td n hn])|with_reducible refine And.intro ?_ ?_|with_reducible refine fun (_:Outc)=>?_|omega
 rename_i o0
 refine hLoop (X:={p:Value×Bytes×Nat // p.2.1++lebR p.2.2=leb n∧p.2.2 < 2 ^ 64}) (fun p=> ⟨[(0,.val (.int .u64 p.1.2.2)),(1,intV pad),(5,.buf 9 p.1.1)],[(9,some (.arr p.1.1 5 1 (bytesR p.1.2.1)))]⟩) (fun p=>p.1.2.2) ⟨(o0.h,[UInt8.ofNat (n % 128)],n / 128),by rw[leb_eq];rfl,by dsimp only;omega⟩ (by refine sim ?_;exact rfl) ?_
 rintro ⟨⟨h,out,m⟩,ho,hm⟩
 simp only at ho hm
 refine sim ?_
 by_cases h0:0 < m
 ·rw[lebR_eq h0] at ho
  have hl:out.length+1≤10:=by
   have:=congrArg List.length ho
   simp at this;omega
  repeat' first|refine s1 ?_|refine s2 ?_|(refine hRegion ?_;simp -implicitDefEqProofs only[go_sem,↓reduceIte,Nat.reduceEqDiff,Nat.reduceLT,Nat.reduceLeDiff,Nat.reduceAdd,Nat.reduceSub,Nat.reduceMul,reduceCtorEq,List.reduceReplicate,Nat.reduceBEq,tm,td m hm])|(refine hSkip ?_;simp -implicitDefEqProofs only[go_sem,↓reduceIte,Nat.reduceEqDiff,Nat.reduceLT,Nat.reduceLeDiff,Nat.reduceAdd,Nat.reduceSub,Nat.reduceMul,reduceCtorEq,List.reduceReplicate,Nat.reduceBEq,tm,td m hm])|(refine s7 rfl ?_ ?_<;>intro hb<;>first|(exfalso;omega)|skip)|with_reducible refine And.intro ?_ ?_|with_reducible refine fun (_:Outc)=>?_|omega
  exact ⟨⟨(_,out++[UInt8.ofNat (m % 128)],m / 128),by simpa using ho,by dsimp only;omega⟩,by simp;rfl,by dsimp only;omega⟩
 ·have:m=0:=by omega
  subst this
  simp only[lebR,if_true,List.append_nil] at ho
  subst ho
  refine rn ?_
  refine hLoop (X:={p:Value×Nat // p.2≤pad}) (fun p=> ⟨[(1,intV ((pad:Int) - p.1.2)),(5,.buf 9 p.1.1)],[(9,some (.arr p.1.1 5 1 (bytesR (leb n++List.replicate p.1.2 0))))]⟩) (fun p=>pad - p.1.2) ⟨(h,0),by simp⟩ (by refine sim ?_;simp) ?_
  rintro ⟨⟨h,j⟩,hj⟩
  simp only at hj
  refine sim ?_
  by_cases hlt:j < pad
  ·have w1:IntKind.i64.wrap ((pad:Int) - j - 1)=(pad:Int) - ((j+1:Nat):Int):=by rw[wrap_i64 (by omega) (by omega)];omega
   repeat' first|refine s1 ?_|refine s2 ?_|(refine hRegion ?_;simp -implicitDefEqProofs only[go_sem,↓reduceIte,Nat.reduceEqDiff,Nat.reduceLT,Nat.reduceLeDiff,Nat.reduceAdd,Nat.reduceSub,Nat.reduceMul,reduceCtorEq,List.reduceReplicate,Nat.reduceBEq,w1,List.length_append,List.length_replicate])|(refine hSkip ?_;simp -implicitDefEqProofs only[go_sem,↓reduceIte,Nat.reduceEqDiff,Nat.reduceLT,Nat.reduceLeDiff,Nat.reduceAdd,Nat.reduceSub,Nat.reduceMul,reduceCtorEq,List.reduceReplicate,Nat.reduceBEq,w1,List.length_append,List.length_replicate])|(refine s7 rfl ?_ ?_<;>intro hb<;>first|(exfalso;omega)|skip)|with_reducible refine And.intro ?_ ?_|with_reducible refine fun (_:Outc)=>?_|omega
   exact ⟨⟨(_,j+1),by dsimp only;omega⟩,by simp[List.replicate_succ'];rfl,by dsimp only;omega⟩
  ·have:j=pad:=by omega
   subst this
   refine rn ?_
   refine callA [9] 0 (f112_ok h (leb n++List.replicate j 0) (by simp;omega)) ?_;rintro ret os fs ⟨rfl,rfl,rfl⟩;refine sim ?_
   refine rn ?_
   refine doneA [(9,0)] ?_;try exact trivial
   exact ⟨_,rfl,rfl,rfl⟩
end
set_option maxRecDepth 10000
open Go.AM Go
section
variable {G:Nat→AV}
theorem f74_ok (s:Bytes) (hs:s.length≤100000):Fulfils Tryz.prog G 74 [strV s] [] (retB 0 5 1 (bytesR (s++[0])) []):=by
 have hbig:big=140737488355328:=rfl
 refine fulfilA Tryz.f74 [.tmp 2] 0 ?_
 simp only[Tryz.f74,Option.getD_some,go_sem]
 repeat' first|refine rn ?_|with_reducible refine fun (_:Outc)=>?_|fail
 refine doneA [(4,0)] ?_;try exact trivial
 exact ⟨_,rfl,rfl,rfl⟩
def fixL:Nat→Nat→Bytes
 |0,_=>[]
 |k+1,n=>UInt8.ofNat n :: fixL k (n / 256)
theorem fixL_len:∀k n,(fixL k n).length=k
 |0,_=>rfl
 |k+1,n=>by simp[fixL,fixL_len k]
theorem fixL_snoc:∀k n,fixL (k+1) n=fixL k n++[UInt8.ofNat (n / 256 ^ k)]
 |0,n=>by simp[fixL]
 |k+1,n=>by
  rw[fixL,fixL_snoc k,fixL,List.cons_append,Nat.div_div_eq_div_mul,←Nat.pow_succ']
def fixed (n size:Nat) (big:Bool):Bytes:=if big then (fixL size n).reverse else fixL size n
theorem fixed_len (n size:Nat) (big:Bool):(fixed n size big).length=size:=by
 unfold fixed;split<;>simp[fixL_len]
def fixTo (n size:Nat) (big:Bool) (i:Nat):Bytes:=if big then List.replicate (size - i) 0++(fixL i n).reverse else fixL i n++List.replicate (size - i) 0
theorem fixTo_len {n size:Nat} {big:Bool} {i:Nat} (h:i≤size):(fixTo n size big i).length=size:=by
 unfold fixTo;split<;>simp[fixL_len]<;>omega
theorem fixTo_little {n size i:Nat} (h:i < size):(fixTo n size false i).set i (UInt8.ofNat (n / 256 ^ i))=fixTo n size false (i+1):=by
 simp only[fixTo,Bool.false_eq_true,if_false,fixL_snoc]
 rw[show size - i=(size - (i+1))+1 by omega,List.replicate_succ,List.set_append,fixL_len,if_neg (by omega),Nat.sub_self]
 simp
theorem fixTo_big {n size i:Nat} (h:i < size):(fixTo n size true i).set (size - 1 - i) (UInt8.ofNat (n / 256 ^ i))=fixTo n size true (i+1):=by
 simp only[fixTo,if_true,fixL_snoc,List.reverse_append]
 rw[show size - i=(size - (i+1))+1 by omega,List.replicate_succ',List.append_assoc,List.set_append,List.length_replicate,if_neg (by omega),show size - 1 - i - (size - (i+1))=0 by omega]
 simp
theorem shr8 (m:Nat):(m:Int).fdiv (2 ^ min (Int.toNat 8) 64)=((m / 256:Nat):Int):=by
 have e:(2:Int) ^ min (Int.toNat 8) 64=256:=by decide
 rw[e,Int.fdiv_eq_ediv_of_nonneg _ (by decide)]
 omega
theorem f38_ok (n size:Nat) (bg:Bool) (hn:n < 2 ^ 64) (hs:size≤8):Fulfils Tryz.prog G 38 [.val (.int .u64 n),intV size,booV bg] [] (retB 0 5 1 (bytesR (fixed n size bg)) []):=by
 have hbig:big=140737488355328:=rfl
 refine fulfilA Tryz.f38 [.tmp 6] 0 ?_
 simp only[Tryz.f38,Option.getD_some,go_sem]
 repeat' first|refine rnE @repl_b ?_|with_reducible refine fun (_:Outc)=>?_|fail
 rename_i o0
 refine hLoop (X:={i:Nat // i≤size}) (fun i=> ⟨[(0,.val (.int .u64 ((n / 256 ^ i.1:Nat):Int))),(1,intV size),(2,booV bg),(8,intV i.1),(7,.buf 11 o0.h)],[(11,some (.arr o0.h 5 1 (bytesR (fixTo n size bg i.1))))]⟩) (fun i=>size - i.1) ⟨0,by omega⟩ (by refine sim ?_;simp[fixTo,fixL]) ?_
 rintro ⟨i,hi⟩
 refine sim ?_
 by_cases hlt:i < size
 ·have w1:IntKind.i64.wrap ((i:Int)+1)=((i+1:Nat):Int):=by rw[wrap_i64 (by omega) (by omega)];simp
  have w2:IntKind.i64.wrap ((size:Int) - 1)=(size:Int) - 1:=wrap_i64 (by omega) (by omega)
  have w3:IntKind.i64.wrap ((size:Int) - 1 - i)=((size - 1 - i:Nat):Int):=by rw[wrap_i64 (by omega) (by omega)];omega
  have e1:n / 256 ^ i / 256=n / 256 ^ (i+1):=by rw[Nat.div_div_eq_div_mul,←Nat.pow_succ]
  have l1:=fixTo_len (n:=n) (big:=bg) (Nat.le_of_lt hlt)
  cases bg with
  |false=>
   repeat' first|refine s1 ?_|refine s2 ?_|(refine hRegion ?_;simp -implicitDefEqProofs only[go_sem,↓reduceIte,Nat.reduceEqDiff,Nat.reduceLT,Nat.reduceLeDiff,Nat.reduceAdd,Nat.reduceSub,Nat.reduceMul,reduceCtorEq,List.reduceReplicate,Nat.reduceBEq,w1,w2,w3,shr8,l1,fixTo_little hlt,e1])|(refine hSkip ?_;simp -implicitDefEqProofs only[go_sem,↓reduceIte,Nat.reduceEqDiff,Nat.reduceLT,Nat.reduceLeDiff,Nat.reduceAdd,Nat.reduceSub,Nat.reduceMul,reduceCtorEq,List.reduceReplicate,Nat.reduceBEq,w1,w2,w3,shr8,l1,fixTo_little hlt,e1])|(refine s7 rfl ?_ ?_<;>intro hb<;>first|(exfalso;omega)|(exact absurd hb (by decide))|skip)|with_reducible refine And.intro ?_ ?_|omega
   refine ⟨⟨i+1,by omega⟩, ?_⟩
   ((repeat' refine And.intro ?_ ?_)<;>first|rfl|(dsimp only;omega))
  |true=>
   repeat' first|refine s1 ?_|refine s2 ?_|(refine hRegion ?_;simp -implicitDefEqProofs only[go_sem,↓reduceIte,Nat.reduceEqDiff,Nat.reduceLT,Nat.reduceLeDiff,Nat.reduceAdd,Nat.reduceSub,Nat.reduceMul,reduceCtorEq,List.reduceReplicate,Nat.reduceBEq,w1,w2,w3,shr8,l1,fixTo_big hlt,e1])|(refine hSkip ?_;simp -implicitDefEqProofs only[go_sem,↓reduceIte,Nat.reduceEqDiff,Nat.reduceLT,Nat.reduceLeDiff,Nat.reduceAdd,Nat.reduceSub,Nat.reduceMul,reduceCtorEq,List.reduceReplicate,Nat.reduceBEq,w1,w2,w3,shr8,l1,fixTo_big hlt,e1])|(refine s7 rfl ?_ ?_<;>intro hb<;>first|(exfalso;omega)|(exact absurd hb (by decide))|skip)|with_reducible refine And.intro ?_ ?_|omega
   refine ⟨⟨i+1,by omega⟩, ?_⟩
   ((repeat' refine And.intro ?_ ?_)<;>first|rfl|(dsimp only;omega))
 ·have:i=size:=by omega
  subst this
  refine rn ?_
  have e:fixTo n i bg i=fixed n i bg:=by cases bg<;>simp[fixTo,fixed]
  rw[e]
  refine doneA [(11,0)] ?_;try exact trivial
  exact ⟨_,rfl,rfl,rfl⟩
def encO (n:Nat) (wide big:Bool):Bytes:=fixed n (if wide then 8 else 4) big
theorem wrap_u64 {n:Int} (h:0≤n) (k:n < 18446744073709551616):IntKind.u64.wrap n=n:=by
 simp[IntKind.wrap,IntKind.bits,IntKind.signed];omega
theorem f39_ok (n:Nat) (wide bg:Bool) (hn:n < 2 ^ 63):Fulfils Tryz.prog G 39 [intV n,booV wide,booV bg] [] (retB 0 5 1 (bytesR (encO n wide bg)) []):=by
 have hbig:big=140737488355328:=rfl
 have w1:IntKind.u64.wrap (n:Int)=n:=wrap_u64 (by omega) (by omega)
 refine fulfilA Tryz.f39 [.tmp 6] 0 ?_
 simp only[Tryz.f39,Option.getD_some,go_sem]
 cases wide with
 |true=>
  refine rnE @w1 ?_
  refine callA [] 1 (f38_ok n 8 bg (by omega) (by omega)) ?_;rintro ret os fs ⟨h,rfl,rfl,rfl⟩;refine sim ?_
  refine rn ?_
  refine doneA [(1011,0)] ?_;try exact trivial
  exact ⟨_,rfl,rfl,rfl⟩
 |false=>
  refine rnE @w1 ?_
  refine callA [] 1 (f38_ok n 4 bg (by omega) (by omega)) ?_;rintro ret os fs ⟨h,rfl,rfl,rfl⟩;refine sim ?_
  refine rn ?_
  refine doneA [(1015,0)] ?_;try exact trivial
  exact ⟨_,rfl,rfl,rfl⟩
end
set_option maxRecDepth 10000
open Go.AM Go
section
variable {G:Nat→AV}
def sleb (n:Int):Bytes:=if h: -64≤n∧n < 64 then [byI (n % 128)] else byI (n % 128) :: sleb (n / 128)
termination_by n.natAbs
decreasing_by omega
theorem sleb_eq (n:Int):sleb n=byI (n % 128) :: (if -64≤n∧n < 64 then [] else sleb (n / 128)):=by
 rw[sleb]
 split<;>rfl
theorem sleb_len:∀(k:Nat) (n:Int),-(64 * 128 ^ k)≤n→n < 64 * 128 ^ k→(sleb n).length≤k+1
 |0,n,h,h2=>by rw[sleb,dif_pos (by omega)];simp
 |k+1,n,h,h2=>by
  rw[sleb]
  split
  ·simp
  ·have:=sleb_len k (n / 128) (by rw[Int.pow_succ] at h;omega) (by rw[Int.pow_succ] at h2;omega)
   simp;omega
def encS (n:Int) (pad:Nat):Bytes:=carry (sleb n++List.replicate pad (if n < 0 then 127 else 0))
theorem and127 (n:Int):bitsV .and .i64 n 127=n % 128:=by
 have h:((BitVec.ofInt IntKind.i64.bits n) &&& (BitVec.ofInt IntKind.i64.bits 127)).toNat=(n % 128).toNat:=by
  show ((BitVec.ofInt 64 n) &&& (127#64)).toNat=_
  rw[BitVec.toNat_and,BitVec.toNat_ofInt]
  have e:(127#64).toNat=2 ^ 7 - 1:=rfl
  rw[e,Nat.and_two_pow_sub_one_eq_mod]
  omega
 unfold bitsV
 simp only[h]
 rw[wrap_i64 (by omega) (by omega)]
 omega
theorem shr7 (n:Int):n.fdiv (2 ^ min (Int.toNat 7) 64)=n / 128:=by
 have e:(2:Int) ^ min (Int.toNat 7) 64=128:=by decide
 rw[e,Int.fdiv_eq_ediv_of_nonneg _ (by decide)]
theorem f78_ok (n:Int) (pad:Nat) (hn: -9223372036854775808≤n∧n≤9223372036854775807) (hp:pad≤3):Fulfils Tryz.prog G 78 [intV n,intV pad] [] (retB 0 5 1 (bytesR (encS n pad)) []):=by
 have hbig:big=140737488355328:=rfl
 have hlen:=sleb_len 9 n (by omega) (by omega)
 refine fulfilA Tryz.f78 [.tmp 4] 0 ?_
 simp only[Tryz.f78,Option.getD_some,go_sem]
 repeat' first|refine rnE (And.intro @and127 @shr7) ?_|with_reducible refine fun (_:Outc)=>?_|fail
 rename_i o0
 refine hLoop (X:={p:Value×Bytes×Int // p.2.1++[byI (p.2.2 % 128)]++(if -64≤p.2.2∧p.2.2 < 64 then [] else sleb (p.2.2 / 128))=sleb n∧(p.2.2 < 0↔n < 0)∧-9223372036854775808≤p.2.2∧p.2.2≤9223372036854775807})
  (fun p=> ⟨[(0,intV (p.1.2.2 / 128)),(1,intV pad),(6,.val (.int .u8 (byI (p.1.2.2 % 128)).toNat)),(5,.buf 10 p.1.1)],[(10,some (.arr p.1.1 5 1 (bytesR (p.1.2.1++[byI (p.1.2.2 % 128)]))))]⟩) (fun p=>p.1.2.2.natAbs)
  ⟨(o0.h,[],n),by dsimp only;rw[sleb_eq n];rfl,Iff.rfl,hn.1,hn.2⟩ (by refine sim ?_;((repeat' refine And.intro ?_ ?_)<;>rfl)) ?_
 rintro ⟨⟨h,out,v⟩,ho,hs,hv1,hv2⟩
 simp only at ho hs hv1 hv2
 refine sim ?_
 have hb1:=byI_toNat (v % 128)
 by_cases hst: -64≤v∧v < 64
 ·rw[if_pos hst,List.append_nil] at ho
  have hm:byI (v / 128 % 128)=if n < 0 then 127 else 0:=by
   have:v / 128 % 128=if n < 0 then 127 else 0:=by split<;>omega
   rw[this];split<;>rfl
  have c:((v / 128 != 0 && v / 128 != -1) || (!((v / 128 == -1) == decide (((byI (v % 128)).toNat:Int)≥64))))=false:=by
   by_cases h0:v / 128=0
   ·have h1:¬((byI (v % 128)).toNat:Int)≥64:=by omega
    simp only[h0,h1];rfl
   ·have h1:((byI (v % 128)).toNat:Int)≥64:=by omega
    have h2:v / 128= -1:=by omega
    simp only[h2,h1];rfl
  refine rnE (And.intro @and127 (And.intro @shr7 @c)) ?_
  generalize out++[byI (v % 128)]=l at ho ⊢
  subst ho
  refine hLoop (X:={p:Value×Nat // p.2≤pad}) (fun p=> ⟨[(0,intV (v / 128)),(1,intV ((pad:Int) - p.1.2)),(5,.buf 10 p.1.1)],[(10,some (.arr p.1.1 5 1 (bytesR (sleb n++List.replicate p.1.2 (if n < 0 then 127 else 0)))))]⟩) (fun p=>pad - p.1.2) ⟨(h,0),by simp⟩ (by refine sim ?_;simp) ?_
  rintro ⟨⟨h,j⟩,hj⟩
  simp only at hj
  refine sim ?_
  by_cases hlt:j < pad
  ·have w1:IntKind.i64.wrap ((pad:Int) - j - 1)=(pad:Int) - ((j+1:Nat):Int):=by rw[wrap_i64 (by omega) (by omega)];omega
   repeat' first|refine s1 ?_|refine s2 ?_|(refine hRegion ?_;simp -implicitDefEqProofs only[go_sem,↓reduceIte,Nat.reduceEqDiff,Nat.reduceLT,Nat.reduceLeDiff,Nat.reduceAdd,Nat.reduceSub,Nat.reduceMul,reduceCtorEq,List.reduceReplicate,Nat.reduceBEq,w1,List.length_append,List.length_replicate,and127,hm])|(refine hSkip ?_;simp -implicitDefEqProofs only[go_sem,↓reduceIte,Nat.reduceEqDiff,Nat.reduceLT,Nat.reduceLeDiff,Nat.reduceAdd,Nat.reduceSub,Nat.reduceMul,reduceCtorEq,List.reduceReplicate,Nat.reduceBEq,w1,List.length_append,List.length_replicate,and127,hm])|(refine s7 rfl ?_ ?_<;>intro hb<;>first|(exfalso;omega)|skip)|with_reducible refine And.intro ?_ ?_|with_reducible refine fun (_:Outc)=>?_|omega
   rename_i o1
   refine ⟨⟨(o1.h,j+1),by dsimp only;omega⟩, ?_⟩
   rw[List.replicate_succ',←List.append_assoc]
   ((repeat' refine And.intro ?_ ?_)<;>first|rfl|(dsimp only;omega))
  ·have:j=pad:=by omega
   subst this
   refine rn ?_
   refine callA [10] 0 (f112_ok h (sleb n++List.replicate j (if n < 0 then 127 else 0)) (by simp;omega)) ?_;rintro ret os fs ⟨rfl,rfl,rfl⟩;refine sim ?_
   refine rn ?_
   refine doneA [(10,0)] ?_;try exact trivial
   exact ⟨_,rfl,rfl,rfl⟩
 ·rw[if_neg hst] at ho
  have hl:out.length+2≤10:=by
   have:=congrArg List.length ho
   have h1:0 < (sleb (v / 128)).length:=by rw[sleb];split<;>simp
   simp at this;omega
  have c:((v / 128 != 0 && v / 128 != -1) || (!((v / 128 == -1) == decide (((byI (v % 128)).toNat:Int)≥64))))=true:=by
   by_cases h0:v / 128=0
   ·have h1:((byI (v % 128)).toNat:Int)≥64:=by omega
    simp only[h0,h1];rfl
   ·by_cases h2:v / 128= -1
    ·have h1:¬((byI (v % 128)).toNat:Int)≥64:=by omega
     simp only[h2,h1];rfl
    ·have h3:(v / 128 != 0)=true:=by simpa using h0
     have h4:(v / 128 != -1)=true:=by simpa using h2
     simp only[h3,h4];rfl
  have w1:IntKind.i64.wrap (((out.length+1+1:Nat):Int) - 1)=((out.length+1:Nat):Int):=by
   rw[wrap_i64 (by omega) (by omega)];omega
  have e1:(bytesR (out++[byI (v % 128)]++[byI (v / 128 % 128)])).getD (out.length+1) []=[u8V (byI (v / 128 % 128))]:=by
   rw[row_b (by simp)];simp
  have l1:((out++[byI (v % 128)]).length+1) * 1≤big:=by simp;omega
  repeat' first|refine rnE (And.intro @and127 (And.intro @shr7 (And.intro @c (And.intro @w1 (And.intro @e1 @l1))))) ?_|with_reducible refine fun (_:Outc)=>?_|fail
  rename_i o1
  refine ⟨⟨(o1.h,out++[byI (v % 128)],v / 128), ?_, ?_, ?_, ?_⟩, ?_⟩
  ·dsimp only
   rw[sleb_eq] at ho
   rw[←ho];simp
  all_goals try (dsimp only;omega)
  ((repeat' refine And.intro ?_ ?_)<;>first|rfl|(dsimp only;omega))
end
open Go.AM Go
theorem cons_b {b:UInt8} {l:Bytes}:[AV.val (.int .u8 (b.toNat:Int))] :: bytesR l=bytesR (b :: l):=rfl
theorem one0:[[AV.val (.int .u8 0)]]=bytesR [0]:=rfl
theorem cons0 {l:Bytes}:[AV.val (.int .u8 0)] :: bytesR l=bytesR (0 :: l):=rfl
theorem one1:[[AV.val (.int .u8 1)]]=bytesR [1]:=rfl
theorem cons1 {l:Bytes}:[AV.val (.int .u8 1)] :: bytesR l=bytesR (1 :: l):=rfl
theorem one2:[[AV.val (.int .u8 2)]]=bytesR [2]:=rfl
theorem cons2 {l:Bytes}:[AV.val (.int .u8 2)] :: bytesR l=bytesR (2 :: l):=rfl
theorem one3:[[AV.val (.int .u8 3)]]=bytesR [3]:=rfl
theorem cons3 {l:Bytes}:[AV.val (.int .u8 3)] :: bytesR l=bytesR (3 :: l):=rfl
theorem one4:[[AV.val (.int .u8 4)]]=bytesR [4]:=rfl
theorem cons4 {l:Bytes}:[AV.val (.int .u8 4)] :: bytesR l=bytesR (4 :: l):=rfl
theorem one5:[[AV.val (.int .u8 5)]]=bytesR [5]:=rfl
theorem cons5 {l:Bytes}:[AV.val (.int .u8 5)] :: bytesR l=bytesR (5 :: l):=rfl
theorem one6:[[AV.val (.int .u8 6)]]=bytesR [6]:=rfl
theorem cons6 {l:Bytes}:[AV.val (.int .u8 6)] :: bytesR l=bytesR (6 :: l):=rfl
theorem one7:[[AV.val (.int .u8 7)]]=bytesR [7]:=rfl
theorem cons7 {l:Bytes}:[AV.val (.int .u8 7)] :: bytesR l=bytesR (7 :: l):=rfl
theorem one8:[[AV.val (.int .u8 8)]]=bytesR [8]:=rfl
theorem cons8 {l:Bytes}:[AV.val (.int .u8 8)] :: bytesR l=bytesR (8 :: l):=rfl
theorem one9:[[AV.val (.int .u8 9)]]=bytesR [9]:=rfl
theorem cons9 {l:Bytes}:[AV.val (.int .u8 9)] :: bytesR l=bytesR (9 :: l):=rfl
theorem one10:[[AV.val (.int .u8 10)]]=bytesR [10]:=rfl
theorem cons10 {l:Bytes}:[AV.val (.int .u8 10)] :: bytesR l=bytesR (10 :: l):=rfl
theorem one11:[[AV.val (.int .u8 11)]]=bytesR [11]:=rfl
theorem cons11 {l:Bytes}:[AV.val (.int .u8 11)] :: bytesR l=bytesR (11 :: l):=rfl
theorem one15:[[AV.val (.int .u8 15)]]=bytesR [15]:=rfl
theorem cons15 {l:Bytes}:[AV.val (.int .u8 15)] :: bytesR l=bytesR (15 :: l):=rfl
theorem one30:[[AV.val (.int .u8 30)]]=bytesR [30]:=rfl
theorem cons30 {l:Bytes}:[AV.val (.int .u8 30)] :: bytesR l=bytesR (30 :: l):=rfl
theorem one31:[[AV.val (.int .u8 31)]]=bytesR [31]:=rfl
theorem cons31 {l:Bytes}:[AV.val (.int .u8 31)] :: bytesR l=bytesR (31 :: l):=rfl
theorem one255:[[AV.val (.int .u8 255)]]=bytesR [255]:=rfl
theorem cons255 {l:Bytes}:[AV.val (.int .u8 255)] :: bytesR l=bytesR (255 :: l):=rfl
theorem set0 {l:Bytes} {i:Nat}:(bytesR l).set i [AV.val (.int .u8 0)]=bytesR (l.set i 0):=set_b (b:=0)
theorem set1 {l:Bytes} {i:Nat}:(bytesR l).set i [AV.val (.int .u8 1)]=bytesR (l.set i 1):=set_b (b:=1)
theorem set2 {l:Bytes} {i:Nat}:(bytesR l).set i [AV.val (.int .u8 2)]=bytesR (l.set i 2):=set_b (b:=2)
theorem set3 {l:Bytes} {i:Nat}:(bytesR l).set i [AV.val (.int .u8 3)]=bytesR (l.set i 3):=set_b (b:=3)
theorem set4 {l:Bytes} {i:Nat}:(bytesR l).set i [AV.val (.int .u8 4)]=bytesR (l.set i 4):=set_b (b:=4)
theorem set5 {l:Bytes} {i:Nat}:(bytesR l).set i [AV.val (.int .u8 5)]=bytesR (l.set i 5):=set_b (b:=5)
theorem set6 {l:Bytes} {i:Nat}:(bytesR l).set i [AV.val (.int .u8 6)]=bytesR (l.set i 6):=set_b (b:=6)
theorem set7 {l:Bytes} {i:Nat}:(bytesR l).set i [AV.val (.int .u8 7)]=bytesR (l.set i 7):=set_b (b:=7)
theorem set8 {l:Bytes} {i:Nat}:(bytesR l).set i [AV.val (.int .u8 8)]=bytesR (l.set i 8):=set_b (b:=8)
theorem set9 {l:Bytes} {i:Nat}:(bytesR l).set i [AV.val (.int .u8 9)]=bytesR (l.set i 9):=set_b (b:=9)
theorem set10 {l:Bytes} {i:Nat}:(bytesR l).set i [AV.val (.int .u8 10)]=bytesR (l.set i 10):=set_b (b:=10)
theorem set11 {l:Bytes} {i:Nat}:(bytesR l).set i [AV.val (.int .u8 11)]=bytesR (l.set i 11):=set_b (b:=11)
theorem set15 {l:Bytes} {i:Nat}:(bytesR l).set i [AV.val (.int .u8 15)]=bytesR (l.set i 15):=set_b (b:=15)
theorem set30 {l:Bytes} {i:Nat}:(bytesR l).set i [AV.val (.int .u8 30)]=bytesR (l.set i 30):=set_b (b:=30)
theorem set31 {l:Bytes} {i:Nat}:(bytesR l).set i [AV.val (.int .u8 31)]=bytesR (l.set i 31):=set_b (b:=31)
theorem set255 {l:Bytes} {i:Nat}:(bytesR l).set i [AV.val (.int .u8 255)]=bytesR (l.set i 255):=set_b (b:=255)
theorem row_0 {b:UInt8} {l:Bytes}:(bytesR (b :: l)).getD 0 []=[.val (.int .u8 (b.toNat:Int))]:=rfl
theorem turnR_nil {f:AV→AV}:turnR f []=[]:=rfl
theorem fitR_nil {p:AV→Prop}:fitR p []=True:=rfl
theorem emp_ops:(#[]:Array Operand).isEmpty=true:=rfl
attribute [go_sem] emp_ops turnR_nil fitR_nil List.contains_cons List.contains_nil set0 set1 set2 set3 set4 set5 set6 set7 set8 set9 set10 set11 set15 set30 set31 set255 row_0 cons_b one_b one0 cons0 one1 cons1 one2 cons2 one3 cons3 one4 cons4 one5 cons5 one6 cons6 one7 cons7 one8 cons8 one9 cons9 one10 cons10 one11 cons11 one15 cons15 one30 cons30 one31 cons31 one255 cons255
set_option maxRecDepth 10000
open Go.AM Go
section
variable {G:Nat→AV}
theorem encU_len {n:Nat} (pad:Nat) (h:n < 2 ^ 64):(encU n pad).length≤10+pad:=by
 have:=leb_len 9 n (by omega)
 simp only[encU,carry_len,List.length_append,List.length_replicate];omega
theorem encS_len {n:Int} (pad:Nat) (h: -9223372036854775808≤n∧n≤9223372036854775807):(encS n pad).length≤10+pad:=by
 have:=sleb_len 9 n (by omega) (by omega)
 simp only[encS,carry_len,List.length_append,List.length_replicate];omega
theorem encO_len (n:Nat) (wide bg:Bool):(encO n wide bg).length≤8:=by unfold encO;rw[fixed_len];split<;>omega
def lengthy (b:Bytes) (wide bg:Bool):Bytes:=(if wide then [255,255,255,255] else [])++encO b.length wide bg++b
theorem f76i_ok (n pad:Int) (h0:0≤n) (hn:n < 18446744073709551616) (hp:0≤pad∧pad≤3):Fulfils Tryz.prog G 76 [.val (.int .u64 n),intV pad] [] (retB 0 5 1 (bytesR (encU n.toNat pad.toNat)) []):=by
 have:=f76_ok (G:=G) n.toNat pad.toNat (by omega) (by omega)
 rwa [Int.toNat_of_nonneg h0,Int.toNat_of_nonneg hp.1] at this
theorem f76z_ok (pad:Int) (hp:0≤pad∧pad≤3):Fulfils Tryz.prog G 76 [.val (.int .u64 0),intV pad] [] (retB 0 5 1 (bytesR (encU 0 pad.toNat)) []):=f76i_ok 0 pad (by omega) (by omega) hp
theorem f38i_ok (n:Int) (size:Nat) (bg:Bool) (h0:0≤n) (hn:n < 18446744073709551616) (hs:size≤8):Fulfils Tryz.prog G 38 [.val (.int .u64 n),intV size,booV bg] [] (retB 0 5 1 (bytesR (fixed n.toNat size bg)) []):=by
 have:=f38_ok (G:=G) n.toNat size bg (by omega) hs
 rwa [Int.toNat_of_nonneg h0] at this
theorem f41_ok (b:Bytes) (wide bg:Bool) (hb:b.length≤2000000000):Fulfils Tryz.prog G 41 [bytesV b,booV wide,booV bg] [] (retB 0 5 1 (bytesR (lengthy b wide bg)) []):=by
 have hbig:big=140737488355328:=rfl
 have hl:=encO_len b.length wide bg
 simp only[bytesV_eq]
 refine fulfilA Tryz.f41 [.tmp 6] 0 ?_
 simp only[Tryz.f41,Option.getD_some,go_sem]
 cases wide with
 |true=>
  refine rn ?_
  refine callA [] 1 (f39_ok b.length true bg (by omega)) ?_;rintro ret os fs ⟨h,rfl,rfl,rfl⟩;refine sim ?_
  repeat' first|refine rn ?_|with_reducible refine fun (_:Outc)=>?_|fail
  refine doneA [(14,0)] ?_;try exact trivial
  exact ⟨_,rfl,rfl,rfl⟩
 |false=>
  refine rn ?_
  refine callA [] 1 (f39_ok b.length false bg (by omega)) ?_;rintro ret os fs ⟨h,rfl,rfl,rfl⟩;refine sim ?_
  repeat' first|refine rn ?_|with_reducible refine fun (_:Outc)=>?_|fail
  refine doneA [(1012,0)] ?_;try exact trivial
  exact ⟨_,rfl,rfl,rfl⟩
theorem f41o_ok (hh:Value) (b:Bytes) (wide bg:Bool) (hb:b.length≤2000000000):Fulfils Tryz.prog G 41 [.buf 0 hh,booV wide,booV bg] [.arr hh 5 1 (bytesR b)] (retB 1 5 1 (bytesR (lengthy b wide bg)) [some (.arr hh 5 1 (bytesR b))]):=by
 have hbig:big=140737488355328:=rfl
 have hl:=encO_len b.length wide bg
 refine fulfilA Tryz.f41 [.tmp 6] 1 ?_
 simp only[Tryz.f41,Option.getD_some,go_sem]
 cases wide with
 |true=>
  refine rn ?_
  refine callA [] 1 (f39_ok b.length true bg (by omega)) ?_;rintro ret os fs ⟨h,rfl,rfl,rfl⟩;refine sim ?_
  repeat' first|refine rn ?_|with_reducible refine fun (_:Outc)=>?_|fail
  refine doneA [(14,1)] ?_;try exact trivial
  exact ⟨_,rfl,rfl,rfl⟩
 |false=>
  refine rn ?_
  refine callA [] 1 (f39_ok b.length false bg (by omega)) ?_;rintro ret os fs ⟨h,rfl,rfl,rfl⟩;refine sim ?_
  repeat' first|refine rn ?_|with_reducible refine fun (_:Outc)=>?_|fail
  refine doneA [(1012,1)] ?_;try exact trivial
  exact ⟨_,rfl,rfl,rfl⟩
structure FileOK (f:FileD):Prop where
 name:f.name.length≤4096
 dir:f.dir=0
 mtime:0≤f.mtime∧f.mtime < 18446744073709551616
 length:0≤f.length∧f.length≤2147483648
def fileText (pad:Int) (f:FileD):Bytes:=f.name++[0]++encU 0 pad.toNat++encU f.mtime.toNat pad.toNat++encU f.length.toNat pad.toNat
theorem f75_ok (t:TableD) (f:FileD) (hf:FileOK f) (hp:0≤t.pad∧t.pad≤3):Fulfils Tryz.prog G 75 [.agg (tableC t),.agg (fileC f)] [] (retB 0 5 1 (bytesR (fileText t.pad f)) []):=by
 have hbig:big=140737488355328:=rfl
 have h1:=hf.name
 have h2:=hf.dir
 have h3:=hf.mtime
 have h4:=hf.length
 have l1:=encU_len t.pad.toNat (n:=0) (by omega)
 have l2:=encU_len t.pad.toNat (n:=f.mtime.toNat) (by omega)
 have l3:=encU_len t.pad.toNat (n:=f.length.toNat) (by omega)
 have w1:IntKind.u64.wrap f.length=f.length:=wrap_u64 (by omega) (by omega)
 have w2:IntKind.u64.wrap 0=0:=rfl
 refine fulfilA Tryz.f75 [.tmp 4] 0 ?_
 simp only[Tryz.f75,Option.getD_some,go_sem]
 repeat' first|refine rn ?_|with_reducible refine fun (_:Outc)=>?_|fail
 refine hRegionD (fun jx _=>if jx=2 then mkC [] 8 1 [] (f74_ok f.name (by omega)) else if jx=8 then mkC [] 14 1 [] (f76z_ok t.pad hp) else (default,([],[]))) [0,1,3,4,5,6,7,2,8,9,10] [0,1,3,0,8,24,0,64,255,511,1023] [(4,2),(5,2),(7,2)] mixed (by kernel_rfl) ?_
 refine simE (And.intro @h2 @w2) ?_
 (skip);refine callDA ?_;rintro ret os fs ⟨o1,rfl,rfl,rfl⟩;refine sim ?_
 (skip);refine callDA ?_;rintro ret os fs ⟨o2,rfl,rfl,rfl⟩;refine sim ?_
 repeat' first|refine rn ?_|with_reducible refine fun (_:Outc)=>?_|fail
 refine hRegionD (fun jx _=>if jx=5 then mkC [] 21 1 [] (f76i_ok f.mtime t.pad h3.1 h3.2 hp) else if jx=12 then mkC [] 28 1 [] (f76i_ok f.length t.pad h4.1 (by omega) hp) else (default,([],[]))) [0,1,2,3,4,7,8,9,10,11,5,6,12,13,14] [0,0,2,0,8,30,63,0,128,384,0,1024,4095,8191,16383] [(8,5),(8,6),(9,5),(9,6),(11,5),(11,6)] mixed (by kernel_rfl) ?_
 refine simE @w1 ?_
 (skip);refine callDA ?_;rintro ret os fs ⟨o3,rfl,rfl,rfl⟩;refine sim ?_
 repeat' first|refine rn ?_|with_reducible refine fun (_:Outc)=>?_|fail
 (skip);refine callDA ?_;rintro ret os fs ⟨o4,rfl,rfl,rfl⟩;refine sim ?_
 repeat' first|refine rn ?_|with_reducible refine fun (_:Outc)=>?_|fail
 refine doneA [(1008,0)] ?_;try exact trivial
 exact ⟨_,rfl,rfl,rfl⟩
def pathText (t:TableD) (tx s:Bytes):Bytes:=if t.shape=0 then s++[0] else encO tx.length t.wide t.big
def pathTx (t:TableD) (tx s:Bytes):Bytes:=if t.shape=0 then tx else tx++(s++[0])
theorem f77_ok (t:TableD) (tb:Nat) (ht:Value) (tx s:Bytes) (hs:s.length≤4096) (hx:tx.length≤2000000000):Fulfils Tryz.prog G 77 [.agg (tableC t),.ref 0 tb 0,strV s] [.cells tb 0 [.buf 1 ht],.arr ht 5 1 (bytesR tx)]
  (fun ret os fs=>∃h ht',ret=(fun _=>.buf 2 h)∧os=[some (.cells tb 0 [.buf 1 ht']),some (.arr ht' 5 1 (bytesR (pathTx t tx s)))]∧fs=[some (.arr h 5 1 (bytesR (pathText t tx s)))]):=by
 have hbig:big=140737488355328:=rfl
 refine fulfilA Tryz.f77 [.tmp 6] 2 ?_
 simp only[Tryz.f77,Option.getD_some,go_sem]
 by_cases h0:t.shape=0
 ·repeat' first|refine rnE @h0 ?_|with_reducible refine fun (_:Outc)=>?_|fail
  refine callA [] 1 (f74_ok s (by omega)) ?_;rintro ret os fs ⟨o1,rfl,rfl,rfl⟩;refine sim ?_
  refine rn ?_
  refine doneA [(1012,2)] ?_;try exact trivial
  exact ⟨_,_,rfl,by rw[pathTx,if_pos h0],by rw[pathText,if_pos h0]⟩
 ·repeat' first|refine rnE @h0 ?_|with_reducible refine fun (_:Outc)=>?_|fail
  refine hRegionD (fun jx _=>if jx=5 then mkC [] 22 1 [] (f74_ok s (by omega)) else (default,([],[]))) [0,1,2,3,4,5,6,7,8] [0,0,2,6,0,16,62,127,255] [(3,5)] mixed (by kernel_rfl) ?_
  refine sim ?_
  (skip);refine callDA ?_;rintro ret os fs ⟨o1,rfl,rfl,rfl⟩;refine sim ?_
  repeat' first|refine rn ?_|with_reducible refine fun (_:Outc)=>?_|fail
  refine callA [] 1 (f39_ok tx.length t.wide t.big (by omega)) ?_;rintro ret os fs ⟨o1,rfl,rfl,rfl⟩;refine sim ?_
  refine rn ?_
  refine doneA [(1030,2)] ?_;try exact trivial
  exact ⟨_,_,rfl,by rw[pathTx,if_neg h0],by rw[pathText,if_neg h0]⟩
def extended (pad:Int) (code:Int) (b:Bytes):Bytes:=[0]++encU (b.length+1) pad.toNat++[byI code]++b
theorem f79_ok (t:TableD) (code:Int) (b:Bytes) (hb:b.length≤2000000000) (hp:0≤t.pad∧t.pad≤3):Fulfils Tryz.prog G 79 [.agg (tableC t),intV code,bytesV b] [] (retB 0 5 1 (bytesR (extended t.pad code b)) []):=by
 have hbig:big=140737488355328:=rfl
 have l1:=encU_len t.pad.toNat (n:=b.length+1) (by omega)
 have w1:IntKind.i64.wrap ((b.length:Int)+1)=((b.length+1:Nat):Int):=by rw[wrap_i64 (by omega) (by omega)];simp
 have w2:IntKind.u64.wrap ((b.length+1:Nat):Int)=((b.length+1:Nat):Int):=wrap_u64 (by omega) (by omega)
 simp only[bytesV_eq]
 refine fulfilA Tryz.f79 [.tmp 6] 0 ?_
 simp only[Tryz.f79,Option.getD_some,go_sem]
 repeat' first|refine rnE (And.intro @w1 @w2) ?_|with_reducible refine fun (_:Outc)=>?_|fail
 refine callA [] 1 (f76i_ok ((b.length+1:Nat):Int) t.pad (by omega) (by omega) hp) ?_;rintro ret os fs ⟨o1,rfl,rfl,rfl⟩;refine sim ?_
 repeat' first|refine rn ?_|with_reducible refine fun (_:Outc)=>?_|fail
 refine doneA [(7,0)] ?_;try exact trivial
 exact ⟨_,rfl,rfl,by simp[extended]⟩
theorem f79n_ok (t:TableD) (code:Int) (hp:0≤t.pad∧t.pad≤3):Fulfils Tryz.prog G 79 [.agg (tableC t),intV code,.val (.slice none 0 0)] [] (retB 0 5 1 (bytesR (extended t.pad code [])) []):=
 (f79_ok t code [] (by simp) hp).argsOf fun M vs h=>by
  obtain ⟨v1,r1,e1,h1,v2,r2,e2,h2,v3,r3,e3,h3,h4⟩ :=h
  exact ⟨v1,r1,e1,h1,v2,r2,e2,h2,v3,r3,e3,nil_dat h3,h4⟩
end
set_option maxRecDepth 10000
open Go.AM Go
section
variable {G:Nat→AV}
theorem flat_len {α:Type} (f:α→Bytes) (C:Nat):∀(l:List α),(∀x∈l,(f x).length≤C)→(l.flatMap f).length≤C * l.length
 | [],_=>by simp
 |x :: l,h=>by
  have:=flat_len f C l (fun y hy=>h y (by simp[hy]))
  have h1:=h x (by simp)
  simp only[List.flatMap_cons,List.length_append,List.length_cons,Nat.mul_add];omega
theorem take_succ {α:Type} {l:List α} {i:Nat} {x:α} (h:l[i]? =some x):l.take (i+1)=l.take i++[x]:=by
 obtain ⟨hi,e⟩ :=List.getElem?_eq_some_iff.1 h
 rw[List.take_succ_eq_append_getElem hi,e]
theorem flat_take {α:Type} (f:α→Bytes) {l:List α} {i:Nat} {x:α} (h:l[i]? =some x):(l.take (i+1)).flatMap f=(l.take i).flatMap f++f x:=by
 rw[take_succ h];simp
def stdOps:Bytes:=[0,1,1,1,1,0,0,0,1,0,0,1]
def operands (t:TableD):Bytes:=stdOps.take (t.opcodeBase - 1).toNat++t.operands.map byI
theorem f35_ok (t:TableD) (hb:1≤t.opcodeBase∧t.opcodeBase≤255) (ho:t.operands.length≤300):Fulfils Tryz.prog G 35 [.agg (tableC t)] [] (retB 0 5 1 (bytesR (operands t)) []):=by
 have hbig:big=140737488355328:=rfl
 refine fulfilA Tryz.f35 [.tmp 2] 0 ?_
 simp only[Tryz.f35,Option.getD_some,go_sem]
 repeat' first|refine rn ?_|with_reducible refine fun (_:Outc)=>?_|fail
 rename_i o1 o2 o3
 refine hLoop (X:={p:Value×Nat // p.2≤12}) (fun p=> ⟨[(1,.ref 1 o1.b 0),(3,.buf 8 p.1.1),(9,.buf 9 o3.h),(10,intV 12),(11,intV p.1.2)],[(1,some (.cells o1.b 0 (tableC t))),(8,some (.arr p.1.1 5 1 (bytesR (stdOps.take (min p.1.2 (t.opcodeBase - 1).toNat))))),(9,some (.arr o3.h 5 1 (bytesR stdOps)))]⟩) (fun p=>12 - p.1.2) ⟨(o2.h,0),by simp⟩ (by refine sim ?_;((repeat' refine And.intro ?_ ?_)<;>rfl)) ?_
 rintro ⟨⟨h,i⟩,hi⟩
 simp only at hi
 have hs12:stdOps.length=12:=rfl
 refine sim ?_
 by_cases hlt:i < 12
 ·have w1:IntKind.i64.wrap ((i:Int)+1)=((i+1:Nat):Int):=by rw[wrap_i64 (by omega) (by omega)];simp
  have e1:(bytesR stdOps).getD i []=[u8V (stdOps.getD i 0)]:=row_b (by omega)
  have l1:(stdOps.take (min i (t.opcodeBase - 1).toNat)).length≤12:=by simp;omega
  repeat' first|refine rnE (And.intro @w1 (And.intro @e1 @hs12)) ?_|refine br fun hb=>?_|with_reducible refine And.intro ?_ ?_|with_reducible refine fun (_:Outc)=>?_|fail
  ·rename_i o4 o5
   have hm:min i (t.opcodeBase - 1).toNat=i∧min (i+1) (t.opcodeBase - 1).toNat=i+1:=by omega
   refine ⟨⟨(o5.h,i+1), ?_⟩, ?_⟩
   rotate_left
   ·rw[hm.1,hm.2,List.take_succ_eq_append_getElem (by omega),List.getD_eq_getElem?_getD,List.getElem?_eq_getElem (by omega)]
    ((repeat' refine And.intro ?_ ?_)<;>first|rfl|(dsimp only;omega))
   ·dsimp only;omega
  ·have hm:min i (t.opcodeBase - 1).toNat=min (i+1) (t.opcodeBase - 1).toNat:=by omega
   refine ⟨⟨(h,i+1),by dsimp only;omega⟩, ?_⟩
   rw[hm]
   ((repeat' refine And.intro ?_ ?_)<;>first|rfl|(dsimp only;omega))
 ·have:i=12:=by omega
  subst this
  refine rnE @hs12 ?_
  refine hLoop (X:={p:Value×Nat // p.2≤t.operands.length}) (fun p=> ⟨[(3,.buf 8 p.1.1),(27,intsV t.operands),(28,intV t.operands.length),(29,intV p.1.2)],[(8,some (.arr p.1.1 5 1 (bytesR (stdOps.take (t.opcodeBase - 1).toNat++(t.operands.take p.1.2).map byI))))]⟩) (fun p=>t.operands.length - p.1.2) ⟨(h,0),by simp⟩ (by
   have:stdOps.take (min 12 (t.opcodeBase - 1).toNat)=stdOps.take (t.opcodeBase - 1).toNat:=by
    rw[Nat.min_comm,←List.take_take];rfl
   rw[this]
   refine sim ?_;((repeat' refine And.intro ?_ ?_)<;>first|rfl|(simp;done))) ?_
  rintro ⟨⟨h,j⟩,hj⟩
  simp only at hj
  refine sim ?_
  have l0:(stdOps.take (t.opcodeBase - 1).toNat).length≤12:=by simp;omega
  by_cases hlt:j < t.operands.length
  ·obtain ⟨x,hx⟩ :=getX t.operands hlt
   have e:=row_at (fun n=>[AV.val (.int .i64 n)]) hx
   have w1:IntKind.i64.wrap ((j:Int)+1)=((j+1:Nat):Int):=by rw[wrap_i64 (by omega) (by omega)];simp
   have l2:(t.operands.take j).length≤300:=by simp;omega
   repeat' first|refine rnE (And.intro @w1 @e) ?_|with_reducible refine fun (_:Outc)=>?_|fail
   rename_i o4
   refine ⟨⟨(o4.h,j+1),by dsimp only;omega⟩, ?_⟩
   rw[take_succ hx]
   ((repeat' refine And.intro ?_ ?_)<;>first|rfl|(dsimp only;omega)|(simp;done))
  ·have:j=t.operands.length:=by omega
   subst this
   refine rn ?_
   rw[List.take_of_length_le (Nat.le_refl _)]
   refine doneA [(8,0)] ?_;try exact trivial
   exact ⟨_,rfl,rfl,rfl⟩
def oldLists (t:TableD):Bytes:=[0]++t.files.flatMap (fileText t.pad)++[0]
theorem fileText_len {pad:Int} {f:FileD} (hf:FileOK f) (hp:0≤pad∧pad≤3):(fileText pad f).length≤5000:=by
 have h1:=hf.name
 have h3:=hf.mtime
 have h4:=hf.length
 have l1:=encU_len pad.toNat (n:=0) (by omega)
 have l2:=encU_len pad.toNat (n:=f.mtime.toNat) (by omega)
 have l3:=encU_len pad.toNat (n:=f.length.toNat) (by omega)
 simp only[fileText,List.length_append,List.length_cons,List.length_nil];omega
theorem f36_ok (t:TableD) (hp:0≤t.pad∧t.pad≤3) (hd:t.dirs=[]) (hn:t.files.length≤100) (hf:∀f∈t.files,FileOK f):Fulfils Tryz.prog G 36 [.agg (tableC t)] [] (retB 0 5 1 (bytesR (oldLists t)) []):=by
 have hbig:big=140737488355328:=rfl
 refine fulfilA Tryz.f36 [.tmp 2] 0 ?_
 simp only[Tryz.f36,Option.getD_some,go_sem]
 repeat' first|refine rnE @hd ?_|with_reducible refine fun (_:Outc)=>?_|fail
 refine hLoop0 ?_
 repeat' first|refine rn ?_|with_reducible refine fun (_:Outc)=>?_|fail
 rename_i o1 o2 o3 o4
 refine hLoop (X:={p:Value×Nat // p.2≤t.files.length}) (fun p=> ⟨[(1,.ref 1 o1.b 0),(3,.buf 8 p.1.1),(25,filesV t.files),(26,intV t.files.length),(27,intV p.1.2)],[(1,some (.cells o1.b 0 (tableC t))),(8,some (.arr p.1.1 5 1 (bytesR ([0]++(t.files.take p.1.2).flatMap (fileText t.pad)))))]⟩) (fun p=>t.files.length - p.1.2) ⟨(o4.h,0),by simp⟩ (by refine simE @hd ?_;((repeat' refine And.intro ?_ ?_)<;>rfl)) ?_
 rintro ⟨⟨h,j⟩,hj⟩
 simp only at hj
 refine sim ?_
 have l0:=flat_len (fileText t.pad) 5000 (t.files.take j) (fun x hx=>fileText_len (hf x (List.mem_of_mem_take hx)) hp)
 rw[List.length_take] at l0
 by_cases hlt:j < t.files.length
 ·obtain ⟨x,hx⟩ :=getX t.files hlt
  have e:=row_at fileC hx
  have hx1:=hf x (List.mem_of_getElem? hx)
  have l1:=fileText_len hx1 hp
  have w1:IntKind.i64.wrap ((j:Int)+1)=((j+1:Nat):Int):=by rw[wrap_i64 (by omega) (by omega)];simp
  repeat' first|refine rnE (And.intro @w1 @e) ?_|with_reducible refine fun (_:Outc)=>?_|fail
  refine callA [] 1 (f75_ok t x hx1 hp) ?_;rintro ret os fs ⟨o5,rfl,rfl,rfl⟩;refine sim ?_
  repeat' first|refine rnE @w1 ?_|with_reducible refine fun (_:Outc)=>?_|fail
  rename_i o6
  refine ⟨⟨(o6.h,j+1),by dsimp only;omega⟩, ?_⟩
  rw[flat_take _ hx]
  ((repeat' refine And.intro ?_ ?_)<;>first|rfl|(dsimp only;omega))
 ·have:j=t.files.length:=by omega
  subst this
  repeat' first|refine rn ?_|with_reducible refine fun (_:Outc)=>?_|fail
  refine doneA [(8,0)] ?_;try exact trivial
  exact ⟨_,rfl,rfl,by rw[List.take_of_length_le (Nat.le_refl _)];simp[oldLists]⟩
end
set_option maxHeartbeats 2000000
set_option maxRecDepth 10000
open Go.AM Go
section
variable {G:Nat→AV}
theorem operands_len (t:TableD) (hb:1≤t.opcodeBase∧t.opcodeBase≤255) (ho:(t.operands.length:Int)=max (t.opcodeBase - 13) 0):((operands t).length:Int)=t.opcodeBase - 1:=by
 have hs12:stdOps.length=12:=rfl
 simp only[operands,List.length_append,List.length_take,List.length_map,hs12];omega
structure OpOK (t:TableD) (o:OpD):Prop where
 n:0≤o.n∧o.n < 18446744073709551616
 m: -9223372036854775808≤o.m∧o.m≤9223372036854775807
 kind:0 < o.kind→o.kind < t.opcodeBase
 file:o.kind= -3→FileOK o.file
 rest:o.kind < -4→-256 < o.kind∧o.n≤300
def opText (t:TableD) (o:OpD):Bytes:=
 if o.kind=0 then [byI o.n]
 else if o.kind=3 then 3 :: encS o.m t.pad.toNat
 else if o.kind=9 then 9 :: fixed o.n.toNat 2 t.big
 else if 0 < o.kind then byI o.kind :: (List.replicate ((operands t).getD (o.kind - 1).toNat 0).toNat (encU o.n.toNat t.pad.toNat)).flatten
 else if o.kind= -1 then extended t.pad 1 []
 else if o.kind= -2 then extended t.pad 2 (fixed o.n.toNat t.size.toNat t.big)
 else if o.kind= -3 then extended t.pad 3 (fileText t.pad o.file)
 else if o.kind= -4 then extended t.pad 4 (encU o.n.toNat t.pad.toNat)
 else extended t.pad (-o.kind) (List.replicate o.n.toNat (byI o.m))
theorem rep_len (k:Nat) (b:Bytes):(List.replicate k b).flatten.length=k * b.length:=by simp
theorem f78i_ok (n pad:Int) (hn: -9223372036854775808≤n∧n≤9223372036854775807) (hp:0≤pad∧pad≤3):Fulfils Tryz.prog G 78 [intV n,intV pad] [] (retB 0 5 1 (bytesR (encS n pad.toNat)) []):=by
 have:=f78_ok (G:=G) n pad.toNat hn (by omega)
 rwa [Int.toNat_of_nonneg hp.1] at this
theorem f38j_ok (n size:Int) (bg:Bool) (h0:0≤n) (hn:n < 18446744073709551616) (hs:0≤size∧size≤8):Fulfils Tryz.prog G 38 [.val (.int .u64 n),intV size,booV bg] [] (retB 0 5 1 (bytesR (fixed n.toNat size.toNat bg)) []):=by
 have:=f38i_ok (G:=G) n size.toNat bg h0 hn (by omega)
 rwa [Int.toNat_of_nonneg hs.1] at this
theorem f40_ok (t:TableD) (o:OpD) (hp:0≤t.pad∧t.pad≤3) (hob:1≤t.opcodeBase∧t.opcodeBase≤255) (ho:(t.operands.length:Int)=max (t.opcodeBase - 13) 0) (hz:0≤t.size∧t.size≤8) (h:OpOK t o):
  Fulfils Tryz.prog G 40 [.agg (tableC t),.agg (opC o)] [] (retB 0 5 1 (bytesR (opText t o)) []):=by
 have hbig:big=140737488355328:=rfl
 obtain ⟨hn,hm,hk,hfile,hrest⟩ :=h
 have l1:=encU_len t.pad.toNat (n:=o.n.toNat) (by omega)
 have l2:=encS_len t.pad.toNat hm
 have hol:=operands_len t hob ho
 refine fulfilA Tryz.f40 [.tmp 4] 0 ?_
 simp only[Tryz.f40,Option.getD_some,go_sem]
 (repeat' first|refine s1 ?_|refine hRegion (sim ?_)|with_reducible refine fun (_:Outc)=>?_|fail)
 rename_i o1 o2
 by_cases h0:o.kind=0
 ·repeat' first|refine rn ?_|with_reducible refine fun (_:Outc)=>?_|fail
  refine doneA [(16,0)] ?_;try exact trivial
  exact ⟨_,rfl,rfl,by rw[opText,if_pos h0]⟩
 by_cases h3:o.kind=3
 ·repeat' first|refine rn ?_|with_reducible refine fun (_:Outc)=>?_|fail
  refine callA [] 1 (f78i_ok o.m t.pad hm hp) ?_;rintro ret os fs ⟨o5,rfl,rfl,rfl⟩;refine sim ?_
  repeat' first|refine rn ?_|with_reducible refine fun (_:Outc)=>?_|fail
  refine doneA [(21,0)] ?_;try exact trivial
  exact ⟨_,rfl,rfl,by rw[opText,if_neg h0,if_pos h3]⟩
 by_cases h9:o.kind=9
 ·have l3:=fixed_len o.n.toNat 2 t.big
  repeat' first|refine rn ?_|with_reducible refine fun (_:Outc)=>?_|fail
  refine callA [] 1 (f38i_ok o.n 2 t.big hn.1 hn.2 (by omega)) ?_;rintro ret os fs ⟨o5,rfl,rfl,rfl⟩;refine sim ?_
  repeat' first|refine rn ?_|with_reducible refine fun (_:Outc)=>?_|fail
  refine doneA [(32,0)] ?_;try exact trivial
  exact ⟨_,rfl,rfl,by rw[opText,if_neg h0,if_neg h3,if_pos h9]⟩
 by_cases hpos:0 < o.kind
 ·have hk:=hk hpos
  have w1:IntKind.i64.wrap (o.kind - 1)=o.kind - 1:=wrap_i64 (by omega) (by omega)
  have hi:(o.kind - 1).toNat < (operands t).length:=by omega
  have e1:=row_b (l:=operands t) hi
  repeat' first|refine rn ?_|with_reducible refine fun (_:Outc)=>?_|fail
  rename Outc=>o3
  refine hRegionD (fun jx _=>if jx=1 then mkC [] 48 1 [] (f35_ok t hob (by omega)) else (default,([],[]))) [0,2,3,4,1,5,6,7] [0,1,0,4,12,31,63,127] [(3,1)] mixed (by kernel_rfl) ?_
  refine simE @w1 ?_
  (skip);refine callDA ?_;rintro ret os fs ⟨o5,rfl,rfl,rfl⟩;refine sim ?_
  refine rnE (And.intro @w1 @e1) ?_
  have hc:((operands t).getD (o.kind - 1).toNat 0).toNat < 256:=UInt8.toNat_lt _
  generalize hcc:(operands t).getD (o.kind - 1).toNat 0=c at hc ⊢
  refine hLoop (X:={p:Value×Nat // p.2≤c.toNat}) (fun p=> ⟨[(2,.ref 2 o1.b 0),(3,.ref 3 o2.b 0),(5,.buf 46 p.1.1),(6,.val (.int .u8 ((c.toNat - p.1.2:Nat):Int)))],[(2,some (.cells o1.b 0 (tableC t))),(3,some (.cells o2.b 0 (opC o))),(46,some (.arr p.1.1 5 1 (bytesR (byI o.kind :: (List.replicate p.1.2 (encU o.n.toNat t.pad.toNat)).flatten))))]⟩) (fun p=>c.toNat - p.1.2) ⟨(o3.h,0),by simp⟩ (by refine simE (And.intro @e1 @hcc) ?_;((repeat' refine And.intro ?_ ?_)<;>rfl)) ?_
  rintro ⟨⟨hh,j⟩,hj⟩
  simp only at hj
  refine sim ?_
  have lr:=rep_len j (encU o.n.toNat t.pad.toNat)
  have lr2:j * (encU o.n.toNat t.pad.toNat).length≤256 * 13:=Nat.mul_le_mul (by omega) (by omega)
  by_cases hlt:j < c.toNat
  ·have e3:((c.toNat - j:Nat):Int) - 1=((c.toNat - (j+1):Nat):Int):=by omega
   have e4:byI ((c.toNat - (j+1):Nat):Int)=UInt8.ofNat (c.toNat - (j+1)):=byI_nat _
   have e5:((UInt8.ofNat (c.toNat - (j+1))).toNat:Int)=((c.toNat - (j+1):Nat):Int):=by
    rw[UInt8.toNat_ofNat'];omega
   refine rn ?_
   refine callA [] 1 (f76i_ok o.n t.pad hn.1 hn.2 hp) ?_;rintro ret os fs ⟨o5,rfl,rfl,rfl⟩;refine sim ?_
   repeat' first|refine rnE (And.intro @e3 (And.intro @e4 @e5)) ?_|with_reducible refine fun (_:Outc)=>?_|fail
   rename Outc=>o6
   refine ⟨⟨(o6.h,j+1),by dsimp only;omega⟩, ?_⟩
   rw[List.replicate_succ',List.flatten_append]
   ((repeat' refine And.intro ?_ ?_)<;>first|rfl|(dsimp only;omega)|(simp;done))
  ·have:j=c.toNat:=by omega
   subst this
   refine rn ?_
   refine doneA [(46,0)] ?_;try exact trivial
   exact ⟨_,rfl,rfl,by rw[opText,if_neg h0,if_neg h3,if_neg h9,if_pos hpos,hcc]⟩
 by_cases hm1:o.kind= -1
 ·refine rn ?_
  refine callA [] 1 (f79n_ok t 1 hp) ?_;rintro ret os fs ⟨o5,rfl,rfl,rfl⟩;refine sim ?_
  refine rn ?_
  refine doneA [(1071,0)] ?_;try exact trivial
  exact ⟨_,rfl,rfl,by rw[opText,if_neg h0,if_neg h3,if_neg h9,if_neg hpos,if_pos hm1]⟩
 by_cases hm2:o.kind= -2
 ·have l3:=fixed_len o.n.toNat t.size.toNat t.big
  refine rn ?_
  refine hRegionD (fun jx _=>if jx=7 then mkC [] 83 1 [] (f38j_ok o.n t.size t.big hn.1 hn.2 hz) else if jx=8 then mkC [] 84 1 [1083] (f79_ok t 2 (fixed o.n.toNat t.size.toNat t.big) (by omega) hp) else (default,([],[]))) [0,1,2,3,4,5,6,7,8,9] [0,0,2,0,8,0,32,126,255,511] [(0,7)] mixed (by kernel_rfl) ?_
  refine sim ?_
  (skip);refine callDA ?_;rintro ret os fs ⟨o5,rfl,rfl,rfl⟩;refine sim ?_
  skip
  (skip);refine callDA ?_;rintro ret os fs ⟨o6,rfl,rfl,rfl⟩;refine sim ?_
  refine rn ?_
  refine doneA [(1084,0)] ?_;try exact trivial
  exact ⟨_,rfl,rfl,by rw[opText,if_neg h0,if_neg h3,if_neg h9,if_neg hpos,if_neg hm1,if_pos hm2]⟩
 by_cases hm3:o.kind= -3
 ·have l3:=fileText_len (hfile hm3) hp
  refine rn ?_
  refine hRegionD (fun jx _=>if jx=4 then mkC [] 93 1 [] (f75_ok t o.file (hfile hm3) hp) else if jx=5 then mkC [] 94 1 [1093] (f79_ok t 3 (fileText t.pad o.file) (by omega) hp) else (default,([],[]))) [0,1,2,3,4,5,6] [0,0,0,4,14,31,63] [(0,4)] mixed (by kernel_rfl) ?_
  refine sim ?_
  (skip);refine callDA ?_;rintro ret os fs ⟨o5,rfl,rfl,rfl⟩;refine sim ?_
  skip
  (skip);refine callDA ?_;rintro ret os fs ⟨o6,rfl,rfl,rfl⟩;refine sim ?_
  refine rn ?_
  refine doneA [(1094,0)] ?_;try exact trivial
  exact ⟨_,rfl,rfl,by rw[opText,if_neg h0,if_neg h3,if_neg h9,if_neg hpos,if_neg hm1,if_neg hm2,if_pos hm3]⟩
 by_cases hm4:o.kind= -4
 ·refine rn ?_
  refine hRegionD (fun jx _=>if jx=5 then mkC [] 104 1 [] (f76i_ok o.n t.pad hn.1 hn.2 hp) else if jx=6 then mkC [] 105 1 [1104] (f79_ok t 4 (encU o.n.toNat t.pad.toNat) (by omega) hp) else (default,([],[]))) [0,1,2,3,4,5,6,7] [0,0,2,0,8,30,63,127] [(0,5)] mixed (by kernel_rfl) ?_
  refine sim ?_
  (skip);refine callDA ?_;rintro ret os fs ⟨o5,rfl,rfl,rfl⟩;refine sim ?_
  skip
  (skip);refine callDA ?_;rintro ret os fs ⟨o6,rfl,rfl,rfl⟩;refine sim ?_
  refine rn ?_
  refine doneA [(1105,0)] ?_;try exact trivial
  exact ⟨_,rfl,rfl,by rw[opText,if_neg h0,if_neg h3,if_neg h9,if_neg hpos,if_neg hm1,if_neg hm2,if_neg hm3,if_pos hm4]⟩
 have hr:=hrest (by omega)
 repeat' first|refine rnE @repl_b ?_|with_reducible refine fun (_:Outc)=>?_|fail
 rename Outc=>o3
 refine hLoop (X:={i:Nat // i≤o.n.toNat}) (fun i=> ⟨[(2,.ref 2 o1.b 0),(3,.ref 3 o2.b 0),(7,.buf 108 o3.h),(110,intV o.n.toNat),(111,intV i.1)],[(2,some (.cells o1.b 0 (tableC t))),(3,some (.cells o2.b 0 (opC o))),(108,some (.arr o3.h 5 1 (bytesR (List.replicate i.1 (byI o.m)++List.replicate (o.n.toNat - i.1) 0))))]⟩) (fun i=>o.n.toNat - i.1) ⟨0,by simp⟩ (by refine sim ?_;((repeat' refine And.intro ?_ ?_)<;>rfl)) ?_
 rintro ⟨i,hi⟩
 refine sim ?_
 by_cases hlt:i < o.n.toNat
 ·have w1:IntKind.i64.wrap ((i:Int)+1)=((i+1:Nat):Int):=by rw[wrap_i64 (by omega) (by omega)];simp
  have e1:(List.replicate i (byI o.m)++List.replicate (o.n.toNat - i) 0).set i (byI o.m)=List.replicate (i+1) (byI o.m)++List.replicate (o.n.toNat - (i+1)) 0:=by
   rw[show o.n.toNat - i=(o.n.toNat - (i+1))+1 by omega,List.replicate_succ,List.set_append,List.length_replicate,if_neg (by omega),Nat.sub_self,List.replicate_succ']
   simp
  refine rnE (And.intro @w1 @e1) ?_
  refine ⟨⟨i+1,by omega⟩, ?_⟩
  ((repeat' refine And.intro ?_ ?_)<;>first|rfl|(dsimp only;omega))
 ·have:i=o.n.toNat:=by omega
  subst this
  have w1:IntKind.i64.wrap (0 - o.kind)= -o.kind:=by rw[wrap_i64 (by omega) (by omega)];omega
  repeat' first|refine s1 ?_|(refine hRegion ?_;simp -implicitDefEqProofs only[go_sem,↓reduceIte,Nat.reduceEqDiff,Nat.reduceLT,Nat.reduceLeDiff,Nat.reduceAdd,Nat.reduceSub,Nat.reduceMul,reduceCtorEq,List.reduceReplicate,Nat.reduceBEq,w1,Nat.sub_self,List.replicate_zero,List.append_nil])|(refine hExit ?_;simp -implicitDefEqProofs only[go_sem,↓reduceIte,Nat.reduceEqDiff,Nat.reduceLT,Nat.reduceLeDiff,Nat.reduceAdd,Nat.reduceSub,Nat.reduceMul,reduceCtorEq,List.reduceReplicate,Nat.reduceBEq,w1,Nat.sub_self,List.replicate_zero,List.append_nil])|(refine s7 rfl ?_ ?_<;>intro hb<;>first|(exfalso;omega)|skip)|fail
  refine callXF [] [108] 1 (f79_ok t (-o.kind) (List.replicate o.n.toNat (byI o.m)) (by simp;omega) hp) sT sT sT (by simp) ?_;rintro ret os fs ⟨o5,rfl,rfl,rfl⟩;refine sim ?_
  refine rn ?_
  refine doneA [(1126,0)] ?_;try exact trivial
  exact ⟨_,rfl,rfl,by rw[opText,if_neg h0,if_neg h3,if_neg h9,if_neg hpos,if_neg hm1,if_neg hm2,if_neg hm3,if_neg hm4]⟩
end
set_option maxHeartbeats 2000000
set_option maxRecDepth 10000
open Go.AM Go
section
variable {G:Nat→AV}
def fileN (t:TableD) (at':Nat) (f:FileD):Bytes:=
 if t.shape=0 then f.name++[0]++encU f.mtime.toNat t.pad.toNat++encU f.length.toNat t.pad.toNat
 else encO at' t.wide t.big++List.replicate 16 0++fixed f.length.toNat 4 t.big++fixed f.mtime.toNat 8 t.big
def txN (t:TableD) (l:List FileD):Bytes:=if t.shape=0 then [] else l.flatMap fun f=>f.name++[0]
def filesN (t:TableD):Nat→List FileD→Bytes
 |_,[]=>[]
 |at',f :: r=>fileN t at' f++filesN t (at'+(txN t [f]).length) r
theorem txN_snoc (t:TableD) (l:List FileD) (f:FileD):txN t (l++[f])=txN t l++txN t [f]:=by
 unfold txN;split<;>simp
theorem filesN_snoc (t:TableD):∀(l:List FileD) (at':Nat) (f:FileD),filesN t at' (l++[f])=filesN t at' l++fileN t (at'+(txN t l).length) f
 | [],at',f=>by simp[filesN,txN]
 |g :: l,at',f=>by
  have h:(txN t (g :: l)).length=(txN t [g]).length+(txN t l).length:=by unfold txN;split<;>simp;omega
  simp only[List.cons_append,filesN,filesN_snoc t l,h,List.append_assoc,Nat.add_assoc]
theorem fileN_len {t:TableD} {at':Nat} {f:FileD} (hf:FileOK f) (hp:0≤t.pad∧t.pad≤3):(fileN t at' f).length≤5000:=by
 have h1:=hf.name
 have h3:=hf.mtime
 have h4:=hf.length
 have l2:=encU_len t.pad.toNat (n:=f.mtime.toNat) (by omega)
 have l3:=encU_len t.pad.toNat (n:=f.length.toNat) (by omega)
 have l4:=encO_len at' t.wide t.big
 unfold fileN
 split<;>simp only[List.length_append,List.length_cons,List.length_nil,List.length_replicate,fixed_len]<;>omega
theorem filesN_len {t:TableD} (hp:0≤t.pad∧t.pad≤3):∀(l:List FileD) (at':Nat),(∀f∈l,FileOK f)→(filesN t at' l).length≤5000 * l.length
 | [],_,_=>by simp[filesN]
 |f :: l,at',h=>by
  have h1:=fileN_len (at':=at') (h f (by simp)) hp
  have h2:=filesN_len hp l (at'+(txN t [f]).length) fun g hg=>h g (by simp[hg])
  simp only[filesN,List.length_append,List.length_cons,Nat.mul_add];omega
theorem txN_len {t:TableD} {l:List FileD} (h:∀f∈l,FileOK f):(txN t l).length≤4097 * l.length:=by
 unfold txN
 split
 ·simp
 ·exact flat_len _ 4097 l fun f hf=>by have:=(h f hf).name;simp;omega
def newHead (t:TableD):Bytes:=(if t.shape=0 then [1,1,8] else [1,1,31])++encU 0 t.pad.toNat++(if t.shape=0 then [3,1,8,3,15,4,15] else [4,1,31,5,30,4,6,3,7])++encU t.files.length t.pad.toNat
def newLists (t:TableD):Bytes:=newHead t++filesN t 0 t.files
theorem newHead_len {t:TableD} (hn:t.files.length≤100) (hp:0≤t.pad∧t.pad≤3):(newHead t).length≤50:=by
 have l2:=encU_len t.pad.toNat (n:=0) (by omega)
 have l3:=encU_len t.pad.toNat (n:=t.files.length) (by omega)
 unfold newHead
 split<;>simp only[List.length_append,List.length_cons,List.length_nil]<;>omega
theorem f38_4 (n:Int) (bg:Bool) (h0:0≤n) (hn:n < 18446744073709551616):Fulfils Tryz.prog G 38 [.val (.int .u64 n),intV 4,booV bg] [] (retB 0 5 1 (bytesR (fixed n.toNat 4 bg)) []):=f38i_ok n 4 bg h0 hn (by omega)
theorem f38_8 (n:Int) (bg:Bool) (h0:0≤n) (hn:n < 18446744073709551616):Fulfils Tryz.prog G 38 [.val (.int .u64 n),intV 8,booV bg] [] (retB 0 5 1 (bytesR (fixed n.toNat 8 bg)) []):=f38i_ok n 8 bg h0 hn (by omega)
theorem f38_2 (n:Int) (bg:Bool) (h0:0≤n) (hn:n < 18446744073709551616):Fulfils Tryz.prog G 38 [.val (.int .u64 n),intV 2,booV bg] [] (retB 0 5 1 (bytesR (fixed n.toNat 2 bg)) []):=f38i_ok n 2 bg h0 hn (by omega)
theorem repl16:List.replicate (Int.toNat 16) [AV.val (.int .u8 0)]=bytesR (List.replicate 16 0):=repl_b 16
theorem f37_ok (t:TableD) (tb:Nat) (ht:Value) (hp:0≤t.pad∧t.pad≤3) (hd:t.dirs=[]) (hn:t.files.length≤100) (hf:∀f∈t.files,FileOK f):Fulfils Tryz.prog G 37 [.agg (tableC t),.ref 0 tb 0] [.cells tb 0 [.buf 1 ht],.arr ht 5 1 (bytesR [])]
  (fun ret os fs=>∃h ht',ret=(fun _=>.buf 2 h)∧os=[some (.cells tb 0 [.buf 1 ht']),some (.arr ht' 5 1 (bytesR (txN t t.files)))]∧fs=[some (.arr h 5 1 (bytesR (newLists t)))]):=by
 have hbig:big=140737488355328:=rfl
 have l2:=encU_len t.pad.toNat (n:=0) (by omega)
 have l3:=encU_len t.pad.toNat (n:=t.files.length) (by omega)
 have l4:=newHead_len hn hp
 have w1:IntKind.u64.wrap 0=0:=rfl
 have w2:IntKind.u64.wrap (t.files.length:Int)=t.files.length:=wrap_u64 (by omega) (by omega)
 have q6:IntKind.i64.wrap (((6:Nat):Int).tdiv 2)=3:=by decide
 have q8:IntKind.i64.wrap (((8:Nat):Int).tdiv 2)=4:=by decide
 refine fulfilA Tryz.f37 [.tmp 4] 2 ?_
 simp only[Tryz.f37,Option.getD_some,go_sem]
 by_cases h0:t.shape=0
 ·have eh:newHead t=[1,1,8]++encU 0 t.pad.toNat++[3,1,8,3,15,4,15]++encU t.files.length t.pad.toNat:=by rw[newHead,if_pos h0,if_pos h0]
  (repeat' first|refine s1 ?_|refine hRegion (sim ?_)|with_reducible refine fun (_:Outc)=>?_|fail)
  rename_i o1 o2
  repeat' first|refine rnE (And.intro @hd @w1) ?_|with_reducible refine fun (_:Outc)=>?_|fail
  rename Outc=>o3
  refine callA [] 1 (f76z_ok t.pad hp) ?_;rintro ret os fs ⟨o4,rfl,rfl,rfl⟩;refine sim ?_
  repeat' first|refine rn ?_|with_reducible refine fun (_:Outc)=>?_|fail
  refine hLoop0 ?_
  refine rnE @hd ?_
  refine hRegionD (fun jx _=>if jx=15 then mkC [] 63 1 [] (f76i_ok t.files.length t.pad (by omega) (by omega) hp) else (default,([],[]))) [0,1,2,3,4,5,6,7,8,9,10,11,12,13,14,15,16,17] [0,0,2,6,14,30,63,0,255,0,512,1536,3584,0,8192,32767,65535,131071] [(5,10),(5,11),(5,12),(5,14),(6,10),(6,11),(6,12),(6,14),(8,10),(8,11),(8,12),(8,14)] mixed (by kernel_rfl) ?_
  refine simE (And.intro @w2 @q6) ?_
  repeat' first|refine rnE (And.intro @w2 @q6) ?_|with_reducible refine fun (_:Outc)=>?_|fail
  (skip);refine callDA ?_;rintro ret os fs ⟨o5,rfl,rfl,rfl⟩;refine sim ?_
  repeat' first|refine rn ?_|with_reducible refine fun (_:Outc)=>?_|fail
  rename Outc=>o6
  refine hLoop (X:={p:(Value×Value×Value)×Nat // p.2≤t.files.length}) (fun p=> ⟨[(2,.ref 2 o1.b 0),(1,.ref 0 tb 0),(7,.buf 18 p.1.1.1),(66,filesV t.files),(67,intV t.files.length),(68,intV p.1.2)],
   [(2,some (.cells o1.b 0 (tableC t))),(18,some (.arr p.1.1.1 5 1 (bytesR (newHead t++filesN t 0 (t.files.take p.1.2))))),(0,some (.cells tb 0 [.buf 1 p.1.1.2.1])),(1,some (.arr p.1.1.2.1 5 1 (bytesR (txN t (t.files.take p.1.2)))))]⟩) (fun p=>t.files.length - p.1.2) ⟨((o6.h,ht,ht),0),by simp⟩ (by rw[eh];simp only[List.take_zero,filesN,txN,if_pos h0];refine simE @hd ?_;((repeat' refine And.intro ?_ ?_)<;>first|rfl|(simp;rfl))) ?_
  rintro ⟨⟨⟨h,ht',_⟩,j⟩,hj⟩
  simp only at hj
  refine sim ?_
  have m1:=filesN_len hp (t.files.take j) 0 (fun f hm=>hf f (List.mem_of_mem_take hm))
  have m2:=txN_len (t:=t) (l:=t.files.take j) (fun f hm=>hf f (List.mem_of_mem_take hm))
  rw[List.length_take] at m1 m2
  by_cases hlt:j < t.files.length
  ·obtain ⟨x,hx⟩ :=getX t.files hlt
   have e:=row_at fileC hx
   have hx1:=hf x (List.mem_of_getElem? hx)
   have h1:=hx1.name
   have h3:=hx1.mtime
   have h4:=hx1.length
   have n2:=encU_len t.pad.toNat (n:=x.mtime.toNat) (by omega)
   have n3:=encU_len t.pad.toNat (n:=x.length.toNat) (by omega)
   have w3:IntKind.u64.wrap x.length=x.length:=wrap_u64 (by omega) (by omega)
   have w4:IntKind.i64.wrap ((j:Int)+1)=((j+1:Nat):Int):=by rw[wrap_i64 (by omega) (by omega)];simp
   repeat' first|refine rnE @e ?_|with_reducible refine fun (_:Outc)=>?_|fail
   refine callA [0,1] 1 (f77_ok t tb ht' (txN t (t.files.take j)) x.name (by omega) (by omega)) ?_;rintro ret os fs ⟨o7,ho7,rfl,rfl,rfl⟩;refine sim ?_
   have n4:(pathText t (txN t (t.files.take j)) x.name).length≤4200:=by
    unfold pathText;split
    ·simp;omega
    ·have:=encO_len (txN t (t.files.take j)).length t.wide t.big;omega
   repeat' first|refine rnE @repl16 ?_|with_reducible refine fun (_:Outc)=>?_|fail
   refine hRegionD (fun jx _=>if jx=5 then mkC [] 87 1 [] (f76i_ok x.mtime t.pad h3.1 h3.2 hp) else if jx=12 then mkC [] 94 1 [] (f76i_ok x.length t.pad h4.1 (by omega) hp) else (default,([],[]))) [0,1,2,3,4,7,8,9,10,11,5,6,12,13,14] [0,0,2,0,8,30,63,0,128,384,0,1024,4095,8191,16383] [(8,5),(8,6),(9,5),(9,6),(11,5),(11,6)] mixed (by kernel_rfl) ?_
   refine simE @w3 ?_
   (skip);refine callDA ?_;rintro ret os fs ⟨o8,rfl,rfl,rfl⟩;refine sim ?_
   repeat' first|refine rn ?_|with_reducible refine fun (_:Outc)=>?_|fail
   (skip);refine callDA ?_;rintro ret os fs ⟨o9,rfl,rfl,rfl⟩;refine sim ?_
   repeat' first|refine rnE (And.intro @hd @w4) ?_|with_reducible refine fun (_:Outc)=>?_|fail
   rename Outc=>o10
   refine ⟨⟨((o10.h,ho7,ht),j+1),by dsimp only;omega⟩, ?_⟩
   rw[take_succ hx,filesN_snoc,txN_snoc]
   simp only[fileN,pathText,pathTx,txN,if_pos h0]
   ((repeat' refine And.intro ?_ ?_)<;>first|rfl|omega|(simp;done))
  ·have:j=t.files.length:=by omega
   subst this
   refine rn ?_
   rw[List.take_of_length_le (Nat.le_refl _)]
   refine doneA [(18,2)] ?_;try exact trivial
   exact ⟨_,_,rfl,rfl,rfl⟩
 ·have eh:newHead t=[1,1,31]++encU 0 t.pad.toNat++[4,1,31,5,30,4,6,3,7]++encU t.files.length t.pad.toNat:=by rw[newHead,if_neg h0,if_neg h0]
  (repeat' first|refine s1 ?_|refine hRegion (sim ?_)|with_reducible refine fun (_:Outc)=>?_|fail)
  rename_i o1 o2
  repeat' first|refine rnE (And.intro @hd @w1) ?_|with_reducible refine fun (_:Outc)=>?_|fail
  rename Outc=>o3
  refine callA [] 1 (f76z_ok t.pad hp) ?_;rintro ret os fs ⟨o4,rfl,rfl,rfl⟩;refine sim ?_
  repeat' first|refine rn ?_|with_reducible refine fun (_:Outc)=>?_|fail
  refine hLoop0 ?_
  refine rnE @hd ?_
  refine hRegionD (fun jx _=>if jx=15 then mkC [] 63 1 [] (f76i_ok t.files.length t.pad (by omega) (by omega) hp) else (default,([],[]))) [0,1,2,3,4,5,6,7,8,9,10,11,12,13,14,15,16,17] [0,0,2,6,14,30,63,0,255,0,512,1536,3584,0,8192,32767,65535,131071] [(5,10),(5,11),(5,12),(5,14),(6,10),(6,11),(6,12),(6,14),(8,10),(8,11),(8,12),(8,14)] mixed (by kernel_rfl) ?_
  refine simE (And.intro @w2 @q8) ?_
  repeat' first|refine rnE (And.intro @w2 @q8) ?_|with_reducible refine fun (_:Outc)=>?_|fail
  (skip);refine callDA ?_;rintro ret os fs ⟨o5,rfl,rfl,rfl⟩;refine sim ?_
  repeat' first|refine rn ?_|with_reducible refine fun (_:Outc)=>?_|fail
  rename Outc=>o6
  refine hLoop (X:={p:(Value×Value×Value)×Nat // p.2≤t.files.length}) (fun p=> ⟨[(2,.ref 2 o1.b 0),(1,.ref 0 tb 0),(7,.buf 18 p.1.1.1),(66,filesV t.files),(67,intV t.files.length),(68,intV p.1.2)],
   [(2,some (.cells o1.b 0 (tableC t))),(18,some (.arr p.1.1.1 5 1 (bytesR (newHead t++filesN t 0 (t.files.take p.1.2))))),(0,some (.cells tb 0 [.buf 1 p.1.1.2.1])),(1,some (.arr p.1.1.2.1 5 1 (bytesR (txN t (t.files.take p.1.2)))))]⟩) (fun p=>t.files.length - p.1.2) ⟨((o6.h,ht,ht),0),by simp⟩ (by rw[eh];simp only[List.take_zero,filesN,txN,if_neg h0];refine simE @hd ?_;((repeat' refine And.intro ?_ ?_)<;>first|rfl|(simp;rfl))) ?_
  rintro ⟨⟨⟨h,ht',_⟩,j⟩,hj⟩
  simp only at hj
  refine sim ?_
  have m1:=filesN_len hp (t.files.take j) 0 (fun f hm=>hf f (List.mem_of_mem_take hm))
  have m2:=txN_len (t:=t) (l:=t.files.take j) (fun f hm=>hf f (List.mem_of_mem_take hm))
  rw[List.length_take] at m1 m2
  by_cases hlt:j < t.files.length
  ·obtain ⟨x,hx⟩ :=getX t.files hlt
   have e:=row_at fileC hx
   have hx1:=hf x (List.mem_of_getElem? hx)
   have h1:=hx1.name
   have h3:=hx1.mtime
   have h4:=hx1.length
   have n2:=encU_len t.pad.toNat (n:=x.mtime.toNat) (by omega)
   have n3:=encU_len t.pad.toNat (n:=x.length.toNat) (by omega)
   have w3:IntKind.u64.wrap x.length=x.length:=wrap_u64 (by omega) (by omega)
   have w4:IntKind.i64.wrap ((j:Int)+1)=((j+1:Nat):Int):=by rw[wrap_i64 (by omega) (by omega)];simp
   repeat' first|refine rnE @e ?_|with_reducible refine fun (_:Outc)=>?_|fail
   refine callA [0,1] 1 (f77_ok t tb ht' (txN t (t.files.take j)) x.name (by omega) (by omega)) ?_;rintro ret os fs ⟨o7,ho7,rfl,rfl,rfl⟩;refine sim ?_
   have n4:(pathText t (txN t (t.files.take j)) x.name).length≤4200:=by
    unfold pathText;split
    ·simp;omega
    ·have:=encO_len (txN t (t.files.take j)).length t.wide t.big;omega
   repeat' first|refine rnE @repl16 ?_|with_reducible refine fun (_:Outc)=>?_|fail
   have n5:=fixed_len x.length.toNat 4 t.big
   have n6:=fixed_len x.mtime.toNat 8 t.big
   refine hRegionD (fun jx _=>if jx=6 then mkC [] 104 1 [] (f38_4 x.length t.big h4.1 (by omega)) else if jx=12 then mkC [] 110 1 [] (f38_8 x.mtime t.big h3.1 h3.2) else (default,([],[]))) [0,1,2,3,4,5,8,9,10,11,6,7,12,13,14] [0,0,2,6,0,16,62,127,0,256,0,1024,4095,8191,16383] [(9,6),(9,7),(11,6),(11,7)] mixed (by kernel_rfl) ?_
   refine simE @w3 ?_
   (skip);refine callDA ?_;rintro ret os fs ⟨o8,rfl,rfl,rfl⟩;refine sim ?_
   repeat' first|refine rn ?_|with_reducible refine fun (_:Outc)=>?_|fail
   (skip);refine callDA ?_;rintro ret os fs ⟨o9,rfl,rfl,rfl⟩;refine sim ?_
   repeat' first|refine rnE (And.intro @hd @w4) ?_|with_reducible refine fun (_:Outc)=>?_|fail
   rename Outc=>o10
   refine ⟨⟨((o10.h,ho7,ht),j+1),by dsimp only;omega⟩, ?_⟩
   rw[take_succ hx,filesN_snoc,txN_snoc]
   simp only[fileN,pathText,pathTx,txN,if_neg h0,Nat.zero_add]
   ((repeat' refine And.intro ?_ ?_)<;>first|omega|(simp;done))
  ·have:j=t.files.length:=by omega
   subst this
   refine rn ?_
   rw[List.take_of_length_le (Nat.le_refl _)]
   refine doneA [(18,2)] ?_;try exact trivial
   exact ⟨_,_,rfl,rfl,rfl⟩
end
set_option maxHeartbeats 2000000
set_option maxRecDepth 10000
open Go.AM Go
section
variable {G:Nat→AV}
def listsHead (l:LayoutD) (b:Bytes):Bytes:=lengthy (fixed 5 2 l.big++[byI l.size,0]++fixed 0 4 l.big++b) l.wide l.big
theorem f38_52 (bg:Bool):Fulfils Tryz.prog G 38 [.val (.int .u64 5),intV 2,booV bg] [] (retB 0 5 1 (bytesR (fixed 5 2 bg)) []):=f38_2 5 bg (by omega) (by omega)
theorem f38_04 (bg:Bool):Fulfils Tryz.prog G 38 [.val (.int .u64 0),intV 4,booV bg] [] (retB 0 5 1 (bytesR (fixed 0 4 bg)) []):=f38_4 0 bg (by omega) (by omega)
theorem f42_ok (l:LayoutD) (b:Bytes) (hb:b.length≤1000000000):Fulfils Tryz.prog G 42 [.agg (layoutC l),bytesV b] [] (retB 0 5 1 (bytesR (listsHead l b)) []):=by
 have hbig:big=140737488355328:=rfl
 have h1:=fixed_len 5 2 l.big
 have h2:=fixed_len 0 4 l.big
 simp only[bytesV_eq]
 refine fulfilA Tryz.f42 [.tmp 4] 0 ?_
 simp only[Tryz.f42,Option.getD_some,go_sem]
 (repeat' first|refine s1 ?_|refine hRegion (sim ?_)|with_reducible refine fun (_:Outc)=>?_|fail)
 refine hRegionD (fun jx _=>if jx=2 then mkC [] 8 1 [] (f38_52 l.big) else (default,([],[]))) [0,1,3,4,5,6,2,7,8] [0,1,3,0,8,24,56,127,255] [(1,6),(4,2),(5,2),(6,2)] mixed (by kernel_rfl) ?_
 refine sim ?_
 (with_reducible refine fun (_:Outc)=>?_);refine callDA ?_;rintro ret os fs ⟨o1,rfl,rfl,rfl⟩;refine sim ?_
 repeat' first|refine rn ?_|with_reducible refine fun (_:Outc)=>?_|fail
 refine callA [] 1 (f38_04 l.big) ?_;rintro ret os fs ⟨o2,rfl,rfl,rfl⟩;refine sim ?_
 repeat' first|refine rn ?_|with_reducible refine fun (_:Outc)=>?_|fail
 refine hRegionD (fun jx _=>if jx=7 then mkC [] 26 1 [1008] (f41_ok (fixed 5 2 l.big++[byI l.size,0]++fixed 0 4 l.big++b) l.wide l.big (by simp only[List.length_append,List.length_cons,List.length_nil];omega)) else (default,([],[]))) [0,1,2,3,4,5,6,7,8] [0,0,3,0,8,0,32,127,255] [(2,4),(2,6)] mixed (by kernel_rfl) ?_
 refine sim ?_
 repeat' first|refine rn ?_|with_reducible refine fun (_:Outc)=>?_|fail
 (skip);refine callDA ?_;rintro ret os fs ⟨o3,rfl,rfl,rfl⟩;refine sim ?_
 refine rn ?_
 refine doneA [(1026,0)] ?_;try exact trivial
 exact ⟨_,rfl,rfl,rfl⟩
theorem f42n_ok (l:LayoutD):Fulfils Tryz.prog G 42 [.agg (layoutC l),.val (.slice none 0 0)] [] (retB 0 5 1 (bytesR (listsHead l [])) []):=
 (f42_ok l [] (by simp)).argsOf fun M vs h=>by
  obtain ⟨v1,r1,e1,h1,v2,r2,e2,h2,h3⟩ :=h
  exact ⟨v1,r1,e1,h1,v2,r2,e2,nil_dat h2,h3⟩
def address (l:LayoutD) (n:Int):Bytes:=fixed n.toNat l.size.toNat l.big
theorem f80_ok (l:LayoutD) (n:Int) (ob lb:Nat) (h:Value) (out:Bytes) (hn:0≤n∧n < 18446744073709551616) (hl:out.length≤1000000000) (hz:0≤l.size∧l.size≤8):
  Fulfils Tryz.prog G 80 [.val (.int .u64 n),.ref 0 ob 0,.ref 1 lb 0] [.cells ob 0 [.buf 2 h],.cells lb 0 (layoutC l),.arr h 5 1 (bytesR out)]
  (fun ret os fs=>∃h',ret=(fun _=>.tup [])∧os=[some (.cells ob 0 [.buf 2 h']),some (.cells lb 0 (layoutC l)),some (.arr h' 5 1 (bytesR (out++address l n)))]∧fs=[]):=by
 have hbig:big=140737488355328:=rfl
 have h1:=fixed_len n.toNat l.size.toNat l.big
 refine fulfilA Tryz.f80 [] 3 ?_
 simp only[Tryz.f80,Option.getD_some,go_sem]
 refine hRegionD (fun jx _=>if jx=6 then mkC [] 10 1 [] (f38j_ok n l.size l.big hn.1 hn.2 hz) else (default,([],[]))) [0,1,2,3,4,5,6,7,8] [0,0,0,4,0,16,62,127,255] [(0,6)] mixed (by kernel_rfl) ?_
 refine sim ?_
 (skip);refine callDA ?_;rintro ret os fs ⟨o1,rfl,rfl,rfl⟩;refine sim ?_
 repeat' first|refine rn ?_|with_reducible refine fun (_:Outc)=>?_|fail
 refine doneA [] ?_;try exact trivial
 exact ⟨_,rfl⟩
def topL (l:LayoutD):Int:=if l.size=4 then 4294967295 else 18446744073709551615
theorem f81_ok (l:LayoutD):Fulfils Tryz.prog G 81 [.agg (layoutC l)] [] (retP (.val (.int .u64 (topL l)))):=by
 refine fulfilP (fn:=Tryz.f81) (rs:=[.tmp 2]) (Tryz.f81.body.getD .skip) (by kernel_rfl) rfl rfl rfl (by simp only[List.length_cons,List.length_nil];decide) rfl (by decide) ?_
 simp only[Tryz.f81,Option.getD_some,go_sem]
 repeat' first|refine rn ?_|refine br fun hb=>?_|with_reducible refine And.intro ?_ ?_|with_reducible refine fun (_:Outc)=>?_|fail
 ·rw[topL,if_pos (by assumption)]
 ·rw[topL,if_neg (by assumption)]
structure PieceOK (l:LayoutD) (p:PieceD):Prop where
 a:0≤p.a∧p.a < 2147483648
 b:0≤p.b∧p.b < 2147483648
 kind:0≤p.kind∧p.kind≤3
def pieceText (l:LayoutD) (p:PieceD):Bytes:=
 if l.version < 5 then (if p.kind=1 then address l (topL l)++address l p.a else address l p.a++address l p.b)
 else if p.kind=0 then 4 :: (encU p.a.toNat 0++encU p.b.toNat 0)
 else if p.kind=1 then 5 :: address l p.a
 else if p.kind=2 then 6 :: (address l p.a++address l p.b)
 else 7 :: (address l p.a++encU p.b.toNat 0)
def listText (l:LayoutD) (x:SpanD):Bytes:=x.pieces.flatMap (pieceText l)++(if l.version < 5 then address l 0++address l 0 else [0])
theorem pieceText_len {l:LayoutD} {p:PieceD} (hz:0≤l.size∧l.size≤8) (h:PieceOK l p):(pieceText l p).length≤30:=by
 have ha:=h.a
 have hb:=h.b
 have l1:=encU_len 0 (n:=p.a.toNat) (by omega)
 have l2:=encU_len 0 (n:=p.b.toNat) (by omega)
 unfold pieceText address
 repeat' split
 all_goals simp only[List.length_append,List.length_cons,List.length_nil,fixed_len];omega
theorem f76p_ok (n:Int) (h0:0≤n) (hn:n < 18446744073709551616):Fulfils Tryz.prog G 76 [.val (.int .u64 n),.val (.int .i64 0)] [] (retB 0 5 1 (bytesR (encU n.toNat 0)) []):=f76i_ok n 0 h0 hn (by omega)
theorem f43_ok (l:LayoutD) (x:SpanD) (hz:0≤l.size∧l.size≤8) (hn:x.pieces.length≤100) (hx:∀p∈x.pieces,PieceOK l p):Fulfils Tryz.prog G 43 [.agg (layoutC l),.agg (spanC x)] [] (retB 0 5 1 (bytesR (listText l x)) []):=by
 have hbig:big=140737488355328:=rfl
 have e0:bytesR []=[]:=rfl
 have htop:0≤topL l∧topL l < 18446744073709551616:=by unfold topL;split<;>omega
 have hadr:∀n,(address l n).length=l.size.toNat:=fun n=>fixed_len _ _ _
 refine fulfilA Tryz.f43 [.tmp 4] 0 ?_
 simp only[Tryz.f43,Option.getD_some,go_sem]
 (repeat' first|refine s1 ?_|refine hRegion (sim ?_)|with_reducible refine fun (_:Outc)=>?_|fail)
 rename_i o1 o2 o3 o4
 refine rn ?_
 refine hLoop (X:={p:Value×Nat // p.2≤x.pieces.length}) (fun p=> ⟨[(2,.ref 2 o1.b 0),(5,.ref 5 o4.b 0),(6,.fn 80 [.ref 5 o4.b 0,.ref 2 o1.b 0]),(12,piecesV x.pieces),(13,intV x.pieces.length),(14,intV p.1.2)],
  [(2,some (.cells o1.b 0 (layoutC l))),(5,some (.cells o4.b 0 [.buf 9 p.1.1])),(9,some (.arr p.1.1 5 1 (bytesR ((x.pieces.take p.1.2).flatMap (pieceText l)))))]⟩) (fun p=>x.pieces.length - p.1.2) ⟨(o3.h,0),by simp⟩ (by simp -implicitDefEqProofs only[go_sem,↓reduceIte,Nat.reduceEqDiff,Nat.reduceLT,Nat.reduceLeDiff,Nat.reduceAdd,Nat.reduceSub,Nat.reduceMul,reduceCtorEq,List.reduceReplicate,Nat.reduceBEq,List.take_zero,List.flatMap_nil,e0];((repeat' refine And.intro ?_ ?_)<;>rfl)) ?_
 rintro ⟨⟨h,j⟩,hj⟩
 simp only at hj
 refine sim ?_
 have m1:=flat_len (pieceText l) 30 (x.pieces.take j) (fun p hp=>pieceText_len hz (hx p (List.mem_of_mem_take hp)))
 rw[List.length_take] at m1
 by_cases hlt:j < x.pieces.length
 ·obtain ⟨p,hp1⟩ :=getX x.pieces hlt
  have e:=row_at pieceC hp1
  obtain ⟨ha,hb',hk⟩ :=hx p (List.mem_of_getElem? hp1)
  have w4:IntKind.i64.wrap ((j:Int)+1)=((j+1:Nat):Int):=by rw[wrap_i64 (by omega) (by omega)];simp
  have n2:=encU_len 0 (n:=p.a.toNat) (by omega)
  have n3:=encU_len 0 (n:=p.b.toNat) (by omega)
  have f1:=fixed_len p.a.toNat l.size.toNat l.big
  have f4:=hadr p.a
  have f5:=hadr p.b
  have f6:=hadr (topL l)
  have f2:=fixed_len p.b.toNat l.size.toNat l.big
  have f3:=fixed_len (topL l).toNat l.size.toNat l.big
  repeat' first|refine rnE @e ?_|refine br fun hb=>?_|with_reducible refine And.intro ?_ ?_|with_reducible refine fun (_:Outc)=>?_|fail
  ·refine callA [] 0 (f81_ok l) ?_;rintro ret os fs ⟨rfl,rfl,rfl⟩;refine sim ?_
   skip
   refine callA [5,2,9] 0 (f80_ok l (topL l) o4.b o1.b h ((x.pieces.take j).flatMap (pieceText l)) htop (by simp only[List.length_append,List.length_cons,List.length_nil,hadr] at *;omega) hz) ?_;rintro ret os fs ⟨h1,rfl,rfl,rfl⟩;refine sim ?_
   refine rn ?_
   refine callA [5,2,9] 0 (f80_ok l (p.a) o4.b o1.b h1 ((x.pieces.take j).flatMap (pieceText l)++address l (topL l)) ⟨ha.1,by omega⟩ (by simp only[List.length_append,List.length_cons,List.length_nil,hadr] at *;omega) hz) ?_;rintro ret os fs ⟨h2,rfl,rfl,rfl⟩;refine sim ?_
   refine rnE @w4 ?_
   refine ⟨⟨(h2,j+1),by dsimp only;omega⟩, ?_⟩
   rw[flat_take _ hp1]
   simp only[pieceText,if_pos (show l.version < 5 by assumption),if_pos (show p.kind=1 by assumption),address]
   ((repeat' refine And.intro ?_ ?_)<;>first|omega|(simp;done))
  ·refine callA [5,2,9] 0 (f80_ok l (p.a) o4.b o1.b h ((x.pieces.take j).flatMap (pieceText l)) ⟨ha.1,by omega⟩ (by simp only[List.length_append,List.length_cons,List.length_nil,hadr] at *;omega) hz) ?_;rintro ret os fs ⟨h1,rfl,rfl,rfl⟩;refine sim ?_
   refine rn ?_
   refine callA [5,2,9] 0 (f80_ok l (p.b) o4.b o1.b h1 ((x.pieces.take j).flatMap (pieceText l)++address l p.a) ⟨hb'.1,by omega⟩ (by simp only[List.length_append,List.length_cons,List.length_nil,hadr] at *;omega) hz) ?_;rintro ret os fs ⟨h2,rfl,rfl,rfl⟩;refine sim ?_
   refine rnE @w4 ?_
   refine ⟨⟨(h2,j+1),by dsimp only;omega⟩, ?_⟩
   rw[flat_take _ hp1]
   simp only[pieceText,if_pos (show l.version < 5 by assumption),if_neg (show¬p.kind=1 by assumption),address]
   ((repeat' refine And.intro ?_ ?_)<;>first|omega|(simp;done))
  ·refine hRegionD (fun jx _=>if jx=5 then mkC [] 49 1 [] (f76p_ok p.a ha.1 (by omega)) else if jx=9 then mkC [] 53 1 [] (f76p_ok p.b hb'.1 (by omega)) else (default,([],[]))) [0,1,2,3,4,7,8,5,6,9,10,11] [0,0,3,0,8,31,63,0,128,511,1023,2047] [(0,1),(1,4),(1,8),(2,4),(2,8),(8,5),(8,6)] mixed (by kernel_rfl) ?_
   refine sim ?_
   (repeat' first|refine rn ?_|with_reducible refine fun (_:Outc)=>?_|fail);refine callDA ?_;rintro ret os fs ⟨o5,rfl,rfl,rfl⟩;refine sim ?_
   (repeat' first|refine rn ?_|with_reducible refine fun (_:Outc)=>?_|fail);refine callDA ?_;rintro ret os fs ⟨o6,rfl,rfl,rfl⟩;refine sim ?_
   repeat' first|refine rnE @w4 ?_|with_reducible refine fun (_:Outc)=>?_|fail
   rename Outc=>o7
   refine ⟨⟨(o7.h,j+1),by dsimp only;omega⟩, ?_⟩
   rw[flat_take _ hp1]
   simp only[pieceText,if_neg (show¬l.version < 5 by omega),if_pos (show p.kind=0 by assumption),address]
   ((repeat' refine And.intro ?_ ?_)<;>first|omega|(simp;done))
  ·rename Outc=>o7
   refine callA [5,2,9] 0 (f80_ok l (p.a) o4.b o1.b o7.h ((x.pieces.take j).flatMap (pieceText l)++[5]) ⟨ha.1,by omega⟩ (by simp only[List.length_append,List.length_cons,List.length_nil,hadr] at *;omega) hz) ?_;rintro ret os fs ⟨h1,rfl,rfl,rfl⟩;refine sim ?_
   refine rnE @w4 ?_
   refine ⟨⟨(h1,j+1),by dsimp only;omega⟩, ?_⟩
   rw[flat_take _ hp1]
   simp only[pieceText,if_neg (show¬l.version < 5 by omega),if_neg (show¬p.kind=0 by omega),if_pos (show p.kind=1 by omega),address]
   ((repeat' refine And.intro ?_ ?_)<;>first|omega|(simp;done))
  ·rename Outc=>o7
   refine callA [5,2,9] 0 (f80_ok l (p.a) o4.b o1.b o7.h ((x.pieces.take j).flatMap (pieceText l)++[6]) ⟨ha.1,by omega⟩ (by simp only[List.length_append,List.length_cons,List.length_nil,hadr] at *;omega) hz) ?_;rintro ret os fs ⟨h1,rfl,rfl,rfl⟩;refine sim ?_
   refine rn ?_
   refine callA [5,2,9] 0 (f80_ok l (p.b) o4.b o1.b h1 ((x.pieces.take j).flatMap (pieceText l)++[6]++address l p.a) ⟨hb'.1,by omega⟩ (by simp only[List.length_append,List.length_cons,List.length_nil,hadr] at *;omega) hz) ?_;rintro ret os fs ⟨h2,rfl,rfl,rfl⟩;refine sim ?_
   refine rnE @w4 ?_
   refine ⟨⟨(h2,j+1),by dsimp only;omega⟩, ?_⟩
   rw[flat_take _ hp1]
   simp only[pieceText,if_neg (show¬l.version < 5 by omega),if_neg (show¬p.kind=0 by omega),if_neg (show¬p.kind=1 by omega),if_pos (show p.kind=2 by omega),address]
   ((repeat' refine And.intro ?_ ?_)<;>first|omega|(simp;done))
  ·rename Outc=>o7
   refine callA [5,2,9] 0 (f80_ok l (p.a) o4.b o1.b o7.h ((x.pieces.take j).flatMap (pieceText l)++[7]) ⟨ha.1,by omega⟩ (by simp only[List.length_append,List.length_cons,List.length_nil,hadr] at *;omega) hz) ?_;rintro ret os fs ⟨h1,rfl,rfl,rfl⟩;refine sim ?_
   skip
   refine hRegionD (fun jx _=>if jx=3 then mkC [] 89 1 [] (f76p_ok p.b hb'.1 (by omega)) else (default,([],[]))) [0,1,2,3,4,5] [0,0,2,6,15,31] [(0,3)] mixed (by kernel_rfl) ?_
   refine sim ?_
   (skip);refine callDA ?_;rintro ret os fs ⟨o5,rfl,rfl,rfl⟩;refine sim ?_
   repeat' first|refine rnE @w4 ?_|with_reducible refine fun (_:Outc)=>?_|fail
   rename Outc=>o8
   refine ⟨⟨(o8.h,j+1),by dsimp only;omega⟩, ?_⟩
   rw[flat_take _ hp1]
   simp only[pieceText,if_neg (show¬l.version < 5 by omega),if_neg (show¬p.kind=0 by omega),if_neg (show¬p.kind=1 by omega),if_neg (show¬p.kind=2 by omega),address]
   ((repeat' refine And.intro ?_ ?_)<;>first|omega|(simp;done))
 ·have:j=x.pieces.length:=by omega
  subst this
  rw[List.take_of_length_le (Nat.le_refl _)] at m1 ⊢
  repeat' first|refine rn ?_|refine br fun hb=>?_|with_reducible refine And.intro ?_ ?_|with_reducible refine fun (_:Outc)=>?_|fail
  ·refine callA [5,2,9] 0 (f80_ok l 0 o4.b o1.b h (x.pieces.flatMap (pieceText l)) (by omega) (by omega) hz) ?_;rintro ret os fs ⟨h1,rfl,rfl,rfl⟩;refine sim ?_
   refine rn ?_
   refine callA [5,2,9] 0 (f80_ok l 0 o4.b o1.b h1 (x.pieces.flatMap (pieceText l)++address l 0) (by omega) (by simp only[List.length_append,hadr];omega) hz) ?_;rintro ret os fs ⟨h2,rfl,rfl,rfl⟩;refine sim ?_
   refine rn ?_
   refine doneA [(9,0)] ?_;try exact trivial
   exact ⟨_,rfl,by rw[listText,if_pos (by assumption)];simp[address]⟩
  ·rename Outc=>o9
   refine doneA [(9,0)] ?_;try exact trivial
   exact ⟨_,rfl,rfl,by rw[listText,if_neg (by omega)]⟩
end
set_option maxHeartbeats 2000000
set_option maxRecDepth 10000
open Go.AM Go
section
variable {G:Nat→AV}
def lowAttr (x:SpanD):AttrD:= ⟨17,1,false,x.low,[],[]⟩
def highAttr (x:SpanD) (a:Int):AttrD:=if x.listed then ⟨85,23,false,a,[],[]⟩ else if x.length then ⟨18,7,false,x.high - x.low,[],[]⟩ else ⟨18,1,false,x.high,[],[]⟩
def spanAttrs (x:SpanD) (a:Int):List AttrD:=[lowAttr x,highAttr x a]
theorem f44_ok (l:LayoutD) (x:SpanD) (a:Int) (hv:4≤l.version) (ha:0≤a∧a≤1000000000) (hl:0≤x.low∧x.low < 2147483648) (hh:0≤x.high∧x.high < 2147483648) (hx:x.listed=false→x.low < x.high):
  Fulfils Tryz.prog G 44 [.agg (layoutC l),.agg (spanC x),intV a] [] (retB 0 48 6 ((spanAttrs x a).map attrC) []):=by
 have hbig:big=140737488355328:=rfl
 have e0:strV []= .val (.string ⟨#[]⟩):=rfl
 refine fulfilA Tryz.f44 [.tmp 6] 0 ?_
 simp only[Tryz.f44,Option.getD_some,go_sem]
 repeat' first|refine rn ?_|refine br fun hb=>?_|with_reducible refine And.intro ?_ ?_|with_reducible refine fun (_:Outc)=>?_|fail
 ·have w:IntKind.u64.wrap a=a:=wrap_u64 (by omega) (by omega)
  refine doneN [(27,0)] ?_ (by simp) (by simp) sT
  simp only[w,spanAttrs,lowAttr,highAttr,if_pos (show x.listed=true by assumption),List.map_cons,List.map_nil,attrC,e0]
  refine sim ?_
  exact ⟨_,rfl,rfl,rfl⟩
 ·have h1:=hx (by assumption)
  have w:IntKind.u64.wrap (x.high - x.low)=x.high - x.low:=wrap_u64 (by omega) (by omega)
  refine doneN [(38,0)] ?_ (by simp) (by simp) sT
  simp only[w,spanAttrs,lowAttr,highAttr,show x.listed=false by assumption,show x.length=true by assumption,Bool.false_eq_true,if_false,if_true,List.map_cons,List.map_nil,attrC,e0]
  refine sim ?_
  exact ⟨_,rfl,rfl,rfl⟩
 ·refine doneN [(43,0)] ?_ (by simp) (by simp) sT
  simp only[spanAttrs,lowAttr,highAttr,show x.listed=false by assumption,show x.length=false by assumption,Bool.false_eq_true,if_false,if_true,List.map_cons,List.map_nil,attrC,e0]
  refine sim ?_
  exact ⟨_,rfl,rfl,rfl⟩
def codeN (i:Nat):Nat:=1+50 * i
theorem f85_ok (i:Nat) (hi:i≤1000000):Fulfils Tryz.prog G 85 [intV i] [] (retP (u64V (codeN i))):=by
 have w1:IntKind.i64.wrap (50 * (i:Int))=50 * (i:Int):=wrap_i64 (by omega) (by omega)
 have w2:IntKind.i64.wrap (1+50 * (i:Int))=1+50 * (i:Int):=wrap_i64 (by omega) (by omega)
 have w3:IntKind.u64.wrap (1+50 * (i:Int))=((codeN i:Nat):Int):=by rw[wrap_u64 (by omega) (by omega),codeN];simp
 refine fulfilP (fn:=Tryz.f85) (rs:=[.tmp 2]) (Tryz.f85.body.getD .skip) (by kernel_rfl) rfl rfl rfl (by simp only[List.length_cons,List.length_nil];decide) rfl (by decide) ?_
 simp only[Tryz.f85,Option.getD_some,go_sem]
 repeat' first|refine rnE (And.intro @w1 (And.intro @w2 @w3)) ?_|exact trivial
def headText (u:UnitD) (a:Nat) (bg:Bool):Bytes:=
 if 4 < u.version then fixed u.version.toNat 2 bg++[1,byI u.size]++encO a u.wide bg else fixed u.version.toNat 2 bg++encO a u.wide bg++[byI u.size]
theorem f82_ok (u:UnitD) (a:Nat) (bg:Bool) (hv:0≤u.version∧u.version≤5) (ha:a≤1000000000):
  Fulfils Tryz.prog G 82 [.agg (unitC u),intV a,booV bg] [] (retB 0 5 1 (bytesR (headText u a bg)) []):=by
 have hbig:big=140737488355328:=rfl
 have w:IntKind.u64.wrap u.version=u.version:=wrap_u64 (by omega) (by omega)
 have n1:=fixed_len u.version.toNat 2 bg
 have n2:=encO_len a u.wide bg
 refine fulfilA Tryz.f82 [.tmp 6] 0 ?_
 simp only[Tryz.f82,Option.getD_some,go_sem]
 repeat' first|refine rnE @w ?_|with_reducible refine fun (_:Outc)=>?_|fail
 refine callA [] 1 (f38_2 u.version bg hv.1 (by omega)) ?_;rintro ret os fs ⟨o2,rfl,rfl,rfl⟩;refine sim ?_
 repeat' first|refine rn ?_|refine br fun hb=>?_|with_reducible refine And.intro ?_ ?_|fail
 ·rename Outc=>o3
  refine hRegionD (fun jx _=>if jx=10 then mkC [] 26 1 [] (f39_ok a u.wide bg (by omega)) else (default,([],[]))) [0,1,2,3,4,5,6,7,8,9,10,11,12] [0,0,2,6,14,31,0,0,128,0,1023,2047,4095] [(4,8),(5,8)] mixed (by kernel_rfl) ?_
  refine sim ?_
  (repeat' first|refine rn ?_|with_reducible refine fun (_:Outc)=>?_|fail);refine callDA ?_;rintro ret os fs ⟨o4,rfl,rfl,rfl⟩;refine sim ?_
  repeat' first|refine rn ?_|with_reducible refine fun (_:Outc)=>?_|fail
  refine doneA [(1012,0)] ?_;try exact trivial
  simp only[headText,if_pos (show 4 < u.version by assumption)]
  exact ⟨_,rfl,rfl,rfl⟩
 ·refine hRegionD (fun jx _=>if jx=5 then mkC [] 33 1 [] (f39_ok a u.wide bg (by omega)) else (default,([],[]))) [0,1,2,3,4,7,8,9,10,5,6,11,12] [0,0,0,4,0,30,63,0,128,384,896,2047,4095] [(3,10),(8,5),(8,6),(9,5),(9,6),(10,5),(10,6)] mixed (by kernel_rfl) ?_
  refine sim ?_
  (with_reducible refine fun (_:Outc)=>?_);refine callDA ?_;rintro ret os fs ⟨o4,rfl,rfl,rfl⟩;refine sim ?_
  repeat' first|refine rn ?_|with_reducible refine fun (_:Outc)=>?_|fail
  refine doneA [(1012,0)] ?_;try exact trivial
  simp only[headText,if_neg (show¬4 < u.version by omega)]
  exact ⟨_,rfl,rfl,rfl⟩
end
end Go.Proofs.YtbkfdnkeelmloaaGreatDoor
