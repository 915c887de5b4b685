/- Part 12 of the proof: B5 R1 R2 B6 R3. -/
import Derived.Lib.BytesEntry
import Derived.Test.YtbkfdnkeelmloaaGreatDoorZ7
import Derived.Test.YtbkfdnkeelmloaaGreatDoorZ11
set_option linter.unusedVariables false
set_option linter.unusedSimpArgs false
namespace Go.Proofs.YtbkfdnkeelmloaaGreatDoor
set_option maxRecDepth 10000
open Go.AM Go
theorem wrap_nat {k:IntKind} (hk:k.signed=false) (n:Nat):k.wrap (n:Int)=((n % 2 ^ k.bits:Nat):Int):=by
 cases k<;>first|(cases hk;done)|(simp only[IntKind.wrap,IntKind.bits,IntKind.signed];simp)
theorem or_nat {k:IntKind} (hk:k.signed=false) {x y:Nat} (hx:x < 2 ^ k.bits) (hy:y < 2 ^ k.bits):bitsV .or k (x:Int) (y:Int)=((x |||y:Nat):Int):=by
 unfold bitsV
 simp only[BitVec.ofInt_natCast,BitVec.toNat_or,BitVec.toNat_ofNat,Nat.mod_eq_of_lt hx,Nat.mod_eq_of_lt hy]
 rw[wrap_nat hk,Nat.mod_eq_of_lt (Nat.or_lt_two_pow hx hy)]
theorem and_nat {k:IntKind} (hk:k.signed=false) {x y:Nat} (hx:x < 2 ^ k.bits) (hy:y < 2 ^ k.bits):bitsV .and k (x:Int) (y:Int)=((x &&& y:Nat):Int):=by
 unfold bitsV
 simp only[BitVec.ofInt_natCast,BitVec.toNat_and,BitVec.toNat_ofNat,Nat.mod_eq_of_lt hx,Nat.mod_eq_of_lt hy]
 rw[wrap_nat hk,Nat.mod_eq_of_lt (Nat.and_lt_two_pow _ hy)]
theorem or_add {k:IntKind} (hk:k.signed=false) {x y s:Nat} (hy:y < 2 ^ s) (hx:x * 2 ^ s < 2 ^ k.bits) (hs:s≤k.bits):bitsV .or k ((x * 2 ^ s:Nat):Int) (y:Int)=((x * 2 ^ s+y:Nat):Int):=by
 rw[or_nat hk hx (Nat.lt_of_lt_of_le hy (Nat.pow_le_pow_right (by omega) hs)),Nat.mul_comm x,Nat.two_pow_add_eq_or_of_lt hy]
theorem or_comm_nat {k:IntKind} (hk:k.signed=false) {x y:Nat} (hx:x < 2 ^ k.bits) (hy:y < 2 ^ k.bits):bitsV .or k (x:Int) (y:Int)=bitsV .or k (y:Int) (x:Int):=by
 rw[or_nat hk hx hy,or_nat hk hy hx,Nat.or_comm]
theorem low7 (b:UInt8):bitsV .and .u8 (b.toNat:Int) 127=((b.toNat % 128:Nat):Int):=by
 have:=b.toNat_lt
 have h:=and_nat (k:=.u8) rfl (x:=b.toNat) (y:=127) this (by decide)
 have h2:=Nat.and_two_pow_sub_one_eq_mod b.toNat 7
 rw[show ((127:Nat):Int)=127 from rfl] at h
 rw[h]
 simp only[Nat.reducePow,Nat.reduceSub] at h2
 rw[h2]
theorem high7 (b:UInt8):bitsV .and .u8 (b.toNat:Int) 128=if b.toNat < 128 then 0 else 128:=by
 have hb:=b.toNat_lt
 have h:=and_nat (k:=.u8) rfl (x:=b.toNat) (y:=128) hb (by decide)
 rw[show ((128:Nat):Int)=128 from rfl] at h
 rw[h]
 have h3:b.toNat &&& 128=if b.toNat < 128 then 0 else 128:=by
  have h4:=Nat.and_two_pow_sub_one_eq_mod (b.toNat &&& 128) 7
  have h5:(b.toNat &&& 128) &&& (2 ^ 7 - 1)=0:=by rw[Nat.and_assoc];simp
  have h6:b.toNat &&& 128≤128:=Nat.and_le_right
  have h7:b.toNat &&& 128≤b.toNat:=Nat.and_le_left
  have h8:=Nat.testBit_and b.toNat 128 7
  split
  ·omega
  ·rename_i h9
   have h10:(b.toNat &&& 128).testBit 7=true:=by
    rw[h8]
    have:b.toNat.testBit 7=true:=by
     rw[Nat.testBit_eq_decide_div_mod_eq]
     simp
     omega
    simp[this]
    decide
   have h11:(b.toNat &&& 128)≠0:=by intro e;rw[e] at h10;simp at h10
   omega
 rw[h3]
 split<;>rfl
theorem After.refl0 {M:Mem} {w:World} (hw:∀b o,M b=some o→w.heap[b]? =some o):After M w [] M w [] []:=
 ⟨Mem.le.refl M,hw,fun b o h=>.inl h,Frame.refl w [] (by simp),rfl,by simp,by simp⟩
theorem numsOf (l:Bytes):Go.Lib.bytesOf (l.map fun b=>((b.toNat:Nat):Int))=l:=by
 induction l with
 |nil=>rfl
 |cons b l ih=>
  simp only[Go.Lib.bytesOf,List.map_cons,List.cons.injEq] at ih ⊢
  exact ⟨by simp,ih⟩
theorem bytes_vals {M:Mem}:∀(l:Bytes) (vs:List Value),relL M (l.map fun b=>[u8V b]).flatten vs→vs=l.map fun b=>Value.int .u8 b.toNat
 | [],_,h=>h
 |b :: l,_, ⟨v,r,e,_,h2,h3⟩ =>by
  cases h2
  rw[e,List.map_cons,bytes_vals l r h3]
section
variable {G:Nat→AV}
theorem f174_ok (l:Bytes) (c:UInt8):Fulfils Tryz.prog G 174 [bytesV l,.val (.int .u8 c.toNat)] [] (retP (intV (Go.Lib.indexByte l c))):=by
 rintro M w vs hmw hG ⟨v,_,rfl,hv, ⟨u,_,rfl,hu,e⟩⟩ _ _
 simp only[relT] at e
 subst e
 cases hu
 obtain ⟨A,cap,rfl,_,_,_,h3,_⟩ :=hv
 have hrun:(callFunc 174 [Value.slice A (l.map fun b=>[u8V b]).length cap,Value.int .u8 c.toNat].toArray).run Tryz.prog w= .ok (.value (.int .i64 (Go.Lib.indexByte l c))) w:=by
  rw[run_callFunc_extern (fn:=Tryz.f174) (e:=Extern.BytealgIndexByte.indexByte) (by kernel_rfl) (by kernel_rfl) (by kernel_rfl) (by kernel_rfl) (by kernel_rfl)]
  rcases h3 with h3| ⟨b,o,rfl,hr⟩
  ·have hl:l=[]:=by simpa using h3
   subst hl
   cases A with
   |none=>rw[Go.Lib.run_indexByteNil];rfl
   |some A=>
    have:(Extern.BytealgIndexByte.indexByte #[.slice (some A) 0 cap,.int .u8 c.toNat]).run Tryz.prog w= .ok (.int .i64 (-1)) w:=Go.Lib.run_indexByteString .empty c.toNat w
    rw[show ([].map fun b=>[u8V b]).length=0 from rfl,this]
    rfl
  ·have hx:=(relR_flat hr).1
   obtain ⟨vs,hvs,hc⟩ :=cells_of_relC hmw hx
   have hvs2:vs=l.map fun b=>Value.int .u8 b.toNat:=by
    exact bytes_vals l vs hvs
   have hf:=Go.Lib.run_indexByteSlice (P:=Tryz.prog) w b o l.length cap (l.map fun b=>((b.toNat:Nat):Int)) (by simp) (fun i hi=>by
    have:=hc i (.int .u8 (l.getD i 0).toNat) (by rw[hvs2,List.getElem?_map,List.getD_eq_getElem?_getD,List.getElem?_eq_getElem hi];rfl)
    rw[this]
    rw[List.getD_eq_getElem?_getD,List.getD_eq_getElem?_getD,List.getElem?_map,List.getElem?_eq_getElem hi];rfl) c.toNat
   rw[numsOf] at hf
   rw[List.length_map,hf]
   simp
 unfold CallsX
 rw[hrun]
 exact ⟨M,_,_,_, ⟨rfl,rfl,rfl⟩,fun _=>rfl,After.refl0 hmw⟩
end
section
mutual
theorem turn_same {f:AV→AV} (h:∀a,f a=a):∀a:AV,a.turn f=a
 | .top=>by simp only[AV.turn,h]
 | .val u=>by simp only[AV.turn,h]
 | .dat nn sz xs=>by simp only[AV.turn,turnR_same h xs,h]
 | .pt cs=>by simp only[AV.turn,turnL_same h cs,h]
 | .ref k b o=>by simp only[AV.turn,h]
 | .buf k b=>by simp only[AV.turn,h]
 | .aref k a b c d=>by simp only[AV.turn,h]
 | .sub k a b c=>by simp only[AV.turn,h]
 | .omap k r=>by simp only[AV.turn,h]
 | .ifc t a=>by simp only[AV.turn,turn_same h a,h]
 | .fn g caps=>by simp only[AV.turn,turnL_same h caps,h]
 | .agg cs=>by simp only[AV.turn,turnL_same h cs,h]
 | .tup cs=>by simp only[AV.turn,turnL_same h cs,h]
 | .cnd g a=>by simp only[AV.turn,turn_same h a,h]
 | .mp kk es=>by simp only[AV.turn,turnE_same h es,h]
theorem turnL_same {f:AV→AV} (h:∀a,f a=a):∀l:List AV,turnL f l=l
 | []=>rfl
 |a :: r=>by simp only[turnL,turn_same h a,turnL_same h r]
theorem turnR_same {f:AV→AV} (h:∀a,f a=a):∀l:List (List AV),turnR f l=l
 | []=>rfl
 |a :: r=>by simp only[turnR,turnL_same h a,turnR_same h r]
theorem turnE_same {f:AV→AV} (h:∀a,f a=a):∀l:List (Int×AV),turnE f l=l
 | []=>rfl
 |(k,a) :: r=>by simp only[turnE,turn_same h a,turnE_same h r]
end
theorem rkA_same {σ:Nat→Nat} (h:∀k,σ k=k) (a:AV):rkA σ a=a:=by cases a<;>simp only[rkA,h]
theorem keyOf1 (k:Nat):AM.keyOf [0] k=k:=by cases k<;>rfl
theorem keyOf2 (k:Nat):AM.keyOf [0,1] k=k:=by
 rcases k with _|_|k<;>rfl
theorem keyOf3 (k:Nat):AM.keyOf [0,1,2] k=k:=by
 rcases k with _|_|_|k<;>rfl
theorem tA0 {a:AV}:a.turn (rkA (assocN []))=a:=turn_same (rkA_same fun _=>rfl) a
theorem tL0 {a:List AV}:turnL (rkA (assocN [])) a=a:=turnL_same (rkA_same fun _=>rfl) a
theorem tAi {a:AV}:a.turn (rkA fun x=>x)=a:=turn_same (rkA_same fun _=>rfl) a
theorem tLi {a:List AV}:turnL (rkA fun x=>x) a=a:=turnL_same (rkA_same fun _=>rfl) a
theorem tRi {a:List (List AV)}:turnR (rkA fun x=>x) a=a:=turnR_same (rkA_same fun _=>rfl) a
theorem tA1 {a:AV}:a.turn (rkA (AM.keyOf [0]))=a:=turn_same (rkA_same keyOf1) a
theorem tL1 {a:List AV}:turnL (rkA (AM.keyOf [0])) a=a:=turnL_same (rkA_same keyOf1) a
theorem tR1 {a:List (List AV)}:turnR (rkA (AM.keyOf [0])) a=a:=turnR_same (rkA_same keyOf1) a
theorem tA2 {a:AV}:a.turn (rkA (AM.keyOf [0,1]))=a:=turn_same (rkA_same keyOf2) a
theorem tL2 {a:List AV}:turnL (rkA (AM.keyOf [0,1])) a=a:=turnL_same (rkA_same keyOf2) a
theorem tR2 {a:List (List AV)}:turnR (rkA (AM.keyOf [0,1])) a=a:=turnR_same (rkA_same keyOf2) a
theorem tA3 {a:AV}:a.turn (rkA (AM.keyOf [0,1,2]))=a:=turn_same (rkA_same keyOf3) a
theorem tL3 {a:List AV}:turnL (rkA (AM.keyOf [0,1,2])) a=a:=turnL_same (rkA_same keyOf3) a
theorem tR3 {a:List (List AV)}:turnR (rkA (AM.keyOf [0,1,2])) a=a:=turnR_same (rkA_same keyOf3) a
theorem tR0 {a:List (List AV)}:turnR (rkA (assocN [])) a=a:=turnR_same (rkA_same fun _=>rfl) a
end
def u32V (n:Nat):AV:=.val (.int .u32 n)
def bufO (b:Nat) (dw:AV) (bg:Bool) (fm:AV) (nm:Bytes) (off:Nat) (l:Bytes) (post:List AV):AObj:=.cells b 0 (dw :: booV bg :: fm :: strV nm :: u32V off :: bytesV l :: .val .nilIface :: post)
theorem wrap_u32 (n:Nat) (h:n < 4294967296):IntKind.u32.wrap (n:Int)=(n:Int):=by
 simp[IntKind.wrap,IntKind.bits,IntKind.signed];omega
theorem bytesR_drop (l:Bytes) (n:Nat):(bytesR l).drop n=bytesR (l.drop n):=by simp[bytesR,List.map_drop]
theorem bytesR_take (l:Bytes) (n:Nat):(bytesR l).take n=bytesR (l.take n):=by simp[bytesR,List.map_take]
theorem row_1 {a b:UInt8} {l:Bytes}:(bytesR (a :: b :: l)).getD 1 []=[.val (.int .u8 (b.toNat:Int))]:=rfl
theorem okG_slice1 {e:Operand→AV} {t:TypeId} {x lo:Operand}:okG e (.slice t x (some lo) none none)=(cndOK (e x)=true∧cndOK (e lo)=true):=by simp[okG,Op.operands]
theorem bytesR_ne {a:UInt8} {l:Bytes}:(bytesR (a :: l)=[])=False:=eq_false (by simp[bytesR])
theorem tn2:Int.toNat 2=2:=rfl
theorem tn4:Int.toNat 4=4:=rfl
theorem toNat_lit (n:Nat):Int.toNat (OfNat.ofNat n)=n:=rfl
attribute [go_sem] bytesR_ne tn2 tn4 row_1 List.take_length okG_slice1 Option.map_some Option.map_none Int.toNat_zero Int.toNat_one toNat_lit tAi tLi tRi tA0 tL0 tR0 tA1 tL1 tR1 tA2 tL2 tR2 tA3 tL3 tR3 u32V bufO bytesR_drop bytesR_take
theorem callU {P:Program} {G:Nat→AV} {f:FuncId} {args:List AV} {objs:List AObj} {R:(Nat→AV)→List (Option AObj)→List (Option AObj)→Prop} {d:Nat} {args' caps:List AV} {H:List (Nat×Option AObj)} {K:AV→List (Nat×Option AObj)→Prop} (keys:List Nat) (nf:Nat) (hf:Fulfils P G f args objs R)
  (hK:∀ret os fs,R ret os fs→K ((ret d).turn (rkA (AM.keyOf (keys++fkeys d nf)))) ((keys++fkeys d nf).zip (os.map (turnO (rkA (AM.keyOf (keys++fkeys d nf))))++fs.map (turnO (rkA (AM.keyOf (keys++fkeys d nf)))))))
  (ha:(args'++caps).map normA=args.map normA:=by rfl)
  (ho:keys.map (getO H)=objs.map (fun o=>some (o.turn (rkA (AM.keyOf (keys++fkeys d nf))))):=by simp -implicitDefEqProofs only[go_sem,↓reduceIte,Nat.reduceEqDiff,Nat.reduceLT,Nat.reduceLeDiff,Nat.reduceAdd,Nat.reduceSub,Nat.reduceMul,reduceCtorEq,List.reduceReplicate,Nat.reduceBEq];try rfl)
  (hnd:keys.Nodup:=by simp):vcCall P G d (.fn f caps) args' H K:=callX keys nf hf ha ho hnd hK
set_option maxHeartbeats 2000000
set_option maxRecDepth 10000
open Go.AM Go
section
variable {G:Nat→AV} {b:Nat} {dw fm:AV} {bg:Bool} {nm:Bytes} {post:List AV}
theorem off_add {off n:Nat} (h:off+n < 4294967296):IntKind.u32.wrap ((off:Int)+(n:Int))=((off+n:Nat):Int):=by
 rw[←wrap_u32 (off+n) h];simp
theorem off_add1 {off:Nat} (h:off+1 < 4294967296):IntKind.u32.wrap ((off:Int)+1)=((off+1:Nat):Int):=off_add (n:=1) h
theorem f132_ok (off:Nat) (x:UInt8) (l:Bytes) (h:off+1 < 4294967296):Fulfils Tryz.prog G 132 [.ref 0 b 0] [bufO b dw bg fm nm off (x :: l) post] (retO (u8V x) [some (bufO b dw bg fm nm (off+1) l post)]):=by
 have hbig:big=140737488355328:=rfl
 have w1:=off_add1 h
 refine fulfilA Tryz.f132 [.tmp 2] 1 ?_
 simp only[Tryz.f132,Option.getD_some,go_sem]
 refine rnE @w1 ?_
 refine doneA [] ?_;try exact trivial
 exact ⟨rfl,rfl,rfl⟩
theorem f137_ok (off:Nat) (x l:Bytes) (h:off+x.length < 4294967296):Fulfils Tryz.prog G 137 [.ref 0 b 0,intV x.length] [bufO b dw bg fm nm off (x++l) post] (retO (bytesV x) [some (bufO b dw bg fm nm (off+x.length) l post)]):=by
 have hbig:big=140737488355328:=rfl
 have w1:=off_add h
 have w2:=wrap_u32 x.length (by omega)
 have e1:(x++l).take x.length=x:=List.take_left' rfl
 have e2:(x++l).drop x.length=l:=List.drop_left' rfl
 have e3:(x++l).take (x.length+l.length)=x++l:=List.take_of_length_le (by simp)
 refine fulfilA Tryz.f137 [.tmp 4] 1 ?_
 simp only[Tryz.f137,Option.getD_some,go_sem]
 refine rnE (And.intro @w1 (And.intro @w2 (And.intro @e1 (And.intro @e2 @e3)))) ?_
 refine doneA [] ?_;try exact trivial
 exact ⟨rfl,rfl,rfl⟩
theorem f124_ok (off:Nat) (x l:Bytes) (h:off+x.length < 4294967296):Fulfils Tryz.prog G 124 [.ref 0 b 0,intV x.length] [bufO b dw bg fm nm off (x++l) post] (retO (.tup []) [some (bufO b dw bg fm nm (off+x.length) l post)]):=by
 have hbig:big=140737488355328:=rfl
 refine fulfilA Tryz.f124 [] 1 ?_
 simp only[Tryz.f124,Option.getD_some,go_sem]
 refine rn ?_
 refine callU [0] 0 (f137_ok off x l h) ?_;rintro ret os fs ⟨rfl,rfl,rfl⟩;refine sim ?_
 skip
 refine doneA [] ?_;try exact trivial
 exact ⟨rfl,rfl,rfl⟩
end
set_option maxHeartbeats 2000000
set_option maxRecDepth 10000
open Go.AM Go
section
variable {G:Nat→AV} {b:Nat} {dw fm:AV} {bg:Bool} {nm:Bytes} {post:List AV}
def leN:Bytes→Nat
 | []=>0
 |x :: r=>x.toNat+256 * leN r
def numOf (bg:Bool) (l:Bytes):Nat:=leN (if bg then l.reverse else l)
theorem halves {k:IntKind} (hk:k.signed=false) (s:Nat) (s':Int) (h2:s'.toNat=s) (hs:2 * s=k.bits) {x y:Nat} (hx:x < 2 ^ s) (hy:y < 2 ^ s):
  bitsV .or k (k.wrap (k.wrap (x:Int) * 2 ^ min s'.toNat k.bits)) (k.wrap (y:Int))=((x * 2 ^ s+y:Nat):Int):=by
 have e:2 ^ k.bits=2 ^ s * 2 ^ s:=by rw[←hs,Nat.two_mul,Nat.pow_add]
 have hp:0 < 2 ^ s:=Nat.pow_pos (by decide)
 have h1:2 ^ s≤2 ^ k.bits:=by rw[e];exact Nat.le_mul_of_pos_right _ hp
 have hm:x * 2 ^ s < 2 ^ k.bits:=by rw[e];exact Nat.mul_lt_mul_of_pos_right hx hp
 rw[h2,Nat.min_eq_left (by omega),wrap_nat hk x,Nat.mod_eq_of_lt (by omega),wrap_nat hk y,Nat.mod_eq_of_lt (by omega)]
 rw[show ((x:Nat):Int) * 2 ^ s=((x * 2 ^ s:Nat):Int) by simp,wrap_nat hk,Nat.mod_eq_of_lt hm]
 exact or_add hk hy hm (by omega)
theorem or16 (x y:UInt8):bitsV .or .u16 (IntKind.u16.wrap (IntKind.u16.wrap (x.toNat:Int) * 2 ^ min (Int.toNat 8) 16)) (IntKind.u16.wrap (y.toNat:Int))=((x.toNat * 256+y.toNat:Nat):Int):=
 halves (k:=.u16) rfl 8 8 rfl rfl x.toNat_lt y.toNat_lt
theorem u16_eq {a b:Nat} (h:a=b):AV.val (.int .u16 (a:Int))= .val (.int .u16 (b:Int)):=by rw[h]
theorem f164_ok (bg:Bool) (x y:UInt8) (r:Bytes):Fulfils Tryz.prog G 164 [.agg [booV bg],bytesV (x :: y :: r)] [] (retP (.val (.int .u16 (numOf bg [x,y])))):=by
 have hbig:big=140737488355328:=rfl
 refine fulfilP (fn:=Tryz.f164) (rs:=[.tmp 4]) (Tryz.f164.body.getD .skip) (by kernel_rfl) rfl rfl rfl (by simp only[List.length_cons,List.length_nil];decide) rfl (by decide) ?_
 simp only[Tryz.f164,Option.getD_some,go_sem]
 repeat' first|refine rn ?_|refine br fun hb=>?_|with_reducible refine And.intro ?_ ?_|with_reducible refine fun (_:Outc)=>?_|fail
 ·refine hRegionD (noChi) [0,1,2,3,4,5,6,7,8,9,10] [0,1,3,7,15,0,32,96,224,511,1023] [] mixed (by kernel_rfl) ?_
  refine sim ?_
  refine rnE @or16 ?_
  rw[hb,u16_eq (a:=x.toNat * 256+y.toNat) (b:=numOf true [x,y]) (by simp[numOf,leN];omega)]
 ·refine hRegionD (noChi) [0,1,2,3,4,5,6,7,8,9,10] [0,1,3,7,15,0,32,96,224,511,1023] [] mixed (by kernel_rfl) ?_
  refine sim ?_
  refine rnE @or16 ?_
  rw[hb,u16_eq (a:=y.toNat * 256+x.toNat) (b:=numOf false [x,y]) (by simp[numOf,leN];omega)]
theorem or32 {x y:Nat} (hx:x < 65536) (hy:y < 65536):bitsV .or .u32 (IntKind.u32.wrap (IntKind.u32.wrap (x:Int) * 2 ^ min (Int.toNat 16) 32)) (IntKind.u32.wrap (y:Int))=((x * 65536+y:Nat):Int):=
 halves (k:=.u32) rfl 16 16 rfl rfl hx hy
theorem or64 {x y:Nat} (hx:x < 4294967296) (hy:y < 4294967296):bitsV .or .u64 (IntKind.u64.wrap (IntKind.u64.wrap (x:Int) * 2 ^ min (Int.toNat 32) 64)) (IntKind.u64.wrap (y:Int))=((x * 4294967296+y:Nat):Int):=
 halves (k:=.u64) rfl 32 32 rfl rfl hx hy
theorem leN_lt:∀(l:Bytes),leN l < 256 ^ l.length
 | []=>by simp[leN]
 |x :: r=>by
  have:=leN_lt r
  have:=x.toNat_lt
  simp only[leN,List.length_cons,Nat.pow_succ];omega
theorem numOf_lt (bg:Bool) (l:Bytes):numOf bg l < 256 ^ l.length:=by
 unfold numOf
 split
 ·have:=leN_lt l.reverse;rwa [List.length_reverse] at this
 ·exact leN_lt l
theorem leN_app:∀(a c:Bytes),leN (a++c)=leN a+256 ^ a.length * leN c
 | [],c=>by simp[leN]
 |x :: a,c=>by
  simp only[List.cons_append,leN,leN_app a c,List.length_cons,Nat.pow_succ,Nat.mul_add]
  rw[←Nat.mul_assoc,Nat.mul_comm (256 ^ a.length) 256];omega
theorem numOf_halves (bg:Bool) (a c:Bytes):numOf bg (a++c)=if bg then numOf bg a * 256 ^ c.length+numOf bg c else numOf bg c * 256 ^ a.length+numOf bg a:=by
 unfold numOf
 cases bg
 ·simp only[Bool.false_eq_true,if_false,leN_app,Nat.mul_comm];omega
 ·simp only[if_true,List.reverse_append,leN_app,List.length_reverse,Nat.mul_comm];omega
theorem f161_ok (bg:Bool) (x y z w:UInt8) (r:Bytes):Fulfils Tryz.prog G 161 [.agg [booV bg],bytesV (x :: y :: z :: w :: r)] [] (retP (.val (.int .u32 (numOf bg [x,y,z,w])))):=by
 have hbig:big=140737488355328:=rfl
 have l1:=numOf_lt bg [x,y]
 have l2:=numOf_lt bg [z,w]
 have o1:=or32 l1 l2
 have o2:=or32 l2 l1
 have ez:(bytesR (x :: y :: z :: w :: r)).take (r.length+4)=bytesR (x :: y :: z :: w :: r):=List.take_of_length_le (by simp[bytesR])
 have eh:=numOf_halves bg [x,y] [z,w]
 refine fulfilP (fn:=Tryz.f161) (rs:=[.tmp 4]) (Tryz.f161.body.getD .skip) (by kernel_rfl) rfl rfl rfl (by simp only[List.length_cons,List.length_nil];decide) rfl (by decide) ?_
 simp only[Tryz.f161,Option.getD_some,go_sem]
 repeat' first|refine rn ?_|refine br fun hb=>?_|with_reducible refine And.intro ?_ ?_|with_reducible refine fun (_:Outc)=>?_|fail
 ·refine hRegionD (fun jx _=>if jx=2 then mkC [] 9 0 [] (f164_ok bg x y (z :: w :: r)) else if jx=8 then mkC [] 15 0 [] (f164_ok bg z w r) else (default,([],[]))) [0,1,5,6,7,2,3,4,8,9,10,11] [0,0,3,7,15,0,0,64,231,487,1023,2047] [(5,2),(7,2),(3,8)] mixed (by kernel_rfl) ?_
  refine simE @ez ?_
  (refine rn ?_);refine callDA ?_;rintro ret os fs ⟨rfl,rfl,rfl⟩;refine sim ?_
  refine rnE @ez ?_
  (skip);refine callDA ?_;rintro ret os fs ⟨rfl,rfl,rfl⟩;refine sim ?_
  refine rnE @o1 ?_
  rw[hb] at eh ⊢
  exact congrArg (fun n:Nat=>AV.val (.int .u32 n)) eh.symm
 ·refine hRegionD (fun jx _=>if jx=3 then mkC [] 21 0 [] (f164_ok bg z w r) else if jx=8 then mkC [] 26 0 [] (f164_ok bg x y (z :: w :: r)) else (default,([],[]))) [0,1,2,6,7,3,4,5,8,9,10,11] [0,0,2,7,15,31,0,0,207,463,1023,2047] [(6,3),(4,8)] mixed (by kernel_rfl) ?_
  refine simE @ez ?_
  (refine rn ?_);refine callDA ?_;rintro ret os fs ⟨rfl,rfl,rfl⟩;refine sim ?_
  refine rn ?_
  (skip);refine callDA ?_;rintro ret os fs ⟨rfl,rfl,rfl⟩;refine sim ?_
  refine rnE @o2 ?_
  rw[hb] at eh ⊢
  exact congrArg (fun n:Nat=>AV.val (.int .u32 n)) eh.symm
theorem f160_ok (bg:Bool) (x y z w x' y' z' w':UInt8) (r:Bytes):Fulfils Tryz.prog G 160 [.agg [booV bg],bytesV (x :: y :: z :: w :: x' :: y' :: z' :: w' :: r)] [] (retP (.val (.int .u64 (numOf bg [x,y,z,w,x',y',z',w'])))):=by
 have hbig:big=140737488355328:=rfl
 have l1:numOf bg [x,y,z,w] < 4294967296:=by simpa using numOf_lt bg [x,y,z,w]
 have l2:numOf bg [x',y',z',w'] < 4294967296:=by simpa using numOf_lt bg [x',y',z',w']
 have o1:=or64 l1 l2
 have o2:=or64 l2 l1
 have ez:(bytesR (x :: y :: z :: w :: x' :: y' :: z' :: w' :: r)).take (r.length+8)=bytesR (x :: y :: z :: w :: x' :: y' :: z' :: w' :: r):=List.take_of_length_le (by simp[bytesR])
 have eh:=numOf_halves bg [x,y,z,w] [x',y',z',w']
 simp only[List.length_cons,List.length_nil,Nat.reduceAdd,Nat.reducePow] at eh
 refine fulfilP (fn:=Tryz.f160) (rs:=[.tmp 4]) (Tryz.f160.body.getD .skip) (by kernel_rfl) rfl rfl rfl (by simp only[List.length_cons,List.length_nil];decide) rfl (by decide) ?_
 simp only[Tryz.f160,Option.getD_some,go_sem]
 repeat' first|refine rn ?_|refine br fun hb=>?_|with_reducible refine And.intro ?_ ?_|with_reducible refine fun (_:Outc)=>?_|fail
 ·refine hRegionD (fun jx _=>if jx=2 then mkC [] 9 0 [] (f161_ok bg x y z w (x' :: y' :: z' :: w' :: r)) else if jx=8 then mkC [] 15 0 [] (f161_ok bg x' y' z' w' r) else (default,([],[]))) [0,1,5,6,7,2,3,4,8,9,10,11] [0,0,3,7,15,0,0,64,231,487,1023,2047] [(5,2),(7,2),(3,8)] mixed (by kernel_rfl) ?_
  refine simE @ez ?_
  (refine rn ?_);refine callDA ?_;rintro ret os fs ⟨rfl,rfl,rfl⟩;refine sim ?_
  refine rnE @ez ?_
  (skip);refine callDA ?_;rintro ret os fs ⟨rfl,rfl,rfl⟩;refine sim ?_
  refine rnE @o1 ?_
  rw[hb] at eh ⊢
  exact congrArg (fun n:Nat=>AV.val (.int .u64 n)) eh.symm
 ·refine hRegionD (fun jx _=>if jx=3 then mkC [] 21 0 [] (f161_ok bg x' y' z' w' r) else if jx=8 then mkC [] 26 0 [] (f161_ok bg x y z w (x' :: y' :: z' :: w' :: r)) else (default,([],[]))) [0,1,2,6,7,3,4,5,8,9,10,11] [0,0,2,7,15,31,0,0,207,463,1023,2047] [(6,3),(4,8)] mixed (by kernel_rfl) ?_
  refine simE @ez ?_
  (refine rn ?_);refine callDA ?_;rintro ret os fs ⟨rfl,rfl,rfl⟩;refine sim ?_
  refine rn ?_
  (skip);refine callDA ?_;rintro ret os fs ⟨rfl,rfl,rfl⟩;refine sim ?_
  refine rnE @o2 ?_
  rw[hb] at eh ⊢
  exact congrArg (fun n:Nat=>AV.val (.int .u64 n)) eh.symm
theorem len2 {l:Bytes} (h:l.length=2):∃x y,l=[x,y]:=by
 match l,h with| [x,y],_=>exact ⟨x,y,rfl⟩
theorem len4 {l:Bytes} (h:l.length=4):∃x y z w,l=[x,y,z,w]:=by
 match l,h with| [x,y,z,w],_=>exact ⟨x,y,z,w,rfl⟩
theorem len8 {l:Bytes} (h:l.length=8):∃x y z w x' y' z' w',l=[x,y,z,w,x',y',z',w']:=by
 match l,h with| [x,y,z,w,x',y',z',w'],_=>exact ⟨x,y,z,w,x',y',z',w',rfl⟩
theorem f133_ok (off:Nat) (x l:Bytes) (hx:x.length=2) (h:off+2 < 4294967296):Fulfils Tryz.prog G 133 [.ref 0 b 0] [bufO b dw bg fm nm off (x++l) post] (retO (.val (.int .u16 (numOf bg x))) [some (bufO b dw bg fm nm (off+2) l post)]):=by
 have hbig:big=140737488355328:=rfl
 have hby:=f137_ok (G:=G) (b:=b) (dw:=dw) (fm:=fm) (bg:=bg) (nm:=nm) (post:=post) off x l (by omega)
 rw[hx] at hby
 obtain ⟨y,z,rfl⟩ :=len2 hx
 refine fulfilA Tryz.f133 [.tmp 2] 1 ?_
 simp only[Tryz.f133,Option.getD_some,go_sem]
 refine rn ?_
 refine callU [0] 0 (hby) ?_;rintro ret os fs ⟨rfl,rfl,rfl⟩;refine sim ?_
 refine rn ?_
 refine callA [] 0 (f164_ok bg y z []) ?_;rintro ret os fs ⟨rfl,rfl,rfl⟩;refine sim ?_
 refine rn ?_
 refine doneA [] ?_;try exact trivial
 exact ⟨rfl,rfl,rfl⟩
theorem f126_ok (off:Nat) (x l:Bytes) (hx:x.length=4) (h:off+4 < 4294967296):Fulfils Tryz.prog G 126 [.ref 0 b 0] [bufO b dw bg fm nm off (x++l) post] (retO (.val (.int .u32 (numOf bg x))) [some (bufO b dw bg fm nm (off+4) l post)]):=by
 have hbig:big=140737488355328:=rfl
 have hby:=f137_ok (G:=G) (b:=b) (dw:=dw) (fm:=fm) (bg:=bg) (nm:=nm) (post:=post) off x l (by omega)
 rw[hx] at hby
 obtain ⟨y,z,y1,y2,rfl⟩ :=len4 hx
 refine fulfilA Tryz.f126 [.tmp 2] 1 ?_
 simp only[Tryz.f126,Option.getD_some,go_sem]
 refine rn ?_
 refine callU [0] 0 (hby) ?_;rintro ret os fs ⟨rfl,rfl,rfl⟩;refine sim ?_
 refine rn ?_
 refine callA [] 0 (f161_ok bg y z y1 y2 []) ?_;rintro ret os fs ⟨rfl,rfl,rfl⟩;refine sim ?_
 refine rn ?_
 refine doneA [] ?_;try exact trivial
 exact ⟨rfl,rfl,rfl⟩
theorem f125_ok (off:Nat) (x l:Bytes) (hx:x.length=8) (h:off+8 < 4294967296):Fulfils Tryz.prog G 125 [.ref 0 b 0] [bufO b dw bg fm nm off (x++l) post] (retO (.val (.int .u64 (numOf bg x))) [some (bufO b dw bg fm nm (off+8) l post)]):=by
 have hbig:big=140737488355328:=rfl
 have hby:=f137_ok (G:=G) (b:=b) (dw:=dw) (fm:=fm) (bg:=bg) (nm:=nm) (post:=post) off x l (by omega)
 rw[hx] at hby
 obtain ⟨y,z,y1,y2,y3,y4,y5,y6,rfl⟩ :=len8 hx
 refine fulfilA Tryz.f125 [.tmp 2] 1 ?_
 simp only[Tryz.f125,Option.getD_some,go_sem]
 refine rn ?_
 refine callU [0] 0 (hby) ?_;rintro ret os fs ⟨rfl,rfl,rfl⟩;refine sim ?_
 refine rn ?_
 refine callA [] 0 (f160_ok bg y z y1 y2 y3 y4 y5 y6 []) ?_;rintro ret os fs ⟨rfl,rfl,rfl⟩;refine sim ?_
 refine rn ?_
 refine doneA [] ?_;try exact trivial
 exact ⟨rfl,rfl,rfl⟩
end
open Go.AM Go
def dv:Bytes→Nat
 | []=>0
 |d :: r=>d.toNat+128 * dv r
theorem dv_app:∀(a c:Bytes),dv (a++c)=dv a+128 ^ a.length * dv c
 | [],c=>by simp[dv]
 |x :: a,c=>by
  simp only[List.cons_append,dv,dv_app a c,List.length_cons,Nat.pow_succ,Nat.mul_add]
  rw[←Nat.mul_assoc,Nat.mul_comm (128 ^ a.length) 128];omega
abbrev Low (ds:Bytes):Prop:=∀d∈ds,d.toNat < 128
theorem dv_lt:∀(l:Bytes),Low l→dv l < 128 ^ l.length
 | [],_=>by simp[dv]
 |x :: r,h=>by
  have:=dv_lt r fun d hd=>h d (by simp[hd])
  have:=h x (by simp)
  simp only[dv,List.length_cons,Nat.pow_succ];omega
theorem dv_take {l:Bytes} {i:Nat} {x:UInt8} (h:l[i]? =some x):dv (l.take (i+1))=dv (l.take i)+x.toNat * 2 ^ (7 * i):=by
 have hi:=(List.getElem?_eq_some_iff.1 h).1
 have e:l.take (i+1)=l.take i++[x]:=by
  obtain ⟨hi,e⟩ :=List.getElem?_eq_some_iff.1 h
  rw[List.take_succ_eq_append_getElem hi,e]
 rw[e,dv_app,List.length_take,Nat.min_eq_left (by omega),Nat.pow_mul]
 simp[dv,Nat.mul_comm]
theorem dv_zeros (n:Nat):dv (List.replicate n 0)=0:=by
 induction n with
 |zero=>rfl
 |succ n ih=>simp[List.replicate_succ,dv,ih]
theorem Low.app {a c:Bytes} (h:Low a) (k:Low c):Low (a++c):=fun d hd=>(List.mem_append.1 hd).elim (h d) (k d)
theorem Low.rep (n:Nat) {x:UInt8} (h:x.toNat < 128):Low (List.replicate n x):=fun d hd=>by rw[(List.mem_replicate.1 hd).2];exact h
theorem leb_low (n:Nat):Low (leb n)∧dv (leb n)=n∧leb n≠[]:=by
 induction n using Nat.strongRecOn with
 |_ n ih=>
  rw[leb]
  split
  ·rename_i h
   refine ⟨fun d hd=>?_, ?_,by simp⟩
   ·simp at hd;subst hd;simp;omega
   ·simp[dv];omega
  ·rename_i h
   obtain ⟨h1,h2,h3⟩ :=ih (n / 128) (by omega)
   refine ⟨fun d hd=>?_, ?_,by simp⟩
   ·rcases List.mem_cons.1 hd with rfl|hd
    ·simp;omega
    ·exact h1 d hd
   ·simp only[dv,h2,UInt8.toNat_ofNat'];omega
theorem or128 (d:UInt8) (h:d.toNat < 128):(d |||128).toNat=d.toNat+128:=by
 rw[UInt8.toNat_or]
 have:=Nat.two_pow_add_eq_or_of_lt (i:=7) h 1
 simp only[Nat.reducePow,Nat.mul_one] at this
 rw[Nat.or_comm]
 exact this.symm.trans (Nat.add_comm _ _)
theorem carry_get:∀{ds:Bytes} {i:Nat} {d:UInt8},ds[i]? =some d→(carry ds)[i]? =some (if i+1 < ds.length then d |||128 else d)
 | [],i,d,h=>by simp at h
 | [x],i,d,h=>by
  cases i with
  |zero=>simpa [carry] using h
  |succ i=>simp at h
 |x :: y :: r,0,d,h=>by simp at h;subst h;simp[carry]
 |x :: y :: r,i+1,d,h=>by
  simp only[List.getElem?_cons_succ] at h
  have:=carry_get (ds:=y :: r) h
  simp only[carry,List.getElem?_cons_succ,this,List.length_cons,Nat.add_lt_add_iff_right]
theorem or_shift {c d s:Nat} (hc:c < 2 ^ min s 64) (hd:d < 128):bitsV .or .u64 (c:Int) (IntKind.u64.wrap (IntKind.u64.wrap (d:Int) * 2 ^ min s 64))=(((c+d * 2 ^ s) % 18446744073709551616:Nat):Int):=by
 have hw:IntKind.u64.wrap (d:Int)=d:=by rw[wrap_nat rfl,Nat.mod_eq_of_lt];exact Nat.lt_of_lt_of_le hd (by decide)
 rw[hw,show (d:Int) * 2 ^ min s 64=((d * 2 ^ min s 64:Nat):Int) by simp,wrap_nat rfl]
 have e64:(2:Nat) ^ IntKind.u64.bits=18446744073709551616:=rfl
 rw[e64]
 by_cases hs:s < 64
 ·rw[Nat.min_eq_left (by omega)] at hc ⊢
  have hp:(2:Nat) ^ (64 - s) * 2 ^ s=18446744073709551616:=by rw[←Nat.pow_add,show 64 - s+s=64 by omega]
  have h1:d * 2 ^ s % 18446744073709551616=d % 2 ^ (64 - s) * 2 ^ s:=by rw[←hp,Nat.mul_mod_mul_right]
  have hx:d % 2 ^ (64 - s) < 2 ^ (64 - s):=Nat.mod_lt _ (Nat.pow_pos (by decide))
  have h2:(d % 2 ^ (64 - s)+1) * 2 ^ s≤18446744073709551616:=by rw[←hp];exact Nat.mul_le_mul_right _ hx
  rw[Nat.add_mul,Nat.one_mul] at h2
  have hcl:c < 18446744073709551616:=by omega
  have hR:(c+d * 2 ^ s) % 18446744073709551616=c+d % 2 ^ (64 - s) * 2 ^ s:=by
   rw[Nat.add_mod,h1,Nat.mod_eq_of_lt hcl,Nat.mod_eq_of_lt (by omega)]
  rw[hR,h1,or_comm_nat rfl (by rw[e64];exact hcl) (by rw[e64];omega),or_add rfl hc (by rw[e64];omega) (by simp[IntKind.bits];omega),Nat.add_comm]
 ·rw[Nat.min_eq_right (by omega)] at hc ⊢
  have hz:d * 2 ^ s % 18446744073709551616=0:=by
   obtain ⟨k,rfl⟩ :∃k,s=64+k:= ⟨s - 64,by omega⟩
   rw[Nat.pow_add,Nat.mul_left_comm]
   exact Nat.mul_mod_right _ _
  have hz2:d * 2 ^ 64 % 18446744073709551616=0:=by omega
  have hc':c < 18446744073709551616:=hc
  rw[hz2,or_nat rfl hc' (by decide),Nat.or_zero,Nat.add_mod,hz,Nat.add_zero,Nat.mod_mod,Nat.mod_eq_of_lt hc']
theorem acc_lt {l:Bytes} (h:Low l) (i:Nat) (hi:i≤l.length):dv (l.take i) % 18446744073709551616 < 2 ^ min (7 * i) 64:=by
 have h1:=dv_lt (l.take i) fun d hd=>h d (List.mem_of_mem_take hd)
 rw[List.length_take,Nat.min_eq_left hi,show 128=2 ^ 7 from rfl,←Nat.pow_mul] at h1
 have h2:dv (l.take i) % 18446744073709551616 < 18446744073709551616:=Nat.mod_lt _ (by decide)
 by_cases hs:7 * i≤64
 ·rw[Nat.min_eq_left hs];exact Nat.lt_of_le_of_lt (Nat.mod_le _ _) h1
 ·rw[Nat.min_eq_right (by omega)];exact h2
theorem pow_split (a b:Nat) (h:a≤b):(2:Nat) ^ (b - a) * 2 ^ a=2 ^ b:=by rw[←Nat.pow_add,show b - a+a=b by omega]
theorem wrap_small {n:Nat} (h:n < 9223372036854775808):IntKind.i64.wrap (n:Int)=n:=wrap_i64 (by omega) (by omega)
theorem and_sign {x b:Nat} (hb:1≤b∧b≤63) (hx:x < 2 ^ b):bitsV .and .i64 (x:Int) (IntKind.i64.wrap ((1:Int) * 2 ^ min (b - 1) 64))=if 2 ^ (b - 1)≤x then 2 ^ (b - 1) else 0:=by
 have hp:(2:Nat) ^ (b - 1) < 9223372036854775808:=Nat.lt_of_lt_of_le (Nat.pow_lt_pow_right (by decide) (show b - 1 < 63 by omega)) (by decide)
 have hb2:(2:Nat) ^ b≤9223372036854775808:=Nat.pow_le_pow_right (by decide) (show b≤63 by omega)
 rw[Nat.min_eq_left (by omega),Int.one_mul,show (2:Int) ^ (b - 1)=((2 ^ (b - 1):Nat):Int) by simp,wrap_small hp]
 unfold bitsV
 simp only[BitVec.ofInt_natCast,BitVec.toNat_and,BitVec.toNat_ofNat]
 have e64:(2:Nat) ^ IntKind.i64.bits=18446744073709551616:=rfl
 rw[e64,Nat.mod_eq_of_lt (show x < _ by omega),Nat.mod_eq_of_lt (show 2 ^ (b - 1) < _ by omega)]
 have key:x &&& 2 ^ (b - 1)=if 2 ^ (b - 1)≤x then 2 ^ (b - 1) else 0:=by
  have hb1:(2:Nat) ^ b=2 * 2 ^ (b - 1):=by rw[←Nat.pow_succ'];congr 1;omega
  split
  ·rename_i h
   have e1:x=2 ^ (b - 1) |||(x - 2 ^ (b - 1)):=by
    have:=Nat.two_pow_add_eq_or_of_lt (i:=b - 1) (b:=x - 2 ^ (b - 1)) (by omega) 1
    rw[Nat.mul_one] at this
    omega
   have e2:(x - 2 ^ (b - 1)) &&& 2 ^ (b - 1)=0:=by
    rw[Nat.and_comm]
    apply Nat.eq_of_testBit_eq
    intro i
    rw[Nat.testBit_and,Nat.testBit_two_pow,Nat.zero_testBit]
    by_cases hi:b - 1=i
    ·subst hi
     rw[Nat.testBit_lt_two_pow (by omega)];simp
    ·simp[hi]
   rw[e1,Nat.and_or_distrib_right,e2,Nat.and_self,Nat.or_zero]
  ·rename_i h
   rw[Nat.and_comm]
   apply Nat.eq_of_testBit_eq
   intro i
   rw[Nat.testBit_and,Nat.testBit_two_pow,Nat.zero_testBit]
   by_cases hi:b - 1=i
   ·subst hi
    rw[Nat.testBit_lt_two_pow (by omega)];simp
   ·simp[hi]
 rw[key]
 split
 ·rw[wrap_small hp]
 ·rfl
theorem or_sign {x b:Nat} (hb:1≤b∧b≤63) (hx:x < 2 ^ b):bitsV .or .i64 (x:Int) (IntKind.i64.wrap ((-1:Int) * 2 ^ min b 64))=(x:Int) - 2 ^ b:=by
 have hb2:(2:Nat) ^ b≤9223372036854775808:=Nat.pow_le_pow_right (by decide) (show b≤63 by omega)
 have hsp:=pow_split b 64 (by omega)
 have e64:(2:Nat) ^ 64=18446744073709551616:=rfl
 have hi:(2:Int) ^ b=((2 ^ b:Nat):Int):=by simp
 rw[Nat.min_eq_left (by omega),hi,wrap_i64 (by omega) (by omega)]
 unfold bitsV
 simp only[BitVec.toNat_or,BitVec.toNat_ofInt]
 have e1:((x:Int) % ((2 ^ IntKind.i64.bits:Nat):Int)).toNat=x:=by
  show ((x:Int) % (18446744073709551616:Int)).toNat=x
  omega
 have e2:(((-1:Int) * ((2 ^ b:Nat):Int)) % ((2 ^ IntKind.i64.bits:Nat):Int)).toNat=18446744073709551616 - 2 ^ b:=by
  show (((-1:Int) * ((2 ^ b:Nat):Int)) % (18446744073709551616:Int)).toNat=_
  have:0 < 2 ^ b:=Nat.pow_pos (by decide)
  omega
 rw[e1,e2]
 have hpos:0 < 2 ^ b:=Nat.pow_pos (by decide)
 have e3:18446744073709551616 - 2 ^ b=2 ^ b * (2 ^ (64 - b) - 1):=by
  rw[Nat.mul_sub,Nat.mul_one,Nat.mul_comm,hsp]
 rw[Nat.or_comm,e3,←Nat.two_pow_add_eq_or_of_lt hx,←e3]
 simp only[IntKind.wrap,IntKind.bits,IntKind.signed]
 simp
 omega
theorem sleb_low (n:Int):Low (sleb n)∧sleb n≠[]∧((dv (sleb n):Int) - n) % ((128 ^ (sleb n).length:Nat):Int)=0∧-((64 * 128 ^ ((sleb n).length - 1):Nat):Int)≤n∧n < ((64 * 128 ^ ((sleb n).length - 1):Nat):Int):=by
 induction h:n.natAbs using Nat.strongRecOn generalizing n with
 |_ k ih=>
  rw[sleb]
  have hb:=byI_toNat (n % 128)
  have hb2:((byI (n % 128)).toNat:Int)=n % 128:=by omega
  split
  ·refine ⟨fun d hd=>?_,by simp, ?_,by simpa using by omega⟩
   ·simp only[List.mem_singleton] at hd;subst hd;omega
   ·simp only[dv,List.length_cons,List.length_nil];omega
  ·rename_i hn
   obtain ⟨h1,h2,h3,h4,h5⟩ :=ih (n / 128).natAbs (by omega) (n / 128) rfl
   refine ⟨fun d hd=>?_,by simp, ?_, ?_⟩
   ·rcases List.mem_cons.1 hd with rfl|hd
    ·omega
    ·exact h1 d hd
   ·have e:((dv (byI (n % 128) :: sleb (n / 128)):Nat):Int) - n=((dv (sleb (n / 128)):Int) - n / 128) * 128:=by
     simp only[dv];omega
    rw[e,List.length_cons,Nat.pow_succ,Int.natCast_mul]
    show _ % (_ * (128:Int))=0
    obtain ⟨q,hq⟩ :=Int.dvd_of_emod_eq_zero h3
    rw[hq]
    refine Int.emod_eq_zero_of_dvd ⟨q, ?_⟩
    rw[Int.mul_right_comm]
   ·obtain ⟨m,hm⟩ :∃m,(sleb (n / 128)).length=m+1:= ⟨(sleb (n / 128)).length - 1,by
     have:=List.length_pos_iff.2 h2
     omega⟩
    rw[hm] at h4 h5
    simp only[List.length_cons,hm,Nat.add_sub_cancel] at h4 h5 ⊢
    rw[show 64 * 128 ^ (m+1)=64 * 128 ^ m * 128 by rw[Nat.pow_succ,Nat.mul_assoc]]
    omega
set_option maxHeartbeats 2000000
set_option maxRecDepth 10000
open Go.AM Go
section
variable {G:Nat→AV} {b:Nat} {dw fm:AV} {bg:Bool} {nm:Bytes} {post:List AV}
theorem row_app {a c:Bytes} {i:Nat} {x:UInt8} (h:a[i]? =some x):(bytesR (a++c)).getD i []=[.val (.int .u8 (x.toNat:Int))]:=by
 have hi:=(List.getElem?_eq_some_iff.1 h).1
 rw[row_b (by rw[List.length_append];omega),List.getD_eq_getElem?_getD,List.getElem?_append_left hi,h];rfl
theorem f159_ok (off:Nat) (ds l:Bytes) (hd:Low ds) (hne:ds≠[]) (hn:ds.length≤20) (h:off+ds.length < 4294967296) (hbl:ds.length+l.length≤4000000000):
  Fulfils Tryz.prog G 159 [.ref 0 b 0] [bufO b dw bg fm nm off (carry ds++l) post] (retO (.tup [.val (.int .u64 (dv ds % 18446744073709551616:Nat)),.val (.int .u64 (7 * ds.length:Nat))]) [some (bufO b dw bg fm nm (off+ds.length) l post)]):=by
 have hbig:big=140737488355328:=rfl
 have hcl:=carry_len ds
 have hpos:0 < ds.length:=List.length_pos_iff.2 hne
 refine fulfilA Tryz.f159 [.tmp 2,.tmp 3] 1 ?_
 simp only[Tryz.f159,Option.getD_some,go_sem]
 refine rn ?_
 refine hLoop (X:={i:Nat // i < ds.length}) (fun i=> ⟨[(0,.ref 0 b 0),(2,.val (.int .u64 (dv (ds.take i.1) % 18446744073709551616:Nat))),(3,.val (.int .u64 (7 * i.1:Nat))),(4,intV i.1)],[(0,some (bufO b dw bg fm nm off (carry ds++l) post))]⟩) (fun i=>ds.length - i.1) ⟨0,hpos⟩ (by refine sim ?_;((repeat' refine And.intro ?_ ?_)<;>rfl)) ?_
 rintro ⟨i,hi⟩
 refine sim ?_
 obtain ⟨d,hdx⟩ :∃d,ds[i]? =some d:= ⟨ds[i],List.getElem?_eq_getElem hi⟩
 have hc:=carry_get hdx
 have hdl:=hd d (List.mem_of_getElem? hdx)
 have e:=row_app (c:=l) hc
 have ho:=or_shift (d:=d.toNat) (acc_lt hd i (by omega)) hdl
 rw[Nat.mod_add_mod,←dv_take hdx] at ho
 have w1:IntKind.u64.wrap (((7 * i:Nat):Int)+7)=((7 * (i+1):Nat):Int):=by rw[wrap_u64 (by omega) (by omega)];omega
 have w2:IntKind.i64.wrap ((i:Int)+1)=((i+1:Nat):Int):=by rw[wrap_i64 (by omega) (by omega)];simp
 by_cases hlt:i+1 < ds.length
 ·rw[if_pos hlt] at e
  have h7:=low7 (d |||128)
  have h8:=high7 (d |||128)
  rw[or128 d hdl] at h7 h8 e
  rw[if_neg (by omega)] at h8
  have h9:(d.toNat+128) % 128=d.toNat:=by omega
  rw[h9] at h7
  refine rnE (And.intro @e (And.intro @h7 (And.intro @h8 (And.intro @ho (And.intro @w1 @w2))))) ?_
  refine ⟨⟨i+1,hlt⟩, ?_⟩
  ((repeat' refine And.intro ?_ ?_)<;>first|rfl|(dsimp only;omega))
 ·rw[if_neg hlt] at e
  have h7:=low7 d
  have h8:=high7 d
  rw[if_pos hdl] at h8
  rw[Nat.mod_eq_of_lt hdl] at h7
  have hil:i+1=ds.length:=by omega
  have w3:=wrap_u32 (i+1) (by omega)
  have w4:=off_add (off:=off) (n:=i+1) (by omega)
  have e1:(carry ds++l).take ((carry ds).length+l.length)=carry ds++l:=List.take_of_length_le (by simp)
  have e2:(carry ds++l).drop (i+1)=l:=List.drop_left' (by omega)
  have e3:ds.take (i+1)=ds:=List.take_of_length_le (by omega)
  refine rnE (And.intro @e (And.intro @h7 (And.intro @h8 (And.intro @ho (And.intro @w1 (And.intro @w2 (And.intro @w3 (And.intro @w4 (And.intro @e1 (And.intro @e2 @e3)))))))))) ?_
  refine doneA [] ?_;try exact trivial
  rw[hil]
  exact ⟨rfl,rfl,rfl⟩
theorem encU_dig (n pad:Nat) (hn:n < 18446744073709551616):Low (leb n++List.replicate pad 0)∧dv (leb n++List.replicate pad 0)=n∧leb n++List.replicate pad 0≠[]:=by
 obtain ⟨h1,h2,h3⟩ :=leb_low n
 exact ⟨h1.app (Low.rep pad (by decide)),by rw[dv_app,dv_zeros,h2];simp,by simp[h3]⟩
theorem encU_ds (n pad:Nat):(encU n pad).length=(leb n++List.replicate pad 0).length:=carry_len _
theorem f121_ok (off n pad:Nat) (l:Bytes) (hn:n < 18446744073709551616) (hp:pad≤3) (h:off+(encU n pad).length < 4294967296) (hbl:l.length≤3000000000):
  Fulfils Tryz.prog G 121 [.ref 0 b 0] [bufO b dw bg fm nm off (encU n pad++l) post] (retO (.val (.int .u64 n)) [some (bufO b dw bg fm nm (off+(encU n pad).length) l post)]):=by
 have hbig:big=140737488355328:=rfl
 obtain ⟨h1,h2,h3⟩ :=encU_dig n pad hn
 have h4:=encU_len pad (n:=n) hn
 rw[encU_ds] at h h4 ⊢
 have hpos:=List.length_pos_iff.2 h3
 have hf:=f159_ok (G:=G) (b:=b) (dw:=dw) (fm:=fm) (bg:=bg) (nm:=nm) (post:=post) off _ l h1 h3 (by omega) h (by omega)
 rw[h2,Nat.mod_eq_of_lt hn] at hf
 unfold encU
 generalize leb n++List.replicate pad 0=ds at *
 refine fulfilA Tryz.f121 [.tmp 2] 1 ?_
 simp only[Tryz.f121,Option.getD_some,go_sem]
 refine rn ?_
 refine callU [0] 0 (hf) ?_;rintro ret os fs ⟨rfl,rfl,rfl⟩;refine sim ?_
 refine rn ?_
 refine doneA [] ?_;try exact trivial
 exact ⟨rfl,rfl,rfl⟩
theorem dv_127:∀n:Nat,dv (List.replicate n 127)+1=128 ^ n
 |0=>rfl
 |n+1=>by
  have:=dv_127 n
  rw[List.replicate_succ,dv,Nat.pow_succ,←this]
  have:(127:UInt8).toNat=127:=rfl
  omega
def sdig (n:Int) (pad:Nat):Bytes:=sleb n++List.replicate pad (if n < 0 then 127 else 0)
theorem sdig_all (n:Int) (pad:Nat):Low (sdig n pad)∧sdig n pad≠[]∧(dv (sdig n pad):Int)=n+(if n < 0 then ((128 ^ (sdig n pad).length:Nat):Int) else 0)∧
  -((64 * 128 ^ ((sdig n pad).length - 1):Nat):Int)≤n∧n < ((64 * 128 ^ ((sdig n pad).length - 1):Nat):Int):=by
 obtain ⟨h1,h2,h3,h4,h5⟩ :=sleb_low n
 have hpos:=List.length_pos_iff.2 h2
 have hlt:=dv_lt _ h1
 have hp1:(128:Nat) ^ (sleb n).length=2 * (64 * 128 ^ ((sleb n).length - 1)):=by
  obtain ⟨m,hm⟩ :∃m,(sleb n).length=m+1:= ⟨_,(Nat.succ_pred_eq_of_pos hpos).symm⟩
  rw[hm,Nat.pow_succ,Nat.add_sub_cancel];omega
 have hlen:(sdig n pad).length=(sleb n).length+pad:=by simp[sdig]
 have hmono:64 * 128 ^ ((sleb n).length - 1)≤64 * 128 ^ ((sdig n pad).length - 1):=Nat.mul_le_mul_left _ (Nat.pow_le_pow_right (by decide) (by omega))
 refine ⟨h1.app (Low.rep pad (by split<;>decide)),by simp[sdig,h2], ?_,by omega,by omega⟩
 obtain ⟨q,hq⟩ :=Int.dvd_of_emod_eq_zero h3
 rw[hlen,Nat.pow_add]
 unfold sdig
 rw[dv_app]
 by_cases hn:n < 0
 ·rw[if_pos hn,if_pos hn]
  have h127:=dv_127 pad
  have hq1:q=1:=by
   rw[hp1] at hq hlt
   generalize 64 * 128 ^ ((sleb n).length - 1)=m at *
   have hm:0 < m:=by omega
   rcases Int.lt_trichotomy q 1 with h|h|h
   ·have:((2 * m:Nat):Int) * q≤((2 * m:Nat):Int) * 0:=Int.mul_le_mul_of_nonneg_left (by omega) (by omega)
    omega
   ·exact h
   ·have:((2 * m:Nat):Int) * 2≤((2 * m:Nat):Int) * q:=Int.mul_le_mul_of_nonneg_left (by omega) (by omega)
    omega
  subst hq1
  rw[←h127,Nat.mul_add,Nat.mul_one]
  omega
 ·rw[if_neg hn,if_neg hn,dv_zeros,Nat.mul_zero,Nat.add_zero]
  have hq1:q=0:=by
   rw[hp1] at hq hlt
   generalize 64 * 128 ^ ((sleb n).length - 1)=m at *
   have hm:0 < m:=by omega
   rcases Int.lt_trichotomy q 0 with h|h|h
   ·have:((2 * m:Nat):Int) * q≤((2 * m:Nat):Int) * (-1):=Int.mul_le_mul_of_nonneg_left (by omega) (by omega)
    omega
   ·exact h
   ·have:((2 * m:Nat):Int) * 1≤((2 * m:Nat):Int) * q:=Int.mul_le_mul_of_nonneg_left (by omega) (by omega)
    omega
  subst hq1
  omega
theorem f138_ok (off:Nat) (n:Int) (pad:Nat) (l:Bytes) (hn: -9223372036854775808≤n∧n≤9223372036854775807) (hp:pad≤3) (h:off+(encS n pad).length < 4294967296) (hbl:l.length≤3000000000):
  Fulfils Tryz.prog G 138 [.ref 0 b 0] [bufO b dw bg fm nm off (encS n pad++l) post] (retO (.val (.int .i64 n)) [some (bufO b dw bg fm nm (off+(encS n pad).length) l post)]):=by
 have hbig:big=140737488355328:=rfl
 obtain ⟨h1,h2,h3,h5,h6⟩ :=sdig_all n pad
 have h4:=encS_len pad (n:=n) hn
 have he:encS n pad=carry (sdig n pad):=rfl
 rw[he] at h h4 ⊢
 rw[carry_len] at h h4 ⊢
 have hpos:=List.length_pos_iff.2 h2
 have hf:=f159_ok (G:=G) (b:=b) (dw:=dw) (fm:=fm) (bg:=bg) (nm:=nm) (post:=post) off _ l h1 h2 (by omega) h (by omega)
 have hlt:=dv_lt _ h1
 generalize sdig n pad=ds at *
 have hpw:(128:Nat) ^ ds.length=2 ^ (7 * ds.length):=by rw[Nat.pow_mul]
 have hp2:64 * 128 ^ (ds.length - 1)=2 ^ (7 * ds.length - 1):=by
  rw[show 64=2 ^ 6 from rfl,show 128=2 ^ 7 from rfl,←Nat.pow_mul,←Nat.pow_add];congr 1;omega
 have hp3:2 ^ (7 * ds.length)=2 * 2 ^ (7 * ds.length - 1):=by rw[←Nat.pow_succ'];congr 1;omega
 rw[hpw] at h3 hlt
 rw[hp2] at h5 h6
 have w1:IntKind.u64.wrap (((7 * ds.length:Nat):Int) - 1)=((7 * ds.length - 1:Nat):Int):=by rw[wrap_u64 (by omega) (by omega)];omega
 have z1:(((7 * ds.length:Nat):Int) == 0)=false:=by rw[beq_eq_false_iff_ne];omega
 refine fulfilA Tryz.f138 [.tmp 2] 1 ?_
 simp only[Tryz.f138,Option.getD_some,go_sem]
 refine rn ?_
 refine callU [0] 0 (hf) ?_;rintro ret os fs ⟨rfl,rfl,rfl⟩;refine sim ?_
 by_cases hs:7 * ds.length≤63
 ·have hb63:2 ^ (7 * ds.length)≤9223372036854775808:=Nat.pow_le_pow_right (by decide) hs
  have w0:dv ds % 18446744073709551616=dv ds:=Nat.mod_eq_of_lt (by omega)
  have a1:=and_sign (b:=7 * ds.length) ⟨by omega,hs⟩ hlt
  have a2:=or_sign (b:=7 * ds.length) ⟨by omega,hs⟩ hlt
  have w2:IntKind.i64.wrap (dv ds:Int)=dv ds:=wrap_small (by omega)
  have hnat:((2:Int) ^ (7 * ds.length))=((2 ^ (7 * ds.length):Nat):Int):=by simp
  by_cases hneg:n < 0
  ·rw[if_pos hneg] at h3
   rw[if_pos (by omega)] at a1
   have a3:bitsV .or .i64 (dv ds:Int) (IntKind.i64.wrap ((-1:Int) * 2 ^ min (7 * ds.length) 64))=n:=by rw[a2,hnat];omega
   have a4:(((2:Int) ^ (7 * ds.length - 1)) != 0)=true:=by
    rw[bne_iff_ne,ne_eq]
    have hk:((2:Int) ^ (7 * ds.length - 1))=((2 ^ (7 * ds.length - 1):Nat):Int):=by simp
    have:=Nat.pow_pos (n:=7 * ds.length - 1) (show 0 < 2 by decide)
    omega
   refine rnE (And.intro @w0 (And.intro @w1 (And.intro @w2 (And.intro @a1 (And.intro @a3 (And.intro @a4 @z1)))))) ?_
   refine doneA [] ?_;try exact trivial
   exact ⟨rfl,rfl,rfl⟩
  ·rw[if_neg hneg] at h3
   rw[if_neg (by omega)] at a1
   refine rnE (And.intro @w0 (And.intro @w1 (And.intro @w2 (And.intro @a1 @z1)))) ?_
   refine doneA [] ?_;try exact trivial
   exact ⟨by rw[h3,Int.add_zero],rfl,rfl⟩
 ·have a1:IntKind.i64.wrap ((1:Int) * 2 ^ min (7 * ds.length - 1) 64)=0:=by
   rw[Nat.min_eq_right (by omega)];rfl
  have a2:∀x:Int,bitsV .and .i64 x 0=0:=by
   intro x
   unfold bitsV
   have:((BitVec.ofInt IntKind.i64.bits x) &&& (BitVec.ofInt IntKind.i64.bits 0)).toNat=0:=by
    rw[BitVec.toNat_and]
    exact Nat.and_zero _
   simp only[this]
   rfl
  have a3:IntKind.i64.wrap ((dv ds % 18446744073709551616:Nat):Int)=n:=by
   have hdv:(18446744073709551616:Int)∣((2 ^ (7 * ds.length):Nat):Int):=by
    obtain ⟨k,hk⟩ :∃k,7 * ds.length=64+k:= ⟨7 * ds.length - 64,by omega⟩
    rw[hk,Nat.pow_add]
    exact ⟨((2 ^ k:Nat):Int),by rw[Int.natCast_mul];rfl⟩
   obtain ⟨q,hq⟩ :=hdv
   simp only[IntKind.wrap,IntKind.bits,IntKind.signed]
   simp
   split at h3<;>omega
  refine rnE (And.intro @w1 (And.intro @a1 (And.intro @a2 (And.intro @a3 @z1)))) ?_
  refine doneA [] ?_;try exact trivial
  exact ⟨rfl,rfl,rfl⟩
end
end Go.Proofs.YtbkfdnkeelmloaaGreatDoor
