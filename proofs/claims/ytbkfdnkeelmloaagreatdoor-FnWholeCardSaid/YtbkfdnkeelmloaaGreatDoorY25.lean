/- Part 25 of the proof: N6. -/
import Derived.Test.YtbkfdnkeelmloaaGreatDoorZ9
import Derived.Test.YtbkfdnkeelmloaaGreatDoorY23
import Derived.Test.YtbkfdnkeelmloaaGreatDoorZ24
set_option linter.unusedVariables false
set_option linter.unusedSimpArgs false
namespace Go.Proofs.YtbkfdnkeelmloaaGreatDoor
set_option maxHeartbeats 4000000
set_option maxRecDepth 10000
open Go.AM Go
structure LineRd (t:TableD):Prop where
 ok:TableOK t
 minInst:0≤t.minInst∧t.minInst≤255
 maxOps:1≤t.maxOps∧t.maxOps≤255∧(t.version < 4→t.maxOps=1)
 lineBase: -128≤t.lineBase∧t.lineBase≤127
 lineRange:1≤t.lineRange∧t.lineRange≤255
 file:∀f∈t.files,FileRd f
def lineOps (t:TableD):Bytes:=t.ops.flatMap (opText t)
def lensOf (t:TableD):List Int:=0 :: (operands t).map fun b=>(b.toNat:Int)
def lctx (t:TableD) (pre:Bytes) (ini:Nat):LCtx:= ⟨t,pre++lineText t,pre.length+(lenText (lineBody t).length t.wide t.big).length+(linePre t).length,(pre++lineText t).length,ini,lensOf t⟩
theorem lenText_eq (b:Bytes) (wide bg:Bool):lengthy b wide bg=lenText b.length wide bg++b:=by
 unfold lengthy lenText encO;cases wide<;>simp
def lhC (uk:Nat) (z:DataR) (h:Value) (i:Nat) (sec st ls:Bytes) (off:Nat) (l:Bytes) (v asz sg mi mo:Int) (iss:Bool) (lb lr ob:Int) (lens dirs:AV) (po eo:Nat):List AV:=
 [dP z uk,booV z.big,fmU uk h i,strV lineN,u32V off,bytesV l,.val .nilIface,bytesV sec,bytesV st,bytesV ls,.val (.int .u16 v),intV asz,intV sg,intV mi,intV mo,booV iss,intV lb,intV lr,intV ob,lens,dirs,.val (.slice none 0 0),u32V po,u32V eo,intV 0,
 u64V 0,intV 0,.val (.pointer none),intV 0,intV 0,booV false,booV false,booV false,booV false,intV 0,intV 0,booV false,intV 0]
def lrK (k:Nat) (c:LCtx) (m:MachD) (fp:Option FileD) (e:Bool) (hf:Value) (off:Nat) (l:Bytes):List AV:=[.top,booV c.t.big,.top,strV lineN,u32V off,bytesV l,.val .nilIface,bytesV c.sec,.top,.top,.top,intV c.t.size,.top,intV c.t.minInst,intV c.t.maxOps,booV c.t.isStmt,intV c.t.lineBase,intV c.t.lineRange,intV c.t.opcodeBase,
 intsV c.lens,.top,.buf k hf,u32V c.po,u32V c.eo,intV c.ini,u64V m.row.address,intV m.row.opIndex,lfP fp,intV m.row.line,intV m.row.column,booV m.row.isStmt,booV m.row.basic,booV m.row.pro,booV m.row.epi,intV m.row.isa,intV m.row.disc,booV e,intV m.file]
def mzF (l:List FileD):MachD:= ⟨⟨0,0,noFile,0,0,false,false,false,false,0,0,false⟩,0,l,[],[],false⟩
abbrev m6:List Bool:=[true,false,true,false,false,false,false,false,true,true,true,false,true,false,false,false,false,false,false,false,true]
attribute [go_sem] lhC lrK mzF
def fillL (t:TableD) (N j:Nat):List (List AV):=intsR ((lensOf t).take j++List.replicate (N - j) 0)
theorem fillL_one (t:TableD) {N:Nat} (h:1≤N):fillL t N 1=List.replicate N [.val (.int .i64 0)]:=by
 have:N=(N - 1)+1:=by omega
 rw[fillL,lensOf,this,List.replicate_succ]
 simp[intsR,intV]
theorem fillL_len {t:TableD} {N j:Nat} (h:(lensOf t).length=N) (hj:j≤N):(fillL t N j).length=N:=by simp[fillL,intsR,h];omega
theorem fillL_set {t:TableD} {N j:Nat} {n:Int} (h:(lensOf t).length=N) (hn:(lensOf t)[j]? =some n):(fillL t N j).set j [.val (.int .i64 n)]=fillL t N (j+1):=by
 have hj:=(List.getElem?_eq_some_iff.1 hn).1
 have e:N - j=(N - (j+1))+1:=by omega
 rw[fillL,fillL,take_succ hn,e,List.replicate_succ]
 simp only[intsR,List.map_append,List.map_cons]
 rw[List.set_append_right _ _ (by simp;omega)]
 have e2:j - (List.map (fun n=>[intV n]) ((lensOf t).take j)).length=0:=by simp;omega
 rw[e2]
 simp[intV]
theorem fillL_get {t:TableD} {N j:Nat} (h:(lensOf t).length=N) (hj:j < N):(fillL t N j).getD j []=[.val (.int .i64 0)]:=by
 rw[fillL,row_i (by simp;omega),List.getD_eq_getElem?_getD,List.getElem?_append_right (by simp;omega),List.getElem?_replicate,if_pos (by simp;omega)];rfl
theorem fillL_all {t:TableD} {N:Nat} (h:(lensOf t).length=N):fillL t N N=intsR (lensOf t):=by
 rw[fillL,List.take_of_length_le (by omega)];simp
theorem txN_drop {t:TableD} {l r:List FileD} {j:Nat} (h:l.drop j=r):txN t l=txN t (l.take j)++txN t r:=by
 rw[←h]
 unfold txN
 split
 ·rfl
 ·rw[←List.flatMap_append,List.take_append_drop]
theorem filesN_app (t:TableD):∀(l:List FileD) (a:Nat) (r:List FileD),filesN t a (l++r)=filesN t a l++filesN t (a+(txN t l).length) r
 | [],a,r=>by
  have:(txN t []).length=0:=by unfold txN;split<;>rfl
  simp[filesN,this]
 |g :: l,a,r=>by
  have h:(txN t (g :: l)).length=(txN t [g]).length+(txN t l).length:=by unfold txN;split<;>simp;omega
  simp only[List.cons_append,filesN,filesN_app t l,h,List.append_assoc,Nat.add_assoc]
def fillF (l:List FileD) (j:Nat):List (Option FileD):=(l.take j).map some++List.replicate (l.length - j) none
theorem fillF_len {l:List FileD} {j:Nat} (h:j≤l.length):(filesRw (fillF l j)).length=l.length:=by simp[filesRw,fillF];omega
theorem fillF_get {l:List FileD} {j:Nat} (h:j < l.length):(filesRw (fillF l j)).getD j []=[.val (.pointer none)]:=by
 rw[List.getD_eq_getElem?_getD,filesRw,fillF,List.getElem?_map,List.getElem?_append_right (by simp;omega),List.getElem?_replicate,if_pos (by simp;omega)];rfl
theorem fillF_set {l:List FileD} {j:Nat} {f:FileD} (h:l[j]? =some f):(filesRw (fillF l j)).set j [lfP (some f)]=filesRw (fillF l (j+1)):=by
 have hj:=(List.getElem?_eq_some_iff.1 h).1
 have e:l.length - j=(l.length - (j+1))+1:=by omega
 rw[fillF,fillF,take_succ h,e,List.replicate_succ]
 simp only[filesRw,List.map_append,List.map_cons]
 rw[List.set_append_right _ _ (by simp;omega)]
 have e2:j - (List.map (fun o=>[lfP o]) ((l.take j).map some)).length=0:=by simp;omega
 rw[e2]
 simp
theorem fillF_all (l:List FileD):fillF l l.length=l.map some:=by simp[fillF]
theorem lens_known {t:TableD} (hT:TableOK t) {k:Nat} {n:Int} (h:(lensOf t)[k]? =some n):∀q,knownOp k=some q→q=n:=by
 intro q hq
 have hob:=hT.opcodeBase
 have hop:=hT.operands
 have hk:1≤k∧k≤12:=by
  unfold knownOp at hq
  split at hq
  ·omega
  ·split at hq
   ·omega
   ·cases hq
 obtain ⟨i,rfl⟩ :∃i,k=i+1:= ⟨k - 1,by omega⟩
 rw[lensOf,List.getElem?_cons_succ,List.getElem?_map] at h
 have e:(operands t)[i]? =stdOps[i]?:=by
  unfold operands at h ⊢
  by_cases hi:i < (t.opcodeBase - 1).toNat
  ·rw[List.getElem?_append_left (by simp[stdOps];omega),List.getElem?_take_of_lt hi]
  ·have hl:(stdOps.take (t.opcodeBase - 1).toNat++t.operands.map byI).length≤i:=by simp[stdOps];omega
   rw[List.getElem?_eq_none hl] at h
   cases h
 rw[e] at h
 have hi:i=0∨i=1∨i=2∨i=3∨i=4∨i=5∨i=6∨i=7∨i=8∨i=9∨i=10∨i=11:=by omega
 rcases hi with rfl|rfl|rfl|rfl|rfl|rfl|rfl|rfl|rfl|rfl|rfl|rfl<;>simp[stdOps,knownOp] at h hq<;>omega
theorem turn_hT (z:DataR) (h:Value) (i:Nat) (sec st ls:Bytes) (v asz sg mi mo:Int) (iss:Bool) (lb lr ob:Int) (l:List Int) (dirs:AV) (po eo:Nat) {σ:Nat→Nat} (hσ:σ 901=901) (hd:dirs.turn (rkA σ)=dirs):
  (dP z 901).turn (rkA σ)=dP z 901∧(fmU 901 h i).turn (rkA σ)=fmU 901 h i∧turnL (rkA σ) ((lhC 901 z h i sec st ls 0 [] v asz sg mi mo iss lb lr ob (.dat false 1 (intsR l)) dirs po eo).drop 7)=(lhC 901 z h i sec st ls 0 [] v asz sg mi mo iss lb lr ob (.dat false 1 (intsR l)) dirs po eo).drop 7:=by
 refine ⟨?_, ?_, ?_⟩
 ·simp only[dataC,AV.turn,turnL,bytesV_eq,turnR_by,booV,Still.i,Still.s,rkA,hσ];rfl
 ·simp only[fmU,AV.turn,rkA,hσ]
 ·simp only[lhC,List.drop_succ_cons,List.drop_zero,AV.turn,turnL,bytesV_eq,turnR_by,turnR_ints,booV,intV,u64V,u32V,Still.i,Still.s,StillQ.p,rkA,hd]
section
variable {G:Nat→AV} {g:GData} {lb i:Nat} {h:Value} {z:DataR} {us:List UnitR} {u:UnitR}
theorem f141_ok (hG:GOK G g) (t:TableD) (hT:LineRd t) (pre st ls dir:Bytes) (hu:us[i]? =some u) (hz:u.size=t.size) (hzb:z.big=t.big) (hls:t.version=5→t.shape≠0→∃r,ls=txN t t.files++r) (hlsl:ls.length≤1000000000) (hp:pre.length≤5000) (hlt:(lineText t).length≤1500000000):
  Fulfils Tryz.prog G 141 [.ref 0 lb 0,strV dir] [.cells lb 0 (lhC 1 z h i (pre++lineText t) st ls pre.length (lineText t) 0 0 0 0 0 false 0 0 0 (.val (.slice none 0 0)) (.val (.slice none 0 0)) 0 0),.arr h 216 9 (us.map unitRow)]
  (fun ret os fs=>∃hf off,ret=(fun _=>.val .nilIface)∧os=[some (.cells lb 0 (lrK 2 (lctx t pre (filesT t t.files).length) (mzF t.files) none false hf off (lineOps t))),some (.arr h 216 9 (us.map unitRow))]∧fs=[some (.arr hf 293 1 (filesRw (filesT t t.files)))]):=by
 have hbig:big=140737488355328:=rfl
 have hv:=hT.ok.version
 have ltx:lineText t=lenText (lineBody t).length t.wide z.big++(fixed t.version.toNat 2 z.big++((if 4 < t.version then [byI t.size,0] else [])++(encO (lineHead t).length t.wide z.big++(lineHead t++lineOps t)))):=by
  rw[hzb,lineText,lenText_eq,lineBody,linePre];simp only[List.append_assoc];rfl
 have ltl:=congrArg List.length ltx
 simp only[List.length_append,fixed_len] at ltl
 obtain ⟨V,hV⟩ :∃V:Nat,t.version=V:= ⟨t.version.toNat,by omega⟩
 have nv:=numOf_fixed V 2 z.big
 rw[Nat.mod_eq_of_lt (by omega)] at nv
 have lbl:(lineBody t).length≤1500000000:=by rw[lineText,lenText_eq,List.length_append] at hlt;omega
 have ltb:(lineText t).length=(lenText (lineBody t).length t.wide z.big).length+(lineBody t).length:=by rw[lineText,lenText_eq,List.length_append,hzb]
 generalize hsec:pre++lineText t=sec
 rw[ltx]
 have hVt:t.version.toNat=V:=by omega
 rw[hVt]
 obtain ⟨A,hA⟩ :∃A:Bytes,A=if 4 < t.version then [byI t.size,0] else []:= ⟨_,rfl⟩
 obtain ⟨E,hE⟩ :∃E:Bytes,E=encO (lineHead t).length t.wide z.big:= ⟨_,rfl⟩
 obtain ⟨M,hM⟩ :∃M:Bytes,M=if 3 < t.version then [byI t.maxOps] else []:= ⟨_,rfl⟩
 obtain ⟨L,hL⟩ :∃L:Bytes,L=if t.version < 5 then oldLists t else newLists t:= ⟨_,rfl⟩
 have hH:lineHead t++lineOps t=byI t.minInst :: (M++((if t.isStmt=true then 1 else 0) :: byI t.lineBase :: byI t.lineRange :: byI t.opcodeBase :: (operands t++(L++lineOps t)))):=by
  rw[lineHead,hM,hL];simp only[List.append_assoc,List.cons_append,List.nil_append]
 have hHn:=congrArg List.length hH
 simp only[List.length_append,List.length_cons] at hHn
 rw[←hA,←hE] at ltl ⊢
 obtain ⟨D,hD⟩ :∃D:Bytes,D=lenText (lineBody t).length t.wide z.big:= ⟨_,rfl⟩
 obtain ⟨B,hB⟩ :∃B:Nat,B=(lineBody t).length:= ⟨_,rfl⟩
 obtain ⟨H,hHl⟩ :∃H:Nat,H=(lineHead t).length:= ⟨_,rfl⟩
 rw[←hD] at ltl ltb
 rw[←hB] at ltb lbl hD ⊢
 rw[←hHl] at ltl hE
 have f156:=f156_ok (G:=G) (b:=lb) (dw:=dP z 1) (bg:=z.big) (fm:=fmU 1 h i) (nm:=lineN) (post:=(lhC 1 z h i sec st ls pre.length [] 0 0 0 0 0 false 0 0 0 (.val (.slice none 0 0)) (.val (.slice none 0 0)) 0 0).drop 7) pre.length B t.wide (fixed V 2 z.big++(A++(E++(lineHead t++lineOps t)))) (by omega) (by omega)
 rw[←hD] at f156 ⊢
 have wE:IntKind.u32.wrap (((pre.length+D.length:Nat):Int)+(B:Int))=((pre.length+D.length+B:Nat):Int):=by rw[←wrap_u32 (pre.length+D.length+B) (by omega)];simp
 have wF:IntKind.u32.wrap (((fixed V 2 z.big).length+(A.length+(E.length+((lineHead t).length+(lineOps t).length))):Nat):Int)=(B:Int):=by rw[fixed_len,wrap_u32 _ (by omega)];omega
 have wS:IntKind.i64.wrap ((byI t.size).toNat:Int)=t.size:=by
  have:=hT.ok.size
  have:=byI_toNat t.size
  rw[wrap_i64 (by omega) (by omega)];omega
 have w0:IntKind.i64.wrap (((0:UInt8).toNat:Nat):Int)=0:=rfl
 have n8:=numOf_fixed H 8 z.big
 have n4:=numOf_fixed H 4 z.big
 rw[Nat.mod_eq_of_lt (by omega)] at n8 n4
 have wH:=wrap_u32 H (by omega)
 have wP:IntKind.u32.wrap (((pre.length+D.length+2+A.length+E.length:Nat):Int)+(H:Int))=((pre.length+D.length+2+A.length+E.length+H:Nat):Int):=by rw[←wrap_u32 (pre.length+D.length+2+A.length+E.length+H) (by omega)];simp
 have wMI:IntKind.i64.wrap ((byI t.minInst).toNat:Int)=t.minInst:=by
  have:=hT.minInst
  have:=byI_toNat t.minInst
  rw[wrap_i64 (by omega) (by omega)];omega
 have wMO:IntKind.i64.wrap ((byI t.maxOps).toNat:Int)=t.maxOps:=by
  have:=hT.maxOps
  have:=byI_toNat t.maxOps
  rw[wrap_i64 (by omega) (by omega)];omega
 have wIS:((((if t.isStmt=true then 1 else 0:UInt8).toNat:Nat):Int) != 0)=t.isStmt:=by cases t.isStmt<;>rfl
 have wLB:IntKind.i8.wrap ((byI t.lineBase).toNat:Int)=t.lineBase:=by
  have:=hT.lineBase
  have:=byI_toNat t.lineBase
  simp[IntKind.wrap,IntKind.bits,IntKind.signed];omega
 have wLC:IntKind.i64.wrap t.lineBase=t.lineBase:=by have:=hT.lineBase;rw[wrap_i64 (by omega) (by omega)]
 have wLR:IntKind.i64.wrap ((byI t.lineRange).toNat:Int)=t.lineRange:=by
  have:=hT.lineRange
  have:=byI_toNat t.lineRange
  rw[wrap_i64 (by omega) (by omega)];omega
 have wOB:IntKind.i64.wrap ((byI t.opcodeBase).toNat:Int)=t.opcodeBase:=by
  have:=hT.ok.opcodeBase
  have:=byI_toNat t.opcodeBase
  rw[wrap_i64 (by omega) (by omega)];omega
 have zMO:(t.maxOps == 0)=false:=by have:=hT.maxOps;rw[beq_eq_false_iff_ne];omega
 have zLR:(t.lineRange == 0)=false:=by have:=hT.lineRange;rw[beq_eq_false_iff_ne];omega
 have hob:=hT.ok.opcodeBase
 have hol:=operands_len t hob hT.ok.operands
 obtain ⟨N,hN⟩ :∃N:Nat,t.opcodeBase=N:= ⟨t.opcodeBase.toNat,by omega⟩
 have hll:(lensOf t).length=N:=by rw[lensOf];simp;omega
 have hfiles:=hT.file
 have hfl:=hT.ok.files
 have hpad:=hT.ok.pad
 refine fulfilA Tryz.f141 [.tmp 4] 2 ?_
 simp only[Tryz.f141,Option.getD_some,go_sem]
 refine rn ?_
 refine callU [0] 0 (f156) ?_;rintro ret os fs ⟨rfl,rfl,rfl⟩;refine sim ?_
 refine rnE @wE ?_
 refine hRegionD (noChi) [0,1,2,3,4,5,6,7,8,9,10,11,12,13,14,15] [0,1,3,7,0,16,48,112,0,256,768,1792,3840,7936,16368,32767] [] mixed (by kernel_rfl) ?_
 refine simE (And.intro @wE @wF) ?_
 refine rnE (And.intro @wE @wF) ?_
 refine callU [0] 0 (f133_ok (pre.length+D.length) (fixed V 2 z.big) (A++(E++(lineHead t++lineOps t))) (fixed_len ..) (by omega)) ?_;rintro ret os fs ⟨rfl,rfl,rfl⟩;refine sim ?_
 repeat' first|refine hMeet (a:=Code.seq (Code.region 10 _ _) _) (X:=Unit) (fun _=> ⟨[(0,.ref 0 lb 0),(1,strV dir),(5,.ref 0 lb 0),(8,booV t.wide)],[(0,some (.cells lb 0 (lhC 1 z h i sec st ls (pre.length+D.length+2+A.length) (E++(lineHead t++lineOps t)) V t.size 0 0 0 false 0 0 0 (.val (.slice none 0 0)) (.val (.slice none 0 0)) 0 (pre.length+D.length+B)))),(1,some (.arr h 216 9 (us.map unitRow)))]⟩) ?_ ?_|refine s1 ?_|refine hRegion (simE (And.intro @nv (And.intro @wE @wF)) ?_)|refine hSkip (simE (And.intro @nv (And.intro @wE @wF)) ?_)|(refine s7 rfl ?_ ?_<;>intro hb<;>first|(exfalso;omega)|skip)|fail
 ·have hA1:A=[byI t.size,0]:=by rw[hA,if_pos (by omega)]
  subst hA1
  refine callU [0] 0 (f132_ok (pre.length+D.length+2) (byI t.size) (0 :: (E++(lineHead t++lineOps t))) (by omega)) ?_;rintro ret os fs ⟨rfl,rfl,rfl⟩;refine sim ?_
  refine rnE @wS ?_
  refine callU [0] 0 (f132_ok (pre.length+D.length+2+1) 0 (E++(lineHead t++lineOps t)) (by omega)) ?_;rintro ret os fs ⟨rfl,rfl,rfl⟩;refine sim ?_
  skip
  exact ⟨(),by first|trivial|rfl⟩
 ·have hA1:A=[]:=by rw[hA,if_neg (by omega)]
  subst hA1
  refine callU [1] 0 (f150_ok hu) ?_;rintro ret os fs ⟨rfl,rfl,rfl⟩;refine sim ?_
  refine rnE @hz ?_
  exact ⟨(),by first|trivial|rfl⟩
 rintro ⟨⟩
 repeat' first|refine hMeet (a:=Code.seq (Code.region 16 _ _) _) (X:=Unit) (fun _=> ⟨[(0,.ref 0 lb 0),(1,strV dir),(5,.ref 0 lb 0),(8,booV t.wide),(9,u32V (H:Nat))],[(0,some (.cells lb 0 (lhC 1 z h i sec st ls (pre.length+D.length+2+A.length+E.length) (lineHead t++lineOps t) V t.size 0 0 0 false 0 0 0 (.val (.slice none 0 0)) (.val (.slice none 0 0)) 0 (pre.length+D.length+B)))),(1,some (.arr h 216 9 (us.map unitRow)))]⟩) ?_ ?_|refine s1 ?_|refine hRegion (simE @w0 ?_)|refine s7 rfl (fun hb=>?_) fun hb=>?_|fail
 ·have hE1:E=fixed H 8 z.big:=by rw[hE,hb];rfl
  rw[hE1]
  refine callU [0] 0 (f125_ok (pre.length+D.length+2+A.length) (fixed H 8 z.big) (lineHead t++lineOps t) (fixed_len ..) (by omega)) ?_;rintro ret os fs ⟨rfl,rfl,rfl⟩;refine sim ?_
  skip
  exact ⟨(),by simp only[fixed_len,n8,wH,and_self]⟩
 ·have hE1:E=fixed H 4 z.big:=by rw[hE,hb];rfl
  rw[hE1]
  refine callU [0] 0 (f126_ok (pre.length+D.length+2+A.length) (fixed H 4 z.big) (lineHead t++lineOps t) (fixed_len ..) (by omega)) ?_;rintro ret os fs ⟨rfl,rfl,rfl⟩;refine sim ?_
  skip
  exact ⟨(),by simp only[fixed_len,n4,and_self]⟩
 rintro ⟨⟩
 rw[hH]
 refine sim ?_
 obtain ⟨o1,ho1⟩ :∃n,n=pre.length+D.length+2+A.length+E.length:= ⟨_,rfl⟩
 obtain ⟨po,hpo⟩ :∃n,n=pre.length+D.length+2+A.length+E.length+H:= ⟨_,rfl⟩
 obtain ⟨eo,heo⟩ :∃n,n=pre.length+D.length+B:= ⟨_,rfl⟩
 rw[←hpo,←ho1] at wP
 rw[←ho1,←heo]
 have hcx:∀ini,lctx t pre ini= ⟨t,sec,po,eo,ini,lensOf t⟩ :=by
  intro ini
  have e1:(lenText (lineBody t).length t.wide t.big).length=D.length:=by rw[hD,hB,hzb]
  have e2:(linePre t).length=2+A.length+E.length+H:=by rw[linePre,hA,hE,hHl,hzb];simp only[List.length_append,fixed_len]
  have e3:(pre++lineText t).length=eo:=by rw[List.length_append,ltb];omega
  unfold lctx
  rw[e1,e2,hsec,←e3,hsec]
  congr 1
  omega
 refine rnE @wP ?_
 refine callU [0] 0 (f132_ok o1 (byI t.minInst) (M++((if t.isStmt=true then 1 else 0) :: byI t.lineBase :: byI t.lineRange :: byI t.opcodeBase :: (operands t++(L++lineOps t)))) (by omega)) ?_;rintro ret os fs ⟨rfl,rfl,rfl⟩;refine sim ?_
 repeat' first|refine hMeet (a:=Code.seq (Code.region 24 _ _) _) (X:=Unit) (fun _=> ⟨[(0,.ref 0 lb 0),(1,strV dir),(5,.ref 0 lb 0),(8,booV t.wide)],[(0,some (.cells lb 0 (lhC 1 z h i sec st ls (o1+1+M.length) ((if t.isStmt=true then 1 else 0) :: byI t.lineBase :: byI t.lineRange :: byI t.opcodeBase :: (operands t++(L++lineOps t))) V t.size 0 t.minInst t.maxOps false 0 0 0 (.val (.slice none 0 0)) (.val (.slice none 0 0)) po eo))),(1,some (.arr h 216 9 (us.map unitRow)))]⟩) ?_ ?_|refine s1 ?_|refine hRegion (simE @wMI ?_)|refine s7 rfl (fun hb=>?_) fun hb=>?_|fail
 ·have hM1:M=[byI t.maxOps]:=by rw[hM,if_pos (by omega)]
  subst hM1
  refine callU [0] 0 (f132_ok (o1+1) (byI t.maxOps) ((if t.isStmt=true then 1 else 0) :: byI t.lineBase :: byI t.lineRange :: byI t.opcodeBase :: (operands t++(L++lineOps t))) (by omega)) ?_;rintro ret os fs ⟨rfl,rfl,rfl⟩;refine sim ?_
  skip
  exact ⟨(),by rw[wMO]⟩
 ·have hM1:M=[]:=by rw[hM,if_neg (by omega)]
  have hmo:=hT.maxOps.2.2 (by omega)
  subst hM1
  rw[hmo]
  skip
  exact ⟨(),by first|trivial|rfl⟩
 rintro ⟨⟩
 refine sim ?_
 obtain ⟨o2,ho2⟩ :∃n,n=o1+1+M.length:= ⟨_,rfl⟩
 rw[←ho2]
 refine rn ?_
 refine callU [0] 0 (f132_ok o2 (if t.isStmt=true then 1 else 0) (byI t.lineBase :: byI t.lineRange :: byI t.opcodeBase :: (operands t++(L++lineOps t))) (by omega)) ?_;rintro ret os fs ⟨rfl,rfl,rfl⟩;refine sim ?_
 refine simE @wIS ?_
 refine rnE @wIS ?_
 refine callU [0] 0 (f132_ok (o2+1) (byI t.lineBase) (byI t.lineRange :: byI t.opcodeBase :: (operands t++(L++lineOps t))) (by omega)) ?_;rintro ret os fs ⟨rfl,rfl,rfl⟩;refine sim ?_
 refine simE (And.intro @wLB @wLC) ?_
 refine rnE (And.intro @wLB @wLC) ?_
 refine callU [0] 0 (f132_ok (o2+1+1) (byI t.lineRange) (byI t.opcodeBase :: (operands t++(L++lineOps t))) (by omega)) ?_;rintro ret os fs ⟨rfl,rfl,rfl⟩;refine sim ?_
 refine simE @wLR ?_
 refine rnE (And.intro @wLR (And.intro @zMO @zLR)) ?_
 refine callU [0] 0 (f132_ok (o2+1+1+1) (byI t.opcodeBase) (operands t++(L++lineOps t)) (by omega)) ?_;rintro ret os fs ⟨rfl,rfl,rfl⟩;refine sim ?_
 refine simE @wOB ?_
 repeat' first|refine rnE @wOB ?_|with_reducible refine fun (_:Outc)=>?_|fail
 rename Outc=>oz
 have eN:t.opcodeBase.toNat=N:=by omega
 obtain ⟨o3,ho3⟩ :∃n,n=o2+1+1+1+1:= ⟨_,rfl⟩
 rw[eN,hN,←ho3,←fillL_one t (N:=N) (by omega)]
 refine hLoop (X:={j:Nat // 1≤j∧j≤N}) (fun j=> ⟨[(0,.ref 0 lb 0),(1,strV dir),(5,.ref 0 lb 0),(8,booV t.wide),(11,intV j.1)],[(0,some (.cells lb 0 (lhC 1 z h i sec st ls (o3+(j.1 - 1)) ((operands t).drop (j.1 - 1)++(L++lineOps t)) V t.size 0 t.minInst t.maxOps t.isStmt t.lineBase t.lineRange N (.buf 227 oz.h) (.val (.slice none 0 0)) po eo))),(1,some (.arr h 216 9 (us.map unitRow))),(227,some (.arr oz.h 3 1 (fillL t N j.1)))]⟩) (fun j=>N - j.1) ⟨1,by omega⟩ (by refine sim ?_;all_goals ((repeat' refine And.intro ?_ ?_)<;>rfl)) ?_
 ·rintro ⟨j,hj1,hj2⟩
  refine sim ?_
  have e3:=fillL_len (t:=t) hll hj2
  by_cases hlt:j < N
  ·obtain ⟨x,hx⟩ :=getX (operands t) (i:=j - 1) (by omega)
   have hd:(operands t).drop (j - 1)=x :: (operands t).drop j:=by
    obtain ⟨h1,h2⟩ :=List.getElem?_eq_some_iff.1 hx
    rw[List.drop_eq_getElem_cons h1,h2,show j - 1+1=j by omega]
   have hlx:(lensOf t)[j]? =some (x.toNat:Int):=by
    rw[lensOf,show j=(j - 1)+1 by omega,List.getElem?_cons_succ,List.getElem?_map,hx];rfl
   have e4:=fillL_set hll hlx
   have e5:=fillL_get hll hlt
   have hx8:=UInt8.toNat_lt x
   have wx:IntKind.i64.wrap (x.toNat:Int)=x.toNat:=wrap_i64 (by omega) (by omega)
   have w4:IntKind.i64.wrap ((j:Int)+1)=((j+1:Nat):Int):=by rw[wrap_i64 (by omega) (by omega)];simp
   have hdl:((operands t).drop j).length≤300:=by rw[List.length_drop];omega
   rw[hd]
   refine rn ?_
   refine hRegionE (fun jx _=>if jx=6 then mkC [0] 244 0 [] (f132_ok (b:=lb) (dw:=dP z 1) (bg:=z.big) (fm:=fmU 1 h i) (nm:=lineN) (post:=(lhC 1 z h i sec st ls 0 [] V t.size 0 t.minInst t.maxOps t.isStmt t.lineBase t.lineRange N (.buf 227 oz.h) (.val (.slice none 0 0)) po eo).drop 7) (o3+(j - 1)) x ((operands t).drop j++(L++lineOps t)) (by omega)) else (default,([],[]))) [0,1,2,3,4,5,6,7,8,9] [0,1,2,4,5,6,3,7,8,9] [0,1,3,7,0,0,32,96,255,511] [] [] 3 6 mixed (by kernel_rfl) ?_ ?_
   all_goals
    refine simE (And.intro @e3 (And.intro @wx @e5)) ?_
    (skip);refine callDA ?_;rintro ret os fs ⟨rfl,rfl,rfl⟩;refine sim ?_
    refine simE (And.intro @e3 (And.intro @wx (And.intro @e4 @e5))) ?_
    repeat' first|refine rnE (And.intro @e3 (And.intro @wx (And.intro @e4 (And.intro @w4 @e5)))) ?_|fail
    refine ⟨⟨j+1,by omega⟩, ?_⟩
    simp only[show j+1 - 1=j by omega,show o3+(j - 1)+1=o3+j by omega]
    ((repeat' refine And.intro ?_ ?_)<;>first|omega|(simp;done))
  ·have:N=j:=by omega
   subst this
   rw[fillL_all hll,show (operands t).drop (N - 1)=[] from List.drop_of_length_le (by omega)]
   repeat' first|refine s1 ?_|refine s2 ?_|refine hRegion (sim ?_)|refine hSkip (sim ?_)|refine hExit (sim ?_)|(refine s7 rfl ?_ ?_<;>intro hb<;>first|(exfalso;omega)|(exact absurd hb (by decide))|skip)|fail
   refine hEnt (eFrz 227 sT) ?_;refine sim ?_
   refine hEnt (eKey 1 901 sT (by decide)) ?_;refine sim ?_
   have eg:=hG.known
   refine hLoop (X:={j:Nat // j≤N}) (fun j=> ⟨[(0,.ref 0 lb 0),(1,strV dir),(5,.ref 0 lb 0),(8,booV t.wide),(259,.dat false 1 (intsR (lensOf t))),(260,intV N),(261,intV j.1)],[(0,some (.cells lb 0 (lhC 901 z h i sec st ls (o3+(N - 1)) (L++lineOps t) V t.size 0 t.minInst t.maxOps t.isStmt t.lineBase t.lineRange N (.dat false 1 (intsR (lensOf t))) (.val (.slice none 0 0)) po eo))),(901,some (.arr h 216 9 (us.map unitRow)))]⟩) (fun j=>N - j.1) ⟨0,by omega⟩ (by refine sim ?_;all_goals first|(rw[hll];done)|((repeat' refine And.intro ?_ ?_)<;>first|rfl|omega|(dsimp only;omega)|(simp;done)|(simp;rfl)|skip)) ?_
   rintro ⟨k,hk⟩
   refine sim ?_
   by_cases hlk:k < N
   ·obtain ⟨n,hn⟩ :=getX (lensOf t) (i:=k) (by omega)
    have e5:(intsR (lensOf t)).getD k []=[.val (.int .i64 n)]:=by
     rw[row_i (by omega),List.getD_eq_getElem?_getD,hn];rfl
    have hkn:=lens_known hT.ok hn
    have hf:=hG.knownE k
    have w4:IntKind.i64.wrap ((k:Int)+1)=((k+1:Nat):Int):=by rw[wrap_i64 (by omega) (by omega)];simp
    have il:=intsR_length (lensOf t)
    cases hq:knownOp k with
    |none=>
     rw[hq,Option.map_none] at hf
     refine rnE (And.intro @e5 (And.intro @hf (And.intro @eg (And.intro @w4 @il)))) ?_
     exact ⟨⟨k+1,by omega⟩,by ((repeat' refine And.intro ?_ ?_)<;>first|rfl|(dsimp only;omega))⟩
    |some q=>
     have:=hkn q hq
     subst this
     rw[hq,Option.map_some] at hf
     simp only[intV] at hf
     refine rnE (And.intro @e5 (And.intro @hf (And.intro @eg (And.intro @w4 @il)))) ?_
     exact ⟨⟨k+1,by omega⟩,by ((repeat' refine And.intro ?_ ?_)<;>first|rfl|(dsimp only;omega))⟩
   ·have:N=k:=by omega
    subst this
    repeat' first|refine s1 ?_|refine s2 ?_|refine hRegion (sim ?_)|refine hExit (sim ?_)|(refine s7 rfl ?_ ?_<;>intro hb<;>first|(exfalso;omega)|skip)|with_reducible refine fun (_:Outc)=>?_|fail
    ·rename_i ox
     have hL1:L++lineOps t=0 :: (t.files.flatMap (fileText t.pad)++0 :: lineOps t):=by
      rw[hL,if_pos (by omega)];simp[oldLists]
     have hLn:=congrArg List.length hL1
     simp only[List.length_append,List.length_cons] at hLn
     rw[hL1]
     refine hLoop0 ?_
     refine rn ?_
     refine callU [0] 0 (f127n_ok (o3+(N - 1)) (t.files.flatMap (fileText t.pad)++0 :: lineOps t) (by omega)) ?_;rintro ret os fs ⟨rfl,rfl,rfl⟩;refine sim ?_
     repeat' first|refine s1 ?_|refine s2 ?_|refine hRegion (sim ?_)|refine hSkip (sim ?_)|refine hExit (sim ?_)|(refine s7 rfl ?_ ?_<;>intro hb<;>first|(exact absurd hb (by decide))|skip)|with_reducible refine And.intro ?_ ?_|with_reducible refine fun (_:Outc)=>?_|omega
     rename_i oy
     refine hEnt (eTops 0 m6 (by refine sim ?_;rfl)) ?_
     refine sim ?_
     have hv5:t.version < 5:=by omega
     have hf0:filesRw (filesT t [])=[[.val (.pointer none)]]:=by simp[filesT,filesRw,hv5,lfP]
     refine hLoop (X:=Value×{j:Nat // j≤t.files.length}) (fun p=> ⟨[(0,.ref 0 lb 0),(5,.ref 0 lb 0)],[(0,some (.cells lb 0 (lrK 323 ⟨t,sec,po,eo,0,lensOf t⟩ (mzF (t.files.take p.2.1)) none false p.1 (o3+(N - 1)+1+((t.files.take p.2.1).flatMap (fileText t.pad)).length) ((t.files.drop p.2.1).flatMap (fileText t.pad)++0 :: lineOps t)))),(901,some (.arr h 216 9 (us.map unitRow))),(323,some (.arr p.1 293 1 (filesRw (filesT t (t.files.take p.2.1)))))]⟩) (fun p=>t.files.length - p.2.1) ⟨oy.h,0,by omega⟩ (by refine simE (And.intro @hN (And.intro @hzb @hf0)) ?_;all_goals ((repeat' refine And.intro ?_ ?_)<;>rfl)) ?_
     rintro ⟨hf,j,hj⟩
     refine sim ?_
     have hsp:((t.files.take j).flatMap (fileText t.pad)).length+((t.files.drop j).flatMap (fileText t.pad)).length=(t.files.flatMap (fileText t.pad)).length:=by
      rw[←List.length_append,←List.flatMap_append,List.take_append_drop]
     by_cases hlj:j < t.files.length
     ·obtain ⟨f,hfj⟩ :=getX t.files hlj
      have hd:t.files.drop j=f :: t.files.drop (j+1):=by
       obtain ⟨h1,h2⟩ :=List.getElem?_eq_some_iff.1 hfj
       rw[List.drop_eq_getElem_cons h1,h2]
      have ht1:=flat_take (fileText t.pad) hfj
      have ht2:=take_succ hfj
      have hl1:=congrArg List.length ht1
      rw[hd,List.flatMap_cons,List.append_assoc]
      rw[hd,List.flatMap_cons] at hsp
      simp only[List.length_append] at hsp hl1
      refine rn ?_
      refine callA [0,323] 0 (f167_ok (c:= ⟨t,sec,po,eo,0,lensOf t⟩) (lb:=lb) (hf:=hf) (off:=o3+(N - 1)+1+((t.files.take j).flatMap (fileText t.pad)).length) (mzF (t.files.take j)) none false f t.pad ((t.files.drop (j+1)).flatMap (fileText t.pad)++0 :: lineOps t) hv5 hpad (hfiles f (List.mem_of_getElem? hfj)) (by simp only[List.length_append,List.length_cons];omega) (by simp only[mzF,List.length_take];omega)) ?_;rintro ret os fs ⟨hf',rfl,rfl,rfl⟩;refine sim ?_
      refine rn ?_
      refine ⟨(hf', ⟨j+1,by omega⟩), ?_⟩
      simp only[addF,ht2,ht1,List.length_append,Nat.add_assoc]
      ((repeat' refine And.intro ?_ ?_)<;>first|omega|(simp;done))
     ·have:j=t.files.length:=by omega
      subst this
      rw[List.take_length] at hsp ⊢
      rw[List.drop_length,List.flatMap_nil,List.nil_append]
      refine rn ?_
      refine callA [0,323] 0 (f167e_ok (c:= ⟨t,sec,po,eo,0,lensOf t⟩) (lb:=lb) (hf:=hf) (off:=o3+(N - 1)+1+(t.files.flatMap (fileText t.pad)).length) (mzF t.files) none false (lineOps t) (by omega)) ?_;rintro ret os fs ⟨rfl,rfl,rfl⟩;refine sim ?_
      repeat' first|refine s1 ?_|refine hRegion (sim ?_)|refine hExit (sim ?_)|(refine s7 rfl ?_ ?_<;>intro hb<;>first|(exact absurd hb (by decide))|skip)|fail
      refine hEnt (eKey 901 1 sT (by decide)) ?_;refine sim ?_
      refine rn ?_
      simp only[hcx]
      refine doneA [(323,2)] ?_;try exact trivial
      exact ⟨hf,_,rfl,rfl⟩
    ·have hLn5:t.version=5:=by omega
     generalize hdF:(if t.shape=0 then [(1,8)] else [(1,31)]:List (UInt8×UInt8))=dF
     generalize hfF:(if t.shape=0 then fmtA else fmtB)=fF
     have hL1:L++lineOps t=fmtText dF++(encU 0 t.pad.toNat++(fmtText fF++(encU t.files.length t.pad.toNat++(filesN t 0 t.files++lineOps t)))):=by
      rw[hL,if_neg (by omega),newLists,newHead,←hdF,←hfF]
      by_cases hs:t.shape=0
      ·simp[hs,fmtText,fmtA]
      ·simp[hs,fmtText,fmtB]
     have hLn:=congrArg List.length hL1
     simp only[List.length_append,List.length_cons] at hLn
     rw[hL1]
     have hdb:dF.length≤100∧∀p∈dF,p.1.toNat < 128∧p.2.toNat < 128:=by subst hdF;split<;>decide
     have hfb:fF.length≤100∧∀p∈fF,p.1.toNat < 128∧p.2.toNat < 128:=by subst hfF;split<;>decide
     refine callA [0] 1 (f168_ok (b:=lb) (dw:=dP z 901) (fm:=fmU 901 h i) (bg:=z.big) (nm:=lineN) (off:=o3+(N - 1)) (post:=(lhC 901 z h i sec st ls 0 [] V t.size 0 t.minInst t.maxOps t.isStmt t.lineBase t.lineRange N (.dat false 1 (intsR (lensOf t))) (.val (.slice none 0 0)) po eo).drop 7) dF (encU 0 t.pad.toNat++(fmtText fF++(encU t.files.length t.pad.toNat++(filesN t 0 t.files++lineOps t)))) hdb.1 hdb.2 (by simp only[List.length_append];omega) (fun σ hσ=>turn_hT z h i sec st ls V t.size 0 t.minInst t.maxOps t.isStmt t.lineBase t.lineRange N (lensOf t) (.val (.slice none 0 0)) po eo (hσ 901 (by decide)) rfl)) ?_;rintro ret os fs ⟨h1,rfl,rfl,rfl⟩;refine sim ?_
     refine rn ?_
     refine callU [0] 0 (f121_ok (o3+(N - 1)+(fmtText dF).length) 0 t.pad.toNat (fmtText fF++(encU t.files.length t.pad.toNat++(filesN t 0 t.files++lineOps t))) (by omega) (by omega) (by omega) (by simp only[List.length_append];omega)) ?_;rintro ret os fs ⟨rfl,rfl,rfl⟩;refine sim ?_
     repeat' first|refine s1 ?_|refine s2 ?_|refine hRegion (sim ?_)|with_reducible refine And.intro ?_ ?_|with_reducible refine fun (_:Outc)=>?_|omega
     rename_i od
     refine hLoop0 ?_
     refine rn ?_
     refine callA [0] 1 (f168_ok (b:=lb) (dw:=dP z 901) (fm:=fmU 901 h i) (bg:=z.big) (nm:=lineN) (off:=o3+(N - 1)+(fmtText dF).length+(encU 0 t.pad.toNat).length) (post:=(lhC 901 z h i sec st ls 0 [] V t.size 0 t.minInst t.maxOps t.isStmt t.lineBase t.lineRange N (.dat false 1 (intsR (lensOf t))) (.buf 341 od.h) po eo).drop 7) fF (encU t.files.length t.pad.toNat++(filesN t 0 t.files++lineOps t)) hfb.1 hfb.2 (by simp only[List.length_append];omega) (fun σ hσ=>turn_hT z h i sec st ls V t.size 0 t.minInst t.maxOps t.isStmt t.lineBase t.lineRange N (lensOf t) (.buf 341 od.h) po eo (hσ 901 (by decide)) (by simp only[AV.turn,rkA,hσ 341 (by decide)]))) ?_;rintro ret os fs ⟨h2,rfl,rfl,rfl⟩;refine sim ?_
     refine rn ?_
     refine callU [0] 0 (f121_ok (o3+(N - 1)+(fmtText dF).length+(encU 0 t.pad.toNat).length+(fmtText fF).length) t.files.length t.pad.toNat (filesN t 0 t.files++lineOps t) (by omega) (by omega) (by omega) (by simp only[List.length_append];omega)) ?_;rintro ret os fs ⟨rfl,rfl,rfl⟩;refine sim ?_
     repeat' first|refine s1 ?_|refine s2 ?_|refine hRegion (sim ?_)|with_reducible refine And.intro ?_ ?_|with_reducible refine fun (_:Outc)=>?_|omega
     rename_i oq
     have hx0:(txN t []).length=0:=by unfold txN;split<;>rfl
     have hx1:(filesN t 0 []).length=0:=rfl
     rw[show List.replicate t.files.length [AV.val (.pointer none)]=filesRw (fillF t.files 0) from by simp[filesRw,fillF,lfP]]
     refine hEnt (eFrz 1373 sT) ?_;refine sim ?_
     refine hLoop (X:={j:Nat // j≤t.files.length}) (fun p=> ⟨[(0,.ref 0 lb 0),(5,.ref 0 lb 0),(8,booV t.wide),(26,.dat false 2 (fmtR fF)),(385,intV t.files.length),(386,intV p.1)],[(0,some (.cells lb 0 ((lhC 901 z h i sec st ls (o3+(N - 1)+(fmtText dF).length+(encU 0 t.pad.toNat).length+(fmtText fF).length+(encU t.files.length t.pad.toNat).length+(filesN t 0 (t.files.take p.1)).length) (filesN t (txN t (t.files.take p.1)).length (t.files.drop p.1)++lineOps t) V t.size 0 t.minInst t.maxOps t.isStmt t.lineBase t.lineRange N (.dat false 1 (intsR (lensOf t))) (.buf 341 od.h) po eo).set 21 (.buf 378 oq.h)))),(901,some (.arr h 216 9 (us.map unitRow))),(378,some (.arr oq.h 293 1 (filesRw (fillF t.files p.1))))]⟩) (fun p=>t.files.length - p.1) ⟨0,by omega⟩ (by (refine simE (And.intro @hx0 @hx1) ?_;try exact trivial);all_goals ((repeat' refine And.intro ?_ ?_)<;>first|rfl|omega|(dsimp only;omega)|(simp;done)|(simp;rfl)|skip)) ?_
     rintro ⟨j,hj⟩
     refine hPostE ?_
     refine sim ?_
     have hsp:=congrArg List.length (filesN_app t (t.files.take j) 0 (t.files.drop j))
     rw[List.take_append_drop,List.length_append,Nat.zero_add] at hsp
     by_cases hlj:j < t.files.length
     ·obtain ⟨f,hfj⟩ :=getX t.files hlj
      have hd:t.files.drop j=f :: t.files.drop (j+1):=by
       obtain ⟨h1,h2⟩ :=List.getElem?_eq_some_iff.1 hfj
       rw[List.drop_eq_getElem_cons h1,h2]
      have ht2:=take_succ hfj
      have hF:=hfiles f (List.mem_of_getElem? hfj)
      have hln:=hF.length
      have wl:=wrap_i64 (n:=f.length) (by omega) (by omega)
      have w4:IntKind.i64.wrap ((j:Int)+1)=((j+1:Nat):Int):=by rw[wrap_i64 (by omega) (by omega)];simp
      have es:=fillF_set hfj
      have el:=fillF_len hj
      have eg5:=fillF_get hlj
      simp only[lfP,strV,u64V,intV] at es
      rw[hd,filesN] at hsp ⊢
      rw[List.append_assoc]
      obtain ⟨a',ha'⟩ :∃a,a=(txN t (t.files.take j)).length:= ⟨_,rfl⟩
      rw[←ha'] at hsp ⊢
      simp only[List.length_append] at hsp
      refine rn ?_
      by_cases hs:t.shape=0
      ·have hfA:fF=fmtA:=by rw[←hfF,if_pos hs]
       subst hfA
       refine callU [0] 0 (f169a_ok (o3+(N - 1)+(fmtText dF).length+(encU 0 t.pad.toNat).length+(fmtText fmtA).length+(encU t.files.length t.pad.toNat).length+(filesN t 0 (t.files.take j)).length) t f a' t.wide (filesN t (a'+(txN t [f]).length) (t.files.drop (j+1))++lineOps t) hs hpad hF (by simp only[List.length_append];omega)) ?_;rintro ret os fs ⟨rfl,rfl,rfl⟩;refine sim ?_
       repeat' first|refine rnE (And.intro @wl (And.intro @w4 (And.intro @el @eg5))) ?_|with_reducible refine fun (_:Outc)=>?_|fail
       refine ⟨_,eFrz 411 (by simp -implicitDefEqProofs only[go_sem,↓reduceIte,Nat.reduceEqDiff,Nat.reduceLT,Nat.reduceLeDiff,Nat.reduceAdd,Nat.reduceSub,Nat.reduceMul,reduceCtorEq,List.reduceReplicate,Nat.reduceBEq,fitR,fitL];exact fitR_set (by rw[fitR_files];trivial) ⟨by exact sT,trivial⟩), ?_⟩
       simp -implicitDefEqProofs only[go_sem,↓reduceIte,Nat.reduceEqDiff,Nat.reduceLT,Nat.reduceLeDiff,Nat.reduceAdd,Nat.reduceSub,Nat.reduceMul,reduceCtorEq,List.reduceReplicate,Nat.reduceBEq,turnR,turnL]
       refine ⟨⟨j+1,by omega⟩, ?_⟩
       simp only[es,ht2,filesN_snoc,txN_snoc,List.length_append,Nat.zero_add,←ha',Nat.add_assoc]
       ((repeat' refine And.intro ?_ ?_)<;>omega)
      ·have hfB:fF=fmtB:=by rw[←hfF,if_neg hs]
       subst hfB
       obtain ⟨rz,hls⟩ :=hls hLn5 hs
       have hlsd:ls.drop a'=f.name++0 :: (txN t (t.files.drop (j+1))++rz):=by
        rw[hls,ha',txN_drop hd,List.append_assoc,List.drop_left,txN,if_neg hs,List.flatMap_cons,txN,if_neg hs];simp
       have hlsa:a'≤ls.length:=by rw[hls,ha',txN_drop hd];simp only[List.length_append];omega
       refine callU [0] 0 (f169b_ok (h:=h) (i:=i) (z:=z) (o3+(N - 1)+(fmtText dF).length+(encU 0 t.pad.toNat).length+(fmtText fmtB).length+(encU t.files.length t.pad.toNat).length+(filesN t 0 (t.files.take j)).length) t f a' (filesN t (a'+(txN t [f]).length) (t.files.drop (j+1))++lineOps t) sec st ls (txN t (t.files.drop (j+1))++rz) hs hzb.symm hF (by simp only[List.length_append];omega) hlsd hlsa (by omega)) ?_;rintro ret os fs ⟨rfl,rfl,rfl⟩;refine sim ?_
       repeat' first|refine rnE (And.intro @wl (And.intro @w4 (And.intro @el @eg5))) ?_|with_reducible refine fun (_:Outc)=>?_|fail
       refine ⟨_,eFrz 411 (by simp -implicitDefEqProofs only[go_sem,↓reduceIte,Nat.reduceEqDiff,Nat.reduceLT,Nat.reduceLeDiff,Nat.reduceAdd,Nat.reduceSub,Nat.reduceMul,reduceCtorEq,List.reduceReplicate,Nat.reduceBEq,fitR,fitL];exact fitR_set (by rw[fitR_files];trivial) ⟨by exact sT,trivial⟩), ?_⟩
       simp -implicitDefEqProofs only[go_sem,↓reduceIte,Nat.reduceEqDiff,Nat.reduceLT,Nat.reduceLeDiff,Nat.reduceAdd,Nat.reduceSub,Nat.reduceMul,reduceCtorEq,List.reduceReplicate,Nat.reduceBEq,turnR,turnL]
       refine ⟨⟨j+1,by omega⟩, ?_⟩
       simp only[es,ht2,filesN_snoc,txN_snoc,List.length_append,Nat.zero_add,←ha',Nat.add_assoc]
       ((repeat' refine And.intro ?_ ?_)<;>omega)
     ·have:j=t.files.length:=by omega
      subst this
      rw[List.take_length,List.drop_length,show filesN t (txN t t.files).length []=[] from rfl,List.nil_append]
      have hfT:fillF t.files t.files.length=filesT t t.files:=by rw[fillF_all,filesT,if_neg (by omega)]
      rw[hfT]
      repeat' first|refine s1 ?_|refine hRegion (sim ?_)|refine hExit (sim ?_)|(refine s7 rfl ?_ ?_<;>intro hb<;>first|(exfalso;omega)|skip)|fail
      refine hEnt (eTops 0 m6 (by refine sim ?_;rfl)) ?_
      refine sim ?_
      refine hEnt (eKey 901 1 sT (by decide)) ?_;refine sim ?_
      refine rn ?_
      simp only[hcx,hN,←hzb]
      refine doneA [(378,2)] ?_;try exact trivial
      exact ⟨_,_,rfl,rfl⟩
end
end Go.Proofs.YtbkfdnkeelmloaaGreatDoor
