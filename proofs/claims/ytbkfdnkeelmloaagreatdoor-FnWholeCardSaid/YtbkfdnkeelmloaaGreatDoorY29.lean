/- Part 29 of the proof: N7 N8 N9 N10 N11 N12 N13 N14. -/
import Derived.Test.YtbkfdnkeelmloaaGreatDoorY25
import Derived.Test.YtbkfdnkeelmloaaGreatDoorY28
set_option linter.unusedVariables false
set_option linter.unusedSimpArgs false
namespace Go.Proofs.YtbkfdnkeelmloaaGreatDoor
set_option maxHeartbeats 4000000
set_option maxRecDepth 10000
open Go.AM Go
structure LineOK (z:DataR) (t:TableD) (pre:Bytes) (e:DEntry):Prop where
 rd:LineRd t
 big:z.big=t.big
 line:z.line=pre++lineText t
 str:t.version=5→t.shape≠0→∃r,z.lineStr=txN t t.files++r
 slen:z.lineStr.length≤1000000000
 front:pre.length≤5000
 len:(lineText t).length≤1500000000
 lst:fldAt e.fields 16=some ⟨16,.int pre.length,6⟩
 dir:∃d,fldAt e.fields 27=some ⟨27,.text d,12⟩
 fields:e.fields.length≤1000
theorem lctx_t (t:TableD) (pre:Bytes) (ini:Nat):(lctx t pre ini).t=t:=rfl
attribute [go_sem] lctx_t
theorem lctx_ops (t:TableD) (pre:Bytes) (ini:Nat):(lctx t pre ini).po≤(lctx t pre ini).eo∧(lctx t pre ini).eo≤(lctx t pre ini).sec.length∧((lctx t pre ini).sec.take (lctx t pre ini).eo).drop (lctx t pre ini).po=lineOps t:=by
 have e:pre++lineText t=(pre++(lenText (lineBody t).length t.wide t.big++linePre t))++lineOps t:=by
  rw[lineText,lenText_eq,lineBody];simp only[List.append_assoc];rfl
 have el:=congrArg List.length e
 have ep:(lctx t pre ini).po=(pre++(lenText (lineBody t).length t.wide t.big++linePre t)).length:=by simp only[lctx,List.length_append];omega
 refine ⟨?_,Nat.le_refl _, ?_⟩
 ·rw[ep];show _≤(pre++lineText t).length;rw[el];simp only[List.length_append];omega
 ·rw[ep];show ((pre++lineText t).take (pre++lineText t).length).drop _=_
  rw[List.take_length,e,List.drop_left]
section
variable {G:Nat→AV} {g:GData} {z:DataR}
theorem f101_ok (hG:GOK G g) (t:TableD) (pre:Bytes) (kz:Nat) (e:DEntry) (hL:LineOK z t pre e) (us:List UnitR) (i:Nat) (u:UnitR) (hu:us[i]? =some u) (hsz:u.size=t.size) (ho:e.off=u.off)
  (hd:0 < u.data.length) (h1:∀k v,us[k]? =some v→k < i→v.off≤e.off) (h2:∀k v,us[k]? =some v→i < k→e.off < v.off) (hn:us.length≤1000) (hl:u.off+u.data.length≤2000000000):
  Fulfils Tryz.prog G 101 [dP z kz,deP e] [.arr z.hU 216 9 (us.map unitRow)]
  (fun ret os fs=>∃lb hf,ret=(fun _=>.tup [.ref 1 lb 0,.val .nilIface])∧os=[some (.arr z.hU 216 9 (us.map unitRow))]∧fs=[some (.cells lb 0 (lrK 2 (lctx t pre (filesT t t.files).length) (m0 t) (selF t t.files 1) false hf (lctx t pre (filesT t t.files).length).po (lineOps t))),some (.arr hf 293 1 (filesRw (filesT t t.files)))]):=by
 have hbig:big=140737488355328:=rfl
 obtain ⟨d,hdir⟩ :=hL.dir
 have e1:=f100_ok (G:=G) e 16 hL.fields
 have e2:=f100_ok (G:=G) e 27 hL.fields
 rw[hL.lst] at e1
 rw[hdir] at e2
 have hi:=(List.getElem?_eq_some_iff.1 hu).1
 have hpl:=hL.front
 have hll:=hL.len
 have e3:=f96_ok (G:=G) z us i u e.off 0 hu (by omega) (by omega) h1 h2 hn hl
 have hzl:=hL.line
 have hdrop:z.line.drop pre.length=lineText t:=by rw[hzl,List.drop_left]
 have hzll:z.line.length=pre.length+(lineText t).length:=by rw[hzl,List.length_append]
 have hdt:(z.line.take (pre.length+(lineText t).length)).drop pre.length=lineText t:=by rw[←hzll,List.take_length,hdrop]
 have hln:(bytesR z.line=[])=False:=by
  refine eq_false fun h=>?_
  have:z.line.length=0:=by simpa [bytesR] using congrArg List.length h
  have:0 < (lineText t).length:=by
   rw[lineText,lenText_eq,List.length_append];unfold lenText;split<;>simp[fixed_len]<;>omega
  omega
 have w1:=wrap_u32 pre.length (by omega)
 have f141:=fun lb=>f141_ok (G:=G) (lb:=lb) (i:=i) (h:=z.hU) (z:=z) (us:=us) hG t hL.rd pre z.str z.lineStr d hu hsz hL.big hL.str hL.slen hpl hll
 simp only[←hzl] at f141
 obtain ⟨hs1,hs2,hs3⟩ :=lctx_ops t pre (filesT t t.files).length
 have hfl:=hL.rd.ok.files
 have f142:=fun lb hf off=>f142_ok (G:=G) (c:=lctx t pre (filesT t t.files).length) (lb:=lb) (hf:=hf) (off:=off) (l:=lineOps t) (mzF t.files) none false (by simp only[mzF];omega) rfl hs1 hs2
 rw[hs3] at f142
 refine dP_any ?_
 refine fulfilA Tryz.f101 [.tmp 4,.tmp 5] 1 ?_
 simp only[Tryz.f101,Option.getD_some,go_sem]
 refine rnE @hln ?_
 refine callP e1 rfl ?_;refine sim ?_
 refine rnE @hzll ?_
 refine callP e2 rfl ?_;refine sim ?_
 refine rn ?_
 refine hRegionD (fun jx _=>if jx=9 then mkC [0] 54 0 [] (e3) else (default,([],[]))) [0,1,2,3,4,5,6,7,8,9,10,11] [0,1,3,7,0,0,32,96,224,496,1023,2047] [(3,9)] mixed (by kernel_rfl) ?_
 refine sim ?_
 (skip);refine callDA ?_;rintro ret os fs ⟨rfl,rfl,rfl⟩;refine sim ?_
 refine rnE (And.intro @w1 (And.intro @hdrop (And.intro @hzll @hdt))) ?_
 refine callP (f94_ok (nm:=lineN) z 0 0 pre.length i z.hU (lineText t)) rfl ?_;refine sim ?_
 repeat' first|refine rn ?_|with_reducible refine fun (_:Outc)=>?_|fail
 refine hRegionD (noChi) [0,1,2,3,4,5,6,7,8,9,10,11,12,13,14,15] [0,0,2,6,14,0,32,96,224,0,512,1536,3584,8191,0,32767] [(0,14),(4,14),(8,14),(12,14),(13,14)] mixed (by kernel_rfl) ?_
 refine sim ?_
 repeat' first|refine rn ?_|with_reducible refine fun (_:Outc)=>?_|fail
 rename_i ox
 refine callA [12,0] 1 (f141 ox.b) ?_;rintro ret os fs ⟨hf,off,rfl,rfl,rfl⟩;refine sim ?_
 refine rn ?_
 refine callA [12,1083] 0 (f142 ox.b hf off) ?_;rintro ret os fs ⟨rfl,rfl,rfl⟩;refine sim ?_
 refine rn ?_
 refine doneA [(12,1),(1083,2)] ?_;try exact trivial
 exact ⟨_,_,rfl,rfl⟩
end
set_option maxHeartbeats 4000000
set_option maxRecDepth 10000
open Go.AM Go
structure StepRd (c:LCtx) (m:MachD) (o:OpD):Prop where
 rd:LineRd c.t
 ok:OpOK c.t o
 op:isOp c.t o=true
 lens:c.lens=lensOf c.t
 line:0≤m.row.line∧m.row.line≤2147483648
 files:m.files.length≤900000
 file:0≤m.file
def fpM (c:LCtx) (m:MachD):Option FileD:=selF c.t m.files m.file
section
variable {G:Nat→AV} {g:GData} {c:LCtx} {lb eb:Nat} {hf:Value} {off:Nat}
theorem f171s_ok (m:MachD) (o:OpD) (hS:StepRd c m o) (hk:o.kind=0) (rest:Bytes) (m1:MachD) (fp1:Option FileD) (e1:Bool) (ho:off+(opText c.t o++rest).length≤2000000000):
  Fulfils Tryz.prog G 171 [.ref 0 lb 0,.ref 2 eb 0] [.cells lb 0 (lrC c m (fpM c m) false hf off (opText c.t o++rest)),.arr hf 293 1 (filesRw (filesT c.t m.files)),.cells eb 0 (stC m1 fp1 e1)]
  (retO (booV true) [some (.cells lb 0 (lrC c (stepM c.t m o) (fpM c (stepM c.t m o)) false hf (off+(opText c.t o).length) rest)),some (.arr hf 293 1 (filesRw (filesT c.t m.files))),
   some (.cells eb 0 (stC (lineM (advM c.t m (IntKind.i64.wrap ((specN c.t o).tdiv c.t.lineRange))) (IntKind.i64.wrap (IntKind.i64.wrap (m.row.line+c.t.lineBase)+(specN c.t o).tmod c.t.lineRange))) (fpM c m) false))]):=by
 have hbig:big=140737488355328:=rfl
 have ht:opText c.t o=[byI o.n]:=by rw[opText,if_pos hk]
 rw[ht]
 have hop:=hS.op
 rw[isOp,if_pos hk,Bool.and_eq_true,decide_eq_true_eq,decide_eq_true_eq] at hop
 have hob:=hS.rd.ok.opcodeBase
 rw[wrap_u64 (by omega) (by omega)] at hop
 have hlr:=hS.rd.lineRange
 have hlb:=hS.rd.lineBase
 have hli:=hS.line
 have hmo:=hS.rd.maxOps
 have wK:IntKind.i64.wrap ((byI o.n).toNat:Int)=o.n:=by
  have:=byI_toNat o.n
  rw[wrap_i64 (by omega) (by omega)];omega
 have wn:IntKind.i64.wrap o.n=o.n:=wrap_i64 (by omega) (by omega)
 have wd:specN c.t o=o.n - c.t.opcodeBase:=by rw[specN,wn,wrap_i64 (by omega) (by omega)]
 obtain ⟨d,hd⟩ :∃d,d=o.n - c.t.opcodeBase:= ⟨_,rfl⟩
 have hd0:0≤d∧d≤255:=by omega
 have wd':IntKind.i64.wrap (o.n - c.t.opcodeBase)=d:=by rw[wrap_i64 (by omega) (by omega),hd]
 rw[wd,←hd]
 obtain ⟨bd,hst⟩ :∃bd,stepM c.t m o={ emitM c.t (lineM (advM c.t m (IntKind.i64.wrap (d.tdiv c.t.lineRange))) (IntKind.i64.wrap (IntKind.i64.wrap (m.row.line+c.t.lineBase)+d.tmod c.t.lineRange))) with bad:=bd }:=
  ⟨(stepM c.t m o).bad,by simp only[stepM,stepA,if_pos hk,wd,hd]⟩
 rw[hst]
 have hrm:0≤d.tmod c.t.lineRange∧d.tmod c.t.lineRange≤255:=by
  have:=Int.tmod_nonneg c.t.lineRange hd0.1
  have:=Int.tmod_lt_of_pos d (b:=c.t.lineRange) (by omega)
  omega
 have wl:IntKind.i64.wrap (m.row.line+IntKind.i64.wrap (c.t.lineBase+d.tmod c.t.lineRange))=IntKind.i64.wrap (IntKind.i64.wrap (m.row.line+c.t.lineBase)+d.tmod c.t.lineRange):=by
  rw[wrap_i64 (n:=c.t.lineBase+d.tmod c.t.lineRange) (by omega) (by omega),wrap_i64 (n:=m.row.line+c.t.lineBase) (by omega) (by omega),Int.add_assoc]
 have f185:=f185_ok (G:=G) (c:=c) (lb:=lb) (hf:=hf) (off:=off+1) (l:=rest) m (fpM c m) false (IntKind.i64.wrap (d.tdiv c.t.lineRange)) (by omega)
 obtain ⟨fp,hfp⟩ :∃fp,fp=fpM c m:= ⟨_,rfl⟩
 have hfp2:∀m':MachD,m'.files=m.files→m'.file=m.file→fpM c m'=fp:=fun m' h1 h2=>by rw[hfp,fpM,fpM,h1,h2]
 rw[←hfp,hfp2 _ (by rfl) (by rfl)]
 rw[←hfp] at f185
 refine fulfilA Tryz.f171 [.tmp 4] 3 ?_
 simp only[Tryz.f171,Option.getD_some,go_sem]
 repeat' first|refine s1 ?_|refine hRegion (sim ?_)|fail
 refine hScope 0 rfl ?_
 refine rn ?_
 refine callU [0] 0 (f132_ok off (byI o.n) rest (by omega)) ?_;rintro ret os fs ⟨rfl,rfl,rfl⟩;refine sim ?_
 refine rnE (And.intro @wK @wd') ?_
 refine callA [0] 0 (f185) ?_;rintro ret os fs ⟨rfl,rfl,rfl⟩;refine sim ?_
 refine rn ?_
 refine hRegionD (noChi) [0,1,2,3,4,5,6,7,8,9,10,11] [0,1,3,7,0,0,32,96,224,496,1023,2047] [] mixed (by kernel_rfl) ?_
 refine simE @wd' ?_
 refine rnE (And.intro @wd' @wl) ?_
 refine hGoto ?_
 refine simE @wl ?_
 refine rnE @wl ?_
 simp only[emitM]
 refine doneA [] ?_;try exact trivial
 first|exact ⟨rfl,rfl,rfl⟩ |exact ⟨rfl,rfl⟩ |rfl|trivial
def stepN (c:LCtx) (lb eb:Nat) (m:MachD) (o:OpD) (off:Nat) (rest:Bytes) (ent:List AV):(Nat→AV)→List (Option AObj)→List (Option AObj)→Prop:=fun ret os fs=>∃hf',ret=(fun _=>booV false)∧
 os=[some (.cells lb 0 (lrC c (stepM c.t m o) (fpM c (stepM c.t m o)) false hf' (off+(opText c.t o).length) rest)),some (.arr hf' 293 1 (filesRw (filesT c.t (stepM c.t m o).files))),some (.cells eb 0 ent)]∧fs=[]
theorem stepM_pos {t:TableD} {m:MachD} {o:OpD} (hk:0 < o.kind):∃bd,stepM t m o={ standM t m o with bad:=bd }:= ⟨(stepM t m o).bad,by
 rw[stepM,stepA,if_neg (by omega),if_pos hk]⟩
theorem std_get {t:TableD} {k:Nat} (h1:1≤k) (h2:k≤12) (hk:(k:Int) < t.opcodeBase):(operands t).getD (((k:Nat):Int) - 1).toNat 0=stdOps.getD (k - 1) 0:=by
 have e:(((k:Nat):Int) - 1).toNat=k - 1:=by omega
 unfold operands
 rw[e,List.getD_eq_getElem?_getD,List.getElem?_append_left (by simp[stdOps];omega),List.getElem?_take_of_lt (by omega)];rfl
theorem one_op {m:MachD} {o:OpD} (hS:StepRd c m o) (k:Nat) (hk:o.kind=k) (h1:1≤k) (h2:k≤12) (h3:k≠3) (h9:k≠9):∃n:Nat,o.n=n∧n≤2147483648∧IntKind.i64.wrap (o.n.tmod 2147483649)=n∧(k:Int) < c.t.opcodeBase∧
  opText c.t o=UInt8.ofNat k :: (List.replicate (stdOps.getD (k - 1) 0).toNat (encU n c.t.pad.toNat)).flatten∧(encU n c.t.pad.toNat).length≤13:=by
 have hop:=hS.op
 rw[isOp,if_neg (by omega),if_neg (by omega),if_neg (by omega),if_pos (by omega)] at hop
 simp only[Bool.and_eq_true,decide_eq_true_eq] at hop
 have hon:=hS.ok.n
 have hpad:=hS.rd.ok.pad
 obtain ⟨n,hn⟩ :∃n:Nat,o.n=n:= ⟨o.n.toNat,by omega⟩
 refine ⟨n,hn,by omega, ?_,by omega, ?_, ?_⟩
 ·rw[hn,Int.tmod_eq_of_lt (by omega) (by omega),wrap_i64 (by omega) (by omega)]
 ·rw[opText,if_neg (by omega),if_neg (by omega),if_neg (by omega),if_pos (by omega),hk,std_get h1 h2 (by omega),hn,byI_nat];rfl
 ·have:=encU_len c.t.pad.toNat (n:=n) (by omega);omega
end
set_option maxHeartbeats 4000000
set_option maxRecDepth 10000
open Go.AM Go
section
variable {G:Nat→AV} {g:GData} {c:LCtx} {lb eb:Nat} {hf:Value} {off:Nat}
theorem f171k2_ok (m:MachD) (o:OpD) (hS:StepRd c m o) (hk:o.kind=2) (rest:Bytes) (m1:MachD) (fp1:Option FileD) (e1:Bool) (ho:off+(opText c.t o++rest).length≤2000000000):
  Fulfils Tryz.prog G 171 [.ref 0 lb 0,.ref 2 eb 0] [.cells lb 0 (lrC c m (fpM c m) false hf off (opText c.t o++rest)),.arr hf 293 1 (filesRw (filesT c.t m.files)),.cells eb 0 (stC m1 fp1 e1)]
  (stepN c lb eb m o off rest (stC m1 fp1 e1)):=by
 have hbig:big=140737488355328:=rfl
 have hmo:=hS.rd.maxOps
 have hlr:=hS.rd.lineRange
 have hpad:=hS.rd.ok.pad
 have hob:=hS.rd.ok.opcodeBase
 have hfl:=hS.files
 obtain ⟨n,hn,hn2,wt,hkb,ht,hln⟩ :=one_op hS 2 hk (by omega) (by omega) (by omega) (by omega)
 have wn:IntKind.i64.wrap (n:Int)=n:=wrap_i64 (by omega) (by omega)
 replace ht:opText c.t o=2 :: encU n c.t.pad.toNat:=by rw[ht];simp[stdOps]
 have htl:=congrArg List.length ht
 rw[List.length_cons] at htl
 rw[List.length_append] at ho
 obtain ⟨bd,hst⟩ :=stepM_pos (t:=c.t) (m:=m) (o:=o) (by omega)
 have hst2:standM c.t m o={ advM c.t m n with bad:=(standM c.t m o).bad }:=by simp[standM,hk,wt,advM]
 unfold stepN
 rw[hst,hst2]
 obtain ⟨fp,hfp⟩ :∃fp,fp=fpM c m:= ⟨_,rfl⟩
 have hfp2:∀m':MachD,m'.files=m.files→m'.file=m.file→fpM c m'=fp:=fun m' h1 h2=>by rw[hfp,fpM,fpM,h1,h2]
 rw[←hfp,hfp2 _ (by rfl) (by rfl),ht]
 have hof:off+(2 :: encU n c.t.pad.toNat).length=off+1+(encU n c.t.pad.toNat).length:=by rw[List.length_cons];omega
 rw[hof]
 have wK:IntKind.i64.wrap (((2:UInt8).toNat:Nat):Int)=2:=rfl
 refine fulfilA Tryz.f171 [.tmp 4] 3 ?_
 simp only[Tryz.f171,Option.getD_some,go_sem]
 repeat' first|refine s1 ?_|refine hRegion (sim ?_)|fail
 refine hScope 0 rfl ?_
 refine rn ?_
 refine callU [0] 0 (f132_ok off 2 (encU n c.t.pad.toNat++rest) (by omega)) ?_;rintro ret os fs ⟨rfl,rfl,rfl⟩;refine sim ?_
 refine simE @wK ?_
 refine rnE @wK ?_
 refine callU [0] 0 (f121_ok (off+1) n c.t.pad.toNat rest (by omega) (by omega) (by omega) (by omega)) ?_;rintro ret os fs ⟨rfl,rfl,rfl⟩;refine sim ?_
 refine simE @wn ?_
 skip
 refine callA [0] 0 (f185_ok (c:=c) (lb:=lb) (hf:=hf) (off:=off+1+(encU n c.t.pad.toNat).length) (l:=rest) m fp false n (by omega)) ?_;rintro ret os fs ⟨rfl,rfl,rfl⟩;refine sim ?_
 refine rn ?_
 refine doneA [] ?_;try exact trivial
 exact ⟨_,rfl⟩
theorem f171k4_ok (m:MachD) (o:OpD) (hS:StepRd c m o) (hk:o.kind=4) (rest:Bytes) (m1:MachD) (fp1:Option FileD) (e1:Bool) (ho:off+(opText c.t o++rest).length≤2000000000):
  Fulfils Tryz.prog G 171 [.ref 0 lb 0,.ref 2 eb 0] [.cells lb 0 (lrC c m (fpM c m) false hf off (opText c.t o++rest)),.arr hf 293 1 (filesRw (filesT c.t m.files)),.cells eb 0 (stC m1 fp1 e1)]
  (stepN c lb eb m o off rest (stC m1 fp1 e1)):=by
 have hbig:big=140737488355328:=rfl
 have hmo:=hS.rd.maxOps
 have hlr:=hS.rd.lineRange
 have hpad:=hS.rd.ok.pad
 have hob:=hS.rd.ok.opcodeBase
 have hfl:=hS.files
 obtain ⟨n,hn,hn2,wt,hkb,ht,hln⟩ :=one_op hS 4 hk (by omega) (by omega) (by omega) (by omega)
 have wn:IntKind.i64.wrap (n:Int)=n:=wrap_i64 (by omega) (by omega)
 replace ht:opText c.t o=4 :: encU n c.t.pad.toNat:=by rw[ht];simp[stdOps]
 have htl:=congrArg List.length ht
 rw[List.length_cons] at htl
 rw[List.length_append] at ho
 obtain ⟨bd,hst⟩ :=stepM_pos (t:=c.t) (m:=m) (o:=o) (by omega)
 have hst2:standM c.t m o={ { m with file:=n } with bad:=(standM c.t m o).bad }:=by simp[standM,hk,wt,advM]
 unfold stepN
 rw[hst,hst2]
 obtain ⟨fp,hfp⟩ :∃fp,fp=fpM c m:= ⟨_,rfl⟩
 have hfp2:∀m':MachD,m'.files=m.files→m'.file=m.file→fpM c m'=fp:=fun m' h1 h2=>by rw[hfp,fpM,fpM,h1,h2]
 rw[←hfp,ht]
 have hof:off+(4 :: encU n c.t.pad.toNat).length=off+1+(encU n c.t.pad.toNat).length:=by rw[List.length_cons];omega
 rw[hof]
 have wK:IntKind.i64.wrap (((4:UInt8).toNat:Nat):Int)=4:=rfl
 refine fulfilA Tryz.f171 [.tmp 4] 3 ?_
 simp only[Tryz.f171,Option.getD_some,go_sem]
 repeat' first|refine s1 ?_|refine hRegion (sim ?_)|fail
 refine hScope 0 rfl ?_
 refine rn ?_
 refine callU [0] 0 (f132_ok off 4 (encU n c.t.pad.toNat++rest) (by omega)) ?_;rintro ret os fs ⟨rfl,rfl,rfl⟩;refine sim ?_
 refine simE @wK ?_
 refine rnE @wK ?_
 refine callU [0] 0 (f121_ok (off+1) n c.t.pad.toNat rest (by omega) (by omega) (by omega) (by omega)) ?_;rintro ret os fs ⟨rfl,rfl,rfl⟩;refine sim ?_
 refine simE @wn ?_
 refine rnE @wn ?_
 refine callA [0,1] 0 (f184_ok (c:=c) (lb:=lb) (hf:=hf) (off:=off+1+(encU n c.t.pad.toNat).length) (l:=rest) { m with file:=n } fp false (by dsimp only;omega) (by dsimp only;omega)) ?_;rintro ret os fs ⟨rfl,rfl,rfl⟩;refine sim ?_
 refine rn ?_
 refine doneA [] ?_;try exact trivial
 exact ⟨_,rfl⟩
theorem f171k5_ok (m:MachD) (o:OpD) (hS:StepRd c m o) (hk:o.kind=5) (rest:Bytes) (m1:MachD) (fp1:Option FileD) (e1:Bool) (ho:off+(opText c.t o++rest).length≤2000000000):
  Fulfils Tryz.prog G 171 [.ref 0 lb 0,.ref 2 eb 0] [.cells lb 0 (lrC c m (fpM c m) false hf off (opText c.t o++rest)),.arr hf 293 1 (filesRw (filesT c.t m.files)),.cells eb 0 (stC m1 fp1 e1)]
  (stepN c lb eb m o off rest (stC m1 fp1 e1)):=by
 have hbig:big=140737488355328:=rfl
 have hmo:=hS.rd.maxOps
 have hlr:=hS.rd.lineRange
 have hpad:=hS.rd.ok.pad
 have hob:=hS.rd.ok.opcodeBase
 have hfl:=hS.files
 obtain ⟨n,hn,hn2,wt,hkb,ht,hln⟩ :=one_op hS 5 hk (by omega) (by omega) (by omega) (by omega)
 have wn:IntKind.i64.wrap (n:Int)=n:=wrap_i64 (by omega) (by omega)
 replace ht:opText c.t o=5 :: encU n c.t.pad.toNat:=by rw[ht];simp[stdOps]
 have htl:=congrArg List.length ht
 rw[List.length_cons] at htl
 rw[List.length_append] at ho
 obtain ⟨bd,hst⟩ :=stepM_pos (t:=c.t) (m:=m) (o:=o) (by omega)
 have hst2:standM c.t m o={ { m with row:={ m.row with column:=n } } with bad:=(standM c.t m o).bad }:=by simp[standM,hk,wt,advM]
 unfold stepN
 rw[hst,hst2]
 obtain ⟨fp,hfp⟩ :∃fp,fp=fpM c m:= ⟨_,rfl⟩
 have hfp2:∀m':MachD,m'.files=m.files→m'.file=m.file→fpM c m'=fp:=fun m' h1 h2=>by rw[hfp,fpM,fpM,h1,h2]
 rw[←hfp,hfp2 _ (by rfl) (by rfl),ht]
 have hof:off+(5 :: encU n c.t.pad.toNat).length=off+1+(encU n c.t.pad.toNat).length:=by rw[List.length_cons];omega
 rw[hof]
 have wK:IntKind.i64.wrap (((5:UInt8).toNat:Nat):Int)=5:=rfl
 refine fulfilA Tryz.f171 [.tmp 4] 3 ?_
 simp only[Tryz.f171,Option.getD_some,go_sem]
 repeat' first|refine s1 ?_|refine hRegion (sim ?_)|fail
 refine hScope 0 rfl ?_
 refine rn ?_
 refine callU [0] 0 (f132_ok off 5 (encU n c.t.pad.toNat++rest) (by omega)) ?_;rintro ret os fs ⟨rfl,rfl,rfl⟩;refine sim ?_
 refine simE @wK ?_
 refine rnE @wK ?_
 refine callU [0] 0 (f121_ok (off+1) n c.t.pad.toNat rest (by omega) (by omega) (by omega) (by omega)) ?_;rintro ret os fs ⟨rfl,rfl,rfl⟩;refine sim ?_
 refine simE @wn ?_
 refine rnE @wn ?_
 refine doneA [] ?_;try exact trivial
 exact ⟨_,rfl⟩
theorem f171k6_ok (m:MachD) (o:OpD) (hS:StepRd c m o) (hk:o.kind=6) (rest:Bytes) (m1:MachD) (fp1:Option FileD) (e1:Bool) (ho:off+(opText c.t o++rest).length≤2000000000):
  Fulfils Tryz.prog G 171 [.ref 0 lb 0,.ref 2 eb 0] [.cells lb 0 (lrC c m (fpM c m) false hf off (opText c.t o++rest)),.arr hf 293 1 (filesRw (filesT c.t m.files)),.cells eb 0 (stC m1 fp1 e1)]
  (stepN c lb eb m o off rest (stC m1 fp1 e1)):=by
 have hbig:big=140737488355328:=rfl
 have hmo:=hS.rd.maxOps
 have hlr:=hS.rd.lineRange
 have hpad:=hS.rd.ok.pad
 have hob:=hS.rd.ok.opcodeBase
 have hfl:=hS.files
 obtain ⟨n,hn,hn2,wt,hkb,ht,hln⟩ :=one_op hS 6 hk (by omega) (by omega) (by omega) (by omega)
 have wn:IntKind.i64.wrap (n:Int)=n:=wrap_i64 (by omega) (by omega)
 replace ht:opText c.t o=6 :: []:=by rw[ht];simp[stdOps]
 have htl:=congrArg List.length ht
 rw[List.length_cons] at htl
 rw[List.length_append] at ho
 obtain ⟨bd,hst⟩ :=stepM_pos (t:=c.t) (m:=m) (o:=o) (by omega)
 have hst2:standM c.t m o={ { m with row:={ m.row with isStmt:=!m.row.isStmt } } with bad:=(standM c.t m o).bad }:=by simp[standM,hk,wt,advM]
 unfold stepN
 rw[hst,hst2]
 obtain ⟨fp,hfp⟩ :∃fp,fp=fpM c m:= ⟨_,rfl⟩
 have hfp2:∀m':MachD,m'.files=m.files→m'.file=m.file→fpM c m'=fp:=fun m' h1 h2=>by rw[hfp,fpM,fpM,h1,h2]
 rw[←hfp,hfp2 _ (by rfl) (by rfl),ht]
 have wK:IntKind.i64.wrap (((6:UInt8).toNat:Nat):Int)=6:=rfl
 refine fulfilA Tryz.f171 [.tmp 4] 3 ?_
 simp only[Tryz.f171,Option.getD_some,go_sem]
 repeat' first|refine s1 ?_|refine hRegion (sim ?_)|fail
 refine hScope 0 rfl ?_
 refine rn ?_
 refine callU [0] 0 (f132_ok off 6 (rest) (by omega)) ?_;rintro ret os fs ⟨rfl,rfl,rfl⟩;refine sim ?_
 refine simE @wK ?_
 refine rnE @wK ?_
 refine doneA [] ?_;try exact trivial
 exact ⟨_,rfl⟩
theorem f171k7_ok (m:MachD) (o:OpD) (hS:StepRd c m o) (hk:o.kind=7) (rest:Bytes) (m1:MachD) (fp1:Option FileD) (e1:Bool) (ho:off+(opText c.t o++rest).length≤2000000000):
  Fulfils Tryz.prog G 171 [.ref 0 lb 0,.ref 2 eb 0] [.cells lb 0 (lrC c m (fpM c m) false hf off (opText c.t o++rest)),.arr hf 293 1 (filesRw (filesT c.t m.files)),.cells eb 0 (stC m1 fp1 e1)]
  (stepN c lb eb m o off rest (stC m1 fp1 e1)):=by
 have hbig:big=140737488355328:=rfl
 have hmo:=hS.rd.maxOps
 have hlr:=hS.rd.lineRange
 have hpad:=hS.rd.ok.pad
 have hob:=hS.rd.ok.opcodeBase
 have hfl:=hS.files
 obtain ⟨n,hn,hn2,wt,hkb,ht,hln⟩ :=one_op hS 7 hk (by omega) (by omega) (by omega) (by omega)
 have wn:IntKind.i64.wrap (n:Int)=n:=wrap_i64 (by omega) (by omega)
 replace ht:opText c.t o=7 :: []:=by rw[ht];simp[stdOps]
 have htl:=congrArg List.length ht
 rw[List.length_cons] at htl
 rw[List.length_append] at ho
 obtain ⟨bd,hst⟩ :=stepM_pos (t:=c.t) (m:=m) (o:=o) (by omega)
 have hst2:standM c.t m o={ { m with row:={ m.row with basic:=true } } with bad:=(standM c.t m o).bad }:=by simp[standM,hk,wt,advM]
 unfold stepN
 rw[hst,hst2]
 obtain ⟨fp,hfp⟩ :∃fp,fp=fpM c m:= ⟨_,rfl⟩
 have hfp2:∀m':MachD,m'.files=m.files→m'.file=m.file→fpM c m'=fp:=fun m' h1 h2=>by rw[hfp,fpM,fpM,h1,h2]
 rw[←hfp,hfp2 _ (by rfl) (by rfl),ht]
 have wK:IntKind.i64.wrap (((7:UInt8).toNat:Nat):Int)=7:=rfl
 refine fulfilA Tryz.f171 [.tmp 4] 3 ?_
 simp only[Tryz.f171,Option.getD_some,go_sem]
 repeat' first|refine s1 ?_|refine hRegion (sim ?_)|fail
 refine hScope 0 rfl ?_
 refine rn ?_
 refine callU [0] 0 (f132_ok off 7 (rest) (by omega)) ?_;rintro ret os fs ⟨rfl,rfl,rfl⟩;refine sim ?_
 refine simE @wK ?_
 refine rnE @wK ?_
 refine doneA [] ?_;try exact trivial
 exact ⟨_,rfl⟩
theorem f171k8_ok (m:MachD) (o:OpD) (hS:StepRd c m o) (hk:o.kind=8) (rest:Bytes) (m1:MachD) (fp1:Option FileD) (e1:Bool) (ho:off+(opText c.t o++rest).length≤2000000000):
  Fulfils Tryz.prog G 171 [.ref 0 lb 0,.ref 2 eb 0] [.cells lb 0 (lrC c m (fpM c m) false hf off (opText c.t o++rest)),.arr hf 293 1 (filesRw (filesT c.t m.files)),.cells eb 0 (stC m1 fp1 e1)]
  (stepN c lb eb m o off rest (stC m1 fp1 e1)):=by
 have hbig:big=140737488355328:=rfl
 have hmo:=hS.rd.maxOps
 have hlr:=hS.rd.lineRange
 have hpad:=hS.rd.ok.pad
 have hob:=hS.rd.ok.opcodeBase
 have hfl:=hS.files
 obtain ⟨n,hn,hn2,wt,hkb,ht,hln⟩ :=one_op hS 8 hk (by omega) (by omega) (by omega) (by omega)
 have wn:IntKind.i64.wrap (n:Int)=n:=wrap_i64 (by omega) (by omega)
 replace ht:opText c.t o=8 :: []:=by rw[ht];simp[stdOps]
 have htl:=congrArg List.length ht
 rw[List.length_cons] at htl
 rw[List.length_append] at ho
 obtain ⟨bd,hst⟩ :=stepM_pos (t:=c.t) (m:=m) (o:=o) (by omega)
 have hst2:standM c.t m o={ advM c.t m (IntKind.i64.wrap ((IntKind.i64.wrap (255 - c.t.opcodeBase)).tdiv c.t.lineRange)) with bad:=(standM c.t m o).bad }:=by simp[standM,hk,wt,advM]
 unfold stepN
 rw[hst,hst2]
 obtain ⟨fp,hfp⟩ :∃fp,fp=fpM c m:= ⟨_,rfl⟩
 have hfp2:∀m':MachD,m'.files=m.files→m'.file=m.file→fpM c m'=fp:=fun m' h1 h2=>by rw[hfp,fpM,fpM,h1,h2]
 rw[←hfp,hfp2 _ (by rfl) (by rfl),ht]
 have wK:IntKind.i64.wrap (((8:UInt8).toNat:Nat):Int)=8:=rfl
 have f185:=f185_ok (G:=G) (c:=c) (lb:=lb) (hf:=hf) (off:=off+1) (l:=rest) m fp false (IntKind.i64.wrap ((IntKind.i64.wrap (255 - c.t.opcodeBase)).tdiv c.t.lineRange)) (by omega)
 refine fulfilA Tryz.f171 [.tmp 4] 3 ?_
 simp only[Tryz.f171,Option.getD_some,go_sem]
 repeat' first|refine s1 ?_|refine hRegion (sim ?_)|fail
 refine hScope 0 rfl ?_
 refine rn ?_
 refine callU [0] 0 (f132_ok off 8 (rest) (by omega)) ?_;rintro ret os fs ⟨rfl,rfl,rfl⟩;refine sim ?_
 refine simE @wK ?_
 refine rnE @wK ?_
 refine hRegionD (fun jx _=>if jx=11 then mkC [0] 291 0 [] (f185) else (default,([],[]))) [0,1,2,3,4,5,6,7,8,9,10,11] [0,0,2,6,14,30,0,64,192,448,1022,2047] [] mixed (by kernel_rfl) ?_
 refine sim ?_
 (refine rn ?_);refine callDA ?_;rintro ret os fs ⟨rfl,rfl,rfl⟩;refine sim ?_
 refine rn ?_
 refine doneA [] ?_;try exact trivial
 exact ⟨_,rfl⟩
theorem f171k10_ok (m:MachD) (o:OpD) (hS:StepRd c m o) (hk:o.kind=10) (rest:Bytes) (m1:MachD) (fp1:Option FileD) (e1:Bool) (ho:off+(opText c.t o++rest).length≤2000000000):
  Fulfils Tryz.prog G 171 [.ref 0 lb 0,.ref 2 eb 0] [.cells lb 0 (lrC c m (fpM c m) false hf off (opText c.t o++rest)),.arr hf 293 1 (filesRw (filesT c.t m.files)),.cells eb 0 (stC m1 fp1 e1)]
  (stepN c lb eb m o off rest (stC m1 fp1 e1)):=by
 have hbig:big=140737488355328:=rfl
 have hmo:=hS.rd.maxOps
 have hlr:=hS.rd.lineRange
 have hpad:=hS.rd.ok.pad
 have hob:=hS.rd.ok.opcodeBase
 have hfl:=hS.files
 obtain ⟨n,hn,hn2,wt,hkb,ht,hln⟩ :=one_op hS 10 hk (by omega) (by omega) (by omega) (by omega)
 have wn:IntKind.i64.wrap (n:Int)=n:=wrap_i64 (by omega) (by omega)
 replace ht:opText c.t o=10 :: []:=by rw[ht];simp[stdOps]
 have htl:=congrArg List.length ht
 rw[List.length_cons] at htl
 rw[List.length_append] at ho
 obtain ⟨bd,hst⟩ :=stepM_pos (t:=c.t) (m:=m) (o:=o) (by omega)
 have hst2:standM c.t m o={ { m with row:={ m.row with pro:=true } } with bad:=(standM c.t m o).bad }:=by simp[standM,hk,wt,advM]
 unfold stepN
 rw[hst,hst2]
 obtain ⟨fp,hfp⟩ :∃fp,fp=fpM c m:= ⟨_,rfl⟩
 have hfp2:∀m':MachD,m'.files=m.files→m'.file=m.file→fpM c m'=fp:=fun m' h1 h2=>by rw[hfp,fpM,fpM,h1,h2]
 rw[←hfp,hfp2 _ (by rfl) (by rfl),ht]
 have wK:IntKind.i64.wrap (((10:UInt8).toNat:Nat):Int)=10:=rfl
 refine fulfilA Tryz.f171 [.tmp 4] 3 ?_
 simp only[Tryz.f171,Option.getD_some,go_sem]
 repeat' first|refine s1 ?_|refine hRegion (sim ?_)|fail
 refine hScope 0 rfl ?_
 refine rn ?_
 refine callU [0] 0 (f132_ok off 10 (rest) (by omega)) ?_;rintro ret os fs ⟨rfl,rfl,rfl⟩;refine sim ?_
 refine simE @wK ?_
 refine rnE @wK ?_
 refine doneA [] ?_;try exact trivial
 exact ⟨_,rfl⟩
theorem f171k11_ok (m:MachD) (o:OpD) (hS:StepRd c m o) (hk:o.kind=11) (rest:Bytes) (m1:MachD) (fp1:Option FileD) (e1:Bool) (ho:off+(opText c.t o++rest).length≤2000000000):
  Fulfils Tryz.prog G 171 [.ref 0 lb 0,.ref 2 eb 0] [.cells lb 0 (lrC c m (fpM c m) false hf off (opText c.t o++rest)),.arr hf 293 1 (filesRw (filesT c.t m.files)),.cells eb 0 (stC m1 fp1 e1)]
  (stepN c lb eb m o off rest (stC m1 fp1 e1)):=by
 have hbig:big=140737488355328:=rfl
 have hmo:=hS.rd.maxOps
 have hlr:=hS.rd.lineRange
 have hpad:=hS.rd.ok.pad
 have hob:=hS.rd.ok.opcodeBase
 have hfl:=hS.files
 obtain ⟨n,hn,hn2,wt,hkb,ht,hln⟩ :=one_op hS 11 hk (by omega) (by omega) (by omega) (by omega)
 have wn:IntKind.i64.wrap (n:Int)=n:=wrap_i64 (by omega) (by omega)
 replace ht:opText c.t o=11 :: []:=by rw[ht];simp[stdOps]
 have htl:=congrArg List.length ht
 rw[List.length_cons] at htl
 rw[List.length_append] at ho
 obtain ⟨bd,hst⟩ :=stepM_pos (t:=c.t) (m:=m) (o:=o) (by omega)
 have hst2:standM c.t m o={ { m with row:={ m.row with epi:=true } } with bad:=(standM c.t m o).bad }:=by simp[standM,hk,wt,advM]
 unfold stepN
 rw[hst,hst2]
 obtain ⟨fp,hfp⟩ :∃fp,fp=fpM c m:= ⟨_,rfl⟩
 have hfp2:∀m':MachD,m'.files=m.files→m'.file=m.file→fpM c m'=fp:=fun m' h1 h2=>by rw[hfp,fpM,fpM,h1,h2]
 rw[←hfp,hfp2 _ (by rfl) (by rfl),ht]
 have wK:IntKind.i64.wrap (((11:UInt8).toNat:Nat):Int)=11:=rfl
 refine fulfilA Tryz.f171 [.tmp 4] 3 ?_
 simp only[Tryz.f171,Option.getD_some,go_sem]
 repeat' first|refine s1 ?_|refine hRegion (sim ?_)|fail
 refine hScope 0 rfl ?_
 refine rn ?_
 refine callU [0] 0 (f132_ok off 11 (rest) (by omega)) ?_;rintro ret os fs ⟨rfl,rfl,rfl⟩;refine sim ?_
 refine simE @wK ?_
 refine rnE @wK ?_
 refine doneA [] ?_;try exact trivial
 exact ⟨_,rfl⟩
theorem f171k12_ok (m:MachD) (o:OpD) (hS:StepRd c m o) (hk:o.kind=12) (rest:Bytes) (m1:MachD) (fp1:Option FileD) (e1:Bool) (ho:off+(opText c.t o++rest).length≤2000000000):
  Fulfils Tryz.prog G 171 [.ref 0 lb 0,.ref 2 eb 0] [.cells lb 0 (lrC c m (fpM c m) false hf off (opText c.t o++rest)),.arr hf 293 1 (filesRw (filesT c.t m.files)),.cells eb 0 (stC m1 fp1 e1)]
  (stepN c lb eb m o off rest (stC m1 fp1 e1)):=by
 have hbig:big=140737488355328:=rfl
 have hmo:=hS.rd.maxOps
 have hlr:=hS.rd.lineRange
 have hpad:=hS.rd.ok.pad
 have hob:=hS.rd.ok.opcodeBase
 have hfl:=hS.files
 obtain ⟨n,hn,hn2,wt,hkb,ht,hln⟩ :=one_op hS 12 hk (by omega) (by omega) (by omega) (by omega)
 have wn:IntKind.i64.wrap (n:Int)=n:=wrap_i64 (by omega) (by omega)
 replace ht:opText c.t o=12 :: encU n c.t.pad.toNat:=by rw[ht];simp[stdOps]
 have htl:=congrArg List.length ht
 rw[List.length_cons] at htl
 rw[List.length_append] at ho
 obtain ⟨bd,hst⟩ :=stepM_pos (t:=c.t) (m:=m) (o:=o) (by omega)
 have hst2:standM c.t m o={ { m with row:={ m.row with isa:=n } } with bad:=(standM c.t m o).bad }:=by simp[standM,hk,wt,advM]
 unfold stepN
 rw[hst,hst2]
 obtain ⟨fp,hfp⟩ :∃fp,fp=fpM c m:= ⟨_,rfl⟩
 have hfp2:∀m':MachD,m'.files=m.files→m'.file=m.file→fpM c m'=fp:=fun m' h1 h2=>by rw[hfp,fpM,fpM,h1,h2]
 rw[←hfp,hfp2 _ (by rfl) (by rfl),ht]
 have hof:off+(12 :: encU n c.t.pad.toNat).length=off+1+(encU n c.t.pad.toNat).length:=by rw[List.length_cons];omega
 rw[hof]
 have wK:IntKind.i64.wrap (((12:UInt8).toNat:Nat):Int)=12:=rfl
 refine fulfilA Tryz.f171 [.tmp 4] 3 ?_
 simp only[Tryz.f171,Option.getD_some,go_sem]
 repeat' first|refine s1 ?_|refine hRegion (sim ?_)|fail
 refine hScope 0 rfl ?_
 refine rn ?_
 refine callU [0] 0 (f132_ok off 12 (encU n c.t.pad.toNat++rest) (by omega)) ?_;rintro ret os fs ⟨rfl,rfl,rfl⟩;refine sim ?_
 refine simE @wK ?_
 refine rnE @wK ?_
 refine callU [0] 0 (f121_ok (off+1) n c.t.pad.toNat rest (by omega) (by omega) (by omega) (by omega)) ?_;rintro ret os fs ⟨rfl,rfl,rfl⟩;refine sim ?_
 refine simE @wn ?_
 refine rnE @wn ?_
 refine doneA [] ?_;try exact trivial
 exact ⟨_,rfl⟩
end
set_option maxHeartbeats 4000000
set_option maxRecDepth 10000
open Go.AM Go
section
variable {G:Nat→AV} {g:GData} {c:LCtx} {lb eb:Nat} {hf:Value} {off:Nat}
theorem f171k1_ok (m:MachD) (o:OpD) (hS:StepRd c m o) (hk:o.kind=1) (rest:Bytes) (m1:MachD) (fp1:Option FileD) (e1:Bool) (ho:off+(opText c.t o++rest).length≤2000000000):
  Fulfils Tryz.prog G 171 [.ref 0 lb 0,.ref 2 eb 0] [.cells lb 0 (lrC c m (fpM c m) false hf off (opText c.t o++rest)),.arr hf 293 1 (filesRw (filesT c.t m.files)),.cells eb 0 (stC m1 fp1 e1)]
  (retO (booV true) [some (.cells lb 0 (lrC c (stepM c.t m o) (fpM c (stepM c.t m o)) false hf (off+(opText c.t o).length) rest)),some (.arr hf 293 1 (filesRw (filesT c.t m.files))),some (.cells eb 0 (stC m (fpM c m) false))]):=by
 have hbig:big=140737488355328:=rfl
 have hob:=hS.rd.ok.opcodeBase
 obtain ⟨n,hn,hn2,wt,hkb,ht,hln⟩ :=one_op hS 1 hk (by omega) (by omega) (by omega) (by omega)
 replace ht:opText c.t o=[1]:=by rw[ht];simp[stdOps]
 rw[List.length_append] at ho
 have htl:=congrArg List.length ht
 rw[List.length_cons] at htl
 obtain ⟨bd,hst⟩ :=stepM_pos (t:=c.t) (m:=m) (o:=o) (by omega)
 have hst2:standM c.t m o={ emitM c.t { m with bad:=m.bad || (o.kind == 9 && m.row.opIndex != 0) } with bad:=(standM c.t m o).bad }:=by simp[standM,hk]
 rw[hst,hst2]
 obtain ⟨fp,hfp⟩ :∃fp,fp=fpM c m:= ⟨_,rfl⟩
 have hfp2:∀m':MachD,m'.files=m.files→m'.file=m.file→fpM c m'=fp:=fun m' h1 h2=>by rw[hfp,fpM,fpM,h1,h2]
 rw[←hfp,hfp2 _ (by rfl) (by rfl),ht]
 have wK:IntKind.i64.wrap (((1:UInt8).toNat:Nat):Int)=1:=rfl
 refine fulfilA Tryz.f171 [.tmp 4] 3 ?_
 simp only[Tryz.f171,Option.getD_some,go_sem]
 repeat' first|refine s1 ?_|refine hRegion (sim ?_)|fail
 refine hScope 0 rfl ?_
 refine rn ?_
 refine callU [0] 0 (f132_ok off 1 rest (by omega)) ?_;rintro ret os fs ⟨rfl,rfl,rfl⟩;refine sim ?_
 refine simE @wK ?_
 refine rnE @wK ?_
 refine hGoto ?_
 refine sim ?_
 refine rn ?_
 simp only[emitM]
 refine doneA [] ?_;try exact trivial
 first|exact ⟨rfl,rfl,rfl⟩ |exact ⟨rfl,rfl⟩ |rfl|trivial
theorem f171k3_ok (m:MachD) (o:OpD) (hS:StepRd c m o) (hk:o.kind=3) (rest:Bytes) (m1:MachD) (fp1:Option FileD) (e1:Bool) (ho:off+(opText c.t o++rest).length≤2000000000):
  Fulfils Tryz.prog G 171 [.ref 0 lb 0,.ref 2 eb 0] [.cells lb 0 (lrC c m (fpM c m) false hf off (opText c.t o++rest)),.arr hf 293 1 (filesRw (filesT c.t m.files)),.cells eb 0 (stC m1 fp1 e1)]
  (stepN c lb eb m o off rest (stC m1 fp1 e1)):=by
 have hbig:big=140737488355328:=rfl
 have hop:=hS.op
 rw[isOp,if_neg (by omega),if_pos hk] at hop
 simp only[Bool.and_eq_true,decide_eq_true_eq] at hop
 have hom:=hS.ok.m
 have hpad:=hS.rd.ok.pad
 have ht:opText c.t o=3 :: encS o.m c.t.pad.toNat:=by rw[opText,if_neg (by omega),if_pos hk]
 have hln:=encS_len c.t.pad.toNat hom
 have htl:=congrArg List.length ht
 rw[List.length_cons] at htl
 rw[List.length_append] at ho
 obtain ⟨bd,hst⟩ :=stepM_pos (t:=c.t) (m:=m) (o:=o) (by omega)
 have hst2:standM c.t m o={ { m with row:={ m.row with line:=IntKind.i64.wrap (m.row.line+o.m) } } with bad:=(standM c.t m o).bad }:=by simp[standM,hk]
 unfold stepN
 rw[hst,hst2]
 obtain ⟨fp,hfp⟩ :∃fp,fp=fpM c m:= ⟨_,rfl⟩
 have hfp2:∀m':MachD,m'.files=m.files→m'.file=m.file→fpM c m'=fp:=fun m' h1 h2=>by rw[hfp,fpM,fpM,h1,h2]
 rw[←hfp,hfp2 _ (by rfl) (by rfl),ht]
 have hof:off+(3 :: encS o.m c.t.pad.toNat).length=off+1+(encS o.m c.t.pad.toNat).length:=by rw[List.length_cons];omega
 rw[hof]
 have wK:IntKind.i64.wrap (((3:UInt8).toNat:Nat):Int)=3:=rfl
 refine fulfilA Tryz.f171 [.tmp 4] 3 ?_
 simp only[Tryz.f171,Option.getD_some,go_sem]
 repeat' first|refine s1 ?_|refine hRegion (sim ?_)|fail
 refine hScope 0 rfl ?_
 refine rn ?_
 refine callU [0] 0 (f132_ok off 3 (encS o.m c.t.pad.toNat++rest) (by omega)) ?_;rintro ret os fs ⟨rfl,rfl,rfl⟩;refine sim ?_
 refine simE @wK ?_
 refine rnE @wK ?_
 refine hRegionE (fun jx _=>if jx=8 then mkC [0] 232 0 [] (f138_ok (b:=lb) (dw:=.top) (bg:=c.t.big) (fm:=.top) (nm:=lineN) (post:=(lrC c m fp false hf 0 []).drop 7) (off+1) o.m c.t.pad.toNat rest hom (by omega) (by omega) (by omega)) else (default,([],[]))) [0,1,2,3,4,5,6,7,8,9,10,11,12,13] [0,1,2,3,5,6,7,8,4,9,10,11,12,13] [0,1,3,7,15,0,32,96,224,511,1023,2047,4095,8191] [] [] 4 8 mixed (by kernel_rfl) ?_ ?_
 all_goals
  refine sim ?_
  (skip);refine callDA ?_;rintro ret os fs ⟨rfl,rfl,rfl⟩;refine sim ?_
  repeat' first|refine rn ?_|fail
  refine doneA [] ?_;try exact trivial
  exact ⟨_,rfl⟩
theorem f171k9_ok (m:MachD) (o:OpD) (hS:StepRd c m o) (hk:o.kind=9) (rest:Bytes) (m1:MachD) (fp1:Option FileD) (e1:Bool) (ho:off+(opText c.t o++rest).length≤2000000000):
  Fulfils Tryz.prog G 171 [.ref 0 lb 0,.ref 2 eb 0] [.cells lb 0 (lrC c m (fpM c m) false hf off (opText c.t o++rest)),.arr hf 293 1 (filesRw (filesT c.t m.files)),.cells eb 0 (stC m1 fp1 e1)]
  (stepN c lb eb m o off rest (stC m1 fp1 e1)):=by
 have hbig:big=140737488355328:=rfl
 have hop:=hS.op
 rw[isOp,if_neg (by omega),if_neg (by omega),if_pos hk] at hop
 simp only[Bool.and_eq_true,decide_eq_true_eq] at hop
 have hon:=hS.ok.n
 obtain ⟨n,hn⟩ :∃n:Nat,o.n=n:= ⟨o.n.toNat,by omega⟩
 have ht:opText c.t o=9 :: fixed n 2 c.t.big:=by rw[opText,if_neg (by omega),if_neg (by omega),if_pos hk,hn];rfl
 have htl:=congrArg List.length ht
 rw[List.length_cons,fixed_len] at htl
 rw[List.length_append] at ho
 have nn:=numOf_fixed n 2 c.t.big
 rw[Nat.mod_eq_of_lt (by omega)] at nn
 have wn:=wrap_u64 (n:=(n:Int)) (by omega) (by omega)
 have wt:o.n.tmod 65536=n:=by rw[hn,Int.tmod_eq_of_lt (by omega) (by omega)]
 obtain ⟨bd,hst⟩ :=stepM_pos (t:=c.t) (m:=m) (o:=o) (by omega)
 have hst2:standM c.t m o={ { m with row:={ m.row with address:=IntKind.u64.wrap (m.row.address+n) } } with bad:=(standM c.t m o).bad }:=by simp[standM,hk,wt]
 unfold stepN
 rw[hst,hst2]
 obtain ⟨fp,hfp⟩ :∃fp,fp=fpM c m:= ⟨_,rfl⟩
 have hfp2:∀m':MachD,m'.files=m.files→m'.file=m.file→fpM c m'=fp:=fun m' h1 h2=>by rw[hfp,fpM,fpM,h1,h2]
 rw[←hfp,hfp2 _ (by rfl) (by rfl),ht]
 have hof:off+(9 :: fixed n 2 c.t.big).length=off+1+2:=by rw[List.length_cons,fixed_len]
 rw[hof]
 have wK:IntKind.i64.wrap (((9:UInt8).toNat:Nat):Int)=9:=rfl
 refine fulfilA Tryz.f171 [.tmp 4] 3 ?_
 simp only[Tryz.f171,Option.getD_some,go_sem]
 repeat' first|refine s1 ?_|refine hRegion (sim ?_)|fail
 refine hScope 0 rfl ?_
 refine rn ?_
 refine callU [0] 0 (f132_ok off 9 (fixed n 2 c.t.big++rest) (by omega)) ?_;rintro ret os fs ⟨rfl,rfl,rfl⟩;refine sim ?_
 refine simE @wK ?_
 refine rnE @wK ?_
 refine hRegionE (fun jx _=>if jx=8 then mkC [0] 302 0 [] (f133_ok (b:=lb) (dw:=.top) (bg:=c.t.big) (fm:=.top) (nm:=lineN) (post:=(lrC c m fp false hf 0 []).drop 7) (off+1) (fixed n 2 c.t.big) rest (fixed_len ..) (by omega)) else (default,([],[]))) [0,1,2,3,4,5,6,7,8,9,10,11,12,13,14] [0,1,2,3,5,6,7,8,4,9,10,11,12,13,14] [0,1,3,7,15,0,32,96,224,480,1023,2047,4095,8191,16383] [] [] 4 8 mixed (by kernel_rfl) ?_ ?_
 all_goals
  refine sim ?_
  (skip);refine callDA ?_;rintro ret os fs ⟨rfl,rfl,rfl⟩;refine sim ?_
  refine simE (And.intro @nn @wn) ?_
  repeat' first|refine rnE (And.intro @nn @wn) ?_|fail
  refine doneA [] ?_;try exact trivial
  exact ⟨_,rfl⟩
end
set_option maxHeartbeats 4000000
set_option maxRecDepth 10000
open Go.AM Go
section
variable {G:Nat→AV} {g:GData} {c:LCtx} {lb eb:Nat} {hf:Value} {off:Nat}
theorem f171u_ok (m:MachD) (o:OpD) (hS:StepRd c m o) (hk:12 < o.kind) (rest:Bytes) (m1:MachD) (fp1:Option FileD) (e1:Bool) (ho:off+(opText c.t o++rest).length≤2000000000):
  Fulfils Tryz.prog G 171 [.ref 0 lb 0,.ref 2 eb 0] [.cells lb 0 (lrC c m (fpM c m) false hf off (opText c.t o++rest)),.arr hf 293 1 (filesRw (filesT c.t m.files)),.cells eb 0 (stC m1 fp1 e1)]
  (stepN c lb eb m o off rest (stC m1 fp1 e1)):=by
 have hbig:big=140737488355328:=rfl
 have hop:=hS.op
 rw[isOp,if_neg (by omega),if_neg (by omega),if_neg (by omega),if_pos (by omega)] at hop
 simp only[Bool.and_eq_true,decide_eq_true_eq] at hop
 have hob:=hS.rd.ok.opcodeBase
 have hol:=operands_len c.t hob hS.rd.ok.operands
 have hon:=hS.ok.n
 have hpad:=hS.rd.ok.pad
 obtain ⟨n,hn⟩ :∃n:Nat,o.n=n:= ⟨o.n.toNat,by omega⟩
 obtain ⟨K,hK⟩ :∃K:Nat,o.kind=K:= ⟨o.kind.toNat,by omega⟩
 have hln:=encU_len c.t.pad.toNat (n:=n) (by omega)
 obtain ⟨x,hx⟩ :=getX (operands c.t) (i:=K - 1) (by omega)
 have hx8:=UInt8.toNat_lt x
 have hlx:(lensOf c.t)[K]? =some (x.toNat:Int):=by
  rw[lensOf,show K=(K - 1)+1 by omega,List.getElem?_cons_succ,List.getElem?_map,hx];rfl
 have ht:opText c.t o=byI K :: (List.replicate x.toNat (encU n c.t.pad.toNat)).flatten:=by
  rw[opText,if_neg (by omega),if_neg (by omega),if_neg (by omega),if_pos (by omega),hK,hn]
  rw[show ((K:Int) - 1).toNat=K - 1 by omega,List.getD_eq_getElem?_getD,hx];rfl
 have htl:=congrArg List.length ht
 rw[List.length_cons,rep_len] at htl
 rw[List.length_append] at ho
 obtain ⟨bd,hst⟩ :=stepM_pos (t:=c.t) (m:=m) (o:=o) (by omega)
 have hst2:standM c.t m o={ m with bad:=(standM c.t m o).bad }:=by
  unfold standM
  dsimp only
  repeat rw[if_neg (by omega)]
 unfold stepN
 rw[hst,hst2]
 obtain ⟨fp,hfp⟩ :∃fp,fp=fpM c m:= ⟨_,rfl⟩
 have hfp2:∀m':MachD,m'.files=m.files→m'.file=m.file→fpM c m'=fp:=fun m' h1 h2=>by rw[hfp,fpM,fpM,h1,h2]
 rw[←hfp,hfp2 _ (by rfl) (by rfl),ht]
 rw[byI_nat]
 have wK:IntKind.i64.wrap ((UInt8.ofNat K).toNat:Int)=K:=by
  have:=byI_toNat (K:Int)
  rw[byI_nat] at this
  rw[wrap_i64 (by omega) (by omega)];omega
 have hl2:=hS.lens
 have e5:(List.map (fun n=>[AV.val (.int .i64 n)]) c.lens).getD K []=[.val (.int .i64 x.toNat)]:=by
  rw[hl2,List.getD_eq_getElem?_getD,List.getElem?_map,hlx];rfl
 have hll:c.lens.length=(lensOf c.t).length:=by rw[hl2]
 have hlk:=(List.getElem?_eq_some_iff.1 hlx).1
 rw[←hll] at hlk
 refine fulfilA Tryz.f171 [.tmp 4] 3 ?_
 simp only[Tryz.f171,Option.getD_some,go_sem]
 repeat' first|refine s1 ?_|refine hRegion (sim ?_)|fail
 refine hScope 0 rfl ?_
 refine rn ?_
 refine callU [0] 0 (f132_ok off (UInt8.ofNat K) ((List.replicate x.toNat (encU n c.t.pad.toNat)).flatten++rest) (by omega)) ?_;rintro ret os fs ⟨rfl,rfl,rfl⟩;refine sim ?_
 refine simE @wK ?_
 refine rnE @wK ?_
 refine hLoop (X:={j:Nat // j≤x.toNat}) (fun j=> ⟨[(0,.ref 0 lb 0),(1,.ref 2 eb 0),(5,intV K),(13,intV j.1)],[(0,some (.cells lb 0 (lrC c m fp false hf (off+1+j.1 * (encU n c.t.pad.toNat).length) ((List.replicate (x.toNat - j.1) (encU n c.t.pad.toNat)).flatten++rest)))),(1,some (.arr hf 293 1 (filesRw (filesT c.t m.files)))),(2,some (.cells eb 0 (stC m1 fp1 e1)))]⟩) (fun j=>x.toNat - j.1) ⟨0,by omega⟩ (by refine sim ?_;all_goals first|((repeat' refine And.intro ?_ ?_)<;>(simp;done))|simp) ?_
 rintro ⟨j,hj⟩
 refine sim ?_
 by_cases hlt:j < x.toNat
 ·have er:x.toNat - j=(x.toNat - (j+1))+1:=by omega
  have w4:IntKind.i64.wrap ((j:Int)+1)=((j+1:Nat):Int):=by rw[wrap_i64 (by omega) (by omega)];simp
  have hjm:j * (encU n c.t.pad.toNat).length+(encU n c.t.pad.toNat).length+(x.toNat - (j+1)) * (encU n c.t.pad.toNat).length=x.toNat * (encU n c.t.pad.toNat).length:=by
   rw[←Nat.succ_mul,←Nat.add_mul];congr 1;omega
  rw[er,List.replicate_succ,List.flatten_cons,List.append_assoc]
  have hrl:((List.replicate (x.toNat - (j+1)) (encU n c.t.pad.toNat)).flatten++rest).length≤2000000000:=by rw[List.length_append,rep_len];omega
  refine rnE @e5 ?_
  refine callU [0] 0 (f121_ok (off+1+j * (encU n c.t.pad.toNat).length) n c.t.pad.toNat ((List.replicate (x.toNat - (j+1)) (encU n c.t.pad.toNat)).flatten++rest) (by omega) (by omega) (by omega) (by omega)) ?_;rintro ret os fs ⟨rfl,rfl,rfl⟩;refine sim ?_
  refine rnE @w4 ?_
  refine ⟨⟨j+1,by omega⟩, ?_⟩
  simp only[Nat.succ_mul,Nat.add_assoc]
  ((repeat' refine And.intro ?_ ?_)<;>first|omega|(simp;done))
 ·have:j=x.toNat:=by omega
  subst this
  refine rnE @e5 ?_
  refine doneA [] ?_;try exact trivial
  refine ⟨hf, ?_⟩
  simp only[List.length_cons,rep_len,Nat.sub_self,List.replicate_zero,List.flatten_nil,List.nil_append,show off+(x.toNat * (encU n c.t.pad.toNat).length+1)=off+1+x.toNat * (encU n c.t.pad.toNat).length by omega]
end
set_option maxHeartbeats 4000000
set_option maxRecDepth 10000
open Go.AM Go
section
variable {G:Nat→AV} {g:GData} {c:LCtx} {lb eb:Nat} {hf:Value} {off:Nat}
theorem skipW {a k b:Nat} (h:a+k < 2147483648) (h1:a≤b) (h2:b≤a+k):IntKind.i64.wrap (IntKind.u32.wrap (IntKind.u32.wrap ((a:Int)+IntKind.u32.wrap (k:Int)) - (b:Int)))=((a+k - b:Nat):Int):=by
 rw[wrap_u32 k (by omega),show (a:Int)+k=((a+k:Nat):Int) by omega,wrap_u32 (a+k) (by omega),show ((a+k:Nat):Int) - b=((a+k - b:Nat):Int) by omega,wrap_u32 _ (by omega),wrap_i64 (by omega) (by omega)]
theorem f171e1_ok (m:MachD) (o:OpD) (hS:StepRd c m o) (hk:o.kind= -1) (rest:Bytes) (m1:MachD) (fp1:Option FileD) (e1:Bool) (ho:off+(opText c.t o++rest).length≤2000000000):
  Fulfils Tryz.prog G 171 [.ref 0 lb 0,.ref 2 eb 0] [.cells lb 0 (lrC c m (fpM c m) false hf off (opText c.t o++rest)),.arr hf 293 1 (filesRw (filesT c.t m.files)),.cells eb 0 (stC m1 fp1 e1)]
  (retO (booV true) [some (.cells lb 0 (lrC c (stepM c.t m o) (fpM c (stepM c.t m o)) false hf (off+(opText c.t o).length) rest)),some (.arr hf 293 1 (filesRw (filesT c.t m.files))),some (.cells eb 0 (stC m (fpM c m) true))]):=by
 have hbig:big=140737488355328:=rfl
 have hpad:=hS.rd.ok.pad
 have hob:=hS.rd.ok.opcodeBase
 have hfl:=hS.files
 have hln:=encU_len c.t.pad.toNat (n:=1) (by omega)
 have ht:opText c.t o=0 :: (encU 1 c.t.pad.toNat++[1]):=by
  rw[opText,if_neg (by omega),if_neg (by omega),if_neg (by omega),if_neg (by omega),if_pos hk];simp[extended,byI]
 have htl:=congrArg List.length ht
 simp only[List.length_cons,List.length_append,List.length_nil] at htl
 rw[List.length_append] at ho
 obtain ⟨bd,hst⟩ :∃bd,stepM c.t m o={ resetM c.t (endM m) with bad:=bd }:= ⟨(stepM c.t m o).bad,by
  rw[stepM,stepA,if_neg (by omega),if_neg (by omega),if_pos hk]⟩
 have f170:=f170_ok (G:=G) (c:=c) (lb:=lb) (hf:=hf) (off:=off+1+(encU 1 c.t.pad.toNat).length+1) (l:=rest) m (fpM c m) true (by omega)
 rw[hst]
 rw[show fpM c { resetM c.t (endM m) with bad:=bd }=selF c.t m.files 1 from rfl,ht]
 have hof:off+(0 :: (encU 1 c.t.pad.toNat++[1])).length=off+1+(encU 1 c.t.pad.toNat).length+1:=by simp only[List.length_cons,List.length_append,List.length_nil];omega
 rw[hof,show (0 :: (encU 1 c.t.pad.toNat++[1])++rest:Bytes)=0 :: (encU 1 c.t.pad.toNat++1 :: rest) by simp]
 have wK:IntKind.i64.wrap (((0:UInt8).toNat:Nat):Int)=0:=rfl
 refine fulfilA Tryz.f171 [.tmp 4] 3 ?_
 simp only[Tryz.f171,Option.getD_some,go_sem]
 repeat' first|refine s1 ?_|refine hRegion (sim ?_)|fail
 refine hScope 0 rfl ?_
 refine rn ?_
 refine callU [0] 0 (f132_ok off 0 (encU 1 c.t.pad.toNat++1 :: rest) (by omega)) ?_;rintro ret os fs ⟨rfl,rfl,rfl⟩;refine sim ?_
 refine simE @wK ?_
 refine rnE @wK ?_
 refine callU [0] 0 (f121_ok (off+1) 1 c.t.pad.toNat (1 :: rest) (by omega) (by omega) (by omega) (by simp only[List.length_cons];omega)) ?_;rintro ret os fs ⟨rfl,rfl,rfl⟩;refine sim ?_
 refine rn ?_
 refine callU [0] 0 (f132_ok (off+1+(encU 1 c.t.pad.toNat).length) 1 rest (by omega)) ?_;rintro ret os fs ⟨rfl,rfl,rfl⟩;refine sim ?_
 refine rn ?_
 refine callA [0,1] 0 (f170) ?_;rintro ret os fs ⟨rfl,rfl,rfl⟩;refine sim ?_
 refine rn ?_
 have f124:=f124_ok (G:=G) (b:=lb) (dw:=.top) (bg:=c.t.big) (fm:=.top) (nm:=lineN) (post:=(lrC c (resetM c.t m) (selF c.t m.files 1) false hf 0 []).drop 7) (off+1+(encU 1 c.t.pad.toNat).length+1) [] rest (by simp;omega)
 refine hRegionD (fun jx _=>if jx=13 then mkC [0] 208 0 [] (f124) else (default,([],[]))) [0,1,2,3,4,5,6,7,8,9,10,11,12,13] [0,1,3,0,0,24,0,64,192,448,960,2040,4088,8191] [] mixed (by kernel_rfl) ?_
 have wz:=skipW (a:=off+1+(encU 1 c.t.pad.toNat).length) (k:=1) (b:=off+1+(encU 1 c.t.pad.toNat).length+1) (by omega) (by omega) (by omega)
 rw[Nat.sub_self] at wz
 refine simE @wz ?_
 (skip);refine callDA ?_;rintro ret os fs ⟨rfl,rfl,rfl⟩;refine sim ?_
 refine rn ?_
 refine doneA [] ?_;try exact trivial
 first|exact ⟨rfl,rfl,rfl⟩ |exact ⟨rfl,rfl⟩ |rfl|trivial
theorem f171e4_ok (m:MachD) (o:OpD) (hS:StepRd c m o) (hk:o.kind= -4) (rest:Bytes) (m1:MachD) (fp1:Option FileD) (e1:Bool) (ho:off+(opText c.t o++rest).length≤2000000000):
  Fulfils Tryz.prog G 171 [.ref 0 lb 0,.ref 2 eb 0] [.cells lb 0 (lrC c m (fpM c m) false hf off (opText c.t o++rest)),.arr hf 293 1 (filesRw (filesT c.t m.files)),.cells eb 0 (stC m1 fp1 e1)]
  (stepN c lb eb m o off rest (stC m1 fp1 e1)):=by
 have hbig:big=140737488355328:=rfl
 have hpad:=hS.rd.ok.pad
 have hob:=hS.rd.ok.opcodeBase
 have hon:=hS.ok.n
 have hop:=hS.op
 rw[isOp,if_neg (by omega),if_neg (by omega),if_neg (by omega),if_neg (by omega),if_neg (by omega),if_neg (by omega),if_neg (by omega),if_pos hk] at hop
 simp only[Bool.and_eq_true,decide_eq_true_eq] at hop
 obtain ⟨n,hn⟩ :∃n:Nat,o.n=n:= ⟨o.n.toNat,by omega⟩
 have hln:=encU_len c.t.pad.toNat (n:=n) (by omega)
 obtain ⟨N,hN⟩ :∃N,N=(encU n c.t.pad.toNat).length:= ⟨_,rfl⟩
 have hln2:=encU_len c.t.pad.toNat (n:=N+1) (by omega)
 have ht:opText c.t o=0 :: (encU (N+1) c.t.pad.toNat++4 :: encU n c.t.pad.toNat):=by
  rw[opText,if_neg (by omega),if_neg (by omega),if_neg (by omega),if_neg (by omega),if_neg (by omega),if_neg (by omega),if_neg (by omega),if_pos hk,hn];simp[extended,byI,hN]
 have htl:=congrArg List.length ht
 simp only[List.length_cons,List.length_append] at htl
 rw[List.length_append] at ho
 have wn:IntKind.i64.wrap (n:Int)=n:=wrap_i64 (by omega) (by omega)
 have wt:IntKind.i64.wrap (o.n.tmod 2147483649)=n:=by rw[hn,Int.tmod_eq_of_lt (by omega) (by omega),wn]
 obtain ⟨bd,hst⟩ :∃bd,stepM c.t m o={ { m with row:={ m.row with disc:=(n:Int) } } with bad:=bd }:= ⟨(stepM c.t m o).bad,by
  rw[stepM,stepA,if_neg (by omega),if_neg (by omega),if_neg (by omega),if_neg (by omega),if_neg (by omega),if_pos hk,wt]⟩
 unfold stepN
 rw[hst]
 obtain ⟨fp,hfp⟩ :∃fp,fp=fpM c m:= ⟨_,rfl⟩
 have hfp2:∀m':MachD,m'.files=m.files→m'.file=m.file→fpM c m'=fp:=fun m' h1 h2=>by rw[hfp,fpM,fpM,h1,h2]
 rw[←hfp,hfp2 _ (by rfl) (by rfl),ht]
 have hof:off+(0 :: (encU (N+1) c.t.pad.toNat++4 :: encU n c.t.pad.toNat)).length=off+1+(encU (N+1) c.t.pad.toNat).length+1+N:=by simp only[List.length_cons,List.length_append];omega
 rw[hof,show (0 :: (encU (N+1) c.t.pad.toNat++4 :: encU n c.t.pad.toNat)++rest:Bytes)=0 :: (encU (N+1) c.t.pad.toNat++4 :: (encU n c.t.pad.toNat++rest)) by simp]
 have wK:IntKind.i64.wrap (((0:UInt8).toNat:Nat):Int)=0:=rfl
 refine fulfilA Tryz.f171 [.tmp 4] 3 ?_
 simp only[Tryz.f171,Option.getD_some,go_sem]
 repeat' first|refine s1 ?_|refine hRegion (sim ?_)|fail
 refine hScope 0 rfl ?_
 refine rn ?_
 refine callU [0] 0 (f132_ok off 0 (encU (N+1) c.t.pad.toNat++4 :: (encU n c.t.pad.toNat++rest)) (by omega)) ?_;rintro ret os fs ⟨rfl,rfl,rfl⟩;refine sim ?_
 refine simE @wK ?_
 refine rnE @wK ?_
 refine callU [0] 0 (f121_ok (off+1) (N+1) c.t.pad.toNat (4 :: (encU n c.t.pad.toNat++rest)) (by omega) (by omega) (by omega) (by simp only[List.length_cons,List.length_append];omega)) ?_;rintro ret os fs ⟨rfl,rfl,rfl⟩;refine sim ?_
 refine rn ?_
 refine callU [0] 0 (f132_ok (off+1+(encU (N+1) c.t.pad.toNat).length) 4 (encU n c.t.pad.toNat++rest) (by omega)) ?_;rintro ret os fs ⟨rfl,rfl,rfl⟩;refine sim ?_
 refine rn ?_
 refine callU [0] 0 (f121_ok (off+1+(encU (N+1) c.t.pad.toNat).length+1) n c.t.pad.toNat rest (by omega) (by omega) (by omega) (by omega)) ?_;rintro ret os fs ⟨rfl,rfl,rfl⟩;refine sim ?_
 refine simE @wn ?_
 refine rnE @wn ?_
 rw[←hN]
 have f124:=f124_ok (G:=G) (b:=lb) (dw:=.top) (bg:=c.t.big) (fm:=.top) (nm:=lineN) (post:=(lrC c { m with row:={ m.row with disc:=(n:Int) } } fp false hf 0 []).drop 7) (off+1+(encU (N+1) c.t.pad.toNat).length+1+N) [] rest (by simp;omega)
 have wz:=skipW (a:=off+1+(encU (N+1) c.t.pad.toNat).length) (k:=N+1) (b:=off+1+(encU (N+1) c.t.pad.toNat).length+1+N) (by omega) (by omega) (by omega)
 rw[show off+1+(encU (N+1) c.t.pad.toNat).length+(N+1) - (off+1+(encU (N+1) c.t.pad.toNat).length+1+N)=0 by omega] at wz
 refine hRegionD (fun jx _=>if jx=13 then mkC [0] 208 0 [] (f124) else (default,([],[]))) [0,1,2,3,4,5,6,7,8,9,10,11,12,13] [0,1,3,0,0,24,0,64,192,448,960,2040,4088,8191] [] mixed (by kernel_rfl) ?_
 refine simE @wz ?_
 (skip);refine callDA ?_;rintro ret os fs ⟨rfl,rfl,rfl⟩;refine sim ?_
 refine rn ?_
 refine doneA [] ?_;try exact trivial
 exact ⟨_,rfl⟩
theorem f171ex_ok (m:MachD) (o:OpD) (hS:StepRd c m o) (hk:o.kind < -4) (rest:Bytes) (m1:MachD) (fp1:Option FileD) (e1:Bool) (ho:off+(opText c.t o++rest).length≤2000000000):
  Fulfils Tryz.prog G 171 [.ref 0 lb 0,.ref 2 eb 0] [.cells lb 0 (lrC c m (fpM c m) false hf off (opText c.t o++rest)),.arr hf 293 1 (filesRw (filesT c.t m.files)),.cells eb 0 (stC m1 fp1 e1)]
  (stepN c lb eb m o off rest (stC m1 fp1 e1)):=by
 have hbig:big=140737488355328:=rfl
 have hpad:=hS.rd.ok.pad
 have hob:=hS.rd.ok.opcodeBase
 have hon:=hS.ok.n
 have hop:=hS.op
 rw[isOp,if_neg (by omega),if_neg (by omega),if_neg (by omega),if_neg (by omega),if_neg (by omega),if_neg (by omega),if_neg (by omega),if_neg (by omega)] at hop
 simp only[Bool.and_eq_true,decide_eq_true_eq] at hop
 obtain ⟨N,hn⟩ :∃N:Nat,o.n=N:= ⟨o.n.toNat,by omega⟩
 obtain ⟨K,hK⟩ :∃K:Nat,-o.kind=K:= ⟨(-o.kind).toNat,by omega⟩
 obtain ⟨B,hB⟩ :∃B:Bytes,B=List.replicate N (byI o.m):= ⟨_,rfl⟩
 have hN:N=B.length:=by rw[hB];simp
 have hln2:=encU_len c.t.pad.toNat (n:=N+1) (by omega)
 have ht:opText c.t o=0 :: (encU (N+1) c.t.pad.toNat++UInt8.ofNat K :: B):=by
  rw[opText,if_neg (by omega),if_neg (by omega),if_neg (by omega),if_neg (by omega),if_neg (by omega),if_neg (by omega),if_neg (by omega),if_neg (by omega),hn,hK]
  rw[extended,byI_nat,show (N:Int).toNat=N from rfl,←hB,←hN];simp
 have htl:=congrArg List.length ht
 simp only[List.length_cons,List.length_append] at htl
 rw[List.length_append] at ho
 obtain ⟨bd,hst⟩ :∃bd,stepM c.t m o={ m with bad:=bd }:= ⟨(stepM c.t m o).bad,by
  rw[stepM,stepA,if_neg (by omega),if_neg (by omega),if_neg (by omega),if_neg (by omega),if_neg (by omega),if_neg (by omega)]⟩
 unfold stepN
 rw[hst]
 obtain ⟨fp,hfp⟩ :∃fp,fp=fpM c m:= ⟨_,rfl⟩
 have hfp2:∀m':MachD,m'.files=m.files→m'.file=m.file→fpM c m'=fp:=fun m' h1 h2=>by rw[hfp,fpM,fpM,h1,h2]
 rw[←hfp,hfp2 _ (by rfl) (by rfl),ht]
 have hof:off+(0 :: (encU (N+1) c.t.pad.toNat++UInt8.ofNat K :: B)).length=off+1+(encU (N+1) c.t.pad.toNat).length+1+N:=by simp only[List.length_cons,List.length_append];omega
 rw[hof,show (0 :: (encU (N+1) c.t.pad.toNat++UInt8.ofNat K :: B)++rest:Bytes)=0 :: (encU (N+1) c.t.pad.toNat++UInt8.ofNat K :: (B++rest)) by simp]
 have wK:IntKind.i64.wrap (((0:UInt8).toNat:Nat):Int)=0:=rfl
 have wC:((UInt8.ofNat K).toNat:Int)=K:=by
  have:=byI_toNat (K:Int)
  rw[byI_nat] at this
  omega
 refine fulfilA Tryz.f171 [.tmp 4] 3 ?_
 simp only[Tryz.f171,Option.getD_some,go_sem]
 repeat' first|refine s1 ?_|refine hRegion (sim ?_)|fail
 refine hScope 0 rfl ?_
 refine rn ?_
 refine callU [0] 0 (f132_ok off 0 (encU (N+1) c.t.pad.toNat++UInt8.ofNat K :: (B++rest)) (by omega)) ?_;rintro ret os fs ⟨rfl,rfl,rfl⟩;refine sim ?_
 refine simE @wK ?_
 refine rnE @wK ?_
 refine callU [0] 0 (f121_ok (off+1) (N+1) c.t.pad.toNat (UInt8.ofNat K :: (B++rest)) (by omega) (by omega) (by omega) (by simp only[List.length_cons,List.length_append];omega)) ?_;rintro ret os fs ⟨rfl,rfl,rfl⟩;refine sim ?_
 refine rn ?_
 refine callU [0] 0 (f132_ok (off+1+(encU (N+1) c.t.pad.toNat).length) (UInt8.ofNat K) (B++rest) (by omega)) ?_;rintro ret os fs ⟨rfl,rfl,rfl⟩;refine sim ?_
 refine simE @wC ?_
 refine rnE @wC ?_
 have f124:=f124_ok (G:=G) (b:=lb) (dw:=.top) (bg:=c.t.big) (fm:=.top) (nm:=lineN) (post:=(lrC c m fp false hf 0 []).drop 7) (off+1+(encU (N+1) c.t.pad.toNat).length+1) B rest (by omega)
 rw[←hN] at f124
 have wz:=skipW (a:=off+1+(encU (N+1) c.t.pad.toNat).length) (k:=N+1) (b:=off+1+(encU (N+1) c.t.pad.toNat).length+1) (by omega) (by omega) (by omega)
 rw[show off+1+(encU (N+1) c.t.pad.toNat).length+(N+1) - (off+1+(encU (N+1) c.t.pad.toNat).length+1)=N by omega] at wz
 refine hRegionD (fun jx _=>if jx=13 then mkC [0] 208 0 [] (f124) else (default,([],[]))) [0,1,2,3,4,5,6,7,8,9,10,11,12,13] [0,1,3,0,0,24,0,64,192,448,960,2040,4088,8191] [] mixed (by kernel_rfl) ?_
 refine simE @wz ?_
 (skip);refine callDA ?_;rintro ret os fs ⟨rfl,rfl,rfl⟩;refine sim ?_
 refine rn ?_
 refine doneA [] ?_;try exact trivial
 exact ⟨_,rfl⟩
theorem f171e3_ok (m:MachD) (o:OpD) (hS:StepRd c m o) (hk:o.kind= -3) (hF:FileRd o.file) (rest:Bytes) (m1:MachD) (fp1:Option FileD) (e1:Bool) (ho:off+(opText c.t o++rest).length≤2000000000):
  Fulfils Tryz.prog G 171 [.ref 0 lb 0,.ref 2 eb 0] [.cells lb 0 (lrC c m (fpM c m) false hf off (opText c.t o++rest)),.arr hf 293 1 (filesRw (filesT c.t m.files)),.cells eb 0 (stC m1 fp1 e1)]
  (stepN c lb eb m o off rest (stC m1 fp1 e1)):=by
 have hbig:big=140737488355328:=rfl
 have hpad:=hS.rd.ok.pad
 have hob:=hS.rd.ok.opcodeBase
 have hfl:=hS.files
 have hop:=hS.op
 rw[isOp,if_neg (by omega),if_neg (by omega),if_neg (by omega),if_neg (by omega),if_neg (by omega),if_neg (by omega),if_pos hk] at hop
 simp only[Bool.and_eq_true,decide_eq_true_eq] at hop
 have hv:=hop.1
 obtain ⟨B,hB⟩ :∃B:Bytes,B=fileText c.t.pad o.file:= ⟨_,rfl⟩
 obtain ⟨N,hN⟩ :∃N,N=B.length:= ⟨_,rfl⟩
 have ht:opText c.t o=0 :: (encU (N+1) c.t.pad.toNat++3 :: B):=by
  rw[opText,if_neg (by omega),if_neg (by omega),if_neg (by omega),if_neg (by omega),if_neg (by omega),if_neg (by omega),if_pos hk];simp[extended,byI,hN,hB]
 have htl:=congrArg List.length ht
 simp only[List.length_cons,List.length_append] at htl
 rw[List.length_append] at ho
 have hln2:=encU_len c.t.pad.toNat (n:=N+1) (by omega)
 obtain ⟨q,hq⟩ :∃q,q=selF c.t (m.files++[o.file]) m.file:= ⟨_,rfl⟩
 obtain ⟨bd,hst⟩ :∃bd,stepM c.t m o={ addF m o.file with bad:=bd }:= ⟨(stepM c.t m o).bad,by
  rw[stepM,stepA,if_neg (by omega),if_neg (by omega),if_neg (by omega),if_neg (by omega),if_pos hk];rfl⟩
 unfold stepN
 rw[hst]
 rw[show fpM c { addF m o.file with bad:=bd }=q from hq.symm]
 obtain ⟨fp,hfp⟩ :∃fp,fp=fpM c m:= ⟨_,rfl⟩
 rw[←hfp,ht]
 have hof:off+(0 :: (encU (N+1) c.t.pad.toNat++3 :: B)).length=off+1+(encU (N+1) c.t.pad.toNat).length+1+N:=by simp only[List.length_cons,List.length_append];omega
 rw[hof,show (0 :: (encU (N+1) c.t.pad.toNat++3 :: B)++rest:Bytes)=0 :: (encU (N+1) c.t.pad.toNat++3 :: (B++rest)) by simp]
 have wK:IntKind.i64.wrap (((0:UInt8).toNat:Nat):Int)=0:=rfl
 have f167:=f167_ok (G:=G) (c:=c) (lb:=lb) (hf:=hf) (off:=off+1+(encU (N+1) c.t.pad.toNat).length+1) m fp false o.file c.t.pad rest hv hpad hF (by rw[←hB,List.length_append];omega) (by omega)
 rw[←hB,←hN] at f167
 have f184:=fun hf'=>f184_ok (G:=G) (c:=c) (lb:=lb) (hf:=hf') (off:=off+1+(encU (N+1) c.t.pad.toNat).length+1+N) (l:=rest) (addF m o.file) fp false hS.file (by simp[addF];omega)
 have f124:=fun hf'=>f124_ok (G:=G) (b:=lb) (dw:=.top) (bg:=c.t.big) (fm:=.top) (nm:=lineN) (post:=(lrC c (addF m o.file) q false hf' 0 []).drop 7) (off+1+(encU (N+1) c.t.pad.toNat).length+1+N) [] rest (by simp;omega)
 have wz:=skipW (a:=off+1+(encU (N+1) c.t.pad.toNat).length) (k:=N+1) (b:=off+1+(encU (N+1) c.t.pad.toNat).length+1+N) (by omega) (by omega) (by omega)
 rw[show off+1+(encU (N+1) c.t.pad.toNat).length+(N+1) - (off+1+(encU (N+1) c.t.pad.toNat).length+1+N)=0 by omega] at wz
 rw[show (addF m o.file).files=m.files++[o.file] from rfl,show (addF m o.file).file=m.file from rfl,←hq] at f184
 refine fulfilA Tryz.f171 [.tmp 4] 3 ?_
 simp only[Tryz.f171,Option.getD_some,go_sem]
 repeat' first|refine s1 ?_|refine hRegion (sim ?_)|fail
 refine hScope 0 rfl ?_
 refine rn ?_
 refine callU [0] 0 (f132_ok off 0 (encU (N+1) c.t.pad.toNat++3 :: (B++rest)) (by omega)) ?_;rintro ret os fs ⟨rfl,rfl,rfl⟩;refine sim ?_
 refine simE @wK ?_
 refine rnE @wK ?_
 refine callU [0] 0 (f121_ok (off+1) (N+1) c.t.pad.toNat (3 :: (B++rest)) (by omega) (by omega) (by omega) (by simp only[List.length_cons,List.length_append];omega)) ?_;rintro ret os fs ⟨rfl,rfl,rfl⟩;refine sim ?_
 refine rn ?_
 refine callU [0] 0 (f132_ok (off+1+(encU (N+1) c.t.pad.toNat).length) 3 (B++rest) (by omega)) ?_;rintro ret os fs ⟨rfl,rfl,rfl⟩;refine sim ?_
 refine rn ?_
 refine callA [0,1] 0 (f167) ?_;rintro ret os fs ⟨hf',rfl,rfl,rfl⟩;refine sim ?_
 refine rn ?_
 refine callA [0,1] 0 (f184 hf') ?_;rintro ret os fs ⟨rfl,rfl,rfl⟩;refine sim ?_
 refine rn ?_
 refine hRegionD (fun jx _=>if jx=13 then mkC [0] 208 0 [] (f124 hf') else (default,([],[]))) [0,1,2,3,4,5,6,7,8,9,10,11,12,13] [0,1,3,0,0,24,0,64,192,448,960,2040,4088,8191] [] mixed (by kernel_rfl) ?_
 refine simE @wz ?_
 (skip);refine callDA ?_;rintro ret os fs ⟨rfl,rfl,rfl⟩;refine sim ?_
 refine rn ?_
 refine doneA [] ?_;try exact trivial
 exact ⟨_,rfl⟩
theorem f171e2_ok (m:MachD) (o:OpD) (hS:StepRd c m o) (hk:o.kind= -2) (rest:Bytes) (m1:MachD) (fp1:Option FileD) (e1:Bool) (ho:off+(opText c.t o++rest).length≤2000000000):
  Fulfils Tryz.prog G 171 [.ref 0 lb 0,.ref 2 eb 0] [.cells lb 0 (lrC c m (fpM c m) false hf off (opText c.t o++rest)),.arr hf 293 1 (filesRw (filesT c.t m.files)),.cells eb 0 (stC m1 fp1 e1)]
  (stepN c lb eb m o off rest (stC m1 fp1 e1)):=by
 have hbig:big=140737488355328:=rfl
 have hpad:=hS.rd.ok.pad
 have hob:=hS.rd.ok.opcodeBase
 have hon:=hS.ok.n
 have hop:=hS.op
 rw[isOp,if_neg (by omega),if_neg (by omega),if_neg (by omega),if_neg (by omega),if_neg (by omega),if_pos hk] at hop
 simp only[Bool.and_eq_true,decide_eq_true_eq] at hop
 have hsz:=hS.rd.ok.size
 have hlast:o.n < 256 ^ c.t.size.toNat:=by
  unfold lastOf at hop
  rcases hsz with h|h<;>rw[h] at hop ⊢<;>simp at hop ⊢<;>omega
 obtain ⟨n,hn⟩ :∃n:Nat,o.n=n:= ⟨o.n.toNat,by omega⟩
 obtain ⟨N,hNs⟩ :∃N:Nat,c.t.size=N:= ⟨c.t.size.toNat,by omega⟩
 obtain ⟨B,hB⟩ :∃B:Bytes,B=fixed n N c.t.big:= ⟨_,rfl⟩
 have hN:N=B.length:=by rw[hB,fixed_len]
 have hln2:=encU_len c.t.pad.toNat (n:=N+1) (by omega)
 have ht:opText c.t o=0 :: (encU (N+1) c.t.pad.toNat++2 :: B):=by
  rw[opText,if_neg (by omega),if_neg (by omega),if_neg (by omega),if_neg (by omega),if_neg (by omega),if_pos hk,hn,hNs]
  rw[extended,show (N:Int).toNat=N from rfl,show (n:Int).toNat=n from rfl,←hB,←hN];simp[byI]
 have nB:numOf c.t.big B=n:=by
  rw[hB,numOf_fixed,Nat.mod_eq_of_lt]
  rw[hn,hNs] at hlast
  exact_mod_cast hlast
 have hn64:n < 18446744073709551616:=by omega
 have htl:=congrArg List.length ht
 simp only[List.length_cons,List.length_append] at htl
 rw[List.length_append] at ho
 obtain ⟨bd,hst⟩ :∃bd,stepM c.t m o={ { m with row:={ m.row with address:=(n:Int) } } with bad:=bd }:= ⟨(stepM c.t m o).bad,by
  rw[stepM,stepA,if_neg (by omega),if_neg (by omega),if_neg (by omega),if_pos hk,hn]⟩
 unfold stepN
 rw[hst]
 obtain ⟨fp,hfp⟩ :∃fp,fp=fpM c m:= ⟨_,rfl⟩
 have hfp2:∀m':MachD,m'.files=m.files→m'.file=m.file→fpM c m'=fp:=fun m' h1 h2=>by rw[hfp,fpM,fpM,h1,h2]
 rw[←hfp,hfp2 _ (by rfl) (by rfl),ht]
 have hof:off+(0 :: (encU (N+1) c.t.pad.toNat++2 :: B)).length=off+1+(encU (N+1) c.t.pad.toNat).length+1+N:=by simp only[List.length_cons,List.length_append];omega
 rw[hof,show (0 :: (encU (N+1) c.t.pad.toNat++2 :: B)++rest:Bytes)=0 :: (encU (N+1) c.t.pad.toNat++2 :: (B++rest)) by simp]
 have wK:IntKind.i64.wrap (((0:UInt8).toNat:Nat):Int)=0:=rfl
 refine fulfilA Tryz.f171 [.tmp 4] 3 ?_
 simp only[Tryz.f171,Option.getD_some,go_sem]
 repeat' first|refine s1 ?_|refine hRegion (sim ?_)|fail
 refine hScope 0 rfl ?_
 refine rn ?_
 refine callU [0] 0 (f132_ok off 0 (encU (N+1) c.t.pad.toNat++2 :: (B++rest)) (by omega)) ?_;rintro ret os fs ⟨rfl,rfl,rfl⟩;refine sim ?_
 refine simE @wK ?_
 refine rnE @wK ?_
 refine callU [0] 0 (f121_ok (off+1) (N+1) c.t.pad.toNat (2 :: (B++rest)) (by omega) (by omega) (by omega) (by simp only[List.length_cons,List.length_append];omega)) ?_;rintro ret os fs ⟨rfl,rfl,rfl⟩;refine sim ?_
 refine rn ?_
 refine callU [0] 0 (f132_ok (off+1+(encU (N+1) c.t.pad.toNat).length) 2 (B++rest) (by omega)) ?_;rintro ret os fs ⟨rfl,rfl,rfl⟩;refine sim ?_
 have wu:=wrap_u64 (n:=(n:Int)) (by omega) (by omega)
 have f124:=f124_ok (G:=G) (b:=lb) (dw:=.top) (bg:=c.t.big) (fm:=.top) (nm:=lineN) (post:=(lrC c { m with row:={ m.row with address:=(n:Int) } } fp false hf 0 []).drop 7) (off+1+(encU (N+1) c.t.pad.toNat).length+1+N) [] rest (by simp;omega)
 have wz:=skipW (a:=off+1+(encU (N+1) c.t.pad.toNat).length) (k:=N+1) (b:=off+1+(encU (N+1) c.t.pad.toNat).length+1+N) (by omega) (by omega) (by omega)
 rw[show off+1+(encU (N+1) c.t.pad.toNat).length+(N+1) - (off+1+(encU (N+1) c.t.pad.toNat).length+1+N)=0 by omega] at wz
 rcases hsz with h|h
 ·have hN4:N=4:=by omega
  have q1:(c.t.size == 1)=false:=by rw[h];rfl
  have q2:(c.t.size == 2)=false:=by rw[h];rfl
  have q4:(c.t.size == 4)=true:=by rw[h];rfl
  refine rnE (And.intro @q1 (And.intro @q2 @q4)) ?_
  refine callU [0] 0 (f126_ok (off+1+(encU (N+1) c.t.pad.toNat).length+1) B rest (by omega) (by omega)) ?_;rintro ret os fs ⟨rfl,rfl,rfl⟩;refine sim ?_
  rw[show off+1+(encU (N+1) c.t.pad.toNat).length+1+4=off+1+(encU (N+1) c.t.pad.toNat).length+1+N by omega]
  refine simE (And.intro @nB @wu) ?_
  refine rnE (And.intro @nB @wu) ?_
  refine hRegionD (fun jx _=>if jx=13 then mkC [0] 208 0 [] (f124) else (default,([],[]))) [0,1,2,3,4,5,6,7,8,9,10,11,12,13] [0,1,3,0,0,24,0,64,192,448,960,2040,4088,8191] [] mixed (by kernel_rfl) ?_
  refine simE @wz ?_
  (skip);refine callDA ?_;rintro ret os fs ⟨rfl,rfl,rfl⟩;refine sim ?_
  refine rn ?_
  refine doneA [] ?_;try exact trivial
  exact ⟨_,rfl⟩
 ·have hN4:N=8:=by omega
  have q1:(c.t.size == 1)=false:=by rw[h];rfl
  have q2:(c.t.size == 2)=false:=by rw[h];rfl
  have q4:(c.t.size == 4)=false:=by rw[h];rfl
  have q8:(c.t.size == 8)=true:=by rw[h];rfl
  refine rnE (And.intro @q1 (And.intro @q2 (And.intro @q4 @q8))) ?_
  refine callU [0] 0 (f125_ok (off+1+(encU (N+1) c.t.pad.toNat).length+1) B rest (by omega) (by omega)) ?_;rintro ret os fs ⟨rfl,rfl,rfl⟩;refine sim ?_
  rw[show off+1+(encU (N+1) c.t.pad.toNat).length+1+8=off+1+(encU (N+1) c.t.pad.toNat).length+1+N by omega]
  refine simE (And.intro @nB @wu) ?_
  refine rnE (And.intro @nB @wu) ?_
  refine hRegionD (fun jx _=>if jx=13 then mkC [0] 208 0 [] (f124) else (default,([],[]))) [0,1,2,3,4,5,6,7,8,9,10,11,12,13] [0,1,3,0,0,24,0,64,192,448,960,2040,4088,8191] [] mixed (by kernel_rfl) ?_
  refine simE @wz ?_
  (skip);refine callDA ?_;rintro ret os fs ⟨rfl,rfl,rfl⟩;refine sim ?_
  refine rn ?_
  refine doneA [] ?_;try exact trivial
  exact ⟨_,rfl⟩
end
set_option maxHeartbeats 4000000
set_option maxRecDepth 10000
open Go.AM Go
theorem monoF {P:Program} {G:Nat→AV} {f:FuncId} {args:List AV} {objs:List AObj} {R R':(Nat→AV)→List (Option AObj)→List (Option AObj)→Prop} (h:Fulfils P G f args objs R) (hR:∀ret os fs,R ret os fs→R' ret os fs):Fulfils P G f args objs R':=
 h.imp rfl (fun i ob hi=> ⟨ob,hi,rfl,fun _ _ h=>h⟩) fun _ _ _ _ _ ret os fs hr hx ha=> ⟨ret,os,fs,hR _ _ _ hr,hx,ha⟩
def emits (o:OpD):Bool:=o.kind == 0 || o.kind == 1 || o.kind == -1
def toldM (t:TableD) (m:MachD) (o:OpD):MachD:=if o.kind=0 then lineM (advM t m (IntKind.i64.wrap ((specN t o).tdiv t.lineRange))) (IntKind.i64.wrap (IntKind.i64.wrap (m.row.line+t.lineBase)+(specN t o).tmod t.lineRange)) else m
def stepE (c:LCtx) (lb eb:Nat) (m:MachD) (o:OpD) (off:Nat) (rest:Bytes) (ent:List AV):(Nat→AV)→List (Option AObj)→List (Option AObj)→Prop:=fun ret os fs=>∃hf',ret=(fun _=>booV (emits o))∧
 os=[some (.cells lb 0 (lrC c (stepM c.t m o) (fpM c (stepM c.t m o)) false hf' (off+(opText c.t o).length) rest)),some (.arr hf' 293 1 (filesRw (filesT c.t (stepM c.t m o).files))),some (.cells eb 0 (if emits o then stC (toldM c.t m o) (fpM c m) (o.kind == -1) else ent))]∧fs=[]
def opsT (t:TableD) (l:List OpD):Bytes:=l.flatMap (opText t)
def AllRd (c:LCtx):MachD→List OpD→Prop
 |_,[]=>True
 |m,o :: r=>StepRd c m o∧(o.kind= -3→FileRd o.file)∧AllRd c (stepM c.t m o) r
def nextR (c:LCtx):MachD→List OpD→Option (MachD×OpD×List OpD)
 |_,[]=>none
 |m,o :: r=>if emits o then some (m,o,r) else nextR c (stepM c.t m o) r
theorem opText_pos (t:TableD) (o:OpD):0 < (opText t o).length:=by
 have ext:∀a k b,0 < (extended a k b).length:=fun a k b=>by simp only[extended,List.length_append,List.length_cons];omega
 unfold opText
 repeat' split
 all_goals first|exact ext _ _ _|simp only[List.length_cons]<;>omega
theorem nextR_cons (c:LCtx) (m:MachD) (o:OpD) (r:List OpD):nextR c m (o :: r)=if emits o then some (m,o,r) else nextR c (stepM c.t m o) r:=rfl
theorem all_next {c:LCtx} {l:List OpD}:∀{m:MachD} {x:MachD×OpD×List OpD},AllRd c m l→nextR c m l=some x→StepRd c x.1 x.2.1∧AllRd c (stepM c.t x.1 x.2.1) x.2.2∧emits x.2.1=true:=by
 induction l with
 |nil=>intro m x h e;cases e
 |cons o r ih=>
  intro m x h e
  obtain ⟨h1,h2,h3⟩ :=h
  rw[nextR_cons] at e
  by_cases he:emits o=true
  ·rw[if_pos he,Option.some.injEq] at e
   subst e
   exact ⟨h1,h3,he⟩
  ·rw[if_neg he] at e
   exact ih h3 e
section
variable {G:Nat→AV} {g:GData} {c:LCtx} {lb eb:Nat} {hf:Value} {off:Nat}
theorem f171_ok (m:MachD) (o:OpD) (hS:StepRd c m o) (hF:o.kind= -3→FileRd o.file) (rest:Bytes) (m1:MachD) (fp1:Option FileD) (e1:Bool) (ho:off+(opText c.t o++rest).length≤2000000000):
  Fulfils Tryz.prog G 171 [.ref 0 lb 0,.ref 2 eb 0] [.cells lb 0 (lrC c m (fpM c m) false hf off (opText c.t o++rest)),.arr hf 293 1 (filesRw (filesT c.t m.files)),.cells eb 0 (stC m1 fp1 e1)]
  (stepE c lb eb m o off rest (stC m1 fp1 e1)):=by
 have hN:¬(o.kind=0∨o.kind=1∨o.kind= -1)→Fulfils Tryz.prog G 171 [.ref 0 lb 0,.ref 2 eb 0] [.cells lb 0 (lrC c m (fpM c m) false hf off (opText c.t o++rest)),.arr hf 293 1 (filesRw (filesT c.t m.files)),.cells eb 0 (stC m1 fp1 e1)] (stepN c lb eb m o off rest (stC m1 fp1 e1))→
   Fulfils Tryz.prog G 171 [.ref 0 lb 0,.ref 2 eb 0] [.cells lb 0 (lrC c m (fpM c m) false hf off (opText c.t o++rest)),.arr hf 293 1 (filesRw (filesT c.t m.files)),.cells eb 0 (stC m1 fp1 e1)] (stepE c lb eb m o off rest (stC m1 fp1 e1)):=fun hn h=>monoF h fun ret os fs ⟨hf',e1,e2,e3⟩ =>by
  have he:emits o=false:=by simp[emits];omega
  exact ⟨hf',by rw[he];exact e1,by rw[he];exact e2,e3⟩
 by_cases h0:o.kind=0
 ·refine monoF (f171s_ok m o hS h0 rest m1 fp1 e1 ho) fun ret os fs ⟨e1,e2,e3⟩ =>?_
  have he:emits o=true:=by simp[emits,h0]
  have hf3:(stepM c.t m o).files=m.files:=by simp only[stepM,stepA,if_pos h0];rfl
  exact ⟨hf,by rw[he];exact e1,by rw[he,hf3,toldM,if_pos h0,h0];exact e2,e3⟩
 by_cases h1:o.kind=1
 ·refine monoF (f171k1_ok m o hS h1 rest m1 fp1 e1 ho) fun ret os fs ⟨e1,e2,e3⟩ =>?_
  have he:emits o=true:=by simp[emits,h1]
  have hf3:(stepM c.t m o).files=m.files:=by simp[stepM,stepA,standM,h1,emitM]
  exact ⟨hf,by rw[he];exact e1,by rw[he,hf3,toldM,if_neg h0,h1];exact e2,e3⟩
 by_cases h2:o.kind= -1
 ·refine monoF (f171e1_ok m o hS h2 rest m1 fp1 e1 ho) fun ret os fs ⟨e1,e2,e3⟩ =>?_
  have he:emits o=true:=by simp[emits,h2]
  have hf3:(stepM c.t m o).files=m.files:=by simp[stepM,stepA,h2,resetM,endM]
  exact ⟨hf,by rw[he];exact e1,by rw[he,hf3,toldM,if_neg h0,h2];exact e2,e3⟩
 refine hN (by omega) ?_
 by_cases k3:o.kind=3
 ·exact f171k3_ok m o hS k3 rest m1 fp1 e1 ho
 by_cases k9:o.kind=9
 ·exact f171k9_ok m o hS k9 rest m1 fp1 e1 ho
 by_cases k13:12 < o.kind
 ·exact f171u_ok m o hS k13 rest m1 fp1 e1 ho
 by_cases k4:o.kind < -4
 ·exact f171ex_ok m o hS k4 rest m1 fp1 e1 ho
 have hk:o.kind= -4∨o.kind= -3∨o.kind= -2∨o.kind=2∨o.kind=4∨o.kind=5∨o.kind=6∨o.kind=7∨o.kind=8∨o.kind=10∨o.kind=11∨o.kind=12:=by omega
 rcases hk with k|k|k|k|k|k|k|k|k|k|k|k
 ·exact f171e4_ok m o hS k rest m1 fp1 e1 ho
 ·exact f171e3_ok m o hS k (hF k) rest m1 fp1 e1 ho
 ·exact f171e2_ok m o hS k rest m1 fp1 e1 ho
 ·exact f171k2_ok m o hS k rest m1 fp1 e1 ho
 ·exact f171k4_ok m o hS k rest m1 fp1 e1 ho
 ·exact f171k5_ok m o hS k rest m1 fp1 e1 ho
 ·exact f171k6_ok m o hS k rest m1 fp1 e1 ho
 ·exact f171k7_ok m o hS k rest m1 fp1 e1 ho
 ·exact f171k8_ok m o hS k rest m1 fp1 e1 ho
 ·exact f171k10_ok m o hS k rest m1 fp1 e1 ho
 ·exact f171k11_ok m o hS k rest m1 fp1 e1 ho
 ·exact f171k12_ok m o hS k rest m1 fp1 e1 ho
def nextP (c:LCtx) (g:GData) (lb eb:Nat) (ent:List AV) (x:Option (MachD×OpD×List OpD)):(Nat→AV)→List (Option AObj)→List (Option AObj)→Prop:=fun ret os fs=>fs=[]∧∃hf' off',match x with
 |some (m,o,r)=>ret=(fun _=>.val .nilIface)∧off'+(opsT c.t r).length≤2000000000∧
  os=[some (.cells lb 0 (lrC c (stepM c.t m o) (fpM c (stepM c.t m o)) false hf' off' (opsT c.t r))),some (.arr hf' 293 1 (filesRw (filesT c.t (stepM c.t m o).files))),some (.cells eb 0 (stC (toldM c.t m o) (fpM c m) (o.kind == -1)))]
 |none=>ret=(fun _=>.val (.iface g.eofT (.pointer (some g.eofA))))∧∃m,os=[some (.cells lb 0 (lrC c m (fpM c m) false hf' off' [])),some (.arr hf' 293 1 (filesRw (filesT c.t m.files))),some (.cells eb 0 ent)]
theorem f143_ok (hG:GOK G g) (m:MachD) (ops:List OpD) (hA:AllRd c m ops) (m1:MachD) (fp1:Option FileD) (e1:Bool) (ho:off+(opsT c.t ops).length≤2000000000):
  Fulfils Tryz.prog G 143 [.ref 0 lb 0,.ref 2 eb 0] [.cells lb 0 (lrC c m (fpM c m) false hf off (opsT c.t ops)),.arr hf 293 1 (filesRw (filesT c.t m.files)),.cells eb 0 (stC m1 fp1 e1)]
  (nextP c g lb eb (stC m1 fp1 e1) (nextR c m ops)):=by
 have hbig:big=140737488355328:=rfl
 have hG0:=hG.eof
 obtain ⟨x,hx⟩ :∃x,nextR c m ops=x:= ⟨_,rfl⟩
 rw[hx]
 refine fulfilA Tryz.f143 [.tmp 4] 3 ?_
 simp only[Tryz.f143,Option.getD_some,go_sem]
 refine rn ?_
 refine hLoop (X:={p:Value×MachD×List OpD×Nat // AllRd c p.2.1 p.2.2.1∧p.2.2.2+(opsT c.t p.2.2.1).length≤2000000000∧nextR c p.2.1 p.2.2.1=x}) (fun p=> ⟨[(0,.ref 0 lb 0),(1,.ref 2 eb 0)],[(0,some (.cells lb 0 (lrC c p.1.2.1 (fpM c p.1.2.1) false p.1.1 p.1.2.2.2 (opsT c.t p.1.2.2.1)))),(1,some (.arr p.1.1 293 1 (filesRw (filesT c.t p.1.2.1.files)))),(2,some (.cells eb 0 (stC m1 fp1 e1)))]⟩) (fun p=>p.1.2.2.1.length) ⟨(hf,m,ops,off),hA,ho,hx⟩ (by exact sT;all_goals ((repeat' refine And.intro ?_ ?_)<;>first|rfl|omega|(dsimp only;omega)|(simp;done)|(simp;rfl)|skip)) ?_
 rintro ⟨⟨h,m',l,o'⟩,hA',ho',hn⟩
 simp only at hA' ho' hn
 refine sim ?_
 obtain ⟨q,hq0⟩ :∃q,q=fpM c m':= ⟨_,rfl⟩
 rw[←hq0]
 generalize hdd:opsT c.t l=dd at *
 cases l with
 |nil=>
  obtain rfl:dd=[]:=hdd.symm
  refine rnE @hG0 ?_
  refine doneA [] ?_;try exact trivial
  rw[←hn]
  subst hq0
  exact ⟨rfl,h,o',rfl,m',rfl⟩
 |cons o r=>
  obtain ⟨hS,hF,hA2⟩ :=hA'
  obtain rfl:dd=opText c.t o++opsT c.t r:=hdd.symm
  have hp:=opText_pos c.t o
  have hz:(((opText c.t o++opsT c.t r).length:Int) == 0)=false:=by rw[beq_eq_false_iff_ne,List.length_append];omega
  have f171:=f171_ok (G:=G) (lb:=lb) (eb:=eb) (hf:=h) (off:=o') m' o hS hF (opsT c.t r) m1 fp1 e1 ho'
  unfold stepE at f171
  rw[List.length_append] at ho'
  obtain ⟨M',hM⟩ :∃M',M'=stepM c.t m' o:= ⟨_,rfl⟩
  obtain ⟨q',hq⟩ :∃q,q=fpM c M':= ⟨_,rfl⟩
  obtain ⟨T',hT⟩ :∃T,T=toldM c.t m' o:= ⟨_,rfl⟩
  rw[←hM,←hq,←hT,←hq0] at f171
  by_cases he:emits o=true
  ·rw[he,if_pos rfl] at f171
   refine rnE @hz ?_
   refine callA [0,1,2] 0 (f171) ?_;rintro ret os fs ⟨hf',rfl,rfl,rfl⟩;refine sim ?_
   refine rn ?_
   refine doneA [] ?_;try exact trivial
   rw[←hn,nextR_cons,if_pos he]
   subst hq hM hT hq0
   exact ⟨rfl,hf',o'+(opText c.t o).length,rfl,by omega,rfl⟩
  ·rw[Bool.not_eq_true] at he
   rw[he,if_neg (by simp)] at f171
   refine rnE @hz ?_
   refine callA [0,1,2] 0 (f171) ?_;rintro ret os fs ⟨hf',rfl,rfl,rfl⟩;refine sim ?_
   refine rn ?_
   refine ⟨⟨(hf',M',r,o'+(opText c.t o).length),by rw[hM];exact hA2,by simp only;omega,by rw[←hn,nextR_cons,he,hM];rfl⟩, ?_⟩
   dsimp only
   rw[←hq]
   ((repeat' refine And.intro ?_ ?_)<;>first|rfl|omega)
end
set_option maxHeartbeats 4000000
set_option maxRecDepth 10000
open Go.AM Go
def rowsL (c:LCtx):MachD→List OpD→List RowD
 |_,[]=>[]
 |m,o :: r=>if emits o then rowL (toldM c.t m o) (fpM c m) (o.kind == -1) :: rowsL c (stepM c.t m o) r else rowsL c (stepM c.t m o) r
theorem rowsL_cons (c:LCtx) (m:MachD) (o:OpD) (r:List OpD):rowsL c m (o :: r)=if emits o then rowL (toldM c.t m o) (fpM c m) (o.kind == -1) :: rowsL c (stepM c.t m o) r else rowsL c (stepM c.t m o) r:=rfl
theorem rows_cons {c:LCtx} {l:List OpD}:∀{m:MachD} {r0:RowD} {rr:List RowD},rowsL c m l=r0 :: rr→∃m' o r,nextR c m l=some (m',o,r)∧r0=rowL (toldM c.t m' o) (fpM c m') (o.kind == -1)∧rowsL c (stepM c.t m' o) r=rr:=by
 induction l with
 |nil=>intro m r0 rr h;cases h
 |cons o l ih=>
  intro m r0 rr h
  rw[rowsL_cons] at h
  rw[nextR_cons]
  by_cases he:emits o=true
  ·rw[if_pos he] at h
   rw[if_pos he]
   obtain ⟨e1,e2⟩ :=List.cons.inj h
   exact ⟨m,o,l,rfl,e1.symm,e2⟩
  ·rw[if_neg he] at h
   rw[if_neg he]
   exact ih h
theorem rows_nil {c:LCtx} {l:List OpD}:∀{m:MachD},rowsL c m l=[]→nextR c m l=none:=by
 induction l with
 |nil=>intro m h;rfl
 |cons o l ih=>
  intro m h
  rw[rowsL_cons] at h
  rw[nextR_cons]
  by_cases he:emits o=true
  ·rw[if_pos he] at h;exact absurd h (List.cons_ne_nil _ _)
  ·rw[if_neg he] at h
   rw[if_neg he]
   exact ih h
def lansC (r:RowD) (code:Int):List AV:=[u64V r.address,intV r.opIndex,booV r.file.none,strV r.file.name,u64V r.file.mtime,intV r.file.length,intV r.line,intV r.column,booV r.isStmt,booV r.basic,booV r.pro,booV r.epi,intV r.isa,intV r.disc,booV r.ends,.val (.slice none 0 0),intV code]
def noRow:RowD:=rowL (mzF []) none false
def lansR (rows:List RowD) (n:Nat):List (List AV):=((rows.map fun r=>lansC r 0)++[lansC noRow 1]).take n
theorem lansR_len {rows:List RowD} {n:Nat} (h:n≤rows.length+1):(lansR rows n).length=n:=by simp[lansR];omega
theorem lansR_succ {rows:List RowD} {n:Nat} {r:RowD} (h:rows[n]? =some r):lansR rows n++[lansC r 0]=lansR rows (n+1):=by
 have hn:=(List.getElem?_eq_some_iff.1 h).1
 unfold lansR
 rw[take_succ (x:=lansC r 0)]
 rw[List.getElem?_append_left (by simpa using hn),List.getElem?_map,h];rfl
theorem lansR_end {rows:List RowD}:lansR rows rows.length++[lansC noRow 1]=lansR rows (rows.length+1):=by
 unfold lansR
 rw[take_succ (x:=lansC noRow 1)]
 rw[List.getElem?_append_right (by simp)];simp
class StillN (f:AV→AV):Prop where
 n:f (.val (.slice none 0 0))= .val (.slice none 0 0)
instance {σ:Nat→Nat}:StillN (rkA σ):= ⟨rfl⟩
instance {k:Nat} {ob:AObj}:StillN (frz1 k ob):= ⟨rfl⟩
instance {k k2:Nat}:StillN (ren1 k k2):= ⟨rfl⟩
theorem turnL_lans {f:AV→AV} [Still f] [StillN f] (r:RowD) (n:Int):turnL f (lansC r n)=lansC r n:=by simp only[lansC,turnL,u64V,intV,booV,strV,AV.turn,Still.i,Still.b,Still.s,StillN.n]
theorem turnR_lans {f:AV→AV} [Still f] [StillN f] (rows:List RowD) (n:Nat):turnR f (lansR rows n)=lansR rows n:=by
 have h:∀l:List (List AV),(∀x∈l,turnL f x=x)→turnR f l=l:=by
  intro l
  induction l with
  |nil=>intro _;rfl
  |cons a l ih=>intro h;simp only[turnR,h a (List.mem_cons_self ..),ih fun x hx=>h x (List.mem_cons_of_mem _ hx)]
 refine h _ fun x hx=>?_
 have:=List.mem_of_mem_take hx
 rw[List.mem_append,List.mem_map,List.mem_singleton] at this
 rcases this with ⟨r,_,rfl⟩ |rfl
 ·exact turnL_lans r 0
 ·exact turnL_lans noRow 1
attribute [go_sem] lansC turnR_lans
section
variable {G:Nat→AV} {g:GData} {c:LCtx} {lb:Nat} {hf:Value} {off:Nat} {z:DataR}
def lineP (c:LCtx) (lb:Nat) (x:Option (MachD×OpD×List OpD)):(Nat→AV)→List (Option AObj)→List (Option AObj)→Prop:=fun ret os fs=>fs=[]∧∃hf' off',match x with
 |some (m,o,r)=>ret=(fun _=>.agg (lansC (rowL (toldM c.t m o) (fpM c m) (o.kind == -1)) 0))∧off'+(opsT c.t r).length≤2000000000∧
  os=[some (.cells lb 0 (lrC c (stepM c.t m o) (fpM c (stepM c.t m o)) false hf' off' (opsT c.t r))),some (.arr hf' 293 1 (filesRw (filesT c.t (stepM c.t m o).files)))]
 |none=>ret=(fun _=>.agg (lansC noRow 1))∧∃m,os=[some (.cells lb 0 (lrC c m (fpM c m) false hf' off' [])),some (.arr hf' 293 1 (filesRw (filesT c.t m.files)))]
theorem f102_ok (hG:GOK G g) (hT:g.eofT=263) (m:MachD) (ops:List OpD) (hA:AllRd c m ops) (ho:off+(opsT c.t ops).length≤2000000000):
  Fulfils Tryz.prog G 102 [.ref 0 lb 0,.top,.agg [intV 0,intV 0,u64V 0]] [.cells lb 0 (lrC c m (fpM c m) false hf off (opsT c.t ops)),.arr hf 293 1 (filesRw (filesT c.t m.files))]
  (lineP c lb (nextR c m ops)):=by
 have hbig:big=140737488355328:=rfl
 have f143:=fun eb=>f143_ok (G:=G) (lb:=lb) (eb:=eb) (hf:=hf) (off:=off) hG m ops hA (mzF []) none false ho
 generalize nextR c m ops=x at *
 obtain ⟨q,hq⟩ :∃q,q=fpM c m:= ⟨_,rfl⟩
 rw[←hq] at f143 ⊢
 refine fulfilA Tryz.f102 [.cell 6 79] 2 ?_
 simp only[Tryz.f102,Option.getD_some,go_sem]
 repeat' first|refine rn ?_|with_reducible refine fun (_:Outc)=>?_|fail
 rename_i o6 o7 o8
 cases x with
 |none=>
  refine callA [0,1,8] 0 (f143 o8.b) ?_;rintro ret os fs ⟨rfl,hf',off',rfl,mL,rfl⟩;refine sim ?_
  skip
  refine callP (f48e_ok hG hT) rfl ?_;refine sim ?_
  refine rn ?_
  refine callP (f144_ok (mzF []) none false) rfl ?_;refine sim ?_
  refine rn ?_
  refine doneA [] ?_;try exact trivial
  exact ⟨rfl,_,_,rfl,_,rfl⟩
 |some y=>
  obtain ⟨m',o,r⟩ :=y
  unfold nextP at f143
  dsimp only at f143
  unfold lineP
  obtain ⟨M',hM⟩ :∃M',M'=stepM c.t m' o:= ⟨_,rfl⟩
  obtain ⟨q',hq'⟩ :∃q,q=fpM c M':= ⟨_,rfl⟩
  obtain ⟨T',hT'⟩ :∃T,T=toldM c.t m' o:= ⟨_,rfl⟩
  obtain ⟨q2,hq2⟩ :∃q,q=fpM c m':= ⟨_,rfl⟩
  obtain ⟨b,hb0⟩ :∃b,b=(o.kind == -1):= ⟨_,rfl⟩
  simp only[←hM,←hq',←hT',←hq2,←hb0] at f143 ⊢
  refine callA [0,1,8] 0 (f143 o8.b) ?_;rintro ret os fs ⟨rfl,hf',off',rfl,hlo,rfl⟩;refine sim ?_
  skip
  refine callP f48_ok rfl ?_;refine sim ?_
  refine rn ?_
  refine callP (f144_ok T' q2 b) rfl ?_;refine sim ?_
  refine rn ?_
  refine doneA [] ?_;try exact trivial
  exact ⟨_,_,hlo,rfl⟩
end
end Go.Proofs.YtbkfdnkeelmloaaGreatDoor
