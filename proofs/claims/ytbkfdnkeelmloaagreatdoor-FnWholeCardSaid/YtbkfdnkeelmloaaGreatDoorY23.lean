/- Part 23 of the proof: I1 N1 N2 N3 N4 N5. -/
import Derived.LaidEql
import Derived.Test.YtbkfdnkeelmloaaGreatDoorY19
import Derived.Test.YtbkfdnkeelmloaaGreatDoorZ20
import Derived.Test.YtbkfdnkeelmloaaGreatDoorY22
set_option linter.unusedVariables false
set_option linter.unusedSimpArgs false
namespace Go.Proofs.YtbkfdnkeelmloaaGreatDoor
set_option maxHeartbeats 4000000
set_option maxRecDepth 10000
open Go.AM Go
section
variable {G:Nat→AV} {g:GData} {z:DataR} {us0:List UnitR} {ns:Nat→List NodeR}
theorem f53e_ok (us:List UnitR) (hus:us.map bare=us0) (hF:FileRK z us0 ns) (rb i:Nat) (u:UnitR) (hu:us0[i]? =some u) (hl:us0.length=i+1):
  Fulfils Tryz.prog G 53 [.ref 0 rb 0] [rdAt rb z 1 i u (ns i) (ns i).length,.arr z.hU 216 9 (us.map unitRow)] (retO (.tup [.val (.pointer none),.val .nilIface]) [some (rdAt rb z 1 i u (ns i) (ns i).length),some (.arr z.hU 216 9 (us.map unitRow))]):=by
 have h98:=f98e_ok (G:=G) us hus hF rb i u hu hl
 have e0:nodesB (udOf u) z.big ((ns i).drop (ns i).length)=[]:=by rw[List.drop_length];rfl
 simp only[rdAt_eq] at h98 ⊢
 rw[e0] at h98 ⊢
 generalize nodeAtOff u z.big (ns i) (ns i).length=o at *
 refine fulfilA Tryz.f53 [.tmp 2,.tmp 3] 2 ?_
 simp only[Tryz.f53,Option.getD_some,go_sem]
 refine rn ?_
 refine callA [0,1] 0 (h98) ?_;rintro ret os fs ⟨rfl,rfl,rfl⟩;refine sim ?_
 refine rn ?_
 refine doneA [] ?_;try exact trivial
 exact ⟨rfl,rfl,rfl⟩
theorem eq133 (A:Addr):EqT Tryz.prog 133 (.iface 263 (.pointer (some A))) (.iface 263 (.pointer (some A))) true:=by
 intro w x y
 obtain ⟨ms,hi⟩ :∃ms,Tryz.prog.underlying 133=some (.interface ms):=by
  cases h:Tryz.prog.underlying 133 with
  |none=>exact absurd (show (Tryz.prog.underlying 133).isSome=true by kernel_rfl) (by rw[h];decide)
  |some d=>
   have:(match Tryz.prog.underlying 133 with|some (.interface _)=>true|_=>false)=true:=by kernel_rfl
   rw[h] at this
   cases d<;>first|exact ⟨_,rfl⟩ |(simp at this;done)
 have hp:Tryz.prog.underlying 263=some (.pointer 265):=by kernel_rfl
 obtain ⟨i,hinfo⟩ :∃i,Tryz.prog.info? 263=some i:=by
  cases h:Tryz.prog.info? 263 with
  |none=>exact absurd (show (Tryz.prog.info? 263).isSome=true by kernel_rfl) (by rw[h];decide)
  |some i=>exact ⟨i,rfl⟩
 have hcomp:i.comparable=true:=by
  have:(Tryz.prog.info? 263).map (·.comparable)=some true:=by kernel_rfl
  rw[hinfo] at this;simpa using this
 obtain ⟨j,hte⟩ :∃i,Tryz.prog.info? 265=some i:=by
  cases h:Tryz.prog.info? 265 with
  |none=>exact absurd (show (Tryz.prog.info? 265).isSome=true by kernel_rfl) (by rw[h];decide)
  |some i=>exact ⟨i,rfl⟩
 have h:=fun d=>run_equalIn_iface_ptr_same (P:=Tryz.prog) w d A hi hp hinfo hcomp hte
 refine ⟨?_, ?_⟩
 ·simp[eqGuard,Sem.run_bind,Sem.run_pure,binOp,Op.equal,Op.maxDepth,h 9998]
 ·simp[eqGuard,Sem.run_bind,Sem.run_pure,binOp,Op.equal,Op.maxDepth,h 9998]
theorem f48_ok:Fulfils Tryz.prog G 48 [.val .nilIface] [] (retP (intV 0)):=by
 refine fulfilP (fn:=Tryz.f48) (rs:=[.tmp 2]) (Tryz.f48.body.getD .skip) (by kernel_rfl) rfl rfl rfl (by simp only[List.length_cons,List.length_nil];decide) rfl (by decide) ?_
 simp only[Tryz.f48,Option.getD_some,go_sem]
 exact rn trivial
theorem f48e_ok (hG:GOK G g) (hT:g.eofT=263):Fulfils Tryz.prog G 48 [.val (.iface g.eofT (.pointer (some g.eofA)))] [] (retP (intV 1)):=by
 have e:=hG.eof
 rw[hT] at e ⊢
 refine fulfilP (fn:=Tryz.f48) (rs:=[.tmp 2]) (Tryz.f48.body.getD .skip) (by kernel_rfl) rfl rfl rfl (by simp only[List.length_cons,List.length_nil];decide) rfl (by decide) ?_
 simp only[Tryz.f48,Option.getD_some,go_sem]
 repeat' first|refine rnE @e ?_|with_reducible refine And.intro ?_ ?_|exact trivial
 rw[show (g.eofA == g.eofA)=true by simp]
 exact eq133 _
def valE (v:DV) (cls:Int):ValueD:=
 match v with
 | .num n=> ⟨cls,1,n,[],[]⟩
 | .int n=> ⟨cls,2,IntKind.u64.wrap n,[],[]⟩
 | .flag b=> ⟨cls,3,if b then 1 else 0,[],[]⟩
 | .text s=> ⟨cls,4,0,s,[]⟩
 | .bytes b=> ⟨cls,5,0,[],b⟩
 | .off n=> ⟨cls,6,n,[],[]⟩
structure DvOK (v:DV):Prop where
 bytes:∀b,v= .bytes b→b.length≤1000000
 off:∀n,v= .off n→n < 4294967296
theorem f151_ok (v:DV) (cls:Int) (hv:DvOK v):Fulfils Tryz.prog G 151 [dvV v,intV cls] [] (retP (.agg (valueC (valE v cls)))):=by
 have hbig:big=140737488355328:=rfl
 have hb1:=hv.bytes
 have hb2:=hv.off
 refine fulfilA Tryz.f151 [.cell 4 201] 0 ?_
 simp only[Tryz.f151,Option.getD_some,go_sem]
 cases v with
 |flag b=>
  cases b
  all_goals
   refine sim ?_
   repeat' first|refine rn ?_|with_reducible refine fun (_:Outc)=>?_|fail
   refine doneN [] ?_ (by simp) (by simp) sT
   refine sim ?_
   exact ⟨rfl,rfl,rfl⟩
 |bytes b=>
  have:=hb1 b rfl
  refine sim ?_
  repeat' first|refine s1 ?_|refine s2 ?_|refine hRegion (sim ?_)|(refine s7 rfl ?_ ?_<;>intro hb<;>first|(exact absurd hb (by decide))|skip)|with_reducible refine And.intro ?_ ?_|with_reducible refine fun (_:Outc)=>?_|omega
  refine hEnt (eFrz 49 sT) ?_;refine sim ?_
  refine rn ?_
  refine doneN [] ?_ (by simp) (by simp) sT
  refine sim ?_
  exact ⟨rfl,rfl,rfl⟩
 |off n=>
  have:=hb2 n rfl
  have w:=wrap_u64 (n:=(n:Int)) (by omega) (by omega)
  refine sim ?_
  repeat' first|refine rnE @w ?_|with_reducible refine fun (_:Outc)=>?_|fail
  refine doneN [] ?_ (by simp) (by simp) sT
  refine sim ?_
  exact ⟨rfl,rfl,rfl⟩
 |_=>
  refine sim ?_
  repeat' first|refine rn ?_|with_reducible refine fun (_:Outc)=>?_|fail
  refine doneN [] ?_ (by simp) (by simp) sT
  refine sim ?_
  exact ⟨rfl,rfl,rfl⟩
def fieldEn (f:DField):FieldE:= ⟨f.attr,valE f.val f.cls⟩
def entE (e:DEntry):EntryE:= ⟨e.off,e.tag,e.ch,e.fields.map fieldEn⟩
structure DentOK (e:DEntry):Prop where
 off:e.off < 4294967296
 tag:0≤e.tag∧e.tag < 4294967296
 len:e.fields.length≤1000
 fs:∀f∈e.fields,DvOK f.val∧0≤f.attr∧f.attr < 4294967296
def fieldsR (l:List DField):List (List AV):=l.map fun f=>fieldC (fieldEn f)
theorem fieldsR_succ {l:List DField} {j:Nat} {f:DField} (h:l[j]? =some f):fieldsR (l.take (j+1))=fieldsR (l.take j)++[fieldC (fieldEn f)]:=by
 rw[fieldsR,take_succ h,List.map_append];rfl
theorem fieldsR_len (l:List DField):(fieldsR l).length=l.length:=by simp[fieldsR]
theorem turnR_fieldsR {f:AV→AV} [Still f] (l:List DField):turnR f (fieldsR l)=fieldsR l:=turnR_map (g:=fun f=>fieldC (fieldEn f)) (fun b=>turnL_field _) l
theorem fitR_fieldsR {p:AV→Prop} [StillP p] (l:List DField):fitR p (fieldsR l)=True:=eq_true (fitR_map (g:=fun f=>fieldC (fieldEn f)) (fun b=>fitL_field _) l)
attribute [go_sem] turnR_fieldsR fitR_fieldsR
theorem f107_ok (l:List DField) (hl:l.length≤1000) (hf:∀f∈l,DvOK f.val∧0≤f.attr∧f.attr < 4294967296):
  Fulfils Tryz.prog G 107 [.dat false 3 (l.map dfRow)] [] (retB 0 203 6 (fieldsR l) []):=by
 have hbig:big=140737488355328:=rfl
 refine fulfilA Tryz.f107 [.tmp 2] 0 ?_
 simp only[Tryz.f107,Option.getD_some,go_sem]
 refine rn ?_
 refine hEnt (eOwn 3001 3 203 6 sT) ?_
 refine sim ?_
 refine hLoop (X:=Value×{j:Nat // j≤l.length}) (fun p=> ⟨[(3,.buf 3001 p.1),(6,.dat false 3 (l.map dfRow)),(7,intV l.length),(8,intV p.2.1)],[(3001,some (.arr p.1 203 6 (fieldsR (l.take p.2.1))))]⟩) (fun p=>l.length - p.2.1) (.slice none 0 0, ⟨0,Nat.zero_le _⟩) (by simp only[List.take_zero,fieldsR,List.map_nil];exact sT;all_goals ((repeat' refine And.intro ?_ ?_)<;>first|rfl|omega|(dsimp only;omega)|(simp;done)|(simp;rfl)|skip)) ?_
 rintro ⟨h,j,hj⟩
 refine sim ?_
 by_cases hlt:j < l.length
 ·obtain ⟨f,hfx⟩ :=getX l hlt
  obtain ⟨h1,h2,h3⟩ :=hf f (List.mem_of_getElem? hfx)
  have er:=row_at dfRow hfx
  have w4:IntKind.i64.wrap ((j:Int)+1)=((j+1:Nat):Int):=by rw[wrap_i64 (by omega) (by omega)];simp
  have wa:=wrap_i64 (n:=f.attr) (by omega) (by omega)
  have hfl:(fieldsR (l.take j)).length=j:=by rw[fieldsR_len,List.length_take];omega
  have hc:=f151_ok (G:=G) f.val f.cls h1
  have hfs:=fieldsR_succ hfx
  simp only[dfRow,u32I,intV] at er
  rw[fieldEn] at hfs
  cases hfv:f.val
  all_goals
   rw[hfv] at hc er hfs
   simp only[dvV,bytesV_eq] at hc er
   repeat' first|refine rnE @er ?_|with_reducible refine fun (_:Outc)=>?_|fail
   refine hRegionD (fun jx _=>if jx=8 then mkC [] 20 0 [] (hc) else (default,([],[]))) [0,1,2,3,4,5,6,7,8,9,10,11,12] [0,0,2,6,0,16,0,64,240,510,1022,2047,4095] [(2,8),(3,8)] mixed (by kernel_rfl) ?_
   refine simE @wa ?_
   (skip);refine callDA ?_;rintro ret os fs ⟨rfl,rfl,rfl⟩;refine sim ?_
   repeat' first|refine rnE (And.intro @wa @w4) ?_|with_reducible refine fun (_:Outc)=>?_|fail
   refine ⟨⟨_,j+1,hlt⟩, ⟨⟨rfl,rfl⟩, ?_⟩,by dsimp only;omega⟩
   dsimp only
   rw[hfs];rfl
 ·have:j=l.length:=by omega
  subst this
  refine rn ?_
  refine doneA [(3001,0)] ?_;try exact trivial
  exact ⟨_,rfl,rfl,rfl⟩
theorem f58_ok (e:DEntry) (he:DentOK e):Fulfils Tryz.prog G 58 [deP e] [] (retP (.agg (entryC (entE e)))):=by
 have hbig:big=140737488355328:=rfl
 have h1:=he.off
 have h2:=he.tag
 have wa:=wrap_i64 (n:=(e.off:Int)) (by omega) (by omega)
 have wb:=wrap_i64 (n:=e.tag) (by omega) (by omega)
 have hr:(entE e).fields.map fieldC=fieldsR e.fields:=by simp only[entE,fieldsR,List.map_map];rfl
 refine fulfilA Tryz.f58 [.cell 2 65] 0 ?_
 simp only[Tryz.f58,Option.getD_some,go_sem]
 repeat' first|refine rn ?_|with_reducible refine fun (_:Outc)=>?_|fail
 refine hRegionD (fun jx _=>if jx=18 then mkC [] 21 1 [] (f107_ok e.fields he.len he.fs) else (default,([],[]))) [0,1,2,3,4,5,6,7,8,9,10,11,12,13,14,15,16,17,18,19,20] [0,1,3,7,15,0,32,96,224,480,0,1024,3072,7168,0,16384,49152,114688,245760,524287,1048575] [(3,18),(4,18),(8,18),(9,18),(13,18)] mixed (by kernel_rfl) ?_
 refine simE (And.intro @wa @wb) ?_
 (skip);refine callDA ?_;rintro ret os fs ⟨h,rfl,rfl,rfl⟩;refine sim ?_
 skip
 refine hEnt (eFrz 1021 sT) ?_;refine sim ?_
 refine rn ?_
 refine doneA [] ?_;try exact trivial
 rw[hr]
 exact ⟨rfl,rfl,rfl⟩
end
set_option maxHeartbeats 4000000
set_option maxRecDepth 10000
open Go.AM Go
structure LCtx where
 t:TableD
 sec:Bytes
 po:Nat
 eo:Nat
 ini:Nat
 lens:List Int
def lfP:Option FileD→AV
 |some f=>.pt [strV f.name,u64V f.mtime,intV f.length]
 |none=>.val (.pointer none)
def filesT (t:TableD) (l:List FileD):List (Option FileD):=if t.version < 5 then none :: l.map some else l.map some
def filesRw (l:List (Option FileD)):List (List AV):=l.map fun o=>[lfP o]
def selF (t:TableD) (l:List FileD) (n:Int):Option FileD:=((filesT t l)[n.toNat]?).getD none
def lineN:Bytes:=[108,105,110,101]
def stC (m:MachD) (fp:Option FileD) (e:Bool):List AV:=[u64V m.row.address,intV m.row.opIndex,lfP fp,intV m.row.line,intV m.row.column,booV m.row.isStmt,booV m.row.basic,booV m.row.pro,booV m.row.epi,intV m.row.isa,intV m.row.disc,booV e]
def lrC (c:LCtx) (m:MachD) (fp:Option FileD) (e:Bool) (hf:Value) (off:Nat) (l:Bytes):List AV:=[.top,booV c.t.big,.top,strV lineN,u32V off,bytesV l,.val .nilIface,bytesV c.sec,.top,.top,.top,intV c.t.size,.top,intV c.t.minInst,intV c.t.maxOps,booV c.t.isStmt,intV c.t.lineBase,intV c.t.lineRange,intV c.t.opcodeBase,
 intsV c.lens,.top,.buf 1 hf,u32V c.po,u32V c.eo,intV c.ini,u64V m.row.address,intV m.row.opIndex,lfP fp,intV m.row.line,intV m.row.column,booV m.row.isStmt,booV m.row.basic,booV m.row.pro,booV m.row.epi,intV m.row.isa,intV m.row.disc,booV e,intV m.file]
theorem filesRw_len (l:List (Option FileD)):(filesRw l).length=l.length:=by simp[filesRw]
theorem filesT_len (t:TableD) (l:List FileD):(filesT t l).length=if t.version < 5 then l.length+1 else l.length:=by unfold filesT;split<;>simp
theorem turn_lfP {f:AV→AV} [Still f] [StillQ f] (o:Option FileD):(lfP o).turn f=lfP o:=by cases o<;>simp only[lfP,AV.turn,turnL,strV,u64V,intV,Still.i,Still.s,StillQ.p]
theorem fit_lfP {p:AV→Prop} [StillP p] (o:Option FileD):(lfP o).fit p:=by
 cases o
 ·exact fit_v
 ·exact ⟨fit_v,fit_v,fit_v,trivial⟩
theorem turnR_files {f:AV→AV} [Still f] [StillQ f] (l:List (Option FileD)):turnR f (filesRw l)=filesRw l:=turnR_map (g:=fun o=>[lfP o]) (fun o=>by simp only[turnL,turn_lfP]) l
theorem fitR_files {p:AV→Prop} [StillP p] (l:List (Option FileD)):fitR p (filesRw l)=True:=eq_true (fitR_map (g:=fun o=>[lfP o]) (fun o=> ⟨fit_lfP o,trivial⟩) l)
theorem fitR_int {p:AV→Prop} [StillP p] (l:List Int):fitR p (l.map fun n=>[AV.val (.int .i64 n)])=True:=eq_true (fitR_map (g:=fun n=>[AV.val (.int .i64 n)]) (fun b=> ⟨fit_v,trivial⟩) l)
theorem one_lfP (o:Option FileD):oneA (lfP o)=true:=by cases o<;>rfl
theorem cells_lfP (o:Option FileD):cellsA (lfP o)=[lfP o]:=by cases o<;>rfl
theorem lfP_n:lfP none= .val (.pointer none):=rfl
attribute [go_sem] fitR_int lfP_n lineN lrC stC filesRw_len turn_lfP fit_lfP turnR_files fitR_files one_lfP cells_lfP
section
variable {G:Nat→AV} {g:GData} {c:LCtx} {lb:Nat} {hf:Value} {off:Nat} {l:Bytes}
def fileRo:Option FileD→FileR
 |some f=> ⟨false,f.name,f.mtime,f.length⟩
 |none=> ⟨true,[],0,0⟩
theorem f149_ok (o:Option FileD):Fulfils Tryz.prog G 149 [lfP o] [] (retP (.agg (fileRC (fileRo o)))):=by
 refine fulfilA Tryz.f149 [.cell 2 74] 0 ?_
 simp only[Tryz.f149,Option.getD_some,go_sem]
 cases o with
 |none=>
  simp only[lfP]
  repeat' first|refine rn ?_|with_reducible refine fun (_:Outc)=>?_|fail
  refine doneA [] ?_;try exact trivial
  exact ⟨rfl,rfl,rfl⟩
 |some f=>
  simp only[lfP]
  repeat' first|refine rn ?_|with_reducible refine fun (_:Outc)=>?_|fail
  refine hRegionD (noChi) [0,1,2,3,4,5,6,7,8,9,10,11,12,13] [0,1,3,7,0,16,48,112,0,256,768,1792,4095,8191] [] mixed (by kernel_rfl) ?_
  refine sim ?_
  refine rn ?_
  refine doneA [] ?_;try exact trivial
  exact ⟨rfl,rfl,rfl⟩
def rowL (m:MachD) (fp:Option FileD) (e:Bool):RowD:= ⟨m.row.address,m.row.opIndex,fileRo fp,m.row.line,m.row.column,m.row.isStmt,m.row.basic,m.row.pro,m.row.epi,m.row.isa,m.row.disc,e⟩
theorem f144_ok (m:MachD) (fp:Option FileD) (e:Bool):Fulfils Tryz.prog G 144 [.agg (stC m fp e)] [] (retP (.agg (rowC (rowL m fp e)))):=by
 have h:=f149_ok (G:=G) fp
 obtain ⟨q,hq⟩ :∃q,q=fileRo fp:= ⟨_,rfl⟩
 simp only[rowL]
 rw[←hq] at h ⊢
 refine fulfilA Tryz.f144 [.cell 2 76] 0 ?_
 simp only[Tryz.f144,Option.getD_some,go_sem]
 cases fp
 all_goals
  simp only[lfP] at h ⊢
  repeat' first|refine rn ?_|with_reducible refine fun (_:Outc)=>?_|fail
  refine hRegionD (fun jx _=>if jx=6 then mkC [] 9 0 [] (h) else (default,([],[]))) [0,1,2,3,4,5,7,8,9,10,11,12,13,14,15,16,17,18,19,20,21,22,23,24,6,25,26] [0,1,0,4,0,16,48,0,128,0,512,0,2048,0,8192,0,32768,0,131072,0,524288,0,2097152,0,8388608,33554431,67108863] [(1,6),(3,6),(8,6),(10,6),(12,6),(14,6),(16,6),(18,6),(20,6),(22,6),(24,6)] mixed (by kernel_rfl) ?_
  refine sim ?_
  (skip);refine callDA ?_;rintro ret os fs ⟨rfl,rfl,rfl⟩;refine sim ?_
  repeat' first|refine rn ?_|fail
  refine doneA [] ?_;try exact trivial
  exact ⟨rfl,rfl,rfl⟩
theorem f184_ok (m:MachD) (fp:Option FileD) (e:Bool) (h0:0≤m.file) (hl:m.files.length≤1000000):
  Fulfils Tryz.prog G 184 [.ref 0 lb 0] [.cells lb 0 (lrC c m fp e hf off l),.arr hf 293 1 (filesRw (filesT c.t m.files))] (retO (.tup []) [some (.cells lb 0 (lrC c m (selF c.t m.files m.file) e hf off l)),some (.arr hf 293 1 (filesRw (filesT c.t m.files)))]):=by
 have hbig:big=140737488355328:=rfl
 have hfl:=filesT_len c.t m.files
 have er:m.file < ((filesT c.t m.files).length:Nat)→(filesRw (filesT c.t m.files)).getD m.file.toNat [.val (.pointer none)]=[lfP (selF c.t m.files m.file)]:=by
  intro h
  unfold selF filesRw
  rw[List.getD_eq_getElem?_getD,List.getElem?_map,List.getElem?_eq_getElem (by omega)];rfl
 have hn:¬m.file < ((filesT c.t m.files).length:Nat)→selF c.t m.files m.file=none:=by
  intro h
  unfold selF
  rw[List.getElem?_eq_none (by omega)];rfl
 refine fulfilA Tryz.f184 [] 2 ?_
 simp only[Tryz.f184,Option.getD_some,go_sem]
 refine rn ?_
 refine hRegionD (noChi) [0,1,2,3,4,5,6,7,8,9] [0,1,3,7,0,16,48,112,240,511] [] mixed (by kernel_rfl) ?_
 refine sim ?_
 repeat' first|refine rn ?_|refine br fun hb=>?_|with_reducible refine And.intro ?_ ?_|fail
 ·have er:=er hb
  cases hs:selF c.t m.files m.file
  all_goals
   rw[hs] at er
   simp only[lfP] at er
   refine hRegionD (noChi) [0,1,2,3,4,5,6,7,8,9,10,11,12,13,14] [0,0,2,6,14,0,32,96,224,510,1022,2047,4095,8191,16383] [] mixed (by kernel_rfl) ?_
   refine simE @er ?_
   repeat' first|refine rnE @er ?_|fail
   all_goals first|(refine .inl ?_;omega)|skip
   refine doneA [] ?_;try exact trivial
   exact ⟨rfl,rfl,rfl⟩
 ·rw[hn (by omega)]
  skip
  refine doneA [] ?_;try exact trivial
  exact ⟨rfl,rfl,rfl⟩
attribute [go_sem] resetM
theorem f170_ok (m:MachD) (fp:Option FileD) (e:Bool) (hl:m.files.length≤1000000):
  Fulfils Tryz.prog G 170 [.ref 0 lb 0] [.cells lb 0 (lrC c m fp e hf off l),.arr hf 293 1 (filesRw (filesT c.t m.files))] (retO (.tup []) [some (.cells lb 0 (lrC c (resetM c.t m) (selF c.t m.files 1) false hf off l)),some (.arr hf 293 1 (filesRw (filesT c.t m.files)))]):=by
 have hbig:big=140737488355328:=rfl
 have f184:=f184_ok (G:=G) (c:=c) (lb:=lb) (hf:=hf) (off:=off) (l:=l) (resetM c.t m) none false (by simp[resetM]) hl
 generalize hq:selF c.t m.files 1=q
 rw[show selF c.t (resetM c.t m).files (resetM c.t m).file=q from hq] at f184
 refine fulfilA Tryz.f170 [] 2 ?_
 simp only[Tryz.f170,Option.getD_some,go_sem]
 refine rn ?_
 refine callA [0,1] 0 (f184) ?_;rintro ret os fs ⟨rfl,rfl,rfl⟩;refine sim ?_
 skip
 refine doneA [] ?_;try exact trivial
 exact ⟨rfl,rfl,rfl⟩
theorem f185_ok (m:MachD) (fp:Option FileD) (e:Bool) (n:Int) (ho:c.t.maxOps≠0):
  Fulfils Tryz.prog G 185 [.ref 0 lb 0,intV n] [.cells lb 0 (lrC c m fp e hf off l)] (retO (.tup []) [some (.cells lb 0 (lrC c (advM c.t m n) fp e hf off l))]):=by
 have hbig:big=140737488355328:=rfl
 refine fulfilA Tryz.f185 [] 1 ?_
 simp only[Tryz.f185,Option.getD_some,go_sem]
 refine rn ?_
 refine hRegionD (noChi) [0,1,2,3,4,5,6,7,8,9,10,11,12,13,14,15,16,17,18,19,20,21] [0,1,3,7,15,0,32,96,224,0,0,1024,3072,7168,15872,32736,65504,131071,262143,524287,1048575,2097151] [] mixed (by kernel_rfl) ?_
 refine sim ?_
 refine rn ?_
 refine doneA [] ?_;try exact trivial
 exact ⟨rfl,rfl,rfl⟩
theorem f142_ok (m:MachD) (fp:Option FileD) (e:Bool) (hl:m.files.length≤1000000) (hi:c.ini=(filesT c.t m.files).length) (h1:c.po≤c.eo) (h2:c.eo≤c.sec.length):
  Fulfils Tryz.prog G 142 [.ref 0 lb 0] [.cells lb 0 (lrC c m fp e hf off l),.arr hf 293 1 (filesRw (filesT c.t m.files))]
  (retO (.tup []) [some (.cells lb 0 (lrC c (resetM c.t m) (selF c.t m.files 1) false hf c.po ((c.sec.take c.eo).drop c.po))),some (.arr hf 293 1 (filesRw (filesT c.t m.files)))]):=by
 have hbig:big=140737488355328:=rfl
 refine fulfilA Tryz.f142 [] 2 ?_
 simp only[Tryz.f142,Option.getD_some,go_sem]
 refine rn ?_
 refine hRegionD (noChi) [0,1,2,3,4,5,6,7,8,9,10,11,12,13,14,15,16,17,18] [0,0,2,6,14,0,32,96,224,480,0,1024,3072,7168,16382,32767,65535,131071,262143] [] mixed (by kernel_rfl) ?_
 refine sim ?_
 refine rn ?_
 have hi':=hi.symm
 refine hRegionD (noChi) [0,1,2,3,4,5,6,7,8,9,10,11,12] [0,0,2,6,14,0,32,96,224,510,1023,2047,4095] [] mixed (by kernel_rfl) ?_
 refine simE @hi' ?_
 refine rnE @hi' ?_
 refine callA [0,1] 0 (f170_ok (c:=c) (lb:=lb) (hf:=hf) (off:=c.po) (l:=(c.sec.take c.eo).drop c.po) m fp e hl) ?_;rintro ret os fs ⟨rfl,rfl,rfl⟩;refine sim ?_
 skip
 refine doneA [] ?_;try exact trivial
 exact ⟨rfl,rfl,rfl⟩
end
set_option maxHeartbeats 4000000
set_option maxRecDepth 10000
open Go.AM Go
section
variable {G:Nat→AV}
theorem f208_ok (l:Bytes) (c:UInt8):Fulfils Tryz.prog G 208 [strV l,.val (.int .u8 c.toNat)] [] (retP (intV (Go.Lib.indexByte l c))):=by
 rintro M w vs hmw hG ⟨v,_,rfl,hv, ⟨u,_,rfl,hu,e⟩⟩ _ _
 simp only[relT] at e
 subst e
 cases hu
 cases hv
 have hrun:(callFunc 208 [Value.string ⟨l.toArray⟩,Value.int .u8 c.toNat].toArray).run Tryz.prog w= .ok (.value (.int .i64 (Go.Lib.indexByte l c))) w:=by
  rw[run_callFunc_extern (fn:=Tryz.f208) (e:=Extern.BytealgIndexByte.indexByte) (by kernel_rfl) (by kernel_rfl) (by kernel_rfl) (by kernel_rfl) (by kernel_rfl)]
  have:=Go.Lib.run_indexByteString (P:=Tryz.prog) ⟨l.toArray⟩ c.toNat w
  rw[this]
  simp
 unfold CallsX
 rw[hrun]
 exact ⟨M,_,_,_, ⟨rfl,rfl,rfl⟩,fun _=>rfl,After.refl0 hmw⟩
theorem f201_ok (l:Bytes) (c:UInt8):Fulfils Tryz.prog G 201 [strV l,.val (.int .u8 c.toNat)] [] (retP (intV (Go.Lib.indexByte l c))):=by
 refine fulfilP (fn:=Tryz.f201) (rs:=[.tmp 4]) (Tryz.f201.body.getD .skip) (by kernel_rfl) rfl rfl rfl (by simp only[List.length_cons,List.length_nil];decide) rfl (by decide) ?_
 simp only[Tryz.f201,Option.getD_some,go_sem]
 refine rn ?_
 refine callP (f208_ok l c) rfl ?_;refine sim ?_
 exact rn trivial
theorem f192_ok (l:Bytes):Fulfils Tryz.prog G 192 [strV l,.val (.int .u8 92)] [] (retP (intV (Go.Lib.indexByte l 92))):=by
 refine fulfilP (fn:=Tryz.f192) (rs:=[.tmp 4]) (Tryz.f192.body.getD .skip) (by kernel_rfl) rfl rfl rfl (by simp only[List.length_cons,List.length_nil];decide) rfl (by decide) ?_
 simp only[Tryz.f192,Option.getD_some,go_sem]
 refine rn ?_
 refine callP (f201_ok l 92) rfl ?_;refine sim ?_
 exact rn trivial
theorem indexByte_cons (x c:UInt8) (s:Bytes):Go.Lib.indexByte (x :: s) c=if (x == c) then 0 else if Go.Lib.indexByte s c == -1 then -1 else Go.Lib.indexByte s c+1:=rfl
theorem index_spec (c:UInt8):∀l:Bytes,Go.Lib.indexByte l c= -1∨∃k:Nat,Go.Lib.indexByte l c=k∧l[k]? =some c
 | []=>.inl rfl
 |x :: s=>by
  rw[indexByte_cons]
  by_cases hx:(x == c)=true
  ·rw[if_pos hx]
   exact .inr ⟨0,rfl,by rw[beq_iff_eq] at hx;simp[hx]⟩
  ·rw[if_neg hx]
   rcases index_spec c s with h| ⟨k,h,hk⟩
   ·rw[h];exact .inl rfl
   ·have:((k:Int) == -1)=false:=by rw[beq_eq_false_iff_ne];omega
    rw[h,this]
    exact .inr ⟨k+1,by simp,by simpa using hk⟩
theorem f200_ok (s:Bytes) (hs:s.length≤100000):Fulfils Tryz.prog G 200 [strV s,strV [47]] []
  (fun ret os fs=>os=[]∧fs=[]∧((ret=(fun _=>intV (-1))∧∀x∈s,x≠47)∨∃a t,s=a++47 :: t∧(∀x∈a,x≠47)∧ret=fun _=>intV a.length)):=by
 have hbig:big=140737488355328:=rfl
 refine fulfilA Tryz.f200 [.tmp 4] 0 ?_
 simp only[Tryz.f200,Option.getD_some,go_sem]
 refine rn ?_
 refine hLoop (X:={i:Nat // i≤s.length∧∀x∈s.take i,x≠47}) (fun i=> ⟨[(0,strV s),(1,strV [47]),(5,intV i.1)],[]⟩) (fun i=>s.length - i.1) ⟨0,by simp⟩ (by exact sT;all_goals ((repeat' refine And.intro ?_ ?_)<;>first|rfl|omega|(dsimp only;omega)|(simp;done)|(simp;rfl)|skip)) ?_
 rintro ⟨i,hi,hall⟩
 refine sim ?_
 have w1:IntKind.i64.wrap ((i:Int)+1)=((i+1:Nat):Int):=by rw[wrap_i64 (by omega) (by omega)];simp
 have w2:IntKind.i64.wrap ((i:Int)+((1:Nat):Int))=((i+1:Nat):Int):=w1
 by_cases hlt:i < s.length
 ·obtain ⟨x,hx⟩ :=getX s hlt
  have hd:(s.take (i+1)).drop i=[x]:=by rw[take_succ hx,List.drop_left' (by simp;omega)]
  have hcut:=List.take_append_drop i s
  rw[List.drop_eq_getElem_cons hlt,(List.getElem?_eq_some_iff.1 hx).2] at hcut
  repeat' first|refine rnE (And.intro @w1 (And.intro @w2 @hd)) ?_|refine br fun hb=>?_|with_reducible refine And.intro ?_ ?_|fail
  ·refine doneA [] ?_;try exact trivial
   have hx47:x=47:=by simpa using hb
   subst hx47
   exact .inr ⟨s.take i,s.drop (i+1),hcut.symm,hall,by simp[List.length_take,Nat.min_eq_left hi,intV]⟩
  ·have hx47:x≠47:=by simpa using hb
   exact ⟨⟨i+1,hlt,all_snoc hx hall hx47⟩,rfl,by dsimp only;omega⟩
 ·have:i=s.length:=by omega
  subst this
  rw[List.take_length] at hall
  refine rnE (And.intro @w1 @w2) ?_
  refine doneA [] ?_;try exact trivial
  exact .inl hall
def repS (l:Bytes):Bytes:=l.map fun x=>if x=47 then 92 else x
theorem repS_no {l:Bytes} (h:∀x∈l,x≠47):repS l=l:=by
 unfold repS
 conv=>rhs;rw[←List.map_id l]
 exact List.map_congr_left fun x hx=>if_neg (h x hx)
theorem f191_ok (s:Bytes) (hs:s.length≤100000):Fulfils Tryz.prog G 191 [strV s,strV [47],strV [92]] [] (retP (strV (repS s))):=by
 have hbig:big=140737488355328:=rfl
 refine fulfilA Tryz.f191 [.tmp 6] 0 ?_
 simp only[Tryz.f191,Option.getD_some,go_sem]
 refine rn ?_
 refine hEnt (eOwn 3001 7 5 1 sT) ?_
 refine sim ?_
 have hrl:(repS s).length=s.length:=by simp[repS]
 refine hLoop (X:={p:Value×Bytes×Bytes // p.2.1++repS p.2.2=repS s}) (fun p=> ⟨[(0,strV p.1.2.2),(1,strV [47]),(2,strV [92]),(7,.buf 3001 p.1.1)],[(3001,some (.arr p.1.1 5 1 (bytesR p.1.2.1)))]⟩) (fun p=>p.1.2.2.length) ⟨(.slice none 0 0,[],s),rfl⟩ (by refine sim ?_;all_goals ((repeat' refine And.intro ?_ ?_)<;>rfl)) ?_
 rintro ⟨⟨h,o,q⟩,ho⟩
 simp only at ho
 refine sim ?_
 have hol:=congrArg List.length ho
 have hql:(repS q).length=q.length:=by simp[repS]
 rw[List.length_append,hrl,hql] at hol
 refine rn ?_
 refine callX [] 0 (f200_ok q (by omega)) rfl rfl (by simp) ?_
 rintro ret os fs ⟨rfl,rfl, ⟨rfl,hall⟩ | ⟨a,t,rfl,hall,rfl⟩⟩
 ·refine sim ?_
  repeat' first|refine rn ?_|with_reducible refine fun (_:Outc)=>?_|fail
  refine doneA [] ?_;try exact trivial
  rw[←ho,repS_no hall]
  exact ⟨rfl,rfl,rfl⟩
 ·refine sim ?_
  have hal:a.length≤100000:=by simp only[List.length_append] at hol;omega
  have w1:IntKind.i64.wrap ((a.length:Int)+((1:Nat):Int))=((a.length+1:Nat):Int):=by rw[wrap_i64 (by omega) (by omega)];simp
  have e1:(a++47 :: t).take a.length=a:=List.take_left' rfl
  have e2:(a++47 :: t).take (a.length+(t.length+1))=a++47 :: t:=List.take_of_length_le (by simp)
  have e3:(a++47 :: t).drop (a.length+1)=t:=by rw[←List.drop_drop,List.drop_left' rfl];rfl
  have er:o++a++[92]++repS t=repS s:=by
   rw[←ho]
   have:=repS_no hall
   simp only[repS,List.map_append,List.map_cons] at this ⊢
   rw[this];simp
  simp only[List.length_append,List.length_cons] at hol
  repeat' first|refine rnE (And.intro @w1 (And.intro @e1 (And.intro @e2 @e3))) ?_|with_reducible refine fun (_:Outc)=>?_|fail
  rename Outc=>oz
  refine ⟨⟨(oz.h,o++a++[92],t),er⟩, ?_⟩
  ((repeat' refine And.intro ?_ ?_)<;>first|rfl|(dsimp only;omega))
theorem repS_get {s:Bytes} {i:Nat} (h:(repS s)[i]? =some 92):s[i]? =some 47∨s[i]? =some 92:=by
 unfold repS at h
 rw[List.getElem?_map] at h
 cases hx:s[i]? with
 |none=>rw[hx] at h;cases h
 |some x=>
  rw[hx] at h
  simp only[Option.map_some,Option.some.injEq] at h
  split at h
  ·rename_i e;subst e;exact .inl rfl
  ·subst h;exact .inr rfl
theorem f179_ok (r:Bytes) (hs:r.length≤50000):Fulfils Tryz.prog G 179 [strV (47 :: r)] []
  (fun ret os fs=>os=[]∧fs=[]∧∃(a b:Bytes) (x:UInt8),ret=(fun _=>.tup [strV a,strV (x :: b)])∧(x=47∨x=92)):=by
 have hbig:big=140737488355328:=rfl
 have hq:∀i,(repS (47 :: r))[i]? =some 92→∃x b,(47 :: r).drop i=x :: b∧(x=47∨x=92):=by
  intro i h
  rcases repS_get h with h|h
  all_goals
   obtain ⟨hi,e⟩ :=List.getElem?_eq_some_iff.1 h
   exact ⟨_,_,List.drop_eq_getElem_cons hi,by rw[e];simp⟩
 have hql:(repS (47 :: r)).length=r.length+1:=by simp[repS]
 have f191:=f191_ok (G:=G) (47 :: r) (by simp;omega)
 generalize repS (47 :: r)=q at *
 refine fulfilA Tryz.f179 [.tmp 2,.tmp 3] 0 ?_
 simp only[Tryz.f179,Option.getD_some,go_sem]
 repeat' first|refine rn ?_|refine br fun hb=>?_|with_reducible refine And.intro ?_ ?_|omega
 all_goals try (simp only[Bool.and_eq_true,decide_eq_true_eq] at hb;omega)
 all_goals try (refine doneA [] ?_;exact ⟨[],r,47,rfl,.inl rfl⟩)
 refine callP f191 rfl ?_;refine sim ?_
 have hl3:3≤r.length:=by omega
 have t1:q.take (r.length+1)=q:=List.take_of_length_le (by omega)
 have f192:=f192_ok (G:=G) (q.drop 2)
 rcases index_spec 92 (q.drop 2) with h| ⟨k,h,hk⟩
 ·rw[h] at f192
  refine rnE (And.intro @hql @t1) ?_
  refine callP f192 rfl ?_;refine sim ?_
  refine rn ?_
  all_goals (refine doneA [] ?_;exact ⟨[],r,47,rfl,.inl rfl⟩)
 ·rw[h] at f192
  rw[List.getElem?_drop] at hk
  have hkl:=(List.getElem?_eq_some_iff.1 hk).1
  have w1:IntKind.i64.wrap ((k:Int)+2)=((k+2:Nat):Int):=by rw[wrap_i64 (by omega) (by omega)];simp
  have w2:IntKind.i64.wrap (((k+2:Nat):Int)+1)=((k+3:Nat):Int):=by rw[wrap_i64 (by omega) (by omega)];simp;omega
  have f192':=f192_ok (G:=G) (q.drop (k+3))
  refine rnE (And.intro @hql @t1) ?_
  refine callP f192 rfl ?_;refine sim ?_
  by_cases hk0:k=0
  ·subst hk0
   refine rnE @w1 ?_
   all_goals (refine doneA [] ?_;exact ⟨[],r,47,rfl,.inl rfl⟩)
  ·rcases index_spec 92 (q.drop (k+3)) with h'| ⟨j,h',hj⟩
   ·rw[h'] at f192'
    have w3:IntKind.i64.wrap (-1+((k+2:Nat):Int))=((k+1:Nat):Int):=by rw[wrap_i64 (by omega) (by omega)];omega
    have w4:IntKind.i64.wrap (((k+1:Nat):Int)+1)=((k+2:Nat):Int):=by rw[wrap_i64 (by omega) (by omega)];omega
    refine rnE (And.intro @w1 (And.intro @w2 (And.intro @hql @t1))) ?_
    refine callP f192' rfl ?_;refine sim ?_
    refine rnE (And.intro @w3 @w4) ?_
    all_goals (refine doneA [] ?_;exact ⟨[],r,47,rfl,.inl rfl⟩)
   ·rw[h'] at f192'
    rw[List.getElem?_drop] at hj
    have hjl:=(List.getElem?_eq_some_iff.1 hj).1
    obtain ⟨x,b,hx,hxx⟩ :=hq _ hj
    have w3:IntKind.i64.wrap ((j:Int)+((k+2:Nat):Int))=((j+k+2:Nat):Int):=by rw[wrap_i64 (by omega) (by omega)];omega
    have w4:IntKind.i64.wrap (((j+k+2:Nat):Int)+1)=((k+3+j:Nat):Int):=by rw[wrap_i64 (by omega) (by omega)];omega
    refine rnE (And.intro @w1 (And.intro @w2 (And.intro @hql @t1))) ?_
    refine callP f192' rfl ?_;refine sim ?_
    refine rnE (And.intro @w3 @w4) ?_
    refine hRegionD (noChi) [0,1,2,3,4,5,6,7] [0,0,3,0,0,24,7,127] [] mixed (by kernel_rfl) ?_
    have t2:(47 :: r).take (r.length+1)=47 :: r:=List.take_of_length_le (by simp)
    refine simE (And.intro @t2 @hx) ?_
    refine rnE (And.intro @t2 @hx) ?_
    refine doneA [] ?_;exact ⟨_,b,x,rfl,hxx⟩
theorem f165_ok (r:Bytes) (hs:r.length≤50000):Fulfils Tryz.prog G 165 [strV (47 :: r)] [] (retP (booV true)):=by
 have hbig:big=140737488355328:=rfl
 refine fulfilA Tryz.f165 [.tmp 2] 0 ?_
 simp only[Tryz.f165,Option.getD_some,go_sem]
 refine rn ?_
 refine callX [] 0 (f179_ok r hs) rfl rfl (by simp) ?_
 rintro ret os fs ⟨rfl,rfl,a,b,x,rfl,rfl|rfl⟩
 all_goals
  refine sim ?_
  repeat' first|refine rn ?_|refine br fun hb=>?_|with_reducible refine And.intro ?_ ?_|omega
  refine doneA [] ?_;try exact trivial
  refine ⟨?_,rfl,rfl⟩
  rw[show decide (((b.length+1:Nat):Int) > 0)=true by rw[decide_eq_true_eq];omega];rfl
end
set_option maxHeartbeats 4000000
set_option maxRecDepth 10000
open Go.AM Go
structure FileRd (f:FileD):Prop where
 name:∃r,f.name=47 :: r
 len:f.name.length≤4096
 text:isText f.name=true
 mtime:0≤f.mtime∧f.mtime < 18446744073709551616
 length:0≤f.length∧f.length≤2147483648
def addF (m:MachD) (f:FileD):MachD:={ m with files:=m.files++[f] }
theorem filesT_snoc {t:TableD} (h:t.version < 5) (l:List FileD) (f:FileD):filesRw (filesT t l)++[[lfP (some f)]]=filesRw (filesT t (l++[f])):=by
 simp[filesRw,filesT,h]
attribute [go_sem] fitR_app
section
variable {G:Nat→AV} {g:GData} {c:LCtx} {lb:Nat} {hf:Value} {off:Nat}
theorem f127n_ok {b:Nat} {dw fm:AV} {bg:Bool} {nm:Bytes} {post:List AV} (off:Nat) (l:Bytes) (h:off+1 < 4294967296):Fulfils Tryz.prog G 127 [.ref 0 b 0] [bufO b dw bg fm nm off (0 :: l) post] (retO (strV []) [some (bufO b dw bg fm nm (off+1) l post)]):=f127_ok off [] l rfl (by simpa using h)
theorem f167e_ok (m:MachD) (fp:Option FileD) (e:Bool) (rest:Bytes) (ho:off+1 < 4294967296):
  Fulfils Tryz.prog G 167 [.ref 0 lb 0] [.cells lb 0 (lrC c m fp e hf off (0 :: rest)),.arr hf 293 1 (filesRw (filesT c.t m.files))]
  (retO (.tup [booV true,.val .nilIface]) [some (.cells lb 0 (lrC c m fp e hf (off+1) rest)),some (.arr hf 293 1 (filesRw (filesT c.t m.files)))]):=by
 have hbig:big=140737488355328:=rfl
 refine fulfilA Tryz.f167 [.tmp 2,.tmp 3] 2 ?_
 simp only[Tryz.f167,Option.getD_some,go_sem]
 refine rn ?_
 refine callU [0] 0 (f127n_ok off rest ho) ?_;rintro ret os fs ⟨rfl,rfl,rfl⟩;refine sim ?_
 refine rn ?_
 refine doneA [] ?_;try exact trivial
 exact ⟨rfl,rfl,rfl⟩
theorem f167_ok (m:MachD) (fp:Option FileD) (e:Bool) (f:FileD) (pad:Int) (rest:Bytes) (hv:c.t.version < 5) (hp:0≤pad∧pad≤3) (hF:FileRd f) (ho:off+(fileText pad f++rest).length≤2000000000) (hl:m.files.length≤1000000):
  Fulfils Tryz.prog G 167 [.ref 0 lb 0] [.cells lb 0 (lrC c m fp e hf off (fileText pad f++rest)),.arr hf 293 1 (filesRw (filesT c.t m.files))]
  (fun ret os fs=>∃hf',ret=(fun _=>.tup [booV false,.val .nilIface])∧os=[some (.cells lb 0 (lrC c (addF m f) fp e hf' (off+(fileText pad f).length) rest)),some (.arr hf' 293 1 (filesRw (filesT c.t (m.files++[f]))))]∧fs=[]):=by
 have hbig:big=140737488355328:=rfl
 obtain ⟨⟨r,hr⟩,hnl,htx,hmt,hln⟩ :=hF
 obtain ⟨M,hM⟩ :∃M:Nat,f.mtime=M:= ⟨f.mtime.toNat,by omega⟩
 obtain ⟨N,hN⟩ :∃N:Nat,f.length=N:= ⟨f.length.toNat,by omega⟩
 have ht:fileText pad f++rest=f.name++0 :: (encU 0 pad.toNat++(encU M pad.toNat++(encU N pad.toNat++rest))):=by simp[fileText,hM,hN]
 have htl:=congrArg List.length ht
 simp only[List.length_append,List.length_cons] at htl ho
 have l0:=encU_len pad.toNat (n:=0) (by omega)
 have lM:=encU_len pad.toNat (n:=M) (by omega)
 have lN:=encU_len pad.toNat (n:=N) (by omega)
 have wN:=wrap_i64 (n:=(N:Int)) (by omega) (by omega)
 have hfl:=filesT_len c.t m.files
 rw[if_pos hv] at hfl
 have f165:=f165_ok (G:=G) r (by rw[hr] at hnl;simp at hnl;omega)
 rw[←hr] at f165
 rw[ht]
 have hz:((f.name.length:Int) == 0)=false:=by rw[beq_eq_false_iff_ne,hr];simp;omega
 refine fulfilA Tryz.f167 [.tmp 2,.tmp 3] 2 ?_
 simp only[Tryz.f167,Option.getD_some,go_sem]
 refine rn ?_
 refine callU [0] 0 (f127_ok off f.name (encU 0 pad.toNat++(encU M pad.toNat++(encU N pad.toNat++rest))) htx (by omega)) ?_;rintro ret os fs ⟨rfl,rfl,rfl⟩;refine sim ?_
 refine rnE @hz ?_
 refine callU [0] 0 (f121_ok (off+(f.name.length+1)) 0 pad.toNat (encU M pad.toNat++(encU N pad.toNat++rest)) (by omega) (by omega) (by omega) (by simp only[List.length_append];omega)) ?_;rintro ret os fs ⟨rfl,rfl,rfl⟩;refine sim ?_
 refine rn ?_
 refine callP f165 rfl ?_;refine sim ?_
 refine rn ?_
 refine callU [0] 0 (f121_ok (off+(f.name.length+1)+(encU 0 pad.toNat).length) M pad.toNat (encU N pad.toNat++rest) (by omega) (by omega) (by omega) (by simp only[List.length_append];omega)) ?_;rintro ret os fs ⟨rfl,rfl,rfl⟩;refine sim ?_
 refine rn ?_
 refine callU [0] 0 (f121_ok (off+(f.name.length+1)+(encU 0 pad.toNat).length+(encU M pad.toNat).length) N pad.toNat rest (by omega) (by omega) (by omega) (by omega)) ?_;rintro ret os fs ⟨rfl,rfl,rfl⟩;refine sim ?_
 refine rnE @wN ?_
 have es:=filesT_snoc hv m.files f
 simp only[lfP,strV,u64V,intV,hM,hN] at es
 have w1:IntKind.i64.wrap (((filesT c.t m.files).length:Int)+1)=(((filesT c.t m.files).length+1:Nat):Int):=by rw[wrap_i64 (by omega) (by omega)];simp
 have w2:IntKind.i64.wrap ((((filesT c.t m.files).length+1:Nat):Int) - 1)=((filesT c.t m.files).length:Int):=by rw[wrap_i64 (by omega) (by omega)];omega
 have eg:(filesRw (filesT c.t m.files)).getD (filesT c.t m.files).length [AV.val (.pointer none)]=[.val (.pointer none)]:=by
  rw[List.getD_eq_getElem?_getD,List.getElem?_eq_none (by rw[filesRw_len];omega)];rfl
 have hoff:off+(f.name.length+1)+(encU 0 pad.toNat).length+(encU M pad.toNat).length+(encU N pad.toNat).length=off+(fileText pad f).length:=by omega
 refine hRegionD (noChi) [0,1,2,3,4,5,6,7,8,9,10] [0,1,3,7,15,0,32,96,224,480,1023] [(3,9),(4,9)] mixed (by kernel_rfl) ?_
 refine sim ?_
 repeat' first|refine s1 ?_|refine hRegion (sim ?_)|refine hSkip (sim ?_)|refine s7 rfl (fun hb=>?_) fun hb=>?_|with_reducible refine And.intro ?_ ?_|with_reducible refine fun (_:Outc)=>?_|omega
 ·have e9:((((filesT c.t m.files).length+1:Nat):Int)=((filesT c.t m.files).length:Int))=False:=eq_false (by omega)
  refine hRegionD (noChi) [0,1,2,3,4,5,6,7,8,9,10,11] [0,1,3,7,0,16,48,112,240,496,1023,2047] [] mixed (by kernel_rfl) ?_
  refine simE (And.intro @w1 @e9) ?_
  refine ⟨by first|exact .inr ⟨by omega,by omega,.inr (by omega)⟩ |exact ⟨by omega,by omega,.inr (by omega)⟩, ?_⟩
  repeat' first|refine s1 ?_|refine hRegion (simE (And.intro @w1 (And.intro @w2 @eg)) ?_)|refine hSkip (simE (And.intro @w1 (And.intro @w2 @eg)) ?_)|(refine s7 rfl ?_ ?_<;>intro hb<;>first|(exact absurd hb (by decide))|skip)|with_reducible refine And.intro ?_ ?_|with_reducible refine fun (_:Outc)=>?_|omega
  refine hEnt (eFrz 111 (by simp -implicitDefEqProofs only[go_sem,↓reduceIte,Nat.reduceEqDiff,Nat.reduceLT,Nat.reduceLeDiff,Nat.reduceAdd,Nat.reduceSub,Nat.reduceMul,reduceCtorEq,List.reduceReplicate,Nat.reduceBEq,fitR,fitL])) ?_;simp -implicitDefEqProofs only[go_sem,↓reduceIte,Nat.reduceEqDiff,Nat.reduceLT,Nat.reduceLeDiff,Nat.reduceAdd,Nat.reduceSub,Nat.reduceMul,reduceCtorEq,List.reduceReplicate,Nat.reduceBEq,turnR,turnL]
  rw[wN,es,hoff]
  refine rn ?_
  refine doneA [] ?_;try exact trivial
  exact ⟨_,rfl⟩
 ·refine hEnt (eFrz 111 (by simp -implicitDefEqProofs only[go_sem,↓reduceIte,Nat.reduceEqDiff,Nat.reduceLT,Nat.reduceLeDiff,Nat.reduceAdd,Nat.reduceSub,Nat.reduceMul,reduceCtorEq,List.reduceReplicate,Nat.reduceBEq,fitR,fitL])) ?_;simp -implicitDefEqProofs only[go_sem,↓reduceIte,Nat.reduceEqDiff,Nat.reduceLT,Nat.reduceLeDiff,Nat.reduceAdd,Nat.reduceSub,Nat.reduceMul,reduceCtorEq,List.reduceReplicate,Nat.reduceBEq,turnR,turnL]
  rw[wN,es,hoff]
  refine rn ?_
  refine doneA [] ?_;try exact trivial
  exact ⟨_,rfl⟩
end
set_option maxHeartbeats 4000000
set_option maxRecDepth 10000
open Go.AM Go
def fmtC (p:UInt8×UInt8):List AV:=[intV (p.1.toNat:Int),.val (.int .u32 (p.2.toNat:Int))]
def fmtR (l:List (UInt8×UInt8)):List (List AV):=l.map fmtC
def fmtText (l:List (UInt8×UInt8)):Bytes:=UInt8.ofNat l.length :: l.flatMap fun p=>[p.1,p.2]
theorem enc_sm (b:UInt8) (h:b.toNat < 128):encU b.toNat 0=[b]:=by rw[encU,leb,dif_pos h];simp[carry]
def fillR (l:List (UInt8×UInt8)) (j:Nat):List (List AV):=fmtR (l.take j)++List.replicate (l.length - j) [intV 0,.val (.int .u32 0)]
theorem fillR_len {l:List (UInt8×UInt8)} {j:Nat} (h:j≤l.length):(fillR l j).length=l.length:=by simp[fillR,fmtR];omega
theorem fillR_get {l:List (UInt8×UInt8)} {j:Nat} (h:j < l.length):(fillR l j).getD j []=[intV 0,.val (.int .u32 0)]:=by
 unfold fillR
 rw[List.getD_eq_getElem?_getD,List.getElem?_append_right (by simp[fmtR];omega),List.getElem?_replicate,if_pos (by simp[fmtR];omega)];rfl
theorem fillR_set {l:List (UInt8×UInt8)} {j:Nat} {p:UInt8×UInt8} (h:l[j]? =some p):(fillR l j).set j (fmtC p)=fillR l (j+1):=by
 have hj:=(List.getElem?_eq_some_iff.1 h).1
 have hl:(fmtR (l.take j)).length=j:=by simp[fmtR];omega
 unfold fillR
 rw[List.set_append_right _ _ (by omega),hl,Nat.sub_self,take_succ h,show l.length - j=(l.length - (j+1))+1 by omega,List.replicate_succ,List.set_cons_zero]
 simp[fmtR]
theorem fitR_fmt {p:AV→Prop} [StillP p] (l:List (UInt8×UInt8)):fitR p (fmtR l)=True:=eq_true (fitR_map (g:=fmtC) (fun o=> ⟨fit_v,fit_v,trivial⟩) l)
theorem turnR_fmt {f:AV→AV} [Still f] [StillQ f] (l:List (UInt8×UInt8)):turnR f (fmtR l)=fmtR l:=turnR_map (g:=fmtC) (fun o=>by simp only[fmtC,AV.turn,turnL,intV,Still.i]) l
attribute [go_sem] fitR_fmt turnR_fmt
theorem flat2 (l:List (UInt8×UInt8)):(l.flatMap fun p=>[p.1,p.2]).length=2 * l.length:=by
 induction l with
 |nil=>rfl
 |cons a l ih=>simp only[List.flatMap_cons,List.length_append,ih,List.length_cons,List.length_nil];omega
section
variable {G:Nat→AV} {g:GData} {lb:Nat} {off:Nat} {b:Nat} {dw fm:AV} {bg:Bool} {nm:Bytes} {post:List AV}
theorem f121b_ok (off:Nat) (x:UInt8) (l:Bytes) (hx:x.toNat < 128) (h:off+1 < 4294967296) (hbl:l.length≤3000000000):Fulfils Tryz.prog G 121 [.ref 0 b 0] [bufO b dw bg fm nm off (x :: l) post] (retO (.val (.int .u64 (x.toNat:Int))) [some (bufO b dw bg fm nm (off+1) l post)]):=by
 have:=f121_ok (G:=G) (b:=b) (dw:=dw) (fm:=fm) (bg:=bg) (nm:=nm) (post:=post) off x.toNat 0 l (by omega) (by decide) (by rw[enc_sm x hx];exact h) hbl
 rw[enc_sm x hx] at this
 exact this
theorem f168_ok (l:List (UInt8×UInt8)) (rest:Bytes) (hl:l.length≤100) (hb:∀p∈l,p.1.toNat < 128∧p.2.toNat < 128) (ho:off+(fmtText l++rest).length≤2000000000) (hT:∀σ:Nat→Nat,(∀x,100≤x→σ x=x)→dw.turn (rkA σ)=dw∧fm.turn (rkA σ)=fm∧turnL (rkA σ) post=post):
  Fulfils Tryz.prog G 168 [.ref 0 b 0] [bufO b dw bg fm nm off (fmtText l++rest) post]
  (retB 1 357 2 (fmtR l) [some (bufO b dw bg fm nm (off+(fmtText l).length) rest post)]):=by
 have hbig:big=140737488355328:=rfl
 have htl:(fmtText l).length=1+2 * l.length:=by
  rw[fmtText,List.length_cons,flat2];omega
 rw[List.length_append] at ho
 have hn:((UInt8.ofNat l.length).toNat:Int)=l.length:=by simp;omega
 refine fulfilA Tryz.f168 [.tmp 2] 1 ?_
 simp only[Tryz.f168,Option.getD_some,go_sem]
 refine rn ?_
 refine callU [0] 0 (f132_ok off (UInt8.ofNat l.length) ((l.flatMap fun p=>[p.1,p.2])++rest) (by omega)) ?_;rintro ret os fs ⟨rfl,rfl,rfl⟩;refine sim ?_
 repeat' first|refine rnE @hn ?_|with_reducible refine fun (_:Outc)=>?_|fail
 rename_i o2
 refine hLoop (X:={j:Nat // j≤l.length}) (fun j=> ⟨[(0,.ref 0 b 0),(4,.buf 11 o2.h),(13,intV l.length),(14,intV j.1)],[(0,some (bufO b dw bg fm nm (off+1+2 * j.1) (((l.drop j.1).flatMap fun p=>[p.1,p.2])++rest) post)),(11,some (.arr o2.h 357 2 (fillR l j.1)))]⟩) (fun j=>l.length - j.1) ⟨0,by omega⟩ (by refine sim ?_;all_goals ((repeat' refine And.intro ?_ ?_)<;>rfl)) ?_
 rintro ⟨j,hj⟩
 refine sim ?_
 by_cases hlt:j < l.length
 ·obtain ⟨p,hp⟩ :=getX l hlt
  have hpb:=hb p (List.mem_of_getElem? hp)
  have hd:l.drop j=p :: l.drop (j+1):=by
   obtain ⟨h1,h2⟩ :=List.getElem?_eq_some_iff.1 hp
   rw[List.drop_eq_getElem_cons h1,h2]
  have hR:(((l.drop (j+1)).flatMap fun p=>[p.1,p.2])++rest).length≤2000000000:=by
   rw[List.length_append,flat2];simp only[List.length_drop];omega
  rw[hd,List.flatMap_cons]
  have e1:=fillR_get hlt
  have e2:=fillR_set hp
  have e3:=fillR_len hj
  have w4:IntKind.i64.wrap ((j:Int)+1)=((j+1:Nat):Int):=by rw[wrap_i64 (by omega) (by omega)];simp
  have w5:IntKind.i64.wrap (p.1.toNat:Int)=p.1.toNat:=wrap_i64 (by omega) (by omega)
  have w6:IntKind.u32.wrap (p.2.toNat:Int)=p.2.toNat:=wrap_u32 _ (by omega)
  have e4:∀r:List AV,((fillR l j).set j r).getD j []=r:=fun r=>by rw[List.getD_eq_getElem?_getD,List.getElem?_set_self (by rw[e3];exact hlt)];rfl
  have e5:∀r s:List AV,((fillR l j).set j r).set j s=(fillR l j).set j s:=fun r s=>List.set_set ..
  have e6:∀r:List AV,((fillR l j).set j r).length=l.length:=fun r=>by rw[List.length_set,e3]
  simp only[fmtC,intV] at e1 e2
  refine rn ?_
  refine callU [0] 0 (f121b_ok (off+1+2 * j) p.1 (p.2 :: (((l.drop (j+1)).flatMap fun p=>[p.1,p.2])++rest)) hpb.1 (by omega) (by simp only[List.length_cons];omega)) ?_;rintro ret os fs ⟨rfl,rfl,rfl⟩;refine sim ?_
  refine rnE (And.intro @e1 (And.intro @e2 (And.intro @e3 @w5))) ?_
  refine callU [0] 0 (f121b_ok (off+1+2 * j+1) p.2 (((l.drop (j+1)).flatMap fun p=>[p.1,p.2])++rest) hpb.2 (by omega) (by omega)) ?_;rintro ret os fs ⟨rfl,rfl,rfl⟩;refine sim ?_
  refine rnE (And.intro @e1 (And.intro @e2 (And.intro @e3 (And.intro @e4 (And.intro @e5 (And.intro @e6 (And.intro @w4 @w6))))))) ?_
  exact ⟨⟨j+1,by omega⟩,by refine sim ?_;all_goals ((repeat' refine And.intro ?_ ?_)<;>first|rfl|omega)⟩
 ·have:j=l.length:=by omega
  subst this
  refine rn ?_
  have hT:=hT (fun x=>if 11=x then 1 else x) (fun x hx=>if_neg (by omega))
  refine doneA [(11,1)] ?_;try exact trivial
  refine ⟨_,rfl, ?_, ?_⟩
  ·simp only[hT.1,hT.2.1,hT.2.2,htl,Nat.add_assoc,List.drop_length,List.flatMap_nil,List.nil_append]
  ·simp[fillR,turnR_fmt]
end
set_option maxHeartbeats 4000000
set_option maxRecDepth 10000
open Go.AM Go
def lineStrN:Bytes:=[108,105,110,101,95,115,116,114]
attribute [go_sem] lineStrN
def fmtA:List (UInt8×UInt8):=[(1,8),(3,15),(4,15)]
def fmtB:List (UInt8×UInt8):=[(1,31),(5,30),(4,6),(3,7)]
theorem fmtA_eq:fmtR fmtA=[[intV 1,.val (.int .u32 8)],[intV 3,.val (.int .u32 15)],[intV 4,.val (.int .u32 15)]]:=rfl
theorem fmtB_eq:fmtR fmtB=[[intV 1,.val (.int .u32 31)],[intV 5,.val (.int .u32 30)],[intV 4,.val (.int .u32 6)],[intV 3,.val (.int .u32 7)]]:=rfl
section
variable {G:Nat→AV} {g:GData} {b:Nat} {dw fm:AV} {bg:Bool} {nm:Bytes} {post:List AV}
theorem f169a_ok (off:Nat) (t:TableD) (f:FileD) (at':Nat) (w:Bool) (rest:Bytes) (hs:t.shape=0) (hp:0≤t.pad∧t.pad≤3) (hF:FileRd f) (ho:off+(fileN t at' f++rest).length≤2000000000):
  Fulfils Tryz.prog G 169 [.ref 0 b 0,.dat false 2 (fmtR fmtA),booV w] [bufO b dw bg fm nm off (fileN t at' f++rest) post]
  (retO (.tup [strV f.name,u64V f.mtime,u64V f.length,.val .nilIface]) [some (bufO b dw bg fm nm (off+(fileN t at' f).length) rest post)]):=by
 have hbig:big=140737488355328:=rfl
 obtain ⟨⟨r,hr⟩,hnl,htx,hmt,hln⟩ :=hF
 obtain ⟨M,hM⟩ :∃M:Nat,f.mtime=M:= ⟨f.mtime.toNat,by omega⟩
 obtain ⟨N,hN⟩ :∃N:Nat,f.length=N:= ⟨f.length.toNat,by omega⟩
 have ht:fileN t at' f++rest=f.name++0 :: (encU M t.pad.toNat++(encU N t.pad.toNat++rest)):=by simp[fileN,hM,hN,hs]
 have htl:=congrArg List.length ht
 simp only[List.length_append,List.length_cons] at htl ho
 have lM:=encU_len t.pad.toNat (n:=M) (by omega)
 have lN:=encU_len t.pad.toNat (n:=N) (by omega)
 have hoff:off+(fileN t at' f).length=off+(f.name.length+1)+(encU M t.pad.toNat).length+(encU N t.pad.toNat).length:=by omega
 rw[ht,hM,hN,hoff,fmtA_eq]
 generalize f.name=s at *
 clear ht htl
 generalize fileN t at' f=q at *
 have he:(([]:Bytes) == [])=true:=rfl
 have w1:IntKind.i64.wrap (0+1)=1:=rfl
 have w2:IntKind.i64.wrap (1+1)=2:=rfl
 have w3:IntKind.i64.wrap (2+1)=3:=rfl
 refine fulfilA Tryz.f169 [.tmp 6,.tmp 7,.tmp 8,.tmp 9] 1 ?_
 simp only[Tryz.f169,Option.getD_some,go_sem]
 refine rn ?_
 refine hLoop (X:={x:Nat×Nat×Bytes×Bytes×Nat×Nat // x=(0,off,s++0 :: (encU M t.pad.toNat++(encU N t.pad.toNat++rest)),[],0,0)∨x=(1,off+(s.length+1),encU M t.pad.toNat++(encU N t.pad.toNat++rest),s,0,0)∨x=(2,off+(s.length+1)+(encU M t.pad.toNat).length,encU N t.pad.toNat++rest,s,M,0)∨x=(3,off+(s.length+1)+(encU M t.pad.toNat).length+(encU N t.pad.toNat).length,rest,s,M,N)})
  (fun x=> ⟨[(0,.ref 0 b 0),(2,booV w),(6,strV x.1.2.2.2.1),(7,u64V (x.1.2.2.2.2.1:Nat)),(8,u64V (x.1.2.2.2.2.2:Nat)),(10,strV []),(17,.dat false 2 [[intV 1,.val (.int .u32 8)],[intV 3,.val (.int .u32 15)],[intV 4,.val (.int .u32 15)]]),(18,intV 3),(19,intV (x.1.1:Nat))],[(0,some (bufO b dw bg fm nm x.1.2.1 x.1.2.2.1 post))]⟩) (fun x=>3 - x.1.1) ⟨_,.inl rfl⟩ (by refine sim ?_;all_goals ((repeat' refine And.intro ?_ ?_)<;>rfl)) ?_
 rintro ⟨_,rfl|rfl|rfl|rfl⟩
 ·refine sim ?_
  repeat' first|refine rn ?_|with_reducible refine fun (_:Outc)=>?_|fail
  refine callU [0] 0 (f127_ok off s (encU M t.pad.toNat++(encU N t.pad.toNat++rest)) htx (by omega)) ?_;rintro ret os fs ⟨rfl,rfl,rfl⟩;refine sim ?_
  refine rnE @w1 ?_
  exact ⟨⟨_,.inr (.inl rfl)⟩,by ((repeat' refine And.intro ?_ ?_)<;>first|rfl|(dsimp only;omega))⟩
 ·refine sim ?_
  repeat' first|refine rn ?_|with_reducible refine fun (_:Outc)=>?_|fail
  refine callU [0] 0 (f121_ok (off+(s.length+1)) M t.pad.toNat (encU N t.pad.toNat++rest) (by omega) (by omega) (by omega) (by simp only[List.length_append];omega)) ?_;rintro ret os fs ⟨rfl,rfl,rfl⟩;refine sim ?_
  refine rnE @w2 ?_
  exact ⟨⟨_,.inr (.inr (.inl rfl))⟩,by ((repeat' refine And.intro ?_ ?_)<;>first|rfl|(dsimp only;omega))⟩
 ·refine sim ?_
  repeat' first|refine rn ?_|with_reducible refine fun (_:Outc)=>?_|fail
  refine callU [0] 0 (f121_ok (off+(s.length+1)+(encU M t.pad.toNat).length) N t.pad.toNat rest (by omega) (by omega) (by omega) (by omega)) ?_;rintro ret os fs ⟨rfl,rfl,rfl⟩;refine sim ?_
  refine rnE @w3 ?_
  exact ⟨⟨_,.inr (.inr (.inr rfl))⟩,by ((repeat' refine And.intro ?_ ?_)<;>first|rfl|(dsimp only;omega))⟩
 ·refine sim ?_
  refine rnE @he ?_
  refine doneA [] ?_;try exact trivial
  exact ⟨rfl,rfl,rfl⟩
variable {z:DataR} {i lb:Nat} {h:Value}
theorem f169b_ok (off:Nat) (t:TableD) (f:FileD) (at':Nat) (rest sec st ls tl:Bytes) (hs:t.shape≠0) (hb:t.big=z.big) (hF:FileRd f) (ho:off+(fileN t at' f++rest).length≤2000000000) (hl:ls.drop at'=f.name++0 :: tl) (ha:at'≤ls.length) (hlo:ls.length≤2000000000):
  Fulfils Tryz.prog G 169 [.ref 0 b 0,.dat false 2 (fmtR fmtB),booV t.wide] [bufO b (dP z 901) z.big (fmU 901 h i) nm off (fileN t at' f++rest) (bytesV sec :: bytesV st :: bytesV ls :: post)]
  (retO (.tup [strV f.name,u64V f.mtime,u64V f.length,.val .nilIface]) [some (bufO b (dP z 901) z.big (fmU 901 h i) nm (off+(fileN t at' f).length) rest (bytesV sec :: bytesV st :: bytesV ls :: post))]):=by
 have hbig:big=140737488355328:=rfl
 obtain ⟨⟨r,hr⟩,hnl,htx,hmt,hln⟩ :=hF
 obtain ⟨M,hM⟩ :∃M:Nat,f.mtime=M:= ⟨f.mtime.toNat,by omega⟩
 obtain ⟨N,hN⟩ :∃N:Nat,f.length=N:= ⟨f.length.toNat,by omega⟩
 have ht:fileN t at' f++rest=encO at' t.wide z.big++(List.replicate 16 0++(fixed N 4 z.big++(fixed M 8 z.big++rest))):=by simp only[fileN,if_neg hs,hM,hN,Int.toNat_natCast,List.append_assoc,hb]
 have hsl:ls=ls.take at'++(f.name++0 :: tl):=by rw[←hl,List.take_append_drop]
 have htk:(ls.take at').length=at':=by simp;omega
 have htl:=congrArg List.length ht
 have hll:=congrArg List.length hl
 have lo:=encO_len at' t.wide z.big
 simp only[List.length_append,List.length_cons,fixed_len,List.length_replicate,List.length_drop] at htl ho hll
 have hoff:off+(fileN t at' f).length=off+(encO at' t.wide z.big).length+16+4+8:=by omega
 have nN:=numOf_fixed N 4 z.big
 have nM:=numOf_fixed M 8 z.big
 rw[Nat.mod_eq_of_lt (by omega)] at nN nM
 rw[ht,hM,hN,hoff,fmtB_eq]
 generalize f.name=s at *
 clear ht htl hl hoff
 generalize fileN t at' f=q at *
 have w1:IntKind.i64.wrap (0+1)=1:=rfl
 have w2:IntKind.i64.wrap (1+1)=2:=rfl
 have w3:IntKind.i64.wrap (2+1)=3:=rfl
 have w5:IntKind.i64.wrap (3+1)=4:=rfl
 have wa:=wrap_i64 (n:=(at':Int)) (by omega) (by omega)
 have wb:=wrap_u64 (n:=(at':Int)) (by omega) (by omega)
 have wN:=wrap_u64 (n:=(N:Int)) (by omega) (by omega)
 have he:(([]:Bytes) == [])=true:=rfl
 generalize hZ:List.replicate 16 (0:UInt8)=Z
 have hZl:Z.length=16:=by rw[←hZ];simp
 have enc8:t.wide=true→encO at' t.wide z.big=fixed at' 8 z.big:=fun e=>by rw[e];rfl
 have enc4:t.wide=false→encO at' t.wide z.big=fixed at' 4 z.big:=fun e=>by rw[e];rfl
 have n4:=numOf_fixed at' 4 z.big
 have n8:=numOf_fixed at' 8 z.big
 rw[Nat.mod_eq_of_lt (by omega)] at n4 n8
 have f137:=f137_ok (G:=G) (b:=b) (dw:=dP z 901) (bg:=z.big) (fm:=fmU 901 h i) (nm:=nm) (post:=bytesV sec :: bytesV st :: bytesV ls :: post) (off+(encO at' t.wide z.big).length) Z (fixed N 4 z.big++(fixed M 8 z.big++rest)) (by omega)
 rw[hZl] at f137
 refine fulfilA Tryz.f169 [.tmp 6,.tmp 7,.tmp 8,.tmp 9] 1 ?_
 simp only[Tryz.f169,Option.getD_some,go_sem]
 refine rn ?_
 refine hLoop (X:={x:Nat×Nat×Bytes×Bytes×Nat×Nat // x=(0,off,encO at' t.wide z.big++(Z++(fixed N 4 z.big++(fixed M 8 z.big++rest))),[],0,0)∨x=(1,off+(encO at' t.wide z.big).length,Z++(fixed N 4 z.big++(fixed M 8 z.big++rest)),s,0,0)∨x=(2,off+(encO at' t.wide z.big).length+16,fixed N 4 z.big++(fixed M 8 z.big++rest),s,0,0)∨x=(3,off+(encO at' t.wide z.big).length+16+4,fixed M 8 z.big++rest,s,0,N)∨x=(4,off+(encO at' t.wide z.big).length+16+4+8,rest,s,M,N)})
  (fun x=> ⟨[(0,.ref 0 b 0),(2,booV t.wide),(6,strV x.1.2.2.2.1),(7,u64V (x.1.2.2.2.2.1:Nat)),(8,u64V (x.1.2.2.2.2.2:Nat)),(10,strV []),(17,.dat false 2 [[intV 1,.val (.int .u32 31)],[intV 5,.val (.int .u32 30)],[intV 4,.val (.int .u32 6)],[intV 3,.val (.int .u32 7)]]),(18,intV 4),(19,intV (x.1.1:Nat))],[(0,some (bufO b (dP z 901) z.big (fmU 901 h i) nm x.1.2.1 x.1.2.2.1 (bytesV sec :: bytesV st :: bytesV ls :: post)))]⟩) (fun x=>4 - x.1.1) ⟨_,.inl rfl⟩ (by refine sim ?_;all_goals ((repeat' refine And.intro ?_ ?_)<;>rfl)) ?_
 rintro ⟨_,rfl|rfl|rfl|rfl|rfl⟩
 ·cases hw:t.wide
  all_goals
   simp only[hw] at *
   refine sim ?_
   repeat' first|refine rn ?_|with_reducible refine fun (_:Outc)=>?_|fail
  ·have enc:=enc4 trivial
   rw[enc]
   refine callU [0] 0 (f126_ok off (fixed at' 4 z.big) (Z++(fixed N 4 z.big++(fixed M 8 z.big++rest))) (fixed_len ..) (by omega)) ?_;rintro ret os fs ⟨rfl,rfl,rfl⟩;refine sim ?_
   repeat' first|refine rnE (And.intro @n4 (And.intro @wa @wb)) ?_|with_reducible refine fun (_:Outc)=>?_|fail
   refine hRegionD (fun jx _=>if jx=14 then mkC [] 88 0 [] (f94_ok (nm:=lineStrN) z 901 901 0 i h ls) else (default,([],[]))) [0,1,2,3,4,5,6,7,8,9,10,11,12,13,14,15] [0,1,3,7,15,0,32,96,224,480,0,1024,3072,7168,16383,32767] [] mixed (by kernel_rfl) ?_
   refine sim ?_
   (skip);refine callDA ?_;rintro ret os fs ⟨rfl,rfl,rfl⟩;refine sim ?_
   refine rnE @wa ?_
   rename_i oz
   refine callU [16] 0 ((by have q:=f124_ok (G:=G) (b:=oz.b) (dw:=dP z 901) (bg:=z.big) (fm:=fmU 901 h i) (nm:=lineStrN) (post:=[]) 0 (ls.take at') (s++0 :: tl) (by omega);rw[htk,←hsl] at q;exact q)) ?_;rintro ret os fs ⟨rfl,rfl,rfl⟩;refine sim ?_
   refine rn ?_
   refine callU [16] 0 (f127_ok (b:=oz.b) (dw:=dP z 901) (bg:=z.big) (fm:=fmU 901 h i) (nm:=lineStrN) (post:=[]) (0+at') s tl htx (by omega)) ?_;rintro ret os fs ⟨rfl,rfl,rfl⟩;refine sim ?_
   refine rnE @w1 ?_
   exact ⟨⟨_,.inr (.inl rfl)⟩,by simp only[fixed_len];((repeat' refine And.intro ?_ ?_)<;>first|rfl|omega)⟩
  ·have enc:=enc8 trivial
   rw[enc]
   refine callU [0] 0 (f125_ok off (fixed at' 8 z.big) (Z++(fixed N 4 z.big++(fixed M 8 z.big++rest))) (fixed_len ..) (by omega)) ?_;rintro ret os fs ⟨rfl,rfl,rfl⟩;refine sim ?_
   repeat' first|refine rnE (And.intro @n8 (And.intro @wa @wb)) ?_|with_reducible refine fun (_:Outc)=>?_|fail
   refine hRegionD (fun jx _=>if jx=14 then mkC [] 88 0 [] (f94_ok (nm:=lineStrN) z 901 901 0 i h ls) else (default,([],[]))) [0,1,2,3,4,5,6,7,8,9,10,11,12,13,14,15] [0,1,3,7,15,0,32,96,224,480,0,1024,3072,7168,16383,32767] [] mixed (by kernel_rfl) ?_
   refine sim ?_
   (skip);refine callDA ?_;rintro ret os fs ⟨rfl,rfl,rfl⟩;refine sim ?_
   refine rnE @wa ?_
   rename_i oz
   refine callU [16] 0 ((by have q:=f124_ok (G:=G) (b:=oz.b) (dw:=dP z 901) (bg:=z.big) (fm:=fmU 901 h i) (nm:=lineStrN) (post:=[]) 0 (ls.take at') (s++0 :: tl) (by omega);rw[htk,←hsl] at q;exact q)) ?_;rintro ret os fs ⟨rfl,rfl,rfl⟩;refine sim ?_
   refine rn ?_
   refine callU [16] 0 (f127_ok (b:=oz.b) (dw:=dP z 901) (bg:=z.big) (fm:=fmU 901 h i) (nm:=lineStrN) (post:=[]) (0+at') s tl htx (by omega)) ?_;rintro ret os fs ⟨rfl,rfl,rfl⟩;refine sim ?_
   refine rnE @w1 ?_
   exact ⟨⟨_,.inr (.inl rfl)⟩,by simp only[fixed_len];((repeat' refine And.intro ?_ ?_)<;>first|rfl|omega)⟩
 ·refine sim ?_
  repeat' first|refine rn ?_|with_reducible refine fun (_:Outc)=>?_|fail
  refine callU [0] 0 (f137) ?_;rintro ret os fs ⟨rfl,rfl,rfl⟩;refine sim ?_
  refine rnE @w2 ?_
  exact ⟨⟨_,.inr (.inr (.inl rfl))⟩,by ((repeat' refine And.intro ?_ ?_)<;>first|rfl|(dsimp only;omega))⟩
 ·refine sim ?_
  repeat' first|refine rn ?_|with_reducible refine fun (_:Outc)=>?_|fail
  refine callU [0] 0 (f126_ok (off+(encO at' t.wide z.big).length+16) (fixed N 4 z.big) (fixed M 8 z.big++rest) (fixed_len ..) (by omega)) ?_;rintro ret os fs ⟨rfl,rfl,rfl⟩;refine sim ?_
  refine rnE (And.intro @w3 (And.intro @nN @wN)) ?_
  exact ⟨⟨_,.inr (.inr (.inr (.inl rfl)))⟩,by ((repeat' refine And.intro ?_ ?_)<;>first|rfl|(dsimp only;omega))⟩
 ·refine sim ?_
  repeat' first|refine rn ?_|with_reducible refine fun (_:Outc)=>?_|fail
  refine callU [0] 0 (f125_ok (off+(encO at' t.wide z.big).length+16+4) (fixed M 8 z.big) rest (fixed_len ..) (by omega)) ?_;rintro ret os fs ⟨rfl,rfl,rfl⟩;refine sim ?_
  refine rnE (And.intro @w5 @nM) ?_
  exact ⟨⟨_,.inr (.inr (.inr (.inr rfl)))⟩,by ((repeat' refine And.intro ?_ ?_)<;>first|rfl|(dsimp only;omega))⟩
 ·refine sim ?_
  refine rnE @he ?_
  refine doneA [] ?_;try exact trivial
  exact ⟨rfl,rfl,rfl⟩
end
end Go.Proofs.YtbkfdnkeelmloaaGreatDoor
