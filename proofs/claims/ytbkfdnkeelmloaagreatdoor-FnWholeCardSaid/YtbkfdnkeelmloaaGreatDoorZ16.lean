/- Part 16 of the proof: G20 G25 G26. -/
import Derived.Test.YtbkfdnkeelmloaaGreatDoorZ13
set_option linter.unusedVariables false
set_option linter.unusedSimpArgs false
namespace Go.Proofs.YtbkfdnkeelmloaaGreatDoor
set_option maxHeartbeats 2000000
set_option maxRecDepth 10000
open Go.AM Go
section
variable {G:Nat→AV}
theorem afterL_le:∀(l:List NodeD) (d:Int) (i:Nat),i≤afterL l d i∧afterL l d i≤i+l.length
 | [],d,i=>by simp[afterL]
 |x :: l,d,i=>by
  unfold afterL
  have:=afterL_le l (depthOf x d) (i+1)
  split<;>simp only[List.length_cons]<;>omega
theorem afterOf_le {l:List NodeD} {i:Nat} (hi:i≤l.length):i≤afterOf l i∧afterOf l i≤l.length:=by
 have:=afterL_le (l.drop i) 0 i
 rw[List.length_drop] at this
 unfold afterOf
 omega
def fieldOf (u:UnitD) (base:Int) (a:AttrD):FieldE:= ⟨a.attr,valueOf u base a⟩
def sibField (n:Int):FieldE:= ⟨1, ⟨10,6,n,[],[]⟩⟩
def sibFields (u:UnitD) (places:List Int) (i:Nat) (x:NodeD):List FieldE:=if x.sibling then [sibField (places.getD (afterOf u.nodes i) 0)] else []
def entryOf (u:UnitD) (base:Int) (places:List Int) (i:Nat) (x:NodeD):EntryE:=
 if x.tag=0 then ⟨0,0,false,[]⟩ else ⟨places.getD i 0,x.tag,x.children,sibFields u places i x++x.attrs.map (fieldOf u base)⟩
theorem f86_ok (u:UnitD) (base:Int) (places:List Int) (i:Nat) (x:NodeD) (hp:Value) (hbs:0≤base∧base < 9223372036854775808) (hun:u.nodes.length≤100000) (hpl:places.length=u.nodes.length+1) (hps:∀n∈places,0≤n∧n < 9223372036854775808)
  (hxi:u.nodes[i]? =some x) (hx:NodeOK x):
  Fulfils Tryz.prog G 86 [.agg (unitC u),intV base,.buf 0 hp,intV i] [.arr hp 3 1 (intsR places)] (retO (.agg (entryC (entryOf u base places i x))) [some (.arr hp 3 1 (intsR places))]):=by
 have hbig:big=140737488355328:=rfl
 have en:=row_at nodeC hxi
 have hil:i < u.nodes.length:=(List.getElem?_eq_some_iff.1 hxi).1
 have hl0:=hx.len
 have ei:=row_i (l:=places) (i:=i) (by omega)
 have haf:=afterOf_le (l:=u.nodes) (i:=i) (by omega)
 have ea:=row_i (l:=places) (i:=afterOf u.nodes i) (by omega)
 refine fulfilA Tryz.f86 [.cell 8 65] 1 ?_
 simp only[Tryz.f86,Option.getD_some,go_sem]
 repeat' first|refine s1 ?_|refine hRegion (simE @en ?_)|refine hSkip (simE @en ?_)|refine s7 rfl (fun hb=>?_) fun hb=>?_|with_reducible refine And.intro ?_ ?_|with_reducible refine fun (_:Outc)=>?_|omega
 ·refine hEnt (eOwnCell 100 8 3 203 6 (by refine sim ?_;rfl) rfl (by decide)) ?_;refine sim ?_
  refine hEnt (eFrz 100 sT) ?_;refine sim ?_
  refine rn ?_
  have q:entryOf u base places i x= ⟨0,0,false,[]⟩ :=by rw[entryOf,if_pos (by assumption)]
  rw[q]
  refine doneA [] ?_;try exact trivial
  exact ⟨rfl,rfl,rfl⟩
 have hb1:=hb
 refine hRegionD (noChi) [0,1,2,3,4,5,6,7,8,9,10] [0,0,3,7,0,16,0,64,255,0,1023] [(2,9),(3,9),(5,9),(7,9),(8,9)] mixed (by kernel_rfl) ?_
 refine simE @ei ?_
 repeat' first|with_reducible refine And.intro ?_ ?_|omega|with_reducible refine fun (_:Outc)=>?_|fail
 refine hEnt (eOwnCell 100 10 3 203 6 (by refine sim ?_;rfl) rfl (by decide)) ?_;refine sim ?_
 rename_i o4 o8 o9 o10
 have q:entryOf u base places i x= ⟨places.getD i 0,x.tag,x.children,sibFields u places i x++x.attrs.map (fieldOf u base)⟩ :=by rw[entryOf,if_neg hb1]
 rw[q]
 repeat' first|refine s1 ?_|refine s2 ?_|refine hRegion (simE @ei ?_)|refine hSkip (simE @ei ?_)|refine s7 rfl (fun hb=>?_) fun hb=>?_|fail
 ·have hpa:=hps (places.getD (afterOf u.nodes i) 0) (by rw[List.getD_eq_getElem?_getD,List.getElem?_eq_getElem (show afterOf u.nodes i < places.length by omega)];exact List.getElem_mem ..)
  have w1:IntKind.u64.wrap (places.getD (afterOf u.nodes i) 0)=places.getD (afterOf u.nodes i) 0:=wrap_u64 (by omega) (by omega)
  refine callP (f63_ok u.nodes (by omega) i (by omega)) rfl ?_;refine simE (And.intro @ea @w1) ?_
  repeat' first|refine s1 ?_|refine s2 ?_|refine hRegion (simE (And.intro @ea @w1) ?_)|with_reducible refine And.intro ?_ ?_|with_reducible refine fun (_:Outc)=>?_|omega
  rename Outc=>oz
  refine hEnt eNilD ?_;refine sim ?_
  refine hLoop (X:={p:Value×Nat // p.2≤x.attrs.length}) (fun p=> ⟨[(1,intV base),(4,.ref 4 o4.b 0),(8,.ref 8 o8.b 0),(10,.ref 10 o10.b 0),(51,attrsV x.attrs),(52,intV x.attrs.length),(53,intV p.1.2)],
   [(4,some (.cells o4.b 0 (unitC u))),(10,some (.cells o10.b 0 [intV (places.getD i 0),intV x.tag,booV x.children,.buf 100 p.1.1])),(100,some (.arr p.1.1 203 6 ((sibFields u places i x++(x.attrs.take p.1.2).map (fieldOf u base)).map fieldC))),
    (8,some (.cells o8.b 0 [intV 0,intV 0,booV false,.dat false 1 []])),(0,some (.arr hp 3 1 (intsR places)))]⟩) (fun p=>x.attrs.length - p.1.2) ⟨(oz.h,0),by simp⟩ (by simp only[List.take_zero,List.map_nil,List.append_nil,sibFields,show x.sibling=true by assumption,if_true,if_false,Bool.false_eq_true,List.map_cons,sibField];refine sim ?_;((repeat' refine And.intro ?_ ?_)<;>rfl)) ?_
  rintro ⟨⟨h,j⟩,hj⟩
  simp only at hj
  refine sim ?_
  have hsl:(sibFields u places i x).length≤1:=by unfold sibFields;split<;>simp
  by_cases hlt:j < x.attrs.length
  ·obtain ⟨a,ha1⟩ :=getX x.attrs hlt
   have e:=row_at attrC ha1
   have w4:IntKind.i64.wrap ((j:Int)+1)=((j+1:Nat):Int):=by rw[wrap_i64 (by omega) (by omega)];simp
   have ln:((x.attrs.take j).map (fieldOf u base)).length≤100:=by
    simp only[List.length_map,List.length_take];omega
   rw[List.length_map] at ln
   repeat' first|refine s1 ?_|refine s2 ?_|refine hRegion (simE @e ?_)|refine hSkip (simE @e ?_)|(refine s7 rfl ?_ ?_<;>intro hb<;>first|(exfalso;omega)|skip)|with_reducible refine And.intro ?_ ?_|with_reducible refine fun (_:Outc)=>?_|omega
   refine hRegionD (fun jx _=>if jx=7 then mkC [] 64 0 [] (f114_ok u base a hbs) else (default,([],[]))) [0,1,2,3,4,5,6,7,8,9,10,11,12] [0,1,0,4,0,0,0,112,252,508,1023,2047,4095] [(1,7),(1,8),(1,9),(3,7)] mixed (by kernel_rfl) ?_
   refine sim ?_
   (skip);refine callDA ?_;rintro ret os fs ⟨rfl,rfl,rfl⟩;refine sim ?_
   repeat' first|refine hRegion (simE @w4 ?_)|with_reducible refine And.intro ?_ ?_|with_reducible refine fun (_:Outc)=>?_|omega
   rename Outc=>o7
   refine ⟨⟨(o7.h,j+1),by dsimp only;omega⟩, ?_⟩
   dsimp only
   rw[take_succ ha1]
   simp only[List.map_append,List.map_cons,List.map_nil,←List.append_assoc,fieldC,fieldOf,intV,u64V,strV,bytesV_eq]
   ((repeat' refine And.intro ?_ ?_)<;>first|omega|(simp;done))
  ·have:j=x.attrs.length:=by omega
   subst this
   repeat' first|refine s1 ?_|refine hRegion (sim ?_)|refine hExit (sim ?_)|(refine s7 rfl ?_ ?_<;>intro hb<;>first|(exfalso;omega)|skip)|fail
   rw[List.take_of_length_le (Nat.le_refl _)]
   refine hEnt (eFrz 100 sT) ?_;refine sim ?_
   refine rn ?_
   refine doneA [] ?_;try exact trivial
   exact ⟨rfl,rfl,rfl⟩
 ·skip
  refine hEnt eNilD ?_;refine sim ?_
  refine hLoop (X:={p:Value×Nat // p.2≤x.attrs.length}) (fun p=> ⟨[(1,intV base),(4,.ref 4 o4.b 0),(8,.ref 8 o8.b 0),(10,.ref 10 o10.b 0),(51,attrsV x.attrs),(52,intV x.attrs.length),(53,intV p.1.2)],
   [(4,some (.cells o4.b 0 (unitC u))),(10,some (.cells o10.b 0 [intV (places.getD i 0),intV x.tag,booV x.children,.buf 100 p.1.1])),(100,some (.arr p.1.1 203 6 ((sibFields u places i x++(x.attrs.take p.1.2).map (fieldOf u base)).map fieldC))),
    (8,some (.cells o8.b 0 [intV 0,intV 0,booV false,.dat false 1 []])),(0,some (.arr hp 3 1 (intsR places)))]⟩) (fun p=>x.attrs.length - p.1.2) ⟨(.slice none 0 0,0),by simp⟩ (by simp only[List.take_zero,List.map_nil,List.append_nil,sibFields,show x.sibling=false by assumption,if_true,if_false,Bool.false_eq_true,List.map_cons,sibField];refine sim ?_;((repeat' refine And.intro ?_ ?_)<;>rfl)) ?_
  rintro ⟨⟨h,j⟩,hj⟩
  simp only at hj
  refine sim ?_
  have hsl:(sibFields u places i x).length≤1:=by unfold sibFields;split<;>simp
  by_cases hlt:j < x.attrs.length
  ·obtain ⟨a,ha1⟩ :=getX x.attrs hlt
   have e:=row_at attrC ha1
   have w4:IntKind.i64.wrap ((j:Int)+1)=((j+1:Nat):Int):=by rw[wrap_i64 (by omega) (by omega)];simp
   have ln:((x.attrs.take j).map (fieldOf u base)).length≤100:=by
    simp only[List.length_map,List.length_take];omega
   rw[List.length_map] at ln
   repeat' first|refine s1 ?_|refine s2 ?_|refine hRegion (simE @e ?_)|refine hSkip (simE @e ?_)|(refine s7 rfl ?_ ?_<;>intro hb<;>first|(exfalso;omega)|skip)|with_reducible refine And.intro ?_ ?_|with_reducible refine fun (_:Outc)=>?_|omega
   refine hRegionD (fun jx _=>if jx=7 then mkC [] 64 0 [] (f114_ok u base a hbs) else (default,([],[]))) [0,1,2,3,4,5,6,7,8,9,10,11,12] [0,1,0,4,0,0,0,112,252,508,1023,2047,4095] [(1,7),(1,8),(1,9),(3,7)] mixed (by kernel_rfl) ?_
   refine sim ?_
   (skip);refine callDA ?_;rintro ret os fs ⟨rfl,rfl,rfl⟩;refine sim ?_
   repeat' first|refine hRegion (simE @w4 ?_)|with_reducible refine And.intro ?_ ?_|with_reducible refine fun (_:Outc)=>?_|omega
   rename Outc=>o7
   refine ⟨⟨(o7.h,j+1),by dsimp only;omega⟩, ?_⟩
   dsimp only
   rw[take_succ ha1]
   simp only[List.map_append,List.map_cons,List.map_nil,←List.append_assoc,fieldC,fieldOf,intV,u64V,strV,bytesV_eq]
   ((repeat' refine And.intro ?_ ?_)<;>first|omega|(simp;done))
  ·have:j=x.attrs.length:=by omega
   subst this
   repeat' first|refine s1 ?_|refine hRegion (sim ?_)|refine hExit (sim ?_)|(refine s7 rfl ?_ ?_<;>intro hb<;>first|(exfalso;omega)|skip)|fail
   rw[List.take_of_length_le (Nat.le_refl _)]
   refine hEnt (eFrz 100 sT) ?_;refine sim ?_
   refine rn ?_
   refine doneA [] ?_;try exact trivial
   exact ⟨rfl,rfl,rfl⟩
end
set_option maxHeartbeats 4000000
set_option maxRecDepth 10000
open Go.AM Go
section
variable {G:Nat→AV}
def isLow (b:UInt8):Bool:=decide (97≤(b.toNat:Int)) && decide ((b.toNat:Int)≤122)
def isName (s:Bytes):Bool:=s.all isLow && decide (0 < s.length)
theorem f67_ok (l:Bytes) (hl:l.length≤big):Fulfils Tryz.prog G 67 [strV l] [] (retP (booV (isName l))):=by
 have hbig:big=140737488355328:=rfl
 refine fulfilP (fn:=Tryz.f67) (rs:=[.tmp 2]) (Tryz.f67.body.getD .skip) (by kernel_rfl) rfl rfl rfl (by simp only[List.length_cons,List.length_nil];decide) rfl (by decide) ?_
 simp only[Tryz.f67,Option.getD_some,go_sem]
 repeat' first|refine s1 ?_|refine s2 ?_|refine hRegion (sim ?_)|fail
 refine hLoop (X:=Upto l isLow) (fun i=> ⟨[(3,intV i.1),(0,strV l)],[]⟩) (fun i=>l.length - i.1) ⟨0,by simp⟩ (by refine sim ?_;simp) ?_
 rintro ⟨i,hi,hall⟩
 simp only[go_sem]
 by_cases hlt:i < l.length
 ·obtain ⟨x,hx⟩ :=getX l hlt
  have e:l.getD i 0=x:=by rw[List.getD_eq_getElem?_getD,hx];rfl
  have w4:IntKind.i64.wrap ((i:Int)+1)=((i+1:Nat):Int):=by rw[wrap_i64 (by omega) (by omega)];simp
  repeat' first|refine s1 ?_|refine s2 ?_|refine hRegion (simE (And.intro @e @w4) ?_)|refine hSkip (simE (And.intro @e @w4) ?_)|refine hRet (simE (And.intro @e @w4) ?_)|(refine s7 rfl ?_ ?_<;>intro hb<;>first|(exfalso;omega)|skip)|with_reducible refine And.intro ?_ ?_|(refine done_pure sT ?_;refine sim ?_)|omega
  ·intro hg;exact ⟨⟨hg,hg⟩,by omega,by omega⟩
  ·have hn:isLow x=false:=by
    rcases hb with g|g
    ·have:¬(97≤(x.toNat:Int)):=by omega
     simp[isLow,this]
    ·have:¬((x.toNat:Int)≤122):=by omega
     simp[isLow,this]
   rw[isName,all_no hx hn];rfl
  ·have hn:isLow x=true:=by simp only[isLow,hb.1,hb.2,decide_true,Bool.and_self]
   exact ⟨⟨i+1,by omega,all_take hx hall hn⟩,rfl,by dsimp only;omega⟩
 ·have:i=l.length:=by omega
  subst this
  repeat' first|refine s1 ?_|refine hRegion (sim ?_)|refine hExit (sim ?_)|refine hRet (sim ?_)|(refine s7 rfl ?_ ?_<;>intro hb<;>first|(exfalso;omega)|skip)|(refine done_pure sT ?_;refine sim ?_)|fail
  rw[isName,all_full (Nat.le_refl _) hall]
  simp
def lastOf (t:TableD):Int:=if t.size=4 then 4294967295 else 4611686018427387904
theorem f73_ok (t:TableD):Fulfils Tryz.prog G 73 [.agg (tableC t)] [] (retP (u64V (lastOf t))):=by
 refine fulfilP (fn:=Tryz.f73) (rs:=[.tmp 2]) (Tryz.f73.body.getD .skip) (by kernel_rfl) rfl rfl rfl (by simp only[List.length_cons,List.length_nil];decide) rfl (by decide) ?_
 simp only[Tryz.f73,Option.getD_some,go_sem]
 repeat' first|refine s1 ?_|refine hRegion (sim ?_)|refine hSkip (sim ?_)|refine hRet (sim ?_)|refine s7 rfl (fun hb=>?_) fun hb=>?_|with_reducible refine fun (_:Outc)=>?_|(refine done_pure sT ?_;refine sim ?_)|fail
 ·rw[lastOf,if_pos (by assumption)]
 ·rw[lastOf,if_neg (by assumption)]
def isFile (t:TableD) (f:FileD):Bool:=
 if f.length < 0∨2147483648 < f.length∨f.dir < 0∨4096 < f.name.length then false
 else if t.dirs.length=0 then f.dir == 0 && decide ((f.name.length:Int) > 0) && ((f.name.getD 0 0).toNat:Int) == 47 && isText f.name
 else if t.version < 5 then isName f.name && decide (f.dir≥1) && decide (f.dir≤t.dirs.length)
 else isName f.name && decide (f.dir < t.dirs.length)
theorem f68_ok (t:TableD) (f:FileD) (hl:f.name.length≤big):Fulfils Tryz.prog G 68 [.agg (tableC t),.agg (fileC f)] [] (retP (booV (isFile t f))):=by
 have hbig:big=140737488355328:=rfl
 refine fulfilP (fn:=Tryz.f68) (rs:=[.tmp 4]) (Tryz.f68.body.getD .skip) (by kernel_rfl) rfl rfl rfl (by simp only[List.length_cons,List.length_nil];decide) rfl (by decide) ?_
 simp only[Tryz.f68,Option.getD_some,go_sem]
 have hv:0≤(f.name.getD (Int.toNat 0) 0).toNat:=Nat.zero_le _
 repeat' first|refine s1 ?_|refine hRegion (sim ?_)|refine hSkip (sim ?_)|refine hRet (sim ?_)|refine s7 rfl (fun hb=>?_) fun hb=>?_|with_reducible refine And.intro ?_ ?_|with_reducible refine fun (_:Outc)=>?_|(refine done_pure sT ?_;refine sim ?_)|fail
 ·rw[isFile,if_pos (by omega)]
 ·intro hg;refine ⟨hg,by omega, ?_⟩;simp at hg;omega
 ·refine callGP (booV (isText f.name)) (fun _=>f8_ok f.name hl) (fun hg=> ⟨rfl,by simpa [cndOK] using hg⟩) ?_;refine sim ?_
  repeat' first|refine hRet (sim ?_)|(refine done_pure sT ?_;refine sim ?_)|fail
  rw[isFile,if_neg (by omega),if_pos (by omega)]
  rfl
 ·refine callP (f67_ok f.name hl) rfl ?_;refine sim ?_
  repeat' first|refine hRet (sim ?_)|with_reducible refine And.intro ?_ ?_|(refine done_pure sT ?_;refine sim ?_)|with_reducible exact s8|fail
  rw[isFile,if_neg (by omega),if_neg (by omega),if_pos (by omega)]
 ·refine callP (f67_ok f.name hl) rfl ?_;refine sim ?_
  repeat' first|refine hRet (sim ?_)|with_reducible refine And.intro ?_ ?_|(refine done_pure sT ?_;refine sim ?_)|with_reducible exact s8|fail
  rw[isFile,if_neg (by omega),if_neg (by omega),if_neg (by omega)]
def isOp (t:TableD) (o:OpD):Bool:=
 if o.kind=0 then decide (o.n≥IntKind.u64.wrap t.opcodeBase) && decide (o.n≤255)
 else if o.kind=3 then decide (t.opcodeBase > 3) && decide (o.m≥-2147483648) && decide (o.m≤2147483648)
 else if o.kind=9 then decide (t.opcodeBase > 9) && decide (o.n < 65536)
 else if 0 < o.kind then decide (o.kind < t.opcodeBase) && decide (o.n≤2147483648) && (decide (t.version > 2) || decide (o.kind < 10) || decide (o.kind > 12))
 else if o.kind= -1 then true
 else if o.kind= -2 then decide (o.n≤lastOf t)
 else if o.kind= -3 then decide (t.version < 5) && isFile t o.file
 else if o.kind= -4 then decide (t.version > 3) && decide (o.n≤2147483648)
 else decide (o.kind > -256) && decide (o.n≤300)
theorem f69_ok (t:TableD) (o:OpD) (hl:o.file.name.length≤big):Fulfils Tryz.prog G 69 [.agg (tableC t),.agg (opC o)] [] (retP (booV (isOp t o))):=by
 have hbig:big=140737488355328:=rfl
 refine fulfilP (fn:=Tryz.f69) (rs:=[.tmp 4]) (Tryz.f69.body.getD .skip) (by kernel_rfl) rfl rfl rfl (by simp only[List.length_cons,List.length_nil];decide) rfl (by decide) ?_
 simp only[Tryz.f69,Option.getD_some,go_sem]
 repeat' first|refine s1 ?_|refine s2 ?_|refine hRegion (sim ?_)|refine hSkip (sim ?_)|refine hRet (sim ?_)|refine s7 rfl (fun hb=>?_) fun hb=>?_|with_reducible refine And.intro ?_ ?_|with_reducible refine fun (_:Outc)=>?_|(refine done_pure sT ?_;refine sim ?_)|(with_reducible intro hg;exact ⟨hg,fun hg2=>by simp[hg,hg2]⟩)|fail
 all_goals try (rw[isOp];repeat' first|rw[if_neg (by omega)]|rw[if_pos (by omega)])
 ·refine hRegionD (fun jx _=>if jx=3 then mkC [] 89 0 [] (f73_ok t) else (default,([],[]))) [0,1,2,3,4,5] [0,1,0,4,15,31] [(1,3)] mixed (by kernel_rfl) ?_
  refine sim ?_
  (skip);refine callDA ?_;rintro ret os fs ⟨rfl,rfl,rfl⟩;refine sim ?_
  repeat' first|refine hRet (sim ?_)|(refine done_pure sT ?_;exact sT)|fail
  all_goals (rw[isOp];repeat' first|rw[if_neg (by omega)]|rw[if_pos (by omega)])
 ·refine callGP (booV (isFile t o.file)) (fun _=>f68_ok t o.file hl) (fun hg=> ⟨rfl,by simpa [cndOK] using hg⟩) ?_;refine sim ?_
  repeat' first|refine hRet (sim ?_)|(refine done_pure sT ?_;exact sT)|fail
  all_goals (rw[isOp];repeat' first|rw[if_neg (by omega)]|rw[if_pos (by omega)])
end
set_option maxHeartbeats 4000000
set_option maxRecDepth 10000
open Go.AM Go
section
variable {G:Nat→AV}
def wSum {α:Type} (g:α→Bytes) (l:List α):Nat:=(l.map fun x=>8+(g x).length).sum
theorem wSum_take {α:Type} {g:α→Bytes} {l:List α} {j:Nat} {x:α} (h:l[j]? =some x):wSum g (l.take (j+1))=wSum g (l.take j)+(8+(g x).length):=by
 rw[take_succ h];simp[wSum]
theorem wSum_le {α:Type} {g:α→Bytes} (l:List α) (j:Nat):wSum g (l.take j)≤wSum g l:=by
 have h:wSum g l=wSum g (l.take j)+wSum g (l.drop j):=by
  conv=>lhs;rw[←List.take_append_drop j l]
  unfold wSum
  rw[List.map_append,List.sum_append]
 omega
def fName (f:FileD):Bytes:=f.name
def oName (o:OpD):Bytes:=o.file.name
theorem wSum_nil {α:Type} {g:α→Bytes}:wSum g []=0:=rfl
def smallN (t:TableD):Nat:=wSum id t.dirs+wSum fName t.files+wSum oName t.ops
def isSmall (t:TableD):Bool:=decide (smallN t≤1048576)
theorem f66_ok (t:TableD) (ht:okTable t):Fulfils Tryz.prog G 66 [.agg (tableC t)] [] (retP (booV (isSmall t))):=by
 have hbig:big=140737488355328:=rfl
 obtain ⟨_, ⟨hd1,hd2⟩, ⟨hf1,hf2⟩,ho1,ho2⟩ :=ht
 refine fulfilP (fn:=Tryz.f66) (rs:=[.tmp 2]) (Tryz.f66.body.getD .skip) (by kernel_rfl) rfl rfl rfl (by simp only[List.length_cons,List.length_nil];decide) rfl (by decide) ?_
 simp only[Tryz.f66,Option.getD_some,go_sem]
 repeat' first|refine rn ?_|with_reducible refine fun (_:Outc)=>?_|fail
 rename_i o1
 refine hLoop (X:={i:Nat // i≤t.dirs.length∧wSum id (t.dirs.take i)≤1048576}) (fun i=> ⟨[(1,.ref 1 o1.b 0),(3,intV (wSum id (t.dirs.take i.1))),(11,strsV t.dirs),(12,intV t.dirs.length),(13,intV i.1)],[(1,some (.cells o1.b 0 (tableC t)))]⟩) (fun i=>t.dirs.length - i.1) ⟨0,by simp[wSum]⟩ (by simp only[List.take_zero,wSum];refine sim ?_;((repeat' refine And.intro ?_ ?_)<;>rfl)) ?_
 rintro ⟨i,hi,hw⟩
 refine sim ?_
 by_cases hlt:i < t.dirs.length
 ·obtain ⟨x,hx⟩ :=getX t.dirs hlt
  have e:(t.dirs.map fun s=>[AV.val (.string ⟨s.toArray⟩)]).getD i []=[.val (.string ⟨x.toArray⟩)]:=row_at (fun s=>[AV.val (.string ⟨s.toArray⟩)]) hx
  have hxl:=hd2 x (List.mem_of_getElem? hx)
  have hws:=wSum_take (g:=id) hx
  have hle:=wSum_le (g:=id) t.dirs (i+1)
  simp only[id] at hws
  have w1:IntKind.i64.wrap ((wSum id (t.dirs.take i):Int)+8)=(wSum id (t.dirs.take i):Int)+8:=wrap_i64 (by omega) (by omega)
  have w2:IntKind.i64.wrap ((wSum id (t.dirs.take i):Int)+8+(x.length:Int))=(wSum id (t.dirs.take (i+1)):Int):=by rw[wrap_i64 (by omega) (by omega),hws];simp;omega
  have w4:IntKind.i64.wrap ((i:Int)+1)=((i+1:Nat):Int):=by rw[wrap_i64 (by omega) (by omega)];simp
  repeat' first|refine rnE (And.intro @e (And.intro @w1 (And.intro @w2 @w4))) ?_|refine br fun hb=>?_|with_reducible refine And.intro ?_ ?_|fail
  ·rw[isSmall,decide_eq_false (by unfold smallN;omega)]
  ·refine ⟨⟨i+1,by omega,by omega⟩, ?_⟩
   ((repeat' refine And.intro ?_ ?_)<;>first|rfl|(dsimp only;omega))
 ·have:i=t.dirs.length:=by omega
  subst this
  rw[List.take_of_length_le (Nat.le_refl _)] at *
  refine rn ?_
  refine hLoop (X:={i:Nat // i≤t.files.length∧wSum id t.dirs+wSum fName (t.files.take i)≤1048576}) (fun i=> ⟨[(1,.ref 1 o1.b 0),(3,intV (wSum id t.dirs+wSum fName (t.files.take i.1):Nat)),(26,filesV t.files),(27,intV t.files.length),(28,intV i.1)],[(1,some (.cells o1.b 0 (tableC t)))]⟩) (fun i=>t.files.length - i.1) ⟨0,by simp only[List.take_zero,wSum_nil];omega⟩ (by simp only[List.take_zero,wSum_nil,Nat.add_zero];refine sim ?_;((repeat' refine And.intro ?_ ?_)<;>rfl)) ?_
  rintro ⟨i,hi,hwf⟩
  refine sim ?_
  by_cases hlt:i < t.files.length
  ·obtain ⟨x,hx⟩ :=getX t.files hlt
   have e:=row_at fileC hx
   have hxl:x.name.length≤big:=hf2 x (List.mem_of_getElem? hx)
   have hws:=wSum_take (g:=fName) hx
   have hle:=wSum_le (g:=fName) t.files (i+1)
   simp only[fName,oName] at hws
   have w1:IntKind.i64.wrap (((wSum id t.dirs+wSum fName (t.files.take i):Nat):Int)+8)=((wSum id t.dirs+wSum fName (t.files.take i):Nat):Int)+8:=wrap_i64 (by omega) (by omega)
   have w2:IntKind.i64.wrap (((wSum id t.dirs+wSum fName (t.files.take i):Nat):Int)+8+(x.name.length:Int))=((wSum id t.dirs+wSum fName (t.files.take (i+1)):Nat):Int):=by rw[wrap_i64 (by omega) (by omega),hws];omega
   have w4:IntKind.i64.wrap ((i:Int)+1)=((i+1:Nat):Int):=by rw[wrap_i64 (by omega) (by omega)];simp
   repeat' first|refine rnE (And.intro @e (And.intro @w1 (And.intro @w2 @w4))) ?_|refine br fun hb=>?_|with_reducible refine And.intro ?_ ?_|with_reducible refine fun (_:Outc)=>?_|fail
   ·rw[isSmall,decide_eq_false (by unfold smallN;omega)]
   ·refine ⟨⟨i+1,by omega,by omega⟩, ?_⟩
    ((repeat' refine And.intro ?_ ?_)<;>first|rfl|(dsimp only;omega))
  ·have:i=t.files.length:=by omega
   subst this
   rw[List.take_of_length_le (Nat.le_refl _)] at *
   refine rn ?_
   refine hLoop (X:={i:Nat // i≤t.ops.length∧(wSum id t.dirs+wSum fName t.files)+wSum oName (t.ops.take i)≤1048576}) (fun i=> ⟨[(1,.ref 1 o1.b 0),(3,intV ((wSum id t.dirs+wSum fName t.files)+wSum oName (t.ops.take i.1):Nat)),(42,opsV t.ops),(43,intV t.ops.length),(44,intV i.1)],[(1,some (.cells o1.b 0 (tableC t)))]⟩) (fun i=>t.ops.length - i.1) ⟨0,by simp only[List.take_zero,wSum_nil];omega⟩ (by simp only[List.take_zero,wSum_nil,Nat.add_zero];refine sim ?_;((repeat' refine And.intro ?_ ?_)<;>rfl)) ?_
   rintro ⟨i,hi,hwo⟩
   refine sim ?_
   by_cases hlt:i < t.ops.length
   ·obtain ⟨x,hx⟩ :=getX t.ops hlt
    have e:=row_at opC hx
    have hxl:x.file.name.length≤big:=ho2 x (List.mem_of_getElem? hx)
    have hws:=wSum_take (g:=oName) hx
    have hle:=wSum_le (g:=oName) t.ops (i+1)
    simp only[fName,oName] at hws
    have w1:IntKind.i64.wrap ((((wSum id t.dirs+wSum fName t.files)+wSum oName (t.ops.take i):Nat):Int)+8)=(((wSum id t.dirs+wSum fName t.files)+wSum oName (t.ops.take i):Nat):Int)+8:=wrap_i64 (by omega) (by omega)
    have w2:IntKind.i64.wrap ((((wSum id t.dirs+wSum fName t.files)+wSum oName (t.ops.take i):Nat):Int)+8+(x.file.name.length:Int))=(((wSum id t.dirs+wSum fName t.files)+wSum oName (t.ops.take (i+1)):Nat):Int):=by rw[wrap_i64 (by omega) (by omega),hws];omega
    have w4:IntKind.i64.wrap ((i:Int)+1)=((i+1:Nat):Int):=by rw[wrap_i64 (by omega) (by omega)];simp
    repeat' first|refine rnE (And.intro @e (And.intro @w1 (And.intro @w2 @w4))) ?_|refine br fun hb=>?_|with_reducible refine And.intro ?_ ?_|with_reducible refine fun (_:Outc)=>?_|fail
    ·rw[isSmall,decide_eq_false (by unfold smallN;omega)]
    ·refine ⟨⟨i+1,by omega,by omega⟩, ?_⟩
     ((repeat' refine And.intro ?_ ?_)<;>first|rfl|(dsimp only;omega))
   ·have:i=t.ops.length:=by omega
    subst this
    rw[List.take_of_length_le (Nat.le_refl _)] at *
    refine rn ?_
    rw[isSmall,decide_eq_true (by unfold smallN;omega)]
end
end Go.Proofs.YtbkfdnkeelmloaaGreatDoor
