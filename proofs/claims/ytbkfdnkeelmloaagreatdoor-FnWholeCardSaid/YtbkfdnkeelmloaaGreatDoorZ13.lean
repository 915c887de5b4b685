/- Part 13 of the proof: G16 G17 G18 G19 B3 B4. -/
import Derived.Test.YtbkfdnkeelmloaaGreatDoorZ6
import Derived.Test.YtbkfdnkeelmloaaGreatDoorZ11
set_option linter.unusedVariables false
set_option linter.unusedSimpArgs false
namespace Go.Proofs.YtbkfdnkeelmloaaGreatDoor
set_option maxHeartbeats 2000000
set_option maxRecDepth 10000
open Go.AM Go
section
variable {G:Nat→AV}
def blockText (a:AttrD) (bg:Bool):Bytes:=
 if a.form=10 then fixed a.b.length 1 bg++a.b else if a.form=3 then fixed a.b.length 2 bg++a.b else if a.form=4 then fixed a.b.length 4 bg++a.b else encU a.b.length 0++a.b
theorem f38_n1 (n:Nat) (bg:Bool) (hn:n < 18446744073709551616):Fulfils Tryz.prog G 38 [.val (.int .u64 n),.val (.int .i64 1),booV bg] [] (retB 0 5 1 (bytesR (fixed n 1 bg)) []):=f38_ok n 1 bg hn (by omega)
theorem f38_n2 (n:Nat) (bg:Bool) (hn:n < 18446744073709551616):Fulfils Tryz.prog G 38 [.val (.int .u64 n),.val (.int .i64 2),booV bg] [] (retB 0 5 1 (bytesR (fixed n 2 bg)) []):=f38_ok n 2 bg hn (by omega)
theorem f38_n4 (n:Nat) (bg:Bool) (hn:n < 18446744073709551616):Fulfils Tryz.prog G 38 [.val (.int .u64 n),.val (.int .i64 4),booV bg] [] (retB 0 5 1 (bytesR (fixed n 4 bg)) []):=f38_ok n 4 bg hn (by omega)
theorem f76_n0 (n:Nat) (hn:n < 18446744073709551616):Fulfils Tryz.prog G 76 [.val (.int .u64 n),.val (.int .i64 0)] [] (retB 0 5 1 (bytesR (encU n 0)) []):=f76_ok n 0 hn (by omega)
theorem f155_ok (a:AttrD) (bg:Bool) (hb':a.b.length≤1000000):Fulfils Tryz.prog G 155 [.agg (attrC a),booV bg] [] (retB 0 5 1 (bytesR (blockText a bg)) []):=by
 have hbig:big=140737488355328:=rfl
 have w:IntKind.u64.wrap (a.b.length:Int)=a.b.length:=wrap_u64 (by omega) (by omega)
 have n1:=encU_len 0 (n:=a.b.length) (by omega)
 have n2:=fun k=>fixed_len a.b.length k bg
 have k1:=n2 1
 have k2:=n2 2
 have k4:=n2 4
 simp only[attrC,bytesV_eq]
 refine fulfilA Tryz.f155 [.tmp 4] 0 ?_
 simp only[Tryz.f155,Option.getD_some,go_sem]
 repeat' first|refine rnE @w ?_|refine br fun hb=>?_|with_reducible refine And.intro ?_ ?_|with_reducible refine fun (_:Outc)=>?_|fail
 ·refine hRegionD (fun jx _=>if jx=2 then mkC [] 16 1 [] (f38_n1 a.b.length bg (by omega)) else (default,([],[]))) [0,1,3,4,2,5,6] [0,0,3,0,8,31,63] [(4,2)] mixed (by kernel_rfl) ?_
  refine sim ?_
  (skip);refine callDA ?_;rintro ret os fs ⟨o4,rfl,rfl,rfl⟩;refine sim ?_
  repeat' first|refine rn ?_|with_reducible refine fun (_:Outc)=>?_|fail
  refine doneA [(1016,0)] ?_;try exact trivial
  have q:fixed a.b.length 1 bg++a.b=blockText a bg:=by simp[blockText, *]
  rw[q]
  exact ⟨_,rfl,rfl,rfl⟩
 ·refine hRegionD (fun jx _=>if jx=2 then mkC [] 24 1 [] (f38_n2 a.b.length bg (by omega)) else (default,([],[]))) [0,1,3,4,2,5,6] [0,0,3,0,8,31,63] [(4,2)] mixed (by kernel_rfl) ?_
  refine sim ?_
  (skip);refine callDA ?_;rintro ret os fs ⟨o4,rfl,rfl,rfl⟩;refine sim ?_
  repeat' first|refine rn ?_|with_reducible refine fun (_:Outc)=>?_|fail
  refine doneA [(1024,0)] ?_;try exact trivial
  have q:fixed a.b.length 2 bg++a.b=blockText a bg:=by simp[blockText, *]
  rw[q]
  exact ⟨_,rfl,rfl,rfl⟩
 ·refine hRegionD (fun jx _=>if jx=2 then mkC [] 32 1 [] (f38_n4 a.b.length bg (by omega)) else (default,([],[]))) [0,1,3,4,2,5,6] [0,0,3,0,8,31,63] [(4,2)] mixed (by kernel_rfl) ?_
  refine sim ?_
  (skip);refine callDA ?_;rintro ret os fs ⟨o4,rfl,rfl,rfl⟩;refine sim ?_
  repeat' first|refine rn ?_|with_reducible refine fun (_:Outc)=>?_|fail
  refine doneA [(1032,0)] ?_;try exact trivial
  have q:fixed a.b.length 4 bg++a.b=blockText a bg:=by simp[blockText, *]
  rw[q]
  exact ⟨_,rfl,rfl,rfl⟩
 ·refine hRegionD (fun jx _=>if jx=1 then mkC [] 37 1 [] (f76_n0 a.b.length (by omega)) else (default,([],[]))) [0,2,3,1,4,5] [0,1,0,4,15,31] [(3,1)] mixed (by kernel_rfl) ?_
  refine sim ?_
  (skip);refine callDA ?_;rintro ret os fs ⟨o4,rfl,rfl,rfl⟩;refine sim ?_
  repeat' first|refine rn ?_|with_reducible refine fun (_:Outc)=>?_|fail
  refine doneA [(1037,0)] ?_;try exact trivial
  have q:encU a.b.length 0++a.b=blockText a bg:=by simp[blockText, *]
  rw[q]
  exact ⟨_,rfl,rfl,rfl⟩
structure TextsD where
 str:Bytes
 line:Bytes
def attrText (u:UnitD) (a:AttrD) (bg:Bool) (t:TextsD):Bytes:=
 if 0 < sizeOf' u a.form then fixed a.n.toNat (sizeOf' u a.form).toNat bg
 else if a.form=3∨a.form=4∨a.form=9∨a.form=10∨a.form=24 then blockText a bg
 else if a.form=8 then a.s++[0]
 else if a.form=13 then encS (IntKind.i64.wrap a.n) 0
 else if a.form=15∨a.form=21 then encU a.n.toNat 0
 else if a.form=14 then encO t.str.length u.wide bg
 else if a.form=31 then encO t.line.length u.wide bg
 else []
def attrTx (a:AttrD) (t:TextsD):TextsD:=
 if a.form=14 then ⟨t.str++(a.s++[0]),t.line⟩ else if a.form=31 then ⟨t.str,t.line++(a.s++[0])⟩ else t
def textsO (tb:Nat) (hs hl:Value) (t:TextsD):List AObj:=[.cells tb 0 [.buf 1 hs,.buf 2 hl],.arr hs 5 1 (bytesR t.str),.arr hl 5 1 (bytesR t.line)]
theorem sizeOf_pos14 {u:UnitD} {f:Int} (h:f=14):sizeOf' u f=0:=by subst h;simp[sizeOf']
theorem sizeOf_pos31 {u:UnitD} {f:Int} (h:f=31):sizeOf' u f=0:=by subst h;simp[sizeOf']
theorem attrText_14 {u:UnitD} {a:AttrD} {bg:Bool} {t:TextsD} (h:a.form=14):attrText u a bg t=encO t.str.length u.wide bg:=by simp[attrText,h,sizeOf_pos14]
theorem attrText_31 {u:UnitD} {a:AttrD} {bg:Bool} {t:TextsD} (h:a.form=31):attrText u a bg t=encO t.line.length u.wide bg:=by simp[attrText,h,sizeOf_pos31]
theorem f113_ok (u:UnitD) (a:AttrD) (bg:Bool) (t:TextsD) (tb:Nat) (hs hl:Value) (ha:a.s.length≤100000∧a.b.length≤100000) (hn:0≤a.n∧a.n < 18446744073709551616) (hz:0≤u.size∧u.size≤8)
  (h1:t.str.length≤1000000000) (h2:t.line.length≤1000000000):Fulfils Tryz.prog G 113 [.agg (unitC u),.agg (attrC a),booV bg,.ref 0 tb 0] (textsO tb hs hl t)
  (fun ret os fs=>∃h hs' hl',ret=(fun _=>.buf 3 h)∧os=(textsO tb hs' hl' (attrTx a t)).map some∧fs=[some (.arr h 5 1 (bytesR (attrText u a bg t)))]):=by
 have hbig:big=140737488355328:=rfl
 have hz2:=sizeOf_le (form:=a.form) hz
 simp only[textsO,List.map_cons,List.map_nil]
 refine fulfilA Tryz.f113 [.tmp 8] 3 ?_
 simp only[Tryz.f113,Option.getD_some,go_sem]
 have hw: -9223372036854775808≤IntKind.i64.wrap a.n∧IntKind.i64.wrap a.n≤9223372036854775807:=by simp[IntKind.wrap,IntKind.bits,IntKind.signed];omega
 (repeat' first|refine s1 ?_|refine hRegion (sim ?_)|with_reducible refine fun (_:Outc)=>?_|fail)
 rename_i o1 o2
 refine callP (f110_ok u a.form) rfl ?_;refine sim ?_
 repeat' first|refine s1 ?_|refine s2 ?_|refine hRegion (sim ?_)|refine hSkip (sim ?_)|(refine s7 rfl ?_ ?_<;>intro hb<;>first|(exfalso;omega)|skip)|fail
 all_goals try (refine callA [] 1 (f38j_ok a.n (sizeOf' u a.form) bg hn.1 hn.2 (by omega)) ?_;rintro ret os fs ⟨o3,rfl,rfl,rfl⟩;refine sim ?_)
 all_goals try (refine callA [] 1 (f155_ok a bg (by omega)) ?_;rintro ret os fs ⟨o3,rfl,rfl,rfl⟩;refine sim ?_)
 all_goals try (refine callA [] 1 (f74_ok a.s (by omega)) ?_;rintro ret os fs ⟨o3,rfl,rfl,rfl⟩;refine sim ?_)
 all_goals try (refine callA [] 1 (f78_ok (IntKind.i64.wrap a.n) 0 hw (by omega)) ?_;rintro ret os fs ⟨o3,rfl,rfl,rfl⟩;refine sim ?_)
 all_goals try (refine callA [] 1 (f76p_ok a.n hn.1 hn.2) ?_;rintro ret os fs ⟨o3,rfl,rfl,rfl⟩;refine sim ?_)
 all_goals skip
 rotate_left 10
 ·refine hRegionD (fun jx _=>if jx=7 then mkC [] 65 1 [] (f74_ok a.s (by omega)) else (default,([],[]))) [0,1,2,3,4,5,6,7,8,9,10,11] [0,0,2,6,14,0,32,96,254,511,1023,2047] [(4,7)] mixed (by kernel_rfl) ?_
  refine sim ?_
  (skip);refine callDA ?_;rintro ret os fs ⟨o3,rfl,rfl,rfl⟩;refine sim ?_
  repeat' first|refine rn ?_|with_reducible refine fun (_:Outc)=>?_|fail
  rename Outc=>o4
  refine callA [] 1 (f39_ok t.str.length u.wide bg (by omega)) ?_;rintro ret os fs ⟨o5,rfl,rfl,rfl⟩;refine sim ?_
  refine rn ?_
  have q:encO t.str.length u.wide bg=attrText u a bg t:=(attrText_14 (by assumption)).symm
  have q2:attrTx a t= ⟨t.str++(a.s++[0]),t.line⟩ :=by simp[attrTx, *]
  rw[q,q2]
  skip
  refine doneA [(1073,3)] ?_;try exact trivial
  exact ⟨_,_,_,rfl,rfl,rfl⟩
 ·refine hRegionD (fun jx _=>if jx=7 then mkC [] 88 1 [] (f74_ok a.s (by omega)) else (default,([],[]))) [0,1,2,3,4,5,6,7,8,9,10,11] [0,0,2,6,14,0,32,96,254,511,1023,2047] [(4,7)] mixed (by kernel_rfl) ?_
  refine sim ?_
  (skip);refine callDA ?_;rintro ret os fs ⟨o3,rfl,rfl,rfl⟩;refine sim ?_
  repeat' first|refine rn ?_|with_reducible refine fun (_:Outc)=>?_|fail
  rename Outc=>o4
  refine callA [] 1 (f39_ok t.line.length u.wide bg (by omega)) ?_;rintro ret os fs ⟨o5,rfl,rfl,rfl⟩;refine sim ?_
  refine rn ?_
  have q:encO t.line.length u.wide bg=attrText u a bg t:=(attrText_31 (by assumption)).symm
  have q2:attrTx a t= ⟨t.str,t.line++(a.s++[0])⟩ :=by simp[attrTx, *]
  rw[q,q2]
  skip
  refine doneA [(1096,3)] ?_;try exact trivial
  exact ⟨_,_,_,rfl,rfl,rfl⟩
 ·have q:[]=attrText u a bg t:=by
   unfold attrText
   rw[if_neg (by omega)]
   simp[*]
  have q2:attrTx a t=t:=by simp[attrTx, *]
  rw[q2,←q]
  refine hEnt (eOwn 9 8 5 1 sT) ?_
  refine rn ?_
  refine doneA [(9,3)] ?_;try exact trivial
  exact ⟨_,_,_,rfl,rfl,rfl⟩
 ·have q:fixed a.n.toNat (sizeOf' u a.form).toNat bg=attrText u a bg t:=by rw[attrText,if_pos (by assumption)]
  have q2:attrTx a t=t:=by
   have h14:¬a.form=14:=fun h=>by have:=sizeOf_pos14 (u:=u) h;omega
   have h31:¬a.form=31:=fun h=>by have:=sizeOf_pos31 (u:=u) h;omega
   simp[attrTx, *]
  rw[q,q2]
  refine rn ?_
  refine doneA [(1022,3)] ?_;try exact trivial
  exact ⟨_,_,_,rfl,rfl,rfl⟩
 ·have q:blockText a bg=attrText u a bg t:=by
   have h:=show a.form=3 by assumption
   unfold attrText
   rw[if_neg (by omega)]
   simp[h]
  have q2:attrTx a t=t:=by simp[attrTx, *]
  rw[q,q2]
  refine rn ?_
  refine doneA [(1033,3)] ?_;try exact trivial
  exact ⟨_,_,_,rfl,rfl,rfl⟩
 ·have q:blockText a bg=attrText u a bg t:=by
   have h:=show a.form=4 by assumption
   unfold attrText
   rw[if_neg (by omega)]
   simp[h]
  have q2:attrTx a t=t:=by simp[attrTx, *]
  rw[q,q2]
  refine rn ?_
  refine doneA [(1033,3)] ?_;try exact trivial
  exact ⟨_,_,_,rfl,rfl,rfl⟩
 ·have q:blockText a bg=attrText u a bg t:=by
   have h:=show a.form=9 by assumption
   unfold attrText
   rw[if_neg (by omega)]
   simp[h]
  have q2:attrTx a t=t:=by simp[attrTx, *]
  rw[q,q2]
  refine rn ?_
  refine doneA [(1033,3)] ?_;try exact trivial
  exact ⟨_,_,_,rfl,rfl,rfl⟩
 ·have q:blockText a bg=attrText u a bg t:=by
   have h:=show a.form=10 by assumption
   unfold attrText
   rw[if_neg (by omega)]
   simp[h]
  have q2:attrTx a t=t:=by simp[attrTx, *]
  rw[q,q2]
  refine rn ?_
  refine doneA [(1033,3)] ?_;try exact trivial
  exact ⟨_,_,_,rfl,rfl,rfl⟩
 ·have q:blockText a bg=attrText u a bg t:=by
   have h:=show a.form=24 by assumption
   unfold attrText
   rw[if_neg (by omega)]
   simp[h]
  have q2:attrTx a t=t:=by simp[attrTx, *]
  rw[q,q2]
  refine rn ?_
  refine doneA [(1033,3)] ?_;try exact trivial
  exact ⟨_,_,_,rfl,rfl,rfl⟩
 ·have q:a.s++[0]=attrText u a bg t:=by
   have h:=show a.form=8 by assumption
   unfold attrText
   rw[if_neg (by omega)]
   simp[h]
  have q2:attrTx a t=t:=by simp[attrTx, *]
  rw[q,q2]
  refine rn ?_
  refine doneA [(1038,3)] ?_;try exact trivial
  exact ⟨_,_,_,rfl,rfl,rfl⟩
 ·have q:encS (IntKind.i64.wrap a.n) 0=attrText u a bg t:=by
   have h:=show a.form=13 by assumption
   unfold attrText
   rw[if_neg (by omega)]
   simp[h]
  have q2:attrTx a t=t:=by simp[attrTx, *]
  rw[q,q2]
  refine rn ?_
  refine doneA [(1044,3)] ?_;try exact trivial
  exact ⟨_,_,_,rfl,rfl,rfl⟩
 ·have q:encU a.n.toNat 0=attrText u a bg t:=by
   have h:=show a.form=15 by assumption
   unfold attrText
   rw[if_neg (by omega)]
   simp[h]
  have q2:attrTx a t=t:=by simp[attrTx, *]
  rw[q,q2]
  refine rn ?_
  refine doneA [(1050,3)] ?_;try exact trivial
  exact ⟨_,_,_,rfl,rfl,rfl⟩
 ·have q:encU a.n.toNat 0=attrText u a bg t:=by
   have h:=show a.form=21 by assumption
   unfold attrText
   rw[if_neg (by omega)]
   simp[h]
  have q2:attrTx a t=t:=by simp[attrTx, *]
  rw[q,q2]
  refine rn ?_
  refine doneA [(1050,3)] ?_;try exact trivial
  exact ⟨_,_,_,rfl,rfl,rfl⟩
end
set_option maxHeartbeats 2000000
set_option maxRecDepth 10000
open Go.AM Go
section
variable {G:Nat→AV}
structure ValueD where
 cls:Int
 kind:Int
 n:Int
 s:Bytes
 b:Bytes
structure FieldE where
 attr:Int
 value:ValueD
structure EntryE where
 offset:Int
 tag:Int
 children:Bool
 fields:List FieldE
structure FoundE where
 base:Int
 entries:List EntryE
def valueC (v:ValueD):List AV:=[intV v.cls,intV v.kind,u64V v.n,strV v.s,bytesV v.b]
def fieldC (f:FieldE):List AV:=[intV f.attr,intV f.value.cls,intV f.value.kind,u64V f.value.n,strV f.value.s,bytesV f.value.b]
def fieldsV (l:List FieldE):AV:=.dat false 6 (l.map fieldC)
def entryC (e:EntryE):List AV:=[intV e.offset,intV e.tag,booV e.children,fieldsV e.fields]
def entriesV (l:List EntryE):AV:=.dat false 4 (l.map entryC)
def foundC (f:FoundE):List AV:=[intV f.base,entriesV f.entries]
attribute [go_sem] valueC fieldC fieldsV entryC entriesV foundC
def valueOf (u:UnitD) (base:Int) (a:AttrD):ValueD:=
 let c:=(classOf u.version a.attr a.form).1
 if c=1∨c=11 then ⟨c,1,a.n,[],[]⟩
 else if c=2∨c=4 then ⟨c,5,0,[],a.b⟩
 else if c=3∨c=6 then ⟨c,2,a.n,[],[]⟩
 else if c=5 then ⟨c,3,if a.form=25 then 1 else a.n,[],[]⟩
 else if c=10 then ⟨c,6,if a.form=16 then a.n else IntKind.u64.wrap (a.n+base),[],[]⟩
 else if c=12 then ⟨c,4,0,a.s,[]⟩
 else ⟨c,0,a.n,[],[]⟩
theorem f114_ok (u:UnitD) (base:Int) (a:AttrD) (hbs:0≤base∧base < 9223372036854775808):Fulfils Tryz.prog G 114 [.agg (unitC u),intV base,.agg (attrC a)] [] (retP (.agg (valueC (valueOf u base a)))):=by
 have hbig:big=140737488355328:=rfl
 have w:IntKind.u64.wrap base=base:=wrap_u64 (by omega) (by omega)
 have e0:strV []= .val (.string ⟨#[]⟩):=rfl
 refine fulfilA Tryz.f114 [.cell 6 201] 0 ?_
 simp only[Tryz.f114,Option.getD_some,go_sem]
 (repeat' first|refine s1 ?_|refine hRegion (sim ?_)|with_reducible refine fun (_:Outc)=>?_|fail)
 rename_i o1 o2 o3
 refine callP (f109_ok u.version a.attr a.form) rfl ?_;refine sim ?_
 repeat' first|refine rnE @w ?_|refine br fun hb=>?_|with_reducible refine And.intro ?_ ?_|with_reducible refine fun (_:Outc)=>?_|fail
 all_goals try
  (refine hRegionD (noChi) [0,1,2,3,4,5,6,7] [0,1,0,4,12,28,63,127] [(1,3),(1,5)] mixed (by kernel_rfl) ?_
   )
 all_goals try
  (refine hRegionD (noChi) [0,1,2,3,4,5,6,7] [0,1,0,4,12,28,63,127] [(1,3),(1,5)] mixed (by kernel_rfl) ?_
   )
 all_goals try refine sim ?_
 all_goals repeat' first|refine rn ?_|fail
 all_goals try (refine doneN [] ?_ (by simp) (by simp) sT;refine sim ?_;simp only[valueOf];generalize (classOf u.version a.attr a.form).1=c at *;simp[retP,bytesR, *];done)
end
set_option maxHeartbeats 2000000
set_option maxRecDepth 10000
open Go.AM Go
section
variable {G:Nat→AV}
structure AttrOK (a:AttrD):Prop where
 attr:0≤a.attr∧a.attr≤65535
 form:0≤a.form∧a.form≤65535
 n:0≤a.n∧a.n < 18446744073709551616
 s:a.s.length≤4096
 b:a.b.length≤4096
structure NodeOK (x:NodeD):Prop where
 tag:0≤x.tag∧x.tag≤65535
 len:x.attrs.length≤100
 attrs:∀a∈x.attrs,AttrOK a
def attrW (a:AttrD):Nat:=32+a.s.length+a.b.length
def attrsW (l:List AttrD):Nat:=(l.map attrW).sum
theorem attrsW_le {l:List AttrD} (j:Nat):attrsW (l.take j)≤attrsW l:=by
 have h:attrsW l=attrsW (l.take j)+attrsW (l.drop j):=by
  conv=>lhs;rw[←List.take_append_drop j l]
  unfold attrsW
  rw[List.map_append,List.sum_append]
 omega
theorem attrsW_small {l:List AttrD} (hn:l.length≤100) (h:∀a∈l,AttrOK a):attrsW l≤1000000:=by
 have:∀l:List AttrD,(∀a∈l,AttrOK a)→attrsW l≤l.length * 8224:=by
  intro l
  induction l with
  |nil=>simp[attrsW]
  |cons a l ih=>
   intro h
   have h1:=ih fun a ha=>h a (List.mem_cons_of_mem _ ha)
   have h2:=h a (List.mem_cons_self ..)
   have:=h2.s
   have:=h2.b
   simp only[attrsW,List.map_cons,List.sum_cons,List.length_cons,attrW] at *
   omega
 have:=this l h
 omega
def formOf (a:AttrD):Int:=if a.indirect then 22 else a.form
def attrAbb (a:AttrD):Bytes:=encU a.attr.toNat 0++encU (formOf a).toNat 0++(if formOf a=33 then encS (IntKind.i64.wrap a.n) 0 else [])
def abbHead (i:Nat) (x:NodeD):Bytes:=encU (codeN i) 0++encU x.tag.toNat 0++[if x.children then 1 else 0]++(if x.sibling then [1,19] else [])
def abbText (i:Nat) (x:NodeD):Bytes:=abbHead i x++x.attrs.flatMap attrAbb++[0,0]
theorem abbHead_tt {i:Nat} {x:NodeD} (h:x.children=true) (k:x.sibling=true):abbHead i x=encU (codeN i) 0++encU x.tag.toNat 0++[1]++[1,19]:=by simp only[abbHead,h,k,if_true]
theorem abbHead_tf {i:Nat} {x:NodeD} (h:x.children=true) (k:x.sibling=false):abbHead i x=encU (codeN i) 0++encU x.tag.toNat 0++[1]:=by simp only[abbHead,h,k,if_true,if_false,Bool.false_eq_true,List.append_nil]
theorem abbHead_ft {i:Nat} {x:NodeD} (h:x.children=false) (k:x.sibling=true):abbHead i x=encU (codeN i) 0++encU x.tag.toNat 0++[0]++[1,19]:=by simp only[abbHead,h,k,if_true,if_false,Bool.false_eq_true]
theorem abbHead_ff {i:Nat} {x:NodeD} (h:x.children=false) (k:x.sibling=false):abbHead i x=encU (codeN i) 0++encU x.tag.toNat 0++[0]:=by simp only[abbHead,h,k,if_false,Bool.false_eq_true,List.append_nil]
theorem set19 {l:Bytes} {i:Nat}:(bytesR l).set i [AV.val (.int .u8 19)]=bytesR (l.set i 19):=set_b (b:=19)
theorem formOf_t {a:AttrD} (h:a.indirect=true):formOf a=22:=by simp[formOf,h]
theorem formOf_f {a:AttrD} (h:a.indirect=false):formOf a=a.form:=by simp[formOf,h]
theorem i64_wrap_le (n:Int): -9223372036854775808≤IntKind.i64.wrap n∧IntKind.i64.wrap n≤9223372036854775807:=by simp[IntKind.wrap,IntKind.bits,IntKind.signed];omega
theorem attrAbb_len {a:AttrD} (h:AttrOK a):(attrAbb a).length≤30:=by
 have h1:=h.attr
 have h2:=h.form
 have n1:=encU_len 0 (n:=a.attr.toNat) (by omega)
 have n2:=encU_len 0 (n:=(formOf a).toNat) (by unfold formOf;split<;>omega)
 have n3:=encS_len 0 (i64_wrap_le a.n)
 unfold attrAbb
 split<;>simp only[List.length_append,List.length_nil]<;>omega
theorem f83_ok (i:Nat) (x:NodeD) (hi:i≤1000000) (hx:NodeOK x):Fulfils Tryz.prog G 83 [intV i,.agg (nodeC x)] [] (retB 0 5 1 (bytesR (abbText i x)) []):=by
 have hbig:big=140737488355328:=rfl
 have e0:bytesR []=[]:=rfl
 have ht:=hx.tag
 have hl:=hx.len
 have c1:codeN i=1+50 * i:=rfl
 have w1:IntKind.u64.wrap x.tag=x.tag:=wrap_u64 (by omega) (by omega)
 have n1:=encU_len 0 (n:=codeN i) (by omega)
 have n2:=encU_len 0 (n:=x.tag.toNat) (by omega)
 have eq19:∀l:Bytes,bytesR l++[[AV.val (.int .u8 1)],[AV.val (.int .u8 19)]]=bytesR (l++[1,19]):=fun l=>(bytesR_append l [1,19]).symm
 refine fulfilA Tryz.f83 [.tmp 4] 0 ?_
 simp only[Tryz.f83,Option.getD_some,go_sem]
 (repeat' first|refine s1 ?_|refine hRegion (sim ?_)|with_reducible refine fun (_:Outc)=>?_|fail)
 rename_i o1
 refine hRegionD (fun jx _=>if jx=1 then mkC [] 11 0 [] (f85_ok i hi) else if jx=2 then mkC [] 12 1 [] (f76_n0 (codeN i) (by omega)) else if jx=6 then mkC [] 16 1 [] (f76p_ok x.tag ht.1 (by omega)) else (default,([],[]))) [0,3,4,5,1,2,6,7,8] [0,1,3,0,8,24,63,127,255] [(4,1),(4,2),(5,1),(5,2)] mixed (by kernel_rfl) ?_
 refine simE @w1 ?_
 (skip);refine callDA ?_;rintro ret os fs ⟨rfl,rfl,rfl⟩;refine sim ?_
 (skip);refine callDA ?_;rintro ret os fs ⟨o2,rfl,rfl,rfl⟩;refine sim ?_
 skip
 (skip);refine callDA ?_;rintro ret os fs ⟨o3,rfl,rfl,rfl⟩;refine sim ?_
 repeat' first|refine rnE @w1 ?_|refine br fun hb=>?_|with_reducible refine And.intro ?_ ?_|with_reducible refine fun (_:Outc)=>?_|fail
 all_goals
  rename Outc=>oz
  refine hLoop (X:={p:Value×Nat // p.2≤x.attrs.length}) (fun p=> ⟨[(3,.ref 3 o1.b 0),(5,.buf 1012 p.1.1),(30,attrsV x.attrs),(31,intV x.attrs.length),(32,intV p.1.2)],
   [(3,some (.cells o1.b 0 (nodeC x))),(1012,some (.arr p.1.1 5 1 (bytesR (abbHead i x++(x.attrs.take p.1.2).flatMap attrAbb))))]⟩) (fun p=>x.attrs.length - p.1.2) ⟨(oz.h,0),by simp⟩ (by simp only[List.take_zero,List.flatMap_nil,List.append_nil];(first|rw[abbHead_tt (by assumption) (by assumption)]|rw[abbHead_tf (by assumption) (by assumption)]|rw[abbHead_ft (by assumption) (by assumption)]|rw[abbHead_ff (by assumption) (by assumption)]);simp -implicitDefEqProofs only[go_sem,↓reduceIte,Nat.reduceEqDiff,Nat.reduceLT,Nat.reduceLeDiff,Nat.reduceAdd,Nat.reduceSub,Nat.reduceMul,reduceCtorEq,List.reduceReplicate,Nat.reduceBEq,set19,List.set_cons_succ,List.set_cons_zero];((repeat' refine And.intro ?_ ?_)<;>rfl)) ?_
  rintro ⟨⟨h,j⟩,hj⟩
  simp only at hj
  refine sim ?_
  have m1:=flat_len attrAbb 30 (x.attrs.take j) (fun p hp=>attrAbb_len (hx.attrs p (List.mem_of_mem_take hp)))
  rw[List.length_take] at m1
  have m0:(abbHead i x).length≤30:=by unfold abbHead;simp only[List.length_append,List.length_cons,List.length_nil];split<;>simp only[List.length_cons,List.length_nil]<;>omega
  by_cases hlt:j < x.attrs.length
  ·obtain ⟨a,ha1⟩ :=getX x.attrs hlt
   have e:=row_at attrC ha1
   have ho:=hx.attrs a (List.mem_of_getElem? ha1)
   have h1:=ho.attr
   have h2:=ho.form
   have w4:IntKind.i64.wrap ((j:Int)+1)=((j+1:Nat):Int):=by rw[wrap_i64 (by omega) (by omega)];simp
   have w2:IntKind.u64.wrap a.attr=a.attr:=wrap_u64 (by omega) (by omega)
   have w3:IntKind.u64.wrap a.form=a.form:=wrap_u64 (by omega) (by omega)
   have w5:IntKind.u64.wrap 22=22:=rfl
   have n3:=encU_len 0 (n:=a.attr.toNat) (by omega)
   have n4:=encU_len 0 (n:=a.form.toNat) (by omega)
   have n5:=encU_len 0 (n:=(22:Int).toNat) (by omega)
   have n6:=encS_len 0 (i64_wrap_le a.n)
   repeat' first|refine rnE (And.intro @e (And.intro @w2 (And.intro @w3 @w5))) ?_|refine br fun hb=>?_|with_reducible refine And.intro ?_ ?_|with_reducible refine fun (_:Outc)=>?_|fail
   all_goals try (refine callA [] 1 (f76p_ok a.attr h1.1 (by omega)) ?_;rintro ret os fs ⟨o5,rfl,rfl,rfl⟩;refine sim ?_)
   all_goals repeat' first|refine rnE (And.intro @w3 @w5) ?_|with_reducible refine fun (_:Outc)=>?_|fail
   all_goals try (refine callA [] 1 (f76p_ok a.form h2.1 (by omega)) ?_;rintro ret os fs ⟨o6,rfl,rfl,rfl⟩;refine sim ?_)
   all_goals try (refine callA [] 1 (f76p_ok 22 (by omega) (by omega)) ?_;rintro ret os fs ⟨o6,rfl,rfl,rfl⟩;refine sim ?_)
   all_goals repeat' first|refine rnE @w4 ?_|refine br fun hb=>?_|with_reducible refine And.intro ?_ ?_|with_reducible refine fun (_:Outc)=>?_|fail
   ·rename Outc=>o9
    refine ⟨⟨(o9.h,j+1),by dsimp only;omega⟩, ?_⟩
    rw[flat_take _ ha1]
    simp only[attrAbb,formOf_t (show a.indirect=true by assumption),show¬(22:Int)=33 by decide,if_false,List.append_nil,←List.append_assoc]
    ((repeat' refine And.intro ?_ ?_)<;>first|omega|(simp;done))
   ·refine callA [] 1 (f78_ok (IntKind.i64.wrap a.n) 0 (i64_wrap_le a.n) (by omega)) ?_;rintro ret os fs ⟨o7,rfl,rfl,rfl⟩;refine sim ?_
    repeat' first|refine rnE @w4 ?_|with_reducible refine fun (_:Outc)=>?_|fail
    rename Outc=>o9
    refine ⟨⟨(o9.h,j+1),by dsimp only;omega⟩, ?_⟩
    rw[flat_take _ ha1]
    simp only[attrAbb,formOf_f (show a.indirect=false by assumption),show a.form=33 by assumption,if_true,←List.append_assoc]
    ((repeat' refine And.intro ?_ ?_)<;>first|omega|(simp;done))
   ·rename Outc=>o9
    refine ⟨⟨(o9.h,j+1),by dsimp only;omega⟩, ?_⟩
    rw[flat_take _ ha1]
    simp only[attrAbb,formOf_f (show a.indirect=false by assumption),show¬a.form=33 by assumption,if_false,List.append_nil,←List.append_assoc]
    ((repeat' refine And.intro ?_ ?_)<;>first|omega|(simp;done))
  ·have:j=x.attrs.length:=by omega
   subst this
   repeat' first|refine rn ?_|with_reducible refine fun (_:Outc)=>?_|fail
   rw[List.take_of_length_le (Nat.le_refl _)]
   refine doneA [(1012,0)] ?_;try exact trivial
   exact ⟨_,rfl,rfl,rfl⟩
end
set_option maxHeartbeats 2000000
set_option maxRecDepth 10000
open Go.AM Go
section
variable {G:Nat→AV}
attribute [go_sem] textsO
def nodeStep (u:UnitD) (bg:Bool) (p:Bytes×TextsD) (a:AttrD):Bytes×TextsD:=(p.1++((if a.indirect then encU a.form.toNat 0 else [])++attrText u a bg p.2),attrTx a p.2)
def nodeHead (i:Nat) (x:NodeD):Bytes:=encU (codeN i) 0++(if x.sibling then [0,0,0,0] else [])
def nodeFold (u:UnitD) (bg:Bool) (z:Bytes×TextsD) (l:List AttrD):Bytes×TextsD:=l.foldl (nodeStep u bg) z
def nodeText (u:UnitD) (i:Nat) (x:NodeD) (bg:Bool) (t:TextsD):Bytes×TextsD:=if x.tag=0 then ([0],t) else nodeFold u bg (nodeHead i x,t) x.attrs
theorem nodeFold_take {u:UnitD} {bg:Bool} {z:Bytes×TextsD} {l:List AttrD} {j:Nat} {a:AttrD} (h:l[j]? =some a):nodeFold u bg z (l.take (j+1))=nodeStep u bg (nodeFold u bg z (l.take j)) a:=by
 rw[take_succ h];simp[nodeFold]
theorem blockText_len (a:AttrD) (bg:Bool) (h:a.b.length≤1000000):(blockText a bg).length≤10+a.b.length:=by
 have n1:=encU_len 0 (n:=a.b.length) (by omega)
 unfold blockText
 repeat' split
 all_goals (try simp only[List.length_append,fixed_len]);omega
theorem attrText_len {u:UnitD} {a:AttrD} {bg:Bool} {t:TextsD} (hz:0≤u.size∧u.size≤8) (h:AttrOK a):(attrText u a bg t).length≤10+a.s.length+a.b.length:=by
 have h1:=h.n
 have h2:=h.b
 have h3:=blockText_len a bg (by omega)
 have hz2:=sizeOf_le (form:=a.form) hz
 have n1:=encU_len 0 (n:=a.n.toNat) (by omega)
 have n2:=encS_len 0 (i64_wrap_le a.n)
 have n3:=encO_len t.str.length u.wide bg
 have n4:=encO_len t.line.length u.wide bg
 unfold attrText
 repeat' split
 all_goals (try simp only[List.length_append,List.length_cons,List.length_nil,fixed_len]);omega
theorem attrTx_len {a:AttrD} {t:TextsD}:(attrTx a t).str.length≤t.str.length+attrW a∧(attrTx a t).line.length≤t.line.length+attrW a:=by
 unfold attrTx attrW
 repeat' split
 all_goals (try simp only[List.length_append,List.length_cons,List.length_nil]);omega
theorem nodeStep_len {u:UnitD} {bg:Bool} {z:Bytes×TextsD} {a:AttrD} (hz:0≤u.size∧u.size≤8) (h:AttrOK a):(nodeStep u bg z a).1.length≤z.1.length+attrW a∧(nodeStep u bg z a).2.str.length≤z.2.str.length+attrW a∧(nodeStep u bg z a).2.line.length≤z.2.line.length+attrW a:=by
 have h1:=attrText_len (bg:=bg) (t:=z.2) hz h
 have h2:=attrTx_len (a:=a) (t:=z.2)
 have h3:=h.form
 have n1:=encU_len 0 (n:=a.form.toNat) (by omega)
 refine ⟨?_,h2⟩
 unfold nodeStep attrW
 simp only[List.length_append]
 split<;>(try simp only[List.length_nil])<;>omega
theorem nodeFold_len {u:UnitD} {bg:Bool} {l:List AttrD} (hz:0≤u.size∧u.size≤8):∀(z:Bytes×TextsD),(∀a∈l,AttrOK a)→
  (nodeFold u bg z l).1.length≤z.1.length+attrsW l∧(nodeFold u bg z l).2.str.length≤z.2.str.length+attrsW l∧(nodeFold u bg z l).2.line.length≤z.2.line.length+attrsW l:=by
 induction l with
 |nil=>intro z _;simp[nodeFold,attrsW]
 |cons a l ih=>
  intro z h
  have h1:=ih (nodeStep u bg z a) fun b hb=>h b (List.mem_cons_of_mem _ hb)
  have h2:=nodeStep_len (bg:=bg) (z:=z) hz (h a (List.mem_cons_self ..))
  have h3:attrsW (a :: l)=attrW a+attrsW l:=by simp[attrsW]
  have h4:nodeFold u bg z (a :: l)=nodeFold u bg (nodeStep u bg z a) l:=rfl
  rw[h3,h4]
  omega
theorem nodeHead_len {i:Nat} {x:NodeD} (hi:i≤1000000):(nodeHead i x).length≤14:=by
 have c1:codeN i=1+50 * i:=rfl
 have n1:=encU_len 0 (n:=codeN i) (by omega)
 unfold nodeHead
 split<;>simp only[List.length_append,List.length_cons,List.length_nil]<;>omega
theorem nodeText_len {u:UnitD} {i:Nat} {x:NodeD} {bg:Bool} {t:TextsD} (hi:i≤1000000) (hz:0≤u.size∧u.size≤8) (h:∀a∈x.attrs,AttrOK a):
  (nodeText u i x bg t).1.length≤14+attrsW x.attrs∧(nodeText u i x bg t).2.str.length≤t.str.length+attrsW x.attrs∧(nodeText u i x bg t).2.line.length≤t.line.length+attrsW x.attrs:=by
 unfold nodeText
 split
 ·simp only[List.length_cons,List.length_nil];omega
 ·have h1:=nodeFold_len (bg:=bg) hz (nodeHead i x,t) h
  have h2:=nodeHead_len (x:=x) hi
  simp only at h1
  omega
theorem repl4:List.replicate (Int.toNat 4) [AV.val (.int .u8 0)]=bytesR (List.replicate 4 0):=repl_b 4
theorem nodeHead_t {i:Nat} {x:NodeD} (h:x.sibling=true):nodeHead i x=encU (codeN i) 0++List.replicate 4 0:=by simp only[nodeHead,h,if_true];rfl
theorem nodeHead_f {i:Nat} {x:NodeD} (h:x.sibling=false):nodeHead i x=encU (codeN i) 0:=by simp only[nodeHead,h,if_false,Bool.false_eq_true,List.append_nil]
theorem nodeFold_nil {u:UnitD} {bg:Bool} {z:Bytes×TextsD}:nodeFold u bg z []=z:=rfl
theorem f84_ok (u:UnitD) (i:Nat) (x:NodeD) (bg:Bool) (t:TextsD) (tb:Nat) (hs hl:Value) (hi:i≤1000000) (hun:u.nodes.length≤100000) (hxi:u.nodes[i]? =some x) (hx:NodeOK x) (hz:0≤u.size∧u.size≤8)
  (h1:t.str.length≤100000000) (h2:t.line.length≤100000000):Fulfils Tryz.prog G 84 [.agg (unitC u),intV i,booV bg,.ref 0 tb 0] (textsO tb hs hl t)
  (fun ret os fs=>∃h hs' hl',ret=(fun _=>.buf 3 h)∧os=(textsO tb hs' hl' (nodeText u i x bg t).2).map some∧fs=[some (.arr h 5 1 (bytesR (nodeText u i x bg t).1))]):=by
 have hbig:big=140737488355328:=rfl
 have c1:codeN i=1+50 * i:=rfl
 have n1:=encU_len 0 (n:=codeN i) (by omega)
 have en:=row_at nodeC hxi
 have hil:i < u.nodes.length:=(List.getElem?_eq_some_iff.1 hxi).1
 have hsm:=attrsW_small hx.len hx.attrs
 have hl0:=hx.len
 simp only[textsO,List.map_cons,List.map_nil]
 refine fulfilA Tryz.f84 [.tmp 8] 3 ?_
 simp only[Tryz.f84,Option.getD_some,go_sem]
 repeat' first|refine rnE @en ?_|refine br fun hb=>?_|with_reducible refine And.intro ?_ ?_|with_reducible refine fun (_:Outc)=>?_|fail
 ·rename Outc=>o2
  have q:nodeText u i x bg t=([0],t):=by rw[nodeText,if_pos (by assumption)]
  rw[q]
  refine doneA [(21,3)] ?_;try exact trivial
  exact ⟨_,_,_,rfl,rfl,rfl⟩
 rename_i o1 o2
 have hb1:=hb
 have q:nodeText u i x bg t=nodeFold u bg (nodeHead i x,t) x.attrs:=by rw[nodeText,if_neg hb1]
 rw[q]
 have hlen:=fun j=>nodeFold_len (bg:=bg) (l:=x.attrs.take j) hz (nodeHead i x,t) fun a ha=>hx.attrs a (List.mem_of_mem_take ha)
 have hnh:=nodeHead_len (x:=x) hi
 refine callP (f85_ok i hi) rfl ?_;refine sim ?_
 refine callA [] 1 (f76_n0 (codeN i) (by omega)) ?_;rintro ret os fs ⟨o3,rfl,rfl,rfl⟩;refine sim ?_
 repeat' first|refine rnE @repl4 ?_|refine br fun hb=>?_|with_reducible refine And.intro ?_ ?_|with_reducible refine fun (_:Outc)=>?_|fail
 ·have hq:=nodeHead_t (i:=i) (show x.sibling=true by assumption)
  rename Outc=>oz
  refine hLoop (X:={p:(Value×Value×Value)×Nat // p.2≤x.attrs.length}) (fun p=> ⟨[(2,booV bg),(3,.ref 0 tb 0),(4,.ref 4 o1.b 0),(10,.buf 1024 p.1.1.1),(30,attrsV x.attrs),(31,intV x.attrs.length),(32,intV p.1.2)],
   [(4,some (.cells o1.b 0 (unitC u))),(1024,some (.arr p.1.1.1 5 1 (bytesR (nodeFold u bg (nodeHead i x,t) (x.attrs.take p.1.2)).1))),(0,some (.cells tb 0 [.buf 1 p.1.1.2.1,.buf 2 p.1.1.2.2])),
    (1,some (.arr p.1.1.2.1 5 1 (bytesR (nodeFold u bg (nodeHead i x,t) (x.attrs.take p.1.2)).2.str))),(2,some (.arr p.1.1.2.2 5 1 (bytesR (nodeFold u bg (nodeHead i x,t) (x.attrs.take p.1.2)).2.line)))]⟩) (fun p=>x.attrs.length - p.1.2) ⟨((oz.h,hs,hl),0),by simp⟩ (by simp only[List.take_zero,nodeFold_nil,hq];refine sim ?_;((repeat' refine And.intro ?_ ?_)<;>rfl)) ?_
  rintro ⟨⟨⟨h,hs',hl'⟩,j⟩,hj⟩
  simp only at hj
  refine sim ?_
  have hle:=hlen j
  have hwj:=attrsW_le (l:=x.attrs) j
  simp only at hle
  by_cases hlt:j < x.attrs.length
  ·obtain ⟨a,ha1⟩ :=getX x.attrs hlt
   have e:=row_at attrC ha1
   have ho:=hx.attrs a (List.mem_of_getElem? ha1)
   have h3:=ho.form
   have h4:=ho.s
   have h5:=ho.b
   have w4:IntKind.i64.wrap ((j:Int)+1)=((j+1:Nat):Int):=by rw[wrap_i64 (by omega) (by omega)];simp
   have w3:IntKind.u64.wrap a.form=a.form:=wrap_u64 (by omega) (by omega)
   have n4:=encU_len 0 (n:=a.form.toNat) (by omega)
   have htl:=attrText_len (bg:=bg) (t:=(nodeFold u bg (nodeHead i x,t) (x.attrs.take j)).2) hz ho
   have hst:=nodeFold_take (u:=u) (bg:=bg) (z:=(nodeHead i x,t)) ha1
   generalize nodeFold u bg (nodeHead i x,t) (x.attrs.take j)=zz at *
   repeat' first|refine rnE (And.intro @e @w3) ?_|refine br fun hb=>?_|with_reducible refine And.intro ?_ ?_|with_reducible refine fun (_:Outc)=>?_|fail
   all_goals try (refine callA [] 1 (f76p_ok a.form h3.1 (by omega)) ?_;rintro ret os fs ⟨o5,rfl,rfl,rfl⟩;refine sim ?_)
   all_goals repeat' first|refine rn ?_|with_reducible refine fun (_:Outc)=>?_|fail
   all_goals (refine callA [0,1,2] 1 (f113_ok u a bg zz.2 tb hs' hl' (by omega) ho.n hz (by omega) (by omega)) ?_;rintro ret os fs ⟨o6,hs2,hl2,rfl,rfl,rfl⟩;refine sim ?_)
   all_goals repeat' first|refine rnE @w4 ?_|with_reducible refine fun (_:Outc)=>?_|fail
   ·rename Outc=>o9
    refine ⟨⟨((o9.h,hs2,hl2),j+1),by dsimp only;omega⟩, ?_⟩
    dsimp only
    rw[hst]
    simp only[nodeStep,show a.indirect=true by assumption,if_true,←List.append_assoc]
    ((repeat' refine And.intro ?_ ?_)<;>first|omega|(simp;done))
   ·rename Outc=>o9
    refine ⟨⟨((o9.h,hs2,hl2),j+1),by dsimp only;omega⟩, ?_⟩
    dsimp only
    rw[hst]
    simp only[nodeStep,show a.indirect=false by assumption,if_false,Bool.false_eq_true,List.nil_append]
    ((repeat' refine And.intro ?_ ?_)<;>first|omega|(simp;done))
  ·have:j=x.attrs.length:=by omega
   subst this
   refine rn ?_
   rw[List.take_of_length_le (Nat.le_refl _)]
   refine doneA [(1024,3)] ?_;try exact trivial
   exact ⟨_,_,_,rfl,rfl,rfl⟩
 ·have hq:=nodeHead_f (i:=i) (show x.sibling=false by assumption)
  refine hLoop (X:={p:(Value×Value×Value)×Nat // p.2≤x.attrs.length}) (fun p=> ⟨[(2,booV bg),(3,.ref 0 tb 0),(4,.ref 4 o1.b 0),(10,.buf 1024 p.1.1.1),(30,attrsV x.attrs),(31,intV x.attrs.length),(32,intV p.1.2)],
   [(4,some (.cells o1.b 0 (unitC u))),(1024,some (.arr p.1.1.1 5 1 (bytesR (nodeFold u bg (nodeHead i x,t) (x.attrs.take p.1.2)).1))),(0,some (.cells tb 0 [.buf 1 p.1.1.2.1,.buf 2 p.1.1.2.2])),
    (1,some (.arr p.1.1.2.1 5 1 (bytesR (nodeFold u bg (nodeHead i x,t) (x.attrs.take p.1.2)).2.str))),(2,some (.arr p.1.1.2.2 5 1 (bytesR (nodeFold u bg (nodeHead i x,t) (x.attrs.take p.1.2)).2.line)))]⟩) (fun p=>x.attrs.length - p.1.2) ⟨((o3,hs,hl),0),by simp⟩ (by simp only[List.take_zero,nodeFold_nil,hq];refine sim ?_;((repeat' refine And.intro ?_ ?_)<;>rfl)) ?_
  rintro ⟨⟨⟨h,hs',hl'⟩,j⟩,hj⟩
  simp only at hj
  refine sim ?_
  have hle:=hlen j
  have hwj:=attrsW_le (l:=x.attrs) j
  simp only at hle
  by_cases hlt:j < x.attrs.length
  ·obtain ⟨a,ha1⟩ :=getX x.attrs hlt
   have e:=row_at attrC ha1
   have ho:=hx.attrs a (List.mem_of_getElem? ha1)
   have h3:=ho.form
   have h4:=ho.s
   have h5:=ho.b
   have w4:IntKind.i64.wrap ((j:Int)+1)=((j+1:Nat):Int):=by rw[wrap_i64 (by omega) (by omega)];simp
   have w3:IntKind.u64.wrap a.form=a.form:=wrap_u64 (by omega) (by omega)
   have n4:=encU_len 0 (n:=a.form.toNat) (by omega)
   have htl:=attrText_len (bg:=bg) (t:=(nodeFold u bg (nodeHead i x,t) (x.attrs.take j)).2) hz ho
   have hst:=nodeFold_take (u:=u) (bg:=bg) (z:=(nodeHead i x,t)) ha1
   generalize nodeFold u bg (nodeHead i x,t) (x.attrs.take j)=zz at *
   repeat' first|refine rnE (And.intro @e @w3) ?_|refine br fun hb=>?_|with_reducible refine And.intro ?_ ?_|with_reducible refine fun (_:Outc)=>?_|fail
   all_goals try (refine callA [] 1 (f76p_ok a.form h3.1 (by omega)) ?_;rintro ret os fs ⟨o5,rfl,rfl,rfl⟩;refine sim ?_)
   all_goals repeat' first|refine rn ?_|with_reducible refine fun (_:Outc)=>?_|fail
   all_goals (refine callA [0,1,2] 1 (f113_ok u a bg zz.2 tb hs' hl' (by omega) ho.n hz (by omega) (by omega)) ?_;rintro ret os fs ⟨o6,hs2,hl2,rfl,rfl,rfl⟩;refine sim ?_)
   all_goals repeat' first|refine rnE @w4 ?_|with_reducible refine fun (_:Outc)=>?_|fail
   ·rename Outc=>o9
    refine ⟨⟨((o9.h,hs2,hl2),j+1),by dsimp only;omega⟩, ?_⟩
    dsimp only
    rw[hst]
    simp only[nodeStep,show a.indirect=true by assumption,if_true,←List.append_assoc]
    ((repeat' refine And.intro ?_ ?_)<;>first|omega|(simp;done))
   ·rename Outc=>o9
    refine ⟨⟨((o9.h,hs2,hl2),j+1),by dsimp only;omega⟩, ?_⟩
    dsimp only
    rw[hst]
    simp only[nodeStep,show a.indirect=false by assumption,if_false,Bool.false_eq_true,List.nil_append]
    ((repeat' refine And.intro ?_ ?_)<;>first|omega|(simp;done))
  ·have:j=x.attrs.length:=by omega
   subst this
   refine rn ?_
   rw[List.take_of_length_le (Nat.le_refl _)]
   refine doneA [(1024,3)] ?_;try exact trivial
   exact ⟨_,_,_,rfl,rfl,rfl⟩
end
open Go.AM Go
class Still (f:AV→AV):Prop where
 i:∀k n,f (.val (.int k n))= .val (.int k n)
 b:∀x,f (.val (.bool x))= .val (.bool x)
 s:∀x,f (.val (.string x))= .val (.string x)
instance {σ:Nat→Nat}:Still (rkA σ):= ⟨fun _ _=>rfl,fun _=>rfl,fun _=>rfl⟩
instance {σ:Nat→Nat}:Still (nilD σ):= ⟨fun _ _=>rfl,fun _=>rfl,fun _=>rfl⟩
instance {k:Nat} {ob:AObj}:Still (frz1 k ob):= ⟨fun _ _=>rfl,fun _=>rfl,fun _=>rfl⟩
instance {k k2:Nat}:Still (ren1 k k2):= ⟨fun _ _=>rfl,fun _=>rfl,fun _=>rfl⟩
class StillP (p:AV→Prop):Prop where
 v:∀x,p (.val x)
instance {k:Nat} {ob:AObj}:StillP (frz1P k ob):= ⟨fun _=>trivial⟩
variable {f:AV→AV} {p:AV→Prop}
theorem turnR_map [Still f] {α:Type} {g:α→List AV} (h:∀x,turnL f (g x)=g x):∀l:List α,turnR f (l.map g)=l.map g
 | []=>rfl
 |x :: l=>by simp only[List.map_cons,turnR,h,turnR_map h l]
theorem fitR_map [StillP p] {α:Type} {g:α→List AV} (h:∀x,fitL p (g x)):∀l:List α,fitR p (l.map g)
 | []=>trivial
 |x :: l=> ⟨h x,fitR_map h l⟩
theorem fit_v [StillP p] {x:Value}:AV.fit p (.val x):=(StillP.v x:p (.val x))
theorem fitR_by [StillP p] (l:Bytes):fitR p (bytesR l):=fitR_map (g:=fun b=>[u8V b]) (fun b=> ⟨fit_v,trivial⟩) l
theorem turnR_by [Still f] (l:Bytes):turnR f (bytesR l)=bytesR l:=turnR_map (g:=fun b=>[u8V b]) (fun b=>by simp only[turnL,u8V,AV.turn,Still.i]) l
theorem turnL_attr [Still f] (a:AttrD):turnL f (attrC a)=attrC a:=by
 simp only[attrC,turnL,intV,booV,u64V,strV,bytesV_eq,AV.turn,Still.i,Still.b,Still.s,turnR_by]
theorem fitL_attr [StillP p] (a:AttrD):fitL p (attrC a):= ⟨fit_v,fit_v,fit_v,fit_v,fit_v,fitR_by _,trivial⟩
theorem turnR_attr [Still f] (l:List AttrD):turnR f (l.map attrC)=l.map attrC:=turnR_map turnL_attr l
theorem fitR_attr [StillP p] (l:List AttrD):fitR p (l.map attrC)=True:=eq_true (fitR_map fitL_attr l)
theorem turnL_node [Still f] (a:NodeD):turnL f (nodeC a)=nodeC a:=by
 simp only[nodeC,turnL,intV,booV,attrsV,AV.turn,Still.i,Still.b,turnR_attr]
theorem fitL_node [StillP p] (a:NodeD):fitL p (nodeC a):= ⟨fit_v,fit_v,fit_v,fitR_map fitL_attr _,trivial⟩
theorem turnR_node [Still f] (l:List NodeD):turnR f (l.map nodeC)=l.map nodeC:=turnR_map turnL_node l
theorem fitR_node [StillP p] (l:List NodeD):fitR p (l.map nodeC)=True:=eq_true (fitR_map fitL_node l)
theorem turnL_unit [Still f] (a:UnitD):turnL f (unitC a)=unitC a:=by
 simp only[unitC,turnL,intV,booV,nodesV,AV.turn,Still.i,Still.b,turnR_node]
theorem fitL_unit [StillP p] (a:UnitD):fitL p (unitC a):= ⟨fit_v,fit_v,fit_v,fitR_map fitL_node _,trivial⟩
theorem turnR_unit [Still f] (l:List UnitD):turnR f (l.map unitC)=l.map unitC:=turnR_map turnL_unit l
theorem fitR_unit [StillP p] (l:List UnitD):fitR p (l.map unitC)=True:=eq_true (fitR_map fitL_unit l)
theorem turnL_piece [Still f] (a:PieceD):turnL f (pieceC a)=pieceC a:=by simp only[pieceC,turnL,intV,u64V,AV.turn,Still.i]
theorem fitL_piece [StillP p] (a:PieceD):fitL p (pieceC a):= ⟨fit_v,fit_v,fit_v,trivial⟩
theorem turnR_piece [Still f] (l:List PieceD):turnR f (l.map pieceC)=l.map pieceC:=turnR_map turnL_piece l
theorem fitR_piece [StillP p] (l:List PieceD):fitR p (l.map pieceC)=True:=eq_true (fitR_map fitL_piece l)
theorem turnL_span [Still f] (a:SpanD):turnL f (spanC a)=spanC a:=by simp only[spanC,turnL,intV,booV,u64V,piecesV,AV.turn,Still.i,Still.b,turnR_piece]
theorem fitL_span [StillP p] (a:SpanD):fitL p (spanC a):= ⟨fit_v,fit_v,fit_v,fit_v,fitR_map fitL_piece _,trivial⟩
theorem turnR_span [Still f] (l:List SpanD):turnR f (l.map spanC)=l.map spanC:=turnR_map turnL_span l
theorem fitR_span [StillP p] (l:List SpanD):fitR p (l.map spanC)=True:=eq_true (fitR_map fitL_span l)
theorem turnL_file [Still f] (a:FileD):turnL f (fileC a)=fileC a:=by simp only[fileC,turnL,intV,strV,u64V,AV.turn,Still.i,Still.s]
theorem fitL_file [StillP p] (a:FileD):fitL p (fileC a):= ⟨fit_v,fit_v,fit_v,fit_v,trivial⟩
theorem turnR_file [Still f] (l:List FileD):turnR f (l.map fileC)=l.map fileC:=turnR_map turnL_file l
theorem fitR_file [StillP p] (l:List FileD):fitR p (l.map fileC)=True:=eq_true (fitR_map fitL_file l)
theorem turnL_op [Still f] (a:OpD):turnL f (opC a)=opC a:=by simp only[opC,turnL,intV,strV,u64V,AV.turn,Still.i,Still.s]
theorem fitL_op [StillP p] (a:OpD):fitL p (opC a):= ⟨fit_v,fit_v,fit_v,fit_v,fit_v,fit_v,fit_v,trivial⟩
theorem turnR_op [Still f] (l:List OpD):turnR f (l.map opC)=l.map opC:=turnR_map turnL_op l
theorem fitR_op [StillP p] (l:List OpD):fitR p (l.map opC)=True:=eq_true (fitR_map fitL_op l)
theorem turnL_field [Still f] (a:FieldE):turnL f (fieldC a)=fieldC a:=by simp only[fieldC,turnL,intV,strV,u64V,bytesV_eq,AV.turn,Still.i,Still.s,turnR_by]
theorem fitL_field [StillP p] (a:FieldE):fitL p (fieldC a):= ⟨fit_v,fit_v,fit_v,fit_v,fit_v,fitR_by _,trivial⟩
theorem turnR_field [Still f] (l:List FieldE):turnR f (l.map fieldC)=l.map fieldC:=turnR_map turnL_field l
theorem fitR_field [StillP p] (l:List FieldE):fitR p (l.map fieldC)=True:=eq_true (fitR_map fitL_field l)
theorem turnL_entry [Still f] (a:EntryE):turnL f (entryC a)=entryC a:=by simp only[entryC,turnL,intV,booV,fieldsV,AV.turn,Still.i,Still.b,turnR_field]
theorem fitL_entry [StillP p] (a:EntryE):fitL p (entryC a):= ⟨fit_v,fit_v,fit_v,fitR_map fitL_field _,trivial⟩
theorem turnR_entry [Still f] (l:List EntryE):turnR f (l.map entryC)=l.map entryC:=turnR_map turnL_entry l
theorem fitR_entry [StillP p] (l:List EntryE):fitR p (l.map entryC)=True:=eq_true (fitR_map fitL_entry l)
theorem turnL_found [Still f] (a:FoundE):turnL f (foundC a)=foundC a:=by simp only[foundC,turnL,intV,entriesV,AV.turn,Still.i,turnR_entry]
theorem fitL_found [StillP p] (a:FoundE):fitL p (foundC a):= ⟨fit_v,fitR_map fitL_entry _,trivial⟩
theorem turnR_found [Still f] (l:List FoundE):turnR f (l.map foundC)=l.map foundC:=turnR_map turnL_found l
theorem fitR_found [StillP p] (l:List FoundE):fitR p (l.map foundC)=True:=eq_true (fitR_map fitL_found l)
theorem turnR_app:∀a b:List (List AV),turnR f (a++b)=turnR f a++turnR f b
 | [],b=>rfl
 |x :: a,b=>by simp only[List.cons_append,turnR,turnR_app a b]
theorem fitR_app:∀a b:List (List AV),fitR p (a++b)=(fitR p a∧fitR p b)
 | [],b=>by simp[fitR]
 |x :: a,b=>by simp only[List.cons_append,fitR,fitR_app a b,and_assoc]
attribute [go_sem] turnR_app fitR_app
def intsR (l:List Int):List (List AV):=l.map fun n=>[intV n]
theorem row_i {l:List Int} {i:Nat} (h:i < l.length):(intsR l).getD i []=[intV (l.getD i 0)]:=by
 unfold intsR
 rw[List.getD_eq_getElem?_getD,List.getElem?_map,List.getD_eq_getElem?_getD,List.getElem?_eq_getElem h];rfl
theorem intsR_length (l:List Int):(intsR l).length=l.length:=by simp[intsR]
theorem turnR_ints [Still f] (l:List Int):turnR f (intsR l)=intsR l:=turnR_map (g:=fun n=>[intV n]) (fun b=>by simp only[turnL,intV,AV.turn,Still.i]) l
theorem fitR_ints [StillP p] (l:List Int):fitR p (intsR l)=True:=eq_true (fitR_map (g:=fun n=>[intV n]) (fun b=> ⟨fit_v,trivial⟩) l)
theorem snoc_i {l:List Int} {n:Int}:intsR l++[[.val (.int .i64 n)]]=intsR (l++[n]):=by simp[intsR,intV]
attribute [go_sem] intsR_length turnR_ints fitR_ints snoc_i turnR_attr fitR_attr turnR_node fitR_node turnR_unit fitR_unit turnR_piece fitR_piece turnR_span fitR_span turnR_file fitR_file turnR_op fitR_op turnR_field fitR_field turnR_entry fitR_entry turnR_found fitR_found
open Go.AM Go
def fk (i:Nat):Nat:=5000+i
theorem fk_ne {k i:Nat} (h:k < 5000):(k=fk i)=False:=by unfold fk;exact eq_false (by omega)
theorem fk_ne' {k i:Nat} (h:k < 5000):(fk i=k)=False:=by unfold fk;exact eq_false (by omega)
theorem fk_inj {i j:Nat}:(fk i=fk j)=(i=j):=by unfold fk;exact propext (by omega)
def famH:List (Value×Bytes)→Nat→List (Nat×Option AObj)
 | [],_=>[]
 |x :: r,n=>(fk n,some (.arr x.1 5 1 (bytesR x.2))) :: famH r (n+1)
def famR:List (Value×Bytes)→Nat→List (List AV)
 | [],_=>[]
 |x :: r,n=>[.buf (fk n) x.1] :: famR r (n+1)
theorem famH_cons {x:Value×Bytes} {r:List (Value×Bytes)} {n:Nat}:famH (x :: r) n=(fk n,some (.arr x.1 5 1 (bytesR x.2))) :: famH r (n+1):=rfl
theorem famR_cons {x:Value×Bytes} {r:List (Value×Bytes)} {n:Nat}:famR (x :: r) n=[.buf (fk n) x.1] :: famR r (n+1):=rfl
theorem getO_fam {k:Nat} (h:k < 5000):∀(l:List (Value×Bytes)) (n:Nat),getO (famH l n) k=none
 | [],n=>rfl
 |x :: r,n=>by simp only[famH,getO,fk_ne' h,if_false,getO_fam h r]
theorem getO_fam_ge {i:Nat}:∀(l:List (Value×Bytes)) (n:Nat),n+l.length≤i→getO (famH l n) (fk i)=none
 | [],n,_=>rfl
 |x :: r,n,h=>by
  simp only[List.length_cons] at h
  have e:(fk n=fk i)=False:=by rw[fk_inj];exact eq_false (by omega)
  simp only[famH,getO,e,if_false]
  exact getO_fam_ge r (n+1) (by omega)
theorem turnH_fam {f:AV→AV} [Still f]:∀(l:List (Value×Bytes)) (n:Nat),turnH f (famH l n)=famH l n
 | [],n=>rfl
 |x :: r,n=>by simp only[famH,turnH,AObj.turn,turnR_by,turnH_fam r]
theorem fitH_fam {p:AV→Prop} [StillP p]:∀(l:List (Value×Bytes)) (n:Nat),fitH p (famH l n)=True
 | [],n=>rfl
 |x :: r,n=>by
  have:=fitR_by (p:=p) x.2
  simp only[famH,fitH,AObj.fit,this,fitH_fam r,and_self]
theorem turnR_ren_fam {k k2:Nat} (h:k < 5000):∀(l:List (Value×Bytes)) (n:Nat),turnR (ren1 k k2) (famR l n)=famR l n
 | [],n=>rfl
 |x :: r,n=>by simp only[famR,turnR,turnL,AV.turn,ren1,fk_ne' h,if_false,turnR_ren_fam h r]
theorem turnR_frz_fam {k:Nat} {ob:AObj} (h:k < 5000):∀(l:List (Value×Bytes)) (n:Nat),turnR (frz1 k ob) (famR l n)=famR l n
 | [],n=>rfl
 |x :: r,n=>by simp only[famR,turnR,turnL,AV.turn,frz1,fk_ne' h,if_false,turnR_frz_fam h r]
theorem turnR_frz_fam_lt {i:Nat} {ob:AObj}:∀(l:List (Value×Bytes)) (n:Nat),i < n→turnR (frz1 (fk i) ob) (famR l n)=famR l n
 | [],n,_=>rfl
 |x :: r,n,h=>by
  have e:(fk n=fk i)=False:=by rw[fk_inj];exact eq_false (by omega)
  simp only[famR,turnR,turnL,AV.turn,frz1,e,if_false,turnR_frz_fam_lt (i:=i) r (n+1) (by omega)]
theorem turnR_nil_fam:∀(l:List (Value×Bytes)) (n:Nat),turnR (nilD id) (famR l n)=famR l n
 | [],n=>rfl
 |x :: r,n=>by simp only[famR,turnR,turnL,AV.turn,nilD,rkA,id,turnR_nil_fam r]
theorem fitR_frz_fam {k:Nat} {ob:AObj} (h:k < 5000):∀(l:List (Value×Bytes)) (n:Nat),fitR (frz1P k ob) (famR l n)=True
 | [],n=>rfl
 |x :: r,n=>by simp only[famR,fitR,fitL,AV.fit,frz1P,fk_ne' h,if_false,fitR_frz_fam h r,and_self]
theorem fitR_frz_fam_lt {i:Nat} {ob:AObj}:∀(l:List (Value×Bytes)) (n:Nat),i < n→fitR (frz1P (fk i) ob) (famR l n)=True
 | [],n,_=>rfl
 |x :: r,n,h=>by
  have e:(fk n=fk i)=False:=by rw[fk_inj];exact eq_false (by omega)
  simp only[famR,fitR,fitL,AV.fit,frz1P,e,if_false,fitR_frz_fam_lt (i:=i) r (n+1) (by omega),and_self]
theorem famR_length:∀(l:List (Value×Bytes)) (n:Nat),(famR l n).length=l.length
 | [],n=>rfl
 |x :: r,n=>by simp only[famR,List.length_cons,famR_length r]
theorem famR_snoc {x:Value×Bytes}:∀(l:List (Value×Bytes)) (n:Nat),famR (l++[x]) n=famR l n++[[.buf (fk (n+l.length)) x.1]]
 | [],n=>rfl
 |y :: r,n=>by
  simp only[List.cons_append,famR,famR_snoc r,List.length_cons]
  rw[show n+1+r.length=n+(r.length+1) by omega]
theorem famH_snoc {x:Value×Bytes}:∀(l:List (Value×Bytes)) (n:Nat),famH (l++[x]) n=famH l n++[(fk (n+l.length),some (.arr x.1 5 1 (bytesR x.2)))]
 | [],n=>rfl
 |y :: r,n=>by
  simp only[List.cons_append,famH,famH_snoc r,List.length_cons]
  rw[show n+1+r.length=n+(r.length+1) by omega]
theorem fam_mem {p:Nat×Option AObj}:∀(l:List (Value×Bytes)) (n:Nat),p∈famH l n→∃i,n≤i∧i < n+l.length∧p.1=fk i∧getO (famH l n) (fk i)=p.2
 | [],n,h=>by cases h
 |x :: r,n,h=>by
  simp only[famH,List.mem_cons] at h
  rcases h with h|h
  ·subst h
   exact ⟨n,Nat.le_refl _,by simp,rfl,by simp only[famH,getO,if_true]⟩
  ·obtain ⟨i,h1,h2,h3,h4⟩ :=fam_mem r (n+1) h
   refine ⟨i,by omega,by simp only[List.length_cons];omega,h3, ?_⟩
   have e:(fk n=fk i)=False:=by rw[fk_inj];exact eq_false (by omega)
   simp only[famH,getO,e,if_false,h4]
def datR (l:List Bytes):List (List AV):=l.map fun t=>[.dat false 1 (bytesR t)]
theorem datR_length (l:List Bytes):(datR l).length=l.length:=by simp[datR]
theorem turnR_dat {f:AV→AV} [Still f] (l:List Bytes):turnR f (datR l)=datR l:=turnR_map (g:=fun t=>[.dat false 1 (bytesR t)]) (fun b=>by simp only[turnL,AV.turn,turnR_by]) l
theorem fitR_dat {p:AV→Prop} [StillP p] (l:List Bytes):fitR p (datR l)=True:=eq_true (fitR_map (g:=fun t=>[.dat false 1 (bytesR t)]) (fun b=> ⟨fitR_by _,trivial⟩) l)
theorem getD_mid {α:Type} {a b:List α} {x d:α} {i:Nat} (h:a.length=i):(a++x :: b).getD i d=x:=by
 subst h
 simp[List.getD_eq_getElem?_getD]
attribute [go_sem] fk_ne fk_ne' fk_inj getO_fam turnH_fam fitH_fam turnR_ren_fam turnR_frz_fam turnR_nil_fam fitR_frz_fam famR_length datR_length turnR_dat fitR_dat
end Go.Proofs.YtbkfdnkeelmloaaGreatDoor
