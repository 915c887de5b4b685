/- Part 10 of the proof: G4 G5. -/
import Derived.Test.YtbkfdnkeelmloaaGreatDoorZ8
import Derived.Test.YtbkfdnkeelmloaaGreatDoorZ9
set_option linter.unusedVariables false
set_option linter.unusedSimpArgs false
namespace Go.Proofs.YtbkfdnkeelmloaaGreatDoor
set_option maxRecDepth 10000
open Go.AM Go
section
variable {G:Nat→AV}
def isAttr (u:UnitD) (a:AttrD):Bool:=
 if (classOf u.version a.attr a.form).2=false∨a.indirect=true∧a.form=33 then false
 else if (0 < sizeOf' u a.form∧sizeOf' u a.form < 8)∧IntKind.u64.wrap (1 * 2 ^ min (8 * sizeOf' u a.form).toNat 64)≤a.n then false
 else if (classOf u.version a.attr a.form).1=2 then ((a.form != 10 || decide ((a.b.length:Int) < 256)) && (a.form != 3 || decide ((a.b.length:Int) < 65536)))
 else if (classOf u.version a.attr a.form).1=5 then decide (a.n≤1)
 else if (classOf u.version a.attr a.form).1=6∨(classOf u.version a.attr a.form).1=10 then decide (a.n < 2147483648)
 else if (classOf u.version a.attr a.form).1=12 then isText a.s
 else (a.form != 15 || decide (a.n < 9223372036854775808))
theorem sizeOf_le {u:UnitD} {form:Int} (hu:0≤u.size∧u.size≤8):0≤sizeOf' u form∧sizeOf' u form≤8:=by
 unfold sizeOf' offsetSize
 repeat' split
 all_goals omega
theorem f65_ok (u:UnitD) (a:AttrD) (ha:okAttr a) (hu:0≤u.size∧u.size≤8):Fulfils Tryz.prog G 65 [.agg (unitC u),.agg (attrC a)] [] (retP (booV (isAttr u a))):=by
 have hbig:big=140737488355328:=rfl
 have hs:=sizeOf_le (form:=a.form) hu
 have w:IntKind.i64.wrap (8 * sizeOf' u a.form)=8 * sizeOf' u a.form:=wrap_i64 (by omega) (by omega)
 refine fulfilP (fn:=Tryz.f65) (rs:=[.tmp 4]) (Tryz.f65.body.getD .skip) (by kernel_rfl) rfl rfl rfl (by simp only[List.length_cons,List.length_nil];decide) rfl (by decide) ?_
 simp only[Tryz.f65,Option.getD_some,go_sem]
 repeat' first|refine s1 ?_|refine hRegion (sim ?_)|refine fun (_:Outc)=>?_|fail
 refine callP (f109_ok _ _ _) rfl ?_;refine sim ?_
 repeat' first|refine s1 ?_|refine hRegion (sim ?_)|refine hSkip (sim ?_)|refine hRet (sim ?_)|refine s7 rfl (fun hb=>?_) fun hb=>?_|refine And.intro ?_ ?_|(refine done_pure sT ?_;refine sim ?_)|fail
 ·intro h;exact ⟨h,fun h2=>by simp[h,h2]⟩
 ·rw[isAttr,if_pos hb]
 refine callP (f110_ok u a.form) rfl ?_;refine sim ?_
 refine hSeq ?_
 refine hRegionD (noChi) [0,1,2,3,4,5,6,7,8,9,10,11,12,13] [0,1,3,7,15,31,63,127,255,127,639,1663,4095,8191] [] mixed (by kernel_rfl) ?_
 refine simE @w ?_
 have hn0:=hb
 refine ⟨fun h=> ⟨h,by omega⟩,fun h=> ⟨h,h⟩, ?_⟩
 have n0:¬((classOf u.version a.attr a.form).2=false∨a.indirect=true∧a.form=33):=by
  rintro (h| ⟨h,h2⟩)
  ·rw[hn0.1] at h;cases h
  ·rcases hn0.2 with k|k
   ·rw[k] at h;cases h
   ·exact k h2
 repeat' first|refine s1 ?_|refine s2 ?_|refine hRegion (sim ?_)|refine hSkip (sim ?_)|refine hRet (sim ?_)|(refine s7 rfl ?_ ?_<;>intro hb<;>first|(exfalso;omega)|skip)|refine And.intro ?_ ?_|(refine done_pure sT ?_;refine sim ?_)|fail
 all_goals first|(rw[isAttr,if_neg n0,if_pos hb];done)|(intro h;exact ⟨h,fun h2=>by simp[h,h2]⟩)|skip
 all_goals try (refine callP (f8_ok _ ha.1) rfl ?_;refine sim ?_;repeat' first|refine hRet (sim ?_)|(refine done_pure sT ?_;refine sim ?_)|fail)
 all_goals first|(rw[isAttr,if_neg n0,if_neg (by omega)];simp only[*,if_true,if_false,true_or,or_true,or_self];done)|(rw[isAttr,if_neg n0,if_neg (by omega)];simp[*];done)|(intro h;exact ⟨h,fun h2=>by simp[h,h2]⟩)|skip
end
set_option maxRecDepth 10000
open Go.AM Go
section
variable {G:Nat→AV}
def weight (a:AttrD):Int:=32+a.s.length+a.b.length
def lightA:Int→List AttrD→Option Int
 |n,[]=>some n
 |n,a :: r=>if 1048576 < n+32+a.s.length+a.b.length then none else lightA (n+32+a.s.length+a.b.length) r
def lightN:Int→List NodeD→Option Int
 |n,[]=>some n
 |n,x :: r=>(lightA n x.attrs).bind fun m=>lightN m r
def lightU:Int→List UnitD→Option Int
 |n,[]=>some n
 |n,x :: r=>(lightN n x.nodes).bind fun m=>lightU m r
def isLight (l:List UnitD):Bool:=(lightU 0 l).isSome
theorem drop_at {α:Type} {l:List α} {i:Nat} {x:α} (h:l[i]? =some x):l.drop i=x :: l.drop (i+1):=by
 obtain ⟨hi,e⟩ :=List.getElem?_eq_some_iff.1 h
 rw[List.drop_eq_getElem_cons hi,e]
theorem w_succ {i n:Nat} (h:i < n) (hn:n≤big):IntKind.i64.wrap ((i:Int)+1)=((i+1:Nat):Int):=by
 have hbig:big=140737488355328:=rfl
 rw[wrap_i64 (by omega) (by omega)];simp
theorem f62_ok (l:List UnitD) (h:okUnits l):Fulfils Tryz.prog G 62 [unitsV l] [] (retP (booV (isLight l))):=by
 have hbig:big=140737488355328:=rfl
 have hl:=h.1
 refine fulfilP (fn:=Tryz.f62) (rs:=[.tmp 2]) (Tryz.f62.body.getD .skip) (by kernel_rfl) rfl rfl rfl (by simp only[List.length_cons,List.length_nil];decide) rfl (by decide) ?_
 simp only[Tryz.f62,Option.getD_some,go_sem]
 repeat' first|refine s1 ?_|refine s2 ?_|refine hRegion (sim ?_)|fail
 refine hLoop (X:={p:Nat×Int // p.1≤l.length∧0≤p.2∧p.2≤1048576∧lightU p.2 (l.drop p.1)=lightU 0 l}) (fun p=> ⟨[(12,intV p.1.1),(3,intV p.1.2),(11,intV l.length),(10,unitsV l)],[]⟩) (fun p=>l.length - p.1.1) ⟨(0,0),by simp,by simp,by simp,rfl⟩ (by refine sim ?_;simp) ?_
 rintro ⟨⟨i,n⟩,hi,hn1,hn2,hs⟩
 simp only at hi hn1 hn2 hs
 refine sim ?_
 (repeat' first|refine s1 ?_|refine hRegion (sim ?_));refine s7 rfl ?_ ?_<;>intro hb'
 ·obtain ⟨x,hx⟩ :=getX l (i:=i) (by omega)
  have e:=row_at unitC hx
  rw[drop_at hx,lightU] at hs
  have hxo:=h.2 x (List.mem_of_getElem? hx)
  have hxl:=hxo.1
  have wi:=w_succ (i:=i) (n:=l.length) (by omega) hl
  repeat' first|refine s1 ?_|refine s2 ?_|refine hRegion (simE @e ?_)|refine hSkip (simE @e ?_)|refine And.intro ?_ ?_|refine fun (_:Outc)=>?_|fail
  ·omega
  ·omega
  refine hLoop (X:={p:Nat×Int // p.1≤x.nodes.length∧0≤p.2∧p.2≤1048576∧((lightN p.2 (x.nodes.drop p.1)).bind fun m=>lightU m (l.drop (i+1)))=lightU 0 l})
   (fun p=> ⟨[(19,intV p.1.1),(3,intV p.1.2),(18,intV x.nodes.length),(17,nodesV x.nodes),(12,intV i),(11,intV l.length),(10,unitsV l)],[]⟩) (fun p=>x.nodes.length - p.1.1) ⟨(0,n),by simp,hn1,hn2,hs⟩ (by refine sim ?_;simp) ?_
  clear hn1 hn2 hs
  rintro ⟨⟨j,n⟩,hj,hn1,hn2,hs⟩
  simp only at hj hn1 hn2 hs
  refine sim ?_
  (repeat' first|refine s1 ?_|refine hRegion (sim ?_));refine s7 rfl ?_ ?_<;>intro hb'
  ·obtain ⟨y,hy⟩ :=getX x.nodes (i:=j) (by omega)
   have ey:=row_at nodeC hy
   rw[drop_at hy,lightN] at hs
   have hyo:=hxo.2 y (List.mem_of_getElem? hy)
   have hyl:=hyo.1
   have wj:=w_succ (i:=j) (n:=x.nodes.length) (by omega) hxl
   repeat' first|refine s1 ?_|refine s2 ?_|refine hRegion (simE @ey ?_)|refine hSkip (simE @ey ?_)|refine And.intro ?_ ?_|refine fun (_:Outc)=>?_|fail
   ·omega
   ·omega
   refine hLoop (X:={p:Nat×Int // p.1≤y.attrs.length∧0≤p.2∧p.2≤1048576∧(((lightA p.2 (y.attrs.drop p.1)).bind fun m=>lightN m (x.nodes.drop (j+1))).bind fun m=>lightU m (l.drop (i+1)))=lightU 0 l})
    (fun p=> ⟨[(26,intV p.1.1),(3,intV p.1.2),(25,intV y.attrs.length),(24,attrsV y.attrs),(19,intV j),(18,intV x.nodes.length),(17,nodesV x.nodes),(12,intV i),(11,intV l.length),(10,unitsV l)],[]⟩) (fun p=>y.attrs.length - p.1.1) ⟨(0,n),by simp,hn1,hn2,hs⟩ (by refine sim ?_;simp) ?_
   clear hn1 hn2 hs
   rintro ⟨⟨k,n⟩,hk,hn1,hn2,hs⟩
   simp only at hk hn1 hn2 hs
   refine sim ?_
   (repeat' first|refine s1 ?_|refine hRegion (sim ?_));refine s7 rfl ?_ ?_<;>intro hb'
   ·obtain ⟨z,hz⟩ :=getX y.attrs (i:=k) (by omega)
    have ez:=row_at attrC hz
    rw[drop_at hz,lightA] at hs
    have hzo:=hyo.2 z (List.mem_of_getElem? hz)
    have hz1:=hzo.1
    have hz2:=hzo.2
    have w1:IntKind.i64.wrap (n+32)=n+32:=wrap_i64 (by omega) (by omega)
    have w2:IntKind.i64.wrap (n+32+z.s.length)=n+32+z.s.length:=wrap_i64 (by omega) (by omega)
    have w3:IntKind.i64.wrap (n+32+z.s.length+z.b.length)=n+32+z.s.length+z.b.length:=wrap_i64 (by omega) (by omega)
    have wk:=w_succ (i:=k) (n:=y.attrs.length) (by omega) hyl
    repeat' first|refine s1 ?_|refine s2 ?_|refine hRegion (simE (And.intro @ez (And.intro @w1 (And.intro @w2 (And.intro @w3 @wk)))) ?_)|refine hSkip (simE (And.intro @ez (And.intro @w1 (And.intro @w2 (And.intro @w3 @wk)))) ?_)|refine hRet (simE (And.intro @ez (And.intro @w1 (And.intro @w2 (And.intro @w3 @wk)))) ?_)|refine s7 rfl (fun hb=>?_) fun hb=>?_|refine And.intro ?_ ?_|refine fun (_:Outc)=>?_|(refine done_pure sT ?_;refine sim ?_)|fail
    all_goals first|omega|skip
    ·rw[if_pos hb] at hs
     rw[isLight,←hs];rfl
    ·rw[if_neg (by omega)] at hs
     exact ⟨⟨(k+1,_),by dsimp only;omega,by dsimp only;omega,by dsimp only;omega,hs⟩, ⟨rfl,rfl⟩,by dsimp only;omega⟩
   ·rw[List.drop_eq_nil_of_le (by omega),lightA] at hs
    repeat' first|refine hRegion (simE @wj ?_)|refine hExit (simE @wj ?_)|fail
    exact ⟨⟨(j+1,n),by dsimp only;omega,hn1,hn2,hs⟩, ⟨rfl,rfl⟩,by dsimp only;omega⟩
  ·rw[List.drop_eq_nil_of_le (by omega),lightN] at hs
   repeat' first|refine hRegion (simE @wi ?_)|refine hExit (simE @wi ?_)|fail
   exact ⟨⟨(i+1,n),by dsimp only;omega,hn1,hn2,hs⟩, ⟨rfl,rfl⟩,by dsimp only;omega⟩
 ·rw[List.drop_eq_nil_of_le (by omega),lightU] at hs
  repeat' first|refine s1 ?_|refine hRegion (sim ?_)|refine hExit (sim ?_)|refine hRet (sim ?_)|(refine done_pure sT ?_;refine sim ?_)|fail
  rw[isLight,←hs];rfl
end
end Go.Proofs.YtbkfdnkeelmloaaGreatDoor
