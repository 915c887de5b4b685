/- Part 28 of the proof: I3 I4. -/
import Derived.Test.YtbkfdnkeelmloaaGreatDoorZ20
import Derived.Test.YtbkfdnkeelmloaaGreatDoorY26
import Derived.Test.YtbkfdnkeelmloaaGreatDoorY27
set_option linter.unusedVariables false
set_option linter.unusedSimpArgs false
namespace Go.Proofs.YtbkfdnkeelmloaaGreatDoor
set_option maxHeartbeats 4000000
set_option maxRecDepth 10000
open Go.AM Go
section
variable {G:Nat→AV} {g:GData} {z:DataR} {us0:List UnitR} {ns:Nat→List NodeR}
theorem f55_ok (hG:GOK G g) (hF:FileRK z us0 ns) (us:List UnitR) (hus:us.map bare=us0) (kz i:Nat) (hi:i < us0.length):
  Fulfils Tryz.prog G 55 [dP z kz,intV ((uAt us0 i).off:Int)] [.arr z.hU 216 9 (us.map unitRow)]
  (fun ret os fs=>∃us':List UnitR,us'.map bare=us0∧ret=(fun _=>.tup [deP (entAt z.big (uAt us0 i) (ns i) 0),intV 0])∧os=[some (.arr z.hU 216 9 (us'.map unitRow))]∧fs=[]):=by
 have hbig:big=140737488355328:=rfl
 have hgi:=uAt_get hi
 have hU:=hF.unit i _ hgi
 have hlen:=hU.len
 obtain ⟨id,ab,ats,r,hne,_⟩ :=hU.ne
 have hn:(ns i)[0]? =some (.ent id ab ats):=by rw[hne];rfl
 have hen:entAt z.big (uAt us0 i) (ns i) 0=nodeE (uAt us0 i).base (nodeAtOff (uAt us0 i) z.big (ns i) 0) (.ent id ab ats):=by
  rw[entAt,List.getD_eq_getElem?_getD,hn];rfl
 have w:=wrap_u32 (uAt us0 i).off (by omega)
 obtain ⟨v0,hv0,hb0⟩ :=bare_of hus (uAt_get (us0:=us0) (i:=0) (by omega))
 refine dP_any ?_
 refine fulfilA Tryz.f55 [.tmp 4,.tmp 5] 1 ?_
 simp only[Tryz.f55,Option.getD_some,go_sem]
 refine rn ?_
 refine callA [0] 1 (f49_ok hG hF us hus 0 v0 hv0) ?_;rintro ret os fs ⟨us1,rb,h1,rfl,rfl,rfl⟩;refine sim ?_
 obtain ⟨v,hv,hb⟩ :=bare_of h1 hgi
 have ho:v.off=(uAt us0 i).off:=by rw[←hb];rfl
 have hd:v.data=(uAt us0 i).data:=by rw[←hb];rfl
 have f52:=f52_ok hG hF us1 h1 rb 0 i v hv
 rw[ho,hd] at f52
 refine hEnt (eTops 1010 m0' (by refine sim ?_;rfl)) ?_
 refine sim ?_
 refine rnE @w ?_
 refine callA [1010,0] 0 (f52) ?_;rintro ret os fs ⟨us2,h2,rfl,rfl,rfl⟩;refine sim ?_
 have hrd:=rdAt0 hF hgi rb 1
 have f53:=f53_ok hG hF us2 h2 rb i 0 i 0 _ _ _ hgi hgi (.inl ⟨rfl,rfl,hn⟩)
 rw[hrd,←hen] at f53
 simp only[rdAt_eq] at f53
 refine rn ?_
 refine callA [1010,0] 0 (f53) ?_;rintro ret os fs ⟨us3,h3,rfl,rfl,rfl⟩;refine sim ?_
 refine rn ?_
 refine callP f48_ok rfl ?_;refine sim ?_
 refine rn ?_
 refine doneA [] ?_;try exact trivial
 exact ⟨us3,h3,rfl⟩
structure CoverOK (l:LayoutD) (z:DataR) (us0:List UnitR) (ns:Nat→List NodeR) (i:Nat) (x:SpanD) (pos:Nat):Prop where
 lt:i < us0.length
 size:(uAt us0 i).size=l.size
 vers:(uAt us0 i).vers=l.version
 top:TopOK x pos (entAt z.big (uAt us0 i) (ns i) 0)
 rd:SpanRd l z x pos
theorem entAt_off {u:UnitR} {n:NodeR} {r:List NodeR} {id:Nat} {ab:AbbE} {ats:List (AttrD×TextsD)} {ls:List NodeR} (bg:Bool) (hne:ls= .ent id ab ats :: r):(entAt bg u ls 0).off=u.off:=by
 subst hne
 simp[entAt,nodeE,nodeAtOff,nodesB]
theorem f56u_ok (l:LayoutD) (hF:FileRK z us0 ns) (us:List UnitR) (hus:us.map bare=us0) (kz i:Nat) (x:SpanD) (pos:Nat) (hc:CoverOK l z us0 ns i x pos):
  Fulfils Tryz.prog G 56 [dP z kz,deP (entAt z.big (uAt us0 i) (ns i) 0)] [.arr z.hU 216 9 (us.map unitRow)]
  (fun ret os fs=>∃h,ret=(fun _=>.tup [.buf 1 h,.val .nilIface])∧os=[some (.arr z.hU 216 9 (us.map unitRow))]∧fs=[some (.arr h 154 2 (placeR (places x)))]):=by
 have hgi:=uAt_get hc.lt
 have hU:=hF.unit i _ hgi
 obtain ⟨v,hv,hb⟩ :=bare_of hus hgi
 have hlen:=hU.len
 have hn:=hF.n
 obtain ⟨id,ab,ats,r,hne,_⟩ :=hU.ne
 have ho:=entAt_off (u:=uAt us0 i) (n:=.fin) z.big hne
 have hdl:0 < (uAt us0 i).data.length:=by
  rw[hU.data,hne]
  have:=nodeB_pos (udOf (uAt us0 i)) z.big (.ent id ab ats)
  simp only[nodesB,List.flatMap_cons,List.length_append];omega
 have hvo:v.off=(uAt us0 i).off:=by rw[←hb];rfl
 have hvd:v.data=(uAt us0 i).data:=by rw[←hb];rfl
 refine f56_ok l x pos kz _ hc.top hc.rd us i v hv (by rw[←hc.size,←hb];rfl) (by rw[←hc.vers,←hb];rfl) (by rw[ho,hvo]) (by rw[hvd];exact hdl) (fun k w hw hk=>?_) (fun k w hw hk=>?_) (by rw[bare_len hus];exact hn) (by rw[hvo,hvd];exact hlen)
 ·rw[ho];exact Nat.le_of_lt (show (bare w).off < _ from hF.inc k i _ _ (bare_get hus hw) hgi hk)
 ·rw[ho];exact (show _ < (bare w).off from hF.inc i k _ _ hgi (bare_get hus hw) hk)
theorem f18_ok (hG:GOK G g) (l:LayoutD) (s:SectionsD) (bg:Bool) (us:List UnitS) (hS:SectOK s bg us) (us0:List UnitR) (hus0:us0=unitsTo bg us us.length) (hF:∀h m1 m2 m3,FileRK (openZ s bg m1 m2 m3 h) us0 ns)
  (i:Nat) (x:SpanD) (pos:Nat) (hc:∀h m1 m2 m3,CoverOK l (openZ s bg m1 m2 m3 h) us0 ns i x pos) (hpl:(places x).length≤1000):
  Fulfils Tryz.prog G 18 [.agg (sectC s),intV ((uAt us0 i).off:Int)] []
  (fun ret os fs=>∃h,ret=(fun _=>.tup [.buf 0 h,intV 0])∧os=[]∧fs=[some (.arr h 154 2 (placeR (places x)))]):=by
 have hbig:big=140737488355328:=rfl
 have f47:=f47_ok hG s bg us hS
 have hub:=unitsTo_bare bg us us.length
 rw[←hus0] at f47 hub
 refine fulfilA Tryz.f18 [.tmp 4,.tmp 5] 0 ?_
 simp only[Tryz.f18,Option.getD_some,go_sem]
 repeat' first|refine rn ?_|with_reducible refine fun (_:Outc)=>?_|fail
 refine callA [] 1 (f47) ?_;rintro ret os fs ⟨hU,m1,m2,m3,rfl,rfl,rfl⟩;refine sim ?_
 obtain ⟨hzb,hzh⟩ :=openZ_keep s bg m1 m2 m3 hU
 have hFz:=hF hU m1 m2 m3
 have hcz:=hc hU m1 m2 m3
 have hi:=hcz.lt
 generalize openZ s bg m1 m2 m3 hU=z at *
 subst hzh
 have hent:∃e,e=entAt z.big (uAt us0 i) (ns i) 0:= ⟨_,rfl⟩
 obtain ⟨e,he⟩ :=hent
 have f55:=fun us' h'=>f55_ok (G:=G) hG hFz us' h' 1013 i hi
 have f56:=fun us' h'=>f56u_ok (G:=G) l hFz us' h' 1013 i x pos hcz
 rw[←he] at f55 f56
 refine rn ?_
 refine callA [1013] 0 (f55 us0 hub) ?_;rintro ret os fs ⟨us1,h1,rfl,rfl,rfl⟩;refine sim ?_
 refine rn ?_
 refine callA [1013] 1 (f56 us1 h1) ?_;rintro ret os fs ⟨h,rfl,rfl,rfl⟩;refine sim ?_
 repeat' first|refine rn ?_|with_reducible refine fun (_:Outc)=>?_|fail
 refine callP f48_ok rfl ?_;refine sim ?_
 refine rn ?_
 refine doneA [(36,0)] ?_;try exact trivial
 exact ⟨_,rfl,rfl⟩
end
set_option maxHeartbeats 4000000
set_option maxRecDepth 10000
open Go.AM Go
section
variable {G:Nat→AV} {g:GData} {z:DataR} {us0:List UnitR} {ns:Nat→List NodeR}
def rawT (rb:Nat) (z:DataR) (j:Nat):AObj:=.cells rb 0 [.top,.top,.top,.top,.top,.top,.top,dP z j,.top,.top,.top,.top,.top,.top]
attribute [go_sem] rawT
attribute [-go_sem] rdAt
end
end Go.Proofs.YtbkfdnkeelmloaaGreatDoor
