/- Part 30 of the proof: N15. -/
import Derived.Test.YtbkfdnkeelmloaaGreatDoorY29
set_option linter.unusedVariables false
set_option linter.unusedSimpArgs false
namespace Go.Proofs.YtbkfdnkeelmloaaGreatDoor
set_option maxHeartbeats 4000000
set_option maxRecDepth 10000
open Go.AM Go
attribute [-go_sem] rdAt
def ctxOf (t:TableD) (pre:Bytes):LCtx:=lctx t pre (filesT t t.files).length
section
variable {G:Nat→AV} {g:GData} {z:DataR} {us0:List UnitR} {ns:Nat→List NodeR}
theorem f54_ok (hG:GOK G g) (hT:g.eofT=263) (t:TableD) (pre:Bytes) (kz:Nat) (e:DEntry) (hL:LineOK z t pre e) (us:List UnitR) (i:Nat) (u:UnitR) (hu:us[i]? =some u) (hsz:u.size=t.size) (ho:e.off=u.off)
  (hd:0 < u.data.length) (h1:∀k v,us[k]? =some v→k < i→v.off≤e.off) (h2:∀k v,us[k]? =some v→i < k→e.off < v.off) (hn:us.length≤1000) (hl:u.off+u.data.length≤2000000000)
  (hA:AllRd (ctxOf t pre) (m0 t) t.ops) (rows:List RowD) (hr:rowsL (ctxOf t pre) (m0 t) t.ops=rows) (N:Nat) (hN:N≤rows.length+1) (hrl:rows.length≤1000000):
  Fulfils Tryz.prog G 54 [dP z kz,deP e,.dat false 3 (List.replicate N [intV 0,intV 0,u64V 0])] [.arr z.hU 216 9 (us.map unitRow)]
  (fun ret os fs=>∃h,ret=(fun _=>.tup [.buf 1 h,booV true,intV 0])∧os=[some (.arr z.hU 216 9 (us.map unitRow))]∧fs=[some (.arr h 79 17 (lansR rows N))]):=by
 have hbig:big=140737488355328:=rfl
 have f101:=f101_ok (G:=G) hG t pre 0 e hL us i u hu hsz ho hd h1 h2 hn hl
 have hlen:=hL.len
 have hpl:=hL.front
 obtain ⟨hs1,hs2,hs3⟩ :=lctx_ops t pre (filesT t t.files).length
 have hol:(ctxOf t pre).po+(opsT (ctxOf t pre).t t.ops).length≤2000000000:=by
  have:=congrArg List.length hs3
  have e2:(lctx t pre (filesT t t.files).length).sec.length=pre.length+(lineText t).length:=by simp[lctx]
  rw[List.length_drop,List.length_take] at this
  show (lctx t pre (filesT t t.files).length).po+(lineOps t).length≤_
  omega
 have hfp:selF t t.files 1=fpM (ctxOf t pre) (m0 t):=rfl
 have hfl:filesT t t.files=filesT (ctxOf t pre).t (m0 t).files:=rfl
 have hlo:lineOps t=opsT (ctxOf t pre).t t.ops:=rfl
 rw[show lctx t pre (filesT t t.files).length=ctxOf t pre from rfl,hfp,hfl,hlo] at f101
 generalize ctxOf t pre=c at *
 generalize m0 t=m at *
 generalize t.ops=ops at *
 generalize hOff:c.po=off at *
 obtain ⟨q,hq⟩ :∃q,q=fpM c m:= ⟨_,rfl⟩
 rw[←hq] at f101
 refine dP_any ?_
 refine fulfilA Tryz.f54 [.tmp 6,.tmp 7,.tmp 8] 1 ?_
 simp only[Tryz.f54,Option.getD_some,go_sem]
 refine rn ?_
 refine callA [0] 2 (f101) ?_;rintro ret os fs ⟨lb,hf,rfl,rfl,rfl⟩;refine sim ?_
 repeat' first|refine rn ?_|with_reducible refine fun (_:Outc)=>?_|fail
 refine hEnt (eOwn 3001 12 79 17 sT) ?_
 refine sim ?_
 refine hLoop (X:={p:Value×Value×MachD×List OpD×Nat×Nat // AllRd c p.2.2.1 p.2.2.2.1∧p.2.2.2.2.1+(opsT c.t p.2.2.2.1).length≤2000000000∧rowsL c p.2.2.1 p.2.2.2.1=rows.drop p.2.2.2.2.2∧p.2.2.2.2.2≤rows.length∧p.2.2.2.2.2≤N} ⊕ {h:Value // N=rows.length+1}) (fun x=>match x with
  | .inl ⟨(h,hf,m,l,o,j),_⟩ => ⟨[(9,.ref 1018 lb 0),(12,.buf 3001 h),(29,.dat false 3 (List.replicate N [intV 0,intV 0,u64V 0])),(30,intV (N:Int)),(31,intV (j:Int))],
    [(1018,some (.cells lb 0 (lrK 2018 c m (fpM c m) false hf o (opsT c.t l)))),(2018,some (.arr hf 293 1 (filesRw (filesT c.t m.files)))),(3001,some (.arr h 79 17 (lansR rows j))),(0,some (.arr z.hU 216 9 (us.map unitRow)))]⟩
  | .inr ⟨h,_⟩ => ⟨[(12,.buf 3001 h),(30,intV (N:Int)),(31,intV (N:Int))],[(3001,some (.arr h 79 17 (lansR rows N))),(0,some (.arr z.hU 216 9 (us.map unitRow)))]⟩)
  (fun x=>match x with| .inl ⟨(h,hf,m,l,o,j),_⟩ =>N+1 - j| .inr _=>0) (.inl ⟨(.slice none 0 0,hf,m,ops,off,0),hA,hol,hr,Nat.zero_le _,Nat.zero_le _⟩) (by
   have e1:lansR rows 0=[]:=rfl
   dsimp only
   rw[e1,←hq]
   exact sT
   all_goals ((repeat' refine And.intro ?_ ?_)<;>first|rfl|omega|(dsimp only;omega)|(simp;done)|(simp;rfl)|skip)) ?_
 rintro (⟨⟨h,hf',m',l,o,j⟩,hA',ho',hr',hj,hjN⟩ | ⟨h,hNr⟩)
 ·simp only at hA' ho' hr' hj hjN
  obtain ⟨q1,hq1⟩ :∃q,q=fpM c m':= ⟨_,rfl⟩
  have hll:=lansR_len (rows:=rows) (n:=j) (by omega)
  have f102:=f102_ok (G:=G) (c:=c) (lb:=lb) (hf:=hf') (off:=o) hG hT m' l hA' ho'
  rw[←hq1] at f102
  dsimp only
  rw[←hq1]
  refine sim ?_
  by_cases hlt:j < N
  ·have er:=repl_get (n:=N) (j:=j) hlt [intV 0,intV 0,u64V 0]
   simp only[intV,u64V] at er
   have w4:IntKind.i64.wrap ((j:Int)+1)=((j+1:Nat):Int):=by rw[wrap_i64 (by omega) (by omega)];simp
   by_cases hjr:j < rows.length
   ·obtain ⟨r0,hr0⟩ :=getX rows hjr
    rw[List.drop_eq_getElem_cons hjr,(List.getElem?_eq_some_iff.1 hr0).2] at hr'
    obtain ⟨m2,o2,l2,hnx,hrow,hr2⟩ :=rows_cons hr'
    obtain ⟨hS2,hA2,_⟩ :=all_next hA' hnx
    simp only at hA2
    rw[hnx] at f102
    unfold lineP at f102
    have hsn:=lansR_succ hr0
    simp only[←hrow] at f102
    obtain ⟨M',hM⟩ :∃M',M'=stepM c.t m2 o2:= ⟨_,rfl⟩
    obtain ⟨q',hq'⟩ :∃q,q=fpM c M':= ⟨_,rfl⟩
    simp only[←hM,←hq'] at f102
    rw[←hM] at hA2 hr2
    repeat' first|refine rnE @er ?_|with_reducible refine fun (_:Outc)=>?_|fail
    refine callA [1018,2018] 0 (f102) ?_;rintro ret os fs ⟨rfl,hf2,off2,rfl,ho2,rfl⟩;refine sim ?_
    repeat' first|refine rnE @w4 ?_|with_reducible refine fun (_:Outc)=>?_|fail
    rename Outc=>oz
    refine ⟨.inl ⟨(oz.h,hf2,M',l2,off2,j+1),hA2,ho2,hr2,hjr,hlt⟩, ?_⟩
    dsimp only
    rw[←hsn,←hq']
    ((repeat' refine And.intro ?_ ?_)<;>first|omega|(simp;done)|(simp;rfl))
   ·have hj2:j=rows.length:=by omega
    have hNr:N=rows.length+1:=by omega
    rw[hj2,List.drop_length] at hr'
    rw[rows_nil hr'] at f102
    unfold lineP at f102
    have hsn:=lansR_end (rows:=rows)
    obtain ⟨r0,hr0⟩ :∃r,r=noRow:= ⟨_,rfl⟩
    rw[←hr0] at f102 hsn
    repeat' first|refine rnE @er ?_|with_reducible refine fun (_:Outc)=>?_|fail
    refine callA [1018,2018] 0 (f102) ?_;rintro ret os fs ⟨rfl,hf2,off2,rfl,mL,rfl⟩;refine sim ?_
    repeat' first|refine rnE @w4 ?_|with_reducible refine fun (_:Outc)=>?_|fail
    rename Outc=>oz
    refine ⟨.inr ⟨oz.h,hNr⟩, ?_⟩
    dsimp only
    rw[hNr,←hsn,←hj2]
    ((repeat' refine And.intro ?_ ?_)<;>first|omega|(simp;done)|(simp;rfl))
  ·have hj2:j=N:=by omega
   subst hj2
   refine rn ?_
   refine doneA [(3001,1)] ?_;try exact trivial
   exact ⟨_,rfl,rfl⟩
 ·refine sim ?_
  refine rn ?_
  refine doneA [(3001,1)] ?_;try exact trivial
  exact ⟨_,rfl,rfl⟩
theorem f17_ok (hG:GOK G g) (hT:g.eofT=263) (s:SectionsD) (bg:Bool) (us:List UnitS) (hS:SectOK s bg us) (us0:List UnitR) (hus0:us0=unitsTo bg us us.length) (hF:∀h m1 m2 m3,FileRK (openZ s bg m1 m2 m3 h) us0 ns)
  (i:Nat) (hi:i < us0.length) (t:TableD) (pre:Bytes) (hL:∀h m1 m2 m3,LineOK (openZ s bg m1 m2 m3 h) t pre (entAt bg (uAt us0 i) (ns i) 0)) (hsz:(uAt us0 i).size=t.size)
  (hA:AllRd (ctxOf t pre) (m0 t) t.ops) (rows:List RowD) (hr:rowsL (ctxOf t pre) (m0 t) t.ops=rows) (N:Nat) (hN:N≤rows.length+1) (hrl:rows.length≤1000000):
  Fulfils Tryz.prog G 17 [.agg (sectC s),intV ((uAt us0 i).off:Int),.dat false 3 (List.replicate N [intV 0,intV 0,u64V 0])] []
  (fun ret os fs=>∃h,ret=(fun _=>.tup [.buf 0 h,booV true,intV 0])∧os=[]∧fs=[some (.arr h 79 17 (lansR rows N))]):=by
 have hbig:big=140737488355328:=rfl
 have f47:=f47_ok hG s bg us hS
 have hub:=unitsTo_bare bg us us.length
 rw[←hus0] at f47 hub
 have hgi:=uAt_get hi
 have hg0:=uAt_get (us0:=us0) (i:=0) (by omega)
 refine fulfilA Tryz.f17 [.tmp 6,.tmp 7,.tmp 8] 0 ?_
 simp only[Tryz.f17,Option.getD_some,go_sem]
 repeat' first|refine rn ?_|with_reducible refine fun (_:Outc)=>?_|fail
 refine callA [] 1 (f47) ?_;rintro ret os fs ⟨hU,m1,m2,m3,rfl,rfl,rfl⟩;refine sim ?_
 obtain ⟨hzb,hzh⟩ :=openZ_keep s bg m1 m2 m3 hU
 have hFz:=hF hU m1 m2 m3
 have hLz:=hL hU m1 m2 m3
 generalize openZ s bg m1 m2 m3 hU=z at *
 subst hzh
 have hUi:=hFz.unit i _ hgi
 have hlen:=hUi.len
 have hnn:=hFz.n
 obtain ⟨id,ab,ats,r,hne,_⟩ :=hUi.ne
 have hn:(ns i)[0]? =some (.ent id ab ats):=by rw[hne];rfl
 have hen:entAt bg (uAt us0 i) (ns i) 0=nodeE (uAt us0 i).base (nodeAtOff (uAt us0 i) z.big (ns i) 0) (.ent id ab ats):=by
  rw[entAt,hzb,List.getD_eq_getElem?_getD,hn];rfl
 have heo:=entAt_off (u:=uAt us0 i) (n:=.fin) bg hne
 have hdl:0 < (uAt us0 i).data.length:=by
  rw[hUi.data,hne]
  have:=nodeB_pos (udOf (uAt us0 i)) z.big (.ent id ab ats)
  simp only[nodesB,List.flatMap_cons,List.length_append];omega
 have w:=wrap_u32 (uAt us0 i).off (by omega)
 refine rn ?_
 refine callA [1015] 1 (f49_ok hG hFz us0 hub 1015 (uAt us0 0) hg0) ?_;rintro ret os fs ⟨us1,rb,h1,rfl,rfl,rfl⟩;refine sim ?_
 obtain ⟨v,hv,hb⟩ :=bare_of h1 hgi
 have ho:v.off=(uAt us0 i).off:=by rw[←hb];rfl
 have hd:v.data=(uAt us0 i).data:=by rw[←hb];rfl
 have f52:=f52_ok hG hFz us1 h1 rb 0 i v hv
 rw[ho,hd] at f52
 refine hEnt (eTops 1023 m0' (by refine sim ?_;rfl)) ?_
 refine sim ?_
 refine rnE @w ?_
 refine callA [1023,1015] 0 (f52) ?_;rintro ret os fs ⟨us2,h2,rfl,rfl,rfl⟩;refine sim ?_
 have hrd:=rdAt0 hFz hgi rb 1
 have f53:=f53_ok hG hFz us2 h2 rb i 0 i 0 _ _ _ hgi hgi (.inl ⟨rfl,rfl,hn⟩)
 rw[hrd,←hen] at f53
 simp only[rdAt_eq] at f53
 generalize entAt bg (uAt us0 i) (ns i) 0=e at *
 refine rn ?_
 refine callA [1023,1015] 0 (f53) ?_;rintro ret os fs ⟨us3,h3,rfl,rfl,rfl⟩;refine sim ?_
 obtain ⟨v3,hv3,hb3⟩ :=bare_of h3 hgi
 have ho3:v3.off=(uAt us0 i).off:=by rw[←hb3];rfl
 have hd3:v3.data=(uAt us0 i).data:=by rw[←hb3];rfl
 have f54:=f54_ok (G:=G) hG hT t pre 1015 e hLz us3 i v3 hv3 (by rw[←hsz,←hb3];rfl) (by rw[heo,ho3]) (by rw[hd3];exact hdl)
  (fun k w hw hk=>by rw[heo];exact Nat.le_of_lt (show (bare w).off < _ from hFz.inc k i _ _ (bare_get h3 hw) hgi hk)) (fun k w hw hk=>by rw[heo];exact (show _ < (bare w).off from hFz.inc i k _ _ hgi (bare_get h3 hw) hk))
  (by rw[bare_len h3];exact hnn) (by rw[ho3,hd3];exact hlen) hA rows hr N hN hrl
 refine rn ?_
 refine callA [1015] 1 (f54) ?_;rintro ret os fs ⟨h,rfl,rfl,rfl⟩;refine sim ?_
 refine rn ?_
 refine doneA [(1044,0)] ?_;try exact trivial
 exact ⟨_,rfl,rfl⟩
end
end Go.Proofs.YtbkfdnkeelmloaaGreatDoor
