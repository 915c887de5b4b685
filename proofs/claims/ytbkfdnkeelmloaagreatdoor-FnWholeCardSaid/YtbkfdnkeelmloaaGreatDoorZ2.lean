/- Part 2 of the proof: Am6 Am7 Am8 Am9. -/
import Derived.MapKept
import Derived.Test.YtbkfdnkeelmloaaGreatDoorZ1
set_option linter.unusedVariables false
set_option linter.unusedSimpArgs false
namespace Go.AM
open Go
section
variable {P:Program} {w:World} {M:Mem} {H:List (Nat×Option AObj)}
structure Mw (M:Mem) (H:List (Nat×Option AObj)) (w:World):Prop where
 memw:∀b o,M b=some o→w.heap[b]? =some o
 own:∀k ob,getO H k=some ob→ob.rel M w
theorem ownsRow_form {w:World} {E sz n:Nat} {h:Value} {vs:List Value} (hr:ownsZ w E sz h n vs):∃A cap,h= .slice A n cap:=by
 rcases hr.2 with ⟨rfl,rfl⟩ | ⟨g,cap,cur,fz,rfl,_⟩
 ·exact ⟨none,0,rfl⟩
 ·exact ⟨_,cap,rfl⟩
theorem arr_cells {w:World} {E sz:Nat} {h:Value} {xs:List (List AV)} {vs:List Value} (hr:ownsZ w E sz h xs.length vs) (hv:relL M xs.flatten vs) (hl:∀r∈xs,r.length=sz) {i:Nat} (hi:i < xs.length) (hsz:0 < sz):
  ∃g cap us,h= .slice (some ⟨g,0,none⟩) xs.length cap∧relL M (xs.getD i []) us∧∀(j:Nat) v,us[j]? =some v→w.cell? ⟨g,i * sz+j,none⟩ =some v:=by
 rcases hr.2 with ⟨rfl,h0⟩ | ⟨g,cap,cur,fz,rfl,hg,_,hn,hm,hs,ht,_⟩
 ·omega
 ·have hdrop:∀(ys:List (List AV)),(∀r∈ys,r.length=sz)→∀i,(ys.flatten).drop (i * sz)=(ys.drop i).flatten:=by
   intro ys
   induction ys with
   |nil=>intro _ i;simp
   |cons y ys ih=>
    intro hy i
    cases i with
    |zero=>simp
    |succ i=>
     have:=ih (fun r hr=>hy r (by simp[hr])) i
     have hy0:y.length=sz:=hy y (by simp)
     rw[List.flatten_cons,show (i+1) * sz=y.length+i * sz by rw[Nat.add_mul,hy0];omega,List.drop_append,List.drop_of_length_le (by omega)]
     simpa using this
  have e:xs.drop i=xs.getD i [] :: xs.drop (i+1):=by
   rw[List.drop_eq_getElem_cons hi,List.getD_eq_getElem?_getD,List.getElem?_eq_getElem hi];rfl
  have hri:(xs.getD i []).length=sz:=hl _ (by rw[List.getD_eq_getElem?_getD,List.getElem?_eq_getElem hi];exact List.getElem_mem hi)
  have h1:=relL_drop (i * sz) hv
  rw[hdrop xs hl i,e,List.flatten_cons] at h1
  have h2:=relL_take (xs.getD i []).length h1
  rw[List.take_left'] at h2
  ·refine ⟨g,cap,_,rfl,h2,fun j v hj=>?_⟩
   have hj':(vs.drop (i * sz))[j]? =some v:=by
    rw[List.getElem?_take] at hj
    split at hj
    ·exact hj
    ·cases hj
   rw[List.getElem?_drop] at hj'
   have:=hr.cells (g:=g) rfl (i * sz+j) v hj'
   rwa [addr_add,Nat.zero_add] at this
  ·rfl
theorem s_load {t:TypeId} {x:AV} {v:Value} (hw:Mw M H w) (hx:x.rel M v) (h:(actLoad P t x (getO H)).pre):
  YV M (actLoad P t x (getO H)) ((Instr.loadAt t v).run P w) w:=by
 unfold actLoad at h ⊢
 split at h
 ·rename_i ag n ht
  have fin:∀b o cs vs,v= .pointer (some ⟨b,o,none⟩)→relL M cs vs→(∀(i:Nat) u,vs[i]? =some u→w.cell? ⟨b,o+i,none⟩ =some u)→n≤cs.length→(ag=true∨n=1)→∀p,YV M (.pure p (ldv ag n cs)) ((Instr.loadAt t v).run P w) w:=by
   intro b o cs vs hv hr hc hn ha p
   subst hv
   have hl:=relL_length hr
   refine ⟨_,_,_,rfl, ?_,ldv_rel hr hn ha⟩
   simp only[Instr.loadAt,Instr.sureAddr,Sem.run_bind,Sem.run_pure,Result.andThen_ok]
   exact run_loadVar' ht ha (vs.take n) (by simp;omega) fun i u hu=>hc i u (by rw[List.getElem?_take] at hu;split at hu<;>simp_all)
  split at h
  ·rename_i cs
   obtain ⟨b,o,rfl,hc⟩ :=hx
   obtain ⟨vs,h1,h2⟩ :=cells_of_relC hw.memw hc
   exact fin b o cs vs rfl h1 h2 h.1 h.2 _
  ·rename_i k b o
   simp only[AV.rel] at hx
   subst hx
   split at h
   ·rename_i b' o' cs hk
    obtain ⟨rfl,h1,h2,h3⟩ :=h
    obtain ⟨arr,T,vs,hb,hr,hc⟩ :=hw.own k _ hk
    have hr':=relL_drop (o - o') hr
    refine fin b o _ _ rfl hr' (fun i u hu=>?_) (by simp;omega) h3 _
    rw[List.getElem?_drop] at hu
    have:=hc _ u hu
    rw[show o'+(o - o'+i)=o+i by omega] at this
    simp[World.cell?,hb,this]
   ·exact h.elim
  ·rename_i k hd sz i o
   split at h
   ·rename_i h' E' sz' xs hk
    split at h
    ·obtain ⟨rfl,rfl,hz,h1,h2,h3⟩ :=h
     obtain ⟨vs,ho,hr,hl,_⟩ :=hw.own k _ hk
     obtain ⟨g,cap,us,he,hru,hc⟩ :=arr_cells ho hr hl h1 hz
     obtain ⟨g',m,cap',he',rfl⟩ :=hx
     rw[he] at he'
     injection he' with he'
     injection he' with he'
     injection he' with he'
     subst he'
     have hri:(xs.getD i []).length=sz:=hl _ (by rw[List.getD_eq_getElem?_getD,List.getElem?_eq_getElem h1];exact List.getElem_mem h1)
     refine fin g (i * sz+o) _ _ rfl (relL_drop o hru) (fun j u hu=>?_) (by simp only[List.length_drop];omega) h3 _
     rw[List.getElem?_drop] at hu
     have:=hc _ u hu
     rwa [show i * sz+(o+j)=i * sz+o+j by omega] at this
    ·rename_i z0 hz0
     obtain ⟨rfl,rfl,rfl,rfl,rfl,hone,h1⟩ :=h
     obtain ⟨vs,ho,hr,hl,_⟩ :=hw.own k _ hk
     obtain ⟨g',m,cap',he',rfl⟩ :=hx
     by_cases hi:i < xs.length
     ·obtain ⟨g,cap,us,he,hru,hc⟩ :=arr_cells ho hr hl hi (by omega)
      rw[he] at he'
      injection he' with he'
      injection he' with he'
      injection he' with he'
      subst he'
      have hgd:xs.getD i [.val z0]=xs.getD i []:=by
       rw[List.getD_eq_getElem?_getD,List.getD_eq_getElem?_getD,List.getElem?_eq_getElem hi];rfl
      have hri:(xs.getD i []).length=1:=hl _ (by rw[List.getD_eq_getElem?_getD,List.getElem?_eq_getElem hi];exact List.getElem_mem hi)
      rw[hgd]
      refine fin g (i * 1+0) _ _ rfl hru (fun j u hu=>hc _ u hu) (by omega) (.inr rfl) _
     ·have hgd:xs.getD i [.val z0]=[.val z0]:=by
       rw[List.getD_eq_getElem?_getD,List.getElem?_eq_none (by omega)];rfl
      rw[hgd]
      rcases ho.2 with ⟨e0,h0⟩ | ⟨g,cap,cur,fz,e0,hg,_,hn,hm,hs,ht,hsl⟩
      ·rw[e0] at he';cases he'
      ·rw[e0] at he' h1
       injection he' with he'
       injection he' with he'
       injection he' with he'
       subst he'
       simp only[capV] at h1
       have hlt:i < cur.size:=by omega
       have:=hsl z0 hz0 i (by omega) hlt
       refine fin g (i * 1+0) [.val z0] [z0] rfl ⟨z0,[],rfl,hone,rfl,rfl⟩ (fun j u hu=>?_) (by simp) (.inr rfl) _
       cases j with
       |succ j=>simp at hu
       |zero=>
        simp only[List.getElem?_cons_zero,Option.some.injEq] at hu
        subst hu
        rw[show i * 1+0+0=i by omega,cell_of_row w g i cur _ fz hg]
        exact this
   ·exact h.elim
  ·exact h.elim
 ·exact h.elim
theorem s_indexAddr {t:TypeId} {x i:AV} {v u:Value} (hw:Mw M H w) (hx:x.rel M v) (hi:i.rel M u) (h:(actIndexAddr P t x i (getO H)).pre):
  YV M (actIndexAddr P t x i (getO H)) ((Instr.indexAt t v u).run P w) w:=by
 unfold actIndexAddr at h ⊢
 split at h
 ·rename_i k n
  cases hi
  split at h
  ·rename_i nn sz xs
   split at h
   ·rename_i e sz' bytes he
    obtain ⟨rfl,h0,h1⟩ :=h
    obtain ⟨A,cap,rfl,_,_,_,h3,_⟩ :=hx
    rcases h3 with rfl| ⟨b,o,rfl,hr⟩
    ·simp at h1;omega
    ·have hlt:n.toNat < xs.length:=by omega
     refine ⟨_,_,_,rfl,run_indexSlice he h0 h1,b,o+n.toNat * sz,rfl,(relR_get hr _ hlt).1⟩
   ·exact h.elim
  ·rename_i kk hd
   split at h
   ·rename_i e sz' bytes h' E' sz xs he hk
    obtain ⟨rfl,rfl,hz,h0,h1⟩ :=h
    obtain ⟨vs,ho,hr,hl,_⟩ :=hw.own kk _ hk
    have hlt:n.toNat < xs.length:=by omega
    obtain ⟨g,cap,us,he',_,_⟩ :=arr_cells ho hr hl hlt hz
    obtain ⟨rfl,_⟩ :=hx
    subst he'
    refine ⟨_,_,_,rfl,run_indexSlice he h0 h1,g,xs.length,cap,rfl,by simp⟩
   ·exact h.elim
  ·rename_i kk hd lo m
   split at h
   ·rename_i e sz' bytes he
    obtain ⟨rfl,h0,h1⟩ :=h
    obtain ⟨g,m',cap,rfl,hlo,rfl⟩ :=hx
    refine ⟨_,_,_,rfl,run_indexSlice he h0 h1,g,m',cap,rfl, ?_⟩
    simp only[Nat.mul_one,Nat.add_zero]
   ·exact h.elim
  ·rename_i kk b o
   simp only[AV.rel] at hx;subst hx
   split at h
   ·rename_i len sz ha
    exact ⟨_,_,_,rfl,run_indexArr ha h.1 h.2,rfl⟩
   ·exact h.elim
  ·rename_i cs
   obtain ⟨b,o,rfl,hc⟩ :=hx
   split at h
   ·rename_i len sz ha
    exact ⟨_,_,_,rfl,run_indexArr ha h.1 h.2,b,_,rfl,relC_drop _ hc⟩
   ·exact h.elim
  ·exact h.elim
 ·exact h.elim
theorem s_index {t:TypeId} {x i:AV} {v u:Value} (hx:x.rel M v) (hi:i.rel M u) (h:(actIndex P t x i).pre):YV M (actIndex P t x i) ((Instr.index t v u).run P w) w:=by
 unfold actIndex at h ⊢
 split at h
 ·rename_i s k n
  cases hx;cases hi
  obtain ⟨hs,h0,h1⟩ :=h
  have hlt:n.toNat < s.size:=by have:s.data.toList.length=s.size:=Array.length_toList;omega
  refine ⟨_,_,_,rfl, ?_,rfl⟩
  have hg:s[n.toNat]? =some s[n.toNat]:=by
   rw[getElem?_pos]
  have e2:s.data.toList.getD n.toNat 0=s[n.toNat]:=by
   rw[List.getD_eq_getElem?_getD,List.getElem?_eq_getElem (by rw[Array.length_toList];exact hlt)];rfl
  simp[Instr.index,asIntOf,run_underlying' (shape_str hs),h0,hg,-List.getD_eq_getElem?_getD,e2]
 ·exact h.elim
theorem s_extract {x:AV} {v:Value} {i:Nat} (hx:x.rel M v) (h:(actExtract x i).pre):YV M (actExtract x i) ((Instr.extract v i).run P w) w:=by
 unfold actExtract at h ⊢
 split at h
 ·rename_i vs
  obtain ⟨us,rfl,hr⟩ :=hx
  have h:i < vs.length:=h
  have hl:=relT_length hr
  obtain ⟨u,hu,hru⟩ :=relT_get hr i (vs.getD i .top) (by rw[List.getD_eq_getElem?_getD,List.getElem?_eq_getElem h];rfl)
  refine ⟨_,_,u,rfl, ?_,hru⟩
  simp[Instr.extract,hu]
 ·exact h.elim
theorem run_bound {x:Value} {k:IntKind} {n:Int} {y:Nat} {c:BoundsCode} (hx:x= .int k n) (h0:0≤n) (h1:n≤y):(Instr.sliceBound x y c).run P w= .ok n.toNat w:=by
 subst hx;simp[Instr.sliceBound,asIntOf,h0,h1]
theorem run_bounds {len cap:Nat} {b:Bool} {lo hi:Option Value} {l h:Int} (hl:(lo=none∧l=0)∨∃k,lo=some (.int k l)) (hh:(hi=none∧h=len)∨∃k,hi=some (.int k h)) (h0:0≤l) (h1:l≤h) (h2:h≤cap):
  (Instr.sliceBounds b len cap lo hi none).run P w= .ok (l.toNat,h.toNat,cap) w:=by
 unfold Instr.sliceBounds
 rcases hl with ⟨rfl,rfl⟩ | ⟨k,rfl⟩ <;>rcases hh with ⟨rfl,rfl⟩ | ⟨k',rfl⟩
 ·simp
 ·simp[run_bound rfl (by omega) h2]
 ·simp[run_bound (y:=len) rfl h0 (by omega)]
 ·simp[run_bound (y:=cap) rfl (show (0:Int)≤h by omega) h2,run_bound (y:=h.toNat) rfl h0 (by omega)]
theorem s_slice {t:TypeId} {x:AV} {v:Value} {lo hi:Option Operand} {e:Operand→AV} {ρ:Operand→Value} (hw:Mw M H w) (hx:x.rel M v) (he:∀y,lo=some y∨hi=some y→(e y).rel M (ρ y)) (h:(actSlice P t x (lo.map e) (hi.map e) (getO H)).pre):
  YV M (actSlice P t x (lo.map e) (hi.map e) (getO H)) ((Instr.sliceAt t v (lo.map ρ) (hi.map ρ) none).run P w) w:=by
 have bnd:∀(d n:Int) (a:Option Operand),(a=lo∨a=hi)→bndA d (a.map e)=some n→(a.map ρ=none∧n=d)∨∃k,a.map ρ=some (.int k n):=by
  intro d n a ha hb
  cases a with
  |none=>simp[bndA] at hb;exact .inl ⟨rfl,hb.symm⟩
  |some y=>
   have hr:=he y (by rcases ha with h|h<;>simp[←h])
   simp only[Option.map_some] at hb ⊢
   unfold bndA at hb
   split at hb
   ·rename_i h;cases h
   ·rename_i h
    simp only[Option.some.injEq] at h hb
    rw[h] at hr
    cases hb
    exact .inr ⟨_,by rw[hr]⟩
   ·cases hb
 unfold actSlice at h ⊢
 split at h
 ·rename_i s
  cases hx
  split at h
  ·rename_i l hh hl hhh
   obtain ⟨hs,h0,h1,h2⟩ :=h
   have hsz:s.data.toList.length=s.size:=Array.length_toList
   refine ⟨_,_,_,rfl, ?_,rfl⟩
   have hb:=run_bounds (P:=P) (w:=w) (b:=false) (len:=s.size) (cap:=s.size) (bnd _ _ _ (.inl rfl) hl) (by rw[hsz] at hhh;exact bnd _ _ _ (.inr rfl) hhh) h0 h1 (by omega)
   have hx:s.extract l.toNat hh.toNat= ⟨((s.data.toList.take hh.toNat).drop l.toNat).toArray⟩ :=by
    apply ByteArray.ext
    apply Array.ext'
    simp[ByteArray.data_extract,List.drop_take]
   simp[Instr.sliceAt,run_underlying' (shape_str hs),Instr.slice,hb,hx]
  ·exact h.elim
 ·rename_i nn sz xs
  split at h
  ·rename_i e' sz' bytes l hh hel hl hhh
   obtain ⟨rfl,h0,h1,h2⟩ :=h
   obtain ⟨A,cap,rfl,hA,hbig,hcap,h3,hsp⟩ :=hx
   obtain ⟨i,z,hu,hi',_,_,rfl,_⟩ :=elemR_spec hel
   have hb:=run_bounds (P:=P) (w:=w) (b:=true) (len:=xs.length) (cap:=cap) (bnd _ _ _ (.inl rfl) hl) (bnd _ _ _ (.inr rfl) hhh) h0 h1 (by omega)
   have hrun:(Instr.sliceAt t (.slice A xs.length cap) (lo.map ρ) (hi.map ρ) none).run P w= .ok (.slice (if cap=l.toNat then A else A.map (·.add (l.toNat * i.size))) (hh.toNat - l.toNat) (cap - l.toNat)) w:=by
    simp[Instr.sliceAt,run_underlying' hu,Instr.slice,hb,run_sizeOf' hi']
   have hlen:((xs.take hh.toNat).drop l.toNat).length=hh.toNat - l.toNat:=by simp;omega
   refine ⟨_,_,_,rfl,hrun, ?_⟩
   refine ⟨_,_,by rw[hlen], ?_,by omega,by rw[hlen];omega, ?_, ?_⟩
   ·intro hn
    have:=hA hn
    split
    ·exact this
    ·cases A with
     |none=>exact absurd rfl this
     |some a=>simp
   ·by_cases hemp:(xs.take hh.toNat).drop l.toNat=[]
    ·exact .inl hemp
    ·right
     rcases h3 with rfl| ⟨b,o,rfl,hr⟩
     ·simp at hemp
     ·have hne:cap≠l.toNat:=by
       intro hc
       apply hemp
       apply List.drop_eq_nil_of_le
       simp
       omega
      rw[if_neg hne]
      exact ⟨b,o+l.toNat * i.size,by simp[addr_add],relR_drop _ (relR_take _ hr)⟩
   ·intro p hp
    split at hp
    ·exact hsp p hp
    ·cases A with
     |none=>simp at hp
     |some a=>
      have:=hsp a rfl
      simp at hp
      subst hp
      unfold Addr.add
      split<;>simp_all
  ·exact h.elim
 ·rename_i k hd
  split at h
  ·rename_i h' E sz xs hk
   split at h
   ·rename_i e' sz' bytes l m hel hl hm
    obtain ⟨rfl,rfl,hc⟩ :=h
    obtain ⟨vs,ho,_⟩ :=hw.own k _ hk
    obtain ⟨rfl,_⟩ :=hx
    obtain ⟨i,z,hu,hi',_,_,hsz,_⟩ :=elemR_spec hel
    rcases ho.2 with ⟨rfl,h0⟩ | ⟨g,cap,cur,fz,rfl,hg,_,hn,_,_,_,_⟩
    ·simp only[capV] at hc
     have hlm:l=0∧m=0:=by omega
     obtain ⟨rfl,rfl⟩ :=hlm
     have hb:=run_bounds (P:=P) (w:=w) (b:=true) (len:=0) (cap:=0) (bnd _ _ _ (.inl rfl) hl) (hi:=hi.map ρ) (h:=0) (by rcases bnd _ _ _ (.inr rfl) hm with h|h;exact .inl ⟨h.1,rfl⟩;exact .inr h) (Int.le_refl _) (Int.le_refl _) (by simp)
     refine ⟨_,_,.slice none 0 0,rfl, ?_, ?_⟩
     ·simp[Instr.sliceAt,run_underlying' hu,Instr.slice,hb,run_sizeOf' hi']
     ·rw[if_pos ⟨rfl,by omega⟩];exact ⟨rfl,_,_,_,rfl⟩
    ·simp only[capV] at hc
     have hb:=run_bounds (P:=P) (w:=w) (b:=true) (len:=xs.length) (cap:=cap) (bnd _ _ _ (.inl rfl) hl) (bnd _ _ _ (.inr rfl) hm) (by omega) (by omega) (by omega)
     have hrun:(Instr.sliceAt t (.slice (some ⟨g,0,none⟩) xs.length cap) (lo.map ρ) (hi.map ρ) none).run P w= .ok (.slice (if cap=l.toNat then some ⟨g,0,none⟩ else some (Addr.add ⟨g,0,none⟩ (l.toNat * i.size))) (m.toNat - l.toNat) (cap - l.toNat)) w:=by
      simp[Instr.sliceAt,run_underlying' hu,Instr.slice,hb,run_sizeOf' hi']
     refine ⟨_,_,_,rfl,hrun, ?_⟩
     by_cases hlm:l=0∧m=xs.length
     ·rw[if_pos hlm]
      obtain ⟨rfl,rfl⟩ :=hlm
      refine ⟨?_,_,_,_,rfl⟩
      simp[addr_add]
     ·rw[if_neg hlm]
      obtain ⟨h1,h2,h3,h4⟩ :=hc.resolve_left hlm
      refine ⟨g,xs.length,cap,rfl,by omega, ?_⟩
      rw[if_neg (by omega),addr_add,hsz,h1]
      simp
   ·exact h.elim
  ·exact h.elim
 ·exact h.elim
theorem mapR_spec {t e:TypeId} {kk:IntKind} (h:mapR P t=some (kk,e)):∃kt,P.underlying t=some (.map kt e)∧P.underlying kt=some (.int kk):=by
 unfold mapR at h
 split at h
 ·rename_i k e' hu
  split at h
  ·rename_i kk' hk
   simp only[Option.some.injEq,Prod.mk.injEq] at h
   obtain ⟨rfl,rfl⟩ :=h
   exact ⟨k,hu,hk⟩
  ·cases h
 ·cases h
theorem findE_now {kk:IntKind}:∀{es:List (Int×AV)} {ents:List MapEntry},relE M kk es ents→∀(n:Int) (i:Nat),
  (findE es n=none→Instr.findNow (.int kk) (.int kk n) ents i=some none)∧(∀a,findE es n=some a→∃j v,Instr.findNow (.int kk) (.int kk n) ents i=some (some (j,v))∧a.rel M v)
 | [],_,h,n,i=>by
  simp only[relE] at h;subst h
  exact ⟨fun _=>rfl,fun a h=>by cases h⟩
 |(k,a) :: es,_, ⟨e,r,he,h1,h2,h3⟩,n,i=>by
  subst he
  have ih:=findE_now h3 n (i+1)
  simp only[findE,Instr.findNow,h1,Instr.sameNow,if_true]
  by_cases hk:k=n
  ·subst hk
   simp only[if_true,beq_self_eq_true,reduceCtorEq,false_implies,true_and,Option.some.injEq]
   rintro a rfl
   exact ⟨_,_,rfl,h2⟩
  ·have:(n == k)=false:=by simpa using fun e=>hk e.symm
   simp only[if_neg hk,this]
   exact ih
theorem mapA_spec {x:AV} {v:Value} {p:Prop} {kk:IntKind} {es:List (Int×AV)} (hw:Mw M H w) (hx:x.rel M v) (h:mapA (getO H) x=some (p,kk,es)) (hp:p):
  ∃r ents clock,v= .map (some r)∧w.heap[r]? =some (.map ents clock)∧relE M kk es ents.toList:=by
 unfold mapA at h
 split at h
 ·simp only[Option.some.injEq,Prod.mk.injEq] at h
  obtain ⟨_,rfl,rfl⟩ :=h
  obtain ⟨r,ents,clock,rfl,hM,hr⟩ :=hx
  exact ⟨r,ents,clock,rfl,hw.memw _ _ hM,hr⟩
 ·rename_i k r
  split at h
  ·rename_i r' kk' es' hk
   simp only[Option.some.injEq,Prod.mk.injEq] at h
   obtain ⟨rfl,rfl,rfl⟩ :=h
   subst hp
   simp only[AV.rel] at hx
   obtain ⟨ents,clock,h1,h2⟩ :=hw.own k _ hk
   exact ⟨r,ents,clock,hx,h1,h2⟩
  ·cases h
 ·cases h
theorem zero1R_run {t:Nat} {z:Value} (h:zero1R P t=some z):(zeroValue t).run P w= .ok z w:=by
 unfold zero1R at h
 split at h
 ·rename_i i hi
  split at h
  ·rename_i z' hz
   split at h
   ·cases h
    simp[zeroValue,run_typeInfo' hi,hz]
   ·cases h
  ·cases h
 ·cases h
theorem run_getMap {r:Nat} {es:Array MapEntry} {clock:Nat} (h:w.heap[r]? =some (.map es clock)):(getObj r).run P w= .ok (.map es clock) w:=by
 simp[getObj,Sem.run,h]
theorem s_lookup {t:TypeId} {x i:AV} {v u:Value} {ok:Bool} (hw:Mw M H w) (hx:x.rel M v) (hi:i.rel M u) (h:(actLookup P t x i ok (getO H)).pre):
  YV M (actLookup P t x i ok (getO H)) ((Instr.lookup t v u ok).run P w) w:=by
 unfold actLookup at h ⊢
 split at h
 ·rename_i kk e p kk' es k n hm hma
  cases hi
  obtain ⟨kt,hu,hk⟩ :=mapR_spec hm
  split at h
  ·rename_i a ha
   obtain ⟨hp,rfl,rfl⟩ :=h
   obtain ⟨r,ents,clock,rfl,hr,hrel⟩ :=mapA_spec hw hx hma hp
   obtain ⟨j,v,hf,hv⟩ :=(findE_now hrel n 0).2 a ha
   have hc:=MapKept.run_checkKey (P:=P) (w:=w) (k:=.int k n) hk rfl ents.isEmpty 9999
   have hf:=MapKept.run_findKey (P:=P) (w:=w) hk hf
   refine ⟨_,_,if ok then .tuple #[v,.bool true] else v,rfl, ?_, ?_⟩
   ·simp only[Instr.lookup,Sem.run_bind,run_underlying' hu,Result.andThen_ok,run_getMap hr,hc,hf,Sem.run_pure]
   ·cases ok with
    |true=>exact ⟨[v,.bool true],rfl,v,_,rfl,hv,.bool true,[],rfl,rfl,rfl⟩
    |false=>exact hv
  ·rename_i ha
   split at h
   ·rename_i z hz
    obtain ⟨hp,rfl,rfl⟩ :=h
    obtain ⟨r,ents,clock,rfl,hr,hrel⟩ :=mapA_spec hw hx hma hp
    have hf:=(findE_now hrel n 0).1 ha
    have hc:=MapKept.run_checkKey (P:=P) (w:=w) (k:=.int k n) hk rfl ents.isEmpty 9999
    have hf:=MapKept.run_findKey (P:=P) (w:=w) hk hf
    refine ⟨_,_,if ok then .tuple #[z,.bool false] else z,rfl, ?_, ?_⟩
    ·simp only[Instr.lookup,Sem.run_bind,run_underlying' hu,Result.andThen_ok,run_getMap hr,hc,hf,zero1R_run hz,Sem.run_pure]
    ·cases ok with
     |true=>exact ⟨[z,.bool false],rfl,z,_,rfl,rfl,.bool false,[],rfl,rfl,rfl⟩
     |false=>exact rfl
   ·exact h.elim
 ·exact h.elim
theorem s_cap {t:TypeId} {x:AV} {v:Value} {ts:Array TypeId} {ty:TypeId} (ht:ts[0]? =some t) (hx:x.rel M v) (h:(actCap P t x).pre):YV M (actCap P t x) ((Builtin.cap_ ts ty #[v]).run P w) w:=by
 unfold actCap at h ⊢
 split at h
 ·rename_i k hd
  obtain ⟨rfl,A,n,c,rfl⟩ :=hx
  obtain ⟨e,hu⟩ :=shape_slc h
  refine ⟨_,_,_,rfl, ?_,rfl⟩
  simp[Builtin.cap_,ht,run_underlying' hu,goInt,capV]
 ·exact h.elim
theorem s_max {x y:AV} {v u:Value} {ts:Array TypeId} {ty:TypeId} (hx:x.rel M v) (hy:y.rel M u) (h:(actMax x y).pre):YV M (actMax x y) ((Builtin.max_ ts ty #[v,u]).run P w) w:=by
 unfold actMax at h ⊢
 split at h
 ·cases hx;cases hy
  exact ⟨_,_,_,rfl,rfl,rfl⟩
 ·exact h.elim
theorem s_len {t:TypeId} {x:AV} {v:Value} {ts:Array TypeId} {ty:TypeId} (hw:Mw M H w) (ht:ts[0]? =some t) (hx:x.rel M v) (h:(actLen P t x (getO H)).pre):YV M (actLen P t x (getO H)) ((Builtin.len_ ts ty #[v]).run P w) w:=by
 unfold actLen at h ⊢
 split at h
 ·rename_i s
  cases hx
  have hsz:s.data.toList.length=s.size:=Array.length_toList
  refine ⟨_,_,_,rfl, ?_,rfl⟩
  simp[Builtin.len_,ht,run_underlying' (shape_str h),goInt]
 ·cases hx
  obtain ⟨e,hu⟩ :=shape_slc h
  refine ⟨_,_,_,rfl, ?_,rfl⟩
  simp[Builtin.len_,ht,run_underlying' hu,goInt]
 ·obtain ⟨A,cap,rfl,_⟩ :=hx
  obtain ⟨e,hu⟩ :=shape_slc h
  refine ⟨_,_,_,rfl, ?_,rfl⟩
  simp[Builtin.len_,ht,run_underlying' hu,goInt]
 ·obtain ⟨g,m,cap,rfl,hlo,rfl⟩ :=hx
  obtain ⟨e,hu⟩ :=shape_slc h
  refine ⟨_,_,_,rfl, ?_,rfl⟩
  simp[Builtin.len_,ht,run_underlying' hu,goInt]
 ·rename_i k hd
  split at h
  ·rename_i h' E sz xs hk
   obtain ⟨rfl,hs⟩ :=h
   obtain ⟨e,hu⟩ :=shape_slc hs
   obtain ⟨vs,ho,_⟩ :=hw.own k _ hk
   obtain ⟨A,cap,he⟩ :=ownsRow_form ho
   obtain ⟨rfl,_⟩ :=hx
   subst he
   refine ⟨_,_,_,rfl, ?_,rfl⟩
   simp[Builtin.len_,ht,run_underlying' hu,goInt]
  ·exact h.elim
 ·exact h.elim
end
open Go
section
variable {P:Program} {w:World} {M:Mem} {H:List (Nat×Option AObj)}
theorem intR_spec {t:Nat} {k:IntKind} (h:intR P t=some k):P.underlying t=some (.int k):=by
 unfold intR at h;split at h<;>first|(cases h;done)|skip
 rename_i k' hu;cases h;exact hu
theorem srcA_cells {a:AV} {v:Value} {p:Prop} {sz:Nat} {ys:List (List AV)} (hw:Mw M H w) (hr:a.rel M v) (h:srcA (getO H) a=some (p,sz,ys)) (hp:p):
  ∃A cap vs,v= .slice A ys.length cap∧relL M ys.flatten vs∧(ys=[]∨∃b o,A=some ⟨b,o,none⟩ ∧∀(j:Nat) u,vs[j]? =some u→w.cell? ⟨b,o+j,none⟩ =some u)∧vs.length=ys.length * sz∧(∀r∈ys,r.length=sz)∧(∀p,A=some p→p.spot=p.spot):=by
 unfold srcA at h
 split at h
 ·rename_i nn sz' ys'
  simp only[Option.some.injEq,Prod.mk.injEq] at h
  obtain ⟨_,rfl,rfl⟩ :=h
  obtain ⟨A,cap,rfl,_,_,_,h3,h4⟩ :=hr
  rcases h3 with rfl| ⟨b,o,rfl,hrow⟩
  ·exact ⟨A,cap,[],rfl,rfl,.inl rfl,by simp,by simp,h4⟩
  ·obtain ⟨hc,hlen⟩ :=relR_flat hrow
   obtain ⟨vs,h1,h2⟩ :=cells_of_relC hw.memw hc
   have hall:∀(o:Nat) (rs:List (List AV)),relR M sz' b o rs→∀r∈rs,r.length=sz':=by
    intro o rs
    induction rs generalizing o with
    |nil=>intro _ r hr;cases hr
    |cons x rs ih=>
     intro ⟨k1,_,k3⟩ r hr
     simp only[List.mem_cons] at hr
     rcases hr with rfl|hr
     ·exact k1
     ·exact ih _ k3 r hr
   exact ⟨_,cap,vs,rfl,h1,.inr ⟨b,o,rfl,h2⟩,by rw[relL_length h1,hlen],hall o _ hrow,h4⟩
 ·rename_i k hd
  split at h
  ·rename_i h' E sz' ys' hk
   simp only[Option.some.injEq,Prod.mk.injEq] at h
   obtain ⟨rfl,rfl,rfl⟩ :=h
   subst hp
   obtain ⟨vs,ho,hrl,hall,_⟩ :=hw.own k _ hk
   obtain ⟨rfl,_⟩ :=hr
   obtain ⟨A,cap,he⟩ :=ownsRow_form ho
   refine ⟨A,cap,vs,he,hrl, ?_,ho.1,hall,fun _ _=>rfl⟩
   rcases ho.2 with ⟨_,h0⟩ | ⟨g,cap',cur,fz,e1,_⟩
   ·exact .inl (List.eq_nil_of_length_eq_zero h0)
   ·right
    rw[he] at e1
    injection e1 with e1
    subst e1
    subst he
    exact ⟨g,0,rfl,fun j u hu=>by have:=ho.cells (g:=g) rfl j u hu;rwa [addr_add] at this⟩
  ·cases h
 ·cases h
def numA:List AV→Int
 | [.val (.int .u8 n)]=>n
 |_=>0
theorem byteA_num (r:List AV):byteA r=UInt8.ofNat (numA r).toNat:=by
 unfold byteA numA
 split
 ·rfl
 ·rename_i h
  split
  ·exact absurd rfl (h _)
  ·rfl
theorem bytes_rel:∀{ys:List (List AV)} {vs:List Value},relL M ys.flatten vs→ys.all isByteA=true→vs=(ys.map numA).map (Value.int .u8)
 | [],vs,h,_=>by simpa [relL] using h
 |r :: ys,vs,h,ha=>by
  simp only[List.all_cons,Bool.and_eq_true] at ha
  obtain ⟨h1,h2⟩ :=ha
  unfold isByteA at h1
  split at h1
  ·simp only[List.flatten_cons,List.cons_append,List.nil_append] at h
   obtain ⟨v,us,rfl,_,hv,hr⟩ :=h
   cases hv
   rw[bytes_rel hr h2]
   rfl
  ·cases h1
theorem zeroR_spec {t:Nat} {zs:List Value} (h:zeroR P t=some zs):∃i z,P.info? t=some i∧i.zero=some z∧z.cells.toList=zs:=by
 unfold zeroR at h
 rw[Option.bind_eq_some_iff] at h
 obtain ⟨i,hi,h⟩ :=h
 rw[Option.map_eq_some_iff] at h
 obtain ⟨z,hz,h⟩ :=h
 exact ⟨i,z,hi,hz,h⟩
theorem zeros_rel {M:Mem}:∀{zs:List Value},zs.all Value.oneCell'=true→relL M (zerosA zs) zs
 | [],_=>rfl
 |z :: zs,h=>by
  simp only[List.all_cons,Bool.and_eq_true] at h
  exact ⟨z,zs,rfl,h.1,rfl,zeros_rel h.2⟩
theorem oneA_rel {a:AV} {v:Value} (h:oneA a=true) (hr:a.rel M v):v.oneCell'=true:=by
 cases a<;>simp only[oneA,Bool.false_eq_true] at h
 ·cases hr;exact h
 ·obtain ⟨A,cap,rfl,_⟩ :=hr;rfl
 ·obtain ⟨b,o,rfl,_⟩ :=hr;rfl
 ·simp only[AV.rel] at hr;subst hr;rfl
 ·obtain ⟨rfl,A,n,c,rfl⟩ :=hr;rfl
 ·obtain ⟨g,n,c,_,rfl⟩ :=hr;rfl
 ·obtain ⟨g,n,c,_,_,rfl⟩ :=hr;rfl
 ·simp only[AV.rel] at hr;subst hr;rfl
 ·obtain ⟨v,rfl,_⟩ :=hr;rfl
 ·obtain ⟨vs,rfl,_⟩ :=hr;rfl
 ·obtain ⟨r,e,c,rfl,_⟩ :=hr;rfl
theorem cellsA_rel {a:AV} {v:Value} (h:oneA a=true∨a= .agg (cellsA a)) (hr:a.rel M v):relL M (cellsA a) v.cells.toList:=by
 by_cases hag:∃cs,a= .agg cs
 ·obtain ⟨cs,rfl⟩ :=hag
  obtain ⟨vs,rfl,hr⟩ :=hr
  simpa [cellsA,Value.cells] using hr
 ·have h1:oneA a=true:=h.resolve_right fun e=>hag ⟨_,e⟩
  have hc:cellsA a=[a]:=by
   cases a<;>first|rfl|exact absurd ⟨_,rfl⟩ hag
  have hv:=oneA_rel h1 hr
  rw[hc]
  have:v.cells= #[v]:=by cases v<;>first|rfl|(cases hv)
  rw[this]
  exact ⟨v,[],rfl,hv,hr,rfl⟩
theorem concR_spec {t:Nat} (h:concR P t=true):∃d,P.underlying t=some d∧∀ms,d≠.interface ms:=by
 unfold concR at h
 split at h
 ·cases h
 ·rename_i d hd hu
  exact ⟨d,hu,fun ms e=>hd ms e⟩
 ·cases h
theorem run_makeInterface' {t:Nat} {x:Value} (h:concR P t=true):(Instr.makeInterface t x).run P w= .ok (.iface t x) w:=by
 obtain ⟨d,hu,hd⟩ :=concR_spec h
 simp only[Instr.makeInterface,Sem.run_bind,run_underlying' hu,Result.andThen_ok]
 cases d<;>first|rfl|exact absurd rfl (hd _)
theorem zero1R_spec {t:Nat} {z:Value} (h:zero1R P t=some z):(zeroValue t).run P w= .ok z w:=zero1R_run h
theorem s_assert {x:AV} {v:Value} {u t:TypeId} {ok:Bool} (hx:x.rel M v) (h:(actAssert P x t ok).pre):YV M (actAssert P x t ok) ((Instr.typeAssert v u t ok).run P w) w:=by
 unfold actAssert at h ⊢
 split at h
 ·cases hx
  split at h
  ·rename_i z hz
   split at h
   ·rename_i hok
    obtain ⟨d,hu,hd⟩ :=concR_spec h
    subst hok
    refine ⟨_,.tup [.val z,.val (.bool false)],.tuple #[z,.bool false],by rw[if_pos rfl], ?_,[z,.bool false],rfl,z,_,rfl,rfl,.bool false,[],rfl,rfl,rfl⟩
    simp only[Instr.typeAssert,Sem.run_bind,run_underlying' hu,Result.andThen_ok]
    cases d<;>first|exact absurd rfl (hd _)|simp[zero1R_spec hz]
   ·exact h.elim
  ·exact h.elim
 ·rename_i ty a
  obtain ⟨v,rfl,hr⟩ :=hx
  split at h
  ·rename_i e
   subst e
   obtain ⟨d,hu,hd⟩ :=concR_spec h
   refine ⟨_,_,if ok then .tuple #[v,.bool true] else v,by rw[if_pos rfl], ?_, ?_⟩
   ·simp only[Instr.typeAssert,Sem.run_bind,run_underlying' hu,Result.andThen_ok]
    cases d<;>first|exact absurd rfl (hd _)|simp
   ·cases ok with
    |true=>exact ⟨[v,.bool true],rfl,v,_,rfl,hr,.bool true,[],rfl,rfl,rfl⟩
    |false=>exact hr
  ·rename_i hne
   split at h
   ·rename_i z hz
    split at h
    ·rename_i hok
     obtain ⟨d,hu,hd⟩ :=concR_spec h
     subst hok
     refine ⟨_,.tup [.val z,.val (.bool false)],.tuple #[z,.bool false],by rw[if_neg hne,if_pos rfl], ?_,[z,.bool false],rfl,z,_,rfl,rfl,.bool false,[],rfl,rfl,rfl⟩
     simp only[Instr.typeAssert,Sem.run_bind,run_underlying' hu,Result.andThen_ok]
     cases d<;>first|exact absurd rfl (hd _)|simp[zero1R_spec hz,hne]
    ·exact h.elim
   ·exact h.elim
 ·exact h.elim
theorem relL_setAt {M:Mem}:∀{vs:List AV} {us:List Value} {cs:List AV} {cv:List Value} (i:Nat),relL M cs cv→relL M vs us→relL M (setAt cs i vs) (us.zipIdx.foldl (fun c (p:Value×Nat)=>c.set (i+p.2) p.1) cv)
 | [],us,cs,cv,i,h,hv=>by simp only[relL] at hv;subst hv;simpa [setAt] using h
 |v :: vs,us,cs,cv,i,h, ⟨u,r,e,h1,h2,h3⟩ =>by
  subst e
  have:=relL_setAt (i+1) (relL_set i v u h h1 h2) h3
  simp only[List.zipIdx_cons,List.foldl_cons,Nat.add_zero,setAt]
  have e:∀(l:List Value) (k:Nat) (c:List Value),(l.zipIdx k).foldl (fun c (p:Value×Nat)=>c.set (i+1+p.2) p.1) c=(l.zipIdx (k+1)).foldl (fun c (p:Value×Nat)=>c.set (i+p.2) p.1) c:=by
   intro l
   induction l with
   |nil=>intro k c;rfl
   |cons x l ih=>
    intro k c
    simp only[List.zipIdx_cons,List.foldl_cons]
    rw[show i+1+k=i+(k+1) by omega]
    exact ih (k+1) _
  rw[e] at this
  exact this
theorem foldl_toList:∀(l:List (Value×Nat)) (a:Array Value) (off:Nat),(l.foldl (fun cs (p:Value×Nat)=>cs.setIfInBounds (off+p.2) p.1) a).toList=l.foldl (fun c (p:Value×Nat)=>c.set (off+p.2) p.1) a.toList
 | [],a,off=>rfl
 |p :: l,a,off=>by
  simp only[List.foldl_cons]
  rw[foldl_toList l]
  simp
theorem fill_cells (cells:Array Value) (v:Value) (off:Nat):(v.cells.zipIdx.foldl (fun cs (p:Value×Nat)=>cs.setIfInBounds (off+p.2) p.1) cells).toList=v.cells.toList.zipIdx.foldl (fun c (p:Value×Nat)=>c.set (off+p.2) p.1) cells.toList:=by
 rw[←foldl_toList]
 congr 1
 rw[←Array.foldl_toList]
 simp
theorem fillA_run {place:Nat→Option (Nat×Nat)}:∀{parts:List (Nat×AV)} {vals:List (Nat×Value)} {cs:List AV} {cells:Array Value} {p:Prop} {r:List AV},
  fillA place cs parts=some (p,r)→p→relL M cs cells.toList→(vals.map (·.1)=parts.map (·.1))→(∀(i:Nat) (a:Nat×AV) (v:Nat×Value),parts[i]? =some a→vals[i]? =some v→a.2.rel M v.2)→
  ∃out,Instr.fill place cells vals=some out∧relL M r out.toList
 | [],vals,cs,cells,p,r,h,hp,hc,hm,hr=>by
  simp only[fillA,Option.some.injEq,Prod.mk.injEq] at h
  obtain ⟨_,rfl⟩ :=h
  have:vals=[]:=by simpa using hm
  subst this
  exact ⟨cells,rfl,hc⟩
 |(i,a) :: parts,vals,cs,cells,p,r,h,hp,hc,hm,hr=>by
  match vals,hm with
  |(j,v) :: vals,hm0=>
   simp only[List.map_cons,List.cons.injEq] at hm0
   obtain ⟨hj,hm2⟩ :=hm0
   subst hj
   unfold fillA at h
   split at h
   ·cases h
   ·rename_i off n hpl
    split at h
    ·rename_i p' r' hf
     simp only[Option.some.injEq,Prod.mk.injEq] at h
     obtain ⟨rfl,rfl⟩ :=h
     obtain ⟨⟨h1,h2,h3⟩,hp'⟩ :=hp
     have hra:a.rel M v:=hr 0 (j,a) (j,v) rfl rfl
     have hcv:=cellsA_rel h3 hra
     have hlen:=relL_length hcv
     have hlc:=relL_length hc
     have hset:=relL_setAt off hc hcv
     rw[←fill_cells] at hset
     obtain ⟨out,ho,hro⟩ :=fillA_run hf hp' hset hm2 (fun k a' v' ha hv=>hr (k+1) a' v' (by simpa using ha) (by simpa using hv))
     refine ⟨out, ?_,hro⟩
     unfold Instr.fill
     simp only[hpl]
     simp only[Array.length_toList] at hlen hlc
     have e1:v.cells.size=n:=by omega
     have e2:off+v.cells.size≤cells.size:=by omega
     rw[if_neg (by simp[e1];omega)]
     exact ho
    ·cases h
end
open Go
theorem setAt_length:∀(vs:List AV) (cs:List AV) (i:Nat),(setAt cs i vs).length=cs.length
 | [],_,_=>rfl
 |v :: vs,cs,i=>by simp[setAt,setAt_length vs]
theorem seg_step {α:Type} (l:List α) (k:Nat) (v:α) (rest:List α) (hk:k+(rest.length+1)≤l.length):
  (l.set k v).take (k+1)++rest++(l.set k v).drop (k+1+rest.length)=l.take k++(v :: rest)++l.drop (k+(rest.length+1)):=by
 have h1:(l.set k v).take (k+1)=l.take k++[v]:=by
  rw[List.take_add_one,List.take_set_of_le (Nat.le_refl _),List.getElem?_set_self (by omega)]
  rfl
 have h2:(l.set k v).drop (k+1+rest.length)=l.drop (k+(rest.length+1)):=by
  rw[List.drop_set_of_lt (by omega)]
  congr 1
  omega
 rw[h1,h2]
 simp
theorem setAt_eq:∀(vs:List AV) (cs:List AV) (i:Nat),i+vs.length≤cs.length→setAt cs i vs=cs.take i++vs++cs.drop (i+vs.length)
 | [],cs,i,_=>by simp[setAt]
 |v :: vs,cs,i,h=>by
  simp only[List.length_cons] at h
  rw[setAt,setAt_eq vs (cs.set i v) (i+1) (by rw[List.length_set];omega)]
  exact seg_step cs i v vs h
section
variable {E:Env} {S:St} {M:Mem} {a:Act} {w:World}
theorem Sat.mw (h:Sat E S M a w):Mw M S.H w:= ⟨h.memw,fun k ob hk=>(h.own k ob hk).1⟩
theorem Sat.alloc (h:Sat E S M a w) (d:Nat) (ob:AObj) (o:Obj) (hb:ob.blk=some w.heap.size) (hr:ob.rel M (w.alloc o)):Sat E ⟨S.ρ,(d,some ob) :: S.H⟩ M a (w.alloc o):=by
 have hM0:M w.heap.size=none:=by
  cases hm:M w.heap.size with
  |none=>rfl
  |some x=>have:=(Array.getElem?_eq_some_iff.1 (h.memw _ _ hm)).1;omega
 have:=Sat.world (M':=M) (w':=w.alloc o) h [] [(d,some ob)] rfl rfl rfl (by simp) (fun b hb' _=>RowKit.Below.heap_alloc w o b hb') (by simp) (by simp) (Mem.le.refl M)
  (fun b x hx=>by rw[RowKit.Below.heap_alloc w o b (Array.getElem?_eq_some_iff.1 (h.memw _ _ hx)).1];exact h.memw b x hx) (fun b x hx=>.inl hx)
  (fun k ob' hk=>by
   simp only[getO] at hk
   split at hk
   ·cases hk
    refine ⟨hr,fun b hb'=>?_⟩
    rw[hb] at hb'
    cases hb'
    exact ⟨hM0,.inl (Nat.le_refl _)⟩
   ·cases hk)
  (fun k k' ob1 ob2 b hk hk' _ _=>by
   simp only[getO] at hk hk'
   split at hk<;>split at hk'<;>simp_all)
 simpa using this
theorem Sat.store (h:Sat E S M a w) (k g:Nat) (ob ob':AObj) (arr arr':Array Value) (T:TypeId) (fz:Nat×Nat) (hk:getO S.H k=some ob) (hb:ob.blk=some g) (hb':ob'.blk=some g) (hw:ob'.within ob)
  (hg:w.heap[g]? =some (.cells arr T fz)) (hr:ob'.rel M (w.setRow g arr'))
  (hpart:∀b o cs,ob= .cells b o cs→arr'.size=arr.size∧∀i,(i < o∨o+cs.length≤i)→arr'[i]? =arr[i]?):Sat E ⟨S.ρ,(k,some ob') :: S.H⟩ M a (w.setRow g arr'):=by
 have hMg:M g=none:=(h.own k ob hk).2.2 g hb
 have hne:∀b x,M b=some x→b≠g:=fun b x hx e=>by subst e;rw[hMg] at hx;cases hx
 have:=Sat.world (M':=M) (w':=w.setRow g arr') h [k] [(k,some ob')] rfl rfl rfl (by simp[World.setRow])
  (fun b _ hno=>setRow_other w g b arr' fun e=>by subst e;exact hno k (by simp) ob hk hb)
  (fun k' hk' b o cs ho=>by
   simp only[List.mem_singleton] at hk'
   subst hk'
   rw[hk] at ho
   injection ho with ho
   subst ho
   simp only[AObj.blk,Option.some.injEq] at hb
   subst hb
   obtain ⟨h1,h2⟩ :=hpart _ _ _ rfl
   exact ⟨arr,arr',T,fz,hg,setRow_heap w _ arr arr' T _ hg,h1,h2⟩)
  (by simp) (Mem.le.refl M) (fun b x hx=>by rw[setRow_other w g b arr' (hne b x hx)];exact h.memw b x hx) (fun b x hx=>.inl hx)
  (fun k' ob1 hk'=>by
   simp only[getO] at hk'
   split at hk'
   ·cases hk'
    refine ⟨hr,fun b hb1=>?_⟩
    rw[hb'] at hb1
    cases hb1
    exact ⟨hMg,.inr ⟨k,by simp,ob,hk,hb,hw⟩⟩
   ·cases hk')
  (fun k1 k2 ob1 ob2 b hk1 hk2 _ _=>by
   simp only[getO] at hk1 hk2
   split at hk1<;>split at hk2<;>simp_all)
 simpa using this
end
open Go
theorem seg_get {α:Type} (l m:List α) (k:Nat) (hk:k+m.length≤l.length) (i:Nat):
  (l.take k++m++l.drop (k+m.length))[i]? =if k≤i∧i < k+m.length then m[i - k]? else l[i]?:=by
 have hl:(l.take k).length=k:=by simp;omega
 by_cases h1:i < k
 ·rw[List.append_assoc,List.getElem?_append_left (by omega),List.getElem?_take_of_lt h1,if_neg (by omega)]
 ·by_cases h2:i < k+m.length
  ·rw[List.append_assoc,List.getElem?_append_right (by omega),hl,List.getElem?_append_left (by omega),if_pos (by omega)]
  ·rw[List.append_assoc,List.getElem?_append_right (by omega),hl,List.getElem?_append_right (by omega),List.getElem?_drop,if_neg (by omega)]
   congr 1
   omega
theorem flatten_set_set {α:Type}:∀(xs:List (List α)) (sz i o:Nat) (v:α),(∀r∈xs,r.length=sz)→i < xs.length→o < sz→(xs.set i ((xs.getD i []).set o v)).flatten=xs.flatten.set (i * sz+o) v
 | [],_,_,_,_,_,h,_=>by simp at h
 |x :: xs,sz,0,o,v,hl,_,ho=>by
  have hx:x.length=sz:=hl x (by simp)
  simp[List.set_append,hx,ho]
 |x :: xs,sz,i+1,o,v,hl,hi,ho=>by
  have hx:x.length=sz:=hl x (by simp)
  have ih:=flatten_set_set xs sz i o v (fun r hr=>hl r (by simp[hr])) (by simpa using hi) ho
  simp only[List.set_cons_succ,List.flatten_cons,List.getD_cons_succ,ih]
  rw[List.set_append,if_neg (by rw[Nat.add_mul];omega)]
  congr 2
  rw[Nat.add_mul]
  omega
theorem flatten_setAt:∀(cv:List AV) (xs:List (List AV)) (sz i o:Nat),(∀r∈xs,r.length=sz)→i < xs.length→o+cv.length≤sz→(xs.set i (setAt (xs.getD i []) o cv)).flatten=setAt xs.flatten (i * sz+o) cv
 | [],xs,sz,i,o,hl,hi,ho=>by
  simp only[setAt]
  congr 1
  apply List.ext_getElem?
  intro j
  rw[List.getElem?_set]
  by_cases h:i=j
  ·subst h
   simp[hi,List.getD_eq_getElem?_getD]
  ·simp[h]
 |v :: cv,xs,sz,i,o,hl,hi,ho=>by
  simp only[List.length_cons] at ho
  have hrow:∀r∈xs.set i ((xs.getD i []).set o v),r.length=sz:=by
   intro r hr
   rcases List.mem_or_eq_of_mem_set hr with h|h
   ·exact hl r h
   ·subst h
    rw[List.length_set]
    exact hl _ (by rw[List.getD_eq_getElem?_getD,List.getElem?_eq_getElem hi];exact List.getElem_mem hi)
  have ih:=flatten_setAt cv (xs.set i ((xs.getD i []).set o v)) sz i (o+1) hrow (by simpa using hi) (by omega)
  rw[flatten_set_set xs sz i o v hl hi (by omega)] at ih
  simp only[setAt]
  rw[←Nat.add_assoc] at ih
  rw[←ih]
  congr 1
  rw[List.set_set]
  congr 2
  simp[List.getD_eq_getElem?_getD,hi]
theorem set_rows {xs:List (List AV)} {sz i o:Nat} {cv:List AV} (hl:∀r∈xs,r.length=sz) (hi:i < xs.length):∀r∈xs.set i (setAt (xs.getD i []) o cv),r.length=sz:=by
 intro r hr
 rcases List.mem_or_eq_of_mem_set hr with h|h
 ·exact hl r h
 ·subst h
  rw[setAt_length]
  exact hl _ (by rw[List.getD_eq_getElem?_getD,List.getElem?_eq_getElem hi];exact List.getElem_mem hi)
theorem tyR_spec {P:Program} {t:TypeId} {ag:Bool} {n:Nat} (h:tyR P t=some (ag,n)):∃i,P.info? t=some i∧i.size=n:=by
 unfold tyR at h
 cases hi:P.info? t with
 |none=>simp[hi] at h
 |some i=>
  cases hu:P.underlying t with
  |none=>simp[hi,hu] at h
  |some u=>
   simp only[hi,hu,Option.some.injEq,Prod.mk.injEq] at h
   exact ⟨i,rfl,h.2⟩
section
variable {E:Env} {S:St} {M:Mem} {a:Act} {w:World}
theorem run_storeCells_z (P:Program) (g o:Nat) (t:TypeId) (fz:Nat×Nat):∀(vs:List Value) (i:Nat) (cur:Array Value) (w:World),w.heap[g]? =some (.cells cur t fz)→(∀j,j < cur.size→¬(fz.1≤j∧j < fz.2))→o+i+vs.length≤cur.size→(∀v∈vs,v.oneCell'=true)→
  (storeCells ⟨g,o,none⟩ vs i).run P w= .ok () (w.setRow g (cur.toList.take (o+i)++vs++cur.toList.drop (o+i+vs.length)).toArray)
 | [],i,cur,w,hg,_,_,_=>by
  simp only[storeCells,List.append_nil,List.length_nil,Nat.add_zero,List.take_append_drop,Array.toArray_toList]
  rw[setRow_self w g cur t fz hg]
  rfl
 |v :: rest,i,cur,w,hg,hfz,hl,h1=>by
  have hi:o+i < cur.size:=by simp at hl;omega
  have hcell:w.cell? ⟨g,o+i,none⟩ =some cur[o+i]:=by simp[World.cell?,hg,hi]
  have hfro:w.frozen? ⟨g,o+i,none⟩ =false:=by
   have:=hfz (o+i) hi
   simp only[World.frozen?,hg,Bool.and_eq_false_iff,decide_eq_false_iff_not]
   omega
  have hst:(store ((⟨g,o,none⟩ :Addr).add i) v).run P w= .ok () (w.setRow g (cur.setIfInBounds (o+i) v)):=by
   rw[addr_add,run_store P w _ v _ (h1 v (by simp)),hcell]
   simp[hfro,setCell_eq_setRow w g (o+i) cur t fz v hg]
  have ih:=run_storeCells_z P g o t fz rest (i+1) (cur.setIfInBounds (o+i) v) (w.setRow g (cur.setIfInBounds (o+i) v)) (setRow_heap w g cur _ t _ hg) (by simpa using hfz) (by simp at hl ⊢;omega) (fun x hx=>h1 x (by simp[hx]))
  simp only[storeCells,Sem.run_bind,hst,Result.andThen_ok,ih,setRow_setRow]
  congr 3
  have e:=list_seg_step cur.toList (o+i) v rest (by simp at hl ⊢;omega)
  simpa [Array.toList_setIfInBounds,Nat.add_assoc] using e
theorem run_storeAt {P:Program} {w:World} {t:TypeId} {ag:Bool} {n b o:Nat} {v:Value} {arr:Array Value} {T:TypeId} {fz:Nat×Nat} (ht:tyR P t=some (ag,n)) (hn:v.cells.size=n) (h1:∀u∈v.cells.toList,u.oneCell'=true)
  (hb:w.heap[b]? =some (.cells arr T fz)) (hfz:∀j,j < arr.size→¬(fz.1≤j∧j < fz.2)) (hfit:o+n≤arr.size):
  (Instr.storeAt t (.pointer (some ⟨b,o,none⟩)) v).run P w= .ok () (w.setRow b (arr.toList.take o++v.cells.toList++arr.toList.drop (o+v.cells.toList.length)).toArray):=by
 obtain ⟨i,hi,rfl⟩ :=tyR_spec ht
 have hs:=run_storeCells_z P b o T fz v.cells.toList 0 arr w hb hfz (by simp[hn];omega) h1
 simp only[Nat.add_zero] at hs
 simp[Instr.storeAt,Instr.sureAddr,storeVar,run_sizeOf' hi,hn,hs]
theorem s_store {t:TypeId} {x v:AV} {vx vv:Value} (hS:Sat E S M a w) (hx:x.rel M vx) (hv:v.rel M vv) (h:(actStore E.P t x v (getO S.H)).pre):
  ∃w',(Instr.storeAt t vx vv).run E.P w= .ok () w'∧Sat E ⟨S.ρ,(actStore E.P t x v (getO S.H)).upd default++S.H⟩ M a w'∧(actStore E.P t x v (getO S.H)).out default∧(actStore E.P t x v (getO S.H)).res default= .val undef:=by
 unfold actStore at h ⊢
 split at h
 ·rename_i ag n ht
  split at h
  ·rename_i k b o
   simp only[AV.rel] at hx
   subst hx
   split at h
   ·rename_i b' o' cs hk
    obtain ⟨rfl,h1,h2,h3,h4⟩ :=h
    have hcv:=cellsA_rel h4 hv
    have hcl:=relL_length hcv
    obtain ⟨arr,T,vs,hb,hr,hc⟩ :=(hS.own k _ hk).1
    have hvl:=relL_length hr
    have hsize:∀j,j < vs.length→o'+j < arr.size:=fun j hj=>(Array.getElem?_eq_some_iff.1 (hc j _ (List.getElem?_eq_getElem hj))).1
    have hvs:vv.cells.size=n:=by rw[←Array.length_toList];omega
    rcases Nat.eq_zero_or_pos n with h0|h0
    ·
     obtain ⟨i,hi,hi2⟩ :=tyR_spec ht
     have hnil:vv.cells.toList=[]:=List.eq_nil_of_length_eq_zero (by omega)
     have hnilA:cellsA v=[]:=List.eq_nil_of_length_eq_zero (by omega)
     refine ⟨w,by simp[Instr.storeAt,Instr.sureAddr,storeVar,run_sizeOf' hi,hi2,hvs,hnil,storeCells], ?_,trivial,rfl⟩
     have:=hS.sub (S':= ⟨S.ρ,(k,some (.cells b o' cs)) :: S.H⟩) (fun t=>.inr rfl) (fun k'=>by
      simp only[getO]
      by_cases e:k=k'
      ·subst e;simp[hk]
      ·simp[e])
     simpa [hnilA,setAt] using this
    ·have hfit:o+n≤arr.size:=by have:=hsize (o - o'+n - 1) (by omega);omega
     have hrun:=run_storeAt (P:=E.P) (v:=vv) ht hvs (relL_one hcv) hb (by intro j _;simp) hfit
     refine ⟨_,hrun, ?_,trivial,rfl⟩
     have hlen2:vv.cells.toList.length=n:=by omega
     have hal:arr.toList.length=arr.size:=Array.length_toList
     refine hS.store k b _ _ arr _ T (0,0) hk rfl rfl ⟨rfl,Nat.le_refl _,by rw[setAt_length];exact Nat.le_refl _⟩ hb ?_ ?_
     ·refine ⟨_,T,vs.take (o - o')++vv.cells.toList++vs.drop (o - o'+vv.cells.toList.length),setRow_heap w b arr _ T _ hb, ?_, ?_⟩
      ·rw[setAt_eq _ _ _ (by omega),hlen2,←h3]
       exact relL_append (relL_append (relL_take _ hr) hcv) (relL_drop _ hr)
      ·intro i u hu
       rw[seg_get vs vv.cells.toList (o - o') (by omega)] at hu
       rw[List.getElem?_toArray,seg_get arr.toList vv.cells.toList o (by omega)]
       split at hu
       ·rw[if_pos (by omega),show o'+i - o=i - (o - o') by omega]
        exact hu
       ·rw[if_neg (by omega),Array.getElem?_toList]
        exact hc i u hu
     ·intro b1 o1 cs1 he
      cases he
      refine ⟨by simp;omega,fun i hi=>?_⟩
      rw[List.getElem?_toArray,seg_get arr.toList vv.cells.toList o (by omega),if_neg (by omega),Array.getElem?_toList]
   ·exact h.elim
  ·rename_i k hd sz i o
   split at h
   ·rename_i h' E' sz' xs hk
    obtain ⟨rfl,rfl,hz,h1,h2,h3,h4⟩ :=h
    have hcv:=cellsA_rel h4 hv
    have hcl:=relL_length hcv
    obtain ⟨vs,ho,hr,hl,hbig⟩ :=(hS.own k _ hk).1
    have hvs:vv.cells.size=n:=by rw[←Array.length_toList];omega
    have hlen2:vv.cells.toList.length=n:=by omega
    obtain ⟨g',m,cap',he',rfl⟩ :=hx
    rcases ho.2 with ⟨e1,h0⟩ | ⟨g,cap,cur,fz,e1,hg,hfz,hnc,hcm,hcs,htake,hsl⟩
    ·omega
    ·rw[he'] at e1
     injection e1 with e1 e2 e3
     injection e1 with e1
     injection e1 with e1
     subst e1;subst e2;subst e3
     have hpos:i * sz+o+n≤xs.length * sz:=by
      have:(i+1) * sz≤xs.length * sz:=Nat.mul_le_mul_right _ h1
      rw[Nat.add_mul] at this
      omega
     have hcap:xs.length * sz≤cap' * sz:=Nat.mul_le_mul_right _ hnc
     have hfit:i * sz+o+n≤cur.size:=by omega
     have hrun:=run_storeAt (P:=E.P) (v:=vv) ht hvs (relL_one hcv) hg hfz hfit
     refine ⟨_,hrun, ?_,trivial,rfl⟩
     have hvl:vs.length=xs.length * sz:=ho.1
     have hal:cur.toList.length=cur.size:=Array.length_toList
     have hfl:=relL_length hr
     refine hS.store k g' _ _ cur _ E' fz hk (by simp[AObj.blk,he',Value.ownBlock]) (by simp[AObj.blk,he',Value.ownBlock]) rfl hg ?_ (fun b1 o1 cs1 he=>by cases he)
     refine ⟨vs.take (i * sz+o)++vv.cells.toList++vs.drop (i * sz+o+vv.cells.toList.length), ⟨by simp;omega,.inr ⟨g',cap',_,fz,by rw[List.length_set];exact he',setRow_heap w g' cur _ E' _ hg,by intro j hj;exact hfz j (by simp at hj;omega),by rw[List.length_set];exact hnc,hcm,by simp;omega, ?_, ?_⟩⟩, ?_,set_rows hl h1,by rw[List.length_set];exact hbig⟩
     ·rw[List.length_set]
      apply List.ext_getElem?
      intro j
      rw[List.getElem?_take]
      by_cases hj:j < xs.length * sz
      ·rw[if_pos hj,seg_get cur.toList vv.cells.toList _ (by omega),seg_get vs vv.cells.toList _ (by omega)]
       split
       ·rfl
       ·rw[←htake,List.getElem?_take_of_lt hj]
      ·rw[if_neg hj,List.getElem?_eq_none (by simp;omega)]
     ·rw[List.length_set]
      intro z0 hz i hi1 hi2
      rw[List.getElem?_toArray,seg_get cur.toList vv.cells.toList _ (by omega),if_neg (by omega),Array.getElem?_toList]
      exact hsl z0 hz i hi1 (by simp at hi2;omega)
     ·rw[flatten_setAt _ _ _ _ _ hl h1 (by omega),setAt_eq _ _ _ (by omega),hlen2,←h3]
      exact relL_append (relL_append (relL_take _ hr) hcv) (relL_drop _ hr)
   ·exact h.elim
  ·exact h.elim
 ·exact h.elim
end
end Go.AM
