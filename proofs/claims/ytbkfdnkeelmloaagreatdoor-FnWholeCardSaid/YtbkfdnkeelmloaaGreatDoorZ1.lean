/- Part 1 of the proof: Am0 Am1 Am2 Am3 Am4 Am5. -/
import Derived.Maps.AppendAt
import Derived.Orders
import Derived.WalkKit
set_option linter.unusedVariables false
set_option linter.unusedSimpArgs false
namespace Go.AM
open Go
inductive AV where
 |top
 |val (v:Value)
 |dat (nn:Bool) (sz:Nat) (xs:List (List AV))
 |pt (cs:List AV)
 |ref (k b o:Nat)
 |buf (k:Nat) (h:Value)
 |aref (k:Nat) (h:Value) (sz i o:Nat)
 |sub (k:Nat) (h:Value) (lo n:Nat)
 |omap (k r:Nat)
 |ifc (t:TypeId) (a:AV)
 |fn (f:FuncId) (caps:List AV)
 |agg (cs:List AV)
 |tup (vs:List AV)
 |cnd (g:Bool) (a:AV)
 |mp (kk:IntKind) (es:List (Int×AV))
 deriving Inhabited
abbrev Mem:=Nat→Option Obj
def Mem.cell (M:Mem) (b o:Nat):Option Value:=
 match M b with
 |some (.cells c _ _)=>c[o]?
 |_=>none
abbrev big:Nat:=140737488355328
mutual
def AV.rel (M:Mem):AV→Value→Prop
 | .top,_=>True
 | .val v,x=>x=v
 | .dat nn sz xs,x=>∃A cap,x= .slice A xs.length cap∧(nn=true→A≠none)∧xs.length≤big∧xs.length≤cap∧
   (xs=[]∨∃b o,A=some ⟨b,o,none⟩ ∧relR M sz b o xs)∧(∀p,A=some p→p.spot=p.spot)
 | .pt cs,x=>∃b o,x= .pointer (some ⟨b,o,none⟩)∧relC M b o cs
 | .ref _ b o,x=>x= .pointer (some ⟨b,o,none⟩)
 | .buf _ h,x=>x=h∧∃A n c,h= .slice A n c
 | .omap _ r,x=>x= .map (some r)
 | .aref _ h sz i o,x=>∃g n cap,h= .slice (some ⟨g,0,none⟩) n cap∧x= .pointer (some ⟨g,i * sz+o,none⟩)
 | .sub _ h lo n,x=>∃g m cap,h= .slice (some ⟨g,0,none⟩) m cap∧lo < cap∧x= .slice (some ⟨g,lo,none⟩) n (cap - lo)
 | .ifc t a,x=>∃v,x= .iface t v∧a.rel M v
 | .fn f caps,x=>∃vs,x= .func (.func f) #[] vs.toArray∧relT M caps vs
 | .agg cs,x=>∃vs,x= .agg vs.toArray∧relL M cs vs
 | .tup cs,x=>∃vs,x= .tuple vs.toArray∧relT M cs vs
 | .cnd g a,x=>(g=true→a.rel M x)∧(g=false→x=undef)
 | .mp kk es,x=>∃r ents clock,x= .map (some r)∧M r=some (.map ents clock)∧relE M kk es ents.toList
def relL (M:Mem):List AV→List Value→Prop
 | [],vs=>vs=[]
 |a :: as,vs=>∃v r,vs=v :: r∧v.oneCell'=true∧a.rel M v∧relL M as r
def relT (M:Mem):List AV→List Value→Prop
 | [],vs=>vs=[]
 |a :: as,vs=>∃v r,vs=v :: r∧a.rel M v∧relT M as r
def relC (M:Mem) (b:Nat):Nat→List AV→Prop
 |_,[]=>True
 |o,a :: as=>(∃v,M.cell b o=some v∧v.oneCell'=true∧a.rel M v)∧relC M b (o+1) as
def relR (M:Mem) (sz b:Nat):Nat→List (List AV)→Prop
 |_,[]=>True
 |o,r :: rs=>r.length=sz∧relC M b o r∧relR M sz b (o+sz) rs
def relE (M:Mem) (kk:IntKind):List (Int×AV)→List MapEntry→Prop
 | [],es=>es=[]
 |(k,a) :: as,es=>∃e r,es=e :: r∧e.key= .int kk k∧a.rel M e.val∧relE M kk as r
end
def Mem.le (M M':Mem):Prop:=∀b o,M b=some o→M' b=some o
theorem Mem.le.refl (M:Mem):M.le M:=fun _ _ h=>h
theorem Mem.le.trans {A B C:Mem} (h:A.le B) (k:B.le C):A.le C:=fun b o x=>k b o (h b o x)
theorem Mem.cell_mono {M M':Mem} (h:M.le M') {b o:Nat} {v:Value} (hc:M.cell b o=some v):M'.cell b o=some v:=by
 unfold Mem.cell at *
 cases hb:M b with
 |none=>simp[hb] at hc
 |some x=>rw[h b x hb];simpa [hb] using hc
mutual
theorem AV.rel_mono {M M':Mem} (h:M.le M'):∀(a:AV) (v:Value),a.rel M v→a.rel M' v
 | .top,_,_=>trivial
 | .val _,_,hr=>hr
 | .dat _ sz xs,_, ⟨A,cap,e,h1,h2,h2',h3,h4⟩ => ⟨A,cap,e,h1,h2,h2',h3.imp id fun ⟨b,o,e2,hr⟩ => ⟨b,o,e2,relR_mono h sz b o xs hr⟩,h4⟩
 | .pt cs,_, ⟨b,o,e,hr⟩ => ⟨b,o,e,relC_mono h b o cs hr⟩
 | .ref ..,_,hr=>hr
 | .buf ..,_,hr=>hr
 | .omap ..,_,hr=>hr
 | .aref ..,_,hr=>hr
 | .sub ..,_,hr=>hr
 | .ifc _ a,_, ⟨v,e,hr⟩ => ⟨v,e,a.rel_mono h v hr⟩
 | .fn _ caps,_, ⟨vs,e,hr⟩ => ⟨vs,e,relT_mono h caps vs hr⟩
 | .agg cs,_, ⟨vs,e,hr⟩ => ⟨vs,e,relL_mono h cs vs hr⟩
 | .tup cs,_, ⟨vs,e,hr⟩ => ⟨vs,e,relT_mono h cs vs hr⟩
 | .cnd _ a,v, ⟨h1,h2⟩ => ⟨fun g=>a.rel_mono h v (h1 g),h2⟩
 | .mp kk es,_, ⟨r,ents,clock,e,hM,hr⟩ => ⟨r,ents,clock,e,h _ _ hM,relE_mono h kk es _ hr⟩
theorem relL_mono {M M':Mem} (h:M.le M'):∀(as:List AV) (vs:List Value),relL M as vs→relL M' as vs
 | [],_,hr=>hr
 |a :: as,_, ⟨v,r,e,h1,h2,h3⟩ => ⟨v,r,e,h1,a.rel_mono h v h2,relL_mono h as r h3⟩
theorem relT_mono {M M':Mem} (h:M.le M'):∀(as:List AV) (vs:List Value),relT M as vs→relT M' as vs
 | [],_,hr=>hr
 |a :: as,_, ⟨v,r,e,h2,h3⟩ => ⟨v,r,e,a.rel_mono h v h2,relT_mono h as r h3⟩
theorem relC_mono {M M':Mem} (h:M.le M') (b:Nat):∀(o:Nat) (as:List AV),relC M b o as→relC M' b o as
 |_,[],_=>trivial
 |o,a :: as, ⟨⟨v,hc,h1,h2⟩,h3⟩ => ⟨⟨v,Mem.cell_mono h hc,h1,a.rel_mono h v h2⟩,relC_mono h b (o+1) as h3⟩
theorem relR_mono {M M':Mem} (h:M.le M') (sz b:Nat):∀(o:Nat) (rs:List (List AV)),relR M sz b o rs→relR M' sz b o rs
 |_,[],_=>trivial
 |o,r :: rs, ⟨h1,h2,h3⟩ => ⟨h1,relC_mono h b o r h2,relR_mono h sz b (o+sz) rs h3⟩
theorem relE_mono {M M':Mem} (h:M.le M') (kk:IntKind):∀(as:List (Int×AV)) (es:List MapEntry),relE M kk as es→relE M' kk as es
 | [],_,hr=>hr
 |(_,a) :: as,_, ⟨e,r,he,h1,h2,h3⟩ => ⟨e,r,he,h1,a.rel_mono h e.val h2,relE_mono h kk as r h3⟩
end
theorem relL_length {M:Mem}:∀{as:List AV} {vs:List Value},relL M as vs→vs.length=as.length
 | [],_,h=>by simp only[relL] at h;simp[h]
 |_ :: as,_, ⟨v,r,e,_,_,h⟩ =>by subst e;simp[relL_length h]
theorem relT_length {M:Mem}:∀{as:List AV} {vs:List Value},relT M as vs→vs.length=as.length
 | [],_,h=>by simp only[relT] at h;simp[h]
 |_ :: as,_, ⟨v,r,e,_,h⟩ =>by subst e;simp[relT_length h]
theorem relL_get {M:Mem}:∀{as:List AV} {vs:List Value},relL M as vs→∀(i:Nat) (a:AV),as[i]? =some a→∃v:Value,vs[i]? =some v∧v.oneCell'=true∧a.rel M v
 | [],_,_,i,a,ha=>by simp at ha
 |x :: as,_, ⟨v,r,e,h1,h2,h⟩,i,a,ha=>by
  subst e
  cases i with
  |zero=>simp at ha;subst ha;exact ⟨v,by simp,h1,h2⟩
  |succ i=>simp at ha;simpa using relL_get h i a ha
theorem relL_one {M:Mem}:∀{as:List AV} {vs:List Value},relL M as vs→∀v∈vs,v.oneCell'=true
 | [],_,h,v,hv=>by simp only[relL] at h;simp[h] at hv
 |x :: as,_, ⟨u,r,e,h1,h2,h⟩,v,hv=>by
  subst e
  simp at hv
  rcases hv with rfl|hv
  ·exact h1
  ·exact relL_one h v hv
theorem relL_append {M:Mem}:∀{as bs:List AV} {vs us:List Value},relL M as vs→relL M bs us→relL M (as++bs) (vs++us)
 | [],_,_,_,h,k=>by simp only[relL] at h;subst h;simpa using k
 |x :: as,_,_,_, ⟨u,r,e,h1,h2,h⟩,k=>by subst e;exact ⟨u,r++_,rfl,h1,h2,relL_append h k⟩
theorem relL_take {M:Mem}:∀{as:List AV} {vs:List Value} (n:Nat),relL M as vs→relL M (as.take n) (vs.take n)
 | [],_,n,h=>by simp only[relL] at h;subst h;simp[relL]
 |x :: as,_,0,h=>by simp[relL]
 |x :: as,_,n+1, ⟨u,r,e,h1,h2,h⟩ =>by subst e;exact ⟨u,r.take n,rfl,h1,h2,relL_take n h⟩
theorem relL_drop {M:Mem}:∀{as:List AV} {vs:List Value} (n:Nat),relL M as vs→relL M (as.drop n) (vs.drop n)
 | [],_,n,h=>by simp only[relL] at h;subst h;simp[relL]
 |x :: as,_,0,h=>h
 |x :: as,_,n+1, ⟨u,r,e,h1,h2,h⟩ =>by subst e;simpa using relL_drop n h
theorem relL_set {M:Mem}:∀{as:List AV} {vs:List Value} (n:Nat) (a:AV) (v:Value),relL M as vs→v.oneCell'=true→a.rel M v→relL M (as.set n a) (vs.set n v)
 | [],_,n,_,_,h,_,_=>by simp only[relL] at h;subst h;simp[relL]
 |x :: as,_,0,a,v, ⟨u,r,e,h1,h2,h⟩,hv,ha=>by subst e;exact ⟨v,r,rfl,hv,ha,h⟩
 |x :: as,_,n+1,a,v, ⟨u,r,e,h1,h2,h⟩,hv,ha=>by subst e;exact ⟨u,r.set n v,rfl,h1,h2,relL_set n a v h hv ha⟩
theorem relT_get {M:Mem}:∀{as:List AV} {vs:List Value},relT M as vs→∀(i:Nat) (a:AV),as[i]? =some a→∃v:Value,vs[i]? =some v∧a.rel M v
 | [],_,_,i,a,ha=>by simp at ha
 |x :: as,_, ⟨v,r,e,h2,h⟩,i,a,ha=>by
  subst e
  cases i with
  |zero=>simp at ha;subst ha;exact ⟨v,by simp,h2⟩
  |succ i=>simp at ha;simpa using relT_get h i a ha
theorem relT_append {M:Mem}:∀{as bs:List AV} {vs us:List Value},relT M as vs→relT M bs us→relT M (as++bs) (vs++us)
 | [],_,_,_,h,k=>by simp only[relT] at h;subst h;simpa using k
 |x :: as,_,_,_, ⟨u,r,e,h2,h⟩,k=>by subst e;exact ⟨u,r++_,rfl,h2,relT_append h k⟩
theorem relC_cells {M:Mem} {b:Nat}:∀{o:Nat} {cs:List AV},relC M b o cs→∃vs,relL M cs vs∧∀i v,vs[i]? =some v→M.cell b (o+i)=some v
 |_,[],_=> ⟨[],rfl,fun i v h=>by simp at h⟩
 |o,a :: as, ⟨⟨v,hc,h1,h2⟩,h3⟩ =>by
  obtain ⟨vs,hv,hget⟩ :=relC_cells h3
  refine ⟨v :: vs, ⟨v,vs,rfl,h1,h2,hv⟩,fun i u hu=>?_⟩
  cases i with
  |zero=>simp at hu;subst hu;exact hc
  |succ i=>simp at hu;have:=hget i u hu;rwa [show o+1+i=o+(i+1) by omega] at this
theorem relC_of_cells {M:Mem} {b:Nat}:∀{o:Nat} {cs:List AV} {vs:List Value},relL M cs vs→(∀i v,vs[i]? =some v→M.cell b (o+i)=some v)→relC M b o cs
 |_,[],_,_,_=>trivial
 |o,a :: as,_, ⟨v,r,e,h1,h2,h⟩,hc=>by
  subst e
  exact ⟨⟨v,by simpa using hc 0 v (by simp),h1,h2⟩,relC_of_cells h fun i u hu=>by
   have:=hc (i+1) u (by simpa using hu);rwa [show o+(i+1)=o+1+i by omega] at this⟩
theorem relC_drop {M:Mem} {b:Nat}:∀{o:Nat} {cs:List AV} (n:Nat),relC M b o cs→relC M b (o+n) (cs.drop n)
 |_,[],n,_=>by simp[relC]
 |o,a :: as,0,h=>h
 |o,a :: as,n+1, ⟨_,h⟩ =>by have:=relC_drop n h;rw[show o+1+n=o+(n+1) by omega] at this;simpa using this
theorem relC_take {M:Mem} {b:Nat}:∀{o:Nat} {cs:List AV} (n:Nat),relC M b o cs→relC M b o (cs.take n)
 |_,[],n,_=>by simp[relC]
 |o,a :: as,0,h=>by simp[relC]
 |o,a :: as,n+1, ⟨h1,h⟩ => ⟨h1,relC_take n h⟩
theorem relR_drop {M:Mem} {sz b:Nat}:∀{o:Nat} {rs:List (List AV)} (n:Nat),relR M sz b o rs→relR M sz b (o+n * sz) (rs.drop n)
 |_,[],n,_=>by simp[relR]
 |o,a :: as,0,h=>by simpa using h
 |o,a :: as,n+1, ⟨_,_,h⟩ =>by
  have:=relR_drop n h
  rw[show o+sz+n * sz=o+(n+1) * sz by rw[Nat.add_mul];omega] at this
  simpa using this
theorem relR_take {M:Mem} {sz b:Nat}:∀{o:Nat} {rs:List (List AV)} (n:Nat),relR M sz b o rs→relR M sz b o (rs.take n)
 |_,[],n,_=>by simp[relR]
 |o,a :: as,0,h=>by simp[relR]
 |o,a :: as,n+1, ⟨h1,h2,h⟩ => ⟨h1,h2,relR_take n h⟩
theorem relR_get {M:Mem} {sz b:Nat} {o:Nat} {rs:List (List AV)} (h:relR M sz b o rs) (i:Nat) (hi:i < rs.length):relC M b (o+i * sz) (rs.getD i [])∧(rs.getD i []).length=sz:=by
 have h1:=relR_drop i h
 have e:rs.drop i=rs.getD i [] :: rs.drop (i+1):=by
  rw[List.drop_eq_getElem_cons hi,List.getD_eq_getElem?_getD,List.getElem?_eq_getElem hi];rfl
 rw[e] at h1
 exact ⟨h1.2.1,h1.1⟩
theorem relR_flat {M:Mem} {sz b:Nat}:∀{o:Nat} {rs:List (List AV)},relR M sz b o rs→relC M b o rs.flatten∧rs.flatten.length=rs.length * sz
 |_,[],_=>by simp[relC]
 |o,r :: rs, ⟨h1,h2,h3⟩ =>by
  obtain ⟨k1,k2⟩ :=relR_flat h3
  refine ⟨?_,by simp[k2,h1,Nat.add_mul];omega⟩
  obtain ⟨vs,hv,hg⟩ :=relC_cells h2
  obtain ⟨us,hu,hk⟩ :=relC_cells k1
  have hl:=relL_length hv
  simp only[List.flatten_cons]
  refine relC_of_cells (relL_append hv hu) fun i v hi=>?_
  rcases Nat.lt_or_ge i vs.length with hlt|hge
  ·rw[List.getElem?_append_left hlt] at hi;exact hg i v hi
  ·rw[List.getElem?_append_right hge] at hi
   have:=hk _ v hi
   rwa [show o+sz+(i - vs.length)=o+i by omega] at this
theorem relR_of_flat {M:Mem} {sz b:Nat}:∀{o:Nat} {rs:List (List AV)},(∀r∈rs,r.length=sz)→relC M b o rs.flatten→relR M sz b o rs
 |_,[],_,_=>trivial
 |o,r :: rs,h1,h2=>by
  have hr:r.length=sz:=h1 r (by simp)
  simp only[List.flatten_cons] at h2
  refine ⟨hr,by simpa using relC_take r.length h2,relR_of_flat (fun x hx=>h1 x (by simp[hx])) ?_⟩
  have:=relC_drop r.length h2
  rw[hr] at this
  rw[←hr] at this ⊢
  simpa using this
open Go
def slackZ (E:TypeId):Option Value:=if E=293 then some (.pointer none) else none
def ownsZ (w:World) (E sz:Nat) (h:Value) (n:Nat) (vs:List Value):Prop:=
 vs.length=n * sz∧((h= .slice none 0 0∧n=0)∨
  ∃g cap cur fz,h= .slice (some ⟨g,0,none⟩) n cap∧w.heap[g]? =some (.cells cur E fz)∧(∀i:Nat,i < cur.size→¬(fz.1≤i∧i < fz.2))∧n≤cap∧cap≤maxLen∧cur.size=cap * sz∧cur.toList.take (n * sz)=vs∧
   ∀z0,slackZ E=some z0→∀i:Nat,n * sz≤i→i < cur.size→cur[i]? =some z0)
theorem ownsZ_nil (w:World) (E sz:Nat):ownsZ w E sz (.slice none 0 0) 0 []:= ⟨by simp,.inl ⟨rfl,rfl⟩⟩
theorem ownsZ.lt {w:World} {E sz n:Nat} {h:Value} {vs:List Value} (ho:ownsZ w E sz h n vs):∀k,h.ownBlock=some k→k < w.heap.size:=by
 intro k hk
 rcases ho.2 with ⟨rfl,_⟩ | ⟨g,cap,cur,fz,rfl,hg,_⟩
 ·simp[Value.ownBlock] at hk
 ·simp[Value.ownBlock] at hk
  subst hk
  exact (Array.getElem?_eq_some_iff.1 hg).1
theorem ownsZ.cells {w:World} {E sz n:Nat} {h:Value} {vs:List Value} (ho:ownsZ w E sz h n vs) {g:Nat} (hg:h.ownBlock=some g):∀(j:Nat) u,vs[j]? =some u→w.cell? ((⟨g,0,none⟩ :Addr).add j)=some u:=by
 intro j u hu
 rcases ho.2 with ⟨rfl,_⟩ | ⟨g',cap,cur,fz,rfl,hgg,_,_,_,_,htake,_⟩
 ·simp[Value.ownBlock] at hg
 ·simp[Value.ownBlock] at hg
  subst hg
  have hadd:(⟨g',0,none⟩ :Addr).add j= ⟨g',j,none⟩ :=by unfold Addr.add;split<;>simp_all
  rw[hadd,cell_of_row w g' j cur E fz hgg]
  rw[←htake,List.getElem?_take] at hu
  split at hu
  ·simpa using hu
  ·cases hu
inductive AObj where
 |cells (b o:Nat) (cs:List AV)
 |arr (h:Value) (E sz:Nat) (xs:List (List AV))
 |mapo (r:Nat) (kk:IntKind) (es:List (Int×AV))
 deriving Inhabited
def AObj.blk:AObj→Option Nat
 | .cells b _ _=>some b
 | .arr h _ _ _=>h.ownBlock
 | .mapo r _ _=>some r
def AObj.rel (M:Mem) (w:World):AObj→Prop
 | .cells b o cs=>∃arr T vs,w.heap[b]? =some (.cells arr T (0,0))∧relL M cs vs∧∀i v,vs[i]? =some v→arr[o+i]? =some v
 | .arr h E sz xs=>∃vs,ownsZ w E sz h xs.length vs∧relL M xs.flatten vs∧(∀r∈xs,r.length=sz)∧xs.length≤big
 | .mapo r kk es=>∃ents clock,w.heap[r]? =some (.map ents clock)∧relE M kk es ents.toList
theorem ownsRow_block {w w':World} {E sz n:Nat} {h:Value} {vs:List Value} (hb:∀b,h.ownBlock=some b→w'.heap[b]? =w.heap[b]?) (hr:ownsZ w E sz h n vs):ownsZ w' E sz h n vs:=by
 refine ⟨hr.1,hr.2.imp id ?_⟩
 rintro ⟨g,cap,cur,fz,rfl,hg,rest⟩
 exact ⟨g,cap,cur,fz,rfl,by rw[hb g rfl];exact hg,rest⟩
theorem AObj.rel_of {M M':Mem} {w w':World} (ob:AObj) (hM:M.le M') (hb:∀b,ob.blk=some b→w'.heap[b]? =w.heap[b]?) (h:ob.rel M w):ob.rel M' w':=by
 cases ob with
 |cells b o cs=>
  obtain ⟨arr,T,vs,h1,h2,h3⟩ :=h
  exact ⟨arr,T,vs,by rw[hb b rfl];exact h1,relL_mono hM _ _ h2,h3⟩
 |arr hd E sz xs=>
  obtain ⟨vs,h1,h2,h3⟩ :=h
  exact ⟨vs,ownsRow_block hb h1,relL_mono hM _ _ h2,h3⟩
 |mapo r kk es=>
  obtain ⟨ents,clock,h1,h2⟩ :=h
  exact ⟨ents,clock,by rw[hb r rfl];exact h1,relE_mono hM _ _ _ h2⟩
theorem AObj.rel_lt {M:Mem} {w:World} {ob:AObj} (h:ob.rel M w) {b:Nat} (hb:ob.blk=some b):b < w.heap.size:=by
 have key:∀{x:Obj},w.heap[b]? =some x→b < w.heap.size:=fun h=>(Array.getElem?_eq_some_iff.1 h).1
 cases ob with
 |cells b' o cs=>
  simp only[AObj.blk,Option.some.injEq] at hb
  subst hb
  obtain ⟨arr,T,vs,h1,_⟩ :=h
  exact key h1
 |arr hd E sz xs=>
  obtain ⟨vs,h1,_⟩ :=h
  exact h1.lt b hb
 |mapo r kk es=>
  simp only[AObj.blk,Option.some.injEq] at hb
  subst hb
  obtain ⟨ents,clock,h1,_⟩ :=h
  exact key h1
structure St where
 ρ:List (Nat×AV)
 H:List (Nat×Option AObj)
 deriving Inhabited
def getA:List (Nat×AV)→Nat→AV
 | [],_=>.top
 |(a,v) :: r,t=>if a=t then v else getA r t
def getO:List (Nat×Option AObj)→Nat→Option AObj
 | [],_=>none
 |(a,v) :: r,t=>if a=t then v else getO r t
def AObj.within:AObj→AObj→Prop
 | .cells b o cs,.cells b' o' cs'=>b=b'∧o'≤o∧o+cs.length≤o'+cs'.length
 | .arr h _ _ _,.arr h' _ _ _=>h.ownBlock=h'.ownBlock
 | .mapo r _ _,.mapo r' _ _=>r=r'
 |_,_=>False
theorem AObj.within.refl (ob:AObj):ob.within ob:=by cases ob<;>simp[AObj.within]
theorem AObj.within.trans {a b c:AObj} (h:a.within b) (k:b.within c):a.within c:=by
 cases a<;>cases b<;>cases c<;>simp only[AObj.within] at h k ⊢
 ·exact ⟨h.1.trans k.1,Nat.le_trans k.2.1 h.2.1,Nat.le_trans h.2.2 k.2.2⟩
 ·exact h.trans k
 ·exact h.trans k
def Chg (w w':World) (b o n:Nat):Prop:=
 ∃arr arr' T f,w.heap[b]? =some (.cells arr T f)∧w'.heap[b]? =some (.cells arr' T f)∧arr'.size=arr.size∧∀i,(i < o∨o+n≤i)→arr'[i]? =arr[i]?
structure Frame (w:World) (O:List AObj) (w':World):Prop where
 os:w'.os=w.os
 tape:w'.tape=w.tape
 output:w'.output=w.output
 size:w.heap.size≤w'.heap.size
 block:∀b,b < w.heap.size→(∀ob∈O,ob.blk≠some b)→w'.heap[b]? =w.heap[b]?
 part:∀b o cs,AObj.cells b o cs∈O→Chg w w' b o cs.length
structure Ctx where
 P:Program
 G:Nat→AV
 n:Nat
 O0:List AObj
structure Env extends Ctx where
 w0:World
 M0:Mem
def Inside (w0:World) (O0:List AObj) (ob:AObj):Prop:=∀b,ob.blk=some b→w0.heap.size≤b∨∃o0∈O0,o0.blk=some b∧ob.within o0
structure Sat (E:Env) (S:St) (M:Mem) (a:Act) (w:World):Prop where
 mem0:E.M0.le M
 memw:∀b o,M b=some o→w.heap[b]? =some o
 memd:∀b o,M b=some o→E.M0 b=some o∨E.w0.heap.size≤b∨∃ob∈E.O0,ob.blk=some b
 glob:∀g,(E.G g).rel M (.pointer (some ⟨g,0,none⟩))
 own:∀k ob,getO S.H k=some ob→ob.rel M w∧Inside E.w0 E.O0 ob∧∀b,ob.blk=some b→M b=none
 disj:∀k k' ob ob' b,getO S.H k=some ob→getO S.H k'=some ob'→ob.blk=some b→ob'.blk=some b→k=k'
 slot:∀t,(getA S.ρ t).rel M (a.tmps.getD t undef)
 size:a.tmps.size=E.n
 dfr:a.defers=[]
 frame:Frame E.w0 E.O0 w
 uniq:∀o1∈E.O0,∀o2∈E.O0,∀b,o1.blk=some b→o2.blk=some b→o1=o2
 hold:∀b o cs,AObj.cells b o cs∈E.O0→b < E.w0.heap.size
theorem Frame.refl (w:World) (O:List AObj) (hO:∀b o cs,AObj.cells b o cs∈O→∃arr T f,w.heap[b]? =some (.cells arr T f)):Frame w O w:=
 ⟨rfl,rfl,rfl,Nat.le_refl _,fun _ _ _=>rfl,fun b o cs h=>by obtain ⟨arr,T,f,e⟩ :=hO b o cs h;exact ⟨arr,arr,T,f,e,e,rfl,fun _ _=>rfl⟩⟩
theorem Frame.trans {w w1 w2:World} {O O1:List AObj} (h:Frame w O w1) (k:Frame w1 O1 w2)
  (hin:∀ob∈O1,Inside w O ob) (hold:∀b o cs,AObj.cells b o cs∈O→b < w.heap.size)
  (huniq:∀o1∈O,∀o2∈O,∀b,o1.blk=some b→o2.blk=some b→o1=o2):Frame w O w2:=by
 refine ⟨k.os.trans h.os,k.tape.trans h.tape,k.output.trans h.output,Nat.le_trans h.size k.size,fun b hb hO=>?_,fun b o cs hO=>?_⟩
 ·rw[k.block b (Nat.lt_of_lt_of_le hb h.size) fun ob hob e=>?_,h.block b hb hO]
  rcases hin ob hob b e with hlt| ⟨o0,ho0,e0,_⟩
  ·omega
  ·exact hO o0 ho0 e0
 ·obtain ⟨arr,arr1,T,f,e,e1,hs,hi⟩ :=h.part b o cs hO
  have hb:=hold b o cs hO
  by_cases hex:∃ob∈O1,ob.blk=some b
  ·obtain ⟨ob,hob,e3⟩ :=hex
   rcases hin ob hob b e3 with hlt| ⟨o0,ho0,e0,hw⟩
   ·omega
   ·have:=huniq o0 ho0 _ hO b e0 rfl
    subst this
    cases ob with
    |cells b' o' cs'=>
     simp only[AObj.within] at hw
     obtain ⟨rfl,hw1,hw2⟩ :=hw
     obtain ⟨arr1',arr2,T',f',e1',e2,hs2,hi2⟩ :=k.part _ _ _ hob
     rw[e1] at e1'
     injection e1' with e1'
     injection e1' with ea eT ef
     subst ea;subst eT;subst ef
     exact ⟨arr,arr2,_,_,e,e2,hs2.trans hs,fun i hh=>(hi2 i (by omega)).trans (hi i hh)⟩
    |arr=>simp[AObj.within] at hw
    |mapo=>simp[AObj.within] at hw
  ·have:w2.heap[b]? =w1.heap[b]?:=k.block b (Nat.lt_of_lt_of_le hb h.size) fun ob hob e=>hex ⟨ob,hob,e⟩
   exact ⟨arr,arr1,T,f,e,by rw[this];exact e1,hs,hi⟩
theorem getO_append (l r:List (Nat×Option AObj)) (k:Nat):getO (l++r) k=if l.any (fun p=>p.1=k) then getO l k else getO r k:=by
 induction l with
 |nil=>simp
 |cons p l ih=>
  obtain ⟨a,v⟩ :=p
  simp only[List.cons_append,getO,ih,List.any_cons]
  by_cases h:a=k
  ·simp[h]
  ·simp only[if_neg h,decide_eq_false h,Bool.false_or]
open Go
theorem put_getD (a:Act) (d t:Nat) (v:Value) (hd:d < a.tmps.size):(a.put (some d) v).tmps.getD t undef=if d=t then v else a.tmps.getD t undef:=by
 simp only[Act.put,Array.getD_eq_getD_getElem?,Array.getElem?_setIfInBounds]
 by_cases h:d=t
 ·subst h;simp[hd]
 ·simp[h]
theorem Sat.put {E:Env} {S:St} {M:Mem} {a:Act} {w:World} (h:Sat E S M a w) {d:Nat} (hd:d < E.n) {x:AV} {v:Value} (hx:x.rel M v):
  Sat E ⟨(d,x) :: S.ρ,S.H⟩ M (a.put (some d) v) w:=
 { h with
  slot:=fun t=>by
   rw[put_getD _ _ _ _ (by rw[h.size];exact hd)]
   by_cases e:d=t
   ·subst e;simp only[getA,if_true];exact hx
   ·simp only[getA,if_neg e];exact h.slot t
  size:=by simp[Act.put,h.size]
  dfr:=h.dfr }
theorem Sat.drew {E:Env} {S:St} {M:Mem} {a:Act} {w:World} (h:Sat E S M a w):Sat E S M a w.drew:=
 { h with
  own:=fun k ob hk=> ⟨ob.rel_of (Mem.le.refl M) (fun _ _=>rfl) (h.own k ob hk).1,(h.own k ob hk).2⟩
  frame:= ⟨h.frame.os,h.frame.tape,h.frame.output,h.frame.size,h.frame.block,h.frame.part⟩ }
theorem Sat.world {E:Env} {S:St} {M M':Mem} {a:Act} {w w':World} (h:Sat E S M a w) (ks:List Nat) (news:List (Nat×Option AObj))
  (hos:w'.os=w.os) (htape:w'.tape=w.tape) (hout:w'.output=w.output) (hsize:w.heap.size≤w'.heap.size)
  (hblk:∀b,b < w.heap.size→(∀k∈ks,∀ob,getO S.H k=some ob→ob.blk≠some b)→w'.heap[b]? =w.heap[b]?)
  (hpart:∀k∈ks,∀b o cs,getO S.H k=some (.cells b o cs)→Chg w w' b o cs.length)
  (hks:∀k∈ks,news.any (fun p=>p.1=k)=true)
  (hM:M.le M') (hMw:∀b o,M' b=some o→w'.heap[b]? =some o)
  (hMn:∀b o,M' b=some o→M b=some o∨w.heap.size≤b∨∃k∈ks,∃ob,getO S.H k=some ob∧ob.blk=some b)
  (hnew:∀k ob,getO news k=some ob→ob.rel M' w'∧∀b,ob.blk=some b→M' b=none∧(w.heap.size≤b∨∃k0∈ks,∃o0,getO S.H k0=some o0∧o0.blk=some b∧ob.within o0))
  (hdist:∀k k' ob ob' b,getO news k=some ob→getO news k'=some ob'→ob.blk=some b→ob'.blk=some b→k=k'):
  Sat E ⟨S.ρ,news++S.H⟩ M' a w':=by
 have blkof:∀k ob,getO S.H k=some ob→∀b,ob.blk=some b→b < w.heap.size:=fun k ob hk b hb=>AObj.rel_lt (h.own k ob hk).1 hb
 have kept:∀k ob,getO S.H k=some ob→k∉ks→∀b,ob.blk=some b→w'.heap[b]? =w.heap[b]?:=fun k ob hk hkn b hb=>
  hblk b (blkof k ob hk b hb) fun k' hk' ob' hob' e=>hkn (by have:=h.disj k' k ob' ob b hob' hk e hb;subst this;exact hk')
 have split:∀k ob,getO (news++S.H) k=some ob→(getO news k=some ob)∨(getO S.H k=some ob∧k∉ks):=by
  intro k ob hk
  rw[getO_append] at hk
  split at hk
  ·exact .inl hk
  ·rename_i hn
   exact .inr ⟨hk,fun hin=>hn (hks k hin)⟩
 have ins:∀k∈ks,∀ob,getO S.H k=some ob→Inside E.w0 E.O0 ob:=fun k _ ob hk=>(h.own k ob hk).2.1
 refine { mem0:=h.mem0.trans hM,memw:=hMw,memd:=?_,glob:=fun g=>(E.G g).rel_mono hM _ (h.glob g),own:=?_,disj:=?_,slot:=fun t=>(getA S.ρ t).rel_mono hM _ (h.slot t),size:=h.size,dfr:=h.dfr,uniq:=h.uniq,hold:=h.hold,frame:=?_ }
 ·intro b o hb
  rcases hMn b o hb with h1|h1| ⟨k,hk,ob,hob,e⟩
  ·exact h.memd b o h1
  ·exact .inr (.inl (Nat.le_trans h.frame.size h1))
  ·rcases ins k hk ob hob b e with h2| ⟨o0,ho0,e0,_⟩
   ·exact .inr (.inl h2)
   ·exact .inr (.inr ⟨o0,ho0,e0⟩)
 ·intro k ob hk
  rcases split k ob hk with h1| ⟨h1,hkn⟩
  ·obtain ⟨r1,r2⟩ :=hnew k ob h1
   refine ⟨r1,fun b hb=>?_,fun b hb=>(r2 b hb).1⟩
   rcases (r2 b hb).2 with h2| ⟨k0,hk0,o0,ho0,e0,hw⟩
   ·exact .inl (Nat.le_trans h.frame.size h2)
   ·rcases ins k0 hk0 o0 ho0 b e0 with h3| ⟨o1,ho1,e1,hw1⟩
    ·exact .inl h3
    ·exact .inr ⟨o1,ho1,e1,hw.trans hw1⟩
  ·obtain ⟨r1,r2,r3⟩ :=h.own k ob h1
   refine ⟨ob.rel_of hM (kept k ob h1 hkn) r1,r2,fun b hb=>?_⟩
   cases hm:M' b with
   |none=>rfl
   |some o=>
    rcases hMn b o hm with h2|h2| ⟨k',hk',ob',hob',e'⟩
    ·rw[r3 b hb] at h2;cases h2
    ·have:=blkof k ob h1 b hb;omega
    ·have:=h.disj k' k ob' ob b hob' h1 e' hb
     subst this
     exact absurd hk' hkn
 ·intro k k' ob ob' b hk hk' hb hb'
  rcases split k ob hk with h1| ⟨h1,hkn⟩ <;>rcases split k' ob' hk' with h2| ⟨h2,hkn'⟩
  ·exact hdist k k' ob ob' b h1 h2 hb hb'
  ·rcases ((hnew k ob h1).2 b hb).2 with h3| ⟨k0,hk0,o0,ho0,e0,_⟩
   ·have:=blkof k' ob' h2 b hb';omega
   ·have:=h.disj k0 k' o0 ob' b ho0 h2 e0 hb'
    subst this
    exact absurd hk0 hkn'
  ·rcases ((hnew k' ob' h2).2 b hb').2 with h3| ⟨k0,hk0,o0,ho0,e0,_⟩
   ·have:=blkof k ob h1 b hb;omega
   ·have:=h.disj k0 k o0 ob b ho0 h1 e0 hb
    subst this
    exact absurd hk0 hkn
  ·exact h.disj k k' ob ob' b h1 h2 hb hb'
 ·let O1:=ks.filterMap (getO S.H)
  have memO1:∀ob,ob∈O1↔∃k∈ks,getO S.H k=some ob:=fun ob=>by simp[O1,List.mem_filterMap]
  refine h.frame.trans (O1:=O1) ⟨hos,htape,hout,hsize,fun b hb hO=>hblk b hb fun k hk ob hob e=>hO ob ((memO1 ob).2 ⟨k,hk,hob⟩) e,fun b o cs hO=>?_⟩ ?_ h.hold h.uniq
  ·obtain ⟨k,hk,hob⟩ :=(memO1 _).1 hO
   exact hpart k hk b o cs hob
  ·intro ob hob
   obtain ⟨k,hk,hob⟩ :=(memO1 _).1 hob
   exact ins k hk ob hob
theorem Sat.sub {E:Env} {S S':St} {M:Mem} {a:Act} {w:World} (h:Sat E S M a w) (hρ:∀t,getA S'.ρ t= .top∨getA S'.ρ t=getA S.ρ t) (hH:∀k,getO S'.H k=none∨getO S'.H k=getO S.H k):Sat E S' M a w:=
 { h with
  own:=fun k ob hk=>h.own k ob (by rcases hH k with e|e<;>rw[e] at hk;cases hk;exact hk)
  disj:=fun k k' ob ob' b hk hk'=>h.disj k k' ob ob' b (by rcases hH k with e|e<;>rw[e] at hk;cases hk;exact hk) (by rcases hH k' with e|e<;>rw[e] at hk';cases hk';exact hk')
  slot:=fun t=>by
   rcases hρ t with e|e
   ·rw[e];trivial
   ·rw[e];exact h.slot t }
open Go
def tyR (P:Program) (t:TypeId):Option (Bool×Nat):=
 match P.info? t,P.underlying t with
 |some i,some u=>some ((match u with| .struct _| .array ..=>true|_=>false),i.size)
 |_,_=>none
def zeroR (P:Program) (t:TypeId):Option (List Value):=(P.info? t).bind fun i=>i.zero.map (·.cells.toList)
def fieldR (P:Program) (s:TypeId) (f:Nat):Option (Nat×Nat):=
 match P.underlying s with
 |some (.struct fs)=>match fs[f]? with
  |some fl=>(P.info? fl.type).map fun i=>(fl.offset,i.size)
  |none=>none
 |_=>none
def elemR (P:Program) (t:TypeId):Option (TypeId×Nat×Nat):=
 match P.underlying t with
 |some (.slice e)=>match P.info? e with
  |some i=>match i.zero with
   |some z=>if z.cells.size=i.size then some (e,i.size,i.bytes) else none
   |none=>none
  |none=>none
 |_=>none
def arrR (P:Program) (t:TypeId):Option (Nat×Nat):=
 match P.underlying t with
 |some (.array n e)=>(P.info? e).map fun i=>(n,i.size)
 |_=>none
def intR (P:Program) (t:TypeId):Option IntKind:=match P.underlying t with|some (.int k)=>some k|_=>none
inductive Shape|ptr|slc|ifc|boo|str|mpp|other
 deriving DecidableEq
def shapeR (P:Program) (t:TypeId):Shape:=
 match P.underlying t with
 |some (.pointer _)=>.ptr|some (.slice _)=>.slc|some (.interface _)=>.ifc|some .bool=>.boo|some .string=>.str|some (.map _ _)=>.mpp|_=>.other
theorem run_underlying' {P:Program} {t:TypeId} {d:TypeDesc} {w:World} (h:P.underlying t=some d):(underlying t).run P w= .ok d w:=by
 simp[underlying,h]
theorem run_typeInfo' {P:Program} {t:TypeId} {i:TypeInfo} {w:World} (h:P.info? t=some i):(typeInfo t).run P w= .ok i w:=by
 simp[typeInfo,h]
theorem run_sizeOf' {P:Program} {t:TypeId} {i:TypeInfo} {w:World} (h:P.info? t=some i):(sizeOf t).run P w= .ok i.size w:=by
 simp[sizeOf,run_typeInfo' h]
theorem addr_add (b o n:Nat):(⟨b,o,none⟩ :Addr).add n= ⟨b,o+n,none⟩ :=by
 unfold Addr.add;split<;>simp_all
def bitsV (op:BinOp) (k:IntKind) (x y:Int):Int:=
 k.wrap (match op with
  | .and=>((BitVec.ofInt k.bits x) &&& (BitVec.ofInt k.bits y)).toNat
  | .or=>((BitVec.ofInt k.bits x) |||(BitVec.ofInt k.bits y)).toNat
  |_=>((BitVec.ofInt k.bits x) ^^^ (BitVec.ofInt k.bits y)).toNat)
def binInt (op:BinOp) (k k':IntKind) (a b:Int):Prop×Value:=
 match op with
 | .shl=>(0≤b,.int k (k.wrap (a * 2 ^ (min b.toNat k.bits))))
 | .shr=>(0≤b,.int k (a.fdiv (2 ^ (min b.toNat k.bits))))
 | .add=>(k=k',.int k (k.wrap (a+b)))
 | .sub=>(k=k',.int k (k.wrap (a - b)))
 | .mul=>(k=k',.int k (k.wrap (a * b)))
 | .quo=>(k=k'∧b≠0,.int k (k.wrap (a.tdiv b)))
 | .rem=>(k=k'∧b≠0,.int k (a.tmod b))
 | .and=>(k=k',.int k (bitsV .and k a b))
 | .or=>(k=k',.int k (bitsV .or k a b))
 | .xor=>(k=k',.int k (bitsV .xor k a b))
 | .eql=>(k=k',.bool (a == b))
 | .neq=>(k=k',.bool (a != b))
 | .lss=>(k=k',.bool (decide (a < b)))
 | .leq=>(k=k',.bool (decide (a≤b)))
 | .gtr=>(k=k',.bool (decide (a > b)))
 | .geq=>(k=k',.bool (decide (a≥b)))
 | .andNot=>(False,.bool false)
theorem run_binInt {P:Program} {w:World} (op:BinOp) (t:TypeId) (x y:Operand) (k k':IntKind) (a b:Int) (h:(binInt op k k' a b).1):
  (do eqGuard op t x y (.int k a) (.int k' b);binOp op t (.int k a) (.int k' b):Sem Value).run P w= .ok (binInt op k k' a b).2 w:=by
 cases op<;>simp only[binInt] at h ⊢<;>simp_all [eqGuard,binOp,Op.intArith,Op.intDiv,Op.intBits,Op.intCmp,Op.shift,bitsV]<;>(intro hb;omega)
theorem toList_data (s:ByteArray):s.toList=s.data.toList:=by
 have key:∀n i (r:List UInt8),s.size - i=n→i≤s.size→ByteArray.toList.loop s i r=r.reverse++s.data.toList.drop i:=by
  intro n
  induction n with
  |zero=>
   intro i r hn hi
   have:i=s.size:=by omega
   subst this
   unfold ByteArray.toList.loop
   rw[if_neg (by omega),List.drop_eq_nil_of_le (by rw[Array.length_toList];exact Nat.le_refl _)]
   simp
  |succ n ih=>
   intro i r hn hi
   have hlt:i < s.size:=by omega
   unfold ByteArray.toList.loop
   rw[if_pos hlt,ih (i+1) _ (by omega) (by omega)]
   have hlt':i < s.data.toList.length:=by rw[Array.length_toList];exact hlt
   rw[List.drop_eq_getElem_cons hlt']
   have:s.get! i=s.data.toList[i]:=by
    show s.data[i]! =_
    rw[getElem!_pos s.data i hlt,Array.getElem_toList]
   rw[this]
   simp
 have:=key s.size 0 [] (by omega) (by omega)
 unfold ByteArray.toList
 simpa using this
def binStr (op:BinOp) (x y:ByteArray):Prop×Value:=
 match op with
 | .add=>(x.size+y.size≤9223372036854775807,.string (x++y))
 | .eql=>(True,.bool (x.data.toList == y.data.toList))
 | .neq=>(True,.bool (!(x.data.toList == y.data.toList)))
 |_=>(False,.bool false)
theorem run_binStr {P:Program} {w:World} (op:BinOp) (t:TypeId) (x y:Operand) (a b:ByteArray) (h:(binStr op a b).1):
  (do eqGuard op t x y (.string a) (.string b);binOp op t (.string a) (.string b):Sem Value).run P w= .ok (binStr op a b).2 w:=by
 cases op<;>simp only[binStr] at h ⊢<;>simp_all [eqGuard,binOp,Op.stringOp,toList_data]
 have:IntKind.i64.max=9223372036854775807:=by decide
 omega
def nilV:AV→Option (Prop×Bool)
 | .val (.pointer none)=>some (True,true)
 | .val .nilIface=>some (True,true)
 | .val (.slice none 0 0)=>some (True,true)
 | .val (.pointer (some _))=>some (True,false)
 | .val (.iface _ _)=>some (True,false)
 | .ref .. | .pt .. | .aref .. | .ifc ..=>some (True,false)
 | .dat nn _ xs=>some (nn=true∨xs≠[],false)
 |_=>none
def shapeV:AV→Shape
 | .val (.pointer _)| .ref .. | .pt .. | .aref ..=>.ptr
 | .val .nilIface| .val (.iface _ _)| .ifc ..=>.ifc
 | .val (.slice _ _ _)| .dat ..=>.slc
 |_=>.other
def isNil:Value→Bool
 | .pointer none| .nilIface| .slice none _ _=>true
 |_=>false
def vshape:Value→Shape
 | .pointer _=>.ptr| .nilIface| .iface _ _=>.ifc| .slice _ _ _=>.slc|_=>.other
theorem nilV_rel {M:Mem} {a:AV} {v:Value} {p:Prop} {n:Bool} (h:nilV a=some (p,n)) (hp:p) (hr:a.rel M v):isNil v=n∧vshape v=shapeV a∧shapeV a≠.other:=by
 unfold nilV at h
 split at h<;>simp only[Option.some.injEq,Prod.mk.injEq,reduceCtorEq] at h
 ·obtain ⟨rfl,rfl⟩ :=h;cases hr;simp[isNil,vshape,shapeV]
 ·obtain ⟨rfl,rfl⟩ :=h;cases hr;simp[isNil,vshape,shapeV]
 ·obtain ⟨rfl,rfl⟩ :=h;cases hr;simp[isNil,vshape,shapeV]
 ·obtain ⟨rfl,rfl⟩ :=h;cases hr;simp[isNil,vshape,shapeV]
 ·obtain ⟨rfl,rfl⟩ :=h;cases hr;simp[isNil,vshape,shapeV]
 ·obtain ⟨rfl,rfl⟩ :=h;simp only[AV.rel] at hr;subst hr;simp[isNil,vshape,shapeV]
 ·obtain ⟨rfl,rfl⟩ :=h;obtain ⟨b,o,rfl,_⟩ :=hr;simp[isNil,vshape,shapeV]
 ·obtain ⟨rfl,rfl⟩ :=h;obtain ⟨g,n,c,_,rfl⟩ :=hr;simp[isNil,vshape,shapeV]
 ·obtain ⟨rfl,rfl⟩ :=h;obtain ⟨v,rfl,_⟩ :=hr;simp[isNil,vshape,shapeV]
 ·obtain ⟨rfl,rfl⟩ :=h
  obtain ⟨A,cap,rfl,h1,_,_,h3,_⟩ :=hr
  have:A≠none:=by
   rcases hp with hp|hp
   ·exact h1 hp
   ·rcases h3 with h3| ⟨b,o,e,_⟩
    ·exact absurd h3 hp
    ·rw[e];simp
  cases A with
  |none=>exact absurd rfl this
  |some _=>simp[isNil,vshape,shapeV]
theorem run_eq_ptr {P:Program} {w:World} {t e:TypeId} (h:P.underlying t=some (.pointer e)) (A B:Option Addr) (hn:(A.isNone || B.isNone)=true):
  (Op.equal t (.pointer A) (.pointer B)).run P w= .ok (A.isNone == B.isNone) w:=by
 unfold Op.equal Op.maxDepth Op.equalIn
 simp only[Sem.run_bind,run_underlying' h,Result.andThen_ok]
 cases A<;>cases B<;>first|rfl|(simp at hn)
theorem run_eq_slc {P:Program} {w:World} {t e:TypeId} (h:P.underlying t=some (.slice e)) (A B:Option Addr) (n c n' c':Nat) (hn:(A.isNone || B.isNone)=true):
  (Op.equal t (.slice A n c) (.slice B n' c')).run P w= .ok (A.isNone == B.isNone) w:=by
 unfold Op.equal Op.maxDepth Op.equalIn
 simp only[Sem.run_bind,run_underlying' h,Result.andThen_ok]
 cases A<;>cases B<;>first|rfl|(simp at hn)
theorem run_eq_ifc {P:Program} {w:World} {t:TypeId} {ms:Array (String×TypeId)} (h:P.underlying t=some (.interface ms)) (a b:Value) (ha:vshape a= .ifc) (hb:vshape b= .ifc) (hn:(isNil a || isNil b)=true):
  (Op.equal t a b).run P w= .ok (isNil a == isNil b) w:=by
 unfold Op.equal Op.maxDepth Op.equalIn
 simp only[Sem.run_bind,run_underlying' h,Result.andThen_ok]
 cases a<;>first|(cases ha;done)|skip
 all_goals (cases b<;>first|(cases hb;done)|skip)
 all_goals first|rfl|(simp[isNil] at hn)
theorem binOp_eql_of {P:Program} {w:World} {t:TypeId} {x y:Operand} {a b:Value} {r:Bool} (hg:(eqGuard .eql t x y a b).run P w= .ok () w) (hg':(eqGuard .neq t x y a b).run P w= .ok () w)
  (h1:binOp .eql t a b=(do pure (.bool (←Op.equal t a b)))) (h2:binOp .neq t a b=(do pure (.bool (!(←Op.equal t a b))))) (h:(Op.equal t a b).run P w= .ok r w):
  (do eqGuard .eql t x y a b;binOp .eql t a b:Sem Value).run P w= .ok (.bool r) w∧
  (do eqGuard .neq t x y a b;binOp .neq t a b:Sem Value).run P w= .ok (.bool (!r)) w:=by
 simp[hg,hg',h1,h2,h]
def isC:Operand→Bool| .const _=>true|_=>false
theorem run_eqNil {P:Program} {w:World} {t:TypeId} {x y:Operand} {a b:Value} {sh:Shape} (hs:shapeR P t=sh) (ha:vshape a=sh) (hb:vshape b=sh) (ho:sh≠.other) (hn:(isNil a || isNil b)=true)
  (hc:sh= .ifc→isC x=true∨isC y=true):
  (do eqGuard .eql t x y a b;binOp .eql t a b:Sem Value).run P w= .ok (.bool (isNil a == isNil b)) w∧
  (do eqGuard .neq t x y a b;binOp .neq t a b:Sem Value).run P w= .ok (.bool (!(isNil a == isNil b))) w:=by
 cases a<;>simp only[vshape] at ha<;>first|(exact absurd ha.symm ho)|skip
 ·rename_i A
  cases b<;>simp only[vshape] at hb<;>first|(subst ha;cases hb;done)|skip
  rename_i B
  subst ha
  have hu:∃e,P.underlying t=some (.pointer e):=by
   unfold shapeR at hs;split at hs<;>first|(cases hs;done)|exact ⟨_,‹_›⟩
  obtain ⟨e,hu⟩ :=hu
  have k:=run_eq_ptr (w:=w) hu A B (by cases A<;>cases B<;>simp_all [isNil])
  have e1:isNil (.pointer A)=A.isNone:=by cases A<;>rfl
  have e2:isNil (.pointer B)=B.isNone:=by cases B<;>rfl
  rw[e1,e2]
  exact binOp_eql_of (by simp[eqGuard]) (by simp[eqGuard]) rfl rfl k
 ·rename_i A n c
  cases b<;>simp only[vshape] at hb<;>first|(subst ha;cases hb;done)|skip
  rename_i B n' c'
  subst ha
  have hu:∃e,P.underlying t=some (.slice e):=by
   unfold shapeR at hs;split at hs<;>first|(cases hs;done)|exact ⟨_,‹_›⟩
  obtain ⟨e,hu⟩ :=hu
  have e1:∀n c,isNil (.slice A n c)=A.isNone:=by intros;cases A<;>rfl
  have e2:∀n c,isNil (.slice B n c)=B.isNone:=by intros;cases B<;>rfl
  have k:=run_eq_slc (w:=w) hu A B n c n' c' (by rwa [e1,e2] at hn)
  rw[e1,e2]
  exact binOp_eql_of (by simp[eqGuard]) (by simp[eqGuard]) rfl rfl k
 ·rename_i u v
  cases b<;>simp only[vshape] at hb<;>first|(subst ha;cases hb;done)|skip
  ·simp[isNil] at hn
  ·subst ha
   have hu:∃ms,P.underlying t=some (.interface ms):=by
    unfold shapeR at hs;split at hs<;>first|(cases hs;done)|exact ⟨_,‹_›⟩
   obtain ⟨ms,hu⟩ :=hu
   exact binOp_eql_of (by simp[eqGuard]) (by simp[eqGuard]) rfl rfl (run_eq_ifc hu _ _ rfl rfl hn)
 ·subst ha
  have hu:∃ms,P.underlying t=some (.interface ms):=by
   unfold shapeR at hs;split at hs<;>first|(cases hs;done)|exact ⟨_,‹_›⟩
  obtain ⟨ms,hu⟩ :=hu
  cases b<;>simp only[vshape] at hb<;>first|(cases hb;done)|skip
  ·exact binOp_eql_of (by simp[eqGuard]) (by simp[eqGuard]) rfl rfl (run_eq_ifc hu _ _ rfl rfl hn)
  ·have hg:∀op,(eqGuard op t x y .nilIface .nilIface).run P w= .ok () w:=by
    intro op
    unfold eqGuard
    rcases hc rfl with h|h
    ·cases x<;>first|(cases h;done)|skip
     simp
    ·cases y<;>first|(cases h;done)|skip
     simp
   exact binOp_eql_of (hg _) (hg _) rfl rfl (run_eq_ifc hu _ _ rfl rfl hn)
theorem run_eqBool {P:Program} {w:World} {t:TypeId} {x y:Operand} {a b:Bool} (hs:shapeR P t= .boo):
  (do eqGuard .eql t x y (.bool a) (.bool b);binOp .eql t (.bool a) (.bool b):Sem Value).run P w= .ok (.bool (a == b)) w∧
  (do eqGuard .neq t x y (.bool a) (.bool b);binOp .neq t (.bool a) (.bool b):Sem Value).run P w= .ok (.bool (!(a == b))) w:=by
 have hu:P.underlying t=some .bool:=by
  unfold shapeR at hs;split at hs<;>first|(cases hs;done)|assumption
 have k:(Op.equal t (.bool a) (.bool b)).run P w= .ok (a == b) w:=by
  unfold Op.equal Op.maxDepth Op.equalIn
  simp only[Sem.run_bind,run_underlying' hu,Result.andThen_ok]
  rfl
 exact binOp_eql_of (by simp[eqGuard]) (by simp[eqGuard]) rfl rfl k
open Go
structure Outc where
 b:Nat
 h:Value
 ret:Nat→AV
 objs:List (Option AObj)
 fresh:List (Option AObj)
instance:Inhabited Outc:= ⟨⟨0,undef,fun _=>.top,[],[]⟩⟩
structure ActR where
 pre:Prop
 out:Outc→Prop
 res:Outc→AV
 upd:Outc→List (Nat×Option AObj)
def ActR.pure (p:Prop) (v:AV):ActR:= ⟨p,fun _=>True,fun _=>v,fun _=>[]⟩
def ActR.stuck:ActR:= ⟨False,fun _=>True,fun _=>.top,fun _=>[]⟩
def oneA:AV→Bool
 | .val v=>v.oneCell'
 | .dat .. | .pt .. | .ref .. | .buf .. | .aref .. | .sub .. | .omap .. | .ifc .. | .fn .. | .mp ..=>true
 |_=>false
def cellsA:AV→List AV
 | .agg cs=>cs
 |a=>[a]
def ldv (ag:Bool) (n:Nat) (cs:List AV):AV:=if ag then .agg (cs.take n) else cs.headD .top
def setAt:List AV→Nat→List AV→List AV
 |cs,_,[]=>cs
 |cs,i,v :: vs=>setAt (cs.set i v) (i+1) vs
def stripC:AV→AV
 | .cnd _ a=>a
 |a=>a
def cndOK:AV→Bool
 | .cnd g _=>g
 |_=>true
def pickB (g x y:Bool):Bool:=(g && x) || (!g && y)
def zerosA (vs:List Value):List AV:=vs.map AV.val
abbrev Look:=Nat→Option AObj
def actPick (c x y:AV):ActR:=
 match c,stripC x,stripC y with
 | .val (.bool g),.val (.bool a),.val (.bool b)=>.pure ((g=true→cndOK x=true)∧(g=false→cndOK y=true)) (.val (.bool (pickB g a b)))
 | .val (.bool true),.val (.bool a),_=>.pure (cndOK x=true) (.val (.bool a))
 | .val (.bool false),_,.val (.bool b)=>.pure (cndOK y=true) (.val (.bool b))
 |_,_,_=>.stuck
def capV:Value→Int
 | .slice _ _ c=>c
 |_=>0
def actLoad (P:Program) (t:TypeId) (x:AV) (look:Look):ActR:=
 match tyR P t with
 |some (ag,n)=>match x with
  | .pt cs=>.pure (n≤cs.length∧(ag=true∨n=1)) (ldv ag n cs)
  | .ref k b o=>match look k with
   |some (.cells b' o' cs)=>.pure (b=b'∧o'≤o∧(o - o')+n≤cs.length∧(ag=true∨n=1)) (ldv ag n (cs.drop (o - o')))
   |_=>.stuck
  | .aref k h sz i o=>match look k with
   |some (.arr h' E sz' xs)=>match slackZ E with
    |none=>.pure (h=h'∧sz=sz'∧0 < sz∧i < xs.length∧o+n≤sz∧(ag=true∨n=1)) (ldv ag n ((xs.getD i []).drop o))
    |some z0=>.pure (h=h'∧sz=sz'∧sz=1∧o=0∧n=1∧z0.oneCell'=true∧(i < xs.length∨(i:Int) < capV h)) (ldv ag n (xs.getD i [.val z0]))
   |_=>.stuck
  |_=>.stuck
 |none=>.stuck
def actStore (P:Program) (t:TypeId) (x v:AV) (look:Look):ActR:=
 match tyR P t with
 |some (_,n)=>match x with
  | .ref k b o=>match look k with
   |some (.cells b' o' cs)=> ⟨b=b'∧o'≤o∧(o - o')+n≤cs.length∧(cellsA v).length=n∧(oneA v=true∨v= .agg (cellsA v)),fun _=>True,fun _=>.val undef,
     fun _=>[(k,some (.cells b' o' (setAt cs (o - o') (cellsA v))))]⟩
   |_=>.stuck
  | .aref k h sz i o=>match look k with
   |some (.arr h' E sz' xs)=> ⟨h=h'∧sz=sz'∧0 < sz∧i < xs.length∧o+n≤sz∧(cellsA v).length=n∧(oneA v=true∨v= .agg (cellsA v)),fun _=>True,fun _=>.val undef,
     fun _=>[(k,some (.arr h' E sz' (xs.set i (setAt (xs.getD i []) o (cellsA v)))))]⟩
   |_=>.stuck
  |_=>.stuck
 |none=>.stuck
def actAlloc (P:Program) (d:Nat) (t:TypeId):ActR:=
 match zeroR P t with
 |some zs=> ⟨zs.all Value.oneCell'=true,fun _=>True,fun x=>.ref d x.b 0,fun x=>[(d,some (.cells x.b 0 (zerosA zs)))]⟩
 |none=>.stuck
def actBox (d:Nat) (v:AV):ActR:=
 ⟨(oneA v=true∨v= .agg (cellsA v)),fun _=>True,fun x=>.ref d x.b 0,fun x=>[(d,some (.cells x.b 0 (cellsA v)))]⟩
def fillA (place:Nat→Option (Nat×Nat)) (cs:List AV):List (Nat×AV)→Option (Prop×List AV)
 | []=>some (True,cs)
 |(i,v) :: rest=>match place i with
  |none=>none
  |some (off,n)=>match fillA place (setAt cs off (cellsA v)) rest with
   |some (p,r)=>some (((cellsA v).length=n∧off+n≤cs.length∧(oneA v=true∨v= .agg (cellsA v)))∧p,r)
   |none=>none
def structOK (P:Program) (t:TypeId):Bool:=
 match P.underlying t with
 |some (.struct fs)=>fs.toList.all fun f=>(P.info? f.type).isSome
 |_=>false
def actBuild (P:Program) (t:TypeId) (parts:List (Nat×AV)):ActR:=
 match zeroR P t with
 |some zs=>match structOK P t with
  |true=>match fillA (fieldR P t) (zerosA zs) parts with
   |some (p,cs)=>.pure (p∧zs.all Value.oneCell'=true) (.agg cs)
   |none=>.stuck
  |false=>match arrR P t with
   |some (_,sz)=>match fillA (fun i=>some (i * sz,sz)) (zerosA zs) parts with
    |some (p,cs)=>.pure (p∧zs.all Value.oneCell'=true) (.agg cs)
    |none=>.stuck
   |none=>.stuck
 |none=>.stuck
def fillRows (sz:Nat) (rows:List (List AV)):List (Nat×AV)→Prop×List (List AV)
 | []=>(True,rows)
 |(i,v) :: rest=>let r:=fillRows sz (rows.set i (cellsA v)) rest;(((cellsA v).length=sz∧i < rows.length∧(oneA v=true∨v= .agg (cellsA v)))∧r.1,r.2)
def zeroRow (P:Program) (e:TypeId):List AV:=match zeroR P e with|some zs=>zerosA zs|none=>[]
def actBuildSlice (P:Program) (d:Nat) (t:TypeId) (len:Nat) (parts:List (Nat×AV)):ActR:=
 match elemR P t with
 |some (e,sz,_)=>
  let r:=fillRows sz (List.replicate len (zeroRow P e)) parts
  ⟨r.1∧len * sz≤16777216∧0 < sz∧(zeroRow P e).all oneA=true,fun _=>True,fun x=>.buf d x.h,fun x=>[(d,some (.arr x.h e sz r.2))]⟩
 |none=>.stuck
def actMakeSlice (P:Program) (d:Nat) (t:TypeId) (l c:AV):ActR:=
 match elemR P t,l,c with
 |some (e,sz,bytes),.val (.int _ n),.val (.int _ m)=> ⟨n=m∧0≤n∧n.toNat * bytes≤big∧0 < sz∧0 < bytes∧(zeroRow P e).all oneA=true,fun _=>True,fun x=>.buf d x.h,fun x=>[(d,some (.arr x.h e sz (List.replicate n.toNat (zeroRow P e))))]⟩
 |_,_,_=>.stuck
def srcA (look:Look):AV→Option (Prop×Nat×List (List AV))
 | .dat _ sz ys=>some (True,sz,ys)
 | .buf k h=>match look k with
  |some (.arr h' _ sz ys)=>some (h=h',sz,ys)
  |_=>none
 |_=>none
def slackP (P:Program) (e:TypeId):Prop:=match slackZ e with|none=>True|some z0=>zeroR P e=some [z0]
def srcS (look:Look):AV→Option (Prop×Nat×List (List AV))
 | .val (.string s)=>some (True,1,s.data.toList.map fun b=>[.val (.int .u8 b.toNat)])
 |a=>srcA look a
def isStrA:AV→Bool
 | .val (.string _)=>true
 |_=>false
def actAppend (P:Program) (d:Nat) (t:TypeId) (a s:AV) (look:Look):ActR:=
 match elemR P t,srcS look s with
 |some (e,sz,bytes),some (p,sz',ys)=>match a with
  | .val (.slice none 0 0)=> ⟨p∧slackP P e∧(sz'=sz∨ys=[])∧0 < sz∧0 < bytes∧ys.length * bytes≤big,fun _=>True,fun x=>.buf d x.h,fun x=>[(d,some (.arr x.h e sz ys))]⟩
  | .buf k h=>match look k with
   |some (.arr h' e' sz'' xs)=> ⟨p∧slackP P e∧(sz'=sz∨ys=[])∧h=h'∧e'=e∧sz''=sz∧0 < sz∧0 < bytes∧(xs.length+ys.length) * bytes≤big,fun _=>True,fun x=>.buf k x.h,
     fun x=>[(k,some (.arr x.h e sz (xs++ys)))]⟩
   |_=>.stuck
  |_=>.stuck
 |_,_=>.stuck
def valsA:List AV→Option (List Value)
 | []=>some []
 | .val v :: r=>(valsA r).map (v :: ·)
 |_=>none
def eqV:Value→Value→Bool
 | .int _ a,.int _ b=>a == b
 | .bool a,.bool b=>a == b
 | .string a,.string b=>a.data.toList == b.data.toList
 |_,_=>false
def eqVs:List Value→List Value→Bool
 | [],[]=>true
 |a :: as,b :: bs=>eqV a b && eqVs as bs
 |_,_=>false
def eqI:Value→Value→Bool
 | .iface t (.pointer (some a)),.iface u (.pointer (some b))=>t == u && a == b
 |_,_=>false
def EqT (P:Program) (t:TypeId) (a b:Value) (r:Bool):Prop:=
 ∀(w:World) (x y:Operand),(do eqGuard .eql t x y a b;binOp .eql t a b:Sem Value).run P w= .ok (.bool r) w∧(do eqGuard .neq t x y a b;binOp .neq t a b:Sem Value).run P w= .ok (.bool (!r)) w
def actEqT (P:Program) (op:BinOp) (t:TypeId) (a b:Value) (r:Bool):ActR:=
 match op with
 | .eql=>.pure (EqT P t a b r) (.val (.bool r))
 | .neq=>.pure (EqT P t a b r) (.val (.bool (!r)))
 |_=>.stuck
def actAppendZ (P:Program) (t:TypeId) (a s:AV) (look:Look):ActR:=
 match elemR P t,s,a with
 |some (e,sz,bytes),.val (.int .i64 n),.buf k h=>match look k with
  |some (.arr h' e' sz'' xs)=> ⟨slackP P e∧0 < n∧h=h'∧e'=e∧sz''=sz∧0 < sz∧0 < bytes∧(zeroRow P e).all oneA=true∧(xs.length+n.toNat) * bytes≤big,fun _=>True,fun x=>.buf k x.h,
     fun x=>[(k,some (.arr x.h e sz (xs++List.replicate n.toNat (zeroRow P e))))]⟩
  |_=>.stuck
 |_,_,_=>.stuck
def actBin (P:Program) (op:BinOp) (t:TypeId) (cst:Bool) (a b:AV):ActR:=
 match a,b with
 | .val (.int k x),.val (.int k' y)=>.pure (binInt op k k' x y).1 (.val (binInt op k k' x y).2)
 | .val (.string x),.val (.string y)=>.pure (binStr op x y).1 (.val (binStr op x y).2)
 | .val (.bool x),.val (.bool y)=>match op with
  | .eql=>.pure (shapeR P t= .boo) (.val (.bool (x == y)))
  | .neq=>.pure (shapeR P t= .boo) (.val (.bool (!(x == y))))
  |_=>.stuck
 | .agg xs,.agg ys=>match valsA xs,valsA ys with
  |some us,some vs=>actEqT P op t (.agg us.toArray) (.agg vs.toArray) (eqVs us vs)
  |_,_=>.stuck
 | .val (.iface t1 v1),.val (.iface t2 v2)=>actEqT P op t (.iface t1 v1) (.iface t2 v2) (eqI (.iface t1 v1) (.iface t2 v2))
 |_,_=>match nilV a,nilV b with
  |some (p,na),some (q,nb)=>match op with
   | .eql=>.pure (p∧q∧(na || nb)=true∧shapeR P t=shapeV a∧shapeV b=shapeV a∧(cst=true∨shapeV a≠.ifc)) (.val (.bool (na == nb)))
   | .neq=>.pure (p∧q∧(na || nb)=true∧shapeR P t=shapeV a∧shapeV b=shapeV a∧(cst=true∨shapeV a≠.ifc)) (.val (.bool (!(na == nb))))
   |_=>.stuck
  |_,_=>.stuck
def actUn (op:UnOp) (a:AV):ActR:=
 match op,a with
 | .not,.val (.bool b)=>.pure True (.val (.bool !b))
 | .neg,.val (.int k n)=>.pure True (.val (.int k (k.wrap (0 - n))))
 |_,_=>.stuck
def byteA:List AV→UInt8
 | [.val (.int .u8 n)]=>UInt8.ofNat n.toNat
 |_=>0
def isByteA:List AV→Bool
 | [.val (.int .u8 _)]=>true
 |_=>false
def actConv (P:Program) (d:Nat) (s t:TypeId) (a:AV) (look:Look):ActR:=
 match a with
 | .val (.string b)=>match elemR P t with
  |some (e,sz,_)=>if t=32 then ⟨shapeR P s= .str∧sz=1∧intR P e=some .u8∧slackZ e=none∧b.data.toList.length≤big,fun _=>True,fun x=>.buf d x.h,fun x=>[(d,some (.arr x.h e 1 (b.data.toList.map fun b=>[.val (.int .u8 b.toNat)])))]⟩ else .stuck
  |none=>.stuck
 | .val (.int _ n)=>match intR P t with
  |some k=>.pure ((P.underlying s).isSome=true) (.val (.int k (k.wrap n)))
  |none=>.stuck
 |_=>match elemR P s,srcA look a with
  |some (e,sz,_),some (p,sz',ys)=>.pure (p∧sz=1∧sz'=1∧intR P e=some .u8∧shapeR P t= .str∧ys.all isByteA=true) (.val (.string ⟨(ys.map byteA).toArray⟩))
  |_,_=>.stuck
def actNil (x:AV):ActR:=
 match x with
 | .ref .. | .pt .. | .aref ..=>.pure True x
 | .fn ..=>.pure True x
 |_=>.stuck
def actField (P:Program) (s:TypeId) (x:AV) (f:Nat):ActR:=
 match fieldR P s f with
 |some (off,n)=>match x with
  | .ref k b o=>.pure (n≠0) (.ref k b (o+off))
  | .pt cs=>.pure (n≠0) (.pt (cs.drop off))
  | .aref k h sz i o=>.pure (n≠0) (.aref k h sz i (o+off))
  |_=>.stuck
 |none=>.stuck
def actIndexAddr (P:Program) (t:TypeId) (x i:AV) (look:Look):ActR:=
 match i with
 | .val (.int _ n)=>match x with
  | .dat _ sz xs=>match elemR P t with
   |some (_,sz',_)=>.pure (sz=sz'∧0≤n∧n < xs.length) (.pt (xs.getD n.toNat []))
   |none=>.stuck
  | .buf k h=>match elemR P t,look k with
   |some (_,sz',_),some (.arr h' _ sz xs)=>.pure (h=h'∧sz=sz'∧0 < sz∧0≤n∧n < xs.length) (.aref k h sz n.toNat 0)
   |_,_=>.stuck
  | .sub k h lo m=>match elemR P t with
   |some (_,sz',_)=>.pure (sz'=1∧0≤n∧n < m) (.aref k h 1 (lo+n.toNat) 0)
   |none=>.stuck
  | .ref k b o=>match arrR P t with
   |some (len,sz)=>.pure (0≤n∧n < len) (.ref k b (o+n.toNat * sz))
   |none=>.stuck
  | .pt cs=>match arrR P t with
   |some (len,sz)=>.pure (0≤n∧n < len) (.pt (cs.drop (n.toNat * sz)))
   |none=>.stuck
  |_=>.stuck
 |_=>.stuck
def actIndex (P:Program) (t:TypeId) (x i:AV):ActR:=
 match x,i with
 | .val (.string s),.val (.int _ n)=>.pure (shapeR P t= .str∧0≤n∧n < s.data.toList.length) (.val (.int .u8 (s.data.toList.getD n.toNat 0).toNat))
 |_,_=>.stuck
def bndA (d:Int):Option AV→Option Int
 |none=>some d
 |some (.val (.int _ n))=>some n
 |some _=>none
def actSlice (P:Program) (t:TypeId) (x:AV) (lo hi:Option AV) (look:Look):ActR:=
 match x with
 | .val (.string s)=>match bndA 0 lo,bndA s.data.toList.length hi with
  |some l,some h=>.pure (shapeR P t= .str∧0≤l∧l≤h∧h≤s.data.toList.length) (.val (.string ⟨((s.data.toList.take h.toNat).drop l.toNat).toArray⟩))
  |_,_=>.stuck
 | .dat nn sz xs=>match elemR P t,bndA 0 lo,bndA xs.length hi with
  |some (_,sz',_),some l,some h=>.pure (sz=sz'∧0≤l∧l≤h∧h≤xs.length) (.dat nn sz ((xs.take h.toNat).drop l.toNat))
  |_,_,_=>.stuck
 | .buf k h=>match look k with
  |some (.arr h' _ sz xs)=>match elemR P t,bndA 0 lo,bndA xs.length hi with
   |some (_,sz',_),some l,some m=>.pure (h=h'∧sz=sz'∧((l=0∧m=xs.length)∨(sz=1∧0≤l∧l < m∧(m≤xs.length∨m≤capV h)))) (if l=0∧m=xs.length then .buf k h else .sub k h l.toNat (m.toNat - l.toNat))
   |_,_,_=>.stuck
  |_=>.stuck
 |_=>.stuck
def actLen (P:Program) (t:TypeId) (x:AV) (look:Look):ActR:=
 match x with
 | .val (.string s)=>.pure (shapeR P t= .str) (.val (.int .i64 s.data.toList.length))
 | .val (.slice none 0 0)=>.pure (shapeR P t= .slc) (.val (.int .i64 0))
 | .dat _ _ xs=>.pure (shapeR P t= .slc) (.val (.int .i64 xs.length))
 | .sub _ _ _ n=>.pure (shapeR P t= .slc) (.val (.int .i64 n))
 | .buf k h=>match look k with
  |some (.arr h' _ _ xs)=>.pure (h=h'∧shapeR P t= .slc) (.val (.int .i64 xs.length))
  |_=>.stuck
 |_=>.stuck
def concR (P:Program) (t:TypeId):Bool:=match P.underlying t with|some (.interface _)=>false|some _=>true|none=>false
def zero1R (P:Program) (t:TypeId):Option Value:=
 match P.info? t with
 |some i=>match i.zero with
  |some z=>if z.oneCell' then some z else none
  |none=>none
 |none=>none
def actAssert (P:Program) (x:AV) (t:TypeId) (ok:Bool):ActR:=
 match x with
 | .val .nilIface=>match zero1R P t with
  |some z=>if ok then .pure (concR P t=true) (.tup [.val z,.val (.bool false)]) else .stuck
  |none=>.stuck
 | .ifc u a=>if u=t then .pure (concR P t=true) (if ok then .tup [a,.val (.bool true)] else a)
   else match zero1R P t with
   |some z=>if ok then .pure (concR P t=true) (.tup [.val z,.val (.bool false)]) else .stuck
   |none=>.stuck
 |_=>.stuck
def actExtract (x:AV) (i:Nat):ActR:=
 match x with
 | .tup vs=>.pure (i < vs.length) (vs.getD i .top)
 |_=>.stuck
def mapR (P:Program) (t:TypeId):Option (IntKind×TypeId):=
 match P.underlying t with
 |some (.map k e)=>match P.underlying k with
  |some (.int kk)=>some (kk,e)
  |_=>none
 |_=>none
def findE:List (Int×AV)→Int→Option AV
 | [],_=>none
 |(k,a) :: es,n=>if k=n then some a else findE es n
def mapA (look:Look):AV→Option (Prop×IntKind×List (Int×AV))
 | .mp kk es=>some (True,kk,es)
 | .omap k r=>match look k with
  |some (.mapo r' kk es)=>some (r=r',kk,es)
  |_=>none
 |_=>none
def actLookup (P:Program) (t:TypeId) (x i:AV) (ok:Bool) (look:Look):ActR:=
 match mapR P t,mapA look x,i with
 |some (kk,e),some (p,kk',es),.val (.int k n)=>match findE es n with
  |some a=>.pure (p∧kk'=kk∧k=kk) (if ok then .tup [a,.val (.bool true)] else a)
  |none=>match zero1R P e with
   |some z=>.pure (p∧kk'=kk∧k=kk) (if ok then .tup [.val z,.val (.bool false)] else .val z)
   |none=>.stuck
 |_,_,_=>.stuck
def actInsert (P:Program) (t:TypeId) (x i v:AV) (look:Look):ActR:=
 match mapR P t,x,i with
 |some (kk,_),.omap k r,.val (.int k' n)=>match look k with
  |some (.mapo r' kk' es)=> ⟨r=r'∧kk'=kk∧k'=kk∧findE es n=none,fun _=>True,fun _=>.val undef,fun _=>[(k,some (.mapo r kk (es++[(n,v)])))]⟩
  |_=>.stuck
 |_,_,_=>.stuck
def actMakeMap (P:Program) (d:Nat) (t:TypeId):ActR:=
 match mapR P t with
 |some (kk,_)=> ⟨True,fun _=>True,fun x=>.omap d x.b,fun x=>[(d,some (.mapo x.b kk []))]⟩
 |none=>.stuck
def actCap (P:Program) (t:TypeId) (x:AV):ActR:=
 match x with
 | .buf _ h=>.pure (shapeR P t= .slc) (.val (.int .i64 (capV h)))
 |_=>.stuck
def actMax (x y:AV):ActR:=
 match x,y with
 | .val (.int k a),.val (.int _ b)=>.pure True (.val (.int k (if b > a then b else a)))
 |_,_=>.stuck
def actCopy (P:Program) (t:TypeId) (x s:AV) (look:Look):ActR:=
 match x,elemR P t,srcA look s with
 | .sub k h lo n,some (e,sz,_),some (p,sz',ys)=>match look k with
  |some (.arr h' e' sz'' xs)=> ⟨p∧h=h'∧e'=e∧sz=1∧sz'=1∧sz''=1∧ys.length≤n∧lo+ys.length≤xs.length,fun _=>True,fun _=>.val (.int .i64 ys.length),fun _=>[(k,some (.arr h e 1 (xs.take lo++ys++xs.drop (lo+ys.length))))]⟩
  |_=>.stuck
 |_,_,_=>.stuck
def actBuiltin (P:Program) (d:Nat) (b:Builtin) (args:List Operand) (ts:List TypeId) (e:Operand→AV) (look:Look):ActR:=
 match b,args,ts with
 | .len,[x],t :: _=>actLen P t (e x) look
 | .append,[x,s],[t,t']=>if t'=t∧isStrA (e s)=false∨shapeR P t'= .str∧isStrA (e s)=true then actAppend P d t (e x) (e s) look else if intR P t'=some .i64 then actAppendZ P t (e x) (e s) look else .stuck
 | .cap,[x],t :: _=>actCap P t (e x)
 | .max,[x,y],_=>actMax (e x) (e y)
 | .copy,[x,s],[t,_]=>actCopy P t (e x) (e s) look
 |_,_,_=>.stuck
def act (P:Program) (d:Nat) (op:Op) (e:Operand→AV) (look:Look):ActR:=
 match op with
 | .move x| .assign x=>.pure True (e x)
 | .pick c x y=>actPick (e c) (e x) (e y)
 | .alloc t=>actAlloc P d t
 | .box _ x=>actBox d (e x)
 | .build t ps=>actBuild P t (ps.toList.map fun p=>(p.1,e p.2))
 | .buildSlice t n ps=>actBuildSlice P d t n (ps.toList.map fun p=>(p.1,e p.2))
 | .load t x=>actLoad P t (e x) look
 | .store t x v=>actStore P t (e x) (e v) look
 | .nilCheck x=>actNil (e x)
 | .binOp op t x y _=>actBin P op t (isC x || isC y) (e x) (e y)
 | .unOp op _ x=>actUn op (e x)
 | .convert s t x=>actConv P d s t (e x) look
 | .makeInterface t x=>.pure (concR P t=true) (.ifc t (e x))
 | .makeFunc (.func f) first caps=>if first.isEmpty then .pure True (.fn f (caps.toList.map e)) else .stuck
 | .makeSlice t l c=>actMakeSlice P d t (e l) (e c)
 | .slice t x lo hi none=>actSlice P t (e x) (lo.map e) (hi.map e) look
 | .lookup t x i ok=>actLookup P t (e x) (e i) ok look
 | .mapUpdate t m k x=>actInsert P t (e m) (e k) (e x) look
 | .makeMap t none=>actMakeMap P d t
 | .fieldAddr s x f=>actField P s (e x) f
 | .indexAddr t x i=>actIndexAddr P t (e x) (e i) look
 | .index t x i=>actIndex P t (e x) (e i)
 | .typeAssert x _ t ok=>actAssert P (e x) t ok
 | .extract x i=>actExtract (e x) i
 | .call ⟨.builtin b,args,ts⟩ =>actBuiltin P d b args.toList ts.toList e look
 |_=>.stuck
open Go
theorem cell_of_mem {M:Mem} {w:World} (hw:∀b o,M b=some o→w.heap[b]? =some o) {b o:Nat} {v:Value} (h:M.cell b o=some v):w.cell? ⟨b,o,none⟩ =some v:=by
 unfold Mem.cell at h
 split at h
 ·rename_i c t f hm
  simp[World.cell?,hw b _ hm,h]
 ·cases h
theorem cells_of_relC {M:Mem} {w:World} (hw:∀b o,M b=some o→w.heap[b]? =some o) {b o:Nat} {cs:List AV} (h:relC M b o cs):
  ∃vs,relL M cs vs∧∀i v,vs[i]? =some v→w.cell? ⟨b,o+i,none⟩ =some v:=by
 obtain ⟨vs,h1,h2⟩ :=relC_cells h
 exact ⟨vs,h1,fun i v hi=>cell_of_mem hw (h2 i v hi)⟩
theorem ldv_rel {M:Mem} {ag:Bool} {n:Nat} {cs:List AV} {vs:List Value} (h:relL M cs vs) (hn:n≤cs.length) (hc:ag=true∨n=1):
  (ldv ag n cs).rel M (if ag then .agg (vs.take n).toArray else (vs.take n).headD undef):=by
 unfold ldv
 cases ag with
 |true=>exact ⟨vs.take n,rfl,relL_take n h⟩
 |false=>
  have hn1:n=1:=hc.resolve_left (by simp)
  subst hn1
  cases cs with
  |nil=>simp at hn
  |cons c cs=>
   obtain ⟨v,r,rfl,_,hr,_⟩ :=h
   simpa using hr
theorem run_loadVar' {P:Program} {w:World} {t:TypeId} {ag:Bool} {n b o:Nat} (h:tyR P t=some (ag,n)) (hc:ag=true∨n=1) (vs:List Value) (hl:vs.length=n)
  (hcell:∀(i:Nat) v,vs[i]? =some v→w.cell? ⟨b,o+i,none⟩ =some v):(loadVar t ⟨b,o,none⟩).run P w= .ok (if ag then .agg vs.toArray else vs.headD undef) w:=by
 unfold tyR at h
 cases hi:P.info? t with
 |none=>simp[hi] at h
 |some i=>
  cases hu:P.underlying t with
  |none=>simp[hi,hu] at h
  |some u=>
   simp only[hi,hu,Option.some.injEq,Prod.mk.injEq] at h
   obtain ⟨h1,h2⟩ :=h
   have ha:(isAgg t).run P w= .ok ag w:=by
    unfold isAgg
    simp only[Sem.run_bind,run_underlying' hu,Result.andThen_ok]
    rw[←h1]
    cases u<;>rfl
   unfold loadVar
   simp only[Sem.run_bind,ha,Result.andThen_ok]
   cases ag with
   |true=>
    have hcs:(loadCells ⟨b,o,none⟩ vs.length).run P w= .ok vs.toArray w:=run_loadCells_list w _ vs (fun j v hj=>by rw[addr_add];exact hcell j v hj)
    simp only[if_true,Sem.run_bind,run_sizeOf' hi,Result.andThen_ok,h2,←hl,hcs,Sem.run_pure]
   |false=>
    have hn1:n=1:=hc.resolve_left (by simp)
    subst hn1
    match vs,hl with
    | [v],_=>
     have:=hcell 0 v (by simp)
     simp only[Nat.add_zero] at this
     simp[run_load,this]
def YV (M:Mem) (r:ActR) (res:Result Value) (w:World):Prop:=∃p a v,r= .pure p a∧res= .ok v w∧a.rel M v
section
variable {P:Program} {w:World} {M:Mem}
theorem s_pick {c x y:AV} {vc vx vy:Value} (hc:c.rel M vc) (hx:x.rel M vx) (hy:y.rel M vy) (h:(actPick c x y).pre):
  ∃p a b,actPick c x y= .pure p a∧vc= .bool b∧a.rel M (if b then vx else vy):=by
 have key:∀(z:AV) (v:Value) (u:Bool),stripC z= .val (.bool u)→cndOK z=true→z.rel M v→v= .bool u:=by
  intro z v u hz ho hr
  cases z<;>simp only[stripC,reduceCtorEq] at hz
  ·rw[AV.val.injEq] at hz;subst hz;exact hr
  ·subst hz
   exact hr.1 ho
 unfold actPick at h ⊢
 split at h
 ·rename_i g a b hsx hsy
  simp only[AV.rel] at hc
  simp only[ActR.pure] at h
  refine ⟨_,_,g,rfl,hc, ?_⟩
  cases g with
  |true=>simp only[if_true,AV.rel,pickB];rw[key x vx a hsx (h.1 rfl) hx];simp
  |false=>simp only[AV.rel,pickB];rw[if_neg (by simp),key y vy b hsy (h.2 rfl) hy];simp
 ·rename_i a hsx _
  simp only[AV.rel] at hc
  simp only[ActR.pure] at h
  exact ⟨_,_,true,rfl,hc,by simp only[if_true,AV.rel];exact key x vx a hsx h hx⟩
 ·rename_i b hsy _
  simp only[AV.rel] at hc
  simp only[ActR.pure] at h
  exact ⟨_,_,false,rfl,hc,by rw[if_neg (by simp)];simp only[AV.rel];exact key y vy b hsy h hy⟩
 ·exact h.elim
theorem valsA_rel {M:Mem}:∀{xs:List AV} {us vs:List Value},valsA xs=some us→relL M xs vs→vs=us
 | [],us,vs,h,hr=>by simp only[valsA,Option.some.injEq] at h;simp only[relL] at hr;rw[hr,←h]
 |a :: xs,us,vs,h, ⟨v,r,e,h1,h2,h3⟩ =>by
  subst e
  cases a<;>simp only[valsA,reduceCtorEq] at h
  rw[Option.map_eq_some_iff] at h
  obtain ⟨l,hl,rfl⟩ :=h
  cases h2
  rw[valsA_rel hl h3]
theorem s_eqT {op:BinOp} {t:TypeId} {x y:Operand} {a b:Value} {r:Bool} (h:(actEqT P op t a b r).pre):YV M (actEqT P op t a b r) ((do eqGuard op t x y a b;binOp op t a b:Sem Value).run P w) w:=by
 unfold actEqT at h ⊢
 split at h
 ·exact ⟨_,_,_,rfl,(h w x y).1,rfl⟩
 ·exact ⟨_,_,_,rfl,(h w x y).2,rfl⟩
 ·exact h.elim
theorem s_bin {op:BinOp} {t:TypeId} {x y:Operand} {a b:AV} {va vb:Value} (ha:a.rel M va) (hb:b.rel M vb) (h:(actBin P op t (isC x || isC y) a b).pre):
  YV M (actBin P op t (isC x || isC y) a b) ((do eqGuard op t x y va vb;binOp op t va vb:Sem Value).run P w) w:=by
 unfold actBin at h ⊢
 split at h
 ·rename_i k m k' n
  cases ha;cases hb
  exact ⟨_,_,_,rfl,run_binInt op t x y k k' m n h,rfl⟩
 ·rename_i s s'
  cases ha;cases hb
  exact ⟨_,_,_,rfl,run_binStr op t x y s s' h,rfl⟩
 ·rename_i s s'
  cases ha;cases hb
  split at h
  ·exact ⟨_,_,_,rfl,(run_eqBool h).1,rfl⟩
  ·exact ⟨_,_,_,rfl,(run_eqBool h).2,rfl⟩
  ·exact h.elim
 ·rename_i xs ys
  split at h
  ·rename_i us vs hus hvs
   obtain ⟨us',rfl,h1⟩ :=ha
   obtain ⟨vs',rfl,h2⟩ :=hb
   rw[valsA_rel hus h1,valsA_rel hvs h2]
   exact s_eqT h
  ·exact h.elim
 ·cases ha;cases hb
  exact s_eqT h
 ·rename_i h1 h2 h3 h4 h5
  split at h
  ·rename_i p na q nb hna hnb
   have key:∀(hh:p∧q∧(na || nb)=true∧shapeR P t=shapeV a∧shapeV b=shapeV a∧((isC x || isC y)=true∨shapeV a≠.ifc)),_:=fun hh=>by
    obtain ⟨hp,hq,hn,hs,hs2,hcst⟩ :=hh
    obtain ⟨ea,sa,oa⟩ :=nilV_rel hna hp ha
    obtain ⟨eb,sb,ob⟩ :=nilV_rel hnb hq hb
    have:=run_eqNil (P:=P) (w:=w) (t:=t) (x:=x) (y:=y) (a:=va) (b:=vb) (sh:=shapeV a) hs sa (sb.trans hs2) oa (by rw[ea,eb];exact hn)
     (fun he=>by rcases hcst with h|h;exact (by simpa using h);exact absurd he h)
    rw[ea,eb] at this
    exact this
   split at h
   ·exact ⟨_,_,_,rfl,(key h).1,rfl⟩
   ·exact ⟨_,_,_,rfl,(key h).2,rfl⟩
   ·exact h.elim
  ·exact h.elim
theorem s_un {op:UnOp} {a:AV} {va:Value} (ha:a.rel M va) (h:(actUn op a).pre):
  YV M (actUn op a) ((Op.unary op va).run P w) w:=by
 unfold actUn at h ⊢
 split at h
 ·cases ha;exact ⟨_,_,_,rfl,rfl,rfl⟩
 ·cases ha;exact ⟨_,_,_,rfl,rfl,rfl⟩
 ·exact h.elim
theorem s_nil {ρ:Operand→Value} {o:Oper} {y:Operand} (ho:o.op= .nilCheck y) {x:AV} (hx:x.rel M (ρ y)) (h:(actNil x).pre):(execOp ρ o).run P w= .ok (.value (ρ y)) w∧∃p,actNil x= .pure p x:=by
 unfold execOp
 simp only[ho]
 unfold actNil at h ⊢
 generalize ρ y=v at *
 split at h
 ·simp only[AV.rel] at hx;subst hx;exact ⟨rfl,_,rfl⟩
 ·obtain ⟨b,o,rfl,_⟩ :=hx;exact ⟨rfl,_,rfl⟩
 ·obtain ⟨g,n,c,_,rfl⟩ :=hx;exact ⟨rfl,_,rfl⟩
 ·obtain ⟨vs,rfl,_⟩ :=hx;exact ⟨rfl,_,rfl⟩
 ·exact h.elim
theorem fieldR_spec {s f off n:Nat} (h:fieldR P s f=some (off,n)):∃fs fl i,P.underlying s=some (.struct fs)∧fs[f]? =some fl∧P.info? fl.type=some i∧fl.offset=off∧i.size=n:=by
 unfold fieldR at h
 split at h
 ·rename_i fs hu
  split at h
  ·rename_i fl hf
   simp only[Option.map_eq_some_iff,Prod.mk.injEq] at h
   obtain ⟨i,hi,h1,h2⟩ :=h
   exact ⟨fs,fl,i,hu,hf,hi,h1,h2⟩
  ·cases h
 ·cases h
theorem run_fieldAt' {s f off n b o:Nat} (h:fieldR P s f=some (off,n)) (hn:n≠0):(Instr.fieldAt s (.pointer (some ⟨b,o,none⟩)) f).run P w= .ok (.pointer (some ⟨b,o+off,none⟩)) w:=by
 obtain ⟨fs,fl,i,hu,hf,hi,rfl,rfl⟩ :=fieldR_spec h
 simp[Instr.fieldAt,run_underlying' hu,hf,Instr.sureAddr,fieldPlace,run_sizeOf' hi,hn,addr_add]
theorem s_field {s f:Nat} {x:AV} {v:Value} (hx:x.rel M v) (h:(actField P s x f).pre):
  YV M (actField P s x f) ((Instr.fieldAt s v f).run P w) w:=by
 unfold actField at h ⊢
 split at h
 ·rename_i off n hf
  split at h
  ·simp only[AV.rel] at hx;subst hx;exact ⟨_,_,_,rfl,run_fieldAt' hf h,rfl⟩
  ·obtain ⟨b,o,rfl,hc⟩ :=hx
   exact ⟨_,_,_,rfl,run_fieldAt' hf h,b,o+off,rfl,relC_drop off hc⟩
  ·obtain ⟨g,m,c,e1,rfl⟩ :=hx
   exact ⟨_,_,_,rfl,run_fieldAt' hf h,g,m,c,e1,by rw[Nat.add_assoc]⟩
  ·exact h.elim
 ·exact h.elim
theorem elemR_spec {t e sz bytes:Nat} (h:elemR P t=some (e,sz,bytes)):∃i z,P.underlying t=some (.slice e)∧P.info? e=some i∧i.zero=some z∧z.cells.size=i.size∧i.size=sz∧i.bytes=bytes:=by
 unfold elemR at h
 split at h
 ·rename_i e' hu
  split at h
  ·rename_i i hi
   split at h
   ·rename_i z hz
    split at h
    ·rename_i hs
     simp only[Option.some.injEq,Prod.mk.injEq] at h
     obtain ⟨rfl,rfl,rfl⟩ :=h
     exact ⟨i,z,hu,hi,hz,hs,rfl,rfl⟩
    ·cases h
   ·cases h
  ·cases h
 ·cases h
theorem arrR_spec {t n sz:Nat} (h:arrR P t=some (n,sz)):∃e i,P.underlying t=some (.array n e)∧P.info? e=some i∧i.size=sz:=by
 unfold arrR at h
 split at h
 ·rename_i m e hu
  simp only[Option.map_eq_some_iff,Prod.mk.injEq] at h
  obtain ⟨i,hi,rfl,h2⟩ :=h
  exact ⟨e,i,hu,hi,h2⟩
 ·cases h
theorem shape_slc {t:Nat} (h:shapeR P t= .slc):∃e,P.underlying t=some (.slice e):=by
 unfold shapeR at h;split at h<;>first|(cases h;done)|exact ⟨_,‹_›⟩
theorem shape_str {t:Nat} (h:shapeR P t= .str):P.underlying t=some .string:=by
 unfold shapeR at h;split at h<;>first|(cases h;done)|assumption
theorem run_indexSlice {t e sz bytes g o len cap:Nat} {k:IntKind} {n:Int} (h:elemR P t=some (e,sz,bytes)) (h0:0≤n) (h1:n < len):
  (Instr.indexAt t (.slice (some ⟨g,o,none⟩) len cap) (.int k n)).run P w= .ok (.pointer (some ⟨g,o+n.toNat * sz,none⟩)) w:=by
 obtain ⟨i,z,hu,hi,_,_,rfl,_⟩ :=elemR_spec h
 have hd:(0≤n∧n < (len:Int)):= ⟨h0,h1⟩
 by_cases hle:len≤1<;>simp[Instr.indexAt,asIntOf,run_underlying' hu,hd,run_sizeOf' hi,addr_add,hle]
theorem run_indexArr {t g o len sz:Nat} {k:IntKind} {n:Int} (h:arrR P t=some (len,sz)) (h0:0≤n) (h1:n < len):
  (Instr.indexAt t (.pointer (some ⟨g,o,none⟩)) (.int k n)).run P w= .ok (.pointer (some ⟨g,o+n.toNat * sz,none⟩)) w:=by
 obtain ⟨e,i,hu,hi,rfl⟩ :=arrR_spec h
 have hd:(0≤n∧n < (len:Int)):= ⟨h0,h1⟩
 by_cases hle:len≤1<;>simp[Instr.indexAt,asIntOf,run_underlying' hu,hd,run_sizeOf' hi,addr_add,hle,Instr.sureAddr]
end
end Go.AM
