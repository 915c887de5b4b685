/- Part 39 of the proof: C1. -/
import Derived.ChangeArms
import Derived.ChangeReads
import Derived.Test.YtbkfdnkeelmloaaGreatDoorRows
import Derived.Test.YtbkfdnkeelmloaaGreatDoorZ20
import Derived.Test.YtbkfdnkeelmloaaGreatDoorY33
set_option linter.unusedVariables false
set_option linter.unusedSimpArgs false
namespace Go.Proofs.YtbkfdnkeelmloaaGreatDoor
set_option maxRecDepth 10000
open Go.AM Go
def memOf (W:World):Mem:=fun b=>W.heap[b]?
theorem memOf_cell {W:World} {a:Addr} {v:Value} (h:W.cell? a=some v):(memOf W).cell a.block a.off=some v∧a.spot=none:=by
 unfold World.cell? at h
 unfold Mem.cell memOf
 split at h
 ·rename_i c t fz hb
  rw[hb]
  split at h
  ·cases h
  ·rename_i hs
   exact ⟨h,by simpa using hs⟩
 ·cases h
theorem relL_app {M:Mem}:∀{xs bs:List AV} {vs us:List Value},relL M xs vs→relL M bs us→relL M (xs++bs) (vs++us)
 | [],_,_,_,h,k=>by simp only[relL] at h;subst h;exact k
 |_ :: _,_,_,_, ⟨v,r,e,h1,h2,h3⟩,k=>by subst e;exact ⟨v,_,rfl,h1,h2,relL_app h3 k⟩
theorem relC_of {M:Mem} {b:Nat}:∀{xs:List AV} {vs:List Value} {o:Nat},relL M xs vs→(∀(j:Nat) v,vs[j]? =some v→M.cell b (o+j)=some v)→relC M b o xs
 | [],_,_,_,_=>trivial
 |_ :: _,_,o, ⟨v,r,e,h1,h2,h3⟩,h=>by
  subst e
  exact ⟨⟨v,h 0 v rfl,h1,h2⟩,relC_of h3 fun j u hj=>by have:=h (j+1) u hj;rwa [←Nat.add_assoc,Nat.add_right_comm] at this⟩
theorem relR_of {M:Mem} {X:Type} {C:X→List AV} {sz b:Nat} (hC:∀x,(C x).length=sz):∀(l:List X) (o:Nat),(∀(i:Nat) x,l[i]? =some x→relC M b (o+i * sz) (C x))→relR M sz b o (l.map C)
 | [],_,_=>trivial
 |x :: l,o,h=> ⟨hC x,by have:=h 0 x rfl;rwa [Nat.zero_mul,Nat.add_zero] at this,relR_of hC l (o+sz) fun i y hy=>by
  have:=h (i+1) y hy
  rwa [Nat.succ_mul,Nat.add_comm (i * sz) sz,←Nat.add_assoc] at this⟩
section
variable {H:Type} {enc:TypeId×Value→H} {W:World}
def small {H:Type} (t:TypeId) (d:DataW H):Prop:=∀n∈d.weights Tryz.prog t,n≤reachBytes
def smallL {H:Type} (ts:List TypeId) (ds:List (DataW H)):Prop:=∀n∈DataW.weightsEach Tryz.prog ts ds,n≤reachBytes
def Reads (enc:TypeId×Value→H) (W:World) (t:TypeId) {X:Type} (C:X→List AV) (OK:X→Prop):Prop:=
 ∀(fuel:Nat) (cs:List Value) (d:DataW H) (p:List MemPlace),DataW.trod enc Tryz.prog W 0 (fun _=>true) true fuel t cs=some (d,p)→small t d→∃x:X,relL (memOf W) (C x) cs∧OK x
theorem Reads.map {t:TypeId} {X Y:Type} {C:X→List AV} {C':Y→List AV} {OK:X→Prop} {OK':Y→Prop} (h:Reads enc W t C OK) (f:X→Y) (hC:∀x,C' (f x)=C x) (ho:∀x,OK x→OK' (f x)):Reads enc W t C' OK':=fun fuel cs d p h1 h2=>by
 obtain ⟨x,h3,h4⟩ :=h fuel cs d p h1 h2
 exact ⟨f x,by rw[hC];exact h3,ho x h4⟩
def inK (k:IntKind) (n:Int):Prop:=k.min≤n∧n≤k.max
theorem rd_int {t:TypeId} {k:IntKind} (ht:Tryz.prog.underlying t=some (.int k)):Reads enc W t (fun n:Int=>[.val (.int k n)]) (inK k):=fun fuel cs d p h _=>by
 obtain ⟨n,rfl,_,h3⟩ :=DataW.trod_int ht h
 exact ⟨n, ⟨_,_,rfl,rfl,rfl,rfl⟩,by simpa [Lit.wf,inK] using h3⟩
theorem rd_bool {t:TypeId} (ht:Tryz.prog.underlying t=some .bool):Reads enc W t (fun b:Bool=>[booV b]) (fun _=>True):=fun fuel cs d p h _=>by
 obtain ⟨n,rfl,_⟩ :=DataW.trod_bool ht h
 exact ⟨n, ⟨_,_,rfl,rfl,rfl,rfl⟩,trivial⟩
theorem rd_string {t:TypeId} (ht:Tryz.prog.underlying t=some .string):Reads enc W t (fun s:Bytes=>[strV s]) (fun s=>s.length≤big):=fun fuel cs d p h hw=>by
 obtain ⟨s,rfl,e,_⟩ :=DataW.trod_string ht h
 obtain ⟨rfl,_⟩ :=Prod.mk.inj e
 have h1:s.data.toList.length≤reachBytes:=hw _ (by simp[DataW.weights])
 have h2:reachBytes≤big:=by decide
 exact ⟨s.data.toList, ⟨_,_,rfl,rfl,rfl,rfl⟩,Nat.le_trans h1 h2⟩
theorem w_all {e:TypeId} {d:DataW H} {n:Nat}:∀{ds:List (DataW H)},d∈ds→n∈d.weights Tryz.prog e→n∈DataW.weightsAll Tryz.prog e ds
 |x :: ds,h,k=>by
  simp only[DataW.weightsAll,List.mem_append]
  rcases List.mem_cons.1 h with rfl|h
  ·exact .inl k
  ·exact .inr (w_all h k)
theorem cells_get {a:Addr} {n:Nat} {cs:List Value} (h:W.cells? 0 a n=some cs):cs.length=n∧∀(j:Nat) v,cs[j]? =some v→W.cell? (a.add j)=some v:=by
 unfold World.cells? at h
 rw[if_pos (Nat.zero_le _)] at h
 have hl:=mapM_some_length h
 rw[List.length_range] at hl
 refine ⟨hl,fun j v hj=>?_⟩
 have hjl:j < n:=by rw[←hl];exact (List.getElem?_eq_some_iff.1 hj).1
 rw[←hj]
 exact mapM_some_get h j j (by simp[hjl])
theorem some_list {X:Type} {Q:Nat→X→Prop}:∀n,(∀i,i < n→∃x,Q i x)→∃l:List X,l.length=n∧∀(i:Nat) x,l[i]? =some x→Q i x
 |0,_=> ⟨[],rfl,fun i x h=>by simp at h⟩
 |n+1,h=>by
  obtain ⟨l,h1,h2⟩ :=some_list n fun i hi=>h i (by omega)
  obtain ⟨x,hx⟩ :=h n (by omega)
  refine ⟨l++[x],by simp[h1],fun i y hy=>?_⟩
  by_cases hi:i < l.length
  ·rw[List.getElem?_append_left hi] at hy
   exact h2 i y hy
  ·rw[List.getElem?_append_right (by omega)] at hy
   have:i - l.length=0:=by
    have:=(List.getElem?_eq_some_iff.1 hy).1
    simp at this;omega
   rw[this] at hy
   cases hy
   have:i=n:=by omega
   subst this
   exact hx
theorem rd_slice {t e:TypeId} {sz:Nat} {X:Type} {C:X→List AV} {OK:X→Prop} (ht:Tryz.prog.underlying t=some (.slice e)) (hc:Tryz.prog.cellsOf e=sz) (hb:1≤Tryz.prog.bytesOf e) (hz:0 < sz) (hC:∀x,(C x).length=sz) (h:Reads enc W e C OK):
  Reads enc W t (fun l:List X=>[.dat false sz (l.map C)]) (fun l=>l.length≤big∧∀x∈l,OK x):=fun fuel cs d p htr hw=>by
 have hrb:reachBytes≤big:=by decide
 rcases DataW.trod_slice ht htr with ⟨rfl,_⟩ | ⟨a,len,cap,elems,rest,n,rfl,rfl,e1,_,hlc,_,hlen,hel,_,_⟩
 ·exact ⟨[], ⟨_,_,rfl,rfl, ⟨none,0,rfl,(fun e=>by cases e),by simp,by simp,.inl rfl,fun _ _=>rfl⟩,rfl⟩,by simp,by simp⟩
 ·obtain ⟨rfl,_⟩ :=Prod.mk.inj e1
  unfold small at hw
  simp only[DataW.weights,ht,List.mem_cons,List.mem_append] at hw
  have hlb:len≤big:=by
   have h1:=hw _ (.inl rfl)
   have h2:len≤(elems.length+rest.length) * Tryz.prog.bytesOf e:=Nat.le_trans (by omega) (Nat.le_mul_of_pos_right _ hb)
   simp only[List.length_map] at h1
   omega
  obtain ⟨l,hl1,hl2⟩ :=some_list (Q:=fun i x=>(relC (memOf W) a.block (a.off+i * sz) (C x)∧a.spot=none)∧OK x) len fun i hi=>by
   have hi':i < elems.length:=by omega
   have h1:=hel i hi
   rw[List.getElem?_eq_getElem hi',hc] at h1
   obtain ⟨c1,h2,h3⟩ :=Option.bind_eq_some_iff.1 h1
   obtain ⟨x,h4,h5⟩ :=h n c1 _ _ h3 fun m hm=>hw m (.inr (.inl (w_all (List.mem_map.2 ⟨_,List.getElem_mem hi',rfl⟩) hm)))
   obtain ⟨h6,h7⟩ :=cells_get h2
   have ha:a.spot=none:=by
    have h0:∃v,c1[0]? =some v:= ⟨c1[0]'(by omega),List.getElem?_eq_getElem (by omega)⟩
    obtain ⟨v,hv⟩ :=h0
    have:=h7 0 v hv
    cases hs:a.spot with
    |none=>rfl
    |some s=>
     by_cases hi0:i * sz=0
     ·have e0:(a.add (i * sz)).add 0=a:=by simp[Addr.add,hi0]
      rw[e0] at this
      exact absurd (memOf_cell this).2 (by rw[hs];simp)
     ·have h00:=hel 0 (by omega)
      rw[List.getElem?_eq_getElem (show 0 < elems.length by omega),hc] at h00
      obtain ⟨c2,k2,_⟩ :=Option.bind_eq_some_iff.1 h00
      obtain ⟨k6,k7⟩ :=cells_get k2
      have:=k7 0 _ (List.getElem?_eq_getElem (by omega))
      have e0:(a.add (0 * sz)).add 0=a:=by simp[Addr.add]
      rw[e0] at this
      exact absurd (memOf_cell this).2 (by rw[hs];simp)
   refine ⟨x, ⟨relC_of h4 fun j v hj=>?_,ha⟩,h5⟩
   have:=(memOf_cell (h7 j v hj)).1
   have e1:∀(q:Addr) m,(q.add m).block=q.block∧(q.add m).off=q.off+m:=fun q m=>by unfold Addr.add;split<;>simp_all
   rw[(e1 _ _).1,(e1 _ _).2,(e1 _ _).1,(e1 _ _).2] at this
   exact this
  refine ⟨l, ⟨_,_,rfl,rfl, ⟨some a,cap,by simp[hl1],(fun e=>by cases e),by simpa [hl1] using hlb,by simpa [hl1] using hlc, ?_,fun _ _=>rfl⟩,rfl⟩,by omega,fun x hx=>?_⟩
  ·cases l with
   |nil=>exact .inl rfl
   |cons x l=>
    right
    have ha:=(hl2 0 x rfl).1.2
    obtain ⟨b,o,s⟩ :=a
    simp only at ha
    subst ha
    exact ⟨b,o,rfl,relR_of hC _ o fun i y hy=>(hl2 i y hy).1.1⟩
  ·obtain ⟨i,hi⟩ :=List.getElem?_of_mem hx
   exact (hl2 i x hi).2
def Pieces (enc:TypeId×Value→H) (W:World) (n:Nat):List TypeId→List (DataW H)→List Value→Prop
 | [],[],cs=>cs=[]
 |t :: ts,d :: ds,cs=>∃a b p,cs=a++b∧DataW.trod enc Tryz.prog W 0 (fun _=>true) true n t a=some (d,p)∧Pieces enc W n ts ds b
 |_,_,_=>False
def ReadsP (enc:TypeId×Value→H) (W:World) (ts:List TypeId) {X:Type} (C:X→List AV) (OK:X→Prop):Prop:=
 ∀(n:Nat) (ds:List (DataW H)) (cs:List Value),Pieces enc W n ts ds cs→smallL ts ds→∃x,relL (memOf W) (C x) cs∧OK x
theorem ReadsP.nil:ReadsP enc W [] (fun _:Unit=>[]) (fun _=>True):=fun n ds cs h _=>by
 cases ds with
 |nil=>exact ⟨(),h,trivial⟩
 |cons=>exact h.elim
theorem ReadsP.cons {t:TypeId} {ts:List TypeId} {X Y:Type} {C:X→List AV} {D:Y→List AV} {A:X→Prop} {B:Y→Prop} (h:Reads enc W t C A) (k:ReadsP enc W ts D B):ReadsP enc W (t :: ts) (fun x:X×Y=>C x.1++D x.2) (fun x=>A x.1∧B x.2):=fun n ds cs hp hw=>by
 cases ds with
 |nil=>exact hp.elim
 |cons d ds=>
  obtain ⟨a,b,p,rfl,h1,h2⟩ :=hp
  obtain ⟨x,h3,h4⟩ :=h n a d p h1 fun m hm=>hw m (by simp only[DataW.weightsEach,List.mem_append];exact .inl hm)
  obtain ⟨y,h5,h6⟩ :=k n ds b h2 fun m hm=>hw m (by simp only[DataW.weightsEach,List.mem_append];exact .inr hm)
  exact ⟨(x,y),relL_app h3 h5,h4,h6⟩
def rowB (c:TypeId→Nat):List (TypeId×Nat)→Nat→Nat→Bool
 | [],o,m=>o == m
 |(t,f) :: l,o,m=>f == o && rowB c l (o+c t) m
theorem pieces_of {n m:Nat} {cs:List Value} (hl:cs.length=m):∀(fs:List (TypeId×Nat)) (xs:List (DataW H×List MemPlace)) (o:Nat),rowB Tryz.prog.cellsOf fs o m=true→xs.length=fs.length→
  (∀(i:Nat) t f,fs[i]? =some (t,f)→DataW.trod enc Tryz.prog W 0 (fun _=>true) true n t ((cs.drop f).take (Tryz.prog.cellsOf t))=xs[i]?)→Pieces enc W n (fs.map (·.1)) (xs.map (·.1)) (cs.drop o)
 | [],[],o,h,_,_=>by
  simp only[rowB,beq_iff_eq] at h
  show cs.drop o=[]
  rw[List.drop_eq_nil_iff];omega
 | [],_ :: _,_,_,h,_=>by cases h
 |_ :: _,[],_,_,h,_=>by cases h
 |(t,f) :: fs,x :: xs,o,h,hn,hf=>by
  simp only[rowB,Bool.and_eq_true,beq_iff_eq] at h
  obtain ⟨rfl,h⟩ :=h
  have h0:=hf 0 t f rfl
  refine ⟨(cs.drop f).take (Tryz.prog.cellsOf t),cs.drop (f+Tryz.prog.cellsOf t),x.2, ?_,h0,pieces_of hl fs xs _ h (by simpa using hn) fun i t' f' hi=>hf (i+1) t' f' hi⟩
  rw[←List.drop_drop,List.take_append_drop]
theorem rd_struct {t:TypeId} {X:Type} {C:X→List AV} {OK:X→Prop} (fs:List (TypeId×Nat)) (ht:Tryz.prog.underlying t=some (.struct (Tryz.prog.fieldsOf t))) (hf:(Tryz.prog.fieldsOf t).toList.map (fun f=>(f.type,f.offset))=fs) (hr:rowB Tryz.prog.cellsOf fs 0 (Tryz.prog.cellsOf t)=true)
  (h:ReadsP enc W (fs.map (·.1)) C OK):Reads enc W t C OK:=fun fuel cs d p htr hw=>by
 obtain ⟨xs,n,rfl,e1,hl,hn,hx⟩ :=DataW.trod_struct ht htr
 obtain ⟨rfl,_⟩ :=Prod.mk.inj e1
 have hp:=pieces_of (enc:=enc) (W:=W) hl fs xs 0 hr (by rw[hn,←hf];simp) fun i t' f' hi=>by
  rw[←hf,List.getElem?_map] at hi
  cases hg:(Tryz.prog.fieldsOf t).toList[i]? with
  |none=>rw[hg] at hi;cases hi
  |some f=>
   rw[hg] at hi
   simp only[Option.map_some,Option.some.injEq,Prod.mk.injEq] at hi
   obtain ⟨rfl,rfl⟩ :=hi
   exact hx i f (by simpa using hg)
 refine h n _ cs hp fun m hm=>hw m ?_
 simp only[DataW.weights,ht]
 rw[←hf] at hm
 simpa [List.map_map,Function.comp_def] using hm
theorem ru64:Reads enc W 46 (fun n:Int=>[u64V n]) (fun n=>0≤n∧n < 18446744073709551616):=(rd_int (by kernel_rfl)).map id (fun _=>rfl) fun n h=>by
 have h:=h
 simp[inK,IntKind.min,IntKind.max,IntKind.signed,IntKind.bits] at h
 simp only[id];omega
theorem ri64:Reads enc W 3 (fun n:Int=>[intV n]) (fun n=>-9223372036854775808≤n∧n≤9223372036854775807):=(rd_int (by kernel_rfl)).map id (fun _=>rfl) fun n h=>by
 simp only[inK,IntKind.min,IntKind.max,IntKind.signed,IntKind.bits] at h
 simp only[id];simp at h;omega
theorem rbool:Reads enc W 4 (fun b:Bool=>[booV b]) (fun _=>True):=rd_bool (by kernel_rfl)
theorem rstr:Reads enc W 9 (fun s:Bytes=>[strV s]) (fun s=>s.length≤big):=rd_string (by kernel_rfl)
theorem rbyte:Reads enc W 5 (fun b:UInt8=>[u8V b]) (fun _=>True):=fun fuel cs d p h hw=>by
 obtain ⟨n,h1,h2⟩ :=rd_int (enc:=enc) (W:=W) (t:=5) (k:=.u8) (by kernel_rfl) fuel cs d p h hw
 simp only[inK,IntKind.min,IntKind.max,IntKind.signed,IntKind.bits] at h2
 refine ⟨UInt8.ofNat n.toNat, ?_,trivial⟩
 have e:((UInt8.ofNat n.toNat).toNat:Int)=n:=by
  rw[UInt8.toNat_ofNat',Nat.mod_eq_of_lt (by simp at h2;omega)];simp at h2;omega
 simp only[u8V,e]
 exact h1
theorem rbytes:Reads enc W 32 (fun l:Bytes=>[bytesV l]) (fun l=>l.length≤big):=(rd_slice (e:=5) (sz:=1) (by kernel_rfl) (by kernel_rfl) (Nat.le_of_ble_eq_true (by kernel_rfl)) (by decide) (fun _=>rfl) rbyte).map id (fun _=>rfl) fun _ h=>h.1
theorem rlayout:Reads enc W 23 layoutC (fun _=>True):=(rd_struct [(3,0),(4,1),(3,2),(4,3),(4,4)] (by kernel_rfl) (by kernel_rfl) (by kernel_rfl) (.cons ri64 (.cons rbool (.cons ri64 (.cons rbool (.cons rbool .nil)))))).map (fun ⟨a,b,c,d,e,_⟩ => ⟨a,b,c,d,e⟩) (fun _=>rfl) fun _ _=>trivial
theorem rpiece:Reads enc W 156 pieceC (fun p=>0≤p.a∧0≤p.b):=(rd_struct [(3,0),(46,1),(46,2)] (by kernel_rfl) (by kernel_rfl) (by kernel_rfl) (.cons ri64 (.cons ru64 (.cons ru64 .nil)))).map (fun ⟨a,b,c,_⟩ => ⟨a,b,c⟩) (fun _=>rfl) fun _ h=> ⟨h.2.1.1,h.2.2.1.1⟩
theorem rspan:Reads enc W 82 spanC SpanR:=(rd_struct [(46,0),(46,1),(4,2),(4,3),(80,4)] (by kernel_rfl) (by kernel_rfl) (by kernel_rfl) (.cons ru64 (.cons ru64 (.cons rbool (.cons rbool (.cons (rd_slice (e:=156) (sz:=3) (by kernel_rfl) (by kernel_rfl) (Nat.le_of_ble_eq_true (by kernel_rfl)) (by decide) (fun _=>rfl) rpiece) .nil)))))).map
 (fun ⟨a,b,c,d,e,_⟩ => ⟨a,b,c,d,e⟩) (fun _=>rfl) fun _ h=> ⟨h.1,h.2.1,h.2.2.2.2.1.2,h.2.2.2.2.1.1⟩
theorem rspans:Reads enc W 24 (fun l=>[spansV l]) inSpans:=rd_slice (e:=82) (sz:=5) (by kernel_rfl) (by kernel_rfl) (Nat.le_of_ble_eq_true (by kernel_rfl)) (by decide) (fun _=>rfl) rspan
theorem rattr:Reads enc W 48 attrC (fun a=>okAttr a∧0≤a.n∧a.n < 18446744073709551616):=(rd_struct [(3,0),(3,1),(4,2),(46,3),(9,4),(32,5)] (by kernel_rfl) (by kernel_rfl) (by kernel_rfl) (.cons ri64 (.cons ri64 (.cons rbool (.cons ru64 (.cons rstr (.cons rbytes .nil))))))).map
 (fun ⟨a,b,c,d,e,f,_⟩ => ⟨a,b,c,d,e,f⟩) (fun _=>rfl) fun _ h=> ⟨⟨h.2.2.2.2.1,h.2.2.2.2.2.1⟩,h.2.2.2.1⟩
theorem rnode:Reads enc W 125 nodeC (fun x=>okNode x∧∀a∈x.attrs,0≤a.n∧a.n < 18446744073709551616):=(rd_struct [(3,0),(4,1),(4,2),(49,3)] (by kernel_rfl) (by kernel_rfl) (by kernel_rfl) (.cons ri64 (.cons rbool (.cons rbool (.cons (rd_slice (e:=48) (sz:=6) (by kernel_rfl) (by kernel_rfl) (Nat.le_of_ble_eq_true (by kernel_rfl)) (by decide) (fun _=>rfl) rattr) .nil))))).map
 (fun ⟨a,b,c,d,_⟩ => ⟨a,b,c,d⟩) (fun _=>rfl) fun _ h=> ⟨⟨h.2.2.2.1.1,fun a ha=>(h.2.2.2.1.2 a ha).1⟩,fun a ha=>(h.2.2.2.1.2 a ha).2⟩
theorem runit:Reads enc W 96 unitC (fun u=>okUnit u∧∀x∈u.nodes,∀a∈x.attrs,0≤a.n∧a.n < 18446744073709551616):=(rd_struct [(3,0),(4,1),(3,2),(94,3)] (by kernel_rfl) (by kernel_rfl) (by kernel_rfl) (.cons ri64 (.cons rbool (.cons ri64 (.cons (rd_slice (e:=125) (sz:=4) (by kernel_rfl) (by kernel_rfl) (Nat.le_of_ble_eq_true (by kernel_rfl)) (by decide) (fun _=>rfl) rnode) .nil))))).map
 (fun ⟨a,b,c,d,_⟩ => ⟨a,b,c,d⟩) (fun _=>rfl) fun _ h=> ⟨⟨h.2.2.2.1.1,fun a ha=>(h.2.2.2.1.2 a ha).1⟩,fun a ha=>(h.2.2.2.1.2 a ha).2⟩
theorem runits:Reads enc W 25 (fun l=>[unitsV l]) (fun l=>okUnits l∧rngUnits l):=(rd_slice (e:=96) (sz:=4) (by kernel_rfl) (by kernel_rfl) (Nat.le_of_ble_eq_true (by kernel_rfl)) (by decide) (fun _=>rfl) runit).map id (fun _=>rfl) fun _ h=> ⟨⟨h.1,fun u hu=>(h.2 u hu).1⟩,fun u hu=>(h.2 u hu).2⟩
theorem rfile:Reads enc W 107 fileC (fun f=>okFile f∧0≤f.mtime∧f.mtime < 18446744073709551616):=(rd_struct [(9,0),(3,1),(46,2),(3,3)] (by kernel_rfl) (by kernel_rfl) (by kernel_rfl) (.cons rstr (.cons ri64 (.cons ru64 (.cons ri64 .nil))))).map
 (fun ⟨a,b,c,d,_⟩ => ⟨a,b,c,d⟩) (fun _=>rfl) fun _ h=> ⟨h.1,h.2.2.1⟩
def rngOp (o:OpD):Prop:=(0≤o.n∧o.n < 18446744073709551616)∧(-9223372036854775808≤o.m∧o.m≤9223372036854775807)∧0≤o.file.mtime∧o.file.mtime < 18446744073709551616
theorem rop:Reads enc W 109 opC (fun o=>okOp o∧rngOp o):=(rd_struct [(3,0),(46,1),(3,2),(107,3)] (by kernel_rfl) (by kernel_rfl) (by kernel_rfl) (.cons ri64 (.cons ru64 (.cons ri64 (.cons rfile .nil))))).map
 (fun ⟨a,b,c,d,_⟩ => ⟨a,b,c,d⟩) (fun _=>rfl) fun _ h=> ⟨h.2.2.2.1.1,h.2.1,h.2.2.1,h.2.2.2.1.2⟩
theorem rtable:Reads enc W 31 tableC (fun t=>okTable t∧(∀o∈t.ops,rngOp o)∧∀f∈t.files,0≤f.mtime∧f.mtime < 18446744073709551616):=
 (rd_struct [(3,0),(4,1),(4,2),(3,3),(3,4),(3,5),(4,6),(3,7),(3,8),(3,9),(26,10),(3,11),(3,12),(27,13),(28,14),(29,15)] (by kernel_rfl) (by kernel_rfl) (by kernel_rfl) (.cons ri64 (.cons rbool (.cons rbool (.cons ri64 (.cons ri64 (.cons ri64 (.cons rbool (.cons ri64 (.cons ri64 (.cons ri64
  (.cons (rd_slice (e:=3) (sz:=1) (by kernel_rfl) (by kernel_rfl) (Nat.le_of_ble_eq_true (by kernel_rfl)) (by decide) (fun _=>rfl) ri64) (.cons ri64 (.cons ri64
  (.cons (rd_slice (e:=9) (sz:=1) (by kernel_rfl) (by kernel_rfl) (Nat.le_of_ble_eq_true (by kernel_rfl)) (by decide) (fun _=>rfl) rstr)
  (.cons (rd_slice (e:=107) (sz:=4) (by kernel_rfl) (by kernel_rfl) (Nat.le_of_ble_eq_true (by kernel_rfl)) (by decide) (fun _=>rfl) rfile)
  (.cons (rd_slice (e:=109) (sz:=7) (by kernel_rfl) (by kernel_rfl) (Nat.le_of_ble_eq_true (by kernel_rfl)) (by decide) (fun _=>rfl) rop) .nil))))))))))))))))).map
 (fun ⟨a,b,c,d,e,f,g,h,i,j,k,l,m,n,o,p,_⟩ => ⟨a,b,c,d,e,f,g,h,i,j,k,l,m,n,o,p⟩) (fun _=>rfl) fun ⟨a,b,c,d,e,f,g,h,i,j,k,l,m,n,o,p,_⟩ ⟨_,_,_,_,_,_,_,_,_,_,hk,_,_,hn,ho,hp,_⟩ =>
  ⟨⟨hk.1,hn, ⟨ho.1,fun f hf=>(ho.2 f hf).1⟩, ⟨hp.1,fun f hf=>(hp.2 f hf).1⟩⟩,fun f hf=>(hp.2 f hf).2,fun f hf=>(ho.2 f hf).2⟩
end
end Go.Proofs.YtbkfdnkeelmloaaGreatDoor
