/- Part 37 of the proof: W4. -/
import Derived.Test.YtbkfdnkeelmloaaGreatDoorY28
import Derived.Test.YtbkfdnkeelmloaaGreatDoorY30
import Derived.Test.YtbkfdnkeelmloaaGreatDoorY35
import Derived.Test.YtbkfdnkeelmloaaGreatDoorY36
set_option linter.unusedVariables false
set_option linter.unusedSimpArgs false
namespace Go.Proofs.YtbkfdnkeelmloaaGreatDoor
set_option maxHeartbeats 4000000
set_option maxRecDepth 10000
open Go.AM Go
theorem vcL_app {P:Program} {G:Nat→AV} {n:Nat} {ops:Array Oper} {K:St→Prop} {b:List Oper}:∀(a:List Oper) (S:St),vcL P G n ops K (a++b) S=vcL P G n ops (fun S'=>vcL P G n ops K b S') a S
 | [],_=>rfl
 |o :: a,S=>by
  simp only[List.cons_append,vcL_cons,vcL_app a]
theorem hCut {C:Ctx} {Q:Post} {S:St} {id:Nat} {l:List Oper} (m:Nat) (h:∀X:St→Prop,(∀S',vcL C.P C.G C.n l.toArray (Q .normal) (l.drop m) S'→X S')→vcL C.P C.G C.n l.toArray X (l.take m) S):Hoare C (.region id l.toArray false) Q S:=by
 refine hRegion ?_
 have:=h (fun S'=>vcL C.P C.G C.n l.toArray (Q .normal) (l.drop m) S') fun _ k=>k
 rw[←vcL_app,List.take_append_drop] at this
 exact this
theorem relR_imp {M:Mem} {sz b:Nat}:∀(xs ys:List (List AV)) (o:Nat),xs.length=ys.length→(∀(i:Nat) (x y:List AV),xs[i]? =some x→ys[i]? =some y→x.length=y.length∧∀o,relC M b o x→relC M b o y)→relR M sz b o xs→relR M sz b o ys
 | [],[],_,_,_,_=>trivial
 | [],_ :: _,_,h,_,_=>by cases h
 |_ :: _,[],_,h,_,_=>by cases h
 |x :: xs,y :: ys,o,hl,h, ⟨h1,h2,h3⟩ => ⟨by rw[←(h 0 x y rfl rfl).1];exact h1,(h 0 x y rfl rfl).2 o h2,relR_imp xs ys (o+sz) (by simpa using hl) (fun i x y hx hy=>h (i+1) x y (by simpa using hx) (by simpa using hy)) h3⟩
theorem firstK_len (n k:Nat) (f:List AttrD):(firstK n k f).length=n:=by simp[firstK]
theorem dat_imp {M:Mem} {sz:Nat} {xs ys:List (List AV)} {u:Value} (hl:xs.length=ys.length) (h:∀b o,relR M sz b o xs→relR M sz b o ys) (hr:(AV.dat false sz xs).rel M u):(AV.dat false sz ys).rel M u:=by
 obtain ⟨A,cap,e,h1,h2,h3,h4,h5⟩ :=hr
 refine ⟨A,cap,by rw[e,hl],(fun e=>by cases e),by rw[←hl];exact h2,by rw[←hl];exact h3,h4.imp (fun e=>?_) fun ⟨b,o,ea,hr⟩ => ⟨b,o,ea,h b o hr⟩,h5⟩
 rw[e] at hl
 exact List.eq_nil_of_length_eq_zero hl.symm
def attrN (a:AttrD):List AV:=[intV a.attr,intV a.form,booV a.indirect,u64V a.n,strV a.s,.val (.slice none 0 0)]
theorem attrN_rel {M:Mem} {f:List AttrD} (hf:∀a∈f,a.b=[]) (b o:Nat) (h:relR M 6 b o (f.map attrN)):relR M 6 b o (f.map attrC):=by
 refine relR_imp _ _ o (by simp) (fun i x y hx hy=>?_) h
 rw[List.getElem?_map] at hx hy
 cases ha:f[i]? with
 |none=>rw[ha] at hx;cases hx
 |some a=>
  rw[ha] at hx hy
  cases hx
  cases hy
  have hb:=hf a (List.mem_of_getElem? ha)
  refine ⟨rfl,fun o ⟨h1,h2,h3,h4,h5, ⟨v,h6,h7,h8⟩,h9⟩ => ⟨h1,h2,h3,h4,h5, ⟨v,h6,h7, ?_⟩,h9⟩⟩
  rw[hb]
  exact nil_dat h8
theorem first_rel {n k:Nat} {f:List AttrD} {M:Mem} {u:Value} (hf0:∀a∈f,a.b=[]) (h:(AV.dat false 1 ((List.replicate n [.val (.slice none 0 0)]).set k [.dat false 6 (f.map attrN)])).rel M u):(firstV (firstK n k f)).rel M u:=by
 have hl:((List.replicate n [AV.val (.slice none 0 0)]).set k [.dat false 6 (f.map attrN)]).length=((firstK n k f).map fun x=>[attrsV x]).length:=by simp[firstK_len]
 refine dat_imp hl (fun b o hr=>relR_imp _ _ o hl (fun i x y hx hy=>?_) hr) h
 rw[List.getElem?_map] at hy
 have hi:i < n:=by
  have:=(List.getElem?_eq_some_iff.1 hx).1
  simpa using this
 have hf:(firstK n k f)[i]? =some ((firstK n k f).getD i []):=by
  rw[List.getD_eq_getElem?_getD,List.getElem?_eq_getElem (by rw[firstK_len];exact hi)];rfl
 rw[hf,firstK_get] at hy
 rw[List.getElem?_set] at hx
 by_cases hk:k=i
 ·subst hk
  rw[if_pos ⟨rfl,hi⟩] at hy
  rw[if_pos rfl,if_pos (by simpa using hi)] at hx
  cases hx
  cases hy
  exact ⟨rfl,fun o ⟨⟨v,h1,h2,h3⟩,h4⟩ => ⟨⟨v,h1,h2,dat_imp (by simp) (attrN_rel hf0) h3⟩,h4⟩⟩
 ·rw[if_neg (fun e=>hk e.1.symm)] at hy
  rw[if_neg hk,List.getElem?_replicate,if_pos hi] at hx
  cases hx
  cases hy
  exact ⟨rfl,fun o ⟨⟨v,h1,h2,h3⟩,h4⟩ => ⟨⟨v,h1,h2,nil_dat h3⟩,h4⟩⟩
theorem turn_rep {g:AV→AV} [StillN g] {n k:Nat} {r:List AV}:turnR g ((List.replicate n [.val (.slice none 0 0)]).set k r)=(List.replicate n [.val (.slice none 0 0)]).set k (turnL g r):=by
 have h1:∀(l:List (List AV)) (k:Nat),turnR g (l.set k r)=(turnR g l).set k (turnL g r):=by
  intro l
  induction l with
  |nil=>intro k;rfl
  |cons a l ih=>intro k;cases k<;>simp[turnR,ih]
 rw[h1]
 congr 1
 induction n with
 |zero=>rfl
 |succ n ih=>simp only[List.replicate_succ,turnR,turnL,AV.turn,StillN.n,ih]
theorem fit_rep {p:AV→Prop} [StillP p] {n k:Nat} {r:List AV} (h:fitL p r):fitR p ((List.replicate n [.val (.slice none 0 0)]).set k r):=by
 refine fitR_set ?_ h
 induction n with
 |zero=>trivial
 |succ n ih=>exact ⟨⟨fit_v,trivial⟩,ih⟩
def rngTable (t:TableD):Prop:=(∀o∈t.ops,(0≤o.n∧o.n < 18446744073709551616)∧(-9223372036854775808≤o.m∧o.m≤9223372036854775807)∧0≤o.file.mtime∧o.file.mtime < 18446744073709551616)∧∀f∈t.files,0≤f.mtime∧f.mtime < 18446744073709551616
theorem fitR_row {p:AV→Prop} [StillP p] (l:List RowD):fitR p (rowsR l)=True:=eq_true (fitR_map (g:=rowC) (fun b=>by simp only[rowC,intV,u64V,booV,strV,fitL];exact ⟨fit_v,fit_v,fit_v,fit_v,fit_v,fit_v,fit_v,fit_v,fit_v,fit_v,fit_v,fit_v,fit_v,fit_v,fit_v,trivial⟩) l)
theorem fitR_str {p:AV→Prop} [StillP p] (l:List Bytes):fitR p (l.map fun s=>[AV.val (.string ⟨s.toArray⟩)])=True:=eq_true (fitR_map (g:=fun s=>[AV.val (.string ⟨s.toArray⟩)]) (fun b=> ⟨fit_v,trivial⟩) l)
attribute [go_sem] fitR_row fitR_str
section
variable {G:Nat→AV} {g:GData}
theorem f14k_ok {l:LayoutD} {spans:List SpanD} {units:List UnitD} {k:Nat} {f:List AttrD} {tx:Bytes} (txv:AV) (htx:∀M u,txv.rel M u→(bytesV tx).rel M u) (hA:AllIn l spans units) (hf:∀u,FirstOK u f) (hf0:∀a∈f,a.b=[]) (hl:tx.length≤1000000):
  Fulfils Tryz.prog G 14 [.agg (layoutC l),spansV spans,unitsV units,.dat false 1 ((List.replicate units.length [.val (.slice none 0 0)]).set k [.dat false 6 (f.map attrN)]),txv] []
  (retP (.tup [.agg (sectC (spannedS l spans units (firstK units.length k f) tx)),foundsV (spN l spans units (firstK units.length k f) tx units.length).found])):=by
 have hn:=hA.good.len
 have hz:=hA.size
 have hP:=hA.pack (first:=firstK units.length k f) (tx:=tx) (fun i _=>firstK_ok hf i _) hl
 refine (f14_ok l spans units (firstK units.length k f) tx hA.ver (by omega) (by omega) hA.good.same (firstK_len ..) (fun x hx=>(hA.span hx).1) (fun u hu=>?_) (fun f' hf2=>?_) (fun u hu x hx=>?_) hl fun i hi=>(hP.w i hi).ok).argsOf fun M vs h=>?_
 ·have:=(hA.unit hu).2.len;omega
 ·have h3:f.length≤10:=by
   have:=(hf ⟨0,false,0,[]⟩).len;omega
  unfold firstK at hf2
  rcases List.mem_or_eq_of_mem_set hf2 with h|h
  ·rw[(List.mem_replicate.1 h).2];simp
  ·rw[h];exact h3
 ·obtain ⟨i,hi⟩ :=List.getElem?_of_mem hx
  have:=((hA.unit hu).2.node i x hi).len;omega
 ·obtain ⟨v1,_,rfl,a1,v2,_,rfl,a2,v3,_,rfl,a3,v4,_,rfl,a4,v5,_,rfl,a5,a6⟩ :=h
  exact ⟨v1,_,rfl,a1,v2,_,rfl,a2,v3,_,rfl,a3,v4,_,rfl,first_rel hf0 a4,v5,_,rfl,htx M v5 a5,a6⟩
end
end Go.Proofs.YtbkfdnkeelmloaaGreatDoor
