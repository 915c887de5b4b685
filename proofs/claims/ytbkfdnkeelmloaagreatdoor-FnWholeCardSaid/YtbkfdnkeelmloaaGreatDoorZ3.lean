/- Part 3 of the proof: Am10 Am11 Am12 Am13. -/
import Derived.Lib.AppendStr
import Derived.Lib.ConvBytes
import Derived.Test.YtbkfdnkeelmloaaGreatDoorZ2
set_option linter.unusedVariables false
set_option linter.unusedSimpArgs false
namespace Go.AM
open Go
theorem relL_flat_replicate {M:Mem} {zs:List Value} (h:zs.all Value.oneCell'=true):∀n,relL M (List.replicate n (zerosA zs)).flatten (List.replicate n zs).flatten
 |0=>by simp[relL]
 |n+1=>by
  simp only[List.replicate_succ,List.flatten_cons]
  exact relL_append (zeros_rel h) (relL_flat_replicate h n)
theorem range_zeros (zs:List Value) (sz:Nat) (hz:zs.length=sz) (hp:0 < sz):∀n,(List.range (n * sz)).map (fun i=>zs.toArray[i % zs.toArray.size]!)=(List.replicate n zs).flatten
 |0=>by simp
 |n+1=>by
  rw[Nat.add_mul,Nat.one_mul,Nat.add_comm,List.range_add,List.map_append,List.map_map,List.replicate_succ,List.flatten_cons]
  congr 1
  ·apply List.ext_getElem?
   intro j
   by_cases hj:j < sz
   ·have:j % sz=j:=Nat.mod_eq_of_lt hj
    simp[hz,hj,this]
   ·simp[hz,hj]
  ·rw[←range_zeros zs sz hz hp n]
   apply List.map_congr_left
   intro i _
   simp[hz,Nat.add_mod_left]
section
variable {P:Program} {w:World} {M:Mem}
theorem run_append_z (t u ty e:TypeId) (i:TypeInfo) (z:Value) (du:TypeDesc) (hu:P.underlying t=some (.slice e)) (hdu:P.underlying u=some du) (hd2:du= .slice e∨du= .string) (hi:P.info? e=some i) (hz:i.zero=some z)
  (hzs:z.cells.size=i.size) (hsz:0 < i.size) (hsl:∀z0,slackZ e=some z0→z.cells= #[z0])
  (v:Value) (n:Nat) (xs:List Value) (hown:ownsZ w e i.size v n xs) (src:Value) (m:Nat) (news:List Value) (hl:news.length=m * i.size) (hlen:∀w',(Builtin.lenOf src).run P w'= .ok m w')
  (hfc:∀w',w'=w∨w'=w.drew→(Builtin.firstCells i.size m src).run P w'= .ok news.toArray w') (h1:∀u∈news,u.oneCell'=true) (h63:n+m≤maxLen) (hbytes:(n+m) * i.bytes≤140737488355328):
  ∃v' w',(Builtin.append_ #[t,u] ty #[v,src]).run P w= .ok v' w'∧ownsZ w' e i.size v' (n+m) (xs++news)∧w.grownBy w' v.ownBlock∧(v'.ownBlock=v.ownBlock∨v'.ownBlock=some w.heap.size):=by
 have hsmall:n+m≤9223372036854775807:=by simp only[maxLen] at h63;omega
 have hlen2:(xs++news).length=(n+m) * i.size:=by rw[List.length_append,hown.1,hl,Nat.add_mul]
 have hfw:=hfc w (.inl rfl)
 have hfd:=hfc w.drew (.inr rfl)
 have hint:∀w',((do pure ((←underlying u) matches .int _):Sem Bool)).run P w'= .ok false w':=by
  intro w'
  rcases hd2 with rfl|rfl<;>simp[run_underlying' hdu]
 have grown:∀(old:Nat),old < n+m→∀(row:Option Nat),
   ownsZ (w.drew.alloc (.cells (xs.toArray++news.toArray++Builtin.zeroCells z.cells (grownCap w (n+m) old e - (n+m))) e)) e i.size
    (.slice (some ⟨w.heap.size,0,none⟩) (n+m) (grownCap w (n+m) old e)) (n+m) (xs++news)∧
   w.grownBy (w.drew.alloc (.cells (xs.toArray++news.toArray++Builtin.zeroCells z.cells (grownCap w (n+m) old e - (n+m))) e)) row:=by
  intro old ho row
  have hge:=grownCap_ge w (n+m) old e
  have hcm:grownCap w (n+m) old e≤maxLen:=grownCap_le_maxLen w (n+m) old e h63
  refine ⟨⟨hlen2,.inr ⟨w.heap.size,_,_,(0,0),rfl,heap_alloc_new w.drew _,fun j _=>by simp,hge,hcm, ?_, ?_,fun z0 h0 j hj hj2=>?_⟩⟩, ⟨rfl,rfl,rfl,by simp,fun k hk _=>heap_alloc_old w.drew _ hk⟩⟩
  ·simp only[Array.size_append,List.size_toArray,size_zeroCells,hzs,hown.1,hl,←Nat.add_mul]
   congr 1
   omega
  ·simp only[Array.toList_append,List.append_assoc]
   rw[←List.append_assoc,←hlen2]
   exact List.take_left
  ·have hzc:=hsl z0 h0
   have hs1:(xs.toArray++news.toArray).size=(n+m) * i.size:=by simpa using hlen2
   rw[Array.getElem?_append_right (by rw[hs1];exact hj)]
   have hlt:j - (xs.toArray++news.toArray).size < (Builtin.zeroCells z.cells (grownCap w (n+m) old e - (n+m))).size:=by
    rw[Array.size_append] at hj2
    omega
   rw[Array.getElem?_eq_getElem hlt]
   simp[Builtin.zeroCells,hzc,Nat.mod_one]
 rcases hown.2 with ⟨rfl,rfl⟩ | ⟨g,cap,cur,fz,rfl,hg,hfz,hnc,hcm,hcs,htake,hslk⟩
 ·have hx:xs=[]:=List.eq_nil_of_length_eq_zero (by simpa using hown.1)
  subst hx
  by_cases hm:m=0
  ·subst hm
   have hn:news=[]:=List.eq_nil_of_length_eq_zero (by simpa using hl)
   subst hn
   refine ⟨.slice none 0 0,w, ?_,ownsZ_nil w e i.size, ⟨rfl,rfl,rfl,Nat.le_refl _,fun _ _ _=>rfl⟩,Or.inl rfl⟩
   rcases hd2 with rfl|rfl<;>simp[Builtin.append_,run_underlying' hu,run_underlying' hdu,run_sizeOf' hi,hlen,hfw]
  ·have hgr:=grown 0 (by omega) (Value.ownBlock (.slice none 0 0))
   simp only[Nat.zero_add,List.nil_append,Array.empty_append] at hgr hbytes hsmall ⊢
   have h63':¬(9223372036854775807 < (m:Int)):=by omega
   have h48':¬(281474976710656 < Builtin.nextslicecap m 0 * i.bytes):=by rw[nextslicecap_zero (by omega)];omega
   refine ⟨.slice (some ⟨w.heap.size,0,none⟩) m (grownCap w m 0 e),_, ?_,hgr.1,hgr.2,Or.inr rfl⟩
   rcases hd2 with rfl|rfl<;>simp[Builtin.append_,run_underlying' hu,run_underlying' hdu,run_sizeOf' hi,run_typeInfo' hi,zeroValue,hz,hlen,hm,h63',h48',Question.forced,run_firstCells_none,hfd,newRow,grownCap]
 ·by_cases hroom:n+m≤cap
  ·have hfit:n * i.size+news.length≤cur.size:=by rw[hl,hcs,←Nat.add_mul];exact Nat.mul_le_mul_right _ hroom
   have hst:=run_storeCells_z P g (n * i.size) e fz news 0 cur w hg hfz (by simpa using hfit) h1
   simp only[Nat.add_zero] at hst
   have hcl:cur.toList.length=cur.size:=Array.length_toList
   refine ⟨.slice (some ⟨g,0,none⟩) (n+m) cap,w.setRow g (cur.toList.take (n * i.size)++news++cur.toList.drop (n * i.size+news.length)).toArray, ?_, ⟨hlen2,.inr ⟨g,cap,_,fz,rfl,setRow_heap w g cur _ e _ hg,fun j hj=>hfz j (by simp at hj;omega),hroom,hcm, ?_, ?_,fun z0 h0 j hj hj2=>?_⟩⟩, ⟨rfl,rfl,rfl,by simp[World.setRow],fun k _ hk=>setRow_other w g k _ (fun e=>hk (by simp[Value.ownBlock,e]))⟩,Or.inl rfl⟩
   ·rcases hd2 with rfl|rfl<;>simp[Builtin.append_,run_underlying' hu,run_underlying' hdu,run_sizeOf' hi,hlen,hroom,hfw,addr_add,hst]
   ·simp only[List.size_toArray,List.length_append,List.length_take,List.length_drop,Array.length_toList]
    omega
   ·rw[List.toList_toArray,htake,←hlen2]
    exact List.take_left
   ·rw[List.getElem?_toArray,seg_get cur.toList news _ (by omega),if_neg (by rw[hl,←Nat.add_mul];omega),Array.getElem?_toList]
    refine hslk z0 h0 j ?_ (by simp at hj2;omega)
    have:=Nat.mul_le_mul_right i.size (Nat.le_add_right n m)
    omega
  ·have holds:∀(j:Nat) u,xs[j]? =some u→w.cell? ((⟨g,0,none⟩ :Addr).add j)=some u:=hown.cells (g:=g) rfl
   have hgr:=grown cap (by omega) (Value.ownBlock (.slice (some ⟨g,0,none⟩) n cap))
   have h63':¬(9223372036854775807 < ((n:Int)+(m:Int))):=by omega
   have h48':¬(281474976710656 < Builtin.nextslicecap (n+m) cap * i.bytes):=by have:=growslice_fits (need:=n+m) (old:=cap) (bytes:=i.bytes) (by omega) hbytes;omega
   have hfo:=run_firstCells_some (P:=P) w.drew i.size n ⟨g,0,none⟩ n cap xs hown.1 (by simpa using holds)
   refine ⟨.slice (some ⟨w.heap.size,0,none⟩) (n+m) (grownCap w (n+m) cap e),_, ?_,hgr.1,hgr.2,Or.inr rfl⟩
   rcases hd2 with rfl|rfl<;>simp[Builtin.append_,run_underlying' hu,run_underlying' hdu,run_sizeOf' hi,run_typeInfo' hi,zeroValue,hz,hlen,hroom,h63',h48',Question.forced,hfd,hfo,newRow,grownCap]<;>(congr 2;apply Array.ext';simp)
theorem run_append_zz (t u ty e:TypeId) (i:TypeInfo) (z:Value) (hu:P.underlying t=some (.slice e)) (hdu:P.underlying u=some (.int .i64)) (hi:P.info? e=some i) (hz:i.zero=some z)
  (hzs:z.cells.size=i.size) (hsz:0 < i.size) (hsl:∀z0,slackZ e=some z0→z.cells= #[z0])
  (v:Value) (n:Nat) (xs:List Value) (hown:ownsZ w e i.size v n xs) (m:Nat) (hm0:0 < m) (news:List Value) (hnews:news=(Builtin.zeroCells z.cells m).toList) (h1:∀u∈news,u.oneCell'=true) (h63:n+m≤maxLen) (hbytes:(n+m) * i.bytes≤140737488355328):
  ∃v' w',(Builtin.append_ #[t,u] ty #[v,.int .i64 m]).run P w= .ok v' w'∧ownsZ w' e i.size v' (n+m) (xs++news)∧w.grownBy w' v.ownBlock∧(v'.ownBlock=v.ownBlock∨v'.ownBlock=some w.heap.size):=by
 have hsmall:n+m≤9223372036854775807:=by simp only[maxLen] at h63;omega
 have hl:news.length=m * i.size:=by rw[hnews,Array.length_toList,size_zeroCells,hzs]
 have hlen2:(xs++news).length=(n+m) * i.size:=by rw[List.length_append,hown.1,hl,Nat.add_mul]
 have hmz:m * i.size≠0:=Nat.ne_of_gt (Nat.mul_pos hm0 hsz)
 have hm1:m≠0:=by omega
 have hs1:i.size≠0:=by omega
 have hwm:IntKind.i64.wrap (m:Int)=m:=by simp[IntKind.wrap,IntKind.bits,IntKind.signed];omega
 have hng:¬((m:Int) < 0):=by omega
 have hmb:m * i.bytes≤(n+m) * i.bytes:=Nat.mul_le_mul_right _ (by omega)
 have hby:¬(281474976710656 < (m:Int) * (i.bytes:Int)):=by
  have:((m * i.bytes:Nat):Int)≤281474976710656:=by omega
  rw[Int.natCast_mul] at this
  omega
 have grown:∀(old:Nat),old < n+m→∀(row:Option Nat),
   ownsZ (w.drew.alloc (.cells (xs.toArray++news.toArray++Builtin.zeroCells z.cells (grownCap w (n+m) old e - (n+m))) e)) e i.size
    (.slice (some ⟨w.heap.size,0,none⟩) (n+m) (grownCap w (n+m) old e)) (n+m) (xs++news)∧
   w.grownBy (w.drew.alloc (.cells (xs.toArray++news.toArray++Builtin.zeroCells z.cells (grownCap w (n+m) old e - (n+m))) e)) row:=by
  intro old ho row
  have hge:=grownCap_ge w (n+m) old e
  have hcm:grownCap w (n+m) old e≤maxLen:=grownCap_le_maxLen w (n+m) old e h63
  refine ⟨⟨hlen2,.inr ⟨w.heap.size,_,_,(0,0),rfl,heap_alloc_new w.drew _,fun j _=>by simp,hge,hcm, ?_, ?_,fun z0 h0 j hj hj2=>?_⟩⟩, ⟨rfl,rfl,rfl,by simp,fun k hk _=>heap_alloc_old w.drew _ hk⟩⟩
  ·simp only[Array.size_append,List.size_toArray,size_zeroCells,hzs,hown.1,hl,←Nat.add_mul]
   congr 1
   omega
  ·simp only[Array.toList_append,List.append_assoc]
   rw[←List.append_assoc,←hlen2]
   exact List.take_left
  ·have hzc:=hsl z0 h0
   have hs1:(xs.toArray++news.toArray).size=(n+m) * i.size:=by simpa using hlen2
   rw[Array.getElem?_append_right (by rw[hs1];exact hj)]
   have hlt:j - (xs.toArray++news.toArray).size < (Builtin.zeroCells z.cells (grownCap w (n+m) old e - (n+m))).size:=by
    rw[Array.size_append] at hj2
    omega
   rw[Array.getElem?_eq_getElem hlt]
   simp[Builtin.zeroCells,hzc,Nat.mod_one]
 rcases hown.2 with ⟨rfl,rfl⟩ | ⟨g,cap,cur,fz,rfl,hg,hfz,hnc,hcm,hcs,htake,hslk⟩
 ·have hx:xs=[]:=List.eq_nil_of_length_eq_zero (by simpa using hown.1)
  subst hx
  have hgr:=grown 0 (by omega) (Value.ownBlock (.slice none 0 0))
  simp only[Nat.zero_add,List.nil_append,Array.empty_append] at hgr hbytes hsmall ⊢
  have h63':¬(9223372036854775807 < (m:Int)):=by omega
  have h48':¬(281474976710656 < Builtin.nextslicecap m 0 * i.bytes):=by rw[nextslicecap_zero (by omega)];omega
  refine ⟨.slice (some ⟨w.heap.size,0,none⟩) m (grownCap w m 0 e),_, ?_,hgr.1,hgr.2,Or.inr rfl⟩
  simp[Builtin.append_,run_underlying' hu,run_underlying' hdu,run_sizeOf' hi,run_typeInfo' hi,asInt,asIntOf,hwm,hng,hby,hm1,hs1,hmz,h63',h48',Question.forced,run_firstCells_none,newRow,grownCap,zeroValue,hz,hnews]
 ·by_cases hroom:n+m≤cap
  ·have hfit:n * i.size+news.length≤cur.size:=by rw[hl,hcs,←Nat.add_mul];exact Nat.mul_le_mul_right _ hroom
   have hst:=run_storeCells_z P g (n * i.size) e fz news 0 cur w hg hfz (by simpa using hfit) h1
   simp only[Nat.add_zero] at hst
   have hcl:cur.toList.length=cur.size:=Array.length_toList
   refine ⟨.slice (some ⟨g,0,none⟩) (n+m) cap,w.setRow g (cur.toList.take (n * i.size)++news++cur.toList.drop (n * i.size+news.length)).toArray, ?_, ⟨hlen2,.inr ⟨g,cap,_,fz,rfl,setRow_heap w g cur _ e _ hg,fun j hj=>hfz j (by simp at hj;omega),hroom,hcm, ?_, ?_,fun z0 h0 j hj hj2=>?_⟩⟩, ⟨rfl,rfl,rfl,by simp[World.setRow],fun k _ hk=>setRow_other w g k _ (fun e=>hk (by simp[Value.ownBlock,e]))⟩,Or.inl rfl⟩
   ·simp[Builtin.append_,run_underlying' hu,run_underlying' hdu,run_sizeOf' hi,run_typeInfo' hi,asInt,asIntOf,hwm,hng,hby,hm1,hs1,hmz,hroom,addr_add,zeroValue,hz];rw[hnews] at hst;simp[hst,hnews]
   ·simp only[List.size_toArray,List.length_append,List.length_take,List.length_drop,Array.length_toList]
    omega
   ·rw[List.toList_toArray,htake,←hlen2]
    exact List.take_left
   ·rw[List.getElem?_toArray,seg_get cur.toList news _ (by omega),if_neg (by rw[hl,←Nat.add_mul];omega),Array.getElem?_toList]
    refine hslk z0 h0 j ?_ (by simp at hj2;omega)
    have:=Nat.mul_le_mul_right i.size (Nat.le_add_right n m)
    omega
  ·have holds:∀(j:Nat) u,xs[j]? =some u→w.cell? ((⟨g,0,none⟩ :Addr).add j)=some u:=hown.cells (g:=g) rfl
   have hgr:=grown cap (by omega) (Value.ownBlock (.slice (some ⟨g,0,none⟩) n cap))
   have h63':¬(9223372036854775807 < ((n:Int)+(m:Int))):=by omega
   have h48':¬(281474976710656 < Builtin.nextslicecap (n+m) cap * i.bytes):=by have:=growslice_fits (need:=n+m) (old:=cap) (bytes:=i.bytes) (by omega) hbytes;omega
   have hfo:=run_firstCells_some (P:=P) w.drew i.size n ⟨g,0,none⟩ n cap xs hown.1 (by simpa using holds)
   refine ⟨.slice (some ⟨w.heap.size,0,none⟩) (n+m) (grownCap w (n+m) cap e),_, ?_,hgr.1,hgr.2,Or.inr rfl⟩
   simp[Builtin.append_,run_underlying' hu,run_underlying' hdu,run_sizeOf' hi,run_typeInfo' hi,asInt,asIntOf,hwm,hng,hby,hm1,hs1,hmz,hroom,h63',h48',Question.forced,hfo,newRow,grownCap,zeroValue,hz,hnews]
theorem run_mapM {α β:Type} (f:α→Sem β) (g:α→β):∀(l:List α),(∀x∈l,(f x).run P w= .ok (g x) w)→(l.mapM f).run P w= .ok (l.map g) w
 | [],_=>by simp
 |x :: l,h=>by
  have h1:=h x (by simp)
  have h2:=run_mapM f g l (fun y hy=>h y (by simp[hy]))
  simp[List.mapM_cons,h1,h2]
theorem s_build {t:TypeId} {parts:Array (Nat×Operand)} {e:Operand→AV} {ρ:Operand→Value} (he:∀p∈parts.toList,(e p.2).rel M (ρ p.2)) (h:(actBuild P t (parts.toList.map fun p=>(p.1,e p.2))).pre):
  YV M (actBuild P t (parts.toList.map fun p=>(p.1,e p.2))) ((Instr.build t (parts.map fun (i,x)=>(i,ρ x))).run P w) w:=by
 unfold actBuild at h ⊢
 have hto:(parts.map fun (x:Nat×Operand)=>(x.1,ρ x.2)).toList=parts.toList.map fun p=>(p.1,ρ p.2):=by simp
 have e3:(fun (x:Nat×Operand)=>match x with|(i,x)=>(i,ρ x))=fun x=>(x.1,ρ x.2):=rfl
 have hparts:∀(k:Nat) (a:Nat×AV) (v:Nat×Value),(parts.toList.map fun p=>(p.1,e p.2))[k]? =some a→(parts.toList.map fun p=>(p.1,ρ p.2))[k]? =some v→a.2.rel M v.2:=by
  intro k a v ha hv
  rw[List.getElem?_map] at ha hv
  cases hk:parts.toList[k]? with
  |none=>simp[hk] at ha
  |some q=>
   simp only[hk,Option.map_some,Option.some.injEq] at ha hv
   subst ha;subst hv
   exact he q (List.mem_of_getElem? hk)
 split at h
 ·rename_i zs hz
  obtain ⟨i,z,hi,hz0,rfl⟩ :=zeroR_spec hz
  have hz1:(zeroValue t).run P w= .ok z w:=by simp[zeroValue,run_typeInfo' hi,hz0]
  split at h
  ·rename_i h2
   split at h
   ·rename_i p cs hf
    obtain ⟨hp,h1⟩ :=h
    unfold structOK at h2
    split at h2
    ·rename_i fs hu
     have hmap:(fs.mapM fun f:Field=>(do pure (f.offset,←sizeOf f.type):Sem (Nat×Nat))).run P w= .ok (fs.toList.map fun f=>(f.offset,((P.info? f.type).map (·.size)).getD 0)).toArray w:=by
      rw[Array.mapM_eq_mapM_toList]
      have:=run_mapM (P:=P) (w:=w) (fun f:Field=>(do pure (f.offset,←sizeOf f.type):Sem (Nat×Nat))) (fun f=>(f.offset,((P.info? f.type).map (·.size)).getD 0)) fs.toList (fun f hf=>by
       have:=List.all_eq_true.1 h2 f hf
       obtain ⟨j,hj⟩ :=Option.isSome_iff_exists.1 this
       simp[run_sizeOf' hj,hj])
      rw[Sem.run_map,this]
      rfl
     have hplace:∀k,fieldR P t k=((fs.toList.map fun f=>(f.offset,((P.info? f.type).map (·.size)).getD 0)).toArray)[k]?:=by
      intro k
      unfold fieldR
      rw[hu]
      simp only[List.getElem?_toArray,List.getElem?_map,Array.getElem?_toList]
      cases hk:fs[k]? with
      |none=>simp
      |some f=>
       have:=List.all_eq_true.1 h2 f (by rw[Array.mem_toList_iff];exact Array.mem_of_getElem? hk)
       obtain ⟨j,hj⟩ :=Option.isSome_iff_exists.1 this
       simp[hj]
     have hplace':fieldR P t=(fun k=>((fs.toList.map fun f=>(f.offset,((P.info? f.type).map (·.size)).getD 0)).toArray)[k]?):=funext hplace
     rw[hplace'] at hf
     obtain ⟨out,ho,hr⟩ :=fillA_run (vals:=parts.toList.map fun p=>(p.1,ρ p.2)) hf hp (zeros_rel h1) (by simp) hparts
     refine ⟨_,_,_,rfl, ?_, ⟨out.toList,rfl,hr⟩⟩
     simp only[Instr.build,Sem.run_bind,hz1,Result.andThen_ok,run_underlying' hu]
     erw [hmap]
     simp only[Result.andThen_ok]
     rw[e3,hto,ho]
     simp
    ·cases h2
   ·exact h.elim
  ·split at h
   ·rename_i len sz ha
    split at h
    ·rename_i p cs hf
     obtain ⟨hp,h1⟩ :=h
     obtain ⟨el,ei,hu,hei,rfl⟩ :=arrR_spec ha
     obtain ⟨out,ho,hr⟩ :=fillA_run (vals:=parts.toList.map fun p=>(p.1,ρ p.2)) hf hp (zeros_rel h1) (by simp) hparts
     refine ⟨_,_,_,rfl, ?_, ⟨out.toList,rfl,hr⟩⟩
     simp only[Instr.build,Sem.run_bind,hz1,Result.andThen_ok,run_underlying' hu,run_sizeOf' hei]
     rw[e3,hto,ho]
     simp
    ·exact h.elim
   ·exact h.elim
 ·exact h.elim
theorem fillRows_run {sz:Nat}:∀{parts:List (Nat×AV)} {vals:List (Nat×Value)} {rows:List (List AV)} {cells:Array Value},(fillRows sz rows parts).1→(∀r∈rows,r.length=sz)→
  relL M rows.flatten cells.toList→(vals.map (·.1)=parts.map (·.1))→(∀(i:Nat) (a:Nat×AV) (v:Nat×Value),parts[i]? =some a→vals[i]? =some v→a.2.rel M v.2)→
  ∃out,Instr.fill (fun i=>some (i * sz,sz)) cells vals=some out∧relL M (fillRows sz rows parts).2.flatten out.toList∧(∀r∈(fillRows sz rows parts).2,r.length=sz)∧(fillRows sz rows parts).2.length=rows.length
 | [],vals,rows,cells,h,hl,hc,hm,hr=>by
  have:vals=[]:=by simpa using hm
  subst this
  exact ⟨cells,rfl,hc,hl,rfl⟩
 |(i,a) :: parts,vals,rows,cells,h,hl,hc,hm,hr=>by
  match vals,hm with
  |(j,v) :: vals,hm0=>
   simp only[List.map_cons,List.cons.injEq] at hm0
   obtain ⟨hj,hm2⟩ :=hm0
   subst hj
   simp only[fillRows] at h
   obtain ⟨⟨h1,h2,h3⟩,h4⟩ :=h
   have hra:a.rel M v:=hr 0 (j,a) (j,v) rfl rfl
   have hcv:=cellsA_rel h3 hra
   have hlen:=relL_length hcv
   have hlc:=relL_length hc
   have hrow:(rows.getD j []).length=sz:=hl _ (by rw[List.getD_eq_getElem?_getD,List.getElem?_eq_getElem h2];exact List.getElem_mem h2)
   have hset:=relL_setAt (j * sz) hc hcv
   rw[←fill_cells] at hset
   have hflat:(rows.set j (cellsA a)).flatten=setAt rows.flatten (j * sz) (cellsA a):=by
    have:=flatten_setAt (cellsA a) rows sz j 0 hl h2 (by omega)
    rw[setAt_eq _ _ _ (by omega)] at this
    have hd:(rows.getD j []).drop (cellsA a).length=[]:=List.drop_eq_nil_of_le (by omega)
    rw[Nat.zero_add,hd] at this
    simpa using this
   rw[←hflat] at hset
   have hl':∀r∈rows.set j (cellsA a),r.length=sz:=by
    intro r hr'
    rcases List.mem_or_eq_of_mem_set hr' with h|h
    ·exact hl r h
    ·subst h;exact h1
   obtain ⟨out,ho,hro,hrl,hlen2⟩ :=fillRows_run h4 hl' hset hm2 (fun k a' v' ha hv=>hr (k+1) a' v' (by simpa using ha) (by simpa using hv))
   refine ⟨out, ?_,hro,hrl,by simpa [fillRows] using hlen2⟩
   unfold Instr.fill
   simp only
   have hal:v.cells.toList.length=v.cells.size:=Array.length_toList
   have hal2:cells.toList.length=cells.size:=Array.length_toList
   have hfl:rows.flatten.length=rows.length * sz:=by
    have:∀(l:List (List AV)),(∀r∈l,r.length=sz)→l.flatten.length=l.length * sz:=by
     intro l
     induction l with
     |nil=>simp
     |cons x l ih=>
      intro hx
      have:=ih fun r hr=>hx r (by simp[hr])
      have hx0:=hx x (by simp)
      simp only[List.flatten_cons,List.length_append,this,List.length_cons,Nat.add_mul]
      omega
    exact this rows hl
   have hpos:j * sz+sz≤rows.length * sz:=by
    have:=Nat.mul_le_mul_right sz (Nat.succ_le_of_lt h2)
    rw[Nat.succ_mul] at this
    exact this
   have e1:v.cells.size=sz:=by omega
   have e2:j * sz+v.cells.size≤cells.size:=by omega
   rw[if_neg (by simp[e1];omega)]
   exact ho
end
open Go
section
variable {E:Env} {S:St} {M:Mem} {a:Act} {w:World}
def YS (E:Env) (S:St) (M:Mem) (a:Act) (r:ActR) (res:Result Value):Prop:=
 ∃v w' x,res= .ok v w'∧r.out x∧(r.res x).rel M v∧Sat E ⟨S.ρ,r.upd x++S.H⟩ M a w'
theorem YV.ys {r:ActR} {res:Result Value} (hS:Sat E S M a w) (h:YV M r res w):YS E S M a r res:=by
 obtain ⟨p,x,v,rfl,h1,h2⟩ :=h
 exact ⟨v,w,default,h1,trivial,h2,by simpa [ActR.pure] using hS⟩
theorem s_alloc {d t:Nat} (hS:Sat E S M a w) (h:(actAlloc E.P d t).pre):YS E S M a (actAlloc E.P d t) ((Instr.alloc t true (.tuple #[])).run E.P w):=by
 unfold actAlloc at h ⊢
 split at h
 ·rename_i zs hz
  obtain ⟨i,z,hi,hz0,rfl⟩ :=zeroR_spec hz
  refine ⟨.pointer (some ⟨w.heap.size,0,none⟩),w.alloc (.cells z.cells t), ⟨w.heap.size,undef,fun _=>.top,[],[]⟩, ?_,trivial,rfl, ?_⟩
  ·simp[Instr.alloc,zeroValue,run_typeInfo' hi,hz0,newVar,newRow]
  ·refine hS.alloc d _ _ rfl ⟨z.cells,t,z.cells.toList,heap_alloc_new w _,zeros_rel h,fun j v hj=>by simpa using hj⟩
 ·exact h.elim
theorem s_box {d t:Nat} {x:AV} {v:Value} (hS:Sat E S M a w) (hx:x.rel M v) (h:(actBox d x).pre):YS E S M a (actBox d x) ((Instr.box t v).run E.P w):=by
 unfold actBox at h ⊢
 have hc:=cellsA_rel h hx
 refine ⟨.pointer (some ⟨w.heap.size,0,none⟩),w.alloc (.cells v.cells t), ⟨w.heap.size,undef,fun _=>.top,[],[]⟩, ?_,trivial,rfl, ?_⟩
 ·simp[Instr.box,newVar,newRow]
 ·refine hS.alloc d _ _ rfl ⟨v.cells,t,v.cells.toList,heap_alloc_new w _,hc,fun j u hj=>by simpa using hj⟩
theorem zeroRow_spec {P:Program} {t e sz bytes:Nat} (h:elemR P t=some (e,sz,bytes)) (h1:(zeroRow P e).all oneA=true):∃i z,P.underlying t=some (.slice e)∧P.info? e=some i∧i.zero=some z∧z.cells.size=sz∧i.size=sz∧i.bytes=bytes∧zeroRow P e=zerosA z.cells.toList∧z.cells.toList.all Value.oneCell'=true:=by
 obtain ⟨i,z,hu,hi,hz,hs,rfl,rfl⟩ :=elemR_spec h
 have hzr:zeroR P e=some z.cells.toList:=by simp[zeroR,hi,hz]
 have hrow:zeroRow P e=zerosA z.cells.toList:=by simp[zeroRow,hzr]
 refine ⟨i,z,hu,hi,hz,hs,rfl,rfl,hrow, ?_⟩
 rw[hrow] at h1
 simpa [zerosA,List.all_map,oneA] using h1
theorem made_arr {e sz:Nat} {cells:List Value} {rows:List (List AV)} {n:Nat} (hr:relL M rows.flatten cells) (hl:∀r∈rows,r.length=sz) (hn:rows.length=n) (hc:cells.length=n * sz) (hb:n≤big):
  (AObj.arr (.slice (some ⟨w.heap.size,0,none⟩) n n) e sz rows).rel M (w.alloc (.cells cells.toArray e)):=by
 have hbig:big=140737488355328:=rfl
 have hm:n≤maxLen:=by simp only[maxLen];omega
 refine ⟨cells, ⟨by rw[hc,hn],.inr ⟨w.heap.size,n,cells.toArray,(0,0),by rw[hn],heap_alloc_new w _,fun j _=>by simp,by rw[hn];exact Nat.le_refl _,hm,by simpa using hc, ?_,fun z0 _ j h1 h2=>by simp at h2;rw[hn] at h1;omega⟩⟩,hr,hl,by rw[hn];exact hb⟩
 simp only[List.toList_toArray]
 rw[hn]
 exact List.take_of_length_le (by omega)
theorem s_buildSlice {d t len:Nat} {parts:Array (Nat×Operand)} {e:Operand→AV} {ρ:Operand→Value} (hS:Sat E S M a w) (he:∀p∈parts.toList,(e p.2).rel M (ρ p.2)) (h:(actBuildSlice E.P d t len (parts.toList.map fun p=>(p.1,e p.2))).pre):
  YS E S M a (actBuildSlice E.P d t len (parts.toList.map fun p=>(p.1,e p.2))) ((Instr.buildSlice t len (parts.map fun (i,x)=>(i,ρ x))).run E.P w):=by
 unfold actBuildSlice at h ⊢
 split at h
 ·rename_i el sz bytes hel
  obtain ⟨hp,hlen,hsz,hone⟩ :=h
  obtain ⟨i,z,hu,hi,hz,hs,hsi,_,hrow,hall⟩ :=zeroRow_spec hel hone
  have hzl:z.cells.toList.length=sz:=by rw[Array.length_toList];exact hs
  have hrl:relL M (List.replicate len (zeroRow E.P el)).flatten (List.replicate len z.cells.toList).flatten:=by rw[hrow];exact relL_flat_replicate hall len
  have hcells:((Array.range (len * sz)).map (z.cells[·% z.cells.size]!)).toList=(List.replicate len z.cells.toList).flatten:=by
   have:=range_zeros z.cells.toList sz hzl hsz len
   simpa using this
  obtain ⟨out,ho,hro,hrlen,hlen2⟩ :=fillRows_run (vals:=parts.toList.map fun p=>(p.1,ρ p.2)) (cells:=(Array.range (len * sz)).map (z.cells[·% z.cells.size]!)) hp
   (fun r hr=>by rw[List.eq_of_mem_replicate hr,hrow];simp[zerosA,hs]) (by rw[hcells];exact hrl) (by simp) (fun k x v ha hv=>by
     rw[List.getElem?_map] at ha hv
     cases hk:parts.toList[k]? with
     |none=>simp[hk] at ha
     |some q=>
      simp only[hk,Option.map_some,Option.some.injEq] at ha hv
      subst ha;subst hv
      exact he q (List.mem_of_getElem? hk))
  have holen:=relL_length hro
  have hfl:∀(l:List (List AV)),(∀r∈l,r.length=sz)→l.flatten.length=l.length * sz:=by
   intro l
   induction l with
   |nil=>simp
   |cons x l ih=>
    intro hx
    have:=ih fun r hr=>hx r (by simp[hr])
    have hx0:=hx x (by simp)
    simp only[List.flatten_cons,List.length_append,this,List.length_cons,Nat.add_mul]
    omega
  rw[hfl _ hrlen,hlen2,List.length_replicate] at holen
  refine ⟨.slice (some ⟨w.heap.size,0,none⟩) len len,w.alloc (.cells out el), ⟨0,.slice (some ⟨w.heap.size,0,none⟩) len len,fun _=>.top,[],[]⟩, ?_,trivial, ⟨rfl,_,_,_,rfl⟩, ?_⟩
  ·have hto:(parts.map fun (x:Nat×Operand)=>(x.1,ρ x.2)).toList=parts.toList.map fun p=>(p.1,ρ p.2):=by simp
   have e3:(fun (x:Nat×Operand)=>match x with|(i,x)=>(i,ρ x))=fun x=>(x.1,ρ x.2):=rfl
   have hz1:(zeroValue el).run E.P w= .ok z w:=by simp[zeroValue,run_typeInfo' hi,hz]
   have hns:¬(2 ^ 24 < len * sz):=by omega
   by_cases h0:len * sz=0
   ·have hl0:len=0:=by
     rcases Nat.mul_eq_zero.1 h0 with h|h<;>omega
    subst hl0
    have hc0:((Array.range (0 * sz)).map (z.cells[·% z.cells.size]!))=(#[]:Array Value):=by simp
    rw[hc0] at ho
    have hd:Array.map (fun _=>(default:Value)) (Array.range 0)= #[]:=by simp[Array.range]
    simp[Instr.buildSlice,run_underlying' hu,run_sizeOf' hi,hsi,e3,newRow,hd,ho]
   ·simp only[Instr.buildSlice,Sem.run_bind,run_underlying' hu,Result.andThen_ok,run_sizeOf' hi,hsi,gt_iff_lt,if_neg hns,if_neg h0,hz1,e3,hto,ho,Sem.run_ite,Sem.run_pure]
    simp[newRow,hz1,h0,ho,hns]
  ·have hk:=made_arr (w:=w) (e:=el) hro hrlen (by rw[hlen2,List.length_replicate]) holen (by
    have:len≤len * sz:=Nat.le_mul_of_pos_right _ hsz
    have hbig:big=140737488355328:=rfl
    omega)
   rw[Array.toArray_toList] at hk
   exact hS.alloc d _ _ rfl hk
 ·exact h.elim
theorem s_makeSlice {d t:Nat} {l c:AV} {vl vc:Value} (hS:Sat E S M a w) (hl:l.rel M vl) (hc:c.rel M vc) (h:(actMakeSlice E.P d t l c).pre):YS E S M a (actMakeSlice E.P d t l c) ((Instr.makeSlice t vl vc).run E.P w):=by
 unfold actMakeSlice at h ⊢
 split at h
 ·rename_i e sz bytes k1 n k2 m hel
  obtain ⟨rfl,h0,hby,hsz,hb0,hone⟩ :=h
  cases hl;cases hc
  obtain ⟨i,z,hu,hi,hz,hs,hsi,rfl,hrow,hall⟩ :=zeroRow_spec hel hone
  have hbig:big=140737488355328:=rfl
  have hnb:n.toNat≤n.toNat * i.bytes:=Nat.le_mul_of_pos_right _ hb0
  have hb2:(i.bytes:Int) * n≤281474976710656:=by
   have:((n.toNat * i.bytes:Nat):Int)≤281474976710656:=by omega
   rw[Int.natCast_mul,Int.toNat_of_nonneg h0,Int.mul_comm] at this
   exact this
  have hrun:=run_make (P:=E.P) w t e i z hu hi hz k1 k2 n n h0 (Int.le_refl _) hb2 (by omega)
  rw[hsi] at hrun
  have hzl:z.cells.toList.length=sz:=by rw[Array.length_toList];exact hs
  have hcells:(madeCells z.cells (n.toNat * sz)).toList=(List.replicate n.toNat z.cells.toList).flatten:=by
   have:=range_zeros z.cells.toList sz hzl hsz n.toNat
   simpa [madeCells] using this
  refine ⟨_,_, ⟨0,.slice (some ⟨w.heap.size,0,none⟩) n.toNat n.toNat,fun _=>.top,[],[]⟩,hrun,trivial, ⟨rfl,_,_,_,rfl⟩, ?_⟩
  have hk:=made_arr (M:=M) (w:=w) (e:=e) (sz:=sz) (cells:=(madeCells z.cells (n.toNat * sz)).toList) (rows:=List.replicate n.toNat (zeroRow E.P e)) (n:=n.toNat) (by rw[hcells,hrow];exact relL_flat_replicate hall _)
   (fun r hr=>by rw[List.eq_of_mem_replicate hr,hrow];simp[zerosA,hs]) (by simp) (by simp[size_madeCells]) (by omega)
  rw[Array.toArray_toList] at hk
  exact hS.alloc d _ _ rfl hk
 ·exact h.elim
theorem slackP_spec {P:Program} {e:TypeId} {i:TypeInfo} {z:Value} (h:slackP P e) (hi:P.info? e=some i) (hz:i.zero=some z):∀z0,slackZ e=some z0→z.cells= #[z0]:=by
 intro z0 h0
 unfold slackP at h
 rw[h0] at h
 simp only[zeroR,hi,Option.bind_some,hz,Option.map_some,Option.some.injEq] at h
 apply Array.ext'
 simpa using h
theorem srcS_cells {P:Program} {w:World} {M:Mem} {H:List (Nat×Option AObj)} {a:AV} {v:Value} {p:Prop} {sz:Nat} {ys:List (List AV)} (hw:Mw M H w) (hr:a.rel M v) (h:srcS (getO H) a=some (p,sz,ys)) (hp:p):
  ∃nv,relL M ys.flatten nv∧nv.length=ys.length * sz∧(∀r∈ys,r.length=sz)∧(∀w',(Builtin.lenOf v).run P w'= .ok ys.length w')∧(∀w' n,(w'=w∨w'=w.drew)→(n=sz∨ys=[])→(Builtin.firstCells n ys.length v).run P w'= .ok nv.toArray w'):=by
 unfold srcS at h
 split at h
 ·rename_i s
  simp only[Option.some.injEq,Prod.mk.injEq] at h
  obtain ⟨_,rfl,rfl⟩ :=h
  cases hr
  have hs:s.data.toList.length=s.size:=Array.length_toList
  refine ⟨Lib.strCells s, ?_,by simp[Lib.strCells_length],by simp,fun w'=>by simp[Builtin.lenOf],fun w' n _ _=>?_⟩
  ·unfold Lib.strCells
   generalize s.data.toList=l
   induction l with
   |nil=>rfl
   |cons x l ih=>exact ⟨_,_,rfl,rfl,rfl,ih⟩
  ·have:=Lib.run_firstCells_string (P:=P) w' n s
   simpa using this
 ·obtain ⟨A,cap,nv,rfl,hrl,hcell,hlen,hall,hsp⟩ :=srcA_cells hw hr h hp
  refine ⟨nv,hrl,hlen,hall,fun w'=>by simp[Builtin.lenOf],fun w' n hw' hn=>?_⟩
  have hnl:nv.length=ys.length * n:=by
   rcases hn with rfl|rfl
   ·exact hlen
   ·simpa using hlen
  rcases hcell with rfl| ⟨b,o,rfl,hc⟩
  ·have:nv=[]:=List.eq_nil_of_length_eq_zero (by simpa using hlen)
   subst this
   cases A with
   |none=>simp[Builtin.firstCells,loadCells,loadCellsFrom]
   |some a=>simp[Builtin.firstCells,loadCells,loadCellsFrom]
  ·refine run_firstCells_some (P:=P) w' n ys.length ⟨b,o,none⟩ ys.length cap nv hnl (fun j u hj=>?_)
   rw[addr_add]
   have:=hc j u hj
   rcases hw' with rfl|rfl
   ·exact this
   ·simpa using this
theorem s_append {d t t' ty:Nat} {x s:AV} {vx vs:Value} (ht:t'=t∧isStrA s=false∨shapeR E.P t'= .str∧isStrA s=true) (hS:Sat E S M a w) (hx:x.rel M vx) (hs:s.rel M vs) (h:(actAppend E.P d t x s (getO S.H)).pre):
  YS E S M a (actAppend E.P d t x s (getO S.H)) ((Builtin.append_ #[t,t'] ty #[vx,vs]).run E.P w):=by
 unfold actAppend at h ⊢
 split at h
 ·rename_i e sz bytes p sz' ys hel hsrc
  have hbig:big=140737488355328:=rfl
  have key:∀(xs:List (List AV)) (us:List Value) (hd:Value),p→slackP E.P e→(sz'=sz∨ys=[])→0 < sz→0 < bytes→(xs.length+ys.length) * bytes≤big→ownsZ w e sz hd xs.length us→relL M xs.flatten us→(∀r∈xs,r.length=sz)→
    ∃v' w',(Builtin.append_ #[t,t'] ty #[hd,vs]).run E.P w= .ok v' w'∧(AObj.arr v' e sz (xs++ys)).rel M w'∧w.grownBy w' hd.ownBlock∧(v'.ownBlock=hd.ownBlock∨v'.ownBlock=some w.heap.size)∧∃A n c,v'= .slice A n c:=by
   intro xs us hd hp hslk hsz' hsz hby hlim hown hrel hrows
   obtain ⟨nv,hrl,hlen,hall,hlo,hfc⟩ :=srcS_cells (P:=E.P) hS.mw hs hsrc hp
   obtain ⟨i,z,hu,hi,hz,hzs,rfl,rfl⟩ :=elemR_spec hel
   have hle:xs.length+ys.length≤(xs.length+ys.length) * i.bytes:=Nat.le_mul_of_pos_right _ hby
   have hm:xs.length+ys.length≤maxLen:=by simp only[maxLen];omega
   have hnl:nv.length=ys.length * i.size:=by
    rcases hsz' with e1|e1
    ·rw[←e1];exact hlen
    ·rw[hlen,e1];simp
   obtain ⟨du,hdu,hd2⟩ :∃du,E.P.underlying t'=some du∧(du= .slice e∨du= .string):=by
    rcases ht with ⟨rfl,_⟩ | ⟨h,_⟩
    ·exact ⟨_,hu,.inl rfl⟩
    ·exact ⟨_,shape_str h,.inr rfl⟩
   obtain ⟨v',w',h1,h2,h3,h5⟩ :=run_append_z (P:=E.P) (w:=w) t t' ty e i z du hu hdu hd2 hi hz hzs hsz (slackP_spec hslk hi hz) hd xs.length us hown vs ys.length nv hnl hlo
    (fun w' hw'=>hfc w' i.size hw' (by rcases hsz' with e1|e1;exact .inl e1.symm;exact .inr e1)) (relL_one hrl) hm (by omega)
   obtain ⟨A,c,he⟩ :=ownsRow_form h2
   exact ⟨v',w',h1, ⟨us++nv,by rw[List.length_append];exact h2,by rw[List.flatten_append];exact relL_append hrel hrl,by
     intro r hr
     rcases List.mem_append.1 hr with hr|hr
     ·exact hrows r hr
     ·rcases hsz' with e1|e1
      ·rw[←e1];exact hall r hr
      ·rw[e1] at hr;exact absurd hr (by simp),by rw[List.length_append];omega⟩,h3,h5,A,_,c,he⟩
  split at h
  ·obtain ⟨hp,hslk,hsz',hsz,hby,hlim⟩ :=h
   cases hx
   obtain ⟨v',w',h1,h2,h3,h5,hform⟩ :=key [] [] (.slice none 0 0) hp hslk hsz' hsz hby (by simpa using hlim) (ownsZ_nil w e sz) rfl (by simp)
   refine ⟨v',w', ⟨0,v',fun _=>.top,[],[]⟩,h1,trivial, ⟨rfl,hform⟩, ?_⟩
   have hMs:M w.heap.size=none:=by
    cases hm:M w.heap.size with
    |none=>rfl
    |some x=>have:=(Array.getElem?_eq_some_iff.1 (hS.memw _ _ hm)).1;omega
   exact Sat.world (M':=M) hS [] [(d,some (.arr v' e sz ys))] h3.os h3.tape h3.output h3.size (fun b hb _=>h3.block b hb (by simp[Value.ownBlock])) (by simp) (by simp) (Mem.le.refl M)
    (fun b x hx=>by rw[h3.block b (Array.getElem?_eq_some_iff.1 (hS.memw _ _ hx)).1 (by simp[Value.ownBlock])];exact hS.memw b x hx) (fun b x hx=>.inl hx)
    (fun k ob hk=>by
     simp only[getO] at hk
     split at hk
     ·cases hk
      refine ⟨by simpa using h2,fun b hb=>?_⟩
      simp only[AObj.blk] at hb
      rcases h5 with h5|h5
      ·rw[h5] at hb;simp[Value.ownBlock] at hb
      ·rw[h5] at hb;cases hb;exact ⟨hMs,.inl (Nat.le_refl _)⟩
     ·cases hk)
    (fun k k' ob1 ob2 b hk hk' _ _=>by
     simp only[getO] at hk hk'
     split at hk<;>split at hk'<;>simp_all)
  ·rename_i k hd
   split at h
   ·rename_i h' e' sz'' xs hk
    obtain ⟨hp,hslk,hsz',rfl,rfl,rfl,hsz,hby,hlim⟩ :=h
    obtain ⟨rfl,_⟩ :=hx
    obtain ⟨hown',hins,hMo⟩ :=hS.own k _ hk
    obtain ⟨us,hown,hrel,hrows,_⟩ :=hown'
    obtain ⟨v',w',h1,h2,h3,h5,hform⟩ :=key xs us vx hp hslk hsz' hsz hby hlim hown hrel hrows
    refine ⟨v',w', ⟨0,v',fun _=>.top,[],[]⟩,h1,trivial, ⟨rfl,hform⟩, ?_⟩
    have hMs:M w.heap.size=none:=by
     cases hm:M w.heap.size with
     |none=>rfl
     |some x=>have:=(Array.getElem?_eq_some_iff.1 (hS.memw _ _ hm)).1;omega
    have hne:∀b x,M b=some x→some b≠vx.ownBlock:=fun b x hx e1=>by have:=hMo b e1.symm;rw[hx] at this;cases this
    exact Sat.world (M':=M) hS [k] [(k,some (.arr v' e' sz'' (xs++ys)))] h3.os h3.tape h3.output h3.size
     (fun b hb hno=>h3.block b hb fun e1=>hno k (by simp) _ hk e1.symm)
     (fun k' hk' b o cs ho=>by
      simp only[List.mem_singleton] at hk'
      subst hk'
      rw[hk] at ho
      cases ho) (by simp) (Mem.le.refl M)
     (fun b x hx=>by rw[h3.block b (Array.getElem?_eq_some_iff.1 (hS.memw _ _ hx)).1 (hne b x hx)];exact hS.memw b x hx) (fun b x hx=>.inl hx)
     (fun k' ob hk'=>by
      simp only[getO] at hk'
      split at hk'
      ·cases hk'
       refine ⟨h2,fun b hb=>?_⟩
       simp only[AObj.blk] at hb
       rcases h5 with h5|h5
       ·rw[h5] at hb
        exact ⟨hMo b hb,.inr ⟨k,by simp,_,hk,hb,h5⟩⟩
       ·rw[h5] at hb;cases hb;exact ⟨hMs,.inl (Nat.le_refl _)⟩
      ·cases hk')
     (fun k1 k2 ob1 ob2 b hk1 hk2 _ _=>by
      simp only[getO] at hk1 hk2
      split at hk1<;>split at hk2<;>simp_all)
   ·exact h.elim
  ·exact h.elim
 ·exact h.elim
theorem zeroCells_rows {P:Program} {e:TypeId} {i:TypeInfo} {z:Value} (hi:P.info? e=some i) (hz:i.zero=some z) (hzs:z.cells.size=i.size) (hsz:0 < i.size) (hone:(zeroRow P e).all oneA=true) (n:Nat):
  relL M (List.replicate n (zeroRow P e)).flatten (Builtin.zeroCells z.cells n).toList∧∀r∈List.replicate n (zeroRow P e),r.length=i.size:=by
 have hzr:zeroR P e=some z.cells.toList:=by simp[zeroR,hi,hz]
 have hrow:zeroRow P e=zerosA z.cells.toList:=by simp[zeroRow,hzr]
 have hall:z.cells.toList.all Value.oneCell'=true:=by
  rw[hrow] at hone
  simpa [zerosA,List.all_map,oneA] using hone
 have hzl:z.cells.toList.length=i.size:=by rw[Array.length_toList];exact hzs
 constructor
 ·rw[hrow]
  have h1:=relL_flat_replicate (M:=M) hall n
  have h2:=range_zeros z.cells.toList i.size hzl hsz n
  have h3:(Builtin.zeroCells z.cells n).toList=(List.replicate n z.cells.toList).flatten:=by
   rw[←h2]
   simp[Builtin.zeroCells,hzs]
  rw[h3]
  exact h1
 ·intro r hr
  rw[List.eq_of_mem_replicate hr,hrow]
  simp[zerosA,hzs]
theorem s_appendZ {t t' ty:Nat} {x s:AV} {vx vs:Value} (ht:intR E.P t'=some .i64) (hS:Sat E S M a w) (hx:x.rel M vx) (hs:s.rel M vs) (h:(actAppendZ E.P t x s (getO S.H)).pre):
  YS E S M a (actAppendZ E.P t x s (getO S.H)) ((Builtin.append_ #[t,t'] ty #[vx,vs]).run E.P w):=by
 unfold actAppendZ at h ⊢
 split at h
 ·rename_i e sz bytes n k hd hel
  cases hs
  split at h
  ·rename_i h' e' sz'' xs hk
   obtain ⟨hslk,hn1,rfl,rfl,rfl,hsz,hby,hone,hlim⟩ :=h
   have hn0:0≤n:=by omega
   have hbig:big=140737488355328:=rfl
   obtain ⟨rfl,_⟩ :=hx
   obtain ⟨hown',hins,hMo⟩ :=hS.own k _ hk
   obtain ⟨us,hown,hrel,hrows,_⟩ :=hown'
   obtain ⟨i,z,hu,hi,hz,hzs,rfl,rfl⟩ :=elemR_spec hel
   obtain ⟨hzr,hzl⟩ :=zeroCells_rows (P:=E.P) (M:=M) hi hz hzs hsz hone n.toNat
   have hle:xs.length+n.toNat≤(xs.length+n.toNat) * i.bytes:=Nat.le_mul_of_pos_right _ hby
   have key:∃v' w',(Builtin.append_ #[t,t'] ty #[vx,.int .i64 n]).run E.P w= .ok v' w'∧ownsZ w' e' i.size v' (xs.length+n.toNat) (us++(Builtin.zeroCells z.cells n.toNat).toList)∧w.grownBy w' vx.ownBlock∧(v'.ownBlock=vx.ownBlock∨v'.ownBlock=some w.heap.size):=by
    have:=run_append_zz (P:=E.P) (w:=w) t t' ty e' i z hu (intR_spec ht) hi hz hzs hsz (slackP_spec hslk hi hz) vx xs.length us hown n.toNat (by omega) _ rfl (relL_one hzr) (by simp only[maxLen];omega) (by omega)
    rwa [Int.toNat_of_nonneg hn0] at this
   obtain ⟨v',w',h1,h2,h3,h5⟩ :=key
   have hform:=ownsRow_form h2
   have hob:(AObj.arr v' e' i.size (xs++List.replicate n.toNat (zeroRow E.P e'))).rel M w':= ⟨_,by rw[List.length_append,List.length_replicate];exact h2,by rw[List.flatten_append];exact relL_append hrel hzr,by
    intro r hr
    rcases List.mem_append.1 hr with hr|hr
    ·exact hrows r hr
    ·exact hzl r hr,by rw[List.length_append,List.length_replicate];omega⟩
   refine ⟨v',w', ⟨0,v',fun _=>.top,[],[]⟩,h1,trivial, ⟨rfl,by obtain ⟨A,c,he⟩ :=hform;exact ⟨A,_,c,he⟩⟩, ?_⟩
   have hMs:M w.heap.size=none:=by
    cases hm:M w.heap.size with
    |none=>rfl
    |some x=>have:=(Array.getElem?_eq_some_iff.1 (hS.memw _ _ hm)).1;omega
   have hne:∀b x,M b=some x→some b≠vx.ownBlock:=fun b x hx e1=>by have:=hMo b e1.symm;rw[hx] at this;cases this
   exact Sat.world (M':=M) hS [k] [(k,some (.arr v' e' i.size (xs++List.replicate n.toNat (zeroRow E.P e'))))] h3.os h3.tape h3.output h3.size
    (fun b hb hno=>h3.block b hb fun e1=>hno k (by simp) _ hk e1.symm)
    (fun k' hk' b o cs ho=>by
     simp only[List.mem_singleton] at hk'
     subst hk'
     rw[hk] at ho
     cases ho) (by simp) (Mem.le.refl M)
    (fun b x hx=>by rw[h3.block b (Array.getElem?_eq_some_iff.1 (hS.memw _ _ hx)).1 (hne b x hx)];exact hS.memw b x hx) (fun b x hx=>.inl hx)
    (fun k' ob hk'=>by
     simp only[getO] at hk'
     split at hk'
     ·cases hk'
      refine ⟨hob,fun b hb=>?_⟩
      simp only[AObj.blk] at hb
      rcases h5 with h5|h5
      ·rw[h5] at hb
       exact ⟨hMo b hb,.inr ⟨k,by simp,_,hk,hb,h5⟩⟩
      ·rw[h5] at hb;cases hb;exact ⟨hMs,.inl (Nat.le_refl _)⟩
     ·cases hk')
    (fun k1 k2 ob1 ob2 b hk1 hk2 _ _=>by
     simp only[getO] at hk1 hk2
     split at hk1<;>split at hk2<;>simp_all)
  ·exact h.elim
 ·exact h.elim
theorem s_conv {d:Nat} {s t:TypeId} {x:AV} {v:Value} (hS:Sat E S M a w) (hr:x.rel M v) (h:(actConv E.P d s t x (getO S.H)).pre):YS E S M a (actConv E.P d s t x (getO S.H)) ((convert s t v).run E.P w):=by
 have hw:=hS.mw
 unfold actConv at h ⊢
 split at h
 ·rename_i b
  cases hr
  split at h
  ·rename_i e sz bytes hel
   split at h
   case isFalse=>exact h.elim
   rename_i h32
   rw[if_pos h32]
   obtain ⟨hstr,rfl,hin,hsl,hbl⟩ :=h
   obtain ⟨i,z,hu,hi,hz,_⟩ :=elemR_spec hel
   have hrun:=Lib.run_convert_string_bytes (P:=E.P) w s t e b (shape_str hstr) hu (intR_spec hin)
   have hbl2:b.data.toList.length=b.size:=Array.length_toList
   have hbig:big=140737488355328:=rfl
   have hge:=grownCap_ge w b.size 0 e
   have hcm:grownCap w b.size 0 e≤maxLen:=grownCap_le_maxLen w b.size 0 e (by simp only[maxLen];omega)
   have hcs:(Lib.bytesCells w e b).size=grownCap w b.size 0 e:=by
    have:b.data.size=b.size:=rfl
    simp[Lib.bytesCells];omega
   have hMs:M w.heap.size=none:=by
    cases hm:M w.heap.size with
    |none=>rfl
    |some x=>have:=(Array.getElem?_eq_some_iff.1 (hS.memw _ _ hm)).1;omega
   have hold:∀j,j < w.heap.size→(Lib.bytesWorld w e b).heap[j]? =w.heap[j]?:=fun j hj=>Lib.bytesWorld_at_old w e b j hj
   refine ⟨_,_, ⟨0,.slice (some ⟨w.heap.size,0,none⟩) b.size (grownCap w b.size 0 e),fun _=>.top,[],[]⟩,hrun,trivial, ⟨rfl,_,_,_,rfl⟩, ?_⟩
   have hflat:∀l:List UInt8,(l.map fun b=>[AV.val (.int .u8 b.toNat)]).flatten=l.map fun b=>AV.val (.int .u8 b.toNat):=by
    intro l
    induction l with
    |nil=>rfl
    |cons x l ih=>simp[ih]
   have hrelL:∀l:List UInt8,relL M (l.map fun b=>AV.val (.int .u8 b.toNat)) (l.map fun b=>Value.int .u8 b.toNat):=by
    intro l
    induction l with
    |nil=>rfl
    |cons x l ih=>exact ⟨_,_,rfl,rfl,rfl,ih⟩
   refine Sat.world (M':=M) (w':=Lib.bytesWorld w e b) hS [] [(d,some (.arr (.slice (some ⟨w.heap.size,0,none⟩) b.size (grownCap w b.size 0 e)) e 1 (b.data.toList.map fun b=>[.val (.int .u8 b.toNat)])))] rfl rfl rfl (by rw[Lib.bytesWorld_size];omega) (fun j hj _=>hold j hj) (by simp) (by simp) (Mem.le.refl M)
    (fun j x hx=>by rw[hold j (Array.getElem?_eq_some_iff.1 (hS.memw _ _ hx)).1];exact hS.memw j x hx) (fun j x hx=>.inl hx)
    (fun k ob hk=>by
     simp only[getO] at hk
     split at hk
     ·cases hk
      refine ⟨⟨b.data.toList.map fun b=>Value.int .u8 b.toNat, ⟨by simp,.inr ⟨w.heap.size,_,_,_,by simp only[List.length_map,hbl2],Lib.bytesWorld_at_new w e b,fun i hi=>by omega,by simp only[List.length_map,hbl2];exact hge,hcm,by rw[hcs,Nat.mul_one], ?_,fun z0 h0=>by rw[hsl] at h0;cases h0⟩⟩,by rw[hflat];exact hrelL _,by simp,by simpa using hbl⟩,fun j hj=>?_⟩
      ·simp[Lib.bytesCells]
      ·simp only[AObj.blk,Value.ownBlock,Option.some.injEq] at hj
       subst hj
       exact ⟨hMs,.inl (Nat.le_refl _)⟩
     ·cases hk)
    (fun k k' ob1 ob2 b hk hk' _ _=>by
     simp only[getO] at hk hk'
     split at hk<;>split at hk'<;>simp_all)
  ·exact h.elim
 ·rename_i k n
  cases hr
  split at h
  ·rename_i k' hk
   refine YV.ys hS ?_
   have hu:=intR_spec hk
   have hs:(E.P.underlying s).isSome=true:=h
   obtain ⟨ds,hds⟩ :=Option.isSome_iff_exists.1 hs
   refine ⟨_,_,_,rfl, ?_,rfl⟩
   simp only[convert,Sem.run_bind,run_underlying' hds,run_underlying' hu,Result.andThen_ok]
   cases ds<;>rfl
  ·exact h.elim
 ·split at h
  ·rename_i e sz bytes p sz' ys he hsrc
   refine YV.ys hS ?_
   obtain ⟨hp,rfl,rfl,hk,hstr,hall⟩ :=h
   obtain ⟨A,cap,vs,rfl,hrl,hcell,hlen,_,hA⟩ :=srcA_cells hw hr hsrc hp
   obtain ⟨i,z,hu,_⟩ :=elemR_spec he
   have hstr:=shape_str hstr
   have hke:=intR_spec hk
   have hb:=bytes_rel hrl hall
   have hs:(⟨(ys.map byteA).toArray⟩ :ByteArray)=strOfNums (ys.map numA):=by
    have:ys.map byteA=(ys.map numA).map fun n=>UInt8.ofNat n.toNat:=by simp[byteA_num]
    rw[this]
    rfl
   refine ⟨_,_,_,rfl, ?_,rfl⟩
   rw[hs]
   rcases hcell with rfl| ⟨b,o,rfl,hc⟩
   ·cases A with
    |none=>exact run_convert_bytes_nil w s e hu hke _ _ t hstr
    |some p=>
     rw[List.length_nil,run_convert_bytes_string w s t e _ 0 cap hu hke hstr]
     simp[Conv.bytesToString,loadCells,loadCellsFrom,strOfNums]
     rfl
   ·refine run_convert_bytes_arg w s e hu hke b o _ cap (ys.map numA) (by simp) (fun i hi=>hc i _ ?_) t hstr
    rw[hb,List.getElem?_map,List.getD_eq_getElem?_getD]
    have:(ys.map numA)[i]? =some ((ys.map numA)[i]'(by simpa using hi)):=List.getElem?_eq_getElem (by simpa using hi)
    rw[this]
    rfl
  ·exact h.elim
theorem s_makeMap {d t:Nat} (hS:Sat E S M a w) (h:(actMakeMap E.P d t).pre):YS E S M a (actMakeMap E.P d t) ((Instr.makeMap t none).run E.P w):=by
 unfold actMakeMap at h ⊢
 split at h
 ·rename_i kk e hm
  refine ⟨.map (some w.heap.size),w.alloc (.map #[] 0), ⟨w.heap.size,undef,fun _=>.top,[],[]⟩, ?_,trivial,rfl, ?_⟩
  ·simp[Instr.makeMap,newObj];rfl
  ·exact hS.alloc d _ _ rfl ⟨#[],0,heap_alloc_new w _,rfl⟩
 ·exact h.elim
theorem relE_append {kk:IntKind}:∀{es fs:List (Int×AV)} {us vs:List MapEntry},relE M kk es us→relE M kk fs vs→relE M kk (es++fs) (us++vs)
 | [],_,_,_,h,k=>by simp only[relE] at h;subst h;simpa using k
 |(_,_) :: _,_,_,_, ⟨e,r,he,h1,h2,h⟩,k=>by subst he;exact ⟨e,_,rfl,h1,h2,relE_append h k⟩
theorem s_insert {t:TypeId} {x i y:AV} {vx vi vy:Value} (hS:Sat E S M a w) (hx:x.rel M vx) (hi:i.rel M vi) (hy:y.rel M vy) (h:(actInsert E.P t x i y (getO S.H)).pre):
  ∃w',(Instr.mapUpdate t vx vi vy).run E.P w= .ok () w'∧Sat E ⟨S.ρ,(actInsert E.P t x i y (getO S.H)).upd default++S.H⟩ M a w'∧(actInsert E.P t x i y (getO S.H)).out default∧(actInsert E.P t x i y (getO S.H)).res default= .val undef:=by
 unfold actInsert at h ⊢
 split at h
 ·rename_i kk e k r k' n hm
  split at h
  ·rename_i r' kk' es hk
   obtain ⟨rfl,rfl,rfl,hf⟩ :=h
   simp only[AV.rel] at hx
   subst hx
   cases hi
   obtain ⟨kt,hu,hkt⟩ :=mapR_spec hm
   obtain ⟨⟨ents,clock,hr,hrel⟩,hins,hMo⟩ :=hS.own k _ hk
   have hc:=MapKept.run_checkKey (P:=E.P) (w:=w) (k:=.int k' n) hkt rfl false 9999
   have hfk:=MapKept.run_findKey (P:=E.P) (w:=w) hkt ((findE_now hrel n 0).1 hf)
   have hset:=MapKept.run_setObj_map (P:=E.P) (w:=w) (.map (ents.push { key:=.int k' n,val:=vy,born:=clock }) (clock+1)) hr
   obtain ⟨hs1,hs2⟩ :=MapKept.heap_set (o':=.map (ents.push { key:=.int k' n,val:=vy,born:=clock }) (clock+1)) hr
   refine ⟨{ w with heap:=w.heap.setIfInBounds r (.map (ents.push { key:=.int k' n,val:=vy,born:=clock }) (clock+1)) }, ?_, ?_,trivial,rfl⟩
   ·simp only[Instr.mapUpdate,Sem.run_bind,run_underlying' hu,Result.andThen_ok,run_getMap hr,hc,hfk,hset]
   ·have hMr:M r=none:=hMo r rfl
    exact Sat.world (M':=M) hS [k] [(k,some (.mapo r k' (es++[(n,y)])))] rfl rfl rfl (by simp) (fun b hb hno=>hs2 b fun e1=>by subst e1;exact hno k (by simp) _ hk rfl)
     (fun k1 hk1 b o cs e1=>by
      simp only[List.mem_singleton] at hk1
      subst hk1
      rw[hk] at e1
      cases e1) (by simp) (Mem.le.refl M) (fun b o hb=>by
      by_cases e1:b=r
      ·subst e1;rw[hMr] at hb;cases hb
      ·exact (hs2 b e1).trans (hS.memw b o hb)) (fun b o hb=>.inl hb)
     (fun k1 ob e1=>by
      simp only[getO] at e1
      split at e1
      ·cases e1
       refine ⟨⟨_,_,hs1, ?_⟩,fun b hb=>?_⟩
       ·rw[Array.toList_push]
        exact relE_append hrel ⟨_,[],rfl,rfl,hy,rfl⟩
       ·simp only[AObj.blk,Option.some.injEq] at hb
        subst hb
        exact ⟨hMr,.inr ⟨k,by simp,_,hk,rfl,rfl⟩⟩
      ·cases e1)
     (fun k1 k2 ob1 ob2 b e1 e2 _ _=>by
      simp only[getO] at e1 e2
      split at e1<;>split at e2<;>simp_all)
  ·exact h.elim
 ·exact h.elim
theorem s_copy {t ty t':TypeId} {x s:AV} {vx vs:Value} (hS:Sat E S M a w) (hx:x.rel M vx) (hs:s.rel M vs) (h:(actCopy E.P t x s (getO S.H)).pre):
  YS E S M a (actCopy E.P t x s (getO S.H)) ((Builtin.copy_ #[t,t'] ty #[vx,vs]).run E.P w):=by
 unfold actCopy at h ⊢
 split at h
 ·rename_i k hd lo n e sz bytes p sz' ys hel hsrc
  split at h
  ·rename_i h' e' sz'' xs hk
   obtain ⟨hp,rfl,rfl,rfl,rfl,rfl,hyn,hfit⟩ :=h
   obtain ⟨A,cap,nv,rfl,hrl,hcell,hlen,hall,hsp⟩ :=srcA_cells hS.mw hs hsrc hp
   obtain ⟨i,z,hu,hi,_,_,hsi,_⟩ :=elemR_spec hel
   obtain ⟨g,m,c,rfl,hlo,rfl⟩ :=hx
   obtain ⟨us,ho,hr,hl,hbig⟩ :=(hS.own k _ hk).1
   have hmin:Nat.min ys.length n=ys.length:=Nat.min_eq_left hyn
   have hnl:nv.length=ys.length:=by simpa using hlen
   rcases ho.2 with ⟨e1,_⟩ | ⟨g',cap',cur,fz,e1,hg,hfz,hnc,hcm,hcs,htake,hslk⟩
   ·cases e1
   ·injection e1 with e1 e2 e3
    injection e1 with e1
    injection e1 with e1
    subst e1;subst e2;subst e3
    have hfc:(Builtin.firstCells 1 ys.length (.slice A ys.length cap)).run E.P w= .ok nv.toArray w:=by
     rcases hcell with rfl| ⟨b,o,rfl,hc⟩
     ·have:nv=[]:=List.eq_nil_of_length_eq_zero (by simpa using hnl)
      subst this
      cases A<;>simp[Builtin.firstCells,loadCells,loadCellsFrom]
     ·have:=run_loadCells_list (P:=E.P) w ⟨b,o,none⟩ nv (fun j v hj=>by rw[addr_add];exact hc j v hj)
      rw[hnl] at this
      simp[Builtin.firstCells,this]
    have hst:=run_storeCells_z E.P g lo e' fz nv 0 cur w hg hfz (by omega) (relL_one hrl)
    simp only[Nat.add_zero] at hst
    have hcl:cur.toList.length=cur.size:=Array.length_toList
    refine ⟨.int .i64 ys.length,w.setRow g (cur.toList.take lo++nv++cur.toList.drop (lo+nv.length)).toArray,default, ?_,trivial,rfl, ?_⟩
    ·simp only[Builtin.copy_,List.getElem?_toArray,List.getElem?_cons_zero,List.getElem?_cons_succ,Sem.run_bind,run_underlying' hu,Result.andThen_ok,Builtin.lenOf,Sem.run_pure,hmin,run_sizeOf' hi,hsi,hfc,hst,goInt]
    ·have hul:us.length=xs.length:=by simpa using ho.1
     have hfl:∀(l:List (List AV)),(∀r∈l,r.length=1)→∀k,(l.flatten).take k=(l.take k).flatten∧(l.flatten).drop k=(l.drop k).flatten:=by
      intro l hl1
      induction l with
      |nil=>intro k;simp
      |cons x l ih=>
       intro k
       obtain ⟨y,rfl⟩ :=List.length_eq_one_iff.1 (hl1 x (by simp))
       cases k with
       |zero=>simp
       |succ k=>have:=ih (fun r hr=>hl1 r (by simp[hr])) k;simp[this]
     refine hS.store k g _ _ cur _ e' fz hk rfl rfl rfl hg ?_ (fun b1 o1 cs1 he=>by cases he)
     refine ⟨us.take lo++nv++us.drop (lo+nv.length), ⟨by simp;omega,.inr ⟨g,c,_,fz,by simp;omega,setRow_heap w g cur _ e' _ hg,fun j hj=>hfz j (by simp at hj;omega),by simp;omega,hcm,by simp;omega, ?_, ?_⟩⟩, ?_, ?_,by simp;omega⟩
     ·apply List.ext_getElem?
      intro j
      rw[List.getElem?_take]
      by_cases hj:j < xs.length
      ·rw[if_pos (by simp;omega),seg_get cur.toList nv _ (by omega),seg_get us nv _ (by omega)]
       split
       ·rfl
       ·rw[←htake,List.getElem?_take_of_lt (by omega)]
      ·rw[if_neg (by simp;omega),List.getElem?_eq_none (by simp;omega)]
     ·intro z0 h0 j hj hj2
      simp only[List.length_append,List.length_take,List.length_drop] at hj
      rw[List.getElem?_toArray,seg_get cur.toList nv _ (by omega),if_neg (by omega),Array.getElem?_toList]
      exact hslk z0 h0 j (by omega) (by simp at hj2;omega)
     ·rw[List.flatten_append,List.flatten_append,←(hfl xs hl lo).1,←(hfl xs hl (lo+ys.length)).2,hnl]
      exact relL_append (relL_append (relL_take _ hr) hrl) (relL_drop _ hr)
     ·intro r hr'
      simp only[List.mem_append] at hr'
      rcases hr' with (h1|h1)|h1
      ·exact hl r (List.mem_of_mem_take h1)
      ·exact hall r h1
      ·exact hl r (List.mem_of_mem_drop h1)
  ·exact h.elim
 ·exact h.elim
end
open Go
section
variable {E:Env} {S:St} {M:Mem} {a:Act} {w:World}
def YO (E:Env) (S:St) (M:Mem) (a:Act) (r:ActR) (res:Result Next):Prop:=
 ∃v w' x,(res= .ok (.value v) w'∨(res= .ok .skip w'∧v=undef))∧r.out x∧(r.res x).rel M v∧Sat E ⟨S.ρ,r.upd x++S.H⟩ M a w'
theorem YS.yo {r:ActR} {s:Sem Value} (h:YS E S M a r (s.run E.P w)):YO E S M a r ((do pure (.value (←s)):Sem Next).run E.P w):=by
 obtain ⟨v,w',x,h1,h2,h3,h4⟩ :=h
 exact ⟨v,w',x,.inl (by simp[h1]),h2,h3,h4⟩
theorem relT_map {e:Operand→AV} {ρ:Operand→Value}:∀{l:List Operand},(∀x∈l,(e x).rel M (ρ x))→relT M (l.map e) (l.map ρ)
 | [],_=>rfl
 |x :: l,h=> ⟨_,_,rfl,h x (by simp),relT_map fun y hy=>h y (by simp[hy])⟩
theorem act_sound (hS:Sat E S M a w) (o:Oper) (e:Operand→AV) (he:∀x∈o.op.operands.toList,(e x).rel M (a.eval x)) (d:Nat) (h:(act E.P d o.op e (getO S.H)).pre):
  YO E S M a (act E.P d o.op e (getO S.H)) ((execOp a.eval o).run E.P w):=by
 have hw:=hS.mw
 have pu:∀{x:AV} {v:Value},x.rel M v→YO E S M a (.pure True x) (.ok (.value v) w):=fun hx=> ⟨_,_,default,.inl rfl,trivial,hx,by simpa [ActR.pure] using hS⟩
 unfold execOp
 generalize ho:o.op=op at h he ⊢
 cases op<;>simp only[act] at h ⊢<;>first|(exact h.elim;done)|skip
 case move x=>exact pu (he x (by simp[Op.operands]))
 case assign x=>exact pu (he x (by simp[Op.operands]))
 case pick c x y=>
  obtain ⟨p,r,b,h1,h2,h3⟩ :=s_pick (he c (by simp[Op.operands])) (he x (by simp[Op.operands])) (he y (by simp[Op.operands])) h
  rw[h1]
  refine ⟨_,_,default,.inl ?_,trivial,h3,by simpa [ActR.pure] using hS⟩
  rw[h2]
  cases b<;>rfl
 case alloc t=>exact (s_alloc hS h).yo
 case box t x=>exact (s_box hS (he x (by simp[Op.operands])) h).yo
 case build t ps=>exact ((s_build (fun p hp=>he p.2 (by simp[Op.operands];exact ⟨_,by simpa using hp⟩)) h).ys hS).yo
 case buildSlice t n ps=>exact (s_buildSlice hS (fun p hp=>he p.2 (by simp[Op.operands];exact ⟨_,by simpa using hp⟩)) h).yo
 case load t x=>exact ((s_load hw (he x (by simp[Op.operands])) h).ys hS).yo
 case store t x v=>
  obtain ⟨w',h1,h2,h3,h4⟩ :=s_store hS (he x (by simp[Op.operands])) (he v (by simp[Op.operands])) h
  exact ⟨undef,w',default,.inr ⟨by simp[h1],rfl⟩,h3,by rw[h4];rfl,h2⟩
 case nilCheck x=>
  obtain ⟨h1,p,h2⟩ :=s_nil (w:=w) (P:=E.P) ho (he x (by simp[Op.operands])) h
  unfold execOp at h1
  simp only[ho] at h1
  rw[h1,h2]
  exact ⟨_,_,default,.inl rfl,trivial,he x (by simp[Op.operands]),by simpa [ActR.pure] using hS⟩
 case binOp op t x y ty=>exact ((s_bin (he x (by simp[Op.operands])) (he y (by simp[Op.operands])) h).ys hS).yo
 case unOp op t x=>exact ((s_un (he x (by simp[Op.operands])) h).ys hS).yo
 case convert s t x=>exact (s_conv hS (he x (by simp[Op.operands])) h).yo
 case makeInterface t x=>
  refine ⟨_,_,default,.inl (by simp[run_makeInterface' h];rfl),trivial, ⟨_,rfl,he x (by simp[Op.operands])⟩,by simpa [ActR.pure] using hS⟩
 case makeFunc f first caps=>
  cases f<;>simp only at h ⊢<;>first|(exact h.elim;done)|skip
  rename_i f
  split at h
  ·rename_i hf
   simp only[Array.isEmpty_iff] at hf
   subst hf
   refine ⟨.func (.func f) #[] (caps.map a.eval),w,default,.inl ?_,trivial, ⟨caps.toList.map a.eval,by rw[show caps.map a.eval=(caps.toList.map a.eval).toArray from Array.ext' (by simp)],relT_map fun x hx=>he x (by simpa [Op.operands] using hx)⟩,by simpa [ActR.pure] using hS⟩
   simp[Instr.makeFunc]
  ·exact h.elim
 case makeSlice t l c=>exact (s_makeSlice hS (he l (by simp[Op.operands])) (he c (by simp[Op.operands])) h).yo
 case slice t x lo hi mx=>
  cases mx<;>simp only at h ⊢<;>first|(exact h.elim;done)|skip
  exact ((s_slice hw (he x (by simp[Op.operands])) (fun y hy=>he y (by rcases hy with rfl|rfl<;>simp[Op.operands])) h).ys hS).yo
 case lookup t x i ok=>exact ((s_lookup hw (he x (by simp[Op.operands])) (he i (by simp[Op.operands])) h).ys hS).yo
 case mapUpdate t m k x=>
  obtain ⟨w',h1,h2,h3,h4⟩ :=s_insert hS (he m (by simp[Op.operands])) (he k (by simp[Op.operands])) (he x (by simp[Op.operands])) h
  exact ⟨undef,w',default,.inr ⟨by simp[h1],rfl⟩,h3,by rw[h4];rfl,h2⟩
 case makeMap t r=>
  cases r<;>simp only at h ⊢<;>first|(exact h.elim;done)|skip
  exact (s_makeMap hS h).yo
 case fieldAddr s x f=>exact ((s_field (he x (by simp[Op.operands])) h).ys hS).yo
 case indexAddr t x i=>exact ((s_indexAddr hw (he x (by simp[Op.operands])) (he i (by simp[Op.operands])) h).ys hS).yo
 case index t x i=>exact ((s_index (he x (by simp[Op.operands])) (he i (by simp[Op.operands])) h).ys hS).yo
 case typeAssert x u t ok=>exact ((s_assert (he x (by simp[Op.operands])) h).ys hS).yo
 case extract x i=>exact ((s_extract (he x (by simp[Op.operands])) h).ys hS).yo
 case call c=>
  obtain ⟨callee,args,ts⟩ :=c
  cases callee<;>simp only at h ⊢<;>first|(exact h.elim;done)|skip
  rename_i b
  have hargs:∀x∈args.toList,(e x).rel M (a.eval x):=fun x hx=>he x (by simpa [Op.operands,Call.operands] using hx)
  obtain ⟨args⟩ :=args
  obtain ⟨ts⟩ :=ts
  simp only at h hargs ⊢
  unfold actBuiltin at h ⊢
  split at h
  ·rename_i x t ts
   have hr:∀s:Sem Value,s=Builtin.len_ (t :: ts).toArray o.type #[a.eval x]→((do let d←resolve a.eval ⟨.builtin .len,#[x],(t :: ts).toArray⟩ o.type;invoke d.target d.args:Sem Next).run E.P w)=(do pure (.value (←s)):Sem Next).run E.P w:=by
    rintro s rfl;simp[resolve,invoke,builtin]
   have k:=((s_len (ty:=o.type) hw (ts:=(t :: ts).toArray) rfl (hargs x (by simp)) h).ys hS).yo
   rw[←hr _ rfl] at k
   exact k
  ·rename_i x s t t'
   split at h
   ·rename_i ht
    have hr:∀s':Sem Value,s'=Builtin.append_ #[t,t'] o.type #[a.eval x,a.eval s]→((do let d←resolve a.eval ⟨.builtin .append,#[x,s],#[t,t']⟩ o.type;invoke d.target d.args:Sem Next).run E.P w)=(do pure (.value (←s')):Sem Next).run E.P w:=by
     rintro s' rfl;simp[resolve,invoke,builtin]
    have k:=(s_append (ty:=o.type) ht hS (hargs x (by simp)) (hargs s (by simp)) h).yo
    rw[←hr _ rfl] at k
    rw[if_pos ht]
    exact k
   ·rename_i ht0
    split at h
    ·rename_i ht
     have hr:∀s':Sem Value,s'=Builtin.append_ #[t,t'] o.type #[a.eval x,a.eval s]→((do let d←resolve a.eval ⟨.builtin .append,#[x,s],#[t,t']⟩ o.type;invoke d.target d.args:Sem Next).run E.P w)=(do pure (.value (←s')):Sem Next).run E.P w:=by
      rintro s' rfl;simp[resolve,invoke,builtin]
     have k:=(s_appendZ (ty:=o.type) ht hS (hargs x (by simp)) (hargs s (by simp)) h).yo
     rw[←hr _ rfl] at k
     rw[if_neg ht0,if_pos ht]
     exact k
    ·exact h.elim
  ·rename_i x t ts
   have hr:∀s:Sem Value,s=Builtin.cap_ (t :: ts).toArray o.type #[a.eval x]→((do let d←resolve a.eval ⟨.builtin .cap,#[x],(t :: ts).toArray⟩ o.type;invoke d.target d.args:Sem Next).run E.P w)=(do pure (.value (←s)):Sem Next).run E.P w:=by
    rintro s rfl;simp[resolve,invoke,builtin]
   have k:=((s_cap (w:=w) (ty:=o.type) (ts:=(t :: ts).toArray) rfl (hargs x (by simp)) h).ys hS).yo
   rw[←hr _ rfl] at k
   exact k
  ·rename_i x y
   have hr:∀s:Sem Value,s=Builtin.max_ ts.toArray o.type #[a.eval x,a.eval y]→((do let d←resolve a.eval ⟨.builtin .max,#[x,y],ts.toArray⟩ o.type;invoke d.target d.args:Sem Next).run E.P w)=(do pure (.value (←s)):Sem Next).run E.P w:=by
    rintro s rfl;simp[resolve,invoke,builtin]
   have k:=((s_max (P:=E.P) (w:=w) (ty:=o.type) (ts:=ts.toArray) (hargs x (by simp)) (hargs y (by simp)) h).ys hS).yo
   rw[←hr _ rfl] at k
   exact k
  ·rename_i x s t t'
   have hr:∀s':Sem Value,s'=Builtin.copy_ #[t,t'] o.type #[a.eval x,a.eval s]→((do let d←resolve a.eval ⟨.builtin .copy,#[x,s],#[t,t']⟩ o.type;invoke d.target d.args:Sem Next).run E.P w)=(do pure (.value (←s')):Sem Next).run E.P w:=by
    rintro s' rfl;simp[resolve,invoke,builtin]
   have k:=(s_copy (ty:=o.type) (t':=t') hS (hargs x (by simp)) (hargs s (by simp)) h).yo
   rw[←hr _ rfl] at k
   exact k
  ·exact h.elim
end
open Go
def CallsX (P:Program) (f:FuncId) (vs:Array Value) (w:World) (R:Value→World→Prop):Prop:=
 match (callFunc f vs).run P w with
 | .ok (.enter g args) w1=>Calls P g args w1 fun| .returned v,w'=>R v w'|_,_=>False
 | .ok (.value v) w'=>R v w'
 |_=>False
structure After (M:Mem) (w:World) (objs:List AObj) (M':Mem) (w':World) (os fs:List (Option AObj)):Prop where
 le:M.le M'
 memw:∀b o,M' b=some o→w'.heap[b]? =some o
 memd:∀b o,M' b=some o→M b=some o∨w.heap.size≤b∨∃ob∈objs,ob.blk=some b
 frame:Frame w objs w'
 len:os.length=objs.length
 own:∀ob,some ob∈os++fs→ob.rel M' w'∧∀b,ob.blk=some b→M' b=none∧(w.heap.size≤b∨∃o0∈objs,o0.blk=some b∧ob.within o0)
 disj:∀(i j:Nat) ob ob' b,(os++fs)[i]? =some (some ob)→(os++fs)[j]? =some (some ob')→ob.blk=some b→ob'.blk=some b→i=j
def Fulfils (P:Program) (G:Nat→AV) (f:FuncId) (args:List AV) (objs:List AObj) (R:(Nat→AV)→List (Option AObj)→List (Option AObj)→Prop):Prop:=
 ∀(M:Mem) (w:World) (vs:List Value),(∀b o,M b=some o→w.heap[b]? =some o)→(∀g,(G g).rel M (.pointer (some ⟨g,0,none⟩)))→relT M args vs→
  (∀ob∈objs,ob.rel M w∧∀b,ob.blk=some b→M b=none)→
  (∀(i j:Nat) ob ob' b,objs[i]? =some ob→objs[j]? =some ob'→ob.blk=some b→ob'.blk=some b→i=j)→
  CallsX P f vs.toArray w fun v w'=>∃M' ret os fs,R ret os fs∧(∀n,(ret n).rel M' v)∧After M w objs M' w' os fs
structure Inst (P:Program) (G:Nat→AV) where
 f:FuncId
 args:List AV
 objs:List AObj
 nf:Nat
 hyp:Prop
 pv:AV
 R:(Nat→AV)→List (Option AObj)→List (Option AObj)→Prop
 ok:hyp→Fulfils P G f args objs R
instance {P:Program} {G:Nat→AV}:Inhabited (Inst P G):= ⟨⟨0,[],[],0,False,.top,fun _ _ _=>False,fun h=>h.elim⟩⟩
def normA:AV→AV
 | .ref _ b o=>.ref 0 b o
 | .buf _ h=>.buf 0 h
 | .aref _ h sz i o=>.aref 0 h sz i o
 | .omap _ r=>.omap 0 r
 | .ifc t a=>.ifc t (normA a)
 |a=>a
theorem normA_rel {M:Mem}:∀{a:AV} {v:Value},(normA a).rel M v↔a.rel M v
 | .top,_=>Iff.rfl| .val _,_=>Iff.rfl| .dat ..,_=>Iff.rfl| .pt _,_=>Iff.rfl| .ref ..,_=>Iff.rfl| .buf ..,_=>Iff.rfl
 | .aref ..,_=>Iff.rfl| .sub ..,_=>Iff.rfl| .omap ..,_=>Iff.rfl| .fn ..,_=>Iff.rfl| .agg _,_=>Iff.rfl| .tup _,_=>Iff.rfl| .cnd ..,_=>Iff.rfl| .mp ..,_=>Iff.rfl
 | .ifc t a,v=>by
  simp only[normA,AV.rel]
  constructor
  ·rintro ⟨u,e,h⟩;exact ⟨u,e,normA_rel.1 h⟩
  ·rintro ⟨u,e,h⟩;exact ⟨u,e,normA_rel.2 h⟩
theorem relT_norm {M:Mem}:∀{as bs:List AV} {vs:List Value},as.map normA=bs.map normA→relT M as vs→relT M bs vs
 | [],[],_,_,h=>h
 | [],_ :: _,_,e,_=>by simp at e
 |_ :: _,[],_,e,_=>by simp at e
 |a :: as,b :: bs,_,e, ⟨v,r,e1,h1,h2⟩ =>by
  simp only[List.map_cons,List.cons.injEq] at e
  exact ⟨v,r,e1,normA_rel.1 (e.1▸normA_rel.2 h1),relT_norm e.2 h2⟩
def fkeys (d:Nat):Nat→List Nat
 |0=>[]
 |1=>[1000+d]
 |2=>[1000+d,2000+d]
 |3=>[1000+d,2000+d,3000+d]
 |_=>[]
def callB {P:Program} {G:Nat→AV} (d:Nat) (f:FuncId) (args:List AV) (look:Look) (c:Inst P G) (keys:List Nat):ActR:=
 ⟨c.hyp∧c.f=f∧args.map normA=c.args.map normA∧keys.map look=c.objs.map some∧keys.Nodup,
  fun x=>c.R x.ret x.objs x.fresh,fun x=>x.ret d,fun x=>(keys++fkeys d c.nf).zip (x.objs++x.fresh)⟩
def frzV (look:Look) (fz:List Nat):AV→AV
 | .buf k h=>if fz.contains k=true then (match look k with|some (.arr _ _ sz xs)=>.dat false sz xs|_=>.top) else .buf k h
 | .ref k b o=>if fz.contains k=true then (match look k with|some (.cells _ o' cs)=>.pt (cs.drop (o - o'))|_=>.top) else .ref k b o
 | .omap k r=>if fz.contains k=true then (match look k with|some (.mapo _ kk es)=>.mp kk es|_=>.top) else .omap k r
 |a=>a
def frzP (look:Look) (fz:List Nat):AV→Prop
 | .buf k h=>if fz.contains k=true then (match look k with|some (.arr h' _ _ _)=>h=h'|_=>False) else True
 | .ref k b o=>if fz.contains k=true then (match look k with|some (.cells b' o' _)=>b=b'∧o'≤o|_=>False) else True
 | .omap k r=>if fz.contains k=true then (match look k with|some (.mapo r' _ _)=>r=r'|_=>False) else True
 |_=>True
def allP:List Prop→Prop
 | []=>True
 |p :: ps=>p∧allP ps
def callR {P:Program} {G:Nat→AV} (d:Nat) (f:FuncId) (args:List AV) (look:Look) (c:Inst P G) (ks:List Nat×List Nat):ActR:=
 ⟨c.hyp∧c.f=f∧(args.map (frzV look ks.2)).map normA=c.args.map normA∧allP (args.map (frzP look ks.2))∧ks.1.map look=c.objs.map some∧(ks.1++ks.2).Nodup,
  fun x=>c.R x.ret x.objs x.fresh,fun x=>x.ret d,fun x=>(ks.1++fkeys d c.nf).zip (x.objs++x.fresh)++ks.2.map fun k=>(k,none)⟩
def OpOK (E:Env) (S:St) (M:Mem) (a:Act) (w:World) (o:Oper) (r:ActR):Prop:=
 ∀next Q,(∀x,r.out x→∀M' w' v,(r.res x).rel M' v→Sat E ⟨S.ρ,r.upd x++S.H⟩ M' a w'→next (a.put o.dst v) w')→o.wp E.P a w next Q
section
variable {E:Env} {S:St} {M:Mem} {a:Act} {w:World}
theorem YO.ok {o:Oper} {r:ActR} (h:YO E S M a r ((execOp a.eval o).run E.P w)):OpOK E S M a w o r:=by
 intro next Q hn
 obtain ⟨v,w',x,h1,h2,h3,h4⟩ :=h
 unfold Oper.wp
 rcases h1 with h1| ⟨h1,h5⟩
 ·rw[h1,Oper.upon_value];exact hn x h2 M w' v h3 h4
 ·subst h5
  rw[h1,Oper.upon_skip];exact hn x h2 M w' undef h3 h4
theorem getO_zip:∀{ks:List Nat} {vs:List (Option AObj)} {k:Nat} {ob:AObj},getO (ks.zip vs) k=some ob→∃i:Nat,ks[i]? =some k∧vs[i]? =some (some ob)
 | [],_,_,_,h=>by simp[getO] at h
 |_ :: _,[],_,_,h=>by simp[getO] at h
 |k' :: ks,v :: vs,k,ob,h=>by
  simp only[List.zip_cons_cons,getO] at h
  split at h
  ·rename_i e;subst e;exact ⟨0,by simp,by simpa using h⟩
  ·obtain ⟨i,h1,h2⟩ :=getO_zip h
   exact ⟨i+1,by simpa using h1,by simpa using h2⟩
theorem zip_any:∀{ks:List Nat} {vs:List (Option AObj)} {k:Nat},k∈ks→ks.length≤vs.length→(ks.zip vs).any (fun p=>p.1=k)=true
 |_ :: _,[],_,_,h=>by simp at h
 |k' :: ks,v :: vs,k,hk,hl=>by
  simp only[List.zip_cons_cons,List.any_cons]
  by_cases e:k'=k
  ·simp[e]
  ·simp only[List.mem_cons] at hk
   rcases hk with hk|hk
   ·exact absurd hk.symm e
   ·rw[zip_any hk (by simpa using hl)];simp
theorem zip_any_append {ks ks':List Nat} {vs vs':List (Option AObj)} {k:Nat} (hk:k∈ks) (hl:ks.length≤vs.length):((ks++ks').zip (vs++vs')).any (fun p=>p.1=k)=true:=by
 have h1:=zip_any hk hl
 rw[List.any_eq_true] at h1 ⊢
 obtain ⟨p,hp,e⟩ :=h1
 refine ⟨p, ?_,e⟩
 obtain ⟨i,hi⟩ :=List.getElem?_of_mem hp
 rw[List.getElem?_zip_eq_some] at hi
 refine List.mem_of_getElem? (i:=i) ?_
 rw[List.getElem?_zip_eq_some]
 have l1:i < ks.length:=(List.getElem?_eq_some_iff.1 hi.1).1
 have l2:i < vs.length:=(List.getElem?_eq_some_iff.1 hi.2).1
 exact ⟨by rw[List.getElem?_append_left l1];exact hi.1,by rw[List.getElem?_append_left l2];exact hi.2⟩
theorem objs_get {look:Look} {keys:List Nat} {objs:List AObj} (h:keys.map look=objs.map some) {ob:AObj}:(∃k∈keys,look k=some ob)↔ob∈objs:=by
 constructor
 ·rintro ⟨k,hk,e⟩
  have:some ob∈keys.map look:=List.mem_map.2 ⟨k,hk,e⟩
  rw[h] at this
  simpa using this
 ·intro ho
  have:some ob∈objs.map some:=List.mem_map.2 ⟨ob,ho,rfl⟩
  rw[←h] at this
  simpa using this
theorem callA_ok (hS:Sat E S M a w) (o:Oper) (f:FuncId) (as:List AV) (vals:List Value) (hex:(execOp a.eval o).run E.P w=(callFunc f vals.toArray).run E.P w)
  (has:relT M as vals) (c:Inst E.P E.G) (keys:List Nat) (d:Nat) (h:(callB d f as (getO S.H) c keys).pre):
  OpOK E S M a w o (callB d f as (getO S.H) c keys):=by
 intro next Q hn
 obtain ⟨hh,rfl,hargs,hkeys,hnd⟩ :=h
 have hobj:∀{ob},(∃k∈keys,getO S.H k=some ob)↔ob∈c.objs:=objs_get hkeys
 have hidx:∀(i:Nat) ob,c.objs[i]? =some ob→∃k,keys[i]? =some k∧getO S.H k=some ob:=by
  intro i ob hi
  have:(keys.map (getO S.H))[i]? =some (some ob):=by rw[hkeys];simp[hi]
  rw[List.getElem?_map] at this
  cases hk:keys[i]? with
  |none=>simp[hk] at this
  |some k=>exact ⟨k,rfl,by simpa [hk] using this⟩
 have k0:=c.ok hh M w vals hS.memw hS.glob (relT_norm hargs has)
  (fun ob hob=>by
   obtain ⟨k,_,hk⟩ :=hobj.2 hob
   exact ⟨(hS.own k ob hk).1,(hS.own k ob hk).2.2⟩)
  (fun i j ob ob' b hi hj hb hb'=>by
   obtain ⟨k,h1,h2⟩ :=hidx i ob hi
   obtain ⟨k',h3,h4⟩ :=hidx j ob' hj
   have:=hS.disj k k' ob ob' b h2 h4 hb hb'
   subst this
   exact (List.getElem?_inj (List.getElem?_eq_some_iff.1 h1).1 hnd).1 (h1.trans h3.symm))
 have fin:∀v w',(∃M' ret os fs,c.R ret os fs∧(∀n,(ret n).rel M' v)∧After M w c.objs M' w' os fs)→next (a.put o.dst v) w':=by
  rintro v w' ⟨M',ret,os,fs,hR,hret,hA⟩
  refine hn ⟨0,undef,ret,os,fs⟩ hR M' w' v (hret d) ?_
  have hlen:keys.length=os.length:=by
   rw[hA.len]
   have:=congrArg List.length hkeys
   simpa using this
  refine Sat.world hS keys _ hA.frame.os hA.frame.tape hA.frame.output hA.frame.size
   (fun b hb hno=>hA.frame.block b hb fun ob hob e=>by obtain ⟨k,hk,e1⟩ :=hobj.2 hob;exact hno k hk ob e1 e)
   (fun k hk b o cs e=>hA.frame.part b o cs (hobj.1 ⟨k,hk,e⟩))
   (fun k hk=>zip_any_append hk (Nat.le_of_eq hlen)) hA.le hA.memw
   (fun b o hb=>(hA.memd b o hb).imp id fun h=>h.imp id fun ⟨ob,hob,e⟩ =>by obtain ⟨k,hk,e1⟩ :=hobj.2 hob;exact ⟨k,hk,ob,e1,e⟩)
   (fun k ob hk=>?_) (fun k k' ob ob' b hk hk' hb hb'=>?_)
  ·obtain ⟨i,_,hi⟩ :=getO_zip hk
   have:=hA.own ob (List.mem_of_getElem? hi)
   refine ⟨this.1,fun b hb=> ⟨(this.2 b hb).1,(this.2 b hb).2.imp id fun ⟨o0,ho0,e,hw⟩ =>?_⟩⟩
   obtain ⟨k1,hk1,e1⟩ :=hobj.2 ho0
   exact ⟨k1,hk1,o0,e1,e,hw⟩
  ·obtain ⟨i,h1,hi⟩ :=getO_zip hk
   obtain ⟨j,h2,hj⟩ :=getO_zip hk'
   have:=hA.disj i j ob ob' b hi hj hb hb'
   subst this
   rw[h1] at h2
   exact Option.some.inj h2
 unfold CallsX at k0
 unfold Oper.wp
 rw[hex]
 generalize (callFunc c.f vals.toArray).run E.P w=r at k0 ⊢
 split at k0
 ·rw[Oper.upon_enter]
  refine Calls.mono k0 fun e w' he=>?_
  cases e with
  |returned v=>exact fin v w' he
  |panicked _=>exact he.elim
  |outgrown=>exact he.elim
 ·rw[Oper.upon_value]
  exact fin _ _ k0
 ·exact k0.elim
theorem callB_ok (hS:Sat E S M a w) (o:Oper) (g:Operand) (args:Array Operand) (ts:Array TypeId) (ho:o.op= .call ⟨.value g,args,ts⟩) (f:FuncId) (caps as:List AV)
  (hg:(AV.fn f caps).rel M (a.eval g)) (has:relT M as (args.toList.map a.eval)) (c:Inst E.P E.G) (keys:List Nat) (d:Nat) (h:(callB d f (as++caps) (getO S.H) c keys).pre):
  OpOK E S M a w o (callB d f (as++caps) (getO S.H) c keys):=by
 obtain ⟨vs,hv,hvs⟩ :=hg
 have hex:(execOp a.eval o).run E.P w=(callFunc f (args.toList.map a.eval++vs).toArray).run E.P w:=by
  unfold execOp
  simp only[ho]
  have:(args.toList.map a.eval++vs).toArray=args.map a.eval++vs.toArray:=Array.ext' (by simp)
  rw[this]
  simp[resolve,hv,Deferred.ofValue,invoke]
 exact callA_ok hS o f (as++caps) _ hex (relT_append has hvs) c keys d h
def methR (P:Program) (t:TypeId) (name:String):Option FuncId:=
 match P.info? t with
 |some i=>match i.methods.find? (·.name == name) with
  |some m=>if m.path.isEmpty=true then match m.func,P.underlying t with
    |some (f,true),some (.pointer _)=>some f
    |_,_=>none
   else none
  |none=>none
 |none=>none
theorem run_method {P:Program} {w:World} {t:TypeId} {name:String} {f:FuncId} {v:Value} (h:methR P t name=some f) (n:Nat):(method (n+1) t v name).run P w= .ok (f,v) w:=by
 unfold methR at h
 split at h
 ·rename_i i hi
  split at h
  ·rename_i m hm
   split at h
   ·rename_i hp
    split at h
    ·rename_i f' e hf hu
     cases h
     simp only[Array.isEmpty_iff] at hp
     unfold method
     simp only[Sem.run_bind,run_typeInfo' hi,Result.andThen_ok,hm,hp,follow,Sem.run_pure,hf,receiverAt,run_underlying' hu,Place.get]
    ·cases h
   ·cases h
  ·cases h
 ·cases h
theorem invB_ok (hS:Sat E S M a w) (o:Oper) (g:Operand) (name:String) (args:Array Operand) (ts:Array TypeId) (ho:o.op= .call ⟨.invoke g name,args,ts⟩) (t:TypeId) (x:AV) (as:List AV) (f:FuncId) (hm:methR E.P t name=some f)
  (hg:(AV.ifc t x).rel M (a.eval g)) (has:relT M as (args.toList.map a.eval)) (c:Inst E.P E.G) (keys:List Nat) (d:Nat) (h:(callB d f (x :: as) (getO S.H) c keys).pre):
  OpOK E S M a w o (callB d f (x :: as) (getO S.H) c keys):=by
 obtain ⟨v,hv,hx⟩ :=hg
 have hex:(execOp a.eval o).run E.P w=(callFunc f (v :: args.toList.map a.eval).toArray).run E.P w:=by
  unfold execOp
  simp only[ho]
  have e1:(#[Value.iface t v]++args.map a.eval)[0]? =some (.iface t v):=by rw[Array.getElem?_append_left (by simp)];rfl
  have e2: #[v]++(#[Value.iface t v]++args.map a.eval).extract 1 (#[Value.iface t v]++args.map a.eval).size=(v :: args.toList.map a.eval).toArray:=by
   apply Array.ext'
   simp only[Array.toList_append,Array.toList_extract,List.extract_eq_take_drop,Array.size_append,List.size_toArray,List.length_cons,List.length_nil,Array.size_map,Array.toList_map,List.cons_append,List.nil_append,List.drop_succ_cons,List.drop_zero]
   rw[List.take_of_length_le (by simp)]
  simp only[resolve,hv,Sem.run_bind,Sem.run_pure,Result.andThen_ok,invoke,e1,callMethod,program]
  have e3:(Sem.run E.P (Sem.program Sem.pure) w)= .ok E.P w:=rfl
  rw[e3]
  have e4:=run_method (P:=E.P) (w:=w) (v:=v) hm (E.P.types.size+99)
  have e5:E.P.types.size+Made.depth=E.P.types.size+99+1:=rfl
  simp only[Result.andThen_ok,e5,e4,e2]
 exact callA_ok hS o f (x :: as) _ hex ⟨v,_,rfl,hx,has⟩ c keys d h
theorem Sat.freeze (hS:Sat E S M a w) (k:Nat):∃M',Sat E ⟨S.ρ,(k,none) :: S.H⟩ M' a w∧M.le M'∧∀ob,getO S.H k=some ob→∀b,ob.blk=some b→M' b=w.heap[b]?:=by
 cases hk:getO S.H k with
 |none=>
  exact ⟨M,hS.sub (fun _=>.inr rfl) fun k'=>by simp only[getO];split<;>simp,Mem.le.refl M,fun ob h=>by cases h⟩
 |some ob=>
  obtain ⟨hrel,_,hno⟩ :=hS.own k ob hk
  have hle:M.le (fun b=>if ob.blk=some b then w.heap[b]? else M b):=fun b o hb=>by
   simp only
   rw[if_neg];exact hb
   intro e;rw[hno b e] at hb;cases hb
  refine ⟨fun b=>if ob.blk=some b then w.heap[b]? else M b, ?_,hle,fun ob' h b hb=>by cases h;simp[hb]⟩
  refine Sat.world hS [k] [(k,none)] rfl rfl rfl (Nat.le_refl _) (fun _ _ _=>rfl) (fun k' hk' b o cs e=>?_) (by simp) hle (fun b o hb=>?_) (fun b o hb=>?_) (fun k' ob' e=>by simp only[getO] at e;split at e<;>cases e)
   (fun k1 k2 ob1 ob2 b e=>by simp only[getO] at e;split at e<;>cases e)
  ·simp only[List.mem_singleton] at hk'
   subst hk'
   rw[hk] at e
   cases e
   obtain ⟨arr,T,vs,h1,_⟩ :=hrel
   exact ⟨arr,arr,T,_,h1,h1,rfl,fun _ _=>rfl⟩
  ·split at hb
   ·exact hb
   ·exact hS.memw b o hb
  ·split at hb
   ·rename_i e
    exact .inr (.inr ⟨k,by simp,ob,hk,e⟩)
   ·exact .inl hb
theorem frz_arr {M M':Mem} {w:World} {h:Value} {e sz:Nat} {xs:List (List AV)} (hle:M.le M') (hr:(AObj.arr h e sz xs).rel M w) (hM:∀b,h.ownBlock=some b→M' b=w.heap[b]?):(AV.dat false sz xs).rel M' h:=by
 obtain ⟨vs,ho,hrel,hrows,hbig⟩ :=hr
 have hrel':=relL_mono hle _ _ hrel
 rcases ho.2 with ⟨rfl,h0⟩ | ⟨g,cap,cur,fz,rfl,hg,_,hn,hcap,hsz,hcur,_⟩
 ·have:xs=[]:=List.eq_nil_of_length_eq_zero h0
  subst this
  exact ⟨none,0,rfl,(fun e=>by cases e),by simp,by simp,.inl rfl,(fun p e=>by cases e)⟩
 ·refine ⟨some ⟨g,0,none⟩,cap,rfl,(fun e=>by cases e),hbig,hn,.inr ⟨g,0,rfl,relR_of_flat hrows (relC_of_cells hrel' fun i v hi=>?_)⟩,fun p e=>by cases e;rfl⟩
  have:=hM g rfl
  unfold Mem.cell
  rw[this,hg]
  simp only[Nat.zero_add]
  rw[←hcur] at hi
  rw[List.getElem?_take] at hi
  split at hi
  ·simpa using hi
  ·cases hi
theorem frz_map {M M':Mem} {w:World} {r:Nat} {kk:IntKind} {es:List (Int×AV)} (hle:M.le M') (hr:(AObj.mapo r kk es).rel M w) (hM:M' r=w.heap[r]?):(AV.mp kk es).rel M' (.map (some r)):=by
 obtain ⟨ents,clock,h1,h2⟩ :=hr
 exact ⟨r,ents,clock,rfl,hM.trans h1,relE_mono hle _ _ _ h2⟩
theorem frz_cells {M M':Mem} {w:World} {b o o':Nat} {cs:List AV} (hle:M.le M') (hr:(AObj.cells b o' cs).rel M w) (hM:M' b=w.heap[b]?) (ho:o'≤o):(AV.pt (cs.drop (o - o'))).rel M' (.pointer (some ⟨b,o,none⟩)):=by
 obtain ⟨arr,T,vs,hb,hrel,hc⟩ :=hr
 refine ⟨b,o,rfl, ?_⟩
 have:relC M' b o' cs:=relC_of_cells (relL_mono hle _ _ hrel) fun i v hi=>by
  unfold Mem.cell
  rw[hM,hb]
  exact hc i v hi
 have:=relC_drop (o - o') this
 rwa [show o'+(o - o')=o by omega] at this
theorem Sat.freezes (hS:Sat E S M a w):∀(fz:List Nat),∃M',Sat E ⟨S.ρ,fz.map (fun k=>(k,none))++S.H⟩ M' a w∧M.le M'∧∀x v,x.rel M v→frzP (getO S.H) fz x→(frzV (getO S.H) fz x).rel M' v:=by
 intro fz
 have key:∃M',Sat E ⟨S.ρ,fz.map (fun k=>(k,none))++S.H⟩ M' a w∧M.le M'∧∀k∈fz,∀ob,getO S.H k=some ob→∀b,ob.blk=some b→M' b=w.heap[b]?:=by
  induction fz with
  |nil=>exact ⟨M,hS,Mem.le.refl M,fun k hk=>by cases hk⟩
  |cons k fz ih=>
   obtain ⟨M1,h1,hle,h2⟩ :=ih
   obtain ⟨M2,h3,hle2,h4⟩ :=h1.freeze k
   have up:∀b x,M1 b=some x→M2 b=some x:=fun b x h=>hle2 b x h
   refine ⟨M2,h3,hle.trans hle2,fun k' hk' ob hob b hb=>?_⟩
   by_cases hin:k'∈fz
   ·have:=h2 k' hin ob hob b hb
    have hlt:=AObj.rel_lt (hS.own k' ob hob).1 hb
    rw[Array.getElem?_eq_getElem hlt] at this ⊢
    exact up _ _ this
   ·have:k'=k:=by rcases List.mem_cons.1 hk' with h|h;exact h;exact absurd h hin
    subst this
    refine h4 ob ?_ b hb
    rw[getO_append]
    have:(fz.map fun k=>((k,none):Nat×Option AObj)).any (fun p=>p.1=k')=false:=by
     simp only[List.any_map,List.any_eq_false,Function.comp,decide_eq_true_eq]
     intro x hx e
     exact hin (e▸hx)
    rw[this]
    simpa using hob
 obtain ⟨M',h1,hle,h2⟩ :=key
 refine ⟨M',h1,hle,fun x v hx hp=>?_⟩
 cases x<;>first|exact AV.rel_mono hle _ v hx|skip
 ·rename_i k b o
  simp only[frzP,frzV] at hp ⊢
  split at hp
  ·rename_i hin
   have hin':k∈fz:=by simpa using hin
   rw[if_pos hin]
   split at hp
   ·rename_i b' o' cs hk
    obtain ⟨rfl,ho⟩ :=hp
    simp only[AV.rel] at hx
    subst hx
    exact frz_cells hle (hS.own k _ hk).1 (h2 k hin' _ hk _ rfl) ho
   ·exact hp.elim
  ·rename_i hin;rw[if_neg hin];exact AV.rel_mono hle _ v hx
 ·rename_i k h
  simp only[frzP,frzV] at hp ⊢
  split at hp
  ·rename_i hin
   have hin':k∈fz:=by simpa using hin
   rw[if_pos hin]
   split at hp
   ·rename_i h' e sz xs hk
    subst hp
    obtain ⟨rfl,_⟩ :=hx
    exact frz_arr hle (hS.own k _ hk).1 (fun b hb=>h2 k hin' _ hk b hb)
   ·exact hp.elim
  ·rename_i hin;rw[if_neg hin];exact AV.rel_mono hle _ v hx
 ·rename_i k r
  simp only[frzP,frzV] at hp ⊢
  split at hp
  ·rename_i hin
   have hin':k∈fz:=by simpa using hin
   rw[if_pos hin]
   split at hp
   ·rename_i r' kk es hk
    subst hp
    simp only[AV.rel] at hx
    subst hx
    exact frz_map hle (hS.own k _ hk).1 (h2 k hin' _ hk _ rfl)
   ·exact hp.elim
  ·rename_i hin;rw[if_neg hin];exact AV.rel_mono hle _ v hx
theorem relT_frz {M':Mem} {look:Look} {fz:List Nat} (h:∀x v,x.rel M v→frzP look fz x→(frzV look fz x).rel M' v):∀{as:List AV} {vs:List Value},relT M as vs→allP (as.map (frzP look fz))→relT M' (as.map (frzV look fz)) vs
 | [],_,hr,_=>hr
 |a :: as,_, ⟨v,r,e,h1,h2⟩, ⟨hp,hps⟩ => ⟨v,r,e,h a v h1 hp,relT_frz h h2 hps⟩
theorem allP_append:∀{as bs:List Prop},allP (as++bs)→allP as∧allP bs
 | [],_,h=> ⟨trivial,h⟩
 |_ :: _,_, ⟨h,k⟩ => ⟨⟨h,(allP_append k).1⟩,(allP_append k).2⟩
theorem call_ok (hS:Sat E S M a w) (o:Oper) (g:Operand) (args:Array Operand) (ts:Array TypeId) (ho:o.op= .call ⟨.value g,args,ts⟩) (f:FuncId) (caps as:List AV)
  (hg:(AV.fn f caps).rel M (a.eval g)) (has:relT M as (args.toList.map a.eval)) (c:Inst E.P E.G) (ks:List Nat×List Nat) (d:Nat) (h:(callR d f (as++caps) (getO S.H) c ks).pre):
  OpOK E S M a w o (callR d f (as++caps) (getO S.H) c ks):=by
 obtain ⟨hh,hf,hargs,hall,hkeys,hnd⟩ :=h
 obtain ⟨M1,hS1,hle,hfr⟩ :=hS.freezes ks.2
 rw[List.map_append] at hall hargs
 obtain ⟨hall1,hall2⟩ :=allP_append hall
 have hlook:ks.1.map (getO (ks.2.map (fun k=>(k,none))++S.H))=c.objs.map some:=by
  rw[←hkeys]
  refine List.map_congr_left fun k hk=>?_
  rw[getO_append]
  have:(ks.2.map fun k=>((k,none):Nat×Option AObj)).any (fun p=>p.1=k)=false:=by
   simp only[List.any_map,List.any_eq_false,Function.comp,decide_eq_true_eq]
   intro x hx e
   subst e
   exact (List.nodup_append.1 hnd).2.2 x hk x hx rfl
  rw[this]
  simp
 have k:=callB_ok (S:= ⟨S.ρ,ks.2.map (fun k=>(k,none))++S.H⟩) hS1 o g args ts ho f (caps.map (frzV (getO S.H) ks.2)) (as.map (frzV (getO S.H) ks.2)) (by
   obtain ⟨vs,e,hv⟩ :=hg
   exact ⟨vs,e,relT_frz hfr hv hall2⟩) (relT_frz hfr has hall1) c ks.1 d ⟨hh,hf,by rw[hargs],hlook,(List.nodup_append.1 hnd).1⟩
 intro next Q hn
 refine k next Q fun x hx M' w' v hv hSat=>hn x hx M' w' v hv ?_
 simpa [callR,callB] using hSat
theorem inv_ok (hS:Sat E S M a w) (o:Oper) (g:Operand) (name:String) (args:Array Operand) (ts:Array TypeId) (ho:o.op= .call ⟨.invoke g name,args,ts⟩) (t:TypeId) (x:AV) (as:List AV) (f:FuncId) (hm:methR E.P t name=some f)
  (hg:(AV.ifc t x).rel M (a.eval g)) (has:relT M as (args.toList.map a.eval)) (c:Inst E.P E.G) (ks:List Nat×List Nat) (d:Nat) (h:(callR d f (x :: as) (getO S.H) c ks).pre):
  OpOK E S M a w o (callR d f (x :: as) (getO S.H) c ks):=by
 obtain ⟨hh,hf,hargs,hall,hkeys,hnd⟩ :=h
 obtain ⟨M1,hS1,hle,hfr⟩ :=hS.freezes ks.2
 have hlook:ks.1.map (getO (ks.2.map (fun k=>(k,none))++S.H))=c.objs.map some:=by
  rw[←hkeys]
  refine List.map_congr_left fun k hk=>?_
  rw[getO_append]
  have:(ks.2.map fun k=>((k,none):Nat×Option AObj)).any (fun p=>p.1=k)=false:=by
   simp only[List.any_map,List.any_eq_false,Function.comp,decide_eq_true_eq]
   intro x hx e
   subst e
   exact (List.nodup_append.1 hnd).2.2 x hk x hx rfl
  rw[this]
  simp
 have k:=invB_ok (S:= ⟨S.ρ,ks.2.map (fun k=>(k,none))++S.H⟩) hS1 o g name args ts ho t (frzV (getO S.H) ks.2 x) (as.map (frzV (getO S.H) ks.2)) f hm (by
   obtain ⟨v,e,hv⟩ :=hg
   exact ⟨v,e,hfr x v hv hall.1⟩) (relT_frz hfr has hall.2) c ks.1 d ⟨hh,hf,hargs,hlook,(List.nodup_append.1 hnd).1⟩
 intro next Q hn
 refine k next Q fun x hx M' w' v hv hSat=>hn x hx M' w' v hv ?_
 simpa [callR,callB] using hSat
end
end Go.AM
