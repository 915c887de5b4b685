/- Part 41 of the proof: C4. -/
import Derived.Conc.MuLone
import Derived.OpenShut
import Derived.OpenVars
import Derived.ProofKit
import Derived.WideKeyArgs
import Derived.Test.YtbkfdnkeelmloaaGreatDoorZ7
import Derived.Test.YtbkfdnkeelmloaaGreatDoorY40
set_option linter.unusedVariables false
set_option linter.unusedSimpArgs false
namespace Go.Proofs.YtbkfdnkeelmloaaGreatDoor
set_option maxRecDepth 10000
open Go.AM Go Go.ChangeShapes Go.WideShapes Go.ChangeAt Go.RowKit
section
variable {H:Type} {enc:TypeId×Value→H} {W:World}
theorem arg_agg {t:TypeId} {X:Type} {C:X→List AV} {OK:X→Prop} {base:Nat} {v:Value} {d:DataW H} {p:List MemPlace} (h:Reads enc W t C OK) (hs:(match Tryz.prog.underlying t with|some (.struct _)=>true|_=>false)=true)
  (hv:Value.okWide Tryz.prog W .any base t v) (hd:DataW.Trod enc Tryz.prog W 0 (fun _=>true) true t v d p) (hw:small t d):∃x,(AV.agg (C x)).rel (memOf W) v∧OK x:=by
 obtain ⟨fuel,hf⟩ :=hd
 obtain ⟨x,h1,h2⟩ :=h fuel _ d p hf hw
 obtain ⟨cs,rfl⟩ :∃cs,v= .agg cs:=by
  unfold Value.okWide at hv
  split at hs
  ·rename_i fs hu
   rw[hu] at hv
   obtain ⟨cs,e,_⟩ :=hv
   exact ⟨cs,e⟩
  ·cases hs
 exact ⟨x, ⟨cs.toList,by simp,h1⟩,h2⟩
theorem arg_one {t:TypeId} {X:Type} {A:X→AV} {OK:X→Prop} {base:Nat} {v:Value} {d:DataW H} {p:List MemPlace} (h:Reads enc W t (fun x=>[A x]) OK) (hs:(match Tryz.prog.underlying t with|some (.struct _)|some (.array _ _)=>false|_=>true)=true)
  (hv:Value.okWide Tryz.prog W .any base t v) (hd:DataW.Trod enc Tryz.prog W 0 (fun _=>true) true t v d p) (hw:small t d):∃x,(A x).rel (memOf W) v∧OK x:=by
 obtain ⟨fuel,hf⟩ :=hd
 obtain ⟨x,h1,h2⟩ :=h fuel _ d p hf hw
 obtain ⟨u,r,e,_,h3,_⟩ :=h1
 refine ⟨x, ?_,h2⟩
 have:u=v:=by
  unfold Value.okWide at hv
  split at hs
  ·cases hs
  ·cases hs
  ·rename_i h4 h5
   cases v<;>first|(simp[Value.cells] at e;exact e.1.symm)|skip
   exfalso
   split at hv
   ·rename_i hu;exact h4 _ hu
   ·rename_i hu;exact h5 _ _ hu
   ·simp only[Cell.okWide,Cell.ok] at hv
    split at hv<;>simp_all
 exact this▸h3
theorem trodAll_again {P:Program} {W W':World} (hl:laidOutB P=true) (hb:Below W.heap.size W W'):∀{ts:List TypeId} {vs:List Value} {ds:List (DataW H)} {ps:List MemPlace},(ts.all fun t=>P.readableRec t && decide (t < P.types.size))=true→
  DataW.TrodAll enc P W 0 (fun _=>true) true ts vs ds ps→DataW.TrodAll enc P W' 0 (fun b=>decide (b < W.heap.size)) true ts vs ds ps
 | [],_,_,_,_,h=>by
  obtain ⟨rfl,rfl,rfl⟩ :=trodAll_nil h
  exact trodAll_mk0
 |t :: ts,vs,ds,ps,ha,h=>by
  have hlt:=h.lt
  obtain ⟨v,vs',d,ds',p,q,rfl,rfl,rfl,h1,h2⟩ :=trodAll_cons h
  simp only[List.all_cons,Bool.and_eq_true,decide_eq_true_eq] at ha
  exact ⟨p,q,WideElems.Trod_stays hl ha.1.1 ha.1.2 h1 (fun x hx=>hb.same (hlt x (by simp[hx]))) (fun x hx=>by simpa using hlt x (by simp[hx])),trodAll_again hl hb ha.2 h2,rfl⟩
theorem laidOut:laidOutB Tryz.prog=true:=by kernel_rfl
theorem post_true {f:FuncId} {fn:Func} {G:Nat→AV} {avs:List AV} {args:Array Value} {s:ChangeSpec} {ds gs:List (DataW H)} {p q:List MemPlace} (hfn:Tryz.prog.funcs[f]? =some fn) (hb:fn.body.isSome=true) (hn:(fn.name == "runtime.NumGoroutine")=false)
  (hF:Fulfils Tryz.prog G f avs [] (retP (booV true))) (hG:∀i,(G i).rel (memOf W) (.pointer (some ⟨i,0,none⟩))) (hr:relT (memOf W) avs args.toList)
  (hW:DataW.Whole enc Tryz.prog fn.params.toList s.vars false W args.toList ds gs (p++q)) (hA:DataW.TrodAll enc Tryz.prog W 0 (fun _=>true) true fn.params.toList args.toList ds p) (hV:DataW.TrodVars enc Tryz.prog W (fun _=>true) s.vars gs q)
  (hp:(fn.params.toList.all fun t=>Tryz.prog.readableRec t && decide (t < Tryz.prog.types.size))=true) (hv:varsRowed Tryz.prog s.vars=true) (ht:fn.resultTypes= #[4]) (hs:s.fn H (ds++gs)={ results:=[.lit (.bool true)],args:=ds,vars:=gs }):
  Calls Tryz.prog f args W fun e W'=>∃v,e= .returned v∧s.post enc Tryz.prog fn false true false false W args v W':=by
 have h:=hF (memOf W) W args.toList (fun _ _ h=>h) hG hr (by simp) (by simp)
 obtain ⟨c,hc⟩ :=Option.isSome_iff_exists.1 hb
 unfold CallsX at h
 rw[Array.toArray_toList,MuLone.run_callFunc_enter hfn hn hc] at h
 refine Calls.mono h fun e W' he=>?_
 cases e with
 |returned v=>
  obtain ⟨M',ret,os,fs, ⟨rfl,rfl,rfl⟩,hv',ha⟩ :=he
  have e0:v= .bool true:=hv' 0
  subst e0
  have hbl:Below W.heap.size W W':= ⟨ha.frame.os,ha.frame.tape,ha.frame.output,ha.frame.size,fun k hk=>ha.frame.block k hk (by simp)⟩
  refine ⟨_,rfl,ds,gs,p++q,[],p,q,hW, ?_, ?_, ?_,hbl.frame _,fun h=>by cases h⟩
  ·rw[hs,ht];exact trodAll_mk1 (shut_bool (show Tryz.prog.underlying 4=some .bool by kernel_rfl) _)
  ·rw[hs];exact trodAll_again laidOut hbl hp hA
  ·rw[hs];exact hbl.trodVars laidOut hv hV
 |_=>exact he.elim
theorem w_here {t:TypeId} {ts:List TypeId} {d:DataW H} {ds:List (DataW H)} (h:smallL (t :: ts) (d :: ds)):small t d∧smallL ts ds:=
 ⟨fun n hn=>h n (by simp only[DataW.weightsEach,List.mem_append];exact .inl hn),fun n hn=>h n (by simp only[DataW.weightsEach,List.mem_append];exact .inr hn)⟩
end
end Go.Proofs.YtbkfdnkeelmloaaGreatDoor
