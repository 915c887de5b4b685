/- Part 46 of the proof: C6. -/
import Derived.Test.YtbkfdnkeelmloaaGreatDoorZ38
import Derived.Test.YtbkfdnkeelmloaaGreatDoorY41
import Derived.Test.YtbkfdnkeelmloaaGreatDoorY44
import Derived.Test.YtbkfdnkeelmloaaGreatDoorY45
set_option linter.unusedVariables false
set_option linter.unusedSimpArgs false
namespace Go.Proofs.YtbkfdnkeelmloaaGreatDoor
set_option maxRecDepth 100000
open Go.AM Go Go.ChangeShapes Go.WideShapes Go.ChangeAt Go.RowKit
theorem trodVars_len3 {H:Type} {enc:TypeId×Value→H} {P:Program} {w:World} {sp:Nat→Bool}:∀{ns:List String} {gs:List (DataW H)} {ps:List MemPlace},DataW.TrodVars enc P w sp ns gs ps→gs.length=ns.length
 | [],[],_,_=>rfl
 | [],_ :: _,_,h=>h.elim
 |_ :: _,[],_,h=>h.elim
 |_ :: _,_ :: _,_, ⟨_,_,_,_,_,_,_,_,_,_,h,_⟩ =>by simp[trodVars_len3 h]
theorem fnWhole_lifted (os:Os) (started:os.Started) (H:Type) (enc:TypeId×Value→H):
  ReturnsInHanded {} Tryz.checked os 3 .any (fun w args=>(Rows.fnWholeSpec.pre enc Tryz.prog Tryz.f3 [] false w args∧laidMetH Tryz.prog laidL w)∧sizedMet enc Tryz.prog Tryz.f3 (OpenSpec.ofChange Rows.fnWholeSpec) false w args)
   (Rows.fnWholeSpec.post enc Tryz.prog Tryz.f3 false true false false):=by
 refine returnsInHanded_of_change_and (C:=Tryz.checked) (X:=fun w _=>laidMetH Tryz.prog laidL w) (fun _ _ _ hh h=>h.of_heap hh) own started (by kernel_rfl) Tryz.func3
  (ChangeSpec.witness_shaped (enc:=enc) (C:=Tryz.checked) (os:=os) (X:=fun w _=>laidMetH Tryz.prog laidL w) false (wLaid os) #[.agg #[.int .i64 0,.bool false,.int .i64 0,.bool false,.bool false],.slice none 0 0,.slice none 0 0,.int .i64 0,.agg #[.int .i64 0,.bool false,.bool false,.int .i64 0,.int .i64 0,.int .i64 0,.bool false,.int .i64 0,.int .i64 0,.int .i64 0,.slice none 0 0,.int .i64 0,.int .i64 0,.slice none 0 0,.slice none 0 0,.slice none 0 0],.slice none 0 0,.string ByteArray.empty] 8 (wLaid_os os) (wLaid_shaped os _) (by kernel_rfl) (by kernel_rfl) (by kernel_rfl) (wLaid_met os _)) ?_
 intro W base args ds gs before hval0 hW _ hsz hL _
 have hval:∀(j:Nat) t v,Tryz.f3.params[j]? =some t→args[j]? =some v→Value.okWide Tryz.prog W .any base t v:=hval0
 have hW':=hW
 obtain ⟨p,q,hA0,hV0,rfl,_,_⟩ :=hW
 have hA:DataW.TrodAll enc Tryz.prog W 0 (fun _=>true) true Tryz.f3.params.toList args.toList ds p:=hA0
 have hV:DataW.TrodVars enc Tryz.prog W (fun _=>true) Rows.fnWholeSpec.vars gs q:=hV0
 have hA2:=hA
 rw[Tryz.params3] at hA2 hval
 obtain ⟨v1,vs1,d1,ds1,p1,q1,e1,rfl,rfl,h1,k1⟩ :=trodAll_cons hA2
 obtain ⟨v2,vs2,d2,ds2,p2,q2,e2,rfl,rfl,h2,k2⟩ :=trodAll_cons k1
 obtain ⟨v3,vs3,d3,ds3,p3,q3,e3,rfl,rfl,h3,k3⟩ :=trodAll_cons k2
 obtain ⟨v4,vs4,d4,ds4,p4,q4,e4,rfl,rfl,h4,k4⟩ :=trodAll_cons k3
 obtain ⟨v5,vs5,d5,ds5,p5,q5,e5,rfl,rfl,h5,k5⟩ :=trodAll_cons k4
 obtain ⟨v6,vs6,d6,ds6,p6,q6,e6,rfl,rfl,h6,k6⟩ :=trodAll_cons k5
 obtain ⟨v7,vs7,d7,ds7,p7,q7,e7,rfl,rfl,h7,k7⟩ :=trodAll_cons k6
 obtain ⟨e0,rfl,_⟩ :=trodAll_nil k7
 have ea:args.toList=[v1,v2,v3,v4,v5,v6,v7]:=by rw[e1,e2,e3,e4,e5,e6,e7,e0]
 have hv:∀(j:Nat) t v,(#[23,24,25,3,31,32,9]:Array TypeId)[j]? =some t→[v1,v2,v3,v4,v5,v6,v7][j]? =some v→Value.okWide Tryz.prog W .any base t v:=fun j t v h1 h2=>hval j t v h1 (by rw[←Array.getElem?_toList,ea];exact h2)
 obtain ⟨g1,g2,g3,g4,rfl⟩ :∃g1 g2 g3 g4,gs=[g1,g2,g3,g4]:=by
  have h:=trodVars_len3 hV
  have h4:Rows.fnWholeSpec.vars.length=4:=rfl
  rw[h4] at h
  match gs,h with
  | [a,b,c,d],_=>exact ⟨a,b,c,d,rfl⟩
 have w0:smallL ([23,24,25,3,31,32,9]++Rows.fnWholeSpec.plain.varTypes Tryz.prog) ([d1,d2,d3,d4,d5,d6,d7]++[g1,g2,g3,g4]):=fun n hn=>by
  have:=List.all_eq_true.1 hsz n (by rw[Tryz.params3];exact hn)
  simpa using this
 obtain ⟨s1,w1⟩ :=w_here w0
 obtain ⟨s2,w2⟩ :=w_here w1
 obtain ⟨s3,w3⟩ :=w_here w2
 obtain ⟨s4,w4⟩ :=w_here w3
 obtain ⟨s5,w5⟩ :=w_here w4
 obtain ⟨s6,w6⟩ :=w_here w5
 obtain ⟨s7,w7⟩ :=w_here w6
 obtain ⟨l,r1,_⟩ :=arg_agg rlayout (by kernel_rfl) (hv 0 _ _ rfl rfl) h1 s1
 obtain ⟨sp,r2,hsp⟩ :=arg_one rspans (by kernel_rfl) (hv 1 _ _ rfl rfl) h2 s2
 obtain ⟨us,r3, ⟨hus,hru⟩⟩ :=arg_one runits (by kernel_rfl) (hv 2 _ _ rfl rfl) h3 s3
 obtain ⟨k,r4,hk⟩ :=arg_one ri64 (by kernel_rfl) (hv 3 _ _ rfl rfl) h4 s4
 obtain ⟨t,r5, ⟨ht,hrt⟩⟩ :=arg_agg rtable (by kernel_rfl) (hv 4 _ _ rfl rfl) h5 s5
 obtain ⟨bf,r6,hbf⟩ :=arg_one rbytes (by kernel_rfl) (hv 5 _ _ rfl rfl) h6 s6
 obtain ⟨nm,r7,hnm⟩ :=arg_one rstr (by kernel_rfl) (hv 6 _ _ rfl rfl) h7 s7
 rw[MakeChecks.laidMetH_plain _ _ _ (by kernel_rfl)] at hL
 obtain ⟨G,g,hG,hT,hrel⟩ :=gok_laid laidL (List.mem_of_getElem? (i:=4) rfl) (List.mem_of_getElem? (i:=7) rfl) (List.mem_of_getElem? (i:=8) rfl) (List.mem_of_getElem? (i:=9) rfl) hL
 have hr:relT (memOf W) [.agg (layoutC l),spansV sp,unitsV us,intV k,.agg (tableC t),bytesV bf,strV nm] args.toList:=by
  rw[ea]
  exact ⟨v1,_,rfl,r1,v2,_,rfl,r2,v3,_,rfl,r3,v4,_,rfl,r4,v5,_,rfl,r5,v6,_,rfl,r6,v7,_,rfl,r7,rfl⟩
 exact post_true Tryz.func3 (by kernel_rfl) (by kernel_rfl) (f3_ok hG hT l sp us k t bf nm hsp hus hru ht hrt hbf hnm) hrel hr hW' hA hV (by kernel_rfl) (by kernel_rfl) (by kernel_rfl) rfl
theorem fnWhole_holds:Rows.FnWholeSaid:=
 OpenClaim.holds_of_wide 3 Tryz.f3 rfl rfl rfl rfl rfl rfl rfl ⟨rfl,rfl,rfl,rfl,rfl⟩ rfl rfl rfl rfl rfl jn3 Tryz.func3 jf3 ji3 jw3
  (fun os started H enc _=>fnWhole_lifted os started H enc)
theorem fnWhole_card:Rows.FnWholeCardSaid:=
 Claim7.holds_tied_plain_at .later [] [.data,.data,.data,.data,.sentinel,.data,.data,.mapped,.mapped,.mapped,.sentinel,.pinned,.pinned] true (true, "a8d57a4d82625d9a7ea48897b2bf8935f000bc4f999f6c90e4b175120b143ade") true
  fnWhole_holds (fun _ h=>by cases h) (by kernel_rfl) (fun _ h=>by cases h) fnWhole_row_tie rfl ⟨rfl,rfl⟩ (by kernel_rfl) rfl
  (fun f fn hf hfn=>by
   obtain rfl:f=3:=Option.some.inj ((show Tryz.prog.funcNamed "loop.example/pub-g03041/laws.FnWhole" =some 3 by kernel_rfl).symm.trans hf) |>.symm
   obtain rfl:fn=Tryz.f3:=(Option.some.inj (Tryz.func3.symm.trans hfn)).symm
   exact ⟨by kernel_rfl,fun j t ht=>by
    rw[Tryz.params3] at ht
    have hm:t∈[23,24,25,3,31,32,9]:=by simpa using Array.mem_of_getElem? ht
    have hall:([23,24,25,3,31,32,9].all fun u=>!Tryz.prog.wantsStandIn u)=true:=by kernel_rfl
    exact (show Tryz.prog.wantsStandIn t=false by simpa using List.all_eq_true.1 hall t hm)⟩)
  (by kernel_rfl)
end Go.Proofs.YtbkfdnkeelmloaaGreatDoor
