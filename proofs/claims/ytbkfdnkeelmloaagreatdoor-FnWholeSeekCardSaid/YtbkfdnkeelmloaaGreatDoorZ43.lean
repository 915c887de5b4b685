/- Part 43 of the proof: C5. -/
import Derived.Test.YtbkfdnkeelmloaaGreatDoorZ37
import Derived.Test.YtbkfdnkeelmloaaGreatDoorZ38
import Derived.Test.YtbkfdnkeelmloaaGreatDoorZ41
import Derived.Test.YtbkfdnkeelmloaaGreatDoorZ42
set_option linter.unusedVariables false
set_option linter.unusedSimpArgs false
namespace Go.Proofs.YtbkfdnkeelmloaaGreatDoor
set_option maxRecDepth 100000
open Go.AM Go Go.ChangeShapes Go.WideShapes Go.ChangeAt Go.RowKit
theorem trodVars_len4 {H:Type} {enc:TypeId×Value→H} {P:Program} {w:World} {sp:Nat→Bool}:∀{ns:List String} {gs:List (DataW H)} {ps:List MemPlace},DataW.TrodVars enc P w sp ns gs ps→gs.length=ns.length
 | [],[],_,_=>rfl
 | [],_ :: _,_,h=>h.elim
 |_ :: _,[],_,h=>h.elim
 |_ :: _,_ :: _,_, ⟨_,_,_,_,_,_,_,_,_,_,h,_⟩ =>by simp[trodVars_len4 h]
theorem fnWholeSeek_lifted (os:Os) (started:os.Started) (H:Type) (enc:TypeId×Value→H):
  ReturnsInHanded {} Tryz.checked os 4 .any (fun w args=>(Rows.fnWholeSeekSpec.pre enc Tryz.prog Tryz.f4 [] false w args∧laidMetH Tryz.prog laidL w)∧sizedMet enc Tryz.prog Tryz.f4 (OpenSpec.ofChange Rows.fnWholeSeekSpec) false w args)
   (Rows.fnWholeSeekSpec.post enc Tryz.prog Tryz.f4 false true false false):=by
 refine returnsInHanded_of_change_and (C:=Tryz.checked) (X:=fun w _=>laidMetH Tryz.prog laidL w) (fun _ _ _ hh h=>h.of_heap hh) own started (by kernel_rfl) Tryz.func4
  (ChangeSpec.witness_shaped (enc:=enc) (C:=Tryz.checked) (os:=os) (X:=fun w _=>laidMetH Tryz.prog laidL w) false (wLaid os) #[.agg #[.int .i64 0,.bool false,.int .i64 0,.bool false,.bool false],.slice none 0 0,.slice none 0 0,.int .i64 0,.agg #[.int .i64 0,.bool false,.bool false,.int .i64 0,.int .i64 0,.int .i64 0,.bool false,.int .i64 0,.int .i64 0,.int .i64 0,.slice none 0 0,.int .i64 0,.int .i64 0,.slice none 0 0,.slice none 0 0,.slice none 0 0],.int .u64 0] 8 (wLaid_os os) (wLaid_shaped os _) (by kernel_rfl) (by kernel_rfl) (by kernel_rfl) (wLaid_met os _)) ?_
 intro W base args ds gs before hval0 hW _ hsz hL _
 have hval:∀(j:Nat) t v,Tryz.f4.params[j]? =some t→args[j]? =some v→Value.okWide Tryz.prog W .any base t v:=hval0
 have hW':=hW
 obtain ⟨p,q,hA0,hV0,rfl,_,_⟩ :=hW
 have hA:DataW.TrodAll enc Tryz.prog W 0 (fun _=>true) true Tryz.f4.params.toList args.toList ds p:=hA0
 have hV:DataW.TrodVars enc Tryz.prog W (fun _=>true) Rows.fnWholeSeekSpec.vars gs q:=hV0
 have hA2:=hA
 rw[Tryz.params4] at hA2 hval
 obtain ⟨v1,vs1,d1,ds1,p1,q1,e1,rfl,rfl,h1,k1⟩ :=trodAll_cons hA2
 obtain ⟨v2,vs2,d2,ds2,p2,q2,e2,rfl,rfl,h2,k2⟩ :=trodAll_cons k1
 obtain ⟨v3,vs3,d3,ds3,p3,q3,e3,rfl,rfl,h3,k3⟩ :=trodAll_cons k2
 obtain ⟨v4,vs4,d4,ds4,p4,q4,e4,rfl,rfl,h4,k4⟩ :=trodAll_cons k3
 obtain ⟨v5,vs5,d5,ds5,p5,q5,e5,rfl,rfl,h5,k5⟩ :=trodAll_cons k4
 obtain ⟨v6,vs6,d6,ds6,p6,q6,e6,rfl,rfl,h6,k6⟩ :=trodAll_cons k5
 obtain ⟨e0,rfl,_⟩ :=trodAll_nil k6
 have ea:args.toList=[v1,v2,v3,v4,v5,v6]:=by rw[e1,e2,e3,e4,e5,e6,e0]
 have hv:∀(j:Nat) t v,(#[23,24,25,3,31,46]:Array TypeId)[j]? =some t→[v1,v2,v3,v4,v5,v6][j]? =some v→Value.okWide Tryz.prog W .any base t v:=fun j t v h1 h2=>hval j t v h1 (by rw[←Array.getElem?_toList,ea];exact h2)
 obtain ⟨g1,g2,g3,g4,rfl⟩ :∃g1 g2 g3 g4,gs=[g1,g2,g3,g4]:=by
  have h:=trodVars_len4 hV
  have h4:Rows.fnWholeSeekSpec.vars.length=4:=rfl
  rw[h4] at h
  match gs,h with
  | [a,b,c,d],_=>exact ⟨a,b,c,d,rfl⟩
 have w0:smallL ([23,24,25,3,31,46]++Rows.fnWholeSeekSpec.plain.varTypes Tryz.prog) ([d1,d2,d3,d4,d5,d6]++[g1,g2,g3,g4]):=fun n hn=>by
  have:=List.all_eq_true.1 hsz n (by rw[Tryz.params4];exact hn)
  simpa using this
 obtain ⟨s1,w1⟩ :=w_here w0
 obtain ⟨s2,w2⟩ :=w_here w1
 obtain ⟨s3,w3⟩ :=w_here w2
 obtain ⟨s4,w4⟩ :=w_here w3
 obtain ⟨s5,w5⟩ :=w_here w4
 obtain ⟨s6,w6⟩ :=w_here w5
 obtain ⟨l,r1,_⟩ :=arg_agg rlayout (by kernel_rfl) (hv 0 _ _ rfl rfl) h1 s1
 obtain ⟨sp,r2,hsp⟩ :=arg_one rspans (by kernel_rfl) (hv 1 _ _ rfl rfl) h2 s2
 obtain ⟨us,r3, ⟨hus,hru⟩⟩ :=arg_one runits (by kernel_rfl) (hv 2 _ _ rfl rfl) h3 s3
 obtain ⟨k,r4,hk⟩ :=arg_one ri64 (by kernel_rfl) (hv 3 _ _ rfl rfl) h4 s4
 obtain ⟨t,r5, ⟨ht,hrt⟩⟩ :=arg_agg rtable (by kernel_rfl) (hv 4 _ _ rfl rfl) h5 s5
 obtain ⟨pc,r6,hpc⟩ :=arg_one ru64 (by kernel_rfl) (hv 5 _ _ rfl rfl) h6 s6
 rw[MakeChecks.laidMetH_plain _ _ _ (by kernel_rfl)] at hL
 obtain ⟨G,g,hG,hT,hrel⟩ :=gok_laid laidL (List.mem_of_getElem? (i:=4) rfl) (List.mem_of_getElem? (i:=7) rfl) (List.mem_of_getElem? (i:=8) rfl) (List.mem_of_getElem? (i:=9) rfl) hL
 have hr:relT (memOf W) [.agg (layoutC l),spansV sp,unitsV us,intV k,.agg (tableC t),u64V pc] args.toList:=by
  rw[ea]
  exact ⟨v1,_,rfl,r1,v2,_,rfl,r2,v3,_,rfl,r3,v4,_,rfl,r4,v5,_,rfl,r5,v6,_,rfl,r6,rfl⟩
 exact post_true Tryz.func4 (by kernel_rfl) (by kernel_rfl) (f4_ok hG hT l sp us k t pc hsp hus hru ht hrt) hrel hr hW' hA hV (by kernel_rfl) (by kernel_rfl) (by kernel_rfl) rfl
theorem fnWholeSeek_holds:Rows.FnWholeSeekSaid:=
 OpenClaim.holds_of_wide 4 Tryz.f4 rfl rfl rfl rfl rfl rfl rfl ⟨rfl,rfl,rfl,rfl,rfl⟩ rfl rfl rfl rfl rfl jn4 Tryz.func4 jf4 ji4 jw4
  (fun os started H enc _=>fnWholeSeek_lifted os started H enc)
theorem fnWholeSeek_card:Rows.FnWholeSeekCardSaid:=
 Claim7.holds_tied_plain_at .later [] [.data,.data,.data,.data,.sentinel,.data,.data,.mapped,.mapped,.mapped,.sentinel,.pinned,.pinned] true (true, "a8d57a4d82625d9a7ea48897b2bf8935f000bc4f999f6c90e4b175120b143ade") true
  fnWholeSeek_holds (fun _ h=>by cases h) (by kernel_rfl) (fun _ h=>by cases h) fnWholeSeek_row_tie rfl ⟨rfl,rfl⟩ (by kernel_rfl) rfl
  (fun f fn hf hfn=>by
   obtain rfl:f=4:=Option.some.inj ((show Tryz.prog.funcNamed "loop.example/pub-g03041/laws.FnWholeSeek" =some 4 by kernel_rfl).symm.trans hf) |>.symm
   obtain rfl:fn=Tryz.f4:=(Option.some.inj (Tryz.func4.symm.trans hfn)).symm
   exact ⟨by kernel_rfl,fun j t ht=>by
    rw[Tryz.params4] at ht
    have hm:t∈[23,24,25,3,31,46]:=by simpa using Array.mem_of_getElem? ht
    have hall:([23,24,25,3,31,46].all fun u=>!Tryz.prog.wantsStandIn u)=true:=by kernel_rfl
    exact (show Tryz.prog.wantsStandIn t=false by simpa using List.all_eq_true.1 hall t hm)⟩)
  (by kernel_rfl)
end Go.Proofs.YtbkfdnkeelmloaaGreatDoor
