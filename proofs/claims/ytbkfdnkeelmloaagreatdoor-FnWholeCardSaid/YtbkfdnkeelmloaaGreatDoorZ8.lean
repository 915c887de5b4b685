/- Part 8 of the proof: G1 G2 G3. -/
import Derived.Test.YtbkfdnkeelmloaaGreatDoorZ7
set_option linter.unusedVariables false
set_option linter.unusedSimpArgs false
namespace Go.Proofs.YtbkfdnkeelmloaaGreatDoor
set_option maxRecDepth 10000
open Go.AM Go
section
variable {G:Nat→AV}
theorem fits_of {n:Nat}:(2147483647 < (n:Int))→fits n=false:=fun h=>by simp[fits];omega
theorem fits_to {n:Nat}:((n:Int)≤2147483647)→fits n=true:=fun h=>by simp[fits];omega
theorem f23_ok (s:SpanD) (h:okSpan s):Fulfils Tryz.prog G 23 [.agg (spanC s)] [] (retP (booV (fitsSpan s))):=by
 have hbig:big=140737488355328:=rfl
 refine fulfilP (fn:=Tryz.f23) (rs:=[.tmp 2]) (Tryz.f23.body.getD .skip) (by kernel_rfl) rfl rfl rfl (by simp only[List.length_cons,List.length_nil];decide) rfl (by decide) ?_
 simp only[Tryz.f23,Option.getD_some,go_sem]
 repeat' first|refine s1 ?_|refine hRegion (sim ?_)|refine hSkip (sim ?_)|refine hRet (sim ?_)|refine s7 rfl (fun hb=>?_) fun hb=>?_|refine fun (_:Outc)=>?_|(refine done_pure sT ?_;refine sim ?_)|fail
 ·rw[fitsSpan,fits_of hb]
 ·rw[fitsSpan,fits_to hb]
theorem f5_ok (l:List SpanD) (h:okSpans l):Fulfils Tryz.prog G 5 [spansV l] [] (retP (booV (fitsSpans l))):=by
 have hbig:big=140737488355328:=rfl
 have hl:=h.1
 refine fulfilP (fn:=Tryz.f5) (rs:=[.tmp 2]) (Tryz.f5.body.getD .skip) (by kernel_rfl) rfl rfl rfl (by simp only[List.length_cons,List.length_nil];decide) rfl (by decide) ?_
 simp only[Tryz.f5,Option.getD_some,go_sem]
 repeat' first|refine s1 ?_|refine s2 ?_|refine hRegion (sim ?_)|refine hSkip (sim ?_)|refine hRet (sim ?_)|refine s7 rfl (fun hb=>?_) fun hb=>?_|(refine done_pure sT ?_;refine sim ?_)|fail
 ·rw[fitsSpans,fits_of hb];rfl
 refine hLoop (X:=Upto l fitsSpan) (fun i=> ⟨[(10,intV i.1),(9,intV l.length),(8,spansV l)],[]⟩) (fun i=>l.length - i.1) ⟨0,by simp⟩ (by refine sim ?_;simp) ?_
 rintro ⟨i,hi,hall⟩
 simp only[go_sem]
 (repeat' first|refine s1 ?_|refine hRegion (sim ?_));refine s7 rfl ?_ ?_<;>intro hb'
 ·obtain ⟨x,hx⟩ :=getX l (i:=i) (by omega)
  have e:=row_at spanC hx
  repeat' first|refine s1 ?_|refine s2 ?_|refine hRegion (simE @e ?_)|refine hSkip (simE @e ?_)|refine And.intro ?_ ?_|refine fun (_:Outc)=>?_|fail
  ·omega
  ·omega
  ·refine callP (f23_ok x (h.2 x (List.mem_of_getElem? hx))) rfl ?_;refine sim ?_
   repeat' first|refine s1 ?_|refine hRegion (sim ?_)|refine hSkip (sim ?_)|refine hRet (sim ?_)|refine s7 rfl (fun hb=>?_) fun hb=>?_|(refine done_pure sT ?_;refine sim ?_)|fail
   ·rw[fitsSpans,all_no hx hb,Bool.and_false]
   ·exact ⟨⟨i+1,by omega,all_take hx hall hb⟩,by rw[wrap_i64 (by omega) (by omega)];simp,by dsimp only;omega⟩
 ·repeat' first|refine s1 ?_|refine hRegion (sim ?_)|refine hExit (sim ?_)|refine hRet (sim ?_)|(refine done_pure sT ?_;refine sim ?_)|fail
  rw[fitsSpans,all_full (by omega) hall,fits_to hb];rfl
theorem f172_ok (a:AttrD) (h:okAttr a):Fulfils Tryz.prog G 172 [.agg (attrC a)] [] (retP (booV (fitsAttr a))):=by
 have hbig:big=140737488355328:=rfl
 refine fulfilP (fn:=Tryz.f172) (rs:=[.tmp 2]) (Tryz.f172.body.getD .skip) (by kernel_rfl) rfl rfl rfl (by simp only[List.length_cons,List.length_nil];decide) rfl (by decide) ?_
 simp only[Tryz.f172,Option.getD_some,go_sem]
 repeat' first|refine s1 ?_|refine hRegion (sim ?_)|refine hSkip (sim ?_)|refine hRet (sim ?_)|refine s7 rfl (fun hb=>?_) fun hb=>?_|refine fun (_:Outc)=>?_|(refine done_pure sT ?_;refine sim ?_)|fail
 ·rw[fitsAttr,fits_of hb,Bool.false_and]
 ·rw[fitsAttr,fits_of hb,Bool.and_false]
 ·rename_i hb1
  rw[fitsAttr,fits_to hb,fits_to hb1];rfl
theorem f152_ok (l:List AttrD) (h:okAttrs l):Fulfils Tryz.prog G 152 [attrsV l] [] (retP (booV (fitsAttrs l))):=by
 have hbig:big=140737488355328:=rfl
 have hl:=h.1
 refine fulfilP (fn:=Tryz.f152) (rs:=[.tmp 2]) (Tryz.f152.body.getD .skip) (by kernel_rfl) rfl rfl rfl (by simp only[List.length_cons,List.length_nil];decide) rfl (by decide) ?_
 simp only[Tryz.f152,Option.getD_some,go_sem]
 repeat' first|refine s1 ?_|refine s2 ?_|refine hRegion (sim ?_)|refine hSkip (sim ?_)|refine hRet (sim ?_)|refine s7 rfl (fun hb=>?_) fun hb=>?_|(refine done_pure sT ?_;refine sim ?_)|fail
 ·rw[fitsAttrs,fits_of hb];rfl
 refine hLoop (X:=Upto l fitsAttr) (fun i=> ⟨[(10,intV i.1),(9,intV l.length),(8,attrsV l)],[]⟩) (fun i=>l.length - i.1) ⟨0,by simp⟩ (by refine sim ?_;simp) ?_
 rintro ⟨i,hi,hall⟩
 simp only[go_sem]
 (repeat' first|refine s1 ?_|refine hRegion (sim ?_));refine s7 rfl ?_ ?_<;>intro hb'
 ·obtain ⟨x,hx⟩ :=getX l (i:=i) (by omega)
  have e:=row_at attrC hx
  repeat' first|refine s1 ?_|refine s2 ?_|refine hRegion (simE @e ?_)|refine hSkip (simE @e ?_)|refine And.intro ?_ ?_|refine fun (_:Outc)=>?_|fail
  ·omega
  ·omega
  ·refine callP (f172_ok x (h.2 x (List.mem_of_getElem? hx))) rfl ?_;refine sim ?_
   repeat' first|refine s1 ?_|refine hRegion (sim ?_)|refine hSkip (sim ?_)|refine hRet (sim ?_)|refine s7 rfl (fun hb=>?_) fun hb=>?_|(refine done_pure sT ?_;refine sim ?_)|fail
   ·rw[fitsAttrs,all_no hx hb,Bool.and_false]
   ·exact ⟨⟨i+1,by omega,all_take hx hall hb⟩,by rw[wrap_i64 (by omega) (by omega)];simp,by dsimp only;omega⟩
 ·repeat' first|refine s1 ?_|refine hRegion (sim ?_)|refine hExit (sim ?_)|refine hRet (sim ?_)|(refine done_pure sT ?_;refine sim ?_)|fail
  rw[fitsAttrs,all_full (by omega) hall,fits_to hb];rfl
theorem f108_ok (n:NodeD) (h:okNode n):Fulfils Tryz.prog G 108 [.agg (nodeC n)] [] (retP (booV (fitsNode n))):=by
 have hbig:big=140737488355328:=rfl
 refine fulfilP (fn:=Tryz.f108) (rs:=[.tmp 2]) (Tryz.f108.body.getD .skip) (by kernel_rfl) rfl rfl rfl (by simp only[List.length_cons,List.length_nil];decide) rfl (by decide) ?_
 simp only[Tryz.f108,Option.getD_some,go_sem]
 repeat' first|refine s1 ?_|refine hRegion (sim ?_)|refine fun (_:Outc)=>?_|fail
 refine callP (f152_ok _ h) rfl ?_;refine sim ?_
 repeat' first|refine s1 ?_|refine hRegion (sim ?_)|refine hSkip (sim ?_)|refine hRet (sim ?_)|refine s7 rfl (fun hb=>?_) fun hb=>?_|(refine done_pure sT ?_;refine sim ?_)|fail
 ·rw[fitsNode,hb]
 ·rw[fitsNode,hb]
theorem f59_ok (l:List NodeD) (h:okNodes l):Fulfils Tryz.prog G 59 [nodesV l] [] (retP (booV (fitsNodes l))):=by
 have hbig:big=140737488355328:=rfl
 have hl:=h.1
 refine fulfilP (fn:=Tryz.f59) (rs:=[.tmp 2]) (Tryz.f59.body.getD .skip) (by kernel_rfl) rfl rfl rfl (by simp only[List.length_cons,List.length_nil];decide) rfl (by decide) ?_
 simp only[Tryz.f59,Option.getD_some,go_sem]
 repeat' first|refine s1 ?_|refine s2 ?_|refine hRegion (sim ?_)|refine hSkip (sim ?_)|refine hRet (sim ?_)|refine s7 rfl (fun hb=>?_) fun hb=>?_|(refine done_pure sT ?_;refine sim ?_)|fail
 ·rw[fitsNodes,fits_of hb];rfl
 refine hLoop (X:=Upto l fitsNode) (fun i=> ⟨[(10,intV i.1),(9,intV l.length),(8,nodesV l)],[]⟩) (fun i=>l.length - i.1) ⟨0,by simp⟩ (by refine sim ?_;simp) ?_
 rintro ⟨i,hi,hall⟩
 simp only[go_sem]
 (repeat' first|refine s1 ?_|refine hRegion (sim ?_));refine s7 rfl ?_ ?_<;>intro hb'
 ·obtain ⟨x,hx⟩ :=getX l (i:=i) (by omega)
  have e:=row_at nodeC hx
  repeat' first|refine s1 ?_|refine s2 ?_|refine hRegion (simE @e ?_)|refine hSkip (simE @e ?_)|refine And.intro ?_ ?_|refine fun (_:Outc)=>?_|fail
  ·omega
  ·omega
  ·refine callP (f108_ok x (h.2 x (List.mem_of_getElem? hx))) rfl ?_;refine sim ?_
   repeat' first|refine s1 ?_|refine hRegion (sim ?_)|refine hSkip (sim ?_)|refine hRet (sim ?_)|refine s7 rfl (fun hb=>?_) fun hb=>?_|(refine done_pure sT ?_;refine sim ?_)|fail
   ·rw[fitsNodes,all_no hx hb,Bool.and_false]
   ·exact ⟨⟨i+1,by omega,all_take hx hall hb⟩,by rw[wrap_i64 (by omega) (by omega)];simp,by dsimp only;omega⟩
 ·repeat' first|refine s1 ?_|refine hRegion (sim ?_)|refine hExit (sim ?_)|refine hRet (sim ?_)|(refine done_pure sT ?_;refine sim ?_)|fail
  rw[fitsNodes,all_full (by omega) hall,fits_to hb];rfl
theorem f24_ok (u:UnitD) (h:okUnit u):Fulfils Tryz.prog G 24 [.agg (unitC u)] [] (retP (booV (fitsUnit u))):=by
 have hbig:big=140737488355328:=rfl
 refine fulfilP (fn:=Tryz.f24) (rs:=[.tmp 2]) (Tryz.f24.body.getD .skip) (by kernel_rfl) rfl rfl rfl (by simp only[List.length_cons,List.length_nil];decide) rfl (by decide) ?_
 simp only[Tryz.f24,Option.getD_some,go_sem]
 repeat' first|refine s1 ?_|refine hRegion (sim ?_)|refine fun (_:Outc)=>?_|fail
 refine callP (f59_ok _ h) rfl ?_;refine sim ?_
 repeat' first|refine s1 ?_|refine hRegion (sim ?_)|refine hSkip (sim ?_)|refine hRet (sim ?_)|refine s7 rfl (fun hb=>?_) fun hb=>?_|(refine done_pure sT ?_;refine sim ?_)|fail
 ·rw[fitsUnit,hb]
 ·rw[fitsUnit,hb]
theorem f6_ok (l:List UnitD) (h:okUnits l):Fulfils Tryz.prog G 6 [unitsV l] [] (retP (booV (fitsUnits l))):=by
 have hbig:big=140737488355328:=rfl
 have hl:=h.1
 refine fulfilP (fn:=Tryz.f6) (rs:=[.tmp 2]) (Tryz.f6.body.getD .skip) (by kernel_rfl) rfl rfl rfl (by simp only[List.length_cons,List.length_nil];decide) rfl (by decide) ?_
 simp only[Tryz.f6,Option.getD_some,go_sem]
 repeat' first|refine s1 ?_|refine s2 ?_|refine hRegion (sim ?_)|refine hSkip (sim ?_)|refine hRet (sim ?_)|refine s7 rfl (fun hb=>?_) fun hb=>?_|(refine done_pure sT ?_;refine sim ?_)|fail
 ·rw[fitsUnits,fits_of hb];rfl
 refine hLoop (X:=Upto l fitsUnit) (fun i=> ⟨[(10,intV i.1),(9,intV l.length),(8,unitsV l)],[]⟩) (fun i=>l.length - i.1) ⟨0,by simp⟩ (by refine sim ?_;simp) ?_
 rintro ⟨i,hi,hall⟩
 simp only[go_sem]
 (repeat' first|refine s1 ?_|refine hRegion (sim ?_));refine s7 rfl ?_ ?_<;>intro hb'
 ·obtain ⟨x,hx⟩ :=getX l (i:=i) (by omega)
  have e:=row_at unitC hx
  repeat' first|refine s1 ?_|refine s2 ?_|refine hRegion (simE @e ?_)|refine hSkip (simE @e ?_)|refine And.intro ?_ ?_|refine fun (_:Outc)=>?_|fail
  ·omega
  ·omega
  ·refine callP (f24_ok x (h.2 x (List.mem_of_getElem? hx))) rfl ?_;refine sim ?_
   repeat' first|refine s1 ?_|refine hRegion (sim ?_)|refine hSkip (sim ?_)|refine hRet (sim ?_)|refine s7 rfl (fun hb=>?_) fun hb=>?_|(refine done_pure sT ?_;refine sim ?_)|fail
   ·rw[fitsUnits,all_no hx hb,Bool.and_false]
   ·exact ⟨⟨i+1,by omega,all_take hx hall hb⟩,by rw[wrap_i64 (by omega) (by omega)];simp,by dsimp only;omega⟩
 ·repeat' first|refine s1 ?_|refine hRegion (sim ?_)|refine hExit (sim ?_)|refine hRet (sim ?_)|(refine done_pure sT ?_;refine sim ?_)|fail
  rw[fitsUnits,all_full (by omega) hall,fits_to hb];rfl
theorem f60_ok (f:FileD) (h:okFile f):Fulfils Tryz.prog G 60 [.agg (fileC f)] [] (retP (booV (fitsFile f))):=by
 have hbig:big=140737488355328:=rfl
 refine fulfilP (fn:=Tryz.f60) (rs:=[.tmp 2]) (Tryz.f60.body.getD .skip) (by kernel_rfl) rfl rfl rfl (by simp only[List.length_cons,List.length_nil];decide) rfl (by decide) ?_
 simp only[Tryz.f60,Option.getD_some,go_sem]
 repeat' first|refine s1 ?_|refine hRegion (sim ?_)|refine hSkip (sim ?_)|refine hRet (sim ?_)|refine s7 rfl (fun hb=>?_) fun hb=>?_|refine fun (_:Outc)=>?_|(refine done_pure sT ?_;refine sim ?_)|fail
 ·rw[fitsFile,fits_of hb]
 ·rw[fitsFile,fits_to hb]
theorem f26_ok (l:List FileD) (h:okFiles l):Fulfils Tryz.prog G 26 [filesV l] [] (retP (booV (fitsFiles l))):=by
 have hbig:big=140737488355328:=rfl
 have hl:=h.1
 refine fulfilP (fn:=Tryz.f26) (rs:=[.tmp 2]) (Tryz.f26.body.getD .skip) (by kernel_rfl) rfl rfl rfl (by simp only[List.length_cons,List.length_nil];decide) rfl (by decide) ?_
 simp only[Tryz.f26,Option.getD_some,go_sem]
 repeat' first|refine s1 ?_|refine s2 ?_|refine hRegion (sim ?_)|refine hSkip (sim ?_)|refine hRet (sim ?_)|refine s7 rfl (fun hb=>?_) fun hb=>?_|(refine done_pure sT ?_;refine sim ?_)|fail
 ·rw[fitsFiles,fits_of hb];rfl
 refine hLoop (X:=Upto l fitsFile) (fun i=> ⟨[(10,intV i.1),(9,intV l.length),(8,filesV l)],[]⟩) (fun i=>l.length - i.1) ⟨0,by simp⟩ (by refine sim ?_;simp) ?_
 rintro ⟨i,hi,hall⟩
 simp only[go_sem]
 (repeat' first|refine s1 ?_|refine hRegion (sim ?_));refine s7 rfl ?_ ?_<;>intro hb'
 ·obtain ⟨x,hx⟩ :=getX l (i:=i) (by omega)
  have e:=row_at fileC hx
  repeat' first|refine s1 ?_|refine s2 ?_|refine hRegion (simE @e ?_)|refine hSkip (simE @e ?_)|refine And.intro ?_ ?_|refine fun (_:Outc)=>?_|fail
  ·omega
  ·omega
  ·refine callP (f60_ok x (h.2 x (List.mem_of_getElem? hx))) rfl ?_;refine sim ?_
   repeat' first|refine s1 ?_|refine hRegion (sim ?_)|refine hSkip (sim ?_)|refine hRet (sim ?_)|refine s7 rfl (fun hb=>?_) fun hb=>?_|(refine done_pure sT ?_;refine sim ?_)|fail
   ·rw[fitsFiles,all_no hx hb,Bool.and_false]
   ·exact ⟨⟨i+1,by omega,all_take hx hall hb⟩,by rw[wrap_i64 (by omega) (by omega)];simp,by dsimp only;omega⟩
 ·repeat' first|refine s1 ?_|refine hRegion (sim ?_)|refine hExit (sim ?_)|refine hRet (sim ?_)|(refine done_pure sT ?_;refine sim ?_)|fail
  rw[fitsFiles,all_full (by omega) hall,fits_to hb];rfl
theorem f61_ok (o:OpD) (h:okOp o):Fulfils Tryz.prog G 61 [.agg (opC o)] [] (retP (booV (fitsOp o))):=by
 have hbig:big=140737488355328:=rfl
 refine fulfilP (fn:=Tryz.f61) (rs:=[.tmp 2]) (Tryz.f61.body.getD .skip) (by kernel_rfl) rfl rfl rfl (by simp only[List.length_cons,List.length_nil];decide) rfl (by decide) ?_
 simp only[Tryz.f61,Option.getD_some,go_sem]
 repeat' first|refine s1 ?_|refine hRegion (sim ?_)|refine fun (_:Outc)=>?_|fail
 refine callP (f60_ok o.file h) rfl ?_;refine sim ?_
 repeat' first|refine s1 ?_|refine hRegion (sim ?_)|refine hSkip (sim ?_)|refine hRet (sim ?_)|refine s7 rfl (fun hb=>?_) fun hb=>?_|(refine done_pure sT ?_;refine sim ?_)|fail
 ·rw[fitsOp,hb]
 ·rw[fitsOp,hb]
theorem f27_ok (l:List OpD) (h:okOps l):Fulfils Tryz.prog G 27 [opsV l] [] (retP (booV (fitsOps l))):=by
 have hbig:big=140737488355328:=rfl
 have hl:=h.1
 refine fulfilP (fn:=Tryz.f27) (rs:=[.tmp 2]) (Tryz.f27.body.getD .skip) (by kernel_rfl) rfl rfl rfl (by simp only[List.length_cons,List.length_nil];decide) rfl (by decide) ?_
 simp only[Tryz.f27,Option.getD_some,go_sem]
 repeat' first|refine s1 ?_|refine s2 ?_|refine hRegion (sim ?_)|refine hSkip (sim ?_)|refine hRet (sim ?_)|refine s7 rfl (fun hb=>?_) fun hb=>?_|(refine done_pure sT ?_;refine sim ?_)|fail
 ·rw[fitsOps,fits_of hb];rfl
 refine hLoop (X:=Upto l fitsOp) (fun i=> ⟨[(10,intV i.1),(9,intV l.length),(8,opsV l)],[]⟩) (fun i=>l.length - i.1) ⟨0,by simp⟩ (by refine sim ?_;simp) ?_
 rintro ⟨i,hi,hall⟩
 simp only[go_sem]
 (repeat' first|refine s1 ?_|refine hRegion (sim ?_));refine s7 rfl ?_ ?_<;>intro hb'
 ·obtain ⟨x,hx⟩ :=getX l (i:=i) (by omega)
  have e:=row_at opC hx
  repeat' first|refine s1 ?_|refine s2 ?_|refine hRegion (simE @e ?_)|refine hSkip (simE @e ?_)|refine And.intro ?_ ?_|refine fun (_:Outc)=>?_|fail
  ·omega
  ·omega
  ·refine callP (f61_ok x (h.2 x (List.mem_of_getElem? hx))) rfl ?_;refine sim ?_
   repeat' first|refine s1 ?_|refine hRegion (sim ?_)|refine hSkip (sim ?_)|refine hRet (sim ?_)|refine s7 rfl (fun hb=>?_) fun hb=>?_|(refine done_pure sT ?_;refine sim ?_)|fail
   ·rw[fitsOps,all_no hx hb,Bool.and_false]
   ·exact ⟨⟨i+1,by omega,all_take hx hall hb⟩,by rw[wrap_i64 (by omega) (by omega)];simp,by dsimp only;omega⟩
 ·repeat' first|refine s1 ?_|refine hRegion (sim ?_)|refine hExit (sim ?_)|refine hRet (sim ?_)|(refine done_pure sT ?_;refine sim ?_)|fail
  rw[fitsOps,all_full (by omega) hall,fits_to hb];rfl
theorem f25_ok (l:List Bytes) (h:okStrs l):Fulfils Tryz.prog G 25 [strsV l] [] (retP (booV (fitsStrs l))):=by
 have hbig:big=140737488355328:=rfl
 have hl:=h.1
 refine fulfilP (fn:=Tryz.f25) (rs:=[.tmp 2]) (Tryz.f25.body.getD .skip) (by kernel_rfl) rfl rfl rfl (by simp only[List.length_cons,List.length_nil];decide) rfl (by decide) ?_
 simp only[Tryz.f25,Option.getD_some,go_sem]
 repeat' first|refine s1 ?_|refine s2 ?_|refine hRegion (sim ?_)|refine hSkip (sim ?_)|refine hRet (sim ?_)|refine s7 rfl (fun hb=>?_) fun hb=>?_|(refine done_pure sT ?_;refine sim ?_)|fail
 ·rw[fitsStrs,fits_of hb];rfl
 refine hLoop (X:=Upto l fun s=>fits s.length) (fun i=> ⟨[(10,intV i.1),(9,intV l.length),(8,strsV l)],[]⟩) (fun i=>l.length - i.1) ⟨0,by simp⟩ (by refine sim ?_;simp) ?_
 rintro ⟨i,hi,hall⟩
 simp only[go_sem]
 (repeat' first|refine s1 ?_|refine hRegion (sim ?_));refine s7 rfl ?_ ?_<;>intro hb'
 ·obtain ⟨x,hx⟩ :=getX l (i:=i) (by omega)
  have e:=row_at (fun s=>[strV s]) hx
  simp only[go_sem] at e
  repeat' first|refine s1 ?_|refine s2 ?_|refine hRegion (simE @e ?_)|refine hSkip (simE @e ?_)|refine hRet (simE @e ?_)|refine s7 rfl (fun hb=>?_) fun hb=>?_|refine And.intro ?_ ?_|(refine done_pure sT ?_;refine sim ?_)|fail
  ·omega
  ·omega
  ·rw[fitsStrs,all_no hx (fits_of hb),Bool.and_false]
  ·exact ⟨⟨i+1,by omega,all_take hx hall (fits_to hb)⟩,by rw[wrap_i64 (by omega) (by omega)];simp,by dsimp only;omega⟩
 ·repeat' first|refine s1 ?_|refine hRegion (sim ?_)|refine hExit (sim ?_)|refine hRet (sim ?_)|(refine done_pure sT ?_;refine sim ?_)|fail
  rw[fitsStrs,all_full (by omega) hall,fits_to hb];rfl
theorem f7_ok (t:TableD) (h:okTable t):Fulfils Tryz.prog G 7 [.agg (tableC t)] [] (retP (booV (fitsTable t))):=by
 have hbig:big=140737488355328:=rfl
 refine fulfilP (fn:=Tryz.f7) (rs:=[.tmp 2]) (Tryz.f7.body.getD .skip) (by kernel_rfl) rfl rfl rfl (by simp only[List.length_cons,List.length_nil];decide) rfl (by decide) ?_
 simp only[Tryz.f7,Option.getD_some,go_sem]
 repeat' first|refine s1 ?_|refine hRegion (sim ?_)|refine hSkip (sim ?_)|refine hRet (sim ?_)|refine s7 rfl (fun hb=>?_) fun hb=>?_|refine fun (_:Outc)=>?_|(refine done_pure sT ?_;refine sim ?_)|fail
 ·rw[fitsTable,fits_of hb];rfl
 refine callP (f25_ok _ h.2.1) rfl ?_;refine sim ?_
 repeat' first|refine s1 ?_|refine hRegion (sim ?_)|refine hSkip (sim ?_)|refine hRet (sim ?_)|refine s7 rfl (fun hb=>?_) fun hb=>?_|(refine done_pure sT ?_;refine sim ?_)|fail
 ·rw[fitsTable,hb];simp
 refine callP (f26_ok _ h.2.2.1) rfl ?_;refine sim ?_
 repeat' first|refine s1 ?_|refine hRegion (sim ?_)|refine hSkip (sim ?_)|refine hRet (sim ?_)|refine s7 rfl (fun hb=>?_) fun hb=>?_|(refine done_pure sT ?_;refine sim ?_)|fail
 ·rw[fitsTable,hb];simp
 refine callP (f27_ok _ h.2.2.2) rfl ?_;refine sim ?_
 repeat' first|refine s1 ?_|refine hRegion (sim ?_)|refine hSkip (sim ?_)|refine hRet (sim ?_)|refine s7 rfl (fun hb=>?_) fun hb=>?_|(refine done_pure sT ?_;refine sim ?_)|fail
 ·rw[fitsTable,hb];simp
 ·rename_i h1 h2 h3
  rw[fitsTable,fits_to h1,h2,h3,hb];rfl
end
set_option maxRecDepth 10000
open Go.AM Go
theorem mixed:Tryz.prog.follows .mixedOrders=true:=by kernel_rfl
section
variable {G:Nat→AV}
def offsetSize (u:UnitD):Int:=if u.wide=true then 8 else 4
theorem f153_ok (u:UnitD):Fulfils Tryz.prog G 153 [.agg (unitC u)] [] (retP (intV (offsetSize u))):=by
 refine fulfilP (fn:=Tryz.f153) (rs:=[.tmp 2]) (Tryz.f153.body.getD .skip) (by kernel_rfl) rfl rfl rfl (by simp only[List.length_cons,List.length_nil];decide) rfl (by decide) ?_
 simp only[Tryz.f153,Option.getD_some,go_sem]
 repeat' first|refine s1 ?_|refine hRegion (sim ?_)|refine hSkip (sim ?_)|refine hRet (sim ?_)|refine s7 rfl (fun hb=>?_) fun hb=>?_|refine fun (_:Outc)=>?_|(refine done_pure sT ?_;refine sim ?_)|fail
 ·rw[offsetSize,if_pos hb]
 ·rw[offsetSize,if_neg (by simp[hb])]
def sizeOf' (u:UnitD) (form:Int):Int:=
 if form=11∨form=12∨form=17 then 1 else if form=5∨form=18 then 2 else if form=6∨form=19 then 4 else if form=7∨form=20∨form=32 then 8
 else if form=1 then u.size else if form=16 then (if u.version=2 then u.size else offsetSize u) else if form=23 then offsetSize u else 0
theorem f110_ok (u:UnitD) (form:Int):Fulfils Tryz.prog G 110 [.agg (unitC u),intV form] [] (retP (intV (sizeOf' u form))):=by
 refine fulfilP (fn:=Tryz.f110) (rs:=[.tmp 4]) (Tryz.f110.body.getD .skip) (by kernel_rfl) rfl rfl rfl (by simp only[List.length_cons,List.length_nil];decide) rfl (by decide) ?_
 simp only[Tryz.f110,Option.getD_some,go_sem]
 repeat' first|refine s1 ?_|refine s2 ?_|refine hRegion (sim ?_)|refine hSkip (sim ?_)|refine hRet (sim ?_)|(refine s7 rfl ?_ ?_<;>intro hb<;>first|(exfalso;omega)|skip)|refine fun (_:Outc)=>?_|(refine done_pure sT ?_;refine sim ?_)|fail
 all_goals first|(simp only[sizeOf', *];simp;done)|(refine callP (f153_ok u) rfl ?_;refine sim ?_;repeat' first|refine hRet (sim ?_)|(refine done_pure sT ?_;refine sim ?_)|fail)
 all_goals (simp only[sizeOf', *];simp)
def classOf (v a f:Int):Int×Bool:=
 if f=1 then (1,a == 17 || a == 82) else if f=3∨f=4∨f=9∨f=10 then (2,a == 28)
 else if f=5∨f=11∨f=13∨f=15 then (3,a == 11 || a == 28 || a == 59) else if f=6∨f=7 then (3,a == 11 || a == 59)
 else if f=33 then (3,decide (v > 4) && (a == 11 || a == 28 || a == 59)) else if f=12 then (5,a == 63 || a == 52)
 else if f=25 then (5,decide (v > 3) && (a == 63 || a == 52)) else if f=16∨f=17∨f=18∨f=19∨f=20∨f=21 then (10,a == 73 || a == 49)
 else if f=32 then (11,decide (v > 3) && a == 73) else if f=8∨f=14 then (12,a == 3 || a == 27 || a == 37)
 else if f=31 then (12,decide (v > 4) && (a == 3 || a == 27 || a == 37)) else if f=24 then (4,decide (v > 3) && (a == 2 || a == 64))
 else if f=23 then (6,decide (v > 3) && a == 16) else (0,false)
set_option maxHeartbeats 4000000 in
theorem f109_ok (v a f:Int):Fulfils Tryz.prog G 109 [intV v,intV a,intV f] [] (retP (.tup [intV (classOf v a f).1,booV (classOf v a f).2])):=by
 refine fulfilP (fn:=Tryz.f109) (rs:=[.tmp 6,.tmp 7]) (Tryz.f109.body.getD .skip) (by kernel_rfl) rfl rfl rfl (by simp only[List.length_cons,List.length_nil];decide) rfl (by decide) ?_
 simp only[Tryz.f109,Option.getD_some,go_sem]
 repeat' first|refine s1 ?_|refine s2 ?_|refine hRegion (sim ?_)|refine hSkip (sim ?_)|refine hRet (sim ?_)|(refine s7 rfl ?_ ?_<;>intro hb<;>first|(exfalso;omega)|skip)|refine And.intro ?_ ?_|(refine done_pure sT ?_;refine sim ?_)|fail
 all_goals first|(subst hb;rfl)|(subst hb;simp[classOf];done)|(intro h;exact ⟨h,fun h2=>by simp[h,h2]⟩)|(simp only[classOf, *];simp;done)|skip
end
set_option maxRecDepth 10000
open Go.AM Go
section
variable {G:Nat→AV}
def depthOf (x:NodeD) (d:Int):Int:=if x.tag=0 then d - 1 else if x.children=true then d+1 else d
def afterL:List NodeD→Int→Nat→Nat
 | [],_,i=>i
 |x :: rest,d,i=>if depthOf x d≤0 then i+1 else afterL rest (depthOf x d) (i+1)
def afterOf (l:List NodeD) (i:Nat):Nat:=afterL (l.drop i) 0 i
theorem afterL_step {l:List NodeD} {i:Nat} {x:NodeD} {d:Int} (h:l[i]? =some x):afterL (l.drop i) d i=if depthOf x d≤0 then i+1 else afterL (l.drop (i+1)) (depthOf x d) (i+1):=by
 obtain ⟨hi,e⟩ :=List.getElem?_eq_some_iff.1 h
 rw[List.drop_eq_getElem_cons hi,e]
 rfl
theorem f63_ok (l:List NodeD) (hl:l.length≤big) (i:Nat) (hi:i≤l.length):Fulfils Tryz.prog G 63 [nodesV l,intV i] [] (retP (intV (afterOf l i))):=by
 have hbig:big=140737488355328:=rfl
 refine fulfilP (fn:=Tryz.f63) (rs:=[.tmp 4]) (Tryz.f63.body.getD .skip) (by kernel_rfl) rfl rfl rfl (by simp only[List.length_cons,List.length_nil];decide) rfl (by decide) ?_
 simp only[Tryz.f63,Option.getD_some,go_sem]
 repeat' first|refine s1 ?_|refine s2 ?_|refine hRegion (sim ?_)|fail
 refine hLoop (X:={p:Nat×Int // p.1≤l.length∧-(p.1:Int)≤p.2∧p.2≤p.1∧afterL (l.drop p.1) p.2 p.1=afterOf l i}) (fun p=> ⟨[(5,intV p.1.2),(1,intV p.1.1),(0,nodesV l)],[]⟩) (fun p=>l.length - p.1.1) ⟨(i,0),hi,by simp,by simp,rfl⟩ sT ?_
 rintro ⟨⟨k,d⟩,hk,hd1,hd2,hs⟩
 simp only at hk hd1 hd2 hs
 refine sim ?_
 (repeat' first|refine s1 ?_|refine hRegion (sim ?_));refine s7 rfl ?_ ?_<;>intro hb'
 ·obtain ⟨x,hx⟩ :=getX l (i:=k) (by omega)
  have e:=row_at nodeC hx
  rw[afterL_step hx] at hs
  have w1:IntKind.i64.wrap (d - 1)=d - 1:=wrap_i64 (by omega) (by omega)
  have w2:IntKind.i64.wrap (d+1)=d+1:=wrap_i64 (by omega) (by omega)
  have w3:IntKind.i64.wrap ((k:Int)+1)=((k+1:Nat):Int):=by rw[wrap_i64 (by omega) (by omega)];simp
  have key:∀d',depthOf x d=d'→-(k:Int) - 1≤d'→d'≤k+1→0 < d'→∃x':{p:Nat×Int // p.1≤l.length∧-(p.1:Int)≤p.2∧p.2≤p.1∧afterL (l.drop p.1) p.2 p.1=afterOf l i},
    (AV.val (.int .i64 d')=AV.val (.int .i64 x'.val.2)∧AV.val (.int .i64 ((k+1:Nat):Int))=AV.val (.int .i64 (x'.val.1:Int)))∧l.length - x'.val.1 < l.length - k:=by
   intro d' h1 h2 h3 h4
   rw[h1,if_neg (by omega)] at hs
   exact ⟨⟨(k+1,d'),by dsimp only;omega,by dsimp only;omega,by dsimp only;omega,hs⟩, ⟨rfl,rfl⟩,by dsimp only;omega⟩
  have key0:∀d',depthOf x d=d'→d'≤0→AV.val (.int .i64 ((k+1:Nat):Int))=AV.val (.int .i64 (afterOf l i:Int)):=by
   intro d' h1 h2
   rw[h1,if_pos h2] at hs
   rw[hs]
  repeat' first|refine s1 ?_|refine s2 ?_|refine hRegion (simE (And.intro @e (And.intro @w1 (And.intro @w2 @w3))) ?_)|refine hSkip (simE (And.intro @e (And.intro @w1 (And.intro @w2 @w3))) ?_)|refine hRet (simE (And.intro @e (And.intro @w1 (And.intro @w2 @w3))) ?_)|refine s7 rfl (fun hb=>?_) fun hb=>?_|refine And.intro ?_ ?_|(refine done_pure sT ?_;refine sim ?_)|fail
  all_goals first|omega|exact key0 _ (by simp only[depthOf, *];simp) hb|exact key _ (by simp only[depthOf, *];simp) (by omega) (by omega) (by omega)|skip
  all_goals trace_state
 ·repeat' first|refine s1 ?_|refine hRegion (sim ?_)|refine hExit (sim ?_)|refine hRet (sim ?_)|(refine done_pure sT ?_;refine sim ?_)|fail
  have:l.drop k=[]:=List.drop_eq_nil_of_le (by omega)
  rw[this] at hs
  rw[←hs];rfl
def isTop (t:Int):Bool:=t == 17 || t == 60 || t == 65 || t == 74
theorem f64_ok (t:Int):Fulfils Tryz.prog G 64 [intV t] [] (retP (booV (isTop t))):=by
 refine fulfilP (fn:=Tryz.f64) (rs:=[.tmp 2]) (Tryz.f64.body.getD .skip) (by kernel_rfl) rfl rfl rfl (by simp only[List.length_cons,List.length_nil];decide) rfl (by decide) ?_
 simp only[Tryz.f64,Option.getD_some,go_sem]
 repeat' first|refine s1 ?_|refine hRegion (sim ?_)|refine hRet (sim ?_)|(refine done_pure sT ?_;refine sim ?_)|fail
 rfl
def isLayout (l:LayoutD):Bool:=decide (l.version≥2) && decide (l.version≤5) && (!l.wide || decide (l.version > 2)) && (l.size == 4 || l.size == 8)
theorem f28_ok (l:LayoutD):Fulfils Tryz.prog G 28 [.agg (layoutC l)] [] (retP (booV (isLayout l))):=by
 refine fulfilP (fn:=Tryz.f28) (rs:=[.tmp 2]) (Tryz.f28.body.getD .skip) (by kernel_rfl) rfl rfl rfl (by simp only[List.length_cons,List.length_nil];decide) rfl (by decide) ?_
 simp only[Tryz.f28,Option.getD_some,go_sem]
 repeat' first|refine s1 ?_|refine hRegion (sim ?_)|refine hRet (sim ?_)|refine And.intro ?_ ?_|refine fun (_:Outc)=>?_|(refine done_pure sT ?_;refine sim ?_)|fail
 all_goals first|rfl|(intro h;simp_all;done)
end
end Go.Proofs.YtbkfdnkeelmloaaGreatDoor
