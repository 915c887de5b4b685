/- Part 14 of the proof: B7 R4 R5. -/
import Derived.Test.YtbkfdnkeelmloaaGreatDoorZ12
import Derived.Test.YtbkfdnkeelmloaaGreatDoorZ13
set_option linter.unusedVariables false
set_option linter.unusedSimpArgs false
namespace Go.Proofs.YtbkfdnkeelmloaaGreatDoor
open Go.AM Go
structure AfD where
 attr:Int
 form:Int
 cls:Int
 val:Int
structure AbbE where
 id:Int
 tag:Int
 ch:Bool
 fields:List AfD
structure UnitR where
 base:Nat
 off:Nat
 data:Bytes
 tab:List AbbE
 u5:Bool
 size:Int
 vers:Int
 wide:Bool
 ut:Int
structure DataR where
 abbs:Bytes
 info:Bytes
 line:Bytes
 ranges:Bytes
 str:Bytes
 lineStr:Bytes
 rngLists:Bytes
 big:Bool
 m1:Value
 m2:Value
 m3:Value
 hU:Value
def u32I (n:Int):AV:=.val (.int .u32 n)
def afC (a:AfD):List AV:=[u32I a.attr,u32I a.form,intV a.cls,.val (.int .i64 a.val)]
def abbV (a:AbbE):AV:=.agg [u32I a.tag,booV a.ch,.dat false 4 (a.fields.map afC)]
def tabE (l:List AbbE):List (Int×AV):=l.map fun a=>(a.id,abbV a)
def tabV (l:List AbbE):AV:=.mp .u32 (tabE l)
def u5V:Bool→AV
 |true=>.pt [.val (.int .u64 0),.val (.int .u64 0),.val (.int .u64 0),.val (.int .u64 0)]
 |false=>.val (.pointer none)
def unitRow (u:UnitR):List AV:=[u32V u.base,u32V u.off,bytesV u.data,tabV u.tab,u5V u.u5,intV u.size,intV u.vers,booV u.wide,.val (.int .u8 u.ut)]
def dataC (z:DataR) (j:Nat):List AV:=[bytesV z.abbs,bytesV [],bytesV [],bytesV z.info,bytesV z.line,bytesV [],bytesV z.ranges,bytesV z.str,bytesV [],bytesV z.lineStr,bytesV [],bytesV z.rngLists,
 .val z.m1,booV z.big,booV z.big,.val z.m2,.val z.m3,.buf j z.hU]
abbrev dP (z:DataR) (j:Nat):AV:=.pt (dataC z j)
variable {f:AV→AV} {p:AV→Prop}
class StillQ (f:AV→AV):Prop where
 p:f (.val (.pointer none))= .val (.pointer none)
instance {σ:Nat→Nat}:StillQ (rkA σ):= ⟨rfl⟩
instance {σ:Nat→Nat}:StillQ (nilD σ):= ⟨rfl⟩
instance {k:Nat} {ob:AObj}:StillQ (frz1 k ob):= ⟨rfl⟩
instance {k k2:Nat}:StillQ (ren1 k k2):= ⟨rfl⟩
theorem turnL_af [Still f] (a:AfD):turnL f (afC a)=afC a:=by simp only[afC,turnL,intV,u32I,AV.turn,Still.i]
theorem fitL_af [StillP p] (a:AfD):fitL p (afC a):= ⟨fit_v,fit_v,fit_v,fit_v,trivial⟩
theorem turnR_af [Still f] (l:List AfD):turnR f (l.map afC)=l.map afC:=turnR_map turnL_af l
theorem fitR_af [StillP p] (l:List AfD):fitR p (l.map afC)=True:=eq_true (fitR_map fitL_af l)
theorem turn_abb [Still f] (a:AbbE):(abbV a).turn f=abbV a:=by simp only[abbV,turnL,booV,u32I,AV.turn,Still.i,Still.b,turnR_af]
theorem fit_abb [StillP p] (a:AbbE):(abbV a).fit p:= ⟨fit_v,fit_v,fitR_map fitL_af _,trivial⟩
theorem turnE_tab [Still f]:∀l:List AbbE,turnE f (tabE l)=tabE l
 | []=>rfl
 |a :: l=>by
  have:=turnE_tab l
  simp only[tabE,List.map_cons,turnE,turn_abb] at this ⊢
  rw[this]
theorem fitE_tab [StillP p]:∀l:List AbbE,fitE p (tabE l)=True
 | []=>rfl
 |a :: l=>by
  have:=fitE_tab l
  simp only[tabE,List.map_cons,fitE] at this ⊢
  rw[this]
  exact eq_true ⟨fit_abb a,trivial⟩
theorem turn_tab [Still f] (l:List AbbE):(tabV l).turn f=tabV l:=by simp only[tabV,AV.turn,turnE_tab]
theorem turn_u5 [Still f] [StillQ f] (b:Bool):(u5V b).turn f=u5V b:=by cases b<;>simp only[u5V,AV.turn,turnL,Still.i,StillQ.p]
theorem fit_u5 [StillP p] (b:Bool):(u5V b).fit p:=by
 cases b
 ·exact fit_v
 ·exact ⟨fit_v,fit_v,fit_v,fit_v,trivial⟩
theorem turnL_unitR [Still f] [StillQ f] (u:UnitR):turnL f (unitRow u)=unitRow u:=by
 simp only[unitRow,turnL,u32V,intV,booV,bytesV_eq,AV.turn,Still.i,Still.b,turnR_by,turn_tab,turn_u5]
theorem fitL_unitR [StillP p] (u:UnitR):fitL p (unitRow u):= ⟨fit_v,fit_v,fitR_by _,by have:=fitE_tab (p:=p) u.tab;show fitE p _;rw[this];trivial,fit_u5 _,fit_v,fit_v,fit_v,fit_v,trivial⟩
theorem turnR_unitR [Still f] [StillQ f] (l:List UnitR):turnR f (l.map unitRow)=l.map unitRow:=turnR_map turnL_unitR l
theorem fitR_unitR [StillP p] (l:List UnitR):fitR p (l.map unitRow)=True:=eq_true (fitR_map fitL_unitR l)
theorem turn_data_rk {σ:Nat→Nat} (z:DataR) (j:Nat):turnL (rkA σ) (dataC z j)=dataC z (σ j):=by
 simp only[dataC,AV.turn,turnL,bytesV_eq,turnR_by,booV,rkA]
theorem turn_data_rn {k k2:Nat} (z:DataR) (j:Nat):turnL (ren1 k k2) (dataC z j)=dataC z (if j=k then k2 else j):=by
 simp only[dataC,AV.turn,turnL,bytesV_eq,turnR_by,booV,ren1]
theorem turn_data_fz {k:Nat} {ob:AObj} (z:DataR) (j:Nat):turnL (frz1 k ob) (dataC z j)=if j=k then turnL (frz1 k ob) (dataC z j) else dataC z j:=by
 split
 ·rfl
 ·rename_i h
  simp only[dataC,AV.turn,turnL,bytesV_eq,turnR_by,booV,frz1,if_neg h]
theorem fit_data_fz {k:Nat} {ob:AObj} (z:DataR) (j:Nat):fitL (frz1P k ob) (dataC z j)=if j=k then fitL (frz1P k ob) (dataC z j) else True:=by
 split
 ·rfl
 ·rename_i h
  refine eq_true ⟨fitR_by _,fitR_by _,fitR_by _,fitR_by _,fitR_by _,fitR_by _,fitR_by _,fitR_by _,fitR_by _,fitR_by _,fitR_by _,fitR_by _,fit_v,fit_v,fit_v,fit_v,fit_v, ?_,trivial⟩
  show frz1P k ob (.buf j z.hU)
  simp only[frz1P,if_neg h]
theorem data_len (z:DataR) (j:Nat):(dataC z j).length=18:=rfl
theorem data_drop (z:DataR) (j n:Nat):(dataC z j).drop n=([bytesV z.abbs,bytesV [],bytesV [],bytesV z.info,bytesV z.line,bytesV [],bytesV z.ranges,bytesV z.str,bytesV [],bytesV z.lineStr,bytesV [],bytesV z.rngLists,
 .val z.m1,booV z.big,booV z.big,.val z.m2,.val z.m3,.buf j z.hU]:List AV).drop n:=rfl
theorem data_set (z:DataR) (j n:Nat) (a:AV):(dataC z j).set n a=([bytesV z.abbs,bytesV [],bytesV [],bytesV z.info,bytesV z.line,bytesV [],bytesV z.ranges,bytesV z.str,bytesV [],bytesV z.lineStr,bytesV [],bytesV z.rngLists,
 .val z.m1,booV z.big,booV z.big,.val z.m2,.val z.m3,.buf j z.hU]:List AV).set n a:=rfl
def openG (σ:Nat→Nat):AV→AV
 | .omap _ r=>.val (.map (some r))
 | .val (.slice none 0 0)=>.dat false 1 []
 |a=>rkA σ a
theorem openG_rel {σ:Nat→Nat} (M:Mem) (a:AV) (v:Value) (h:a.rel M v):(openG σ a).rel M v:=by
 unfold openG
 split
 ·exact h
 ·exact nil_dat h
 ·exact (rkA_rel a v).2 h
instance {σ:Nat→Nat}:Still (openG σ):= ⟨fun _ _=>rfl,fun _=>rfl,fun _=>rfl⟩
instance {σ:Nat→Nat}:StillQ (openG σ):= ⟨rfl⟩
theorem turnR_og {σ:Nat→Nat} (l:Bytes):turnR (openG σ) (bytesR l)=bytesR l:=turnR_by l
theorem doneO {P:Program} {no:Nat} {rs:List ResultVar} {R:(Nat→AV)→List (Option AObj)→List (Option AObj)→Prop} {S:St} (ks:List (Nat×Nat)) (hR:R (fun _=>(resA P S rs).turn (openG (assocN ks))) ((osA S.H 0 no).map (turnO (openG (assocN ks)))) ((ks.map fun p=>getO S.H p.1).map (turnO (openG (assocN ks))))) (hk:∀k∈ks.map (·.1),no≤k) (hn:(ks.map (·.1)).Nodup)
  (ho:allP (rs.map (resOK P S))):done P no rs (Rf R) S:=
 doneG (openG (assocN ks)) (fun M a v h=>openG_rel M a v h) (ks.map (·.1)) (by rw[show (ks.map (·.1)).map (getO S.H)=ks.map fun p=>getO S.H p.1 by simp];exact hR) hk hn ho
theorem tn3:Int.toNat 3=3:=rfl
theorem tn5:Int.toNat 5=5:=rfl
theorem tn12:Int.toNat 12=12:=rfl
theorem tn13:Int.toNat 13=13:=rfl
attribute [go_sem] tn3 tn5 tn12 tn13 openG turnR_og data_set
def ptrV (b:Nat):AV:=.val (.pointer (some ⟨b,0,none⟩))
theorem eCell0 {C:Ctx} {S:St} (k:Nat) {b o j db:Nat} {cs:List AV} (hk:getO S.H k=some (.cells b o (.ref j db 0 :: cs))):Ent C S ⟨S.ρ,(k,some (.cells b o (ptrV db :: cs))) :: S.H⟩ :=by
 refine eObj (ob':=.cells b o (ptrV db :: cs)) k hk ?_ rfl ⟨rfl,Nat.le_refl _,by simp⟩
 rintro M w ⟨arr,T,vs,h1, ⟨v,r,e,g1,g2,g3⟩,h3⟩
 exact ⟨arr,T,vs,h1, ⟨v,r,e,g1,g2,g3⟩,h3⟩
attribute [go_sem] ptrV u32I unitRow dP data_len data_drop turn_data_rk turn_data_rn turn_data_fz fit_data_fz turnR_unitR fitR_unitR turnE_tab fitE_tab turn_tab turnR_af fitR_af turn_abb tabV turn_u5
set_option maxHeartbeats 2000000
set_option maxRecDepth 10000
open Go.AM Go
section
variable {G:Nat→AV} {b:Nat} {dw fm:AV} {bg:Bool} {nm:Bytes} {post:List AV}
theorem index_zero:∀(s l:Bytes),isText s=true→Go.Lib.indexByte (s++0 :: l) 0=s.length
 | [],l,_=>rfl
 |x :: s,l,h=>by
  simp only[isText,List.all_cons,Bool.and_eq_true,bne_iff_ne,ne_eq] at h
  have ih:=index_zero s l h.2
  have hx:(x == 0)=false:=by rw[beq_eq_false_iff_ne];exact h.1
  have:Go.Lib.indexByte (x :: s++0 :: l) 0=if (x == 0) then 0 else if Go.Lib.indexByte (s++0 :: l) 0 == -1 then -1 else Go.Lib.indexByte (s++0 :: l) 0+1:=rfl
  rw[this,hx,ih]
  have:((s.length:Int) == -1)=false:=by rw[beq_eq_false_iff_ne];omega
  rw[this]
  simp
theorem f162_ok (l:Bytes) (c:UInt8):Fulfils Tryz.prog G 162 [bytesV l,.val (.int .u8 c.toNat)] [] (retP (intV (Go.Lib.indexByte l c))):=by
 refine fulfilP (fn:=Tryz.f162) (rs:=[.tmp 4]) (Tryz.f162.body.getD .skip) (by kernel_rfl) rfl rfl rfl (by simp only[List.length_cons,List.length_nil];decide) rfl (by decide) ?_
 simp only[Tryz.f162,Option.getD_some,go_sem]
 refine rn ?_
 refine callP (f174_ok l c) rfl ?_;refine sim ?_
 exact rn trivial
theorem f162z_ok (l:Bytes):Fulfils Tryz.prog G 162 [bytesV l,.val (.int .u8 0)] [] (retP (intV (Go.Lib.indexByte l 0))):=f162_ok l 0
theorem all_by (l:Bytes):(bytesR l).all isByteA=true:=by
 rw[List.all_eq_true]
 intro r hr
 obtain ⟨x,_,rfl⟩ :=List.mem_map.1 hr
 rfl
theorem map_by (l:Bytes):(bytesR l).map byteA=l:=by
 unfold bytesR
 rw[List.map_map]
 conv=>rhs;rw[←List.map_id l]
 apply List.map_congr_left
 intro x _
 simp[byteA,u8V]
attribute [go_sem] all_by map_by
theorem f127_ok (off:Nat) (s l:Bytes) (hs:isText s=true) (h:off+s.length+1 < 4294967296):Fulfils Tryz.prog G 127 [.ref 0 b 0] [bufO b dw bg fm nm off (s++0 :: l) post] (retO (strV s) [some (bufO b dw bg fm nm (off+(s.length+1)) l post)]):=by
 have hbig:big=140737488355328:=rfl
 have hi:=f162z_ok (G:=G) (s++0 :: l)
 rw[index_zero s l hs] at hi
 have w1:IntKind.i64.wrap ((s.length:Int)+1)=((s.length+1:Nat):Int):=by rw[wrap_i64 (by omega) (by omega)];simp
 have w2:=wrap_u32 (s.length+1) (by omega)
 have w3:=off_add (off:=off) (n:=s.length+1) (by omega)
 have e1:(s++0 :: l).take s.length=s:=List.take_left' rfl
 have e2:(s++0 :: l).take (s.length+(l.length+1))=s++0 :: l:=List.take_of_length_le (by simp)
 have e3:(s++0 :: l).drop (s.length+1)=l:=by rw[←List.drop_drop,List.drop_left' rfl];rfl
 refine fulfilA Tryz.f127 [.tmp 2] 1 ?_
 simp only[Tryz.f127,Option.getD_some,go_sem]
 refine rn ?_
 refine callU [] 0 (hi) ?_;rintro ret os fs ⟨rfl,rfl,rfl⟩;refine sim ?_
 refine rnE (And.intro @w1 (And.intro @w2 (And.intro @w3 (And.intro @e1 (And.intro @e2 @e3))))) ?_
 refine doneA [] ?_;try exact trivial
 exact ⟨rfl,rfl,rfl⟩
section
variable {h:Value} {us:List UnitR} {i:Nat} {u:UnitR}
theorem f150_ok (hu:us[i]? =some u):Fulfils Tryz.prog G 150 [.aref 0 h 9 i 0] [.arr h 216 9 (us.map unitRow)] (retO (intV u.size) [some (.arr h 216 9 (us.map unitRow))]):=by
 have e:=row_at unitRow hu
 have hi:=(List.getElem?_eq_some_iff.1 hu).1
 refine fulfilA Tryz.f150 [.tmp 2] 1 ?_
 simp only[Tryz.f150,Option.getD_some,go_sem]
 refine rnE @e ?_
 refine doneA [] ?_;try exact trivial
 exact ⟨rfl,rfl,rfl⟩
theorem f226_ok (hu:us[i]? =some u):Fulfils Tryz.prog G 226 [.aref 0 h 9 i 0] [.arr h 216 9 (us.map unitRow)] (retO (intV u.vers) [some (.arr h 216 9 (us.map unitRow))]):=by
 have e:=row_at unitRow hu
 have hi:=(List.getElem?_eq_some_iff.1 hu).1
 refine fulfilA Tryz.f226 [.tmp 2] 1 ?_
 simp only[Tryz.f226,Option.getD_some,go_sem]
 refine rnE @e ?_
 refine doneA [] ?_;try exact trivial
 exact ⟨rfl,rfl,rfl⟩
theorem f225_ok (hu:us[i]? =some u):Fulfils Tryz.prog G 225 [.aref 0 h 9 i 0] [.arr h 216 9 (us.map unitRow)] (retO (.tup [booV u.wide,booV true]) [some (.arr h 216 9 (us.map unitRow))]):=by
 have e:=row_at unitRow hu
 have hi:=(List.getElem?_eq_some_iff.1 hu).1
 refine fulfilA Tryz.f225 [.tmp 2,.tmp 3] 1 ?_
 simp only[Tryz.f225,Option.getD_some,go_sem]
 refine rnE @e ?_
 refine doneA [] ?_;try exact trivial
 exact ⟨rfl,rfl,rfl⟩
theorem leN_fixL:∀k n,leN (fixL k n)=n % 256 ^ k
 |0,n=>by simp[fixL,leN,Nat.mod_one]
 |k+1,n=>by
  rw[fixL,leN,leN_fixL k,UInt8.toNat_ofNat',(Nat.pow_succ':256 ^ (k+1)=256 * 256 ^ k),Nat.mod_mul]
theorem numOf_fixed (n s:Nat) (bg:Bool):numOf bg (fixed n s bg)=n % 256 ^ s:=by
 unfold numOf fixed
 cases bg<;>simp[leN_fixL]
def fmU (j:Nat) (h:Value) (i:Nat):AV:=.ifc 211 (.aref j h 9 i 0)
attribute [go_sem] fmU
theorem f131_ok (hu:us[i]? =some u) (off n:Nat) (l:Bytes) (hz:u.size=4∨u.size=8) (hn:n < 256 ^ u.size.toNat) (ho:off+8 < 4294967296):
  Fulfils Tryz.prog G 131 [.ref 0 b 0] [bufO b dw bg (fmU 1 h i) nm off (fixed n u.size.toNat bg++l) post,.arr h 216 9 (us.map unitRow)]
  (retO (.val (.int .u64 n)) [some (bufO b dw bg (fmU 1 h i) nm (off+u.size.toNat) l post),some (.arr h 216 9 (us.map unitRow))]):=by
 have e:=row_at unitRow hu
 have hi:=(List.getElem?_eq_some_iff.1 hu).1
 have hnum:=numOf_fixed n u.size.toNat bg
 rw[Nat.mod_eq_of_lt hn] at hnum
 refine fulfilA Tryz.f131 [.tmp 2] 2 ?_
 simp only[Tryz.f131,Option.getD_some,go_sem]
 refine rn ?_
 refine callU [1] 0 (f150_ok hu) ?_;rintro ret os fs ⟨rfl,rfl,rfl⟩;refine sim ?_
 rcases hz with hz|hz
 ·have hz':u.size.toNat=4:=by rw[hz];rfl
  rw[hz'] at hn hnum ⊢
  have w1:=wrap_u64 (n:=n) (by omega) (by omega)
  refine rnE @hz ?_
  refine callU [0] 0 (f126_ok off _ l (fixed_len n 4 bg) (by omega)) ?_;rintro ret os fs ⟨rfl,rfl,rfl⟩;refine sim ?_
  refine rnE (And.intro @hnum @w1) ?_
  refine doneA [] ?_;try exact trivial
  exact ⟨rfl,rfl,rfl⟩
 ·have hz':u.size.toNat=8:=by rw[hz];rfl
  rw[hz'] at hn hnum ⊢
  refine rnE @hz ?_
  refine callU [0] 0 (f125_ok off _ l (fixed_len n 8 bg) (by omega)) ?_;rintro ret os fs ⟨rfl,rfl,rfl⟩;refine sim ?_
  refine rnE @hnum ?_
  refine doneA [] ?_;try exact trivial
  exact ⟨rfl,rfl,rfl⟩
end
def lenText (n:Nat) (wide bg:Bool):Bytes:=if wide then [255,255,255,255]++fixed n 8 bg else fixed n 4 bg
theorem f156_ok (off n:Nat) (wide:Bool) (l:Bytes) (hn:n < 4294967280) (ho:off+12 < 4294967296):
  Fulfils Tryz.prog G 156 [.ref 0 b 0] [bufO b dw bg fm nm off (lenText n wide bg++l) post] (retO (.tup [u32V n,booV wide]) [some (bufO b dw bg fm nm (off+(lenText n wide bg).length) l post)]):=by
 have h255:numOf bg [255,255,255,255]=4294967295:=by cases bg<;>rfl
 have h4:=numOf_fixed n 4 bg
 have h8:=numOf_fixed n 8 bg
 rw[Nat.mod_eq_of_lt (by omega)] at h4 h8
 have w1:=wrap_u32 n (by omega)
 refine fulfilA Tryz.f156 [.tmp 2,.tmp 3] 1 ?_
 simp only[Tryz.f156,Option.getD_some,go_sem]
 refine rn ?_
 cases wide
 ·refine callU [0] 0 (f126_ok off _ l (fixed_len n 4 bg) (by omega)) ?_;rintro ret os fs ⟨rfl,rfl,rfl⟩;refine sim ?_
  refine rnE @h4 ?_
  refine doneA [] ?_;try exact trivial
  exact ⟨rfl,by simp[lenText,fixed_len],rfl⟩
 ·refine callU [0] 0 (f126_ok off [255,255,255,255] (fixed n 8 bg++l) rfl (by omega)) ?_;rintro ret os fs ⟨rfl,rfl,rfl⟩;refine sim ?_
  refine rnE @h255 ?_
  refine callU [0] 0 (f125_ok (off+4) _ l (fixed_len n 8 bg) (by omega)) ?_;rintro ret os fs ⟨rfl,rfl,rfl⟩;refine sim ?_
  refine rnE (And.intro @h8 @w1) ?_
  refine doneA [] ?_;try exact trivial
  exact ⟨rfl,by simp only[lenText,fixed_len,if_true,List.length_append,List.length_cons,List.length_nil,Nat.add_assoc],rfl⟩
def bufL (dw:AV) (bg:Bool) (fm:AV) (nm:Bytes) (off:Nat) (l:Bytes):List AV:=[dw,booV bg,fm,strV nm,u32V off,bytesV l,.val .nilIface]
attribute [go_sem] bufL
theorem f94_ok (z:DataR) (j k off i:Nat) (h:Value) (l:Bytes):Fulfils Tryz.prog G 94 [dP z j,fmU k h i,strV nm,u32V off,bytesV l] [] (retP (.agg (bufL (dP z j) z.big (fmU k h i) nm off l))):=by
 refine fulfilP (fn:=Tryz.f94) (rs:=[.cell 10 196]) (Tryz.f94.body.getD .skip) (by kernel_rfl) rfl rfl rfl (by simp only[List.length_cons,List.length_nil];decide) rfl (by decide) ?_
 simp only[Tryz.f94,Option.getD_some,go_sem]
 repeat' first|refine rn ?_|with_reducible refine fun (_:Outc)=>?_|exact trivial
theorem f94o_ok (db off:Nat) (cs r:List AV) (l:Bytes) (hc:cs.drop 14=booV bg :: r) (hl:14 < cs.length):
  Fulfils Tryz.prog G 94 [.ref 0 db 0,.ifc 314 (.agg []),strV nm,u32V off,bytesV l] [.cells db 0 cs] (retO (.agg (bufL (.ref 0 db 0) bg (.ifc 314 (.agg [])) nm off l)) [some (.cells db 0 cs)]):=by
 refine fulfilA Tryz.f94 [.cell 10 196] 1 ?_
 simp only[Tryz.f94,Option.getD_some,go_sem]
 repeat' first|refine rnE @hc ?_|with_reducible refine fun (_:Outc)=>?_|fail
 refine doneA [] ?_;try exact trivial
 exact ⟨rfl,rfl,rfl⟩
end
set_option maxHeartbeats 4000000
set_option maxRecDepth 10000
open Go.AM Go
structure GData where
 eE:List (Int×AV)
 pE:List (Int×AV)
 kE:List (Int×AV)
 eofT:TypeId
 eofA:Addr
def knownOp (i:Int):Option Int:=
 if i=1∨i=6∨i=7∨i=8∨i=10∨i=11 then some 0 else if i=2∨i=3∨i=4∨i=12 then some 1 else none
structure GOK (G:Nat→AV) (g:GData):Prop where
 eof:G 0= .pt [.val (.iface g.eofT (.pointer (some g.eofA)))]
 expr:G 2= .pt [.mp .u32 g.eE]
 ptr:G 3= .pt [.mp .u32 g.pE]
 known:G 4= .pt [.mp .i64 g.kE]
 expr28:findE g.eE 28=none
 ptr16:findE g.pE 16=some (intV 6)
 ptr85:findE g.pE 85=some (intV 9)
 ptrN:∀a:Int,a=11∨a=28∨a=59∨a=18→findE g.pE a=none
 knownE:∀i:Int,findE g.kE i=(knownOp i).map intV
def fcls (form attr:Int):Int:=
 if form=22 then 0 else if form=1 then 1 else if form=10∨form=3∨form=4∨form=9 then 2
 else if form=11∨form=5∨form=6∨form=7∨form=13∨form=15∨form=33 then 3
 else if form=12∨form=25 then 5 else if form=16∨form=17∨form=18∨form=19∨form=20∨form=21 then 10
 else if form=32 then 11 else if form=8∨form=14∨form=31 then 12 else if form=23 then (if attr=85 then 9 else 6) else 4
def isData (form:Int):Prop:=form=11∨form=5∨form=6∨form=7∨form=13∨form=15∨form=33
def isBlock (form:Int):Prop:=form=10∨form=3∨form=4∨form=9
structure FormOK (form attr:Int):Prop where
 frm:form=22∨form=1∨isBlock form∨isData form∨(form=12∨form=25)∨(form=16∨form=17∨form=18∨form=19∨form=20∨form=21)∨form=32∨(form=8∨form=14∨form=31)∨form=23∨form=24
 block:isBlock form→attr=28
 data:isData form→attr=11∨attr=28∨attr=59∨attr=18
 sec:form=23→attr=16∨attr=85
section
variable {G:Nat→AV} {g:GData}
theorem f129_ok (hG:GOK G g) (form attr v:Int) (b:Nat) (hf:FormOK form attr) (hv:4≤v):Fulfils Tryz.prog G 129 [u32I form,u32I attr,intV v,.ref 0 b 0] [] (retP (intV (fcls form attr))):=by
 have e1:=hG.expr
 have e2:=hG.ptr
 refine fulfilP (fn:=Tryz.f129) (rs:=[.tmp 8]) (Tryz.f129.body.getD .skip) (by kernel_rfl) rfl rfl rfl (by simp only[List.length_cons,List.length_nil];decide) rfl (by decide) ?_
 simp only[Tryz.f129,Option.getD_some,go_sem]
 obtain ⟨h1,h2,h3,h4⟩ :=hf
 unfold isBlock at h1 h2
 unfold isData at h1 h3
 have hlt:(decide (v < 4))=false:=by rw[decide_eq_false_iff_not];omega
 rcases h1 with h|h|h|h|h|h|h|h|h|h
 ·subst h;(refine rn ?_);rfl
 ·subst h;(refine rn ?_);rfl
 ·have e3:=hG.expr28
  have ea:=h2 h
  subst ea
  rcases h with h|h|h|h<;>subst h
  all_goals (repeat' first|refine rnE (And.intro @e1 @e3) ?_|fail)
  all_goals rfl
 ·have e3:=hG.ptrN attr (h3 h)
  rcases h with h|h|h|h|h|h|h<;>subst h
  all_goals (repeat' first|refine rnE (And.intro @e2 (And.intro @e3 @hlt)) ?_|fail)
  all_goals rfl
 ·rcases h with h|h<;>subst h
  all_goals (repeat' first|refine rn ?_|fail)
  all_goals rfl
 ·rcases h with h|h|h|h|h|h<;>subst h
  all_goals (repeat' first|refine rn ?_|fail)
  all_goals rfl
 ·subst h;(refine rn ?_);rfl
 ·rcases h with h|h|h<;>subst h
  all_goals (repeat' first|refine rn ?_|fail)
  all_goals rfl
 ·have e3:=hG.ptr16
  have e4:=hG.ptr85
  have hh:=h4 h
  subst h
  rcases hh with hh|hh<;>subst hh
  all_goals (repeat' first|refine rnE (And.intro @e2 (And.intro @e3 @e4)) ?_|fail)
  all_goals rfl
 ·subst h;(refine rn ?_);rfl
end
end Go.Proofs.YtbkfdnkeelmloaaGreatDoor
