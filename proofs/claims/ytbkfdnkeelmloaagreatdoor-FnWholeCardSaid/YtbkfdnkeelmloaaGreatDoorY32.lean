/- Part 32 of the proof: P2. -/
import Derived.Test.YtbkfdnkeelmloaaGreatDoorY23
import Derived.Test.YtbkfdnkeelmloaaGreatDoorY31
set_option linter.unusedVariables false
set_option linter.unusedSimpArgs false
namespace Go.Proofs.YtbkfdnkeelmloaaGreatDoor
set_option maxHeartbeats 4000000
set_option maxRecDepth 10000
open Go.AM Go
theorem itel {c:Prop} [Decidable c] {x y:Int×Bool} (h:(if c then x else y).2=true):(c∧x.2=true)∨y.2=true:=by
 by_cases hc:c
 ·rw[if_pos hc] at h;exact .inl ⟨hc,h⟩
 ·rw[if_neg hc] at h;exact .inr h
theorem class_cases {v a f:Int} (h:(classOf v a f).2=true):(f=1∧(a=17∨a=82))∨((f=3∨f=4∨f=9∨f=10)∧a=28)∨((f=5∨f=11∨f=13∨f=15∨f=33)∧(a=11∨a=28∨a=59))∨((f=6∨f=7)∧(a=11∨a=59))∨
  ((f=12∨f=25)∧(a=63∨a=52))∨((f=16∨f=17∨f=18∨f=19∨f=20∨f=21)∧(a=73∨a=49))∨(f=32∧a=73)∨((f=8∨f=14∨f=31)∧(a=3∨a=27∨a=37))∨(f=24∧(a=2∨a=64))∨(f=23∧a=16):=by
 rw[classOf] at h
 rcases itel h with ⟨c,h⟩ |h
 ·simp only[Bool.and_eq_true,Bool.or_eq_true,beq_iff_eq] at h
  exact .inl ⟨by omega,by omega⟩
 rcases itel h with ⟨c,h⟩ |h
 ·simp only[Bool.and_eq_true,Bool.or_eq_true,beq_iff_eq] at h
  exact .inr (.inl ⟨by omega,by omega⟩)
 rcases itel h with ⟨c,h⟩ |h
 ·simp only[Bool.and_eq_true,Bool.or_eq_true,beq_iff_eq] at h
  exact .inr (.inr (.inl ⟨by omega,by omega⟩))
 rcases itel h with ⟨c,h⟩ |h
 ·simp only[Bool.and_eq_true,Bool.or_eq_true,beq_iff_eq] at h
  exact .inr (.inr (.inr (.inl ⟨by omega,by omega⟩)))
 rcases itel h with ⟨c,h⟩ |h
 ·simp only[Bool.and_eq_true,Bool.or_eq_true,beq_iff_eq] at h
  exact .inr (.inr (.inl ⟨by omega,by omega⟩))
 rcases itel h with ⟨c,h⟩ |h
 ·simp only[Bool.and_eq_true,Bool.or_eq_true,beq_iff_eq] at h
  exact .inr (.inr (.inr (.inr (.inl ⟨by omega,by omega⟩))))
 rcases itel h with ⟨c,h⟩ |h
 ·simp only[Bool.and_eq_true,Bool.or_eq_true,beq_iff_eq] at h
  exact .inr (.inr (.inr (.inr (.inl ⟨by omega,by omega⟩))))
 rcases itel h with ⟨c,h⟩ |h
 ·simp only[Bool.and_eq_true,Bool.or_eq_true,beq_iff_eq] at h
  exact .inr (.inr (.inr (.inr (.inr (.inl ⟨by omega,by omega⟩)))))
 rcases itel h with ⟨c,h⟩ |h
 ·simp only[Bool.and_eq_true,Bool.or_eq_true,beq_iff_eq] at h
  exact .inr (.inr (.inr (.inr (.inr (.inr (.inl ⟨by omega,by omega⟩))))))
 rcases itel h with ⟨c,h⟩ |h
 ·simp only[Bool.and_eq_true,Bool.or_eq_true,beq_iff_eq] at h
  exact .inr (.inr (.inr (.inr (.inr (.inr (.inr (.inl ⟨by omega,by omega⟩)))))))
 rcases itel h with ⟨c,h⟩ |h
 ·simp only[Bool.and_eq_true,Bool.or_eq_true,beq_iff_eq] at h
  exact .inr (.inr (.inr (.inr (.inr (.inr (.inr (.inl ⟨by omega,by omega⟩)))))))
 rcases itel h with ⟨c,h⟩ |h
 ·simp only[Bool.and_eq_true,Bool.or_eq_true,beq_iff_eq] at h
  exact .inr (.inr (.inr (.inr (.inr (.inr (.inr (.inr (.inl ⟨by omega,by omega⟩))))))))
 rcases itel h with ⟨c,h⟩ |h
 ·simp only[Bool.and_eq_true,Bool.or_eq_true,beq_iff_eq] at h
  exact .inr (.inr (.inr (.inr (.inr (.inr (.inr (.inr (.inr (⟨by omega,by omega⟩)))))))))
 cases h
structure AttrIn (u:UnitD) (a:AttrD):Prop where
 is:isAttr u a=true
 n:0≤a.n∧a.n < 18446744073709551616
 s:a.s.length≤4096
 b:a.b.length≤4096
theorem attr_cases {u:UnitD} {a:AttrD} (h:isAttr u a=true):(classOf u.version a.attr a.form).2=true∧¬(a.indirect=true∧a.form=33)∧¬((0 < sizeOf' u a.form∧sizeOf' u a.form < 8)∧IntKind.u64.wrap (1 * 2 ^ min (8 * sizeOf' u a.form).toNat 64)≤a.n)∧
  (a.form=10→a.b.length < 256)∧(a.form=3→a.b.length < 65536)∧(a.form=12∨a.form=25→a.n≤1)∧(a.form=16∨a.form=17∨a.form=18∨a.form=19∨a.form=20∨a.form=21∨a.form=23→a.n < 2147483648)∧(a.form=8∨a.form=14∨a.form=31→isText a.s=true):=by
 unfold isAttr at h
 obtain ⟨c,hc⟩ :∃c,c=(classOf u.version a.attr a.form).1:= ⟨_,rfl⟩
 rw[←hc] at h
 by_cases h1:(classOf u.version a.attr a.form).2=false∨a.indirect=true∧a.form=33
 ·rw[if_pos h1] at h;cases h
 rw[if_neg h1] at h
 by_cases h2:(0 < sizeOf' u a.form∧sizeOf' u a.form < 8)∧IntKind.u64.wrap (1 * 2 ^ min (8 * sizeOf' u a.form).toNat 64)≤a.n
 ·rw[if_pos h2] at h;cases h
 rw[if_neg h2] at h
 rw[not_or,Bool.not_eq_false] at h1
 refine ⟨h1.1,h1.2,h2, ?_⟩
 clear h1 h2
 refine ⟨fun e=>?_,fun e=>?_,fun e=>?_,fun e=>?_,fun e=>?_⟩
 ·simp[classOf,e] at hc;rw[hc] at h;simp[e] at h;omega
 ·simp[classOf,e] at hc;rw[hc] at h;simp[e] at h;omega
 ·rcases e with e|e<;>simp[classOf,e] at hc<;>rw[hc] at h<;>simpa using h
 ·rcases e with e|e|e|e|e|e|e<;>simp[classOf,e] at hc<;>rw[hc] at h<;>simpa using h
 ·rcases e with e|e|e<;>simp[classOf,e] at hc<;>rw[hc] at h<;>simpa using h
theorem size_pow {u:UnitD} {a:AttrD} (hz:u.size=4∨u.size=8) (hn:0≤a.n∧a.n < 18446744073709551616) (h:¬((0 < sizeOf' u a.form∧sizeOf' u a.form < 8)∧IntKind.u64.wrap (1 * 2 ^ min (8 * sizeOf' u a.form).toNat 64)≤a.n)) (h0:0 < sizeOf' u a.form):
  a.n.toNat < 256 ^ (sizeOf' u a.form).toNat:=by
 have hs:sizeOf' u a.form=1∨sizeOf' u a.form=2∨sizeOf' u a.form=4∨sizeOf' u a.form=8:=by
  unfold sizeOf' offsetSize at h0 ⊢
  repeat' split at h0
  all_goals simp_all
  all_goals omega
 rcases hs with e|e|e|e<;>rw[e] at h ⊢
 ·have:IntKind.u64.wrap (1 * 2 ^ min (8 * 1:Int).toNat 64)=256:=by rfl
  rw[this] at h
  show _ < 256 ^ 1
  omega
 ·have:IntKind.u64.wrap (1 * 2 ^ min (8 * 2:Int).toNat 64)=65536:=by rfl
  rw[this] at h
  show _ < 256 ^ 2
  omega
 ·have:IntKind.u64.wrap (1 * 2 ^ min (8 * 4:Int).toNat 64)=4294967296:=by rfl
  rw[this] at h
  show _ < 256 ^ 4
  omega
 ·show _ < 256 ^ 8
  omega
theorem AttrIn.good {u:UnitD} {a:AttrD} (hz:u.size=4∨u.size=8) (h:AttrIn u a):AttrG u a:=by
 obtain ⟨h1,h2,h3,h4,h5,_,h6,h7⟩ :=attr_cases h.is
 have hc:=class_cases h1
 refine ⟨⟨?_, ?_, ?_, ?_⟩, ?_,fun e e2=>h2 ⟨e,e2⟩,h.n,size_pow hz h.n h3,h6,h7,h4,h5,by have:=h.b;omega,by omega⟩
 ·unfold isBlock isData;omega
 ·unfold isBlock;omega
 ·unfold isData;omega
 ·omega
 ·omega
theorem AttrIn.ok {u:UnitD} {a:AttrD} (h:AttrIn u a):AttrOK a:=by
 obtain ⟨h1,_⟩ :=attr_cases h.is
 have hc:=class_cases h1
 exact ⟨by omega,by omega,h.n,h.s,h.b⟩
theorem AttrIn.no {u:UnitD} {a:AttrD} (h:AttrIn u a):a.attr≠114∧a.attr≠115∧a.attr≠116∧a.attr≠140:=by
 obtain ⟨h1,_⟩ :=attr_cases h.is
 have hc:=class_cases h1
 omega
theorem wrap_ui {n:Int} (h:0≤n∧n < 18446744073709551616):IntKind.u64.wrap (IntKind.i64.wrap n)=n:=by
 simp[IntKind.wrap,IntKind.bits,IntKind.signed]
 split<;>omega
theorem val_eq {u:UnitD} {a:AttrD} {base:Nat} (hb:base < 1000000000) (h:AttrIn u a):valE (dvOf base a) (fcls a.form a.attr)=valueOf u base a:=by
 obtain ⟨h1,_,_,_,_,h5,h6,_⟩ :=attr_cases h.is
 have hc:=class_cases h1
 have hn:=h.n
 have hw:=wrap_ui hn
 have h23:a.form=23→a.attr≠85:=by omega
 have hf:a.form=1∨a.form=3∨a.form=4∨a.form=9∨a.form=10∨a.form=5∨a.form=11∨a.form=13∨a.form=15∨a.form=33∨a.form=6∨a.form=7∨a.form=12∨a.form=25∨a.form=16∨a.form=17∨a.form=18∨a.form=19∨a.form=20∨a.form=21∨a.form=32∨a.form=8∨a.form=14∨a.form=31∨a.form=24∨a.form=23:=by omega
 clear hc h1
 rcases hf with e|e|e|e|e|e|e|e|e|e|e|e|e|e|e|e|e|e|e|e|e|e|e|e|e|e
 all_goals simp[valE,hw,valueOf,dvOf,fcls,classOf,e]
 all_goals try simp only[e] at h5 h6 h23
 all_goals first|done|(have:=h23;simp_all;done)|skip
 ·have:=h5
  simp at this
  split<;>omega
 all_goals
  simp at h6
  first|omega|(rw[wrap_u64 (by omega) (by omega)];omega)
theorem dv_ok {u:UnitD} {a:AttrD} {base:Nat} (hb:base < 1000000000) (h:AttrG u a):DvOK (dvOf base a):=by
 have hr:=h.ref
 have hbl:=h.b
 unfold dvOf
 refine ⟨fun b e=>?_,fun n e=>?_⟩
 all_goals
  repeat' split at e
  all_goals try (cases e;done)
  all_goals
   cases e
   omega
theorem af_eq {a:AttrD} (h1:0≤a.attr) (h2:0≤a.form):afOf ⟨a.attr.toNat,(formOf a).toNat,IntKind.i64.wrap a.n⟩ =afA a:=by
 have e1:((a.attr.toNat:Nat):Int)=a.attr:=by omega
 have hf:0≤formOf a:=by unfold formOf;split<;>omega
 have e2:(((formOf a).toNat:Nat):Int)=formOf a:=by omega
 have e3:(formOf a).toNat=33↔formOf a=33:=by omega
 simp only[afOf,afA,e1,e2,e3]
end Go.Proofs.YtbkfdnkeelmloaaGreatDoor
