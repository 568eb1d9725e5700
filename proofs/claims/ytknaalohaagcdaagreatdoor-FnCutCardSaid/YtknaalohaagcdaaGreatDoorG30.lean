import Derived.Test.YtknaalohaagcdaaGreatDoorG01
import Derived.Test.YtknaalohaagcdaaGreatDoorG09
import Derived.Test.YtknaalohaagcdaaGreatDoorG18
import Derived.Test.YtknaalohaagcdaaGreatDoorG23
import Derived.Test.YtknaalohaagcdaaGreatDoorG28
import Derived.Test.YtknaalohaagcdaaGreatDoorG29
set_option maxHeartbeats 400000000
set_option maxRecDepth 100000
namespace Go.Proofs.YtknaalohaagcdaaGreatDoor.Own
open Go.RowKit JG
def chkD(dup:Bool):List (List Int)→Bool × Bool:=if dup then noChk else chkI decq
structure Cst(A:List Addr)(s:ByteArray)(cap:Nat)(vals:Int)(aU aI:Addr)(lo dup:Bool):Prop where
 hs:s.size≤4096
 hcap:s.size≤cap
 hlo:decide (0<bits .and .u64 vals 4)=lo
 hdup:decide (0<bits .and .u64 vals 2)=dup
 hU:aU∈A
 hI:aI∈A
 ne:aU≠aI
def ValQ(A:List Addr)(base d F B cap k:Nat)(s:ByteArray)(vals:Int)(eU eI:Value)(lab:Nat→Nat)(ds:Array Value)(o:Option Nat)(q m:Nat)(w:World)(e:Ending)(w':World):Prop:=
 ∃ lab' ds' nsv',Fm lab lab' k d F w w'∧DS A w' lab' base d F B cap k s vals 0 eU eI ds' nsv'∧But4 ds ds'∧
  ((∃ j:Nat,o=some j∧e=.returned (.tuple #[.int .i64 (q+j:Nat),.nilIface]))∨(o=none∧∃ (n:Nat) (v:Value),e=.returned (.tuple #[.int .i64 n,v])∧n≤s.size∧ErrV A w.heap.size w' lab' m v))
section
variable {A:List Addr} {w w':World} {lab:Nat→Nat} {base d F B cap k:Nat} {s:ByteArray} {vals:Int} {eU eI:Value} {ds:Array Value} {nsv:Value} {o:Option Nat} {q m:Nat}
theorem ValQ.yes{fl:Int}{j:Nat}{e:Ending}(h:DS A w lab base d F B cap k s vals 0 eU eI ds nsv)(hg:w.grownBy w' (some F))(hf:Fl w' F fl)(ho:o=some j)(he:e=.returned (.tuple #[.int .i64 (q+j:Nat),.nilIface])):ValQ A base d F B cap k s vals eU eI lab ds o q m w e w':=
 ⟨lab,ds,nsv,Fm.gbF hg,h.gbF hg hf,But4.refl _,.inl ⟨j,ho,he⟩⟩
theorem ValQ.no{fl:Int}{n:Nat}{v:Value}{e:Ending}(h:DS A w lab base d F B cap k s vals 0 eU eI ds nsv)(hg:w.grownBy w' (some F))(hf:Fl w' F fl)(ho:o=none)(he:e=.returned (.tuple #[.int .i64 n,v]))(hn:n≤s.size)(hv:Bare A v):ValQ A base d F B cap k s vals eU eI lab ds o q m w e w':=
 ⟨lab,ds,nsv,Fm.gbF hg,h.gbF hg hf,But4.refl _,.inr ⟨ho,n,v,he,hn,.inl hv⟩⟩
theorem ValQ.yes0{j:Nat}{e:Ending}(h:DS A w lab base d F B cap k s vals 0 eU eI ds nsv)(hg:w.grownBy w' none)(ho:o=some j)(he:e=.returned (.tuple #[.int .i64 (q+j:Nat),.nilIface])):ValQ A base d F B cap k s vals eU eI lab ds o q m w e w':=
 ⟨lab,ds,nsv,Fm.gb0 hg,h.gb0 hg,But4.refl _,.inl ⟨j,ho,he⟩⟩
theorem ValQ.no0{n:Nat}{v:Value}{e:Ending}(h:DS A w lab base d F B cap k s vals 0 eU eI ds nsv)(hg:w.grownBy w' none)(ho:o=none)(he:e=.returned (.tuple #[.int .i64 n,v]))(hn:n≤s.size)(hv:Bare A v):ValQ A base d F B cap k s vals eU eI lab ds o q m w e w':=
 ⟨lab,ds,nsv,Fm.gb0 hg,h.gb0 hg,But4.refl _,.inr ⟨ho,n,v,he,hn,.inl hv⟩⟩
end
theorem kind59(c r:Int)(h0:0≤c)(h1:c≤255)(hr:normK c=r)(w:World)(hk:∀ c:Nat,c<256→w.cell? ⟨4,c,none⟩=some (.int .u8 (normK c))):Calls Tryz.prog 59 #[.int .u8 c] w fun e w'=>e=.returned (.int .u8 r)∧w=w':=by
 obtain ⟨n,rfl⟩:∃ n:Nat,c=(n:Int):=⟨c.toNat,by omega⟩
 have ck:=hk n (by omega)
 rw [hr] at ck
 have i1:(n:Int)<256:=by omega
 clear hk
 go_enter Tryz.func59,Tryz.ntmps59
 go_wp2_with fail
 go_ret
 exact ⟨rfl,rfl⟩
theorem cstr94(F d:Nat)(ds:Array Value)(B cap q:Nat)(aU aI:Addr)(lo:Bool)(fl0:Int)(s:ByteArray)(vals last:Int)(w:World)(hs:s.size≤4294967296)(hq:q<s.size)(hcap:s.size≤cap)(hD:DB w d ds B cap s vals last)(hdF:d≠F)
  (hW:SW B s (.iface 260 (.pointer (some aU))) (.iface 260 (.pointer (some aI))) F w) (hF:Fl w F fl0) (hlo:decide (0<bits .and .u64 vals 4)=lo) (hUI:aU≠aI) (hEU:∃ c t,w.heap[aU.block]? = some (.cells c t (0,0))) (hEI:∃ c t,w.heap[aI.block]? = some (.cells c t (0,0))) (hAF:aU.block≠F∧aI.block≠F):
  Calls Tryz.prog 94 #[.pointer (some ⟨d,0,none⟩),.pointer (some ⟨F,0,none⟩),.int .i64 q] w (StrD lo s q F (.iface 260 (.pointer (some aU))) (.iface 260 (.pointer (some aI))) w):=by
 cases hj:quotedO lo ((bytes s).drop q) with
 |none=>exact cstr94_no F d ds B cap q aU aI lo fl0 s vals last w hs hq hcap hD hdF hW hF hlo hUI hEU hEI hAF hj
 |some j=>exact cstr94_yes F d ds B cap q j aU aI lo fl0 s vals last w hs hq hcap hD hdF hW hF hlo hj
theorem val_null_yes(A:List Addr)(base d F B cap k q depth:Nat)(s:ByteArray)(vals:Int)(aU aI:Addr)(lo dup:Bool)(lab:Nat→Nat)(ds:Array Value)(nsv:Value)(w:World)(m:Nat)(C:Cst A s cap vals aU aI lo dup)(h:DS A w lab base d F B cap k s vals 0 (.iface 260 (.pointer (some aU))) (.iface 260 (.pointer (some aI))) ds nsv)(hq:q<s.size)
  (hc:(s[q].toNat:Int)=110) (hw:wordAt [110,117,108,108] ((bytes s).drop q)=some 4):
  Calls Tryz.prog 69 #[.pointer (some ⟨d,0,none⟩),.pointer (some ⟨F,0,none⟩),.int .i64 q,.int .i64 depth] w (ValQ A base d F B cap k s vals (.iface 260 (.pointer (some aU))) (.iface 260 (.pointer (some aI))) lab ds (some 4) q m w):=by
 obtain ⟨c1,c7,c10,_,_⟩:=h.db.facts
 have cq:=h.buf q hq
 rw [hc] at cq
 have K:=Hq (kind59 110 110 (by omega) (by omega) (by decide) w h.g2.nk)
 have hs:=C.hs
 have hcap:=C.hcap
 have N:=null86 B q (cap-q) s w (by omega) (by omega) (by omega) h.buf
 rw [hw] at N
 have N:=Hq N
 have HD:=Hq h
 have HC:=Hq C
 have HQ:=Hq hq
 have ce:=h.gl.eof
 have hqc:q<cap:=by omega
 have q0:(0:Int)≤(q:Int):=Int.natCast_nonneg _
 have q1:(q:Int)<(s.size:Int):=by omega
 have e0:=eqN (.pointer (some aU)) w
 clear h hw hc C hq
 go_enter Tryz.func69,Tryz.ntmps69
 go_wp2_with fail
 go_loopg [2] 1 (fun gk v2 wr=>v2=.int .i64 q∧Hid (gk=1)∧wr=w)
 case atStart=>exact ⟨rfl,Hq rfl,rfl⟩
 case round=>
  obtain ⟨rfl,HGk,rfl⟩:=hrel
  go_wp2_with fail
  refine K.out.mono ?_
  rintro e w' ⟨rfl,rfl⟩
  go_wp2_with fail
  refine N.out.mono ?_
  rintro e w' ⟨rfl,rfl⟩
  go_wp2_with fail
  go_ret2
  exact ValQ.yes0 HD.out (World.grownBy.refl _ _) rfl (by rfl)
theorem val_null_no(A:List Addr)(base d F B cap k q depth:Nat)(s:ByteArray)(vals:Int)(aU aI:Addr)(lo dup:Bool)(lab:Nat→Nat)(ds:Array Value)(nsv:Value)(w:World)(m:Nat)(C:Cst A s cap vals aU aI lo dup)(h:DS A w lab base d F B cap k s vals 0 (.iface 260 (.pointer (some aU))) (.iface 260 (.pointer (some aI))) ds nsv)(hq:q<s.size)
  (hc:(s[q].toNat:Int)=110) (hw:wordAt [110,117,108,108] ((bytes s).drop q)=none):
  Calls Tryz.prog 69 #[.pointer (some ⟨d,0,none⟩),.pointer (some ⟨F,0,none⟩),.int .i64 q,.int .i64 depth] w (ValQ A base d F B cap k s vals (.iface 260 (.pointer (some aU))) (.iface 260 (.pointer (some aI))) lab ds none q m w):=by
 obtain ⟨c1,c7,c10,_,_⟩:=h.db.facts
 have cq:=h.buf q hq
 rw [hc] at cq
 have K:=Hq (kind59 110 110 (by omega) (by omega) (by decide) w h.g2.nk)
 have hs:=C.hs
 have hcap:=C.hcap
 have N:=null86 B q (cap-q) s w (by omega) (by omega) (by omega) h.buf
 rw [hw] at N
 have N:=Hq N
 have L:=Hq (lit130 B q (cap-q) s ⟨#[110,117,108,108]⟩ _ _ w (by omega) (by decide) (by omega) (by omega) h.buf h.gl hw)
 have HD:=Hq h
 have HC:=Hq C
 have HQ:=Hq hq
 have ce:=h.gl.eof
 have hqc:q<cap:=by omega
 have q0:(0:Int)≤(q:Int):=Int.natCast_nonneg _
 have q1:(q:Int)<(s.size:Int):=by omega
 clear h hw hc C hq
 go_enter Tryz.func69,Tryz.ntmps69
 go_wp2_with fail
 go_loopg [2] 1 (fun gk v2 wr=>v2=.int .i64 q∧Hid (gk=1)∧wr=w)
 case atStart=>exact ⟨rfl,Hq rfl,rfl⟩
 case round=>
  obtain ⟨rfl,HGk,rfl⟩:=hrel
  go_wp2_with fail
  refine K.out.mono ?_
  rintro e w' ⟨rfl,rfl⟩
  go_wp2_with fail
  refine N.out.mono ?_
  rintro e w' ⟨rfl,rfl⟩
  go_wp2_with fail
  refine L.out.mono ?_
  rintro e w1 ⟨n,v,rfl,hn,hv,hg⟩
  have HD1:=Hq (HD.out.gb0 hg)
  have ce1:=HD1.out.gl.eof
  have e1:=eqS aU w1
  have e2:=fun b=>eqD (.pointer (some ⟨b,0,none⟩)) (.pointer (some aU)) w1
  have F1:=Hq (fetch122 d ds B cap s vals 0 _ w1 HD1.out.db ce1)
  obtain ⟨_,d7,d10,_,_⟩:=HD1.out.db.facts
  have HV:=Hq (And.intro hv hg)
  have hnq:q+n≤s.size:=by have:=HQ.out; omega
  have hw1:IntKind.i64.wrap ((q:Int)+(n:Int))=(q:Int)+(n:Int):=by rw [IntKind.wrap_i64]; omega
  clear hv hg hn L ce
  rcases HV.out.1 with rfl|⟨b,rfl⟩
  ·go_wp2_with fail
   refine F1.out.mono ?_
   rintro e w' ⟨rfl,rfl⟩
   go_wp2_with fail
   go_ret2
   exact ValQ.no0 (n:=q+n) HD.out HV.out.2 rfl (by rfl) hnq (.inl ⟨_,HC.out.hU,rfl⟩)
  ·go_wp2_with fail
   go_ret2
   exact ValQ.no0 (n:=q+n) HD.out HV.out.2 rfl (by rfl) hnq (.inr ⟨b,rfl⟩)
theorem val_false_yes(A:List Addr)(base d F B cap k q depth:Nat)(s:ByteArray)(vals:Int)(aU aI:Addr)(lo dup:Bool)(lab:Nat→Nat)(ds:Array Value)(nsv:Value)(w:World)(m:Nat)(C:Cst A s cap vals aU aI lo dup)(h:DS A w lab base d F B cap k s vals 0 (.iface 260 (.pointer (some aU))) (.iface 260 (.pointer (some aI))) ds nsv)(hq:q<s.size)
  (hc:(s[q].toNat:Int)=102) (hw:wordAt [102,97,108,115,101] ((bytes s).drop q)=some 5):
  Calls Tryz.prog 69 #[.pointer (some ⟨d,0,none⟩),.pointer (some ⟨F,0,none⟩),.int .i64 q,.int .i64 depth] w (ValQ A base d F B cap k s vals (.iface 260 (.pointer (some aU))) (.iface 260 (.pointer (some aI))) lab ds (some 5) q m w):=by
 obtain ⟨c1,c7,c10,_,_⟩:=h.db.facts
 have cq:=h.buf q hq
 rw [hc] at cq
 have K:=Hq (kind59 102 102 (by omega) (by omega) (by decide) w h.g2.nk)
 have hs:=C.hs
 have hcap:=C.hcap
 have N:=false89 B q (cap-q) s w (by omega) (by omega) (by omega) h.buf
 rw [hw] at N
 have N:=Hq N
 have HD:=Hq h
 have HC:=Hq C
 have HQ:=Hq hq
 have ce:=h.gl.eof
 have hqc:q<cap:=by omega
 have q0:(0:Int)≤(q:Int):=Int.natCast_nonneg _
 have q1:(q:Int)<(s.size:Int):=by omega
 have e0:=eqN (.pointer (some aU)) w
 clear h hw hc C hq
 go_enter Tryz.func69,Tryz.ntmps69
 go_wp2_with fail
 go_loopg [2] 1 (fun gk v2 wr=>v2=.int .i64 q∧Hid (gk=1)∧wr=w)
 case atStart=>exact ⟨rfl,Hq rfl,rfl⟩
 case round=>
  obtain ⟨rfl,HGk,rfl⟩:=hrel
  go_wp2_with fail
  refine K.out.mono ?_
  rintro e w' ⟨rfl,rfl⟩
  go_wp2_with fail
  refine N.out.mono ?_
  rintro e w' ⟨rfl,rfl⟩
  go_wp2_with fail
  go_ret2
  exact ValQ.yes0 HD.out (World.grownBy.refl _ _) rfl (by rfl)
theorem val_false_no(A:List Addr)(base d F B cap k q depth:Nat)(s:ByteArray)(vals:Int)(aU aI:Addr)(lo dup:Bool)(lab:Nat→Nat)(ds:Array Value)(nsv:Value)(w:World)(m:Nat)(C:Cst A s cap vals aU aI lo dup)(h:DS A w lab base d F B cap k s vals 0 (.iface 260 (.pointer (some aU))) (.iface 260 (.pointer (some aI))) ds nsv)(hq:q<s.size)
  (hc:(s[q].toNat:Int)=102) (hw:wordAt [102,97,108,115,101] ((bytes s).drop q)=none):
  Calls Tryz.prog 69 #[.pointer (some ⟨d,0,none⟩),.pointer (some ⟨F,0,none⟩),.int .i64 q,.int .i64 depth] w (ValQ A base d F B cap k s vals (.iface 260 (.pointer (some aU))) (.iface 260 (.pointer (some aI))) lab ds none q m w):=by
 obtain ⟨c1,c7,c10,_,_⟩:=h.db.facts
 have cq:=h.buf q hq
 rw [hc] at cq
 have K:=Hq (kind59 102 102 (by omega) (by omega) (by decide) w h.g2.nk)
 have hs:=C.hs
 have hcap:=C.hcap
 have N:=false89 B q (cap-q) s w (by omega) (by omega) (by omega) h.buf
 rw [hw] at N
 have N:=Hq N
 have L:=Hq (lit130 B q (cap-q) s ⟨#[102,97,108,115,101]⟩ _ _ w (by omega) (by decide) (by omega) (by omega) h.buf h.gl hw)
 have HD:=Hq h
 have HC:=Hq C
 have HQ:=Hq hq
 have ce:=h.gl.eof
 have hqc:q<cap:=by omega
 have q0:(0:Int)≤(q:Int):=Int.natCast_nonneg _
 have q1:(q:Int)<(s.size:Int):=by omega
 clear h hw hc C hq
 go_enter Tryz.func69,Tryz.ntmps69
 go_wp2_with fail
 go_loopg [2] 1 (fun gk v2 wr=>v2=.int .i64 q∧Hid (gk=1)∧wr=w)
 case atStart=>exact ⟨rfl,Hq rfl,rfl⟩
 case round=>
  obtain ⟨rfl,HGk,rfl⟩:=hrel
  go_wp2_with fail
  refine K.out.mono ?_
  rintro e w' ⟨rfl,rfl⟩
  go_wp2_with fail
  refine N.out.mono ?_
  rintro e w' ⟨rfl,rfl⟩
  go_wp2_with fail
  refine L.out.mono ?_
  rintro e w1 ⟨n,v,rfl,hn,hv,hg⟩
  have HD1:=Hq (HD.out.gb0 hg)
  have ce1:=HD1.out.gl.eof
  have e1:=eqS aU w1
  have e2:=fun b=>eqD (.pointer (some ⟨b,0,none⟩)) (.pointer (some aU)) w1
  have F1:=Hq (fetch122 d ds B cap s vals 0 _ w1 HD1.out.db ce1)
  obtain ⟨_,d7,d10,_,_⟩:=HD1.out.db.facts
  have HV:=Hq (And.intro hv hg)
  have hnq:q+n≤s.size:=by have:=HQ.out; omega
  have hw1:IntKind.i64.wrap ((q:Int)+(n:Int))=(q:Int)+(n:Int):=by rw [IntKind.wrap_i64]; omega
  clear hv hg hn L ce
  rcases HV.out.1 with rfl|⟨b,rfl⟩
  ·go_wp2_with fail
   refine F1.out.mono ?_
   rintro e w' ⟨rfl,rfl⟩
   go_wp2_with fail
   go_ret2
   exact ValQ.no0 (n:=q+n) HD.out HV.out.2 rfl (by rfl) hnq (.inl ⟨_,HC.out.hU,rfl⟩)
  ·go_wp2_with fail
   go_ret2
   exact ValQ.no0 (n:=q+n) HD.out HV.out.2 rfl (by rfl) hnq (.inr ⟨b,rfl⟩)
theorem val_true_yes(A:List Addr)(base d F B cap k q depth:Nat)(s:ByteArray)(vals:Int)(aU aI:Addr)(lo dup:Bool)(lab:Nat→Nat)(ds:Array Value)(nsv:Value)(w:World)(m:Nat)(C:Cst A s cap vals aU aI lo dup)(h:DS A w lab base d F B cap k s vals 0 (.iface 260 (.pointer (some aU))) (.iface 260 (.pointer (some aI))) ds nsv)(hq:q<s.size)
  (hc:(s[q].toNat:Int)=116) (hw:wordAt [116,114,117,101] ((bytes s).drop q)=some 4):
  Calls Tryz.prog 69 #[.pointer (some ⟨d,0,none⟩),.pointer (some ⟨F,0,none⟩),.int .i64 q,.int .i64 depth] w (ValQ A base d F B cap k s vals (.iface 260 (.pointer (some aU))) (.iface 260 (.pointer (some aI))) lab ds (some 4) q m w):=by
 obtain ⟨c1,c7,c10,_,_⟩:=h.db.facts
 have cq:=h.buf q hq
 rw [hc] at cq
 have K:=Hq (kind59 116 116 (by omega) (by omega) (by decide) w h.g2.nk)
 have hs:=C.hs
 have hcap:=C.hcap
 have N:=true91 B q (cap-q) s w (by omega) (by omega) (by omega) h.buf
 rw [hw] at N
 have N:=Hq N
 have HD:=Hq h
 have HC:=Hq C
 have HQ:=Hq hq
 have ce:=h.gl.eof
 have hqc:q<cap:=by omega
 have q0:(0:Int)≤(q:Int):=Int.natCast_nonneg _
 have q1:(q:Int)<(s.size:Int):=by omega
 have e0:=eqN (.pointer (some aU)) w
 clear h hw hc C hq
 go_enter Tryz.func69,Tryz.ntmps69
 go_wp2_with fail
 go_loopg [2] 1 (fun gk v2 wr=>v2=.int .i64 q∧Hid (gk=1)∧wr=w)
 case atStart=>exact ⟨rfl,Hq rfl,rfl⟩
 case round=>
  obtain ⟨rfl,HGk,rfl⟩:=hrel
  go_wp2_with fail
  refine K.out.mono ?_
  rintro e w' ⟨rfl,rfl⟩
  go_wp2_with fail
  refine N.out.mono ?_
  rintro e w' ⟨rfl,rfl⟩
  go_wp2_with fail
  go_ret2
  exact ValQ.yes0 HD.out (World.grownBy.refl _ _) rfl (by rfl)
theorem val_true_no(A:List Addr)(base d F B cap k q depth:Nat)(s:ByteArray)(vals:Int)(aU aI:Addr)(lo dup:Bool)(lab:Nat→Nat)(ds:Array Value)(nsv:Value)(w:World)(m:Nat)(C:Cst A s cap vals aU aI lo dup)(h:DS A w lab base d F B cap k s vals 0 (.iface 260 (.pointer (some aU))) (.iface 260 (.pointer (some aI))) ds nsv)(hq:q<s.size)
  (hc:(s[q].toNat:Int)=116) (hw:wordAt [116,114,117,101] ((bytes s).drop q)=none):
  Calls Tryz.prog 69 #[.pointer (some ⟨d,0,none⟩),.pointer (some ⟨F,0,none⟩),.int .i64 q,.int .i64 depth] w (ValQ A base d F B cap k s vals (.iface 260 (.pointer (some aU))) (.iface 260 (.pointer (some aI))) lab ds none q m w):=by
 obtain ⟨c1,c7,c10,_,_⟩:=h.db.facts
 have cq:=h.buf q hq
 rw [hc] at cq
 have K:=Hq (kind59 116 116 (by omega) (by omega) (by decide) w h.g2.nk)
 have hs:=C.hs
 have hcap:=C.hcap
 have N:=true91 B q (cap-q) s w (by omega) (by omega) (by omega) h.buf
 rw [hw] at N
 have N:=Hq N
 have L:=Hq (lit130 B q (cap-q) s ⟨#[116,114,117,101]⟩ _ _ w (by omega) (by decide) (by omega) (by omega) h.buf h.gl hw)
 have HD:=Hq h
 have HC:=Hq C
 have HQ:=Hq hq
 have ce:=h.gl.eof
 have hqc:q<cap:=by omega
 have q0:(0:Int)≤(q:Int):=Int.natCast_nonneg _
 have q1:(q:Int)<(s.size:Int):=by omega
 clear h hw hc C hq
 go_enter Tryz.func69,Tryz.ntmps69
 go_wp2_with fail
 go_loopg [2] 1 (fun gk v2 wr=>v2=.int .i64 q∧Hid (gk=1)∧wr=w)
 case atStart=>exact ⟨rfl,Hq rfl,rfl⟩
 case round=>
  obtain ⟨rfl,HGk,rfl⟩:=hrel
  go_wp2_with fail
  refine K.out.mono ?_
  rintro e w' ⟨rfl,rfl⟩
  go_wp2_with fail
  refine N.out.mono ?_
  rintro e w' ⟨rfl,rfl⟩
  go_wp2_with fail
  refine L.out.mono ?_
  rintro e w1 ⟨n,v,rfl,hn,hv,hg⟩
  have HD1:=Hq (HD.out.gb0 hg)
  have ce1:=HD1.out.gl.eof
  have e1:=eqS aU w1
  have e2:=fun b=>eqD (.pointer (some ⟨b,0,none⟩)) (.pointer (some aU)) w1
  have F1:=Hq (fetch122 d ds B cap s vals 0 _ w1 HD1.out.db ce1)
  obtain ⟨_,d7,d10,_,_⟩:=HD1.out.db.facts
  have HV:=Hq (And.intro hv hg)
  have hnq:q+n≤s.size:=by have:=HQ.out; omega
  have hw1:IntKind.i64.wrap ((q:Int)+(n:Int))=(q:Int)+(n:Int):=by rw [IntKind.wrap_i64]; omega
  clear hv hg hn L ce
  rcases HV.out.1 with rfl|⟨b,rfl⟩
  ·go_wp2_with fail
   refine F1.out.mono ?_
   rintro e w' ⟨rfl,rfl⟩
   go_wp2_with fail
   go_ret2
   exact ValQ.no0 (n:=q+n) HD.out HV.out.2 rfl (by rfl) hnq (.inl ⟨_,HC.out.hU,rfl⟩)
  ·go_wp2_with fail
   go_ret2
   exact ValQ.no0 (n:=q+n) HD.out HV.out.2 rfl (by rfl) hnq (.inr ⟨b,rfl⟩)
theorem val_str(A:List Addr)(base d F B cap k q depth:Nat)(s:ByteArray)(vals:Int)(aU aI:Addr)(lo dup:Bool)(lab:Nat→Nat)(ds:Array Value)(nsv:Value)(w:World)(m:Nat)(C:Cst A s cap vals aU aI lo dup)(h:DS A w lab base d F B cap k s vals 0 (.iface 260 (.pointer (some aU))) (.iface 260 (.pointer (some aI))) ds nsv)(hq:q<s.size)
  (hc:(s[q].toNat:Int)=34):
  Calls Tryz.prog 69 #[.pointer (some ⟨d,0,none⟩),.pointer (some ⟨F,0,none⟩),.int .i64 q,.int .i64 depth] w (ValQ A base d F B cap k s vals (.iface 260 (.pointer (some aU))) (.iface 260 (.pointer (some aI))) lab ds ((quotedO lo ((bytes s).drop q)).map (·+1)) q m w):=by
 obtain ⟨c1,c7,c10,_,_⟩:=h.db.facts
 have cq:=h.buf q hq
 rw [hc] at cq
 have K:=Hq (kind59 34 34 (by omega) (by omega) (by decide) w h.g2.nk)
 have hs:=C.hs
 have hcap:=C.hcap
 obtain ⟨fl,hfl⟩:=h.fl
 have N:=Hq (simple93 B q (cap-q) s w (by omega) (by omega) h.buf h.gl.esc)
 have HD:=Hq h
 have HC:=Hq C
 have HQ:=Hq hq
 have ce:=h.gl.eof
 have hqc:q<cap:=by omega
 have q0:(0:Int)≤(q:Int):=Int.natCast_nonneg _
 have q1:(q:Int)<(s.size:Int):=by omega
 have e0:=eqN (.pointer (some aU)) w
 have HFL:=Hq hfl
 have SC:=Hq (show Calls Tryz.prog 94 #[.pointer (some ⟨d,0,none⟩),.pointer (some ⟨F,0,none⟩),.int .i64 q] w (StrD lo s q F (.iface 260 (.pointer (some aU))) (.iface 260 (.pointer (some aI))) w) from cstr94 F d ds B cap q aU aI lo fl s vals 0 w (by omega) hq hcap h.db h.dF h.sw hfl C.hlo C.ne (h.eb _ C.hU) (h.eb _ C.hI) ⟨(h.Ad _ C.hU).2,(h.Ad _ C.hI).2⟩)
 obtain ⟨o,HO⟩:∃ o,Hid (o=quotedO lo ((bytes s).drop q)):=⟨_,Hq rfl⟩
 rw [← HO.out]
 clear h hc C hq hfl
 go_enter Tryz.func69,Tryz.ntmps69
 go_wp2_with fail
 go_loopg [2] 1 (fun gk v2 wr=>v2=.int .i64 q∧Hid (gk=1)∧wr=w)
 case atStart=>exact ⟨rfl,Hq rfl,rfl⟩
 case round=>
  obtain ⟨rfl,HGk,rfl⟩:=hrel
  go_wp2_with fail
  refine K.out.mono ?_
  rintro e w' ⟨rfl,rfl⟩
  go_wp2_with fail
  refine N.out.mono ?_
  rintro e w' ⟨n,rfl,rfl,hn⟩
  have HN:=Hq hn
  clear hn
  rcases HN.out with rfl|⟨j,rfl,hj,hv⟩
  ·go_wp2_with fail
   refine SC.out.mono ?_
   rintro e w1 (⟨j,fl',hj,rfl,hjs,hf,hvb,hg⟩|⟨hj,n,v,fl',rfl,hn,hv,hf,hg⟩)
   ·have R:=Hq (And.intro hj (And.intro hf hg))
    clear hj hf hvb hg
    go_wp2_with fail
    go_ret2
    exact ValQ.yes HD.out R.out.2.2 R.out.2.1 (by rw [HO.out,R.out.1]; rfl) (by rfl)
   ·have R:=Hq (And.intro hj (And.intro hf (And.intro hg (And.intro hv hn))))
    clear hj hf hv hg hn
    go_wp2_with fail
    go_ret2
    refine ValQ.no HD.out R.out.2.2.1 R.out.2.1 (by rw [HO.out,R.out.1]; rfl) (by rfl) R.out.2.2.2.2 ?_
    rcases R.out.2.2.2.1 with h1|h1|⟨b,h1⟩
    ·exact .inl ⟨_,HC.out.hU,h1⟩
    ·exact .inl ⟨_,HC.out.hI,h1⟩
    ·exact .inr ⟨b,h1⟩
  ·have R:=Hq (And.intro (hj lo) (quotedO_fit (hj lo)))
   have hjq:q+(j+1)≤s.size:=by have:=R.out.2; rw [List.length_drop,bytes_len] at this; omega
   have hw1:IntKind.i64.wrap ((q:Int)+((j:Int)+1))=(q:Int)+((j:Int)+1):=by rw [IntKind.wrap_i64]; omega
   have jz:((((j+1:Nat):Int))==0)=false:=by simp; omega
   clear hj hv
   go_wp2_with fail
   go_ret2
   exact ValQ.yes0 HD.out (World.grownBy.refl _ _) (by rw [HO.out,R.out.1]; rfl) (by rfl)
theorem val_num(A:List Addr)(base d F B cap k q depth:Nat)(s:ByteArray)(vals:Int)(aU aI:Addr)(lo dup:Bool)(lab:Nat→Nat)(ds:Array Value)(nsv:Value)(w:World)(m:Nat)(C:Cst A s cap vals aU aI lo dup)(h:DS A w lab base d F B cap k s vals 0 (.iface 260 (.pointer (some aU))) (.iface 260 (.pointer (some aI))) ds nsv)(hq:q<s.size)
  (c:Int) (hc:(s[q].toNat:Int)=c) (hnum:c=45∨(48≤c∧c≤57)):
  Calls Tryz.prog 69 #[.pointer (some ⟨d,0,none⟩),.pointer (some ⟨F,0,none⟩),.int .i64 q,.int .i64 depth] w (ValQ A base d F B cap k s vals (.iface 260 (.pointer (some aU))) (.iface 260 (.pointer (some aI))) lab ds (num ((bytes s).drop q)) q m w):=by
 have HCK:normK c=48:=by unfold normK; rw [if_neg (by omega),if_pos hnum]
 obtain ⟨c1,c7,c10,_,_⟩:=h.db.facts
 have cq:=h.buf q hq
 rw [hc] at cq
 have K:=Hq (kind59 c 48 (by omega) (by omega) HCK w h.g2.nk)
 have hs:=C.hs
 have hcap:=C.hcap
 have N:=Hq (simple96 B q (cap-q) s w (by omega) hq (by omega) h.buf)
 have HD:=Hq h
 have HC:=Hq C
 have HQ:=Hq hq
 have ce:=h.gl.eof
 have hqc:q<cap:=by omega
 have q0:(0:Int)≤(q:Int):=Int.natCast_nonneg _
 have q1:(q:Int)<(s.size:Int):=by omega
 have e0:=eqN (.pointer (some aU)) w
 have NC:=Hq (num97 d ds B cap q aU s vals 0 _ w (by omega) hq hcap h.db h.buf h.gl)
 have M:=Hq (fun (n:Nat) b hb=>more62 d ds B cap (q+n) s vals 0 w h.db b hb)
 obtain ⟨o,HO⟩:∃ o,Hid (o=num ((bytes s).drop q)):=⟨_,Hq rfl⟩
 rw [← HO.out]
 have NC':Calls Tryz.prog 97 #[.pointer (some ⟨d,0,none⟩),.int .i64 q] w (ValQ A base d F B cap k s vals (.iface 260 (.pointer (some aU))) (.iface 260 (.pointer (some aI))) lab ds o q m w):=NC.out.mono fun e w1 hx=>by
  rcases hx with ⟨j,hj,rfl,hg⟩|⟨hj,n,v,rfl,hn,hv,hg⟩
  ·exact ValQ.yes0 HD.out hg (by rw [HO.out,hj]) rfl
  ·refine ValQ.no0 HD.out hg (by rw [HO.out,hj]) rfl hn ?_
   rcases hv with h1|⟨b,h1⟩
   ·exact .inl ⟨_,HC.out.hU,h1⟩
   ·exact .inr ⟨b,h1⟩
 have NV:=Hq NC'
 clear h hc C hq NC NC' hnum
 go_enter Tryz.func69,Tryz.ntmps69
 go_wp2_with fail
 go_loopg [2] 1 (fun gk v2 wr=>v2=.int .i64 q∧Hid (gk=1)∧wr=w)
 case atStart=>exact ⟨rfl,Hq rfl,rfl⟩
 case round=>
  obtain ⟨rfl,HGk,rfl⟩:=hrel
  go_wp2_with fail
  refine K.out.mono ?_
  rintro e w' ⟨rfl,rfl⟩
  go_wp2_with fail
  refine N.out.mono ?_
  rintro e w' ⟨n,rfl,hns,hn,rfl⟩
  have HN:=Hq hn
  clear hn
  have hw1:IntKind.i64.wrap ((q:Int)+(n:Int))=(q:Int)+(n:Int):=by rw [IntKind.wrap_i64]; omega
  by_cases hn0:n=0
  ·subst hn0
   go_wp2_with fail
   refine NV.out.mono ?_
   rintro e w1 ⟨lab',ds',nsv',hfm,hds,hb4,hcase⟩
   have R:=Hq (And.intro hfm (And.intro hds hb4))
   clear hfm hds hb4
   rcases hcase with ⟨j,hj,rfl⟩|⟨hj,n',v,rfl,hn',hv⟩
   ·have RJ:=Hq hj
    clear hj
    go_wp2_with fail
    go_ret2
    exact ⟨lab',ds',nsv',R.out.1,R.out.2.1,R.out.2.2,.inl ⟨j,RJ.out,rfl⟩⟩
   ·have RJ:=Hq (And.intro hj hv)
    clear hj hv
    go_wp2_with fail
    go_ret2
    exact ⟨lab',ds',nsv',R.out.1,R.out.2.1,R.out.2.2,.inr ⟨RJ.out.1,n',v,rfl,hn',RJ.out.2⟩⟩
  ·have tz:((n:Int)==0)=false:=by simpa using hn0
   by_cases hend:q+n=s.size
   ·have M1:=Hq (M.out n true (by simpa using hend))
    clear M hend hn0
    go_wp2_with fail
    refine M1.out.mono ?_
    rintro e w' ⟨rfl,rfl⟩
    go_wp2_with fail
    refine NV.out.mono ?_
    rintro e w1 ⟨lab',ds',nsv',hfm,hds,hb4,hcase⟩
    have R:=Hq (And.intro hfm (And.intro hds hb4))
    clear hfm hds hb4
    rcases hcase with ⟨j,hj,rfl⟩|⟨hj,n',v,rfl,hn',hv⟩
    ·have RJ:=Hq hj
     clear hj
     go_wp2_with fail
     go_ret2
     exact ⟨lab',ds',nsv',R.out.1,R.out.2.1,R.out.2.2,.inl ⟨j,RJ.out,rfl⟩⟩
    ·have RJ:=Hq (And.intro hj hv)
     clear hj hv
     go_wp2_with fail
     go_ret2
     exact ⟨lab',ds',nsv',R.out.1,R.out.2.1,R.out.2.2,.inr ⟨RJ.out.1,n',v,rfl,hn',RJ.out.2⟩⟩
   ·have M1:=Hq (M.out n false (by simpa using hend))
    have HNN:=Hq (show num ((bytes s).drop q)=some n by
     rcases HN.out with h1|h1|h1
     ·exact absurd h1 hn0
     ·exact absurd h1 hend
     ·exact h1)
    clear M hend hn0
    go_wp2_with fail
    refine M1.out.mono ?_
    rintro e w' ⟨rfl,rfl⟩
    go_wp2_with fail
    go_ret2
    exact ValQ.yes0 HD.out (World.grownBy.refl _ _) (by rw [HO.out,HNN.out]) (by rfl)
end Go.Proofs.YtknaalohaagcdaaGreatDoor.Own
namespace Go.Proofs.YtknaalohaagcdaaGreatDoor.Own
open Go.RowKit JG
theorem obj127(w:World):Calls Tryz.prog 127 #[.int .u64 0] w fun e w'=>e=.returned (.bool false)∧w=w':=by
 have e:bits .and .u64 0 9223372036854775808=0:=by decide
 go_enter Tryz.func127,Tryz.ntmps127
 go_wp2_with fail
 go_ret
 exact ⟨rfl,rfl⟩
theorem arr125(w:World):Calls Tryz.prog 125 #[.int .u64 0] w fun e w'=>e=.returned (.bool true)∧w=w':=by
 have e:bits .and .u64 0 9223372036854775808=0:=by decide
 go_enter Tryz.func125,Tryz.ntmps125
 go_wp2_with fail
 go_ret
 exact ⟨rfl,rfl⟩
theorem val_bad(A:List Addr)(base d F B cap k q depth:Nat)(s:ByteArray)(vals:Int)(aU aI:Addr)(lo dup:Bool)(lab:Nat→Nat)(ds:Array Value)(nsv:Value)(w:World)(m:Nat)(C:Cst A s cap vals aU aI lo dup)(h:DS A w lab base d F B cap k s vals 0 (.iface 260 (.pointer (some aU))) (.iface 260 (.pointer (some aI))) ds nsv)(hq:q<s.size)
  (c r:Int) (hc:(s[q].toNat:Int)=c) (hr:normK c=r) (hcase:r=0∨r=93):
  Calls Tryz.prog 69 #[.pointer (some ⟨d,0,none⟩),.pointer (some ⟨F,0,none⟩),.int .i64 q,.int .i64 depth] w (ValQ A base d F B cap k s vals (.iface 260 (.pointer (some aU))) (.iface 260 (.pointer (some aI))) lab ds none q m w):=by
 obtain ⟨c1,c7,c10,_,_⟩:=h.db.facts
 have cq:=h.buf q hq
 have hcb:=s[q].toNat_lt
 rw [hc] at cq
 have K:=Hq (kind59 c r (by omega) (by omega) hr w h.g2.nk)
 have hs:=C.hs
 have hcap:=C.hcap
 have HD:=Hq h
 have HC:=Hq C
 have ce:=h.gl.eof
 have hqc:q<cap:=by omega
 have q0:(0:Int)≤(q:Int):=Int.natCast_nonneg _
 have q1:(q:Int)<(s.size:Int):=by omega
 have O:=Hq (fun w=>obj127 w)
 have AR:=Hq (fun w=>arr125 w)
 have CE:=Hq (fun wh w1 (hg:w.grownBy w1 none)=>charErr107 B q (cap-q) s wh w1 ((h.gb0 hg).gl.tabs) hq (by omega) (h.gb0 hg).buf)
 clear h hc C hr
 rcases hcase with rfl|rfl
 all_goals
  go_enter Tryz.func69,Tryz.ntmps69
  go_wp2_with fail
  go_loopg [2] 1 (fun gk v2 wr=>v2=.int .i64 q∧Hid (gk=1)∧wr=w)
  case atStart=>exact ⟨rfl,Hq rfl,rfl⟩
  case round=>
   obtain ⟨rfl,HGk,rfl⟩:=hrel
   go_wp2_with fail
   refine K.out.mono ?_
   rintro e w' ⟨rfl,rfl⟩
   go_wp2_with fail
   refine (O.out _).mono ?_
   rintro e w' ⟨rfl,rfl⟩
   go_wp2_with fail
   refine (AR.out _).mono ?_
   rintro e w' ⟨rfl,rfl⟩
   go_wp2_with fail
   refine (CE.out _ _ (World.grownBy.refl _ _)).mono ?_
   rintro e w1 ⟨b,rfl,hg⟩
   have R:=Hq hg
   clear hg
   go_wp2_with fail
   go_ret2
   exact ValQ.no0 (n:=q) HD.out R.out rfl (by rfl) (by omega) (.inr ⟨b,rfl⟩)
theorem val_brace(A:List Addr)(base d F B cap k q depth:Nat)(s:ByteArray)(vals:Int)(aU aI:Addr)(lo dup:Bool)(lab:Nat→Nat)(ds:Array Value)(nsv:Value)(w:World)(m:Nat)(C:Cst A s cap vals aU aI lo dup)(h:DS A w lab base d F B cap k s vals 0 (.iface 260 (.pointer (some aU))) (.iface 260 (.pointer (some aI))) ds nsv)(hq:q<s.size)
  (c r:Int) (hc:(s[q].toNat:Int)=c) (hr:normK c=r) (hcase:r=125):
  Calls Tryz.prog 69 #[.pointer (some ⟨d,0,none⟩),.pointer (some ⟨F,0,none⟩),.int .i64 q,.int .i64 depth] w (ValQ A base d F B cap k s vals (.iface 260 (.pointer (some aU))) (.iface 260 (.pointer (some aI))) lab ds none q m w):=by
 obtain ⟨c1,c7,c10,_,_⟩:=h.db.facts
 have cq:=h.buf q hq
 have hcb:=s[q].toNat_lt
 rw [hc] at cq
 have K:=Hq (kind59 c r (by omega) (by omega) hr w h.g2.nk)
 have hs:=C.hs
 have hcap:=C.hcap
 have HD:=Hq h
 have HC:=Hq C
 have ce:=h.gl.eof
 have hqc:q<cap:=by omega
 have q0:(0:Int)≤(q:Int):=Int.natCast_nonneg _
 have q1:(q:Int)<(s.size:Int):=by omega
 have O:=Hq (fun w=>obj127 w)
 have AR:=Hq (fun w=>arr125 w)
 obtain ⟨aM,haM,cM⟩:=h.g2.snt 5 (by decide)
 clear h hc C hr
 subst hcase
 go_enter Tryz.func69,Tryz.ntmps69
 go_wp2_with fail
 go_loopg [2] 1 (fun gk v2 wr=>v2=.int .i64 q∧Hid (gk=1)∧wr=w)
 case atStart=>exact ⟨rfl,Hq rfl,rfl⟩
 case round=>
  obtain ⟨rfl,HGk,rfl⟩:=hrel
  go_wp2_with fail
  refine K.out.mono ?_
  rintro e w' ⟨rfl,rfl⟩
  go_wp2_with fail
  refine (O.out _).mono ?_
  rintro e w' ⟨rfl,rfl⟩
  go_wp2_with fail
  refine (AR.out _).mono ?_
  rintro e w' ⟨rfl,rfl⟩
  go_wp2_with fail
  go_quiet (fail)
  go_wp2_with fail
  go_ret2
  exact ValQ.no0 (n:=q) HD.out (gb_drewN (World.grownBy.refl _ _) _) rfl (by rfl) (by omega) (.inl ⟨_,haM,rfl⟩)
theorem name71(l:Int)(hl:l=0∨l=1)(w:World):Calls Tryz.prog 71 #[.int .u64 l] w fun e w'=>e=.returned (.bool false)∧w=w':=by
 have e:(bits .and .u64 l 9223372036854775809==9223372036854775808)=false:=by rcases hl with rfl|rfl<;>decide
 clear hl
 go_enter Tryz.func71,Tryz.ntmps71
 go_wp2_with fail
 go_ret
 exact ⟨by rfl,rfl⟩
theorem valid73(l:Int)(hl:l=0∨l=1∨l=9223372036854775808)(w:World):Calls Tryz.prog 73 #[.int .u64 l] w fun e w'=>e=.returned (.bool true)∧w=w':=by
 have e:(bits .and .u64 l 2305843009213693952==0)=true:=by rcases hl with rfl|rfl|rfl<;>decide
 clear hl
 go_enter Tryz.func73,Tryz.ntmps73
 go_wp2_with fail
 go_ret
 exact ⟨by rfl,rfl⟩
theorem incr133(d:Nat)(l:Int)(hl:0≤l∧l≤1)(w:World)(c1:w.cell? ⟨d,1,none⟩=some (.int .u64 l))(f1:w.frozen? ⟨d,1,none⟩=false):Calls Tryz.prog 133 #[.pointer (some ⟨d,1,none⟩)] w fun e w'=>e=.returned (.tuple #[])∧w'=w.setCell ⟨d,1,none⟩ (.int .u64 (l+1)):=by
 have h0:=hl.1
 have h1:=hl.2
 clear hl
 go_enter Tryz.func133,Tryz.ntmps133
 go_wp2_with fail
 go_end0
 exact ⟨rfl,rfl⟩
theorem lit70(d:Nat)(l:Int)(hl:l=0∨l=1)(w:World)(c1:w.cell? ⟨d,1,none⟩=some (.int .u64 l))(f1:w.frozen? ⟨d,1,none⟩=false):Calls Tryz.prog 70 #[.pointer (some ⟨d,0,none⟩)] w fun e w'=>e=.returned .nilIface∧w'=w.setCell ⟨d,1,none⟩ (.int .u64 (l+1)):=by
 have N:=Hq (fun w=>name71 l hl w)
 have V:=Hq (fun w=>valid73 l (hl.imp id .inl) w)
 have I:=Hq (incr133 d l (by omega) w c1 f1)
 clear hl
 go_enter Tryz.func70,Tryz.ntmps70
 go_wp2_with fail
 refine (N.out _).mono ?_
 rintro e w' ⟨rfl,rfl⟩
 go_wp2_with fail
 refine (V.out _).mono ?_
 rintro e w' ⟨rfl,rfl⟩
 go_wp2_with fail
 refine I.out.mono ?_
 rintro e w' ⟨rfl,rfl⟩
 go_wp2_with fail
 go_ret
 exact ⟨rfl,rfl⟩
theorem str80(d:Nat)(l:Int)(hl:l=0∨l=1)(w:World)(c1:w.cell? ⟨d,1,none⟩=some (.int .u64 l))(f1:w.frozen? ⟨d,1,none⟩=false):Calls Tryz.prog 80 #[.pointer (some ⟨d,0,none⟩)] w fun e w'=>e=.returned .nilIface∧w'=w.setCell ⟨d,1,none⟩ (.int .u64 (l+1)):=by
 have V:=Hq (fun w=>valid73 l (hl.imp id .inl) w)
 have I:=Hq (incr133 d l (by omega) w c1 f1)
 clear hl
 go_enter Tryz.func80,Tryz.ntmps80
 go_wp2_with fail
 refine (V.out _).mono ?_
 rintro e w' ⟨rfl,rfl⟩
 go_wp2_with fail
 refine I.out.mono ?_
 rintro e w' ⟨rfl,rfl⟩
 go_wp2_with fail
 go_ret
 exact ⟨rfl,rfl⟩
theorem numb81(d:Nat)(l:Int)(hl:l=0∨l=1)(w:World)(c1:w.cell? ⟨d,1,none⟩=some (.int .u64 l))(f1:w.frozen? ⟨d,1,none⟩=false):Calls Tryz.prog 81 #[.pointer (some ⟨d,0,none⟩)] w fun e w'=>e=.returned .nilIface∧w'=w.setCell ⟨d,1,none⟩ (.int .u64 (l+1)):=by
 have L:=Hq (lit70 d l hl w c1 f1)
 clear hl
 go_enter Tryz.func81,Tryz.ntmps81
 go_wp2_with fail
 refine L.out.mono ?_
 rintro e w' ⟨rfl,rfl⟩
 go_wp2_with fail
 go_ret
 exact ⟨rfl,rfl⟩
end Go.Proofs.YtknaalohaagcdaaGreatDoor.Own
