import Derived.Test.YtknaalohaagcdaaGreatDoorG01
import Derived.Test.YtknaalohaagcdaaGreatDoorG11
import Derived.Test.YtknaalohaagcdaaGreatDoorG16
import Derived.Test.YtknaalohaagcdaaGreatDoorG18
import Derived.Test.YtknaalohaagcdaaGreatDoorG19
import Derived.Test.YtknaalohaagcdaaGreatDoorG22
import Derived.Test.YtknaalohaagcdaaGreatDoorG27
import Derived.Deep.RegionHeld3
set_option maxHeartbeats 400000000
set_option maxRecDepth 100000
namespace Go.Proofs.YtknaalohaagcdaaGreatDoor.Own
open Go.RowKit JG
theorem eqO(a b:Addr)(w:World)(hne:a≠b)(ha:∃ c t,w.heap[a.block]? = some (.cells c t (0,0)))(hb:∃ c t,w.heap[b.block]? = some (.cells c t (0,0))):(binOp .eql 62 (.iface 260 (.pointer (some a))) (.iface 260 (.pointer (some b)))).run Tryz.prog w=.ok (.bool false) w:=by
 obtain ⟨i,hi,hcmp⟩:=Option.map_eq_some_iff.1 comp260
 obtain ⟨j,hj,hjs⟩:=Option.map_eq_some_iff.1 size280
 obtain ⟨ca,ta,ha⟩:=ha
 obtain ⟨cb,tb,hb⟩:=hb
 exact run_eql_iface_ptr_other (P:=Tryz.prog) (w:=w) Tryz.underlying62 Tryz.underlying260 hi hcmp hj (by omega) hne ha hb
def StrD(lo:Bool)(s:ByteArray)(q F:Nat)(eU eI:Value)(w:World)(e:Ending)(w':World):Prop:=
 (∃ (j:Nat) (fl':Int),quotedO lo ((bytes s).drop q)=some j∧e=.returned (.tuple #[.int .i64 (q+(j+1):Nat),.nilIface])∧q+(j+1)≤s.size∧Fl w' F fl'∧(fl' % 2=0→VerbL (((bytes s).drop q).tail.take (j-1)))∧w.grownBy w' (some F))∨
 (quotedO lo ((bytes s).drop q)=none∧∃ (n:Nat) (v:Value) (fl':Int),e=.returned (.tuple #[.int .i64 n,v])∧n≤s.size∧StrErr eU eI v∧Fl w' F fl'∧w.grownBy w' (some F))
theorem str_yes{lo:Bool}{xs:List Int}{F:Nat}{eU eI:Value}{w:World}{f:FuncId}{args:Array Value}(h:Calls Tryz.prog f args w (StrP lo xs F eU eI w)){j:Nat}(hq:quotedO lo xs=some j):Calls Tryz.prog f args w fun e w'=>∃ fl',e=.returned (.tuple #[.int .i64 (j+1:Nat),.nilIface])∧Fl w' F fl'∧(fl' % 2=0→VerbL (xs.tail.take (j-1)))∧w.grownBy w' (some F):=
 h.mono fun e w' h=>by
  rcases h with ⟨j',fl',h1,h2,h3⟩|⟨h1,_⟩
  ·rw [hq] at h1
   obtain rfl:=Option.some.inj h1
   exact ⟨fl',h2,h3⟩
  ·rw [hq] at h1
   cases h1
theorem str_no{lo:Bool}{xs:List Int}{F:Nat}{eU eI:Value}{w:World}{f:FuncId}{args:Array Value}(h:Calls Tryz.prog f args w (StrP lo xs F eU eI w))(hq:quotedO lo xs=none):Calls Tryz.prog f args w fun e w'=>∃ (n:Nat) (v:Value) (fl':Int),e=.returned (.tuple #[.int .i64 n,v])∧n≤xs.length∧StrErr eU eI v∧Fl w' F fl'∧w.grownBy w' (some F):=
 h.mono fun e w' h=>by
  rcases h with ⟨j',fl',h1,h2,h3⟩|⟨h1,h2⟩
  ·rw [hq] at h1
   cases h1
  ·exact h2
theorem quotedO_fit{lo:Bool}{xs:List Int}{j:Nat}(h:quotedO lo xs=some j):j+1≤xs.length:=by
 obtain ⟨_,pre,rest,e,hl,_⟩:=quotedO_loc h
 rw [e]
 simp at hl ⊢
 omega
theorem cstr94_yes(F d:Nat)(ds:Array Value)(B cap q j:Nat)(aU aI:Addr)(lo:Bool)(fl0:Int)(s:ByteArray)(vals last:Int)(w:World)(hs:s.size≤4294967296)(hq:q<s.size)(hcap:s.size≤cap)(hD:DB w d ds B cap s vals last)(hdF:d≠F)
  (hW:SW B s (.iface 260 (.pointer (some aU))) (.iface 260 (.pointer (some aI))) F w) (hF:Fl w F fl0) (hlo:decide (0<bits .and .u64 vals 4)=lo) (hj:quotedO lo ((bytes s).drop q)=some j):
  Calls Tryz.prog 94 #[.pointer (some ⟨d,0,none⟩),.pointer (some ⟨F,0,none⟩),.int .i64 q] w (StrD lo s q F (.iface 260 (.pointer (some aU))) (.iface 260 (.pointer (some aI))) w):=by
 obtain ⟨_,c7,c10,_,c14⟩:=hD.facts
 obtain ⟨pres,hpres⟩:=hD.dc.pres
 have c13:w.cell? ⟨d,13,none⟩=some (.int .u64 pres):=by rw [cell_of_row _ _ _ _ _ (0,0) hD.blk]; exact hpres
 have HD:=Hq hD
 have HDF:=Hq (show some d≠some F by simpa using hdF)
 have HW:=Hq (And.intro hW hF)
 have hqc:q<cap:=by omega
 have hqs:q≤s.size:=by omega
 have HJ:=Hq (And.intro hj (quotedO_fit hj))
 have HS:=Hq hs
 have G:=Hq (fun w=>get72 pres vals 4 lo hlo w)
 have S:=Hq (fun w1 (hg:w.grownBy w1 none)=>str_yes (str139 F B q (cap-q) (s.size-q) fl0 lo s _ _ w1 hs (by omega) (by omega) (hW.kept (gb_some hg F)) (hF.block (hg.block F hF.lt (by simp)))) hj)
 have q0:(0:Int)≤(q:Int):=Int.natCast_nonneg _
 clear hD hW hF hlo hj
 go_enter Tryz.func94,Tryz.ntmps94
 go_wp2_with fail
 go_loopg [2,8] 1 (fun gk v2 v8 wr=>v2=.int .i64 q∧v8=.int .i64 0∧Hid (gk=1)∧wr=w)
 case atStart=>exact ⟨rfl,rfl,Hq rfl,rfl⟩
 case round=>
  obtain ⟨rfl,rfl,HGk,rfl⟩:=hrel
  go_wp2_with fail
  have HC:=Hq (fun (w':World) (e:w'.heap[d]? = wr.heap[d]?)=>(show w'.cell? ⟨d,7,none⟩=some (.slice (some ⟨B,0,none⟩) s.size cap)∧w'.cell? ⟨d,13,none⟩=some (.int .u64 pres)∧w'.cell? ⟨d,14,none⟩=some (.int .u64 vals) from
   ⟨(World.cell?_of_block (w:=wr) (a:=⟨d,7,none⟩) e).trans c7,(World.cell?_of_block (w:=wr) (a:=⟨d,13,none⟩) e).trans c13,(World.cell?_of_block (w:=wr) (a:=⟨d,14,none⟩) e).trans c14⟩))
  go_region_held3 (fun w'=>w'.cell? ⟨d,7,none⟩=some (.slice (some ⟨B,0,none⟩) s.size cap)∧w'.cell? ⟨d,13,none⟩=some (.int .u64 pres)∧w'.cell? ⟨d,14,none⟩=some (.int .u64 vals)) (go_keep)
   (first
    |(go_at_call 72; refine (G.out _).mono ?_; rintro e w1 ⟨rfl,hg⟩; have hk1:=HC.out w1 (hg.block d HD.out.lt (by simp)))
    |(go_at_call 139; refine (S.out _ ⟨hg.os,hg.tape,hg.output,hg.size,hg.block⟩).mono ?_; rintro e w2 ⟨fl',rfl,hf,hv,hg2⟩; have hk2:=HC.out w2 ((hg2.block d (Nat.lt_of_lt_of_le HD.out.lt hg.size) HDF.out).trans (hg.block d HD.out.lt (by simp)))))
  have HG2:=Hq (show wr.grownBy w2 (some F) from (gb_some (show wr.grownBy w1 none from ⟨hg.os,hg.tape,hg.output,hg.size,hg.block⟩) F).trans hg2)
  have HW2:=Hq (HW.out.1.kept HG2.out)
  have ce:=HW2.out.gl.eof
  have e0:=eqN (.pointer (some aU)) w2
  have HR:=Hq (And.intro hf hv)
  clear hg hg2 hf hv hk1 hk2 S G HC
  have hw1:IntKind.i64.wrap ((q:Int)+((j:Int)+1))=(q:Int)+((j:Int)+1):=by rw [IntKind.wrap_i64]; have:=HS.out; have h2:=HJ.out.2; rw [List.length_drop,bytes_len] at h2; omega
  go_wp2_with fail
  go_ret2
  exact .inl ⟨j,fl',HJ.out.1,rfl,by have h2:=HJ.out.2; rw [List.length_drop,bytes_len] at h2; omega,HR.out.1,HR.out.2,HG2.out⟩
theorem cstr94_no(F d:Nat)(ds:Array Value)(B cap q:Nat)(aU aI:Addr)(lo:Bool)(fl0:Int)(s:ByteArray)(vals last:Int)(w:World)(hs:s.size≤4294967296)(hq:q<s.size)(hcap:s.size≤cap)(hD:DB w d ds B cap s vals last)(hdF:d≠F)
  (hW:SW B s (.iface 260 (.pointer (some aU))) (.iface 260 (.pointer (some aI))) F w) (hF:Fl w F fl0) (hlo:decide (0<bits .and .u64 vals 4)=lo) (hUI:aU≠aI) (hEU:∃ c t,w.heap[aU.block]? = some (.cells c t (0,0))) (hEI:∃ c t,w.heap[aI.block]? = some (.cells c t (0,0))) (hAF:aU.block≠F∧aI.block≠F) (hj:quotedO lo ((bytes s).drop q)=none):
  Calls Tryz.prog 94 #[.pointer (some ⟨d,0,none⟩),.pointer (some ⟨F,0,none⟩),.int .i64 q] w (StrD lo s q F (.iface 260 (.pointer (some aU))) (.iface 260 (.pointer (some aI))) w):=by
 obtain ⟨_,c7,c10,_,c14⟩:=hD.facts
 obtain ⟨pres,hpres⟩:=hD.dc.pres
 have c13:w.cell? ⟨d,13,none⟩=some (.int .u64 pres):=by rw [cell_of_row _ _ _ _ _ (0,0) hD.blk]; exact hpres
 have HD:=Hq hD
 have HDF:=Hq (show some d≠some F by simpa using hdF)
 have HW:=Hq (And.intro hW hF)
 have hqc:q<cap:=by omega
 have hqs:q≤s.size:=by omega
 have HJ:=Hq hj
 have HE:=Hq (And.intro hUI (And.intro hEU (And.intro hEI hAF)))
 clear hUI hEU hEI hAF
 have HS:=Hq hs
 have G:=Hq (fun w=>get72 pres vals 4 lo hlo w)
 have S:=Hq (fun w1 (hg:w.grownBy w1 none)=>str_no (str139 F B q (cap-q) (s.size-q) fl0 lo s _ _ w1 hs (by omega) (by omega) (hW.kept (gb_some hg F)) (hF.block (hg.block F hF.lt (by simp)))) hj)
 have q0:(0:Int)≤(q:Int):=Int.natCast_nonneg _
 clear hD hW hF hlo hj
 go_enter Tryz.func94,Tryz.ntmps94
 go_wp2_with fail
 go_loopg [2,8] 1 (fun gk v2 v8 wr=>v2=.int .i64 q∧v8=.int .i64 0∧Hid (gk=1)∧wr=w)
 case atStart=>exact ⟨rfl,rfl,Hq rfl,rfl⟩
 case round=>
  obtain ⟨rfl,rfl,HGk,rfl⟩:=hrel
  go_wp2_with fail
  have HC:=Hq (fun (w':World) (e:w'.heap[d]? = wr.heap[d]?)=>(show w'.cell? ⟨d,7,none⟩=some (.slice (some ⟨B,0,none⟩) s.size cap)∧w'.cell? ⟨d,13,none⟩=some (.int .u64 pres)∧w'.cell? ⟨d,14,none⟩=some (.int .u64 vals) from
   ⟨(World.cell?_of_block (w:=wr) (a:=⟨d,7,none⟩) e).trans c7,(World.cell?_of_block (w:=wr) (a:=⟨d,13,none⟩) e).trans c13,(World.cell?_of_block (w:=wr) (a:=⟨d,14,none⟩) e).trans c14⟩))
  go_region_held3 (fun w'=>w'.cell? ⟨d,7,none⟩=some (.slice (some ⟨B,0,none⟩) s.size cap)∧w'.cell? ⟨d,13,none⟩=some (.int .u64 pres)∧w'.cell? ⟨d,14,none⟩=some (.int .u64 vals)) (go_keep)
   (first
    |(go_at_call 72; refine (G.out _).mono ?_; rintro e w1 ⟨rfl,hg⟩; have hk1:=HC.out w1 (hg.block d HD.out.lt (by simp)))
    |(go_at_call 139; refine (S.out _ ⟨hg.os,hg.tape,hg.output,hg.size,hg.block⟩).mono ?_; rintro e w2 ⟨n,v,fl',rfl,hn,hv,hf,hg2⟩; have hk2:=HC.out w2 ((hg2.block d (Nat.lt_of_lt_of_le HD.out.lt hg.size) HDF.out).trans (hg.block d HD.out.lt (by simp)))))
  have HG2:=Hq (show wr.grownBy w2 (some F) from (gb_some (show wr.grownBy w1 none from ⟨hg.os,hg.tape,hg.output,hg.size,hg.block⟩) F).trans hg2)
  have HW2:=Hq (HW.out.1.kept HG2.out)
  have ce:=HW2.out.gl.eof
  have hD2:=HD.out.block (HG2.out.block d HD.out.lt HDF.out)
  have HD2:=Hq hD2
  have FE:=Hq (fetch122 d ds B cap s vals last _ w2 hD2 ce)
  obtain ⟨_,d7,d10,_,_⟩:=hD2.facts
  have e1:=eqS aU w2
  have e2:=fun b=>eqD (.pointer (some ⟨b,0,none⟩)) (.pointer (some aU)) w2
  have blk:∀ a:Addr,a.block≠F→(∃ c t,wr.heap[a.block]? = some (.cells c t (0,0)))→∃ c t,w2.heap[a.block]? = some (.cells c t (0,0)):=fun a hne ⟨c,t,e⟩=>⟨c,t,(HG2.out.block a.block (Array.getElem?_eq_some_iff.1 e).1 (by simpa using hne)).trans e⟩
  have e3:=eqO aI aU w2 (Ne.symm HE.out.1) (blk _ HE.out.2.2.2.2 HE.out.2.2.1) (blk _ HE.out.2.2.2.1 HE.out.2.1)
  have HR:=Hq (And.intro hf hn)
  have HV:=Hq hv
  rw [List.length_drop,bytes_len] at hn
  have hnq:q+n≤s.size:=by omega
  clear hg hg2 hf hv hk1 hk2 S G HC hn blk hD2
  have hw1:IntKind.i64.wrap ((q:Int)+(n:Int))=(q:Int)+(n:Int):=by rw [IntKind.wrap_i64]; have:=HS.out; omega
  rcases HV.out with rfl|rfl|⟨b,rfl⟩
  ·go_wp2_with fail
   refine FE.out.mono ?_
   rintro e w' ⟨rfl,rfl⟩
   go_wp2_with fail
   go_ret2
   exact .inr ⟨HJ.out,q+n,_,fl',rfl,hnq,.inl rfl,HR.out.1,HG2.out⟩
  ·go_wp2_with fail
   go_ret2
   exact .inr ⟨HJ.out,q+n,_,fl',rfl,hnq,.inr (.inl rfl),HR.out.1,HG2.out⟩
  ·go_wp2_with fail
   go_ret2
   exact .inr ⟨HJ.out,q+n,_,fl',rfl,hnq,.inr (.inr ⟨b,rfl⟩),HR.out.1,HG2.out⟩
end Go.Proofs.YtknaalohaagcdaaGreatDoor.Own
namespace Go.Proofs.YtknaalohaagcdaaGreatDoor.Own
open Go.RowKit
theorem last169(gg n c:Nat)(ys:List Int)(w:World)(hn:ys.length=n)(hn4:n≤4294967296)(h0:ys[0]? = some 47)(hc:∀ j y,ys[j]? = some y→w.cell? ⟨gg,j,none⟩=some (.int .u8 y)):
  Calls Tryz.prog 169 #[.slice (some ⟨gg,0,none⟩) n c,.int .u8 47] w fun e w'=>∃ i:Nat,i<n∧ys[i]? = some 47∧e=.returned (.int .i64 i)∧w=w':=by
 have H0:=Hq h0
 have HC:=Hq hc
 have HN:=Hq hn
 clear hc h0
 go_enter Tryz.func169,Tryz.ntmps169
 go_wp2_with fail
 have hn1:1≤n:=by
  have:=(List.getElem?_eq_some_iff.1 H0.out).1
  have:=HN.out
  omega
 go_loopg [5] n (fun gk v5 wr=>∃ i:Nat,v5=.int .i64 i∧i<n∧w=wr∧Hid (gk=i+1))
 case atStart=>exact ⟨n-1,by go_num,by omega,rfl,Hq (by omega)⟩
 case round=>
  obtain ⟨i,rfl,hin,rfl,HG⟩:=hrel
  have i0:(0:Int)≤(i:Int):=Int.natCast_nonneg _
  have i1:(i:Int)<(n:Int):=by omega
  obtain ⟨y,hy⟩:∃ y,ys[i]? = some y:=⟨ys[i]'(by have:=HN.out; omega),List.getElem?_eq_getElem _⟩
  have cy:=HC.out i y hy
  have HY:=Hq hy
  clear hy
  by_cases h47:y=47
  ·subst h47
   go_wp2_with fail
   go_ret
   exact ⟨i,hin,HY.out,rfl,rfl⟩
  ·have t1:(y==47)=false:=by simpa using h47
   have hi0:i≠0:=fun e=>by
    subst e
    have:=HY.out
    rw [H0.out] at this
    exact h47 (Option.some.inj this).symm
   clear h47
   go_wp2_with fail
   go_roundg i
   case measure=>have:=HG.out; omega
   case rel=>exact ⟨i-1,by go_num,by omega,rfl,Hq (by omega)⟩
theorem last150(gg n c:Nat)(ys:List Int)(w:World)(hn:ys.length=n)(hn4:n≤4294967296)(h0:ys[0]? = some 47)(hc:∀ j y,ys[j]? = some y→w.cell? ⟨gg,j,none⟩=some (.int .u8 y)):
  Calls Tryz.prog 150 #[.slice (some ⟨gg,0,none⟩) n c,.int .u8 47] w fun e w'=>∃ i:Nat,i<n∧ys[i]? = some 47∧e=.returned (.int .i64 i)∧w=w':=by
 have L:=Hq (last169 gg n c ys w hn hn4 h0 hc)
 clear hc h0
 go_enter Tryz.func150,Tryz.ntmps150
 go_wp2_with fail
 refine L.out.mono ?_
 rintro e w' ⟨i,h1,h2,rfl,rfl⟩
 have R:=Hq h2
 go_wp2_with fail
 go_ret
 exact ⟨i,h1,R.out,rfl,rfl⟩
end Go.Proofs.YtknaalohaagcdaaGreatDoor.Own
namespace Go.Proofs.YtknaalohaagcdaaGreatDoor.Own
open Go.RowKit
theorem gb_since{w wr w2:World}{r:Option Nat}(h:w.grownBy wr none)(h2:wr.grownBy w2 r)(hr:∀ g,r=some g→w.heap.size≤g):w.grownBy w2 none:=
 ⟨h2.os.trans h.os,h2.tape.trans h.tape,h2.output.trans h.output,Nat.le_trans h.size h2.size,fun i hi _=>(h2.block i (Nat.lt_of_lt_of_le hi h.size) (fun e=>by have:=hr i e.symm; omega)).trans (h.block i hi (by simp))⟩
theorem src_tail{gg m c i:Nat}{zs:List Int}{W:World}(h:∀ j y,zs[j]? = some y→W.cell? ⟨gg,j,none⟩=some (.int .u8 y))(hm:zs.length=m):Src Tryz.prog 1 47 (.slice (some ⟨gg,i,none⟩) (m-i) (c-i)) (m-i) ((zs.drop i).map (Value.int .u8)) W:=by
 refine Src.ofSlice _ Tryz.underlying47 _ _ _ _ (by rw [List.length_map,List.length_drop,hm]; omega) (fun j u hj => ?_) (fun u hu=>by obtain ⟨x,_,rfl⟩:=List.mem_map.1 hu; rfl)
 rw [List.getElem?_map,List.getElem?_drop] at hj
 cases e3:zs[i+j]? with
 |none=>rw [e3] at hj; cases hj
 |some y=>
  rw [e3] at hj
  have e4:u=.int .u8 y:=(Option.some.inj hj).symm
  have hadd:(⟨gg,i,none⟩:Addr).add j=⟨gg,i+j,none⟩:=by unfold Addr.add; split<;>simp_all
  rw [hadd,e4]
  exact h (i+j) y e3
theorem place123(pb gg n c:Nat)(ev:Value)(ys:List Int)(w:World)(hn4:n≤4294967296)(h0:ys[0]? = some 47)(hp:w.heap[pb]? = some (.cells #[ev,.slice (some ⟨gg,0,none⟩) n c] 170 (0,0)))
  (hr:w.ownsRow 0 5 1 (.slice (some ⟨gg,0,none⟩) n c) n (ys.map (Value.int .u8))):
  Calls Tryz.prog 123 #[.pointer (some ⟨pb,0,none⟩),.slice none 0 0] w fun e w'=>∃ ao m cB,∃ us:List Int,e=.returned (.slice ao m cB)∧w'.ownsRow w.heap.size 5 1 (.slice ao m cB) m (us.map (Value.int .u8))∧m≤n∧w.grownBy w' none:=by
 obtain ⟨i5,hi,hz0,hz1,hz2⟩:=info_parts info5
 have c1:w.cell? ⟨pb,1,none⟩=some (.slice (some ⟨gg,0,none⟩) n c):=by rw [cell_of_row _ _ _ _ _ (0,0) hp]; rfl
 have H0:=Hq h0
 have HLY:=Hq (show ys.length=n by have:=hr.1; rw [List.length_map] at this; omega)
 have HR:=Hq hr
 have hlt:gg<w.heap.size:=(hr.lt gg rfl).2
 have hcap:n≤c:=by obtain ⟨_,_,h,h1,_⟩:=form_of hr; cases h; exact h1
 clear h0 hr
 go_enter Tryz.func123,Tryz.ntmps123
 go_wp2_with fail
 go_loopg [5,6] n (fun gk v5 v6 wr=>∃ (m M cB:Nat) (ao:Option Addr) (us:List Int),v5=.slice (some ⟨gg,0,none⟩) m c∧v6=.slice ao M cB∧m≤n∧M+m≤n∧Hid (wr.ownsRow w.heap.size 5 1 (.slice ao M cB) M (us.map (Value.int .u8)))∧Hid (w.grownBy wr none)∧Hid (gk=m))
 case atStart=>exact ⟨n,0,0,none,[],rfl,rfl,Nat.le_refl _,by omega,Hq (World.ownsRow_nil _ _ _ _),Hq (World.grownBy.refl _ _),Hq rfl⟩
 case round=>
  obtain ⟨m,M,cB,ao,us,rfl,rfl,hmn,hMm,HO,HG,HGK⟩:=hrel
  have m0:(0:Int)≤(m:Int):=Int.natCast_nonneg _
  by_cases hm:m=0
  ·subst hm
   go_wp2_with fail
   go_ret
   exact ⟨ao,M,cB,us,rfl,HO.out,by omega,HG.out⟩
  ·have t1:decide ((0:Int)<(m:Int))=true:=by simp; omega
   have ownR:=own_block HR.out (fun q hq=>HG.out.block q (HR.out.lt q hq).2 (by simp))
   have cells:∀ j y,(ys.take m)[j]? = some y→wr.cell? ⟨gg,j,none⟩=some (.int .u8 y):=fun j y hj=>by
    rw [List.getElem?_take] at hj
    split at hj
    ·exact (own_cell ownR j (.int .u8 y) (by rw [List.getElem?_map,hj]; rfl)).1
    ·cases hj
   have L:=Hq (last150 gg m c (ys.take m) wr (by rw [List.length_take,HLY.out]; omega) (by omega) (by rw [List.getElem?_take,if_pos (by omega)]; exact H0.out) cells)
   have CE:=Hq cells
   clear cells ownR
   go_wp2_with fail
   refine L.out.mono ?_
   rintro e w' ⟨i,hi1,hi2,rfl,rfl⟩
   have i0:(0:Int)≤(i:Int):=Int.natCast_nonneg _
   have i1:(i:Int)≤(c:Int):=by omega
   have i2:(i:Int)≤(m:Int):=by omega
   have srcN:=src_tail (m:=m) (i:=i) (c:=c) (W:=wr.drew) CE.out (by rw [List.length_take,HLY.out]; omega)
   clear L
   have HO2:=HO.out
   have hci:¬ (c=i):=by omega
   go_wp2_with fail
   go_region_law
    ((refine step_appS _ (by rfl) (.tmp 21) (.tmp 24) 47 47 (by rfl) w.heap.size 5 i5 _ 1 Tryz.underlying47 hi hz0 hz1 hz2 rfl (.slice ao M cB) M (us.map (Value.int .u8)) (by rfl) HO2.drew (.slice (some ⟨gg,i,none⟩) (m-i) (c-i)) (m-i) _ (by rfl) srcN (by simp only [maxLen]; omega) (by omega) (by have:=HG.out.size; simpa using this) ?_; intro aoB cB2 w5 hown5 hgrow5 hrel5 hold5))
   all_goals
    have G2:=gb_since (gb_drewN HG.out 1) hgrow5 (fun g hg=>(HO.out.lt g hg).1)
    go_wp2_with fail
    go_roundg i
    case measure=>have:=HGK.out; omega
    case rel=>exact ⟨i,M+(m-i),cB2,aoB,us++((ys.take m).drop i),rfl,rfl,by omega,by omega,Hq (by rw [List.map_append]; exact hown5),Hq G2,Hq rfl⟩
end Go.Proofs.YtknaalohaagcdaaGreatDoor.Own
