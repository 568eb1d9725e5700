import Derived.Test.YtknaalohaagcdaaGreatDoorG01
import Derived.Test.YtknaalohaagcdaaGreatDoorG17
import Derived.Laws.Cover4
import Derived.LaidEql
import Derived.Stop.Asserts
import Derived.Deep.RegionHeld3
set_option maxHeartbeats 400000000
set_option maxRecDepth 100000
namespace Go.Proofs.YtknaalohaagcdaaGreatDoor.Own
open Go.RowKit JG
def BadP(eU:Value)(lim:Nat)(w:World)(e:Ending)(w':World):Prop:=∃ (n:Nat) (v:Value),e=.returned (.tuple #[.int .i64 n,v])∧n≤lim∧(v=eU∨∃ b,v=.iface 175 (.pointer (some ⟨b,0,none⟩)))∧w.grownBy w' none
theorem conv5(c:Int):∃ y:ByteArray,y.size≤4∧∀ W,(convert 5 9 (.int .u8 c)).run Tryz.prog W=.ok (.string y) W:=
 ⟨_,encode_size_le c,fun W=>run_convert_int_string W 5 9 .u8 c (by rw [Tryz.underlying5]; rfl) Tryz.underlying9⟩
theorem lit130(B q cap:Nat)(s lit:ByteArray)(eU eI:Value)(w:World)(_hs:s.size≤4294967296)(hl:lit.size≤10)(hq:q≤s.size)(hcap:s.size-q≤cap)(hB:Bf w B s)(hG:Gl eU eI w)(hw:wordAt (bytes lit) ((bytes s).drop q)=none):
  Calls Tryz.prog 130 #[.slice (some ⟨B,q,none⟩) (s.size-q) cap,.string lit] w (BadP eU (s.size-q) w):=by
 have HB:=Hq hB
 have HG:=Hq hG
 have HW:=Hq hw
 clear hB hG hw
 go_enter Tryz.func130,Tryz.ntmps130
 go_wp2_with fail
 go_loopg [6] (lit.size) (fun gk v6 wr=>∃ i nd:Nat,v6=.int .i64 i∧i≤lit.size∧q+i≤s.size∧Hid (wordAt ((bytes lit).drop i) ((bytes s).drop (q+i))=none)∧Hid (gk=lit.size-i)∧wr=w.drewN nd)
 case atStart=>exact ⟨0,0,rfl,Nat.zero_le _,hq,Hq HW.out,Hq rfl,rfl⟩
 case round=>
  obtain ⟨i,nd,rfl,hi,hqi,HE,HG2,rfl⟩:=hrel
  have i0:(0:Int)≤(i:Int):=Int.natCast_nonneg _
  have ce:=HG.out.eof
  by_cases h1:i<s.size-q
  ·have t1:decide (i<s.size-q)=true:=by simpa using h1
   have i1:(i:Int)<((s.size-q:Nat):Int):=by omega
   by_cases h2:i<lit.size
   ·have t2:decide (i<lit.size)=true:=by simpa using h2
    have i2:(i:Int)<(lit.size:Int):=by omega
    have i3:(i:Int)≤((s.size-q:Nat):Int):=by omega
    have hqs:q+i<s.size:=by omega
    have cc:=HB.out (q+i) hqs
    have hd:=bytes_drop hqs
    have hd2:=bytes_drop h2
    have hE:=HE.out
    rw [hd,hd2] at hE
    have hE:(if (s[q+i].toNat:Int)=(lit[i].toNat:Int) then (wordAt ((bytes lit).drop (i+1)) ((bytes s).drop (q+i+1))).map (·+1) else none)=none:=hE
    clear hd hd2
    by_cases hcd:(s[q+i].toNat:Int)=(lit[i].toNat:Int)
    ·have t3:((s[q+i].toNat:Int) != (lit[i].toNat:Int))=false:=by rw [hcd]; simp
     rw [if_pos hcd] at hE
     have R:=Hq (show wordAt ((bytes lit).drop (i+1)) ((bytes s).drop (q+(i+1)))=none by
      rw [show q+(i+1)=q+i+1 by omega]
      cases e:wordAt ((bytes lit).drop (i+1)) ((bytes s).drop (q+i+1)) with
      |none=>rfl
      |some k=>rw [e] at hE; cases hE)
     clear hE hcd
     generalize (s[q+i].toNat:Int)=c at cc t3
     go_wp2_with fail
     go_quiet (fail)
     go_wp2_with fail
     go_roundg (lit.size-(i+1))
     case measure=>have:=HG2.out; omega
     case rel=>exact ⟨i+1,_,by go_num,by omega,by omega,R,Hq rfl,by first|rfl|exact World.drewN_drewN _ _ _⟩
    ·have t3:((s[q+i].toNat:Int) != (lit[i].toNat:Int))=true:=by simpa using hcd
     clear hE hcd
     generalize (s[q+i].toNat:Int)=c at cc t3
     have CE:=fun wh n=>charErr107 B (q+i) (cap-i) s wh (w.drewN n) HG.out.tabs hqs (by omega) HB.out
     rw [show s.size-(q+i)=s.size-q-i by omega] at CE
     have CE:=Hq CE
     go_wp2_with fail
     go_quiet (fail)
     go_wp2_with fail
     clear HE HG2 HB HG HW
     obtain ⟨y,hys,hy⟩:=conv5 (lit[i].toNat:Int)
     go_region_with (go_at_call 107; refine (CE.out _ _).mono ?_; rintro e w2 ⟨b,rfl,hb⟩)
     all_goals go_wp2_with fail
     all_goals go_ret2
     all_goals exact ⟨i,_,rfl,by omega,.inr ⟨_,rfl⟩,by first|exact (gb_drewN (World.grownBy.refl _ _) _).trans hb|exact gb_drewN ((gb_drewN (World.grownBy.refl _ _) _).trans hb) _⟩
   ·exfalso
    have h:=HE.out
    rw [bytes_end (s:=lit) (by omega)] at h
    cases h
  ·have t1:decide (i<s.size-q)=false:=by simpa using h1
   by_cases h2:i<lit.size
   ·have t2:decide (s.size-q<lit.size)=true:=by simp; omega
    have t2':decide (((s.size-q:Nat):Int)<(lit.size:Int))=true:=by simp; omega
    go_wp2_with fail
    go_quiet (fail)
    go_wp2_with fail
    go_ret2
    exact ⟨s.size-q,eU,rfl,by omega,.inl rfl,by first|exact gb_drewN (World.grownBy.refl _ _) _|exact gb_drewN (gb_drewN (World.grownBy.refl _ _) _) _⟩
   ·exfalso
    have h:=HE.out
    rw [bytes_end (s:=lit) (by omega)] at h
    cases h
theorem comp260:(Tryz.prog.info? 260).map (·.comparable)=some true:=by kernel_rfl
theorem size280:(Tryz.prog.info? 280).map (·.size)=some 1:=by kernel_rfl
theorem eqS(a:Addr)(w:World):(binOp .eql 62 (.iface 260 (.pointer (some a))) (.iface 260 (.pointer (some a)))).run Tryz.prog w=.ok (.bool true) w:=by
 obtain ⟨i,hi,hcmp⟩:=Option.map_eq_some_iff.1 comp260
 obtain ⟨j,hj,hjs⟩:=Option.map_eq_some_iff.1 size280
 exact run_eql_iface_ptr_same (P:=Tryz.prog) w a Tryz.underlying62 Tryz.underlying260 hi hcmp hj
theorem eqD(x y:Value)(w:World):(binOp .eql 62 (.iface 175 x) (.iface 260 y)).run Tryz.prog w=.ok (.bool false) w:=run_eql_iface_types (P:=Tryz.prog) 175 260 x y Tryz.underlying62 (by decide) w
theorem lit87(d:Nat)(ds:Array Value)(B cap q:Nat)(aU:Addr)(s lit:ByteArray)(vals last:Int)(eI:Value)(w:World)(hs:s.size≤4294967296)(hl:lit.size≤10)(hq:q<s.size)(hcap:s.size≤cap)(hD:DB w d ds B cap s vals last)(hB:Bf w B s)(hG:Gl (.iface 260 (.pointer (some aU))) eI w)(hw:wordAt (bytes lit) ((bytes s).drop q)=none):
  Calls Tryz.prog 87 #[.pointer (some ⟨d,0,none⟩),.int .i64 q,.string lit] w fun e w'=>∃ (n:Nat) (v:Value),e=.returned (.tuple #[.int .i64 n,v])∧n≤s.size∧(v=.iface 260 (.pointer (some aU))∨∃ b,v=.iface 175 (.pointer (some ⟨b,0,none⟩)))∧w.grownBy w' none:=by
 obtain ⟨_,c7,c10,_,_⟩:=hD.facts
 have C:=Hq (lit130 B q (cap-q) s lit _ eI w hs hl (by omega) (by omega) hB hG hw)
 have HD:=Hq hD
 have HG:=Hq hG
 have hqc:q<cap:=by omega
 have hqs:q≤s.size:=by omega
 have HS:=Hq hs
 have q0:(0:Int)≤(q:Int):=Int.natCast_nonneg _
 clear hD hB hG hw
 go_enter Tryz.func87,Tryz.ntmps87
 go_wp2_with fail
 go_loopg [1] 1 (fun gk v1 wr=>v1=.int .i64 q∧Hid (gk=1)∧wr=w)
 case atStart=>exact ⟨rfl,Hq rfl,rfl⟩
 case round=>
  obtain ⟨rfl,HGk,rfl⟩:=hrel
  go_wp2_with fail
  refine C.out.mono ?_
  rintro e w1 ⟨n,v,rfl,hn,hv,hg⟩
  have HD1:=Hq (HD.out.block (hg.block d HD.out.lt (by simp)))
  have HG1:=Hq (HG.out.kept hg.size (fun i hi=>hg.block i (by have:=HG.out.size; omega) (by simp)))
  have ce:=HG1.out.eof
  have HV:=Hq (And.intro hv (And.intro hn hg))
  have e1:=eqS aU w1
  have e2:=fun b=>eqD (.pointer (some ⟨b,0,none⟩)) (.pointer (some aU)) w1
  have F:=Hq (fetch122 d ds B cap s vals last _ w1 HD1.out HG1.out.eof)
  obtain ⟨_,d7,d10,_,_⟩:=HD1.out.facts
  have hw1:IntKind.i64.wrap ((q:Int)+(n:Int))=(q:Int)+(n:Int):=by rw [IntKind.wrap_i64]; have:=HS.out; have:=HV.out.2.1; omega
  clear hv hg hn C
  rcases HV.out.1 with rfl|⟨b,rfl⟩
  ·go_wp2_with fail
   refine F.out.mono ?_
   rintro e w' ⟨rfl,rfl⟩
   go_wp2_with fail
   go_ret2
   exact ⟨q+n,_,rfl,by have:=HV.out.2.1; omega,.inl rfl,HV.out.2.2⟩
  ·go_wp2_with fail
   go_ret2
   exact ⟨q+n,_,rfl,by have:=HV.out.2.1; omega,.inr ⟨b,rfl⟩,HV.out.2.2⟩
theorem get72(pres vals f:Int)(b:Bool)(hb:decide (0<bits .and .u64 vals f)=b)(w:World):
  Calls Tryz.prog 72 #[.agg #[.int .u64 pres,.int .u64 vals],.int .u64 f] w fun e w'=>e=.returned (.bool b)∧w.grownBy w' none:=by
 obtain ⟨x,hx⟩:∃ x,bits .and .u64 vals f=x:=⟨_,rfl⟩
 rw [hx] at hb
 go_enter Tryz.func72,Tryz.ntmps72
 go_wp2_with fail
 go_ret
 exact ⟨rfl,World.grownBy_alloc w _ none⟩
theorem digs_leL:∀ xs:List Int,digs xs≤xs.length
 |[]=>Nat.le_refl _
 |c::t=>by
  have:=digs_leL t
  show (if isDig c then digs t+1 else 0)≤_
  split<;>simp<;>omega
theorem digsO_leL{xs:List Int}{n:Nat}(h:digsO xs=some n):n≤xs.length:=by
 unfold digsO at h
 split at h
 ·cases h
 ·have:=digs_leL xs
  have:=Option.some.inj h
  omega
theorem sgn_le(t:List Int):sgn t≤t.length:=by
 cases t with
 |nil=>exact Nat.le_refl _
 |cons c u=>
  show (if c=45∨c=43 then 1 else 0)≤_
  split<;>simp
theorem expo_le{xs:List Int}{n:Nat}(h:expo xs=some n):n≤xs.length:=by
 cases xs with
 |nil=>have:=Option.some.inj h; simp; omega
 |cons c t=>
  have h:(if c=101∨c=69 then (digsO (t.drop (sgn t))).map (·+(1+sgn t)) else some 0)=some n:=h
  split at h
  ·cases e:digsO (t.drop (sgn t)) with
   |none=>rw [e] at h; cases h
   |some k=>
    rw [e] at h
    have h1:=digsO_leL e
    rw [List.length_drop] at h1
    have h2:=sgn_le t
    have h3:k+(1+sgn t)=n:=Option.some.inj h
    simp
    omega
  ·have:=Option.some.inj h; omega
theorem frac_le{xs:List Int}{n:Nat}(h:frac xs=some n):n≤xs.length:=by
 cases xs with
 |nil=>have:=Option.some.inj h; simp; omega
 |cons c t=>
  have h:(if c=46 then (digsO t).bind fun k=>(expo (t.drop k)).map (·+(1+k)) else expo (c::t))=some n:=h
  split at h
  ·cases e:digsO t with
   |none=>rw [e] at h; cases h
   |some k=>
    rw [e] at h
    have h:(expo (t.drop k)).map (·+(1+k))=some n:=h
    cases e2:expo (t.drop k) with
    |none=>rw [e2] at h; cases h
    |some j=>
     rw [e2] at h
     have h1:=digsO_leL e
     have h2:=expo_le e2
     rw [List.length_drop] at h2
     have h3:j+(1+k)=n:=Option.some.inj h
     simp
     omega
  ·exact expo_le h
theorem whole_le{xs:List Int}{n:Nat}(h:whole xs=some n):n≤xs.length:=by
 cases xs with
 |nil=>cases h
 |cons c t=>
  have h:(if c=48 then (frac t).map (·+1) else (digsO (c::t)).bind fun k=>(frac ((c::t).drop k)).map (·+k))=some n:=h
  split at h
  ·cases e:frac t with
   |none=>rw [e] at h; cases h
   |some k=>
    rw [e] at h
    have h1:=frac_le e
    have h3:k+1=n:=Option.some.inj h
    simp
    omega
  ·cases e:digsO (c::t) with
   |none=>rw [e] at h; cases h
   |some k=>
    rw [e] at h
    have h:(frac ((c::t).drop k)).map (·+k)=some n:=h
    cases e2:frac ((c::t).drop k) with
    |none=>rw [e2] at h; cases h
    |some j=>
     rw [e2] at h
     have h1:=digsO_leL e
     have h2:=frac_le e2
     rw [List.length_drop] at h2
     have h3:j+k=n:=Option.some.inj h
     omega
theorem num_le{xs:List Int}{n:Nat}(h:num xs=some n):n≤xs.length:=by
 cases xs with
 |nil=>cases h
 |cons c t=>
  have h:(if c=45 then (whole t).map (·+1) else whole (c::t))=some n:=h
  split at h
  ·cases e:whole t with
   |none=>rw [e] at h; cases h
   |some k=>
    rw [e] at h
    have h1:=whole_le e
    have h3:k+1=n:=Option.some.inj h
    simp
    omega
  ·exact whole_le h
theorem eqN(y:Value)(w:World):(binOp .eql 62 .nilIface (.iface 260 y)).run Tryz.prog w=.ok (.bool false) w:=run_eql_iface_nil_left (P:=Tryz.prog) w 260 y Tryz.underlying62
def DecP(o:Option Nat)(q:Nat)(s:ByteArray)(eU:Value)(w:World)(e:Ending)(w':World):Prop:=
 (∃ m,o=some m∧e=.returned (.tuple #[.int .i64 (q+m:Nat),.nilIface])∧w.grownBy w' none)∨
 (o=none∧∃ (n:Nat) (v:Value),e=.returned (.tuple #[.int .i64 n,v])∧n≤s.size∧(v=eU∨∃ b,v=.iface 175 (.pointer (some ⟨b,0,none⟩)))∧w.grownBy w' none)
theorem num97(d:Nat)(ds:Array Value)(B cap q:Nat)(aU:Addr)(s:ByteArray)(vals last:Int)(eI:Value)(w:World)(hs:s.size≤4294967296)(hq:q<s.size)(hcap:s.size≤cap)(hD:DB w d ds B cap s vals last)(hB:Bf w B s)(hG:Gl (.iface 260 (.pointer (some aU))) eI w):
  Calls Tryz.prog 97 #[.pointer (some ⟨d,0,none⟩),.int .i64 q] w (DecP (num ((bytes s).drop q)) q s (.iface 260 (.pointer (some aU))) w):=by
 obtain ⟨_,c7,c10,_,_⟩:=hD.facts
 have C:=Hq (num140 B q (cap-q) (s.size-q) s _ eI w hs (by omega) (by omega) (by omega) hB hG)
 have HD:=Hq hD
 have HG:=Hq hG
 have hqc:q<cap:=by omega
 have hqs:q≤s.size:=by omega
 have HS:=Hq hs
 have q0:(0:Int)≤(q:Int):=Int.natCast_nonneg _
 have hlen:((bytes s).drop q).length=s.size-q:=by rw [List.length_drop,bytes_len]
 have HLEN:=Hq hlen
 clear hD hB hG hlen
 go_enter Tryz.func97,Tryz.ntmps97
 go_wp2_with fail
 go_loopg [1,6,7] 1 (fun gk v1 v6 v7 wr=>v1=.int .i64 q∧v6=.int .i64 0∧v7=.int .u64 0∧Hid (gk=1)∧wr=w)
 case atStart=>exact ⟨rfl,rfl,rfl,Hq rfl,rfl⟩
 case round=>
  obtain ⟨rfl,rfl,rfl,HGk,rfl⟩:=hrel
  go_wp2_with fail
  refine C.out.mono ?_
  rintro e w1 (⟨m,st,hm,rfl,hg⟩|⟨hm,n,st,v,rfl,hn,hv,hg⟩)
  ·have hmq:q+m≤s.size:=by have h:=num_le hm; rw [HLEN.out] at h; omega
   have HD1:=Hq (HD.out.block (hg.block d HD.out.lt (by simp)))
   have HG1:=Hq (HG.out.kept hg.size (fun i hi=>hg.block i (by have:=HG.out.size; omega) (by simp)))
   have ce:=HG1.out.eof
   have e1:=eqS aU w1
   have e0:=eqN (.pointer (some aU)) w1
   have F:=Hq (fetch122 d ds B cap s vals last _ w1 HD1.out HG1.out.eof)
   have M:=Hq (fun b hb=>more62 d ds B cap (q+m) s vals last w1 HD1.out b hb)
   obtain ⟨_,d7,d10,_,_⟩:=HD1.out.facts
   have HV:=Hq (And.intro hm hg)
   have hw1:IntKind.i64.wrap ((q:Int)+(m:Int))=(q:Int)+(m:Int):=by rw [IntKind.wrap_i64]; have:=HS.out; omega
   clear hm hg C
   by_cases hend:q+m=s.size
   ·have M1:=Hq (M.out true (by simpa using hend))
    have HEND:=Hq hend
    clear M hend
    go_wp2_with fail
    refine M1.out.mono ?_
    rintro e w' ⟨rfl,rfl⟩
    go_wp2_with fail
    refine F.out.mono ?_
    rintro e w' ⟨rfl,rfl⟩
    go_wp2_with fail
    go_ret2
    exact .inl ⟨m,HV.out.1,by rfl,HV.out.2⟩
   ·have M1:=Hq (M.out false (by simpa using hend))
    clear M hend
    go_wp2_with fail
    refine M1.out.mono ?_
    rintro e w' ⟨rfl,rfl⟩
    go_wp2_with fail
    go_ret2
    exact .inl ⟨m,HV.out.1,by rfl,HV.out.2⟩
  ·have HD1:=Hq (HD.out.block (hg.block d HD.out.lt (by simp)))
   have HG1:=Hq (HG.out.kept hg.size (fun i hi=>hg.block i (by have:=HG.out.size; omega) (by simp)))
   have ce:=HG1.out.eof
   have e1:=eqS aU w1
   have e2:=fun b=>eqD (.pointer (some ⟨b,0,none⟩)) (.pointer (some aU)) w1
   have F:=Hq (fetch122 d ds B cap s vals last _ w1 HD1.out HG1.out.eof)
   have M:=Hq (fun b hb=>more62 d ds B cap (q+n) s vals last w1 HD1.out b hb)
   obtain ⟨_,d7,d10,_,_⟩:=HD1.out.facts
   rw [HLEN.out] at hn
   have hnq:q+n≤s.size:=by omega
   have HV:=Hq (And.intro hm hg)
   have HX:=Hq hv
   have hw1:IntKind.i64.wrap ((q:Int)+(n:Int))=(q:Int)+(n:Int):=by rw [IntKind.wrap_i64]; have:=HS.out; omega
   clear hm hg C hv hn
   rcases HX.out with rfl|⟨b,rfl⟩
   ·go_wp2_with fail
    refine F.out.mono ?_
    rintro e w' ⟨rfl,rfl⟩
    go_wp2_with fail
    go_ret2
    exact .inr ⟨HV.out.1,q,_,rfl,by omega,.inl rfl,HV.out.2⟩
   ·by_cases hend:q+n=s.size
    ·have M1:=Hq (M.out true (by simpa using hend))
     clear M hend
     go_wp2_with fail
     refine M1.out.mono ?_
     rintro e w' ⟨rfl,rfl⟩
     go_wp2_with fail
     refine F.out.mono ?_
     rintro e w' ⟨rfl,rfl⟩
     go_wp2_with fail
     go_ret2
     exact .inr ⟨HV.out.1,q,_,rfl,by omega,.inl rfl,HV.out.2⟩
    ·have M1:=Hq (M.out false (by simpa using hend))
     clear M hend
     go_wp2_with fail
     refine M1.out.mono ?_
     rintro e w' ⟨rfl,rfl⟩
     go_wp2_with fail
     go_ret2
     exact .inr ⟨HV.out.1,q+n,_,rfl,hnq,.inr ⟨b,rfl⟩,HV.out.2⟩
structure Top(ds:Array Value)(ao:Option Addr)(c:Nat)(last:Int)(nsv:Value):Prop where
 stk:ds[0]? = some (.slice ao 0 c)
 lst:ds[1]? = some (.int .u64 last)
 offs:ds[2]? = some (.slice none 0 0)
 unq:ds[3]? = some (.slice none 0 0)
 nss:ds[4]? = some nsv
theorem Top.facts{ds:Array Value}{ao:Option Addr}{c d:Nat}{last:Int}{nsv:Value}{w:World}(h:Top ds ao c last nsv)(hb:w.heap[d]? = some (.cells ds 109 (0,0))):
  w.cell? ⟨d,0,none⟩=some (.slice ao 0 c)∧w.cell? ⟨d,1,none⟩=some (.int .u64 last)∧w.cell? ⟨d,2,none⟩=some (.slice none 0 0)∧w.cell? ⟨d,3,none⟩=some (.slice none 0 0)∧w.cell? ⟨d,4,none⟩=some nsv:=
 ⟨by rw [cell_of_row _ _ _ _ _ (0,0) hb]; exact h.stk,by rw [cell_of_row _ _ _ _ _ (0,0) hb]; exact h.lst,by rw [cell_of_row _ _ _ _ _ (0,0) hb]; exact h.offs,by rw [cell_of_row _ _ _ _ _ (0,0) hb]; exact h.unq,by rw [cell_of_row _ _ _ _ _ (0,0) hb]; exact h.nss⟩
theorem offs207(d q:Nat)(w:World)(hq:q≤4294967296)(c10:w.cell? ⟨d,10,none⟩=some (.int .i64 0)):Calls Tryz.prog 207 #[.pointer (some ⟨d,5,none⟩),.int .i64 q] w fun e w'=>e=.returned (.int .i64 q)∧w=w':=by
 have q0:(0:Int)≤(q:Int):=Int.natCast_nonneg _
 go_enter Tryz.func207,Tryz.ntmps207
 go_wp2_with fail
 go_ret
 exact ⟨rfl,rfl⟩
theorem opts218(d:Nat)(w:World):Calls Tryz.prog 218 #[.pointer (some ⟨d,0,none⟩)] w fun e w'=>e=.returned (.pointer (some ⟨d,13,none⟩))∧w=w':=by
 go_enter Tryz.func218,Tryz.ntmps218
 go_wp2_with fail
 go_ret
 exact ⟨rfl,rfl⟩
theorem depth64(ao:Option Addr)(c:Nat)(last:Int)(w:World):Calls Tryz.prog 64 #[.agg #[.slice ao 0 c,.int .u64 last]] w fun e w'=>e=.returned (.int .i64 1)∧w.grownBy w' none:=by
 go_enter Tryz.func64,Tryz.ntmps64
 go_wp2_with fail
 go_ret
 exact ⟨rfl,World.grownBy_alloc w _ none⟩
theorem copy146(d:Nat)(bv:Value)(w:World)(c2:w.cell? ⟨d,2,none⟩=some (.slice none 0 0)):Calls Tryz.prog 146 #[.pointer (some ⟨d,2,none⟩),bv] w fun e w'=>e=.returned (.tuple #[])∧w=w':=by
 go_enter Tryz.func146,Tryz.ntmps146
 go_wp2_with fail
 refine wp_loop_rounds 1 ?_
 rw [rounds_succ]
 go_wp2_with fail
 refine wp_loop_rounds 1 ?_
 rw [rounds_succ]
 go_wp2_with fail
 go_end0
 exact ⟨rfl,rfl⟩
theorem place210(ao:Option Addr)(c:Nat)(last wh:Int)(v2 v3 v4:Value)(w:World):Calls Tryz.prog 210 #[.agg #[.slice ao 0 c,.int .u64 last,v2,v3,v4],.slice none 0 0,.int .i64 wh] w fun e w'=>e=.returned (.slice none 0 0)∧w.grownBy w' none:=by
 have D:=Hq (fun w=>depth64 ao c last w)
 go_enter Tryz.func210,Tryz.ntmps210
 go_wp2_with fail
 refine wp_loop_rounds 1 ?_
 rw [rounds_succ]
 go_wp2_with fail
 refine (D.out _).mono ?_
 rintro e w1 ⟨rfl,hg⟩
 have R:=Hq hg
 clear hg
 go_wp2_with fail
 go_ret
 exact ⟨rfl,(World.grownBy_alloc w _ none).trans R.out⟩
end Go.Proofs.YtknaalohaagcdaaGreatDoor.Own
