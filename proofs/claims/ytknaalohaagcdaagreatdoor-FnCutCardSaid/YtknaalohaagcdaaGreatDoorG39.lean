import Derived.Test.YtknaalohaagcdaaGreatDoorG01
import Derived.Test.YtknaalohaagcdaaGreatDoorG30
import Derived.Test.YtknaalohaagcdaaGreatDoorG33
import Derived.Test.YtknaalohaagcdaaGreatDoorG34
import Derived.Test.YtknaalohaagcdaaGreatDoorG38
set_option maxHeartbeats 400000000
set_option maxRecDepth 100000
namespace Go.Proofs.YtknaalohaagcdaaGreatDoor.Own
open Go.RowKit JG
theorem val_obj(A:List Addr)(base d F B cap k q depth:Nat)(s:ByteArray)(vals:Int)(aU aI:Addr)(lo dup:Bool)(lab:Nat→Nat)(ds:Array Value)(nsv:Value)(w:World)(m:Nat)(C:Cst A s cap vals aU aI lo dup)(h:DS A w lab base d F B cap k s vals 0 (.iface 260 (.pointer (some aU))) (.iface 260 (.pointer (some aI))) ds nsv)(hq:q<s.size)
  (o:Option Nat) (hc:(s[q].toNat:Int)=123)
  (hS:Calls Tryz.prog 131 #[.pointer (some ⟨d,0,none⟩),.pointer (some ⟨F,0,none⟩),.int .i64 q,.int .i64 depth] w (ValQ A base d F B cap k s vals (.iface 260 (.pointer (some aU))) (.iface 260 (.pointer (some aI))) lab ds o q m w)):
  Calls Tryz.prog 69 #[.pointer (some ⟨d,0,none⟩),.pointer (some ⟨F,0,none⟩),.int .i64 q,.int .i64 depth] w (ValQ A base d F B cap k s vals (.iface 260 (.pointer (some aU))) (.iface 260 (.pointer (some aI))) lab ds o q m w):=by
 obtain ⟨c1,c7,c10,_,_⟩:=h.db.facts
 have cq:=h.buf q hq
 rw [hc] at cq
 have K:=Hq (kind59 123 123 (by omega) (by omega) (by decide) w h.g2.nk)
 have hs:=C.hs
 have hcap:=C.hcap
 have hqc:q<cap:=by omega
 have q0:(0:Int)≤(q:Int):=Int.natCast_nonneg _
 have q1:(q:Int)<(s.size:Int):=by omega
 have NV:=Hq hS
 clear h hc C hq hS
 go_enter Tryz.func69,Tryz.ntmps69
 go_wp2_with fail
 go_loopg [2] 1 (fun gk v2 wr=>v2=.int .i64 q∧Hid (gk=1)∧wr=w)
 case atStart=>exact ⟨rfl,Hq rfl,rfl⟩
 case round=>
  obtain ⟨rfl,HGk,rfl⟩:=hrel
  go_wp2_with fail
  refine K.out.mono ?_
  rintro e w' ⟨rfl,rfl⟩
  go_wp2_with fail
  refine NV.out.mono ?_
  rintro e w1 ⟨lab',ds',nsv',hfm,hds,hb4,hcase⟩
  have R:=Hq (And.intro hfm (And.intro hds hb4))
  clear hfm hds hb4
  rcases hcase with ⟨j,hj,rfl⟩|⟨hj,n',v,rfl,hn',hv⟩
  ·have RJ:=Hq hj
   clear hj
   go_wp2_with fail
   go_ret2
   exact ⟨lab',ds',nsv',R.out.1,R.out.2.1,R.out.2.2,.inl ⟨j,RJ.out,rfl⟩⟩
  ·have RJ:=Hq (And.intro hj hv)
   clear hj hv
   go_wp2_with fail
   go_ret2
   exact ⟨lab',ds',nsv',R.out.1,R.out.2.1,R.out.2.2,.inr ⟨RJ.out.1,n',v,rfl,hn',RJ.out.2⟩⟩
theorem val_arr(A:List Addr)(base d F B cap k q depth:Nat)(s:ByteArray)(vals:Int)(aU aI:Addr)(lo dup:Bool)(lab:Nat→Nat)(ds:Array Value)(nsv:Value)(w:World)(m:Nat)(C:Cst A s cap vals aU aI lo dup)(h:DS A w lab base d F B cap k s vals 0 (.iface 260 (.pointer (some aU))) (.iface 260 (.pointer (some aI))) ds nsv)(hq:q<s.size)
  (o:Option Nat) (hc:(s[q].toNat:Int)=91)
  (hS:Calls Tryz.prog 132 #[.pointer (some ⟨d,0,none⟩),.pointer (some ⟨F,0,none⟩),.int .i64 q,.int .i64 depth] w (ValQ A base d F B cap k s vals (.iface 260 (.pointer (some aU))) (.iface 260 (.pointer (some aI))) lab ds o q m w)):
  Calls Tryz.prog 69 #[.pointer (some ⟨d,0,none⟩),.pointer (some ⟨F,0,none⟩),.int .i64 q,.int .i64 depth] w (ValQ A base d F B cap k s vals (.iface 260 (.pointer (some aU))) (.iface 260 (.pointer (some aI))) lab ds o q m w):=by
 obtain ⟨c1,c7,c10,_,_⟩:=h.db.facts
 have cq:=h.buf q hq
 rw [hc] at cq
 have K:=Hq (kind59 91 91 (by omega) (by omega) (by decide) w h.g2.nk)
 have hs:=C.hs
 have hcap:=C.hcap
 have hqc:q<cap:=by omega
 have q0:(0:Int)≤(q:Int):=Int.natCast_nonneg _
 have q1:(q:Int)<(s.size:Int):=by omega
 have NV:=Hq hS
 clear h hc C hq hS
 go_enter Tryz.func69,Tryz.ntmps69
 go_wp2_with fail
 go_loopg [2] 1 (fun gk v2 wr=>v2=.int .i64 q∧Hid (gk=1)∧wr=w)
 case atStart=>exact ⟨rfl,Hq rfl,rfl⟩
 case round=>
  obtain ⟨rfl,HGk,rfl⟩:=hrel
  go_wp2_with fail
  refine K.out.mono ?_
  rintro e w' ⟨rfl,rfl⟩
  go_wp2_with fail
  refine NV.out.mono ?_
  rintro e w1 ⟨lab',ds',nsv',hfm,hds,hb4,hcase⟩
  have R:=Hq (And.intro hfm (And.intro hds hb4))
  clear hfm hds hb4
  rcases hcase with ⟨j,hj,rfl⟩|⟨hj,n',v,rfl,hn',hv⟩
  ·have RJ:=Hq hj
   clear hj
   go_wp2_with fail
   go_ret2
   exact ⟨lab',ds',nsv',R.out.1,R.out.2.1,R.out.2.2,.inl ⟨j,RJ.out,rfl⟩⟩
  ·have RJ:=Hq (And.intro hj hv)
   clear hj hv
   go_wp2_with fail
   go_ret2
   exact ⟨lab',ds',nsv',R.out.1,R.out.2.1,R.out.2.2,.inr ⟨RJ.out.1,n',v,rfl,hn',RJ.out.2⟩⟩
theorem valAllI:∀ n,VAllI n:=by
 intro n
 induction n using Nat.strongRecOn with
 |_ n ih=>
 intro A base d F B cap k q depth s vals aU aI lo dup lab ds nsv w C h hq hw hdep hkq hfu
 obtain ⟨n,rfl⟩:∃ i,n=i+1:=⟨n-1,by omega⟩
 have hb:=s[q].toNat_lt
 obtain ⟨c,hc⟩:∃ c:Int,(s[q].toNat:Int)=c:=⟨_,rfl⟩
 have hd:((bytes s).drop q).headD 0=c:=by rw [head_byte hq,hc]
 have hd2:(((bytes s).drop q).drop (ws ((bytes s).drop q))).headD 0=c:=by rw [hw,List.drop_zero,hd]
 by_cases h123:c=123
 ·have e:(run (chkD dup) lo (n+1) .val ((bytes s).drop q)).1=(brO (chkD dup) lo n 125 (.mems []) ((bytes s).drop (q+1))).1.map (·+1):=by
   rw [run_obj' (by rw [hd2,h123]),hw,List.drop_drop]
   rfl
  rw [e]
  subst h123
  refine val_obj A base d F B cap k q depth s vals aU aI lo dup lab ds nsv w _ C h hq _ hc ?_
  cases dup with
  |true=>exact obj131_T n (fun n' hn=>ih n' (by omega)) A base d F B cap k q depth s vals aU aI lo lab ds nsv w C h hq hc hdep hkq (by omega)
  |false=>exact obj131_F n (fun n' hn=>ih n' (by omega)) A base d F B cap k q depth s vals aU aI lo lab ds nsv w C h hq hc hdep hkq (by omega)
 by_cases h91:c=91
 ·have e:(run (chkD dup) lo (n+1) .val ((bytes s).drop q)).1=(brO (chkD dup) lo n 93 .elems ((bytes s).drop (q+1))).1.map (·+1):=by
   rw [run_arr' (by rw [hd2,h91]),hw,List.drop_drop]
   rfl
  rw [e]
  subst h91
  exact val_arr A base d F B cap k q depth s vals aU aI lo dup lab ds nsv w _ C h hq _ hc (arr132 n (fun n' hn=>ih n' (by omega)) A base d F B cap k q depth s vals aU aI lo dup lab ds nsv w C h hq hc hdep hkq (by omega))
 have e:(run (chkD dup) lo (n+1) .val ((bytes s).drop q)).1=scalarO lo ((bytes s).drop q):=by
  rw [run_scalar (by rw [hd2]; exact h123) (by rw [hd2]; exact h91),hw,List.drop_zero]
  show Option.map _ _=_
  cases scalarO lo ((bytes s).drop q)<;>rfl
 rw [e]
 by_cases h110:c=110
 ·have es:scalarO lo ((bytes s).drop q)=wordAt [110,117,108,108] ((bytes s).drop q):=by
   unfold scalarO
   rw [hd,if_pos h110]
  rw [es]
  subst h110
  have ht:=word_take [110,117,108,108] ((bytes s).drop q)
  cases hwd:wordAt [110,117,108,108] ((bytes s).drop q) with
  |none=>exact val_null_no A base d F B cap k q depth s vals aU aI lo dup lab ds nsv w _ C h hq hc hwd
  |some j=>
   have hj:j=4:=by
    rw [hwd] at ht
    split at ht
    ·exact Option.some.inj ht
    ·cases ht
   subst hj
   exact val_null_yes A base d F B cap k q depth s vals aU aI lo dup lab ds nsv w _ C h hq hc hwd
 by_cases h116:c=116
 ·have es:scalarO lo ((bytes s).drop q)=wordAt [116,114,117,101] ((bytes s).drop q):=by
   unfold scalarO
   rw [hd,if_neg h110,if_pos h116]
  rw [es]
  subst h116
  have ht:=word_take [116,114,117,101] ((bytes s).drop q)
  cases hwd:wordAt [116,114,117,101] ((bytes s).drop q) with
  |none=>exact val_true_no A base d F B cap k q depth s vals aU aI lo dup lab ds nsv w _ C h hq hc hwd
  |some j=>
   have hj:j=4:=by
    rw [hwd] at ht
    split at ht
    ·exact Option.some.inj ht
    ·cases ht
   subst hj
   exact val_true_yes A base d F B cap k q depth s vals aU aI lo dup lab ds nsv w _ C h hq hc hwd
 by_cases h102:c=102
 ·have es:scalarO lo ((bytes s).drop q)=wordAt [102,97,108,115,101] ((bytes s).drop q):=by
   unfold scalarO
   rw [hd,if_neg h110,if_neg h116,if_pos h102]
  rw [es]
  subst h102
  have ht:=word_take [102,97,108,115,101] ((bytes s).drop q)
  cases hwd:wordAt [102,97,108,115,101] ((bytes s).drop q) with
  |none=>exact val_false_no A base d F B cap k q depth s vals aU aI lo dup lab ds nsv w _ C h hq hc hwd
  |some j=>
   have hj:j=5:=by
    rw [hwd] at ht
    split at ht
    ·exact Option.some.inj ht
    ·cases ht
   subst hj
   exact val_false_yes A base d F B cap k q depth s vals aU aI lo dup lab ds nsv w _ C h hq hc hwd
 by_cases h34:c=34
 ·have es:scalarO lo ((bytes s).drop q)=(quotedO lo ((bytes s).drop q)).map (·+1):=by
   unfold scalarO
   rw [hd,if_neg h110,if_neg h116,if_neg h102,if_pos h34]
  rw [es]
  subst h34
  exact val_str A base d F B cap k q depth s vals aU aI lo dup lab ds nsv w _ C h hq hc
 by_cases hnum:c=45∨(48≤c∧c≤57)
 ·have es:scalarO lo ((bytes s).drop q)=num ((bytes s).drop q):=by
   unfold scalarO
   rw [hd,if_neg h110,if_neg h116,if_neg h102,if_neg h34,if_pos hnum]
  rw [es]
  exact val_num A base d F B cap k q depth s vals aU aI lo dup lab ds nsv w _ C h hq c hc hnum
 have es:scalarO lo ((bytes s).drop q)=none:=by
  unfold scalarO
  rw [hd,if_neg h110,if_neg h116,if_neg h102,if_neg h34,if_neg hnum]
 rw [es]
 by_cases h125:c=125
 ·exact val_brace A base d F B cap k q depth s vals aU aI lo dup lab ds nsv w _ C h hq c 125 hc (by rw [h125]; decide) rfl
 by_cases h93:c=93
 ·exact val_bad A base d F B cap k q depth s vals aU aI lo dup lab ds nsv w _ C h hq c 93 hc (by rw [h93]; decide) (.inr rfl)
 ·exact val_bad A base d F B cap k q depth s vals aU aI lo dup lab ds nsv w _ C h hq c 0 hc (by unfold normK; rw [if_neg (by omega),if_neg hnum]) (.inl rfl)
structure Kp(b0:Nat)(w w':World):Prop where
 os:w'.os=w.os
 tape:w'.tape=w.tape
 output:w'.output=w.output
 size:w.heap.size≤w'.heap.size
 keep:∀ b,b<b0→w'.heap[b]? = w.heap[b]?
theorem Kp.refl(b0:Nat)(w:World):Kp b0 w w:=⟨rfl,rfl,rfl,Nat.le_refl _,fun _ _=>rfl⟩
theorem Kp.trans{b0:Nat}{a b c:World}(h:Kp b0 a b)(h2:Kp b0 b c):Kp b0 a c:=⟨h2.os.trans h.os,h2.tape.trans h.tape,h2.output.trans h.output,Nat.le_trans h.size h2.size,fun i hi=>(h2.keep i hi).trans (h.keep i hi)⟩
theorem Kp.gb{b0:Nat}{w w':World}{r:Option Nat}(hg:w.grownBy w' r)(hb:b0≤w.heap.size)(hr:∀ b,r=some b→b0≤b):Kp b0 w w':=⟨hg.os,hg.tape,hg.output,hg.size,fun b hb'=>hg.block b (by omega) (fun e=>by have:=hr b e.symm; omega)⟩
theorem Kp.gb0{b0:Nat}{w w':World}(hg:w.grownBy w' none)(hb:b0≤w.heap.size):Kp b0 w w':=Kp.gb hg hb (fun b e=>by cases e)
theorem Kp.set{b0 d i:Nat}{v:Value}{w:World}(hd:b0≤d):Kp b0 w (w.setCell ⟨d,i,none⟩ v):=⟨rfl,rfl,rfl,by rw [set_size]; exact Nat.le_refl _,fun b hb=>heap_set_other (by omega)⟩
theorem Kp.fm{b0 base d F k:Nat}{lab lab':Nat→Nat}{w w':World}(h:Fm lab lab' k d F w w')(hl:∀ b,b<base→lab b=0)(hw:base≤w.heap.size)(hb:b0≤base)(hd:b0≤d)(hF:b0≤F):Kp b0 w w':=
 ⟨h.fz.os,h.fz.tape,h.fz.output,h.fz.size,fun b hb'=>h.fz.keep b (by omega) (fun e=>by rcases e with e|e<;>omega) (.inl (hl b (by omega)))⟩
structure RQ(A:List Addr)(b0 base d B cap:Nat)(s:ByteArray)(vals l:Int)(aU aI aE aM:Addr)(p:Nat)(ds:Array Value)(ao:Option Addr)(c:Nat)(nsv:Value)(lab:Nat→Nat)(w w':World):Prop where
 rt:RT A d B cap s vals l aU aI aE aM ds ao c nsv w'
 c5:ds[5]? = some (.int .i64 0)
 c8:∃ x:Int,ds[8]? = some (.int .i64 x)
 c9:ds[9]? = some (.int .i64 p)
 own:w'.ownsRow base 83 1 (.slice ao 0 c) 0 []
 ns:NS w' lab base 0 nsv
 ld:lab d=0
 db:d<base
 hb:base≤w'.heap.size
 b0b:b0≤base
 b0d:b0≤d
 kp:Kp b0 w w'
 ol:∀ g,(Value.slice ao 0 c).ownBlock=some g→lab g=0
 bB:B<base
 bA:∀ a∈A,a.block<base
 b18:18≤base
 l0:∀ b,b<base→lab b=0
section
variable {A:List Addr} {b0 base d B cap:Nat} {s:ByteArray} {vals l:Int} {aU aI aE aM:Addr} {p:Nat} {ds:Array Value} {ao:Option Addr} {c:Nat} {nsv:Value} {lab:Nat→Nat} {w w1 w':World}
theorem RQ.gb0(h:RQ A b0 base d B cap s vals l aU aI aE aM p ds ao c nsv lab w w1)(hg:w1.grownBy w' none):RQ A b0 base d B cap s vals l aU aI aE aM p ds ao c nsv lab w w':=
 ⟨h.rt.gb0 hg,h.c5,h.c8,h.c9,own_block h.own (fun g hgb=>hg.block g (h.own.lt g hgb).2 (by simp)),h.ns.of_gb hg (fun b e=>by cases e) (LabEq.refl _ _),h.ld,h.db,Nat.le_trans h.hb hg.size,h.b0b,h.b0d,h.kp.trans (Kp.gb0 hg (Nat.le_trans h.b0b h.hb)),h.ol,h.bB,h.bA,h.b18,h.l0⟩
theorem RQ.relab(h:RQ A b0 base d B cap s vals l aU aI aE aM p ds ao c nsv lab w w1):RQ A b0 base d B cap s vals l aU aI aE aM p ds ao c nsv (labN w1 lab 0) w w1:=
 ⟨h.rt,h.c5,h.c8,h.c9,h.own,h.ns.relab (labN_eq _ _ _),by rw [labN_old h.rt.db.lt]; exact h.ld,h.db,h.hb,h.b0b,h.b0d,h.kp,fun g hg=>by rw [labN_old (h.own.lt g hg).2]; exact h.ol g hg,h.bB,h.bA,h.b18,fun b hb=>by rw [labN_old (Nat.lt_of_lt_of_le hb h.hb)]; exact h.l0 b hb⟩
end
def RvP(A:List Addr)(b0 base d B cap:Nat)(s:ByteArray)(vals:Int)(aU aI aE aM:Addr)(o:Option Nat)(w:World)(e:Ending)(w':World):Prop:=
 ∃ ds ao c nsv lab,(∃ j ao' n' c',o=some j∧e=.returned (.tuple #[.slice ao' n' c',.nilIface])∧j≤s.size∧RQ A b0 base d B cap s vals 1 aU aI aE aM j ds ao c nsv lab w w')∨(o=none∧∃ t x,e=.returned (.tuple #[.slice none 0 0,.iface t x])∧RQ A b0 base d B cap s vals 0 aU aI aE aM 0 ds ao c nsv lab w w')
theorem rv_end(A:List Addr)(b0 base d B cap F:Nat)(s:ByteArray)(vals:Int)(aU aI aE aM:Addr)(ds:Array Value)(ao:Option Addr)(c:Nat)(nsv:Value)(lab:Nat→Nat)(w0 w:World)(K:KC A s cap vals aU aI aE aM)(h:RQ A b0 base d B cap s vals 0 aU aI aE aM 0 ds ao c nsv lab w0 w)(hz:ws ((bytes s).drop 0)=s.size):
  Calls Tryz.prog 49 #[.pointer (some ⟨d,0,none⟩),.pointer (some ⟨F,0,none⟩)] w (RvP A b0 base d B cap s vals aU aI aE aM none w0):=by
 have c5:w.cell? ⟨d,5,none⟩=some (.int .i64 0):=by rw [cell_of_row _ _ _ _ _ (0,0) h.rt.db.blk]; exact h.c5
 obtain ⟨_,_,_,c11,_⟩:=h.rt.db.facts
 have IV:=Hq (inval60 d w c11)
 have HQ:=Hq h
 have HK:=Hq K
 have hcap:=K.hcap
 have hs:=K.hs
 obtain ⟨z,HZ⟩:∃ z,Hid (ws ((bytes s).drop 0)=z):=⟨_,Hq rfl⟩
 have hzs:z≤s.size:=by have:=ws_fit (s:=s) (p:=0) (Nat.zero_le _); rw [HZ.out] at this; omega
 have z0:(0:Int)≤(z:Int):=Int.natCast_nonneg _
 have HZE:=Hq (show z=s.size by rw [← HZ.out]; exact hz)
 clear hz
 clear h K
 go_enter Tryz.func49,Tryz.ntmps49
 go_wp2_with fail
 refine IV.out.mono ?_
 rintro e w1 ⟨rfl,n1,hw1⟩
 have HQ1:=Hq (HQ.out.gb0 (show w.grownBy w1 none by rw [hw1]; exact gb_drewN (World.grownBy.refl _ _) n1))
 clear hw1 IV c5 c11 HQ
 obtain ⟨k0,k1,_,_,_⟩:=HQ1.out.rt.top.facts HQ1.out.rt.db.blk
 obtain ⟨_,k7,k10,_,_⟩:=HQ1.out.rt.db.facts
 have k9:w1.cell? ⟨d,9,none⟩=some (.int .i64 0):=by rw [cell_of_row _ _ _ _ _ (0,0) HQ1.out.rt.db.blk]; exact HQ1.out.c9
 have hr:(Instr.slice 47 (.slice (some ⟨B,0,none⟩) s.size cap) (some (.int .i64 0)) none none).run Tryz.prog w1=.ok (rest B cap 0 s.size) w1:=rest_run (W:=w1) (B:=B) (cap:=cap) (q:=0) (n:=s.size) (Nat.zero_le _) hcap
 have W1:=wsC B 0 cap s w1 (by omega) (Nat.zero_le _) hcap HQ1.out.rt.bf
 rw [HZ.out] at W1
 have W1:=Hq W1
 generalize rest B cap 0 s.size=u at hr W1
 have M:=Hq (fun b hb=>more62 d ds B cap z s vals 0 w1 HQ1.out.rt.db b hb)
 go_wp2_with fail
 refine W1.out.mono ?_
 rintro e w' ⟨rfl,rfl⟩
 go_wp2_with fail
 have hze:=HZE.out
 have M1:=Hq (M.out true (by simpa using hze))
 subst hze
 have WE:=Hq (wsEnd63 d ds B cap s vals 0 _ w1 (by omega) hcap HQ1.out.rt.db HQ1.out.rt.bf HQ1.out.rt.gl.eof aU rfl)
 have DP:=Hq (depth64 ao c 0 w1)
 have cU:=HQ1.out.rt.gl.eof
 have e1:=eqS aU w1
 clear M W1 hr
 refine M1.out.mono ?_
 rintro e w' ⟨rfl,rfl⟩
 go_wp2_with fail
 refine WE.out.mono ?_
 rintro e w' ⟨rfl,rfl⟩
 go_wp2_with fail
 refine DP.out.mono ?_
 rintro e w2 ⟨rfl,hg2⟩
 have HQ2:=Hq (HQ1.out.gb0 hg2)
 have cE:=HQ2.out.rt.cE
 have WR:=Hq (wrap65_E d s.size 0 aE w2 cE)
 clear hg2 WE DP M1
 go_wp2_with fail
 refine WR.out.mono ?_
 rintro e w' ⟨rfl,rfl⟩
 go_wp2_with fail
 go_ret2
 exact ⟨_,_,_,_,_,.inr ⟨rfl,_,_,rfl,HQ2.out⟩⟩
theorem rv_delim(A:List Addr)(b0 base d B cap F:Nat)(s:ByteArray)(vals:Int)(aU aI aE aM:Addr)(ds:Array Value)(ao:Option Addr)(c:Nat)(nsv:Value)(lab:Nat→Nat)(w0 w:World)(K:KC A s cap vals aU aI aE aM)(h:RQ A b0 base d B cap s vals 0 aU aI aE aM 0 ds ao c nsv lab w0 w)(hz:ws ((bytes s).drop 0)<s.size)(x:Int)(hx:x=58∨x=44)(hb:(s[ws ((bytes s).drop 0)].toNat:Int)=x):
  Calls Tryz.prog 49 #[.pointer (some ⟨d,0,none⟩),.pointer (some ⟨F,0,none⟩)] w (RvP A b0 base d B cap s vals aU aI aE aM none w0):=by
 have c5:w.cell? ⟨d,5,none⟩=some (.int .i64 0):=by rw [cell_of_row _ _ _ _ _ (0,0) h.rt.db.blk]; exact h.c5
 obtain ⟨_,_,_,c11,_⟩:=h.rt.db.facts
 have IV:=Hq (inval60 d w c11)
 have HQ:=Hq h
 have HK:=Hq K
 have hcap:=K.hcap
 have hs:=K.hs
 obtain ⟨z,HZ⟩:∃ z,Hid (ws ((bytes s).drop 0)=z):=⟨_,Hq rfl⟩
 have hzs:z≤s.size:=by have:=ws_fit (s:=s) (p:=0) (Nat.zero_le _); rw [HZ.out] at this; omega
 have z0:(0:Int)≤(z:Int):=Int.natCast_nonneg _
 have hzl:z<s.size:=by rw [← HZ.out]; exact hz
 have HBC:=Hq (show (s[z].toNat:Int)=x by simpa only [HZ.out] using hb)
 clear hz hb
 clear h K
 go_enter Tryz.func49,Tryz.ntmps49
 go_wp2_with fail
 refine IV.out.mono ?_
 rintro e w1 ⟨rfl,n1,hw1⟩
 have HQ1:=Hq (HQ.out.gb0 (show w.grownBy w1 none by rw [hw1]; exact gb_drewN (World.grownBy.refl _ _) n1))
 clear hw1 IV c5 c11 HQ
 obtain ⟨k0,k1,_,_,_⟩:=HQ1.out.rt.top.facts HQ1.out.rt.db.blk
 obtain ⟨_,k7,k10,_,_⟩:=HQ1.out.rt.db.facts
 have k9:w1.cell? ⟨d,9,none⟩=some (.int .i64 0):=by rw [cell_of_row _ _ _ _ _ (0,0) HQ1.out.rt.db.blk]; exact HQ1.out.c9
 have hr:(Instr.slice 47 (.slice (some ⟨B,0,none⟩) s.size cap) (some (.int .i64 0)) none none).run Tryz.prog w1=.ok (rest B cap 0 s.size) w1:=rest_run (W:=w1) (B:=B) (cap:=cap) (q:=0) (n:=s.size) (Nat.zero_le _) hcap
 have W1:=wsC B 0 cap s w1 (by omega) (Nat.zero_le _) hcap HQ1.out.rt.bf
 rw [HZ.out] at W1
 have W1:=Hq W1
 generalize rest B cap 0 s.size=u at hr W1
 have M:=Hq (fun b hb=>more62 d ds B cap z s vals 0 w1 HQ1.out.rt.db b hb)
 go_wp2_with fail
 refine W1.out.mono ?_
 rintro e w' ⟨rfl,rfl⟩
 go_wp2_with fail
 have hlt:=hzl
 have M1:=Hq (M.out false (by simp; omega))
 have cp:=HQ1.out.rt.bf z hlt
 rw [HBC.out] at cp
 have z1:(z:Int)<(s.size:Int):=by omega
 have t1:decide (s.size≤z)=false:=by simp; omega
 have t2:decide ((s.size:Int)≤(z:Int))=false:=by simp; omega
 clear M W1 hr
 refine M1.out.mono ?_
 rintro e w' ⟨rfl,rfl⟩
 have BF:=Hq (fun w (h:RQ A b0 base d B cap s vals 0 aU aI aE aM 0 ds ao c nsv lab w0 w) v=>before66 HK.out h.rt 0 (Nat.zero_le _) h.c9 x hx v)
 have CK:=Hq (fun w (h:RQ A b0 base d B cap s vals 0 aU aI aE aM 0 ds ao c nsv lab w0 w) nx=>check68 HK.out h.rt 0 (Nat.zero_le _) h.c9 x nx hx)
 have e58:(x==58)=decide (x=58):=by rcases hx with rfl|rfl<;>rfl
 have e44:(x==44)=decide (x=44):=by rcases hx with rfl|rfl<;>rfl
 have e0:(0 != x)=true:=by rcases hx with rfl|rfl<;>rfl
 obtain ⟨y,HY⟩:∃ y,Hid (ws ((bytes s).drop (z+1))=y):=⟨_,Hq rfl⟩
 obtain ⟨p,hp⟩:∃ p,z+1=p:=⟨_,rfl⟩
 have hps:p≤s.size:=by omega
 obtain ⟨q,hq⟩:∃ q,p+y=q:=⟨_,rfl⟩
 have hqs:q≤s.size:=by have:=ws_fit (s:=s) (p:=z+1) (by omega); rw [HY.out] at this; omega
 have x1:(z:Int)+1=(p:Int):=by omega
 have x2:(p:Int)+(y:Int)=(q:Int):=by omega
 have p0:(0:Int)≤(p:Int):=Int.natCast_nonneg _
 have q0:(0:Int)≤(q:Int):=Int.natCast_nonneg _
 have hr2:=rest_run (W:=w1) (B:=B) (cap:=cap) (q:=p) (n:=s.size) hps hcap
 have W2:=wsC B p cap s w1 (by omega) hps hcap HQ1.out.rt.bf
 rw [show ws ((bytes s).drop p)=y by rw [← hp]; exact HY.out] at W2
 have W2:=Hq W2
 generalize rest B cap p s.size=u2 at hr2 W2
 have M2:=Hq (fun b hb=>more62 d ds B cap q s vals 0 w1 HQ1.out.rt.db b hb)
 clear hp hq HY M1 HBC
 rcases hx with rfl|rfl
 all_goals
  go_wp2_with fail
  refine W2.out.mono ?_
  rintro e w' ⟨rfl,rfl⟩
  go_wp2_with fail
  by_cases hqe:q=s.size
  ·have M3:=Hq (M2.out true (by simpa using hqe))
   subst hqe
   have WE:=Hq (wsEnd63 d ds B cap s vals 0 _ w1 (by omega) hcap HQ1.out.rt.db HQ1.out.rt.bf HQ1.out.rt.gl.eof aU rfl)
   have WR:=Hq (wrap_str HK.out HQ1.out.rt s.size (Nat.le_refl _) 0 _ (.inl rfl))
   refine M3.out.mono ?_
   rintro e w' ⟨rfl,rfl⟩
   go_wp2_with fail
   refine WE.out.mono ?_
   rintro e w' ⟨rfl,rfl⟩
   go_wp2_with fail
   refine WR.out.mono ?_
   rintro e w2 ⟨bb,rfl,hg2⟩
   have HQ2:=Hq (HQ1.out.gb0 hg2)
   have B2:=Hq (BF.out w2 HQ2.out (.iface 179 (.pointer (some ⟨bb,0,none⟩))))
   clear hg2 WE M3 BF CK W2 M2
   go_wp2_with fail
   refine B2.out.mono ?_
   rintro e w3 ⟨b3,rfl,hg3⟩
   have HQ3:=Hq (HQ2.out.gb0 hg3)
   clear hg3
   go_wp2_with fail
   go_ret2
   exact ⟨_,_,_,_,_,.inr ⟨rfl,_,_,rfl,HQ3.out⟩⟩
  ·have hql:q<s.size:=by omega
   have M3:=Hq (M2.out false (by simpa using hqe))
   have cq:=HQ1.out.rt.bf q hql
   obtain ⟨cx,hcx⟩:∃ cx:Int,(s[q].toNat:Int)=cx:=⟨_,rfl⟩
   have hcx0:0≤cx:=by omega
   have hcx1:cx≤255:=by have:=s[q].toNat_lt; omega
   rw [hcx] at cq
   have q1:(q:Int)<(s.size:Int):=by omega
   have t3:decide (s.size≤q)=false:=by simp; omega
   have t4:decide ((s.size:Int)≤(q:Int))=false:=by simp; omega
   have KD:=Hq (kind59 cx (normK cx) hcx0 hcx1 rfl w1 HQ1.out.rt.nk)
   have DL:=Hq (delim67 ao c 0 (normK cx) (.inl rfl) w1)
   generalize normK cx=kx at KD DL
   clear M2 W2 BF hqe hcx hcx0 hcx1
   refine M3.out.mono ?_
   rintro e w' ⟨rfl,rfl⟩
   go_wp2_with fail
   refine KD.out.mono ?_
   rintro e w' ⟨rfl,rfl⟩
   go_wp2_with fail
   refine DL.out.mono ?_
   rintro e w2 ⟨rfl,hg2⟩
   have HQ2:=Hq (HQ1.out.gb0 hg2)
   have C2:=Hq (CK.out w2 HQ2.out kx)
   clear hg2 CK DL KD
   go_wp2_with fail
   refine C2.out.mono ?_
   rintro e w3 ⟨b3,rfl,hg3⟩
   have HQ3:=Hq (HQ2.out.gb0 hg3)
   clear hg3
   go_wp2_with fail
   go_ret2
   exact ⟨_,_,_,_,_,.inr ⟨rfl,_,_,rfl,HQ3.out⟩⟩
end Go.Proofs.YtknaalohaagcdaaGreatDoor.Own
