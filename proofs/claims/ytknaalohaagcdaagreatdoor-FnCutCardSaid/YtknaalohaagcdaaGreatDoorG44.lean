import Derived.Test.YtknaalohaagcdaaGreatDoorG01
import Derived.Test.YtknaalohaagcdaaGreatDoorG40
import Derived.Test.YtknaalohaagcdaaGreatDoorG43
set_option maxHeartbeats 400000000
set_option maxRecDepth 100000
namespace Go.Proofs.YtknaalohaagcdaaGreatDoor.Own
open Go.RowKit JG
theorem rt_num(A:List Addr)(b0 base d B cap:Nat)(s:ByteArray)(vals l:Int)(aU aI aE aM:Addr)(p0:Nat)(hp0:p0≤s.size)(ds:Array Value)(ao:Option Addr)(c:Nat)(nsv:Value)(lab:Nat→Nat)(w0 w:World)(K:KC A s cap vals aU aI aE aM)(h:RQ A b0 base d B cap s vals l aU aI aE aM p0 ds ao c nsv lab w0 w)(hbg:base<w.heap.size)(hzq:∃ q,q+1=w.heap.size∧BZ q w)(hzl':p0+ws ((bytes s).drop p0)<s.size)(x:Int)(hb:(s[p0+ws ((bytes s).drop p0)].toNat:Int)=x)(hx:¬ x=58∧¬ x=44)(hxk:normK x=48):
  Calls Tryz.prog 50 #[.pointer (some ⟨d,0,none⟩)] w (RtP b0 d w.heap.size NoEnd w0):=by
 have HQ:=Hq (h.gb0 (World.grownBy_alloc w (.cells #[.pointer none,.string ⟨#[]⟩,.int .u64 0] 70) none))
 have c5:(w.alloc (.cells #[.pointer none,.string ⟨#[]⟩,.int .u64 0] 70)).cell? ⟨d,5,none⟩=some (.int .i64 0):=by rw [cell_of_row _ _ _ _ _ (0,0) HQ.out.rt.db.blk]; exact HQ.out.c5
 have HG:=Hq (show GB w.heap.size (w.alloc (.cells #[.pointer none,.string ⟨#[]⟩,.int .u64 0] 70)) from ⟨heap_alloc_new w _,by obtain ⟨q,hq,hz⟩:=hzq; exact ⟨q,hq,(heap_alloc_old w _ hz.lt).trans hz⟩⟩)
 have IV:=Hq (inval60 d (w.alloc (.cells #[.pointer none,.string ⟨#[]⟩,.int .u64 0] 70)) HQ.out.rt.db.facts.2.2.2.1)
 have HK:=Hq K
 have hcap:=K.hcap
 have hs:=K.hs
 have HBG:=Hq hbg
 have HL:=Hq h.rt.l01
 obtain ⟨z',HZ⟩:∃ z,Hid (ws ((bytes s).drop p0)=z):=⟨_,Hq rfl⟩
 obtain ⟨z,hz⟩:∃ z,p0+z'=z:=⟨_,rfl⟩
 have hzs:z≤s.size:=by have:=ws_fit hp0; rw [HZ.out] at this; omega
 have xz:(p0:Int)+(z':Int)=(z:Int):=by omega
 have z0:(0:Int)≤(z:Int):=Int.natCast_nonneg _
 have p00:(0:Int)≤(p0:Int):=Int.natCast_nonneg _
 have HZP:=Hq hz
 have hzl:z<s.size:=by have h1:=HZ.out; omega
 have HBC:=Hq (show (s[z].toNat:Int)=x by have e:p0+ws ((bytes s).drop p0)=z:=by { rw [HZ.out]; exact hz }; simpa only [e] using hb)
 have x58:(x==58)=false:=by simpa using hx.1
 have x44:(x==44)=false:=by simpa using hx.2
 have HX0:=Hq (show 0≤x∧x≤255 by rw [← hb]; have:=s[p0+ws ((bytes s).drop p0)].toNat_lt; omega)
 have HXK:=Hq hxk
 clear hzl' hb hx hxk
 clear h K hz hbg hzq
 go_enter Tryz.func50,Tryz.ntmps50
 go_wp2_with fail
 refine IV.out.mono ?_
 rintro e w1 ⟨rfl,n1,hw1⟩
 have hgA:(w.alloc (.cells #[.pointer none,.string ⟨#[]⟩,.int .u64 0] 70)).grownBy w1 none:=by rw [hw1]; exact gb_drewN (World.grownBy.refl _ _) n1
 have HQ1:=Hq (HQ.out.gb0 hgA)
 have HG1:=Hq (HG.out.gb0 hgA)
 clear hw1 hgA IV c5 HQ HG
 obtain ⟨k0,k1,_,_,_⟩:=HQ1.out.rt.top.facts HQ1.out.rt.db.blk
 obtain ⟨_,k7,k10,_,_⟩:=HQ1.out.rt.db.facts
 have k9:w1.cell? ⟨d,9,none⟩=some (.int .i64 p0):=by rw [cell_of_row _ _ _ _ _ (0,0) HQ1.out.rt.db.blk]; exact HQ1.out.c9
 have hr:=rest_run (W:=w1) (B:=B) (cap:=cap) (q:=p0) (n:=s.size) hp0 hcap
 have W1:=wsC B p0 cap s w1 (by omega) hp0 hcap HQ1.out.rt.bf
 rw [HZ.out] at W1
 have W1:=Hq W1
 generalize rest B cap p0 s.size=u at hr W1
 have M:=Hq (fun b hb=>more62 d ds B cap z s vals l w1 HQ1.out.rt.db b hb)
 go_wp2_with fail
 refine W1.out.mono ?_
 rintro e w' ⟨rfl,rfl⟩
 go_wp2_with fail
 have hlt:=hzl
 have M1:=Hq (M.out false (by simp; omega))
 have cp:=HQ1.out.rt.bf z hlt
 rw [HBC.out] at cp
 have z1:(z:Int)<(s.size:Int):=by omega
 have t1:decide (s.size≤z)=false:=by simp; omega
 have t2:decide ((s.size:Int)≤(z:Int))=false:=by simp; omega
 clear M W1 hr
 refine M1.out.mono ?_
 rintro e w' ⟨rfl,rfl⟩
 have KD:=Hq (kind59 x 48 HX0.out.1 HX0.out.2 HXK.out w1 HQ1.out.rt.nk)
 have DL:=Hq (delim67 ao c l 48 HL.out w1)
 go_wp2_with fail
 refine KD.out.mono ?_
 rintro e w' ⟨rfl,rfl⟩
 go_wp2_with fail
 refine DL.out.mono ?_
 rintro e w2 ⟨rfl,hg2⟩
 have HQ2:=Hq (HQ1.out.gb0 hg2)
 have HG2:=Hq (HG1.out.gb0 hg2)
 clear hg2 DL KD HQ1 HG1 M1 k0 k1 k7 k9 k10 cp
 obtain ⟨m0,m1,_,_,_⟩:=HQ2.out.rt.top.facts HQ2.out.rt.db.blk
 obtain ⟨_,m7,m10,_,m14⟩:=HQ2.out.rt.db.facts
 have m1f:w2.frozen? ⟨d,1,none⟩=false:=by unfold World.frozen?; simp only [HQ2.out.rt.db.blk]; simp
 have hzc:z<cap:=by omega
 have HLT:=Hq hlt
 have N:=Hq (simple96 B z (cap-z) s w2 (by omega) hlt (by omega) HQ2.out.rt.bf)
 have NC:=Hq (num97 d ds B cap z aU s vals l _ w2 (by omega) hlt hcap HQ2.out.rt.db HQ2.out.rt.bf HQ2.out.rt.gl)
 have MM:=Hq (fun (n:Nat) b hb=>more62 d ds B cap (z+n) s vals l w2 HQ2.out.rt.db b hb)
 have NB:=Hq (fun w h1 h2=>numb81 d l HL.out w h1 h2)
 have e0:=fun w=>eqN (.pointer (some aU)) w
 go_wp2_with fail
 refine N.out.mono ?_
 rintro e w' ⟨n,rfl,hns,hn,rfl⟩
 have HN:=Hq hn
 clear hn
 by_cases hn0:n=0
 ·subst hn0
  clear MM
  go_wp2_with fail
  refine NC.out.mono ?_
  rintro e w4 (⟨m,hm,rfl,hg⟩|⟨hm,n',v,rfl,hn',hv,hg⟩)
  ·have HQ4:=Hq (HQ2.out.gb0 hg)
   have HT4:=Hq (HQ4.out.tx (HG2.out.gb0 hg) HBG.out)
   obtain ⟨_,n1,_,_,_⟩:=HQ4.out.rt.top.facts HQ4.out.rt.db.blk
   have n10:=HQ4.out.rt.db.facts.2.2.1
   have n1f:w4.frozen? ⟨d,1,none⟩=false:=by unfold World.frozen?; simp only [HQ4.out.rt.db.blk]; simp
   have ST1:=Hq (NB.out w4 n1 n1f)
   have hml:=num_le hm
   rw [List.length_drop,bytes_len] at hml
   obtain ⟨p4,hp4⟩:∃ p4,z+m=p4:=⟨_,rfl⟩
   rw [hp4]
   have y1:(p4:Int)-(z:Int)=((m:Nat):Int):=by omega
   have y2:(p4:Int)-((m:Nat):Int)=(z:Int):=by omega
   have y3:(0:Int)≤(p4:Int):=Int.natCast_nonneg _
   have y5:(p4:Int)≤4096:=by omega
   generalize ((m:Nat):Int)=k4 at y1 y2
   clear hg hm hp4 hml NC N NB HN
   go_wp2_with fail
   refine ST1.out.mono ?_
   rintro e w5 ⟨rfl,hs5⟩
   have HT5:=Hq (show TX b0 d w.heap.size w0 w5 by rw [hs5]; exact HT4.out.set 1 _ (.inl (by decide)))
   obtain ⟨x8,x9,_,_,q8,q9,q10,_,_,qf8,qf9,_,_⟩:=HT5.out.facts
   have HT6:=Hq ((HT5.out.set 8 (.int .i64 z) (.inr (.inl ⟨_,rfl,.inl rfl⟩))).set 9 (.int .i64 p4) (.inr (.inl ⟨_,rfl,.inr rfl⟩)))
   obtain ⟨W6,HW6⟩:∃ W6,Hid ((w5.setCell ⟨d,8,none⟩ (.int .i64 z)).setCell ⟨d,9,none⟩ (.int .i64 p4)=W6):=⟨_,Hq rfl⟩
   have r8:W6.cell? ⟨d,8,none⟩=some (.int .i64 z):=by
    obtain ⟨dd,hdd,hz24⟩:=HT5.out.tw.db
    rw [← HW6.out,cell_of_row _ _ _ _ _ (0,0) (heap_set_cells (heap_set_cells hdd)),Array.getElem?_setIfInBounds_ne (by decide)]
    simp [hz24]
   have HT7:=Hq (show TX b0 d w.heap.size w0 W6 by rw [← HW6.out]; exact HT6.out)
   obtain ⟨_,_,_,_,_,_,r10,_⟩:=HT7.out.facts
   obtain ⟨g0,g1,g2,gf0,gf1,gf2⟩:=HT7.out.gb.facts
   have OF:=Hq (fun w h1 h2=>off95 d z (by omega) (by omega) w h1 h2)
   have HTD:=Hq (fun (n:Nat) (w7:World) (h:w7=W6.drew.drewN n)=>(show TX b0 d w.heap.size w0 w7 by rw [h]; exact (HT7.out.gb0 (gb_drewN (World.grownBy.refl _ _) 1)).gb0 (gb_drewN (World.grownBy.refl _ _) n)))
   clear hs5 HT4 HT5 HT6 ST1
   go_wp2_with fail
   rw [HW6.out]
   go_region_with (first|(go_at_call 95; refine (OF.out _ (by simpa using r8) (by simpa using r10)).mono ?_; rintro e w7 ⟨rfl,n7,hw7⟩; have HT8:=Hq (HTD.out n7 w7 hw7); obtain ⟨v0,v1,v2,vf0,vf1,vf2⟩:=HT8.out.gb.facts; clear hw7))
   go_wp2_with fail
   first|exact tok_fin HT8.out.tw rfl rfl rfl (.inl rfl)|exact tok_finD HT8.out.tw rfl rfl rfl (.inl rfl)
  ·have HQ4:=Hq (HQ2.out.gb0 hg)
   have HT4:=Hq (HQ4.out.tx (HG2.out.gb0 hg) HBG.out)
   have n10:=HQ4.out.rt.db.facts.2.2.1
   have WR:=Hq (wrap_str HK.out HQ4.out.rt n' hn' 1 v (hv.imp id .inr))
   have hvf:∃ t y,v=.iface t y:=by rcases hv with rfl|⟨b,rfl⟩<;>exact ⟨_,_,rfl⟩
   obtain ⟨vt,vy,rfl⟩:=hvf
   have n0:(0:Int)≤(n':Int):=Int.natCast_nonneg _
   have n1:(n':Int)≤4096:=by omega
   clear hg hv hm NC N NB HN hn'
   go_wp2_with fail
   refine WR.out.mono ?_
   rintro e w5 ⟨b5,rfl,hg5⟩
   have HT5:=Hq (HT4.out.gb0 hg5)
   obtain ⟨g0,g1,g2,gf0,gf1,gf2⟩:=HT5.out.gb.facts
   clear hg5 WR
   go_wp2_with fail
   exact tok_fin HT5.out.tw rfl rfl rfl (.inr ⟨_,rfl⟩)
 ·have tz:((n:Int)==0)=false:=by simpa using hn0
  have hw1:IntKind.i64.wrap ((z:Int)+(n:Int))=(z:Int)+(n:Int):=by rw [IntKind.wrap_i64]; omega
  by_cases hend:z+n=s.size
  ·have M1:=Hq (MM.out n true (by simpa using hend))
   clear MM hend hn0
   go_wp2_with fail
   refine M1.out.mono ?_
   rintro e w' ⟨rfl,rfl⟩
   go_wp2_with fail
   refine NC.out.mono ?_
   rintro e w4 (⟨m,hm,rfl,hg⟩|⟨hm,n',v,rfl,hn',hv,hg⟩)
   ·have HQ4:=Hq (HQ2.out.gb0 hg)
    have HT4:=Hq (HQ4.out.tx (HG2.out.gb0 hg) HBG.out)
    obtain ⟨_,n1,_,_,_⟩:=HQ4.out.rt.top.facts HQ4.out.rt.db.blk
    have n10:=HQ4.out.rt.db.facts.2.2.1
    have n1f:w4.frozen? ⟨d,1,none⟩=false:=by unfold World.frozen?; simp only [HQ4.out.rt.db.blk]; simp
    have ST1:=Hq (NB.out w4 n1 n1f)
    have hml:=num_le hm
    rw [List.length_drop,bytes_len] at hml
    obtain ⟨p4,hp4⟩:∃ p4,z+m=p4:=⟨_,rfl⟩
    rw [hp4]
    have y1:(p4:Int)-(z:Int)=((m:Nat):Int):=by omega
    have y2:(p4:Int)-((m:Nat):Int)=(z:Int):=by omega
    have y3:(0:Int)≤(p4:Int):=Int.natCast_nonneg _
    have y5:(p4:Int)≤4096:=by omega
    generalize ((m:Nat):Int)=k4 at y1 y2
    clear hg hm hp4 hml NC N NB HN
    go_wp2_with fail
    refine ST1.out.mono ?_
    rintro e w5 ⟨rfl,hs5⟩
    have HT5:=Hq (show TX b0 d w.heap.size w0 w5 by rw [hs5]; exact HT4.out.set 1 _ (.inl (by decide)))
    obtain ⟨x8,x9,_,_,q8,q9,q10,_,_,qf8,qf9,_,_⟩:=HT5.out.facts
    have HT6:=Hq ((HT5.out.set 8 (.int .i64 z) (.inr (.inl ⟨_,rfl,.inl rfl⟩))).set 9 (.int .i64 p4) (.inr (.inl ⟨_,rfl,.inr rfl⟩)))
    obtain ⟨W6,HW6⟩:∃ W6,Hid ((w5.setCell ⟨d,8,none⟩ (.int .i64 z)).setCell ⟨d,9,none⟩ (.int .i64 p4)=W6):=⟨_,Hq rfl⟩
    have r8:W6.cell? ⟨d,8,none⟩=some (.int .i64 z):=by
     obtain ⟨dd,hdd,hz24⟩:=HT5.out.tw.db
     rw [← HW6.out,cell_of_row _ _ _ _ _ (0,0) (heap_set_cells (heap_set_cells hdd)),Array.getElem?_setIfInBounds_ne (by decide)]
     simp [hz24]
    have HT7:=Hq (show TX b0 d w.heap.size w0 W6 by rw [← HW6.out]; exact HT6.out)
    obtain ⟨_,_,_,_,_,_,r10,_⟩:=HT7.out.facts
    obtain ⟨g0,g1,g2,gf0,gf1,gf2⟩:=HT7.out.gb.facts
    have OF:=Hq (fun w h1 h2=>off95 d z (by omega) (by omega) w h1 h2)
    have HTD:=Hq (fun (n:Nat) (w7:World) (h:w7=W6.drew.drewN n)=>(show TX b0 d w.heap.size w0 w7 by rw [h]; exact (HT7.out.gb0 (gb_drewN (World.grownBy.refl _ _) 1)).gb0 (gb_drewN (World.grownBy.refl _ _) n)))
    clear hs5 HT4 HT5 HT6 ST1
    go_wp2_with fail
    rw [HW6.out]
    go_region_with (first|(go_at_call 95; refine (OF.out _ (by simpa using r8) (by simpa using r10)).mono ?_; rintro e w7 ⟨rfl,n7,hw7⟩; have HT8:=Hq (HTD.out n7 w7 hw7); obtain ⟨v0,v1,v2,vf0,vf1,vf2⟩:=HT8.out.gb.facts; clear hw7))
    go_wp2_with fail
    first|exact tok_fin HT8.out.tw rfl rfl rfl (.inl rfl)|exact tok_finD HT8.out.tw rfl rfl rfl (.inl rfl)
   ·have HQ4:=Hq (HQ2.out.gb0 hg)
    have HT4:=Hq (HQ4.out.tx (HG2.out.gb0 hg) HBG.out)
    have n10:=HQ4.out.rt.db.facts.2.2.1
    have WR:=Hq (wrap_str HK.out HQ4.out.rt n' hn' 1 v (hv.imp id .inr))
    have hvf:∃ t y,v=.iface t y:=by rcases hv with rfl|⟨b,rfl⟩<;>exact ⟨_,_,rfl⟩
    obtain ⟨vt,vy,rfl⟩:=hvf
    have n0:(0:Int)≤(n':Int):=Int.natCast_nonneg _
    have n1:(n':Int)≤4096:=by omega
    clear hg hv hm NC N NB HN hn'
    go_wp2_with fail
    refine WR.out.mono ?_
    rintro e w5 ⟨b5,rfl,hg5⟩
    have HT5:=Hq (HT4.out.gb0 hg5)
    obtain ⟨g0,g1,g2,gf0,gf1,gf2⟩:=HT5.out.gb.facts
    clear hg5 WR
    go_wp2_with fail
    exact tok_fin HT5.out.tw rfl rfl rfl (.inr ⟨_,rfl⟩)
  ·have M1:=Hq (MM.out n false (by simpa using hend))
   have HT4:=Hq (HQ2.out.tx HG2.out HBG.out)
   have ST1:=Hq (NB.out w2 m1 m1f)
   go_wp2_with fail
   refine M1.out.mono ?_
   rintro e w' ⟨rfl,rfl⟩
   obtain ⟨p4,hp4⟩:∃ p4,z+n=p4:=⟨_,rfl⟩
   have y0:(z:Int)+((n:Nat):Int)=(p4:Int):=by omega
   have y2:(p4:Int)-((n:Nat):Int)=(z:Int):=by omega
   have y3:(0:Int)≤(p4:Int):=Int.natCast_nonneg _
   have y4:(0:Int)≤((n:Nat):Int):=Int.natCast_nonneg _
   have y5:(p4:Int)≤4096:=by omega
   generalize ((n:Nat):Int)=k4 at y0 y2 y4 tz ⊢
   clear MM hend hn0 NC N NB HN hns hp4 hw1 M1
   go_wp2_with fail
   refine ST1.out.mono ?_
   rintro e w5 ⟨rfl,hs5⟩
   have HT5:=Hq (show TX b0 d w.heap.size w0 w5 by rw [hs5]; exact HT4.out.set 1 _ (.inl (by decide)))
   obtain ⟨x8,x9,_,_,q8,q9,q10,_,_,qf8,qf9,_,_⟩:=HT5.out.facts
   have HT6:=Hq ((HT5.out.set 8 (.int .i64 z) (.inr (.inl ⟨_,rfl,.inl rfl⟩))).set 9 (.int .i64 p4) (.inr (.inl ⟨_,rfl,.inr rfl⟩)))
   obtain ⟨W6,HW6⟩:∃ W6,Hid ((w5.setCell ⟨d,8,none⟩ (.int .i64 z)).setCell ⟨d,9,none⟩ (.int .i64 p4)=W6):=⟨_,Hq rfl⟩
   have r8:W6.cell? ⟨d,8,none⟩=some (.int .i64 z):=by
    obtain ⟨dd,hdd,hz24⟩:=HT5.out.tw.db
    rw [← HW6.out,cell_of_row _ _ _ _ _ (0,0) (heap_set_cells (heap_set_cells hdd)),Array.getElem?_setIfInBounds_ne (by decide)]
    simp [hz24]
   have HT7:=Hq (show TX b0 d w.heap.size w0 W6 by rw [← HW6.out]; exact HT6.out)
   obtain ⟨_,_,_,_,_,_,r10,_⟩:=HT7.out.facts
   obtain ⟨g0,g1,g2,gf0,gf1,gf2⟩:=HT7.out.gb.facts
   have OF:=Hq (fun w h1 h2=>off95 d z (by omega) (by omega) w h1 h2)
   have HTD:=Hq (fun (n:Nat) (w7:World) (h:w7=W6.drew.drewN n)=>(show TX b0 d w.heap.size w0 w7 by rw [h]; exact (HT7.out.gb0 (gb_drewN (World.grownBy.refl _ _) 1)).gb0 (gb_drewN (World.grownBy.refl _ _) n)))
   clear hs5 HT4 HT5 HT6 ST1
   go_wp2_with fail
   rw [HW6.out]
   go_region_with (first|(go_at_call 95; refine (OF.out _ (by simpa using r8) (by simpa using r10)).mono ?_; rintro e w7 ⟨rfl,n7,hw7⟩; have HT8:=Hq (HTD.out n7 w7 hw7); obtain ⟨v0,v1,v2,vf0,vf1,vf2⟩:=HT8.out.gb.facts; clear hw7))
   go_wp2_with fail
   first|exact tok_fin HT8.out.tw rfl rfl rfl (.inl rfl)|exact tok_finD HT8.out.tw rfl rfl rfl (.inl rfl)
theorem rt_arr(A:List Addr)(b0 base d B cap:Nat)(s:ByteArray)(vals l:Int)(aU aI aE aM:Addr)(p0:Nat)(hp0:p0≤s.size)(ds:Array Value)(ao:Option Addr)(c:Nat)(nsv:Value)(lab:Nat→Nat)(w0 w:World)(K:KC A s cap vals aU aI aE aM)(h:RQ A b0 base d B cap s vals l aU aI aE aM p0 ds ao c nsv lab w0 w)(hbg:base<w.heap.size)(hzq:∃ q,q+1=w.heap.size∧BZ q w)(hzl':p0+ws ((bytes s).drop p0)<s.size)(x:Int)(hb:(s[p0+ws ((bytes s).drop p0)].toNat:Int)=x)(hx:¬ x=58∧¬ x=44)(hxk:normK x=91)(hog:∀ q,(Value.slice ao 0 c).ownBlock=some q→q+1<w.heap.size)(hlg:∀ q,q=w.heap.size∨q+1=w.heap.size→lab q=0):
  Calls Tryz.prog 50 #[.pointer (some ⟨d,0,none⟩)] w (RtP b0 d w.heap.size NoEnd w0):=by
 have HQ:=Hq (h.gb0 (World.grownBy_alloc w (.cells #[.pointer none,.string ⟨#[]⟩,.int .u64 0] 70) none))
 have c5:(w.alloc (.cells #[.pointer none,.string ⟨#[]⟩,.int .u64 0] 70)).cell? ⟨d,5,none⟩=some (.int .i64 0):=by rw [cell_of_row _ _ _ _ _ (0,0) HQ.out.rt.db.blk]; exact HQ.out.c5
 have HG:=Hq (show GB w.heap.size (w.alloc (.cells #[.pointer none,.string ⟨#[]⟩,.int .u64 0] 70)) from ⟨heap_alloc_new w _,by obtain ⟨q,hq,hz⟩:=hzq; exact ⟨q,hq,(heap_alloc_old w _ hz.lt).trans hz⟩⟩)
 have IV:=Hq (inval60 d (w.alloc (.cells #[.pointer none,.string ⟨#[]⟩,.int .u64 0] 70)) HQ.out.rt.db.facts.2.2.2.1)
 have HK:=Hq K
 have hcap:=K.hcap
 have hs:=K.hs
 have HBG:=Hq hbg
 have HL:=Hq h.rt.l01
 obtain ⟨z',HZ⟩:∃ z,Hid (ws ((bytes s).drop p0)=z):=⟨_,Hq rfl⟩
 obtain ⟨z,hz⟩:∃ z,p0+z'=z:=⟨_,rfl⟩
 have hzs:z≤s.size:=by have:=ws_fit hp0; rw [HZ.out] at this; omega
 have xz:(p0:Int)+(z':Int)=(z:Int):=by omega
 have z0:(0:Int)≤(z:Int):=Int.natCast_nonneg _
 have p00:(0:Int)≤(p0:Int):=Int.natCast_nonneg _
 have HZP:=Hq hz
 have hzl:z<s.size:=by have h1:=HZ.out; omega
 have HBC:=Hq (show (s[z].toNat:Int)=x by have e:p0+ws ((bytes s).drop p0)=z:=by { rw [HZ.out]; exact hz }; simpa only [e] using hb)
 have x58:(x==58)=false:=by simpa using hx.1
 have x44:(x==44)=false:=by simpa using hx.2
 have HX0:=Hq (show 0≤x∧x≤255 by rw [← hb]; have:=s[p0+ws ((bytes s).drop p0)].toNat_lt; omega)
 have HXK:=Hq hxk
 have HOWN:=Hq hog
 have HLG:=Hq hlg
 clear hzl' hb hx hxk hlg hog
 clear h K hz hbg hzq
 go_enter Tryz.func50,Tryz.ntmps50
 go_wp2_with fail
 refine IV.out.mono ?_
 rintro e w1 ⟨rfl,n1,hw1⟩
 have hgA:(w.alloc (.cells #[.pointer none,.string ⟨#[]⟩,.int .u64 0] 70)).grownBy w1 none:=by rw [hw1]; exact gb_drewN (World.grownBy.refl _ _) n1
 have HQ1:=Hq (HQ.out.gb0 hgA)
 have HG1:=Hq (HG.out.gb0 hgA)
 clear hw1 hgA IV c5 HQ HG
 obtain ⟨k0,k1,_,_,_⟩:=HQ1.out.rt.top.facts HQ1.out.rt.db.blk
 obtain ⟨_,k7,k10,_,_⟩:=HQ1.out.rt.db.facts
 have k9:w1.cell? ⟨d,9,none⟩=some (.int .i64 p0):=by rw [cell_of_row _ _ _ _ _ (0,0) HQ1.out.rt.db.blk]; exact HQ1.out.c9
 have hr:=rest_run (W:=w1) (B:=B) (cap:=cap) (q:=p0) (n:=s.size) hp0 hcap
 have W1:=wsC B p0 cap s w1 (by omega) hp0 hcap HQ1.out.rt.bf
 rw [HZ.out] at W1
 have W1:=Hq W1
 generalize rest B cap p0 s.size=u at hr W1
 have M:=Hq (fun b hb=>more62 d ds B cap z s vals l w1 HQ1.out.rt.db b hb)
 go_wp2_with fail
 refine W1.out.mono ?_
 rintro e w' ⟨rfl,rfl⟩
 go_wp2_with fail
 have hlt:=hzl
 have M1:=Hq (M.out false (by simp; omega))
 have cp:=HQ1.out.rt.bf z hlt
 rw [HBC.out] at cp
 have z1:(z:Int)<(s.size:Int):=by omega
 have t1:decide (s.size≤z)=false:=by simp; omega
 have t2:decide ((s.size:Int)≤(z:Int))=false:=by simp; omega
 clear M W1 hr
 refine M1.out.mono ?_
 rintro e w' ⟨rfl,rfl⟩
 have KD:=Hq (kind59 x 91 HX0.out.1 HX0.out.2 HXK.out w1 HQ1.out.rt.nk)
 have DL:=Hq (delim67 ao c l 91 HL.out w1)
 go_wp2_with fail
 refine KD.out.mono ?_
 rintro e w' ⟨rfl,rfl⟩
 go_wp2_with fail
 refine DL.out.mono ?_
 rintro e w2 ⟨rfl,hg2⟩
 have HQ2:=Hq (HQ1.out.gb0 hg2)
 have HG2:=Hq (HG1.out.gb0 hg2)
 clear hg2 DL KD HQ1 HG1 M1 k0 k1 k7 k9 k10 cp
 obtain ⟨m0,m1,_,_,_⟩:=HQ2.out.rt.top.facts HQ2.out.rt.db.blk
 obtain ⟨_,m7,m10,_,m14⟩:=HQ2.out.rt.db.facts
 have HOG:=Hq (fun q (hq:(Value.slice ao 0 c).ownBlock=some q)=>(⟨(HQ2.out.own.lt q hq).1,by have:=HOWN.out q hq; omega⟩:base≤q∧q≠w.heap.size∧q+1≠w.heap.size))
 have P:=Hq (push84 d base c ao l HL.out ds w2 HQ2.out.sm HQ2.out.hb HQ2.out.db)
 go_wp2_with fail
 refine P.out.mono ?_
 rintro e w3 ⟨rfl,ao3,c3,ds3,hsm,hbx,hlo,hox⟩
 have HT3:=Hq (TX.ofSM HQ2.out HG2.out HBG.out hsm hbx hlo HOG.out)
 clear hsm hbx hlo hox P
 have CL:=Hq (fun (a b:Int) w h1 h2 h3 h4=>clear100 d a b 402653184 w h1 h2 h3 h4)
 obtain ⟨_,_,xa,xb,_,_,_,t13,t14,_,_,tf13,tf14⟩:=HT3.out.facts
 have CL1:=Hq (CL.out _ _ _ t13 t14 tf13 tf14)
 go_wp2_with fail
 refine CL1.out.mono ?_
 rintro e w6 ⟨rfl,ca,cb,hw6⟩
 have HT6:=Hq (show TX b0 d w.heap.size w0 w6 by rw [hw6]; exact (HT3.out.set 13 _ (.inr (.inr ⟨_,rfl,.inl rfl⟩))).set 14 _ (.inr (.inr ⟨_,rfl,.inr rfl⟩)))
 obtain ⟨x8,x9,_,_,q8,q9,_,_,_,qf8,qf9,_,_⟩:=HT6.out.facts
 have TK:=Hq (fun w=>tok105 w)
 have HT7:=Hq (fun (p4:Int)=>(HT6.out.set 8 (.int .i64 p4) (.inr (.inl ⟨_,rfl,.inl rfl⟩))).set 9 (.int .i64 p4) (.inr (.inl ⟨_,rfl,.inr rfl⟩)))
 clear hw6 CL CL1 HT3
 go_wp2_with fail
 refine (TK.out _).mono ?_
 rintro e w7 ⟨tv,rfl,⟨ta,tb,tc,rfl⟩,hg7⟩
 have HT8:=Hq ((HT7.out _).gb0 hg7)
 obtain ⟨g0,g1,g2,gf0,gf1,gf2⟩:=HT8.out.gb.facts
 clear hg7 HT7 HT6
 go_wp2_with fail
 exact tok_fin HT8.out.tw rfl rfl rfl (.inl rfl)
theorem rt_obj(A:List Addr)(b0 base d B cap:Nat)(s:ByteArray)(vals l:Int)(aU aI aE aM:Addr)(p0:Nat)(hp0:p0≤s.size)(ds:Array Value)(ao:Option Addr)(c:Nat)(nsv:Value)(lab:Nat→Nat)(w0 w:World)(K:KC A s cap vals aU aI aE aM)(h:RQ A b0 base d B cap s vals l aU aI aE aM p0 ds ao c nsv lab w0 w)(hbg:base<w.heap.size)(hzq:∃ q,q+1=w.heap.size∧BZ q w)(hzl':p0+ws ((bytes s).drop p0)<s.size)(x:Int)(hb:(s[p0+ws ((bytes s).drop p0)].toNat:Int)=x)(hx:¬ x=58∧¬ x=44)(hxk:normK x=123)(hog:∀ q,(Value.slice ao 0 c).ownBlock=some q→q+1<w.heap.size)(hlg:∀ q,q=w.heap.size∨q+1=w.heap.size→lab q=0):
  Calls Tryz.prog 50 #[.pointer (some ⟨d,0,none⟩)] w (RtP b0 d w.heap.size NoEnd w0):=by
 have HQ:=Hq (h.gb0 (World.grownBy_alloc w (.cells #[.pointer none,.string ⟨#[]⟩,.int .u64 0] 70) none))
 have c5:(w.alloc (.cells #[.pointer none,.string ⟨#[]⟩,.int .u64 0] 70)).cell? ⟨d,5,none⟩=some (.int .i64 0):=by rw [cell_of_row _ _ _ _ _ (0,0) HQ.out.rt.db.blk]; exact HQ.out.c5
 have HG:=Hq (show GB w.heap.size (w.alloc (.cells #[.pointer none,.string ⟨#[]⟩,.int .u64 0] 70)) from ⟨heap_alloc_new w _,by obtain ⟨q,hq,hz⟩:=hzq; exact ⟨q,hq,(heap_alloc_old w _ hz.lt).trans hz⟩⟩)
 have IV:=Hq (inval60 d (w.alloc (.cells #[.pointer none,.string ⟨#[]⟩,.int .u64 0] 70)) HQ.out.rt.db.facts.2.2.2.1)
 have HK:=Hq K
 have hcap:=K.hcap
 have hs:=K.hs
 have HBG:=Hq hbg
 have HL:=Hq h.rt.l01
 obtain ⟨z',HZ⟩:∃ z,Hid (ws ((bytes s).drop p0)=z):=⟨_,Hq rfl⟩
 obtain ⟨z,hz⟩:∃ z,p0+z'=z:=⟨_,rfl⟩
 have hzs:z≤s.size:=by have:=ws_fit hp0; rw [HZ.out] at this; omega
 have xz:(p0:Int)+(z':Int)=(z:Int):=by omega
 have z0:(0:Int)≤(z:Int):=Int.natCast_nonneg _
 have p00:(0:Int)≤(p0:Int):=Int.natCast_nonneg _
 have HZP:=Hq hz
 have hzl:z<s.size:=by have h1:=HZ.out; omega
 have HBC:=Hq (show (s[z].toNat:Int)=x by have e:p0+ws ((bytes s).drop p0)=z:=by { rw [HZ.out]; exact hz }; simpa only [e] using hb)
 have x58:(x==58)=false:=by simpa using hx.1
 have x44:(x==44)=false:=by simpa using hx.2
 have HX0:=Hq (show 0≤x∧x≤255 by rw [← hb]; have:=s[p0+ws ((bytes s).drop p0)].toNat_lt; omega)
 have HXK:=Hq hxk
 have HOWN:=Hq hog
 have HLG:=Hq hlg
 clear hzl' hb hx hxk hlg hog
 clear h K hz hbg hzq
 go_enter Tryz.func50,Tryz.ntmps50
 go_wp2_with fail
 refine IV.out.mono ?_
 rintro e w1 ⟨rfl,n1,hw1⟩
 have hgA:(w.alloc (.cells #[.pointer none,.string ⟨#[]⟩,.int .u64 0] 70)).grownBy w1 none:=by rw [hw1]; exact gb_drewN (World.grownBy.refl _ _) n1
 have HQ1:=Hq (HQ.out.gb0 hgA)
 have HG1:=Hq (HG.out.gb0 hgA)
 clear hw1 hgA IV c5 HQ HG
 obtain ⟨k0,k1,_,_,_⟩:=HQ1.out.rt.top.facts HQ1.out.rt.db.blk
 obtain ⟨_,k7,k10,_,_⟩:=HQ1.out.rt.db.facts
 have k9:w1.cell? ⟨d,9,none⟩=some (.int .i64 p0):=by rw [cell_of_row _ _ _ _ _ (0,0) HQ1.out.rt.db.blk]; exact HQ1.out.c9
 have hr:=rest_run (W:=w1) (B:=B) (cap:=cap) (q:=p0) (n:=s.size) hp0 hcap
 have W1:=wsC B p0 cap s w1 (by omega) hp0 hcap HQ1.out.rt.bf
 rw [HZ.out] at W1
 have W1:=Hq W1
 generalize rest B cap p0 s.size=u at hr W1
 have M:=Hq (fun b hb=>more62 d ds B cap z s vals l w1 HQ1.out.rt.db b hb)
 go_wp2_with fail
 refine W1.out.mono ?_
 rintro e w' ⟨rfl,rfl⟩
 go_wp2_with fail
 have hlt:=hzl
 have M1:=Hq (M.out false (by simp; omega))
 have cp:=HQ1.out.rt.bf z hlt
 rw [HBC.out] at cp
 have z1:(z:Int)<(s.size:Int):=by omega
 have t1:decide (s.size≤z)=false:=by simp; omega
 have t2:decide ((s.size:Int)≤(z:Int))=false:=by simp; omega
 clear M W1 hr
 refine M1.out.mono ?_
 rintro e w' ⟨rfl,rfl⟩
 have KD:=Hq (kind59 x 123 HX0.out.1 HX0.out.2 HXK.out w1 HQ1.out.rt.nk)
 have DL:=Hq (delim67 ao c l 123 HL.out w1)
 go_wp2_with fail
 refine KD.out.mono ?_
 rintro e w' ⟨rfl,rfl⟩
 go_wp2_with fail
 refine DL.out.mono ?_
 rintro e w2 ⟨rfl,hg2⟩
 have HQ2:=Hq (HQ1.out.gb0 hg2)
 have HG2:=Hq (HG1.out.gb0 hg2)
 clear hg2 DL KD HQ1 HG1 M1 k0 k1 k7 k9 k10 cp
 obtain ⟨m0,m1,_,_,_⟩:=HQ2.out.rt.top.facts HQ2.out.rt.db.blk
 obtain ⟨_,m7,m10,_,m14⟩:=HQ2.out.rt.db.facts
 have HOG:=Hq (fun q (hq:(Value.slice ao 0 c).ownBlock=some q)=>(⟨(HQ2.out.own.lt q hq).1,by have:=HOWN.out q hq; omega⟩:base≤q∧q≠w.heap.size∧q+1≠w.heap.size))
 have P:=Hq (push82 d base c ao l HL.out ds w2 HQ2.out.sm HQ2.out.hb HQ2.out.db)
 go_wp2_with fail
 refine P.out.mono ?_
 rintro e w3 ⟨rfl,ao3,c3,ds3,hsm,hbx,hlo,hox⟩
 have HT3:=Hq (TX.ofSM HQ2.out HG2.out HBG.out hsm hbx hlo HOG.out)
 have b3:=hsm.blk
 have h2:ds3[2]? = some (.slice none 0 0):=(hbx 2 (by decide) (by decide)).trans HQ2.out.rt.top.offs
 have h4:ds3[4]? = some nsv:=(hbx 4 (by decide) (by decide)).trans HQ2.out.rt.top.nss
 have hol:=HQ2.out.ol
 have her:Er 0 lab w2 w3:=⟨hlo.os,hlo.tape,hlo.output,hlo.size,fun b hlt hx=>hlo.keep b hlt (fun e=>by rcases hx with h1|h1; omega; exact h1 (by rw [e]; exact HQ2.out.ld)) (fun e=>by rcases hx with h1|h1; omega; exact h1 (hol b e.symm))⟩
 have ns3:=HQ2.out.ns.er her (LabEq.refl _ _)
 have hb3:base≤w3.heap.size:=Nat.le_trans HQ2.out.hb hlo.size
 have PN:=Hq (push98 d ds3 w3 b3 h2)
 have H3:=Hq (And.intro b3 (And.intro h4 (And.intro ns3 hb3)))
 clear hsm hbx hlo hox P b3 h2 h4 hol her ns3 hb3
 go_wp2_with fail
 refine PN.out.mono ?_
 rintro e w4 ⟨rfl,hg4,v4,hb4⟩
 have HT4:=Hq (HT3.out.upd H3.out.1 (by decide) hb4 (Kp.gb hg4 HT3.out.b0w (fun b e=>by rw [← Option.some.inj e]; exact HT3.out.b0d)) (fun q hlt hq=>hg4.block q hlt (fun e=>by have:=HT3.out.dg; have:=Option.some.inj e; omega)))
 have ns4:=H3.out.2.2.1.of_gb hg4 (fun b e _=>by rw [← Option.some.inj e]; exact HQ2.out.ld) (LabEq.refl _ _)
 have c44:(ds3.setIfInBounds 2 v4)[4]? = some nsv:=by rw [Array.getElem?_setIfInBounds_ne (by decide)]; exact H3.out.2.1
 have hbw4:=Nat.le_trans H3.out.2.2.2 hg4.size
 have H4:=Hq (And.intro hb4 (And.intro c44 (And.intro ns4 hbw4)))
 obtain ⟨_,_,ga,gv,_,_,_,u13,u14,_,_,_,_⟩:=HT4.out.facts
 have GT:=Hq (fun b hb=>get72 ga gv 2 b hb w4)
 clear hg4 hb4 ns4 c44 hbw4 PN HT3 H3
 cases hdup:decide (0<bits .and .u64 gv 2) with
 |true=>
  have GT1:=Hq (GT.out true hdup)
  clear GT hdup
  go_wp2_with fail
  refine GT1.out.mono ?_
  rintro e w5 ⟨rfl,hg5⟩
  have HT5:=Hq (HT4.out.gb0 hg5)
  clear hg5 GT1 HT4 H4 u13 u14
  have CL:=Hq (fun (a b:Int) w h1 h2 h3 h4=>clear100 d a b 402653184 w h1 h2 h3 h4)
  obtain ⟨_,_,xa,xb,_,_,_,t13,t14,_,_,tf13,tf14⟩:=HT5.out.facts
  have CL1:=Hq (CL.out _ _ _ t13 t14 tf13 tf14)
  go_wp2_with fail
  refine CL1.out.mono ?_
  rintro e w6 ⟨rfl,ca,cb,hw6⟩
  have HT6:=Hq (show TX b0 d w.heap.size w0 w6 by rw [hw6]; exact (HT5.out.set 13 _ (.inr (.inr ⟨_,rfl,.inl rfl⟩))).set 14 _ (.inr (.inr ⟨_,rfl,.inr rfl⟩)))
  obtain ⟨x8,x9,_,_,q8,q9,_,_,_,qf8,qf9,_,_⟩:=HT6.out.facts
  have TK:=Hq (fun w=>tok101 w)
  have HT7:=Hq (fun (p4:Int)=>(HT6.out.set 8 (.int .i64 p4) (.inr (.inl ⟨_,rfl,.inl rfl⟩))).set 9 (.int .i64 p4) (.inr (.inl ⟨_,rfl,.inr rfl⟩)))
  clear hw6 CL CL1 HT5
  go_wp2_with fail
  refine (TK.out _).mono ?_
  rintro e w7 ⟨tv,rfl,⟨ta,tb,tc,rfl⟩,hg7⟩
  have HT8:=Hq ((HT7.out _).gb0 hg7)
  obtain ⟨g0,g1,g2,gf0,gf1,gf2⟩:=HT8.out.gb.facts
  clear hg7 HT7 HT6
  go_wp2_with fail
  exact tok_fin HT8.out.tw rfl rfl rfl (.inl rfl)
 |false=>
  have GT1:=Hq (GT.out false hdup)
  clear GT hdup
  go_wp2_with fail
  refine GT1.out.mono ?_
  rintro e w5 ⟨rfl,hg5⟩
  have HT5:=Hq (HT4.out.gb0 hg5)
  have hb5:=(hg5.block d (Array.getElem?_eq_some_iff.1 H4.out.1).1 (by simp)).trans H4.out.1
  have PS:=Hq (push99 lab base 0 d nsv (ds3.setIfInBounds 2 v4) (fun b=>b=d) w5 (by decide) hb5 H4.out.2.1 rfl HQ2.out.ld (Nat.le_trans H4.out.2.2.2 hg5.size) (H4.out.2.2.1.of_gb hg5 (fun b e=>by cases e) (LabEq.refl _ _)))
  have HB5:=Hq hb5
  clear hg5 hb5 GT1 HT4 H4 u13 u14
  go_wp2_with fail
  refine PS.out.mono ?_
  rintro e w5b ⟨rfl,lab5,A5,cap5,y1,y2,hb6,_,_,hfz,_⟩
  have HT5b:=Hq (HT5.out.upd HB5.out (by decide) hb6 ⟨hfz.os,hfz.tape,hfz.output,hfz.size,fun b hb=>hfz.keep b (Nat.lt_of_lt_of_le hb HT5.out.b0w) (fun e=>by have:=HT5.out.b0d; omega) (.inl (HQ2.out.l0 b (by have:=HQ2.out.b0b; omega)))⟩ (fun q hlt hq=>hfz.keep q hlt (fun e=>by have:=HT5.out.dg; omega) (.inl (HLG.out q hq))))
  clear hb6 hfz PS HB5 HT5
  have CL:=Hq (fun (a b:Int) w h1 h2 h3 h4=>clear100 d a b 402653184 w h1 h2 h3 h4)
  obtain ⟨_,_,xa,xb,_,_,_,t13,t14,_,_,tf13,tf14⟩:=HT5b.out.facts
  have CL1:=Hq (CL.out _ _ _ t13 t14 tf13 tf14)
  go_wp2_with fail
  refine CL1.out.mono ?_
  rintro e w6 ⟨rfl,ca,cb,hw6⟩
  have HT6:=Hq (show TX b0 d w.heap.size w0 w6 by rw [hw6]; exact (HT5b.out.set 13 _ (.inr (.inr ⟨_,rfl,.inl rfl⟩))).set 14 _ (.inr (.inr ⟨_,rfl,.inr rfl⟩)))
  obtain ⟨x8,x9,_,_,q8,q9,_,_,_,qf8,qf9,_,_⟩:=HT6.out.facts
  have TK:=Hq (fun w=>tok101 w)
  have HT7:=Hq (fun (p4:Int)=>(HT6.out.set 8 (.int .i64 p4) (.inr (.inl ⟨_,rfl,.inl rfl⟩))).set 9 (.int .i64 p4) (.inr (.inl ⟨_,rfl,.inr rfl⟩)))
  clear hw6 CL CL1 HT5b
  go_wp2_with fail
  refine (TK.out _).mono ?_
  rintro e w7 ⟨tv,rfl,⟨ta,tb,tc,rfl⟩,hg7⟩
  have HT8:=Hq ((HT7.out _).gb0 hg7)
  obtain ⟨g0,g1,g2,gf0,gf1,gf2⟩:=HT8.out.gb.facts
  clear hg7 HT7 HT6
  go_wp2_with fail
  exact tok_fin HT8.out.tw rfl rfl rfl (.inl rfl)
end Go.Proofs.YtknaalohaagcdaaGreatDoor.Own
