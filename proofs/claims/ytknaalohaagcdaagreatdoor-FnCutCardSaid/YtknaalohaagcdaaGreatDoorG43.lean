import Derived.Test.YtknaalohaagcdaaGreatDoorG01
import Derived.Test.YtknaalohaagcdaaGreatDoorG40
import Derived.Test.YtknaalohaagcdaaGreatDoorG41
import Derived.Test.YtknaalohaagcdaaGreatDoorG42
set_option maxHeartbeats 400000000
set_option maxRecDepth 100000
namespace Go.Proofs.YtknaalohaagcdaaGreatDoor.Own
open Go.RowKit JG
theorem TX.gbF{b0 d g x:Nat}{w0 W W':World}(h:TX b0 d g w0 W)(hg:W.grownBy W' (some x))(h1:x≠d)(h2:x≠g∧x+1≠g)(h3:b0≤x):TX b0 d g w0 W':=by
 obtain ⟨ds,x',y,a,b,h4,h5⟩:=h.dx
 exact ⟨h.kp.trans (Kp.gb hg h.b0w (fun b e=>by rw [← Option.some.inj e]; exact h3)),⟨ds,x',y,a,b,(hg.block d (Array.getElem?_eq_some_iff.1 h4).1 (fun e=>h1 (Option.some.inj e).symm)).trans h4,h5⟩,h.gb.gb hg (fun b e=>by rw [← Option.some.inj e]; exact h2),h.b0d,h.b0g,h.dg,Nat.le_trans h.b0w hg.size⟩
theorem tok_finD{b0 d g n:Nat}{P:Value→Prop}{w0 W:World}{a:Option Addr}{b:ByteArray}{c:Int}{v:Value}{act:Go.Act}(h:TW b0 d g w0 W)(h2:act.tmps.getD 2 undef=.pointer (some ⟨g,0,none⟩))(h3:act.tmps.getD 3 undef=v)(hd:act.defers=[])(hP:P v):
  bodyPost Tryz.prog Tryz.f50 (RtP b0 d g P w0) .ret act ((((W.setCell ⟨g,0,none⟩ (.pointer a)).setCell ⟨g,1,none⟩ (.string b)).setCell ⟨g,2,none⟩ (.int .u64 c)).drewN n):=by
 have hg:(((W.setCell ⟨g,0,none⟩ (.pointer a)).setCell ⟨g,1,none⟩ (.string b)).setCell ⟨g,2,none⟩ (.int .u64 c)).grownBy ((((W.setCell ⟨g,0,none⟩ (.pointer a)).setCell ⟨g,1,none⟩ (.string b)).setCell ⟨g,2,none⟩ (.int .u64 c)).drewN n) none:=gb_drewN (World.grownBy.refl _ _) n
 have hb0:(((W.setCell ⟨g,0,none⟩ (.pointer a)).setCell ⟨g,1,none⟩ (.string b)).setCell ⟨g,2,none⟩ (.int .u64 c)).heap[g]? = some (.cells #[.pointer a,.string b,.int .u64 c] 70 (0,0)):=heap_set_cells (heap_set_cells (heap_set_cells h.gb.1))
 have hb:=(hg.block g (Array.getElem?_eq_some_iff.1 hb0).1 (by simp)).trans hb0
 have hkp:Kp b0 w0 (((W.setCell ⟨g,0,none⟩ (.pointer a)).setCell ⟨g,1,none⟩ (.string b)).setCell ⟨g,2,none⟩ (.int .u64 c)):=((h.kp.trans (Kp.set h.b0g)).trans (Kp.set h.b0g)).trans (Kp.set h.b0g)
 obtain ⟨ds,hds,hz⟩:=h.db
 have hne:d≠g:=h.dg.1
 obtain ⟨_,q,hq,hqz⟩:=h.gb
 have hqg:q≠g:=by omega
 have hq0:(((W.setCell ⟨g,0,none⟩ (.pointer a)).setCell ⟨g,1,none⟩ (.string b)).setCell ⟨g,2,none⟩ (.int .u64 c)).heap[q]? = some (.cells #[.pointer none,.string ⟨#[]⟩,.int .u64 0] 70 (0,0)):=by
  rw [heap_set_other hqg,heap_set_other hqg,heap_set_other hqg]
  exact hqz
 have hd0:(((W.setCell ⟨g,0,none⟩ (.pointer a)).setCell ⟨g,1,none⟩ (.string b)).setCell ⟨g,2,none⟩ (.int .u64 c)).heap[d]? = some (.cells ds 109 (0,0)):=by
  rw [heap_set_other hne,heap_set_other hne,heap_set_other hne]
  exact hds
 have hr:(results Tryz.f50 act.tmps).run Tryz.prog ((((W.setCell ⟨g,0,none⟩ (.pointer a)).setCell ⟨g,1,none⟩ (.string b)).setCell ⟨g,2,none⟩ (.int .u64 c)).drewN n)=.ok (.tuple #[.agg #[.pointer a,.string b,.int .u64 c],v]) ((((W.setCell ⟨g,0,none⟩ (.pointer a)).setCell ⟨g,1,none⟩ (.string b)).setCell ⟨g,2,none⟩ (.int .u64 c)).drewN n):=by
  rw [results_cell_tmp Tryz.results50,h2,h3]
  simp only [asAddr,Sem.run_pure,Result.andThen_ok,run_loadVar_row _ g 70 70 _ (0,0) _ hb Tryz.underlying70 rfl info70]
 exact bodyPost_ret hr hd ⟨a,b,c,v,rfl,hP,hkp.trans (Kp.gb0 hg (by have:=h.b0g; have:=(Array.getElem?_eq_some_iff.1 hb0).1; omega)),⟨ds,(hg.block d (Array.getElem?_eq_some_iff.1 hd0).1 (by simp)).trans hd0,hz⟩,q,hq,(hg.block q (Array.getElem?_eq_some_iff.1 hq0).1 (by simp)).trans hq0⟩
theorem TX.ofSM{A:List Addr}{b0 base d B cap g:Nat}{s:ByteArray}{vals l lz:Int}{aU aI aE aM:Addr}{p:Nat}{ds ds':Array Value}{ao ao':Option Addr}{c c':Nat}{nsv:Value}{lab:Nat→Nat}{zs:List Value}{o:Option Nat}{w w1 w':World}(h:RQ A b0 base d B cap s vals l aU aI aE aM p ds ao c nsv lab w w1)(hg:GB g w1)(hb:base<g)(hs:SM w' d base 1 c' ao' lz zs ds')(h01:But01 ds ds')(hl:Lo d o w1 w')(ho:∀ q,o=some q→base≤q∧q≠g∧q+1≠g):TX b0 d g w w':=by
 obtain ⟨x,hx⟩:=h.c8
 obtain ⟨a,ha⟩:=h.rt.db.dc.pres
 have h1:=h.b0b
 have h2:=h.b0d
 have h3:=h.hb
 have h4:=h.db
 refine ⟨h.kp.trans ⟨hl.os,hl.tape,hl.output,hl.size,fun b hb'=>hl.keep b (by omega) (by omega) (fun e=>by have:=(ho b e.symm).1; omega)⟩,⟨ds',x,p,a,vals,hs.blk,getE_size h01 h.rt.db.dc.sz,(h01 8 (by decide) (by decide)).trans hx,(h01 9 (by decide) (by decide)).trans h.c9,(h01 10 (by decide) (by decide)).trans h.rt.db.dc.base,(h01 13 (by decide) (by decide)).trans ha,(h01 14 (by decide) (by decide)).trans h.rt.db.dc.vals⟩,
  hg.keep (fun q hlt hq=>hl.keep q hlt (by omega) (fun e=>by have:=ho q e.symm; omega)),h2,by omega,by omega,by have:=hl.size; omega⟩
theorem TX.upd{b0 d g:Nat}{w0 W W':World}{ds:Array Value}{i:Nat}{v:Value}(h:TX b0 d g w0 W)(hd:W.heap[d]? = some (.cells ds 109 (0,0)))(hi:i<8)(hd':W'.heap[d]? = some (.cells (ds.setIfInBounds i v) 109 (0,0)))(hk:Kp b0 W W')(hg:∀ q,q<W.heap.size→q=g∨q+1=g→W'.heap[q]? = W.heap[q]?):TX b0 d g w0 W':=by
 obtain ⟨ds0,x,y,a,b,h1,h2,h3,h4,h5,h6,h7⟩:=h.dx
 obtain rfl:ds0=ds:=by
  rw [hd] at h1
  cases h1
  rfl
 have k:∀ j,j≠i→(ds0.setIfInBounds i v)[j]? = ds0[j]? := fun j hj=>Array.getElem?_setIfInBounds_ne (fun e=>hj e.symm)
 exact ⟨h.kp.trans hk,⟨_,x,y,a,b,hd',by simp [h2],by rw [k 8 (by omega)]; exact h3,by rw [k 9 (by omega)]; exact h4,by rw [k 10 (by omega)]; exact h5,by rw [k 13 (by omega)]; exact h6,by rw [k 14 (by omega)]; exact h7⟩,h.gb.keep hg,h.b0d,h.b0g,h.dg,Nat.le_trans h.b0w hk.size⟩
theorem rt_str(A:List Addr)(b0 base d B cap:Nat)(s:ByteArray)(vals l:Int)(aU aI aE aM:Addr)(p0:Nat)(hp0:p0≤s.size)(ds:Array Value)(ao:Option Addr)(c:Nat)(nsv:Value)(lab:Nat→Nat)(w0 w:World)(K:KC A s cap vals aU aI aE aM)(h:RQ A b0 base d B cap s vals l aU aI aE aM p0 ds ao c nsv lab w0 w)(hbg:base<w.heap.size)(hzq:∃ q,q+1=w.heap.size∧BZ q w)(hzl':p0+ws ((bytes s).drop p0)<s.size)(x:Int)(hb:(s[p0+ws ((bytes s).drop p0)].toNat:Int)=x)(hx:¬ x=58∧¬ x=44)(hxk:normK x=34):
  Calls Tryz.prog 50 #[.pointer (some ⟨d,0,none⟩)] w (RtP b0 d w.heap.size NoEnd w0):=by
 have HQ:=Hq (h.gb0 (World.grownBy_alloc w (.cells #[.pointer none,.string ⟨#[]⟩,.int .u64 0] 70) none))
 have c5:(w.alloc (.cells #[.pointer none,.string ⟨#[]⟩,.int .u64 0] 70)).cell? ⟨d,5,none⟩=some (.int .i64 0):=by rw [cell_of_row _ _ _ _ _ (0,0) HQ.out.rt.db.blk]; exact HQ.out.c5
 have HG:=Hq (show GB w.heap.size (w.alloc (.cells #[.pointer none,.string ⟨#[]⟩,.int .u64 0] 70)) from ⟨heap_alloc_new w _,by obtain ⟨q,hq,hz⟩:=hzq; exact ⟨q,hq,(heap_alloc_old w _ hz.lt).trans hz⟩⟩)
 have IV:=Hq (inval60 d (w.alloc (.cells #[.pointer none,.string ⟨#[]⟩,.int .u64 0] 70)) HQ.out.rt.db.facts.2.2.2.1)
 have HK:=Hq K
 have hcap:=K.hcap
 have hs:=K.hs
 have HBG:=Hq hbg
 have HL:=Hq h.rt.l01
 obtain ⟨z',HZ⟩:∃ z,Hid (ws ((bytes s).drop p0)=z):=⟨_,Hq rfl⟩
 obtain ⟨z,hz⟩:∃ z,p0+z'=z:=⟨_,rfl⟩
 have hzs:z≤s.size:=by have:=ws_fit hp0; rw [HZ.out] at this; omega
 have xz:(p0:Int)+(z':Int)=(z:Int):=by omega
 have z0:(0:Int)≤(z:Int):=Int.natCast_nonneg _
 have p00:(0:Int)≤(p0:Int):=Int.natCast_nonneg _
 have HZP:=Hq hz
 have hzl:z<s.size:=by have h1:=HZ.out; omega
 have HBC:=Hq (show (s[z].toNat:Int)=x by have e:p0+ws ((bytes s).drop p0)=z:=by { rw [HZ.out]; exact hz }; simpa only [e] using hb)
 have x58:(x==58)=false:=by simpa using hx.1
 have x44:(x==44)=false:=by simpa using hx.2
 have HX0:=Hq (show 0≤x∧x≤255 by rw [← hb]; have:=s[p0+ws ((bytes s).drop p0)].toNat_lt; omega)
 have HXK:=Hq hxk
 clear hzl' hb hx hxk
 clear h K hz hbg hzq
 go_enter Tryz.func50,Tryz.ntmps50
 go_wp2_with fail
 refine IV.out.mono ?_
 rintro e w1 ⟨rfl,n1,hw1⟩
 have hgA:(w.alloc (.cells #[.pointer none,.string ⟨#[]⟩,.int .u64 0] 70)).grownBy w1 none:=by rw [hw1]; exact gb_drewN (World.grownBy.refl _ _) n1
 have HQ1:=Hq (HQ.out.gb0 hgA)
 have HG1:=Hq (HG.out.gb0 hgA)
 clear hw1 hgA IV c5 HQ HG
 obtain ⟨k0,k1,_,_,_⟩:=HQ1.out.rt.top.facts HQ1.out.rt.db.blk
 obtain ⟨_,k7,k10,_,_⟩:=HQ1.out.rt.db.facts
 have k9:w1.cell? ⟨d,9,none⟩=some (.int .i64 p0):=by rw [cell_of_row _ _ _ _ _ (0,0) HQ1.out.rt.db.blk]; exact HQ1.out.c9
 have hr:=rest_run (W:=w1) (B:=B) (cap:=cap) (q:=p0) (n:=s.size) hp0 hcap
 have W1:=wsC B p0 cap s w1 (by omega) hp0 hcap HQ1.out.rt.bf
 rw [HZ.out] at W1
 have W1:=Hq W1
 generalize rest B cap p0 s.size=u at hr W1
 have M:=Hq (fun b hb=>more62 d ds B cap z s vals l w1 HQ1.out.rt.db b hb)
 go_wp2_with fail
 refine W1.out.mono ?_
 rintro e w' ⟨rfl,rfl⟩
 go_wp2_with fail
 have hlt:=hzl
 have M1:=Hq (M.out false (by simp; omega))
 have cp:=HQ1.out.rt.bf z hlt
 rw [HBC.out] at cp
 have z1:(z:Int)<(s.size:Int):=by omega
 have t1:decide (s.size≤z)=false:=by simp; omega
 have t2:decide ((s.size:Int)≤(z:Int))=false:=by simp; omega
 clear M W1 hr
 refine M1.out.mono ?_
 rintro e w' ⟨rfl,rfl⟩
 have KD:=Hq (kind59 x 34 HX0.out.1 HX0.out.2 HXK.out w1 HQ1.out.rt.nk)
 have DL:=Hq (delim67 ao c l 34 HL.out w1)
 go_wp2_with fail
 refine KD.out.mono ?_
 rintro e w' ⟨rfl,rfl⟩
 go_wp2_with fail
 refine DL.out.mono ?_
 rintro e w2 ⟨rfl,hg2⟩
 have HQ2:=Hq (HQ1.out.gb0 hg2)
 have HG2:=Hq (HG1.out.gb0 hg2)
 clear hg2 DL KD HQ1 HG1 M1 k0 k1 k7 k9 k10 cp
 obtain ⟨m0,m1,_,_,_⟩:=HQ2.out.rt.top.facts HQ2.out.rt.db.blk
 obtain ⟨_,m7,m10,_,m14⟩:=HQ2.out.rt.db.facts
 have m1f:w2.frozen? ⟨d,1,none⟩=false:=by unfold World.frozen?; simp only [HQ2.out.rt.db.blk]; simp
 have hzc:z<cap:=by omega
 have HQ3:=Hq (HQ2.out.gb0 (World.grownBy_alloc w2 (.cells #[.int .u64 0] 112) none))
 have HG3:=Hq (HG2.out.gb0 (World.grownBy_alloc w2 (.cells #[.int .u64 0] 112) none))
 have HF3:=Hq (show Fl (w2.alloc (.cells #[.int .u64 0] 112)) w2.heap.size 0 from ⟨heap_alloc_new w2 _,by decide,by decide⟩)
 have HLT:=Hq hlt
 have HBO:=Hq (show B≠w2.heap.size∧d≠w2.heap.size∧18≤w2.heap.size∧(∀ a∈A,w2.heap.size≠a.block)∧b0≤w2.heap.size∧(w2.heap.size≠w.heap.size∧w2.heap.size+1≠w.heap.size) by
  have h1:=HQ2.out.hb
  have h2:=HQ2.out.bB
  have h3:=HQ2.out.db
  have h4:=HQ2.out.b18
  have h5:=HQ2.out.b0b
  have h6:=HG2.out.1.lt
  exact ⟨by omega,by omega,by omega,fun a ha=>by have:=HQ2.out.bA a ha; omega,by omega,by omega⟩)
 have N:=Hq (simple93 B z (cap-z) s (w2.alloc (.cells #[.int .u64 0] 112)) (by omega) (by omega) HQ3.out.rt.bf HQ3.out.rt.gl.esc)
 have SC:=Hq (cstr94 w2.heap.size d ds B cap z aU aI (decide (0<bits .and .u64 vals 4)) 0 s vals l (w2.alloc (.cells #[.int .u64 0] 112)) (by omega) hlt hcap HQ3.out.rt.db HBO.out.2.1 ⟨HQ3.out.rt.bf,HQ3.out.rt.gl,HQ3.out.rt.bl,HBO.out.1,HBO.out.2.2.1⟩ HF3.out rfl HK.out.UI (HQ3.out.rt.eb _ HK.out.hU) (HQ3.out.rt.eb _ HK.out.hI) ⟨fun e=>HBO.out.2.2.2.1 _ HK.out.hU e.symm,fun e=>HBO.out.2.2.2.1 _ HK.out.hI e.symm⟩)
 have NM:=Hq (fun w=>name71 l HL.out w)
 obtain ⟨_,j7,j10,_,_⟩:=HQ3.out.rt.db.facts
 have ST:=Hq (fun w h1 h2=>str80 d l HL.out w h1 h2)
 have e0:=fun w=>eqN (.pointer (some aU)) w
 go_wp2_with fail
 refine N.out.mono ?_
 rintro e w' ⟨n,rfl,rfl,hn⟩
 have HN:=Hq hn
 clear hn
 rcases HN.out with rfl|⟨j,rfl,hj,hv⟩
 ·go_wp2_with fail
  refine SC.out.mono ?_
  rintro e w4 (⟨j,fl',hj,rfl,hjs,hf,hvb,hg⟩|⟨hj,n,v,fl',rfl,hn,hv,hf,hg⟩)
  ·have HT4:=Hq ((HQ3.out.tx HG3.out HBG.out).gbF hg HBO.out.2.1.symm HBO.out.2.2.2.2.2 HBO.out.2.2.2.2.1)
   have e4:w4.heap[d]? = w2.heap[d]? := (hg.block d (by have:=HQ3.out.rt.db.lt; exact this) (fun e=>HBO.out.2.1 (Option.some.inj e))).trans (heap_alloc_old w2 _ HQ2.out.rt.db.lt)
   have n1:w4.cell? ⟨d,1,none⟩=some (.int .u64 l):=(World.cell?_of_block (w:=w2) (a:=⟨d,1,none⟩) e4).trans m1
   have n10:w4.cell? ⟨d,10,none⟩=some (.int .i64 0):=(World.cell?_of_block (w:=w2) (a:=⟨d,10,none⟩) e4).trans m10
   have n1f:w4.frozen? ⟨d,1,none⟩=false:=by unfold World.frozen?; simp only [e4,HQ2.out.rt.db.blk]; simp
   have ST1:=Hq (ST.out w4 n1 n1f)
   have NM1:=Hq (NM.out w4)
   obtain ⟨p4,hp4⟩:∃ p4,z+(j+1)=p4:=⟨_,rfl⟩
   rw [hp4] at hjs ⊢
   have y1:(p4:Int)-(z:Int)=((j+1:Nat):Int):=by omega
   have y2:(p4:Int)-((j+1:Nat):Int)=(z:Int):=by omega
   have y3:(0:Int)≤(p4:Int):=Int.natCast_nonneg _
   generalize ((j+1:Nat):Int)=k4 at y1 y2
   clear hg hf hvb hj hp4 e4 SC N ST NM HN
   go_wp2_with fail
   refine NM1.out.mono ?_
   rintro e w' ⟨rfl,rfl⟩
   go_wp2_with fail
   refine ST1.out.mono ?_
   rintro e w5 ⟨rfl,hs5⟩
   have HT5:=Hq (show TX b0 d w.heap.size w0 w5 by rw [hs5]; exact HT4.out.set 1 _ (.inl (by decide)))
   obtain ⟨x8,x9,_,_,q8,q9,q10,_,_,qf8,qf9,_,_⟩:=HT5.out.facts
   have HT6:=Hq ((HT5.out.set 8 (.int .i64 z) (.inr (.inl ⟨_,rfl,.inl rfl⟩))).set 9 (.int .i64 p4) (.inr (.inl ⟨_,rfl,.inr rfl⟩)))
   obtain ⟨W6,HW6⟩:∃ W6,Hid ((w5.setCell ⟨d,8,none⟩ (.int .i64 z)).setCell ⟨d,9,none⟩ (.int .i64 p4)=W6):=⟨_,Hq rfl⟩
   have r8:W6.cell? ⟨d,8,none⟩=some (.int .i64 z):=by
    obtain ⟨dd,hdd,hz24⟩:=HT5.out.tw.db
    rw [← HW6.out,cell_of_row _ _ _ _ _ (0,0) (heap_set_cells (heap_set_cells hdd)),Array.getElem?_setIfInBounds_ne (by decide)]
    simp [hz24]
   have HT7:=Hq (show TX b0 d w.heap.size w0 W6 by rw [← HW6.out]; exact HT6.out)
   obtain ⟨_,_,_,_,_,_,r10,_⟩:=HT7.out.facts
   obtain ⟨g0,g1,g2,gf0,gf1,gf2⟩:=HT7.out.gb.facts
   have OF:=Hq (fun w h1 h2=>off95 d z (by omega) (by omega) w h1 h2)
   have HTD:=Hq (fun (n:Nat) (w7:World) (h:w7=W6.drew.drewN n)=>(show TX b0 d w.heap.size w0 w7 by rw [h]; exact (HT7.out.gb0 (gb_drewN (World.grownBy.refl _ _) 1)).gb0 (gb_drewN (World.grownBy.refl _ _) n)))
   clear hs5 HT4 HT5 HT6 ST1
   go_wp2_with fail
   rw [HW6.out]
   go_region_with (first|(go_at_call 95; refine (OF.out _ (by simpa using r8) (by simpa using r10)).mono ?_; rintro e w7 ⟨rfl,n7,hw7⟩; have HT8:=Hq (HTD.out n7 w7 hw7); obtain ⟨v0,v1,v2,vf0,vf1,vf2⟩:=HT8.out.gb.facts; clear hw7))
   go_wp2_with fail
   first|exact tok_fin HT8.out.tw rfl rfl rfl (.inl rfl)|exact tok_finD HT8.out.tw rfl rfl rfl (.inl rfl)
  ·have HR4:=Hq (HQ3.out.rt.gbn hg ⟨HBO.out.2.1.symm,HBO.out.1.symm,HBO.out.2.2.1,HBO.out.2.2.2.1⟩)
   have HT4:=Hq ((HQ3.out.tx HG3.out HBG.out).gbF hg HBO.out.2.1.symm HBO.out.2.2.2.2.2 HBO.out.2.2.2.2.1)
   have n10:=HR4.out.db.facts.2.2.1
   have WR:=Hq (wrap_str HK.out HR4.out n hn 1 v hv)
   have hvf:∃ t y,v=.iface t y:=by rcases hv with rfl|rfl|⟨b,rfl⟩<;>exact ⟨_,_,rfl⟩
   obtain ⟨vt,vy,rfl⟩:=hvf
   have n0:(0:Int)≤(n:Int):=Int.natCast_nonneg _
   have HNN:=Hq hn
   have n1:(n:Int)≤4096:=by omega
   clear hg hf hv hj SC N ST NM HN hn
   go_wp2_with fail
   refine WR.out.mono ?_
   rintro e w5 ⟨b5,rfl,hg5⟩
   have HT5:=Hq (HT4.out.gb0 hg5)
   obtain ⟨g0,g1,g2,gf0,gf1,gf2⟩:=HT5.out.gb.facts
   clear hg5 WR
   go_wp2_with fail
   exact tok_fin HT5.out.tw rfl rfl rfl (.inr ⟨_,rfl⟩)
 ·have R:=Hq (quotedO_fit (hj true))
  have hjq:z+(j+1)≤s.size:=by have:=R.out; rw [List.length_drop,bytes_len] at this; omega
  have jz:((((j+1:Nat):Int))==0)=false:=by simp; omega
  have HT4:=Hq (HQ3.out.tx HG3.out HBG.out)
  obtain ⟨_,j1,_,_,_⟩:=HQ3.out.rt.top.facts HQ3.out.rt.db.blk
  have n1f:(w2.alloc (.cells #[.int .u64 0] 112)).frozen? ⟨d,1,none⟩=false:=by unfold World.frozen?; simp only [HQ3.out.rt.db.blk]; simp
  have ST1:=Hq (ST.out _ j1 n1f)
  have NM1:=Hq (NM.out (w2.alloc (.cells #[.int .u64 0] 112)))
  obtain ⟨p4,hp4⟩:∃ p4,z+(j+1)=p4:=⟨_,rfl⟩
  have y0:(z:Int)+((j+1:Nat):Int)=(p4:Int):=by omega
  have y2:(p4:Int)-((j+1:Nat):Int)=(z:Int):=by omega
  have y3:(0:Int)≤(p4:Int):=Int.natCast_nonneg _
  have y4:(0:Int)≤((j+1:Nat):Int):=Int.natCast_nonneg _
  have y5:(p4:Int)≤4096:=by omega
  generalize ((j+1:Nat):Int)=k4 at y0 y2 y4 jz ⊢
  clear hj hv hp4 hjq SC N ST NM HN
  go_wp2_with fail
  refine NM1.out.mono ?_
  rintro e w' ⟨rfl,rfl⟩
  go_wp2_with fail
  refine ST1.out.mono ?_
  rintro e w5 ⟨rfl,hs5⟩
  have HT5:=Hq (show TX b0 d w.heap.size w0 w5 by rw [hs5]; exact HT4.out.set 1 _ (.inl (by decide)))
  obtain ⟨x8,x9,_,_,q8,q9,q10,_,_,qf8,qf9,_,_⟩:=HT5.out.facts
  have HT6:=Hq ((HT5.out.set 8 (.int .i64 z) (.inr (.inl ⟨_,rfl,.inl rfl⟩))).set 9 (.int .i64 p4) (.inr (.inl ⟨_,rfl,.inr rfl⟩)))
  obtain ⟨W6,HW6⟩:∃ W6,Hid ((w5.setCell ⟨d,8,none⟩ (.int .i64 z)).setCell ⟨d,9,none⟩ (.int .i64 p4)=W6):=⟨_,Hq rfl⟩
  have r8:W6.cell? ⟨d,8,none⟩=some (.int .i64 z):=by
   obtain ⟨dd,hdd,hz24⟩:=HT5.out.tw.db
   rw [← HW6.out,cell_of_row _ _ _ _ _ (0,0) (heap_set_cells (heap_set_cells hdd)),Array.getElem?_setIfInBounds_ne (by decide)]
   simp [hz24]
  have HT7:=Hq (show TX b0 d w.heap.size w0 W6 by rw [← HW6.out]; exact HT6.out)
  obtain ⟨_,_,_,_,_,_,r10,_⟩:=HT7.out.facts
  obtain ⟨g0,g1,g2,gf0,gf1,gf2⟩:=HT7.out.gb.facts
  have OF:=Hq (fun w h1 h2=>off95 d z (by omega) (by omega) w h1 h2)
  have HTD:=Hq (fun (n:Nat) (w7:World) (h:w7=W6.drew.drewN n)=>(show TX b0 d w.heap.size w0 w7 by rw [h]; exact (HT7.out.gb0 (gb_drewN (World.grownBy.refl _ _) 1)).gb0 (gb_drewN (World.grownBy.refl _ _) n)))
  clear hs5 HT4 HT5 HT6 ST1
  go_wp2_with fail
  rw [HW6.out]
  go_region_with (first|(go_at_call 95; refine (OF.out _ (by simpa using r8) (by simpa using r10)).mono ?_; rintro e w7 ⟨rfl,n7,hw7⟩; have HT8:=Hq (HTD.out n7 w7 hw7); obtain ⟨v0,v1,v2,vf0,vf1,vf2⟩:=HT8.out.gb.facts; clear hw7))
  go_wp2_with fail
  first|exact tok_fin HT8.out.tw rfl rfl rfl (.inl rfl)|exact tok_finD HT8.out.tw rfl rfl rfl (.inl rfl)
end Go.Proofs.YtknaalohaagcdaaGreatDoor.Own
