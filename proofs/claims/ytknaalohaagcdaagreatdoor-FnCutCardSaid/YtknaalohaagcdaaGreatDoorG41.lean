import Derived.Test.YtknaalohaagcdaaGreatDoorG01
import Derived.Test.YtknaalohaagcdaaGreatDoorG40
set_option maxHeartbeats 400000000
set_option maxRecDepth 100000
namespace Go.Proofs.YtknaalohaagcdaaGreatDoor.Own
open Go.RowKit JG
def DX(d:Nat)(W:World):Prop:=∃ ds x y a b,W.heap[d]? = some (.cells ds 109 (0,0))∧ds.size=24∧ds[8]? = some (.int .i64 x)∧ds[9]? = some (.int .i64 y)∧ds[10]? = some (.int .i64 0)∧ds[13]? = some (.int .u64 a)∧ds[14]? = some (.int .u64 b)
structure TX(b0 d g:Nat)(w0 W:World):Prop where
 kp:Kp b0 w0 W
 dx:DX d W
 gb:GB g W
 b0d:b0≤d
 b0g:b0≤g
 dg:d≠g∧d+1≠g
 b0w:b0≤W.heap.size
section
variable {b0 d g:Nat} {w0 W W':World}
theorem TX.tw(h:TX b0 d g w0 W):TW b0 d g w0 W:=by
 obtain ⟨ds,x,y,a,b,h1,h2,_⟩:=h.dx
 exact ⟨h.kp,⟨ds,h1,h2⟩,h.gb,h.b0d,h.b0g,h.dg⟩
theorem TX.gb0(h:TX b0 d g w0 W)(hg:W.grownBy W' none):TX b0 d g w0 W':=by
 obtain ⟨ds,x,y,a,b,h1,h2⟩:=h.dx
 exact ⟨h.kp.trans (Kp.gb0 hg h.b0w),⟨ds,x,y,a,b,(hg.block d (Array.getElem?_eq_some_iff.1 h1).1 (by simp)).trans h1,h2⟩,h.gb.gb0 hg,h.b0d,h.b0g,h.dg,Nat.le_trans h.b0w hg.size⟩
theorem TX.set(h:TX b0 d g w0 W)(i:Nat)(v:Value)(hi:i<8∨(∃ x,v=.int .i64 x∧(i=8∨i=9))∨∃ x,v=.int .u64 x∧(i=13∨i=14)):TX b0 d g w0 (W.setCell ⟨d,i,none⟩ v):=by
 obtain ⟨ds,x,y,a,b,h1,h2,h3,h4,h5,h6,h7⟩:=h.dx
 refine ⟨h.kp.trans (Kp.set h.b0d),?_,h.gb.keep (fun q _ hq=>heap_set_other (fun e=>by have:=h.dg; omega)),h.b0d,h.b0g,h.dg,by rw [set_size]; exact h.b0w⟩
 have k:∀ j,j≠i→(ds.setIfInBounds i v)[j]? = ds[j]? := fun j hj=>Array.getElem?_setIfInBounds_ne (fun e=>hj e.symm)
 have s:i<24→(ds.setIfInBounds i v)[i]? = some v:=fun hi=>by simp [h2,hi]
 rcases hi with hi|⟨z,rfl,rfl|rfl⟩|⟨z,rfl,rfl|rfl⟩
 ·exact ⟨_,x,y,a,b,heap_set_cells h1,by simp [h2],by rw [k 8 (by omega)]; exact h3,by rw [k 9 (by omega)]; exact h4,by rw [k 10 (by omega)]; exact h5,by rw [k 13 (by omega)]; exact h6,by rw [k 14 (by omega)]; exact h7⟩
 ·exact ⟨_,z,y,a,b,heap_set_cells h1,by simp [h2],s (by decide),by rw [k 9 (by decide)]; exact h4,by rw [k 10 (by decide)]; exact h5,by rw [k 13 (by decide)]; exact h6,by rw [k 14 (by decide)]; exact h7⟩
 ·exact ⟨_,x,z,a,b,heap_set_cells h1,by simp [h2],by rw [k 8 (by decide)]; exact h3,s (by decide),by rw [k 10 (by decide)]; exact h5,by rw [k 13 (by decide)]; exact h6,by rw [k 14 (by decide)]; exact h7⟩
 ·exact ⟨_,x,y,z,b,heap_set_cells h1,by simp [h2],by rw [k 8 (by decide)]; exact h3,by rw [k 9 (by decide)]; exact h4,by rw [k 10 (by decide)]; exact h5,s (by decide),by rw [k 14 (by decide)]; exact h7⟩
 ·exact ⟨_,x,y,a,z,heap_set_cells h1,by simp [h2],by rw [k 8 (by decide)]; exact h3,by rw [k 9 (by decide)]; exact h4,by rw [k 10 (by decide)]; exact h5,by rw [k 13 (by decide)]; exact h6,s (by decide)⟩
theorem TX.facts(h:TX b0 d g w0 W):∃ x y a b,W.cell? ⟨d,8,none⟩=some (.int .i64 x)∧W.cell? ⟨d,9,none⟩=some (.int .i64 y)∧W.cell? ⟨d,10,none⟩=some (.int .i64 0)∧W.cell? ⟨d,13,none⟩=some (.int .u64 a)∧W.cell? ⟨d,14,none⟩=some (.int .u64 b)∧
  W.frozen? ⟨d,8,none⟩=false∧W.frozen? ⟨d,9,none⟩=false∧W.frozen? ⟨d,13,none⟩=false∧W.frozen? ⟨d,14,none⟩=false:=by
 obtain ⟨ds,x,y,a,b,h1,h2,h3,h4,h5,h6,h7⟩:=h.dx
 have fz:∀ o,W.frozen? ⟨d,o,none⟩=false:=fun o=>by unfold World.frozen?; simp only [h1]; simp
 exact ⟨x,y,a,b,by rw [cell_of_row _ _ _ _ _ (0,0) h1]; exact h3,by rw [cell_of_row _ _ _ _ _ (0,0) h1]; exact h4,by rw [cell_of_row _ _ _ _ _ (0,0) h1]; exact h5,by rw [cell_of_row _ _ _ _ _ (0,0) h1]; exact h6,by rw [cell_of_row _ _ _ _ _ (0,0) h1]; exact h7,fz 8,fz 9,fz 13,fz 14⟩
end
theorem RQ.tx{A:List Addr}{b0 base d B cap g:Nat}{s:ByteArray}{vals l:Int}{aU aI aE aM:Addr}{p:Nat}{ds:Array Value}{ao:Option Addr}{c:Nat}{nsv:Value}{lab:Nat→Nat}{w w':World}(h:RQ A b0 base d B cap s vals l aU aI aE aM p ds ao c nsv lab w w')(hg:GB g w')(hb:base<g):TX b0 d g w w':=by
 obtain ⟨x,hx⟩:=h.c8
 obtain ⟨a,ha⟩:=h.rt.db.dc.pres
 exact ⟨h.kp,⟨ds,x,p,a,vals,h.rt.db.blk,h.rt.db.dc.sz,hx,h.c9,h.rt.db.dc.base,ha,h.rt.db.dc.vals⟩,hg,h.b0d,Nat.le_trans h.b0b (Nat.le_of_lt hb),⟨fun e=>by have:=h.db; omega,fun e=>by have:=h.db; omega⟩,Nat.le_trans h.b0b h.hb⟩
theorem off95(d:Nat)(x:Int)(h0:0≤x)(h1:x≤4294967296)(w:World)(c8:w.cell? ⟨d,8,none⟩=some (.int .i64 x))(c10:w.cell? ⟨d,10,none⟩=some (.int .i64 0)):Calls Tryz.prog 95 #[.pointer (some ⟨d,5,none⟩)] w fun e w'=>e=.returned (.int .i64 x)∧∃ n,w'=w.drewN n:=by
 go_enter Tryz.func95,Tryz.ntmps95
 go_wp2_with fail
 go_quiet (fail)
 go_wp2_with fail
 go_ret
 exact ⟨rfl,_,rfl⟩
theorem rt_null_yes(A:List Addr)(b0 base d B cap:Nat)(s:ByteArray)(vals l:Int)(aU aI aE aM:Addr)(p0:Nat)(hp0:p0≤s.size)(ds:Array Value)(ao:Option Addr)(c:Nat)(nsv:Value)(lab:Nat→Nat)(w0 w:World)(K:KC A s cap vals aU aI aE aM)(h:RQ A b0 base d B cap s vals l aU aI aE aM p0 ds ao c nsv lab w0 w)(hbg:base<w.heap.size)(hzq:∃ q,q+1=w.heap.size∧BZ q w)(hzl':p0+ws ((bytes s).drop p0)<s.size)(x:Int)(hb:(s[p0+ws ((bytes s).drop p0)].toNat:Int)=x)(hx:¬ x=58∧¬ x=44)(hxk:normK x=110)(hw:wordAt [110,117,108,108] ((bytes s).drop (p0+ws ((bytes s).drop p0)))=some 4):
  Calls Tryz.prog 50 #[.pointer (some ⟨d,0,none⟩)] w (RtP b0 d w.heap.size NoEnd w0):=by
 have HQ:=Hq (h.gb0 (World.grownBy_alloc w (.cells #[.pointer none,.string ⟨#[]⟩,.int .u64 0] 70) none))
 have c5:(w.alloc (.cells #[.pointer none,.string ⟨#[]⟩,.int .u64 0] 70)).cell? ⟨d,5,none⟩=some (.int .i64 0):=by rw [cell_of_row _ _ _ _ _ (0,0) HQ.out.rt.db.blk]; exact HQ.out.c5
 have HG:=Hq (show GB w.heap.size (w.alloc (.cells #[.pointer none,.string ⟨#[]⟩,.int .u64 0] 70)) from ⟨heap_alloc_new w _,by obtain ⟨q,hq,hz⟩:=hzq; exact ⟨q,hq,(heap_alloc_old w _ hz.lt).trans hz⟩⟩)
 have IV:=Hq (inval60 d (w.alloc (.cells #[.pointer none,.string ⟨#[]⟩,.int .u64 0] 70)) HQ.out.rt.db.facts.2.2.2.1)
 have HK:=Hq K
 have hcap:=K.hcap
 have hs:=K.hs
 have HBG:=Hq hbg
 have HL:=Hq h.rt.l01
 obtain ⟨z',HZ⟩:∃ z,Hid (ws ((bytes s).drop p0)=z):=⟨_,Hq rfl⟩
 obtain ⟨z,hz⟩:∃ z,p0+z'=z:=⟨_,rfl⟩
 have hzs:z≤s.size:=by have:=ws_fit hp0; rw [HZ.out] at this; omega
 have xz:(p0:Int)+(z':Int)=(z:Int):=by omega
 have z0:(0:Int)≤(z:Int):=Int.natCast_nonneg _
 have p00:(0:Int)≤(p0:Int):=Int.natCast_nonneg _
 have HZP:=Hq hz
 have hzl:z<s.size:=by have h1:=HZ.out; omega
 have HBC:=Hq (show (s[z].toNat:Int)=x by have e:p0+ws ((bytes s).drop p0)=z:=by { rw [HZ.out]; exact hz }; simpa only [e] using hb)
 have x58:(x==58)=false:=by simpa using hx.1
 have x44:(x==44)=false:=by simpa using hx.2
 have HX0:=Hq (show 0≤x∧x≤255 by rw [← hb]; have:=s[p0+ws ((bytes s).drop p0)].toNat_lt; omega)
 have HXK:=Hq hxk
 have HW:=Hq (show wordAt [110,117,108,108] ((bytes s).drop z)=some 4 by have e:p0+ws ((bytes s).drop p0)=z:=by { rw [HZ.out]; exact hz }; rw [← e]; exact hw)
 clear hzl' hb hx hxk hw
 clear h K hz hbg hzq
 go_enter Tryz.func50,Tryz.ntmps50
 go_wp2_with fail
 refine IV.out.mono ?_
 rintro e w1 ⟨rfl,n1,hw1⟩
 have hgA:(w.alloc (.cells #[.pointer none,.string ⟨#[]⟩,.int .u64 0] 70)).grownBy w1 none:=by rw [hw1]; exact gb_drewN (World.grownBy.refl _ _) n1
 have HQ1:=Hq (HQ.out.gb0 hgA)
 have HG1:=Hq (HG.out.gb0 hgA)
 clear hw1 hgA IV c5 HQ HG
 obtain ⟨k0,k1,_,_,_⟩:=HQ1.out.rt.top.facts HQ1.out.rt.db.blk
 obtain ⟨_,k7,k10,_,_⟩:=HQ1.out.rt.db.facts
 have k9:w1.cell? ⟨d,9,none⟩=some (.int .i64 p0):=by rw [cell_of_row _ _ _ _ _ (0,0) HQ1.out.rt.db.blk]; exact HQ1.out.c9
 have hr:=rest_run (W:=w1) (B:=B) (cap:=cap) (q:=p0) (n:=s.size) hp0 hcap
 have W1:=wsC B p0 cap s w1 (by omega) hp0 hcap HQ1.out.rt.bf
 rw [HZ.out] at W1
 have W1:=Hq W1
 generalize rest B cap p0 s.size=u at hr W1
 have M:=Hq (fun b hb=>more62 d ds B cap z s vals l w1 HQ1.out.rt.db b hb)
 go_wp2_with fail
 refine W1.out.mono ?_
 rintro e w' ⟨rfl,rfl⟩
 go_wp2_with fail
 have hlt:=hzl
 have M1:=Hq (M.out false (by simp; omega))
 have cp:=HQ1.out.rt.bf z hlt
 rw [HBC.out] at cp
 have z1:(z:Int)<(s.size:Int):=by omega
 have t1:decide (s.size≤z)=false:=by simp; omega
 have t2:decide ((s.size:Int)≤(z:Int))=false:=by simp; omega
 clear M W1 hr
 refine M1.out.mono ?_
 rintro e w' ⟨rfl,rfl⟩
 have KD:=Hq (kind59 x 110 HX0.out.1 HX0.out.2 HXK.out w1 HQ1.out.rt.nk)
 have DL:=Hq (delim67 ao c l 110 HL.out w1)
 go_wp2_with fail
 refine KD.out.mono ?_
 rintro e w' ⟨rfl,rfl⟩
 go_wp2_with fail
 refine DL.out.mono ?_
 rintro e w2 ⟨rfl,hg2⟩
 have HQ2:=Hq (HQ1.out.gb0 hg2)
 have HG2:=Hq (HG1.out.gb0 hg2)
 clear hg2 DL KD HQ1 HG1 M1 k0 k1 k7 k9 k10 cp
 obtain ⟨m0,m1,_,_,_⟩:=HQ2.out.rt.top.facts HQ2.out.rt.db.blk
 obtain ⟨_,m7,m10,_,m14⟩:=HQ2.out.rt.db.facts
 have m1f:w2.frozen? ⟨d,1,none⟩=false:=by unfold World.frozen?; simp only [HQ2.out.rt.db.blk]; simp
 have hzc:z<cap:=by omega
 have N:=null86 B z (cap-z) s w2 (by omega) (by omega) (by omega) HQ2.out.rt.bf
 rw [HW.out] at N
 have N:=Hq N
 have L:=Hq (lit70 d l HL.out w2 m1 m1f)
 have HT2:=Hq (HQ2.out.tx HG2.out HBG.out)
 have HL0:=HL.out
 go_wp2_with fail
 refine N.out.mono ?_
 rintro e w' ⟨rfl,rfl⟩
 go_wp2_with fail
 refine L.out.mono ?_
 rintro e w3 ⟨rfl,hw3⟩
 have HT3:=Hq (show TX b0 d w.heap.size w0 w3 by rw [hw3]; exact HT2.out.set 1 _ (.inl (by decide)))
 obtain ⟨x8,x9,_,_,q8,q9,_,_,_,qf8,qf9,_,_⟩:=HT3.out.facts
 have TK:=Hq (fun w=>tok88 w)
 have HT4:=Hq (fun (p4:Int)=>(HT3.out.set 8 (.int .i64 p4) (.inr (.inl ⟨_,rfl,.inl rfl⟩))).set 9 (.int .i64 p4) (.inr (.inl ⟨_,rfl,.inr rfl⟩)))
 clear hw3 N L HT2
 go_wp2_with fail
 refine (TK.out _).mono ?_
 rintro e w4 ⟨tv,rfl,⟨ta,tb,tc,rfl⟩,hg4⟩
 have HT5:=Hq ((HT4.out _).gb0 hg4)
 obtain ⟨g0,g1,g2,gf0,gf1,gf2⟩:=HT5.out.gb.facts
 clear hg4 HT4 HT3
 go_wp2_with fail
 exact tok_fin HT5.out.tw rfl rfl rfl (.inl rfl)
theorem rt_null_no(A:List Addr)(b0 base d B cap:Nat)(s:ByteArray)(vals l:Int)(aU aI aE aM:Addr)(p0:Nat)(hp0:p0≤s.size)(ds:Array Value)(ao:Option Addr)(c:Nat)(nsv:Value)(lab:Nat→Nat)(w0 w:World)(K:KC A s cap vals aU aI aE aM)(h:RQ A b0 base d B cap s vals l aU aI aE aM p0 ds ao c nsv lab w0 w)(hbg:base<w.heap.size)(hzq:∃ q,q+1=w.heap.size∧BZ q w)(hzl':p0+ws ((bytes s).drop p0)<s.size)(x:Int)(hb:(s[p0+ws ((bytes s).drop p0)].toNat:Int)=x)(hx:¬ x=58∧¬ x=44)(hxk:normK x=110)(hw:wordAt [110,117,108,108] ((bytes s).drop (p0+ws ((bytes s).drop p0)))=none):
  Calls Tryz.prog 50 #[.pointer (some ⟨d,0,none⟩)] w (RtP b0 d w.heap.size NoEnd w0):=by
 have HQ:=Hq (h.gb0 (World.grownBy_alloc w (.cells #[.pointer none,.string ⟨#[]⟩,.int .u64 0] 70) none))
 have c5:(w.alloc (.cells #[.pointer none,.string ⟨#[]⟩,.int .u64 0] 70)).cell? ⟨d,5,none⟩=some (.int .i64 0):=by rw [cell_of_row _ _ _ _ _ (0,0) HQ.out.rt.db.blk]; exact HQ.out.c5
 have HG:=Hq (show GB w.heap.size (w.alloc (.cells #[.pointer none,.string ⟨#[]⟩,.int .u64 0] 70)) from ⟨heap_alloc_new w _,by obtain ⟨q,hq,hz⟩:=hzq; exact ⟨q,hq,(heap_alloc_old w _ hz.lt).trans hz⟩⟩)
 have IV:=Hq (inval60 d (w.alloc (.cells #[.pointer none,.string ⟨#[]⟩,.int .u64 0] 70)) HQ.out.rt.db.facts.2.2.2.1)
 have HK:=Hq K
 have hcap:=K.hcap
 have hs:=K.hs
 have HBG:=Hq hbg
 have HL:=Hq h.rt.l01
 obtain ⟨z',HZ⟩:∃ z,Hid (ws ((bytes s).drop p0)=z):=⟨_,Hq rfl⟩
 obtain ⟨z,hz⟩:∃ z,p0+z'=z:=⟨_,rfl⟩
 have hzs:z≤s.size:=by have:=ws_fit hp0; rw [HZ.out] at this; omega
 have xz:(p0:Int)+(z':Int)=(z:Int):=by omega
 have z0:(0:Int)≤(z:Int):=Int.natCast_nonneg _
 have p00:(0:Int)≤(p0:Int):=Int.natCast_nonneg _
 have HZP:=Hq hz
 have hzl:z<s.size:=by have h1:=HZ.out; omega
 have HBC:=Hq (show (s[z].toNat:Int)=x by have e:p0+ws ((bytes s).drop p0)=z:=by { rw [HZ.out]; exact hz }; simpa only [e] using hb)
 have x58:(x==58)=false:=by simpa using hx.1
 have x44:(x==44)=false:=by simpa using hx.2
 have HX0:=Hq (show 0≤x∧x≤255 by rw [← hb]; have:=s[p0+ws ((bytes s).drop p0)].toNat_lt; omega)
 have HXK:=Hq hxk
 have HW:=Hq (show wordAt [110,117,108,108] ((bytes s).drop z)=none by have e:p0+ws ((bytes s).drop p0)=z:=by { rw [HZ.out]; exact hz }; rw [← e]; exact hw)
 clear hzl' hb hx hxk hw
 clear h K hz hbg hzq
 go_enter Tryz.func50,Tryz.ntmps50
 go_wp2_with fail
 refine IV.out.mono ?_
 rintro e w1 ⟨rfl,n1,hw1⟩
 have hgA:(w.alloc (.cells #[.pointer none,.string ⟨#[]⟩,.int .u64 0] 70)).grownBy w1 none:=by rw [hw1]; exact gb_drewN (World.grownBy.refl _ _) n1
 have HQ1:=Hq (HQ.out.gb0 hgA)
 have HG1:=Hq (HG.out.gb0 hgA)
 clear hw1 hgA IV c5 HQ HG
 obtain ⟨k0,k1,_,_,_⟩:=HQ1.out.rt.top.facts HQ1.out.rt.db.blk
 obtain ⟨_,k7,k10,_,_⟩:=HQ1.out.rt.db.facts
 have k9:w1.cell? ⟨d,9,none⟩=some (.int .i64 p0):=by rw [cell_of_row _ _ _ _ _ (0,0) HQ1.out.rt.db.blk]; exact HQ1.out.c9
 have hr:=rest_run (W:=w1) (B:=B) (cap:=cap) (q:=p0) (n:=s.size) hp0 hcap
 have W1:=wsC B p0 cap s w1 (by omega) hp0 hcap HQ1.out.rt.bf
 rw [HZ.out] at W1
 have W1:=Hq W1
 generalize rest B cap p0 s.size=u at hr W1
 have M:=Hq (fun b hb=>more62 d ds B cap z s vals l w1 HQ1.out.rt.db b hb)
 go_wp2_with fail
 refine W1.out.mono ?_
 rintro e w' ⟨rfl,rfl⟩
 go_wp2_with fail
 have hlt:=hzl
 have M1:=Hq (M.out false (by simp; omega))
 have cp:=HQ1.out.rt.bf z hlt
 rw [HBC.out] at cp
 have z1:(z:Int)<(s.size:Int):=by omega
 have t1:decide (s.size≤z)=false:=by simp; omega
 have t2:decide ((s.size:Int)≤(z:Int))=false:=by simp; omega
 clear M W1 hr
 refine M1.out.mono ?_
 rintro e w' ⟨rfl,rfl⟩
 have KD:=Hq (kind59 x 110 HX0.out.1 HX0.out.2 HXK.out w1 HQ1.out.rt.nk)
 have DL:=Hq (delim67 ao c l 110 HL.out w1)
 go_wp2_with fail
 refine KD.out.mono ?_
 rintro e w' ⟨rfl,rfl⟩
 go_wp2_with fail
 refine DL.out.mono ?_
 rintro e w2 ⟨rfl,hg2⟩
 have HQ2:=Hq (HQ1.out.gb0 hg2)
 have HG2:=Hq (HG1.out.gb0 hg2)
 clear hg2 DL KD HQ1 HG1 M1 k0 k1 k7 k9 k10 cp
 obtain ⟨m0,m1,_,_,_⟩:=HQ2.out.rt.top.facts HQ2.out.rt.db.blk
 obtain ⟨_,m7,m10,_,m14⟩:=HQ2.out.rt.db.facts
 have m1f:w2.frozen? ⟨d,1,none⟩=false:=by unfold World.frozen?; simp only [HQ2.out.rt.db.blk]; simp
 have hzc:z<cap:=by omega
 have N:=null86 B z (cap-z) s w2 (by omega) (by omega) (by omega) HQ2.out.rt.bf
 rw [HW.out] at N
 have N:=Hq N
 have L:=Hq (lit87 d ds B cap z aU s ⟨#[110,117,108,108]⟩ vals l _ w2 (by omega) (by decide) hlt hcap HQ2.out.rt.db HQ2.out.rt.bf HQ2.out.rt.gl HW.out)
 go_wp2_with fail
 refine N.out.mono ?_
 rintro e w' ⟨rfl,rfl⟩
 go_wp2_with fail
 refine L.out.mono ?_
 rintro e w3 ⟨n,v,rfl,hn,hv,hg3⟩
 have HQ3:=Hq (HQ2.out.gb0 hg3)
 have HG3:=Hq (HG2.out.gb0 hg3)
 have WR:=Hq (wrap_str HK.out HQ3.out.rt n hn 1 v (hv.imp id .inr))
 have hvf:∃ t y,v=.iface t y:=by rcases hv with rfl|⟨b,rfl⟩<;>exact ⟨_,_,rfl⟩
 obtain ⟨vt,vy,rfl⟩:=hvf
 clear hg3 hv N L
 go_wp2_with fail
 refine WR.out.mono ?_
 rintro e w4 ⟨b4,rfl,hg4⟩
 have HQ4:=Hq (HQ3.out.gb0 hg4)
 have HG4:=Hq (HG3.out.gb0 hg4)
 obtain ⟨g0,g1,g2,gf0,gf1,gf2⟩:=HG4.out.facts
 clear hg4 WR
 go_wp2_with fail
 exact tok_fin (HQ4.out.tw HG4.out HBG.out) rfl rfl rfl (.inr ⟨_,rfl⟩)
theorem rt_false_yes(A:List Addr)(b0 base d B cap:Nat)(s:ByteArray)(vals l:Int)(aU aI aE aM:Addr)(p0:Nat)(hp0:p0≤s.size)(ds:Array Value)(ao:Option Addr)(c:Nat)(nsv:Value)(lab:Nat→Nat)(w0 w:World)(K:KC A s cap vals aU aI aE aM)(h:RQ A b0 base d B cap s vals l aU aI aE aM p0 ds ao c nsv lab w0 w)(hbg:base<w.heap.size)(hzq:∃ q,q+1=w.heap.size∧BZ q w)(hzl':p0+ws ((bytes s).drop p0)<s.size)(x:Int)(hb:(s[p0+ws ((bytes s).drop p0)].toNat:Int)=x)(hx:¬ x=58∧¬ x=44)(hxk:normK x=102)(hw:wordAt [102,97,108,115,101] ((bytes s).drop (p0+ws ((bytes s).drop p0)))=some 5):
  Calls Tryz.prog 50 #[.pointer (some ⟨d,0,none⟩)] w (RtP b0 d w.heap.size NoEnd w0):=by
 have HQ:=Hq (h.gb0 (World.grownBy_alloc w (.cells #[.pointer none,.string ⟨#[]⟩,.int .u64 0] 70) none))
 have c5:(w.alloc (.cells #[.pointer none,.string ⟨#[]⟩,.int .u64 0] 70)).cell? ⟨d,5,none⟩=some (.int .i64 0):=by rw [cell_of_row _ _ _ _ _ (0,0) HQ.out.rt.db.blk]; exact HQ.out.c5
 have HG:=Hq (show GB w.heap.size (w.alloc (.cells #[.pointer none,.string ⟨#[]⟩,.int .u64 0] 70)) from ⟨heap_alloc_new w _,by obtain ⟨q,hq,hz⟩:=hzq; exact ⟨q,hq,(heap_alloc_old w _ hz.lt).trans hz⟩⟩)
 have IV:=Hq (inval60 d (w.alloc (.cells #[.pointer none,.string ⟨#[]⟩,.int .u64 0] 70)) HQ.out.rt.db.facts.2.2.2.1)
 have HK:=Hq K
 have hcap:=K.hcap
 have hs:=K.hs
 have HBG:=Hq hbg
 have HL:=Hq h.rt.l01
 obtain ⟨z',HZ⟩:∃ z,Hid (ws ((bytes s).drop p0)=z):=⟨_,Hq rfl⟩
 obtain ⟨z,hz⟩:∃ z,p0+z'=z:=⟨_,rfl⟩
 have hzs:z≤s.size:=by have:=ws_fit hp0; rw [HZ.out] at this; omega
 have xz:(p0:Int)+(z':Int)=(z:Int):=by omega
 have z0:(0:Int)≤(z:Int):=Int.natCast_nonneg _
 have p00:(0:Int)≤(p0:Int):=Int.natCast_nonneg _
 have HZP:=Hq hz
 have hzl:z<s.size:=by have h1:=HZ.out; omega
 have HBC:=Hq (show (s[z].toNat:Int)=x by have e:p0+ws ((bytes s).drop p0)=z:=by { rw [HZ.out]; exact hz }; simpa only [e] using hb)
 have x58:(x==58)=false:=by simpa using hx.1
 have x44:(x==44)=false:=by simpa using hx.2
 have HX0:=Hq (show 0≤x∧x≤255 by rw [← hb]; have:=s[p0+ws ((bytes s).drop p0)].toNat_lt; omega)
 have HXK:=Hq hxk
 have HW:=Hq (show wordAt [102,97,108,115,101] ((bytes s).drop z)=some 5 by have e:p0+ws ((bytes s).drop p0)=z:=by { rw [HZ.out]; exact hz }; rw [← e]; exact hw)
 clear hzl' hb hx hxk hw
 clear h K hz hbg hzq
 go_enter Tryz.func50,Tryz.ntmps50
 go_wp2_with fail
 refine IV.out.mono ?_
 rintro e w1 ⟨rfl,n1,hw1⟩
 have hgA:(w.alloc (.cells #[.pointer none,.string ⟨#[]⟩,.int .u64 0] 70)).grownBy w1 none:=by rw [hw1]; exact gb_drewN (World.grownBy.refl _ _) n1
 have HQ1:=Hq (HQ.out.gb0 hgA)
 have HG1:=Hq (HG.out.gb0 hgA)
 clear hw1 hgA IV c5 HQ HG
 obtain ⟨k0,k1,_,_,_⟩:=HQ1.out.rt.top.facts HQ1.out.rt.db.blk
 obtain ⟨_,k7,k10,_,_⟩:=HQ1.out.rt.db.facts
 have k9:w1.cell? ⟨d,9,none⟩=some (.int .i64 p0):=by rw [cell_of_row _ _ _ _ _ (0,0) HQ1.out.rt.db.blk]; exact HQ1.out.c9
 have hr:=rest_run (W:=w1) (B:=B) (cap:=cap) (q:=p0) (n:=s.size) hp0 hcap
 have W1:=wsC B p0 cap s w1 (by omega) hp0 hcap HQ1.out.rt.bf
 rw [HZ.out] at W1
 have W1:=Hq W1
 generalize rest B cap p0 s.size=u at hr W1
 have M:=Hq (fun b hb=>more62 d ds B cap z s vals l w1 HQ1.out.rt.db b hb)
 go_wp2_with fail
 refine W1.out.mono ?_
 rintro e w' ⟨rfl,rfl⟩
 go_wp2_with fail
 have hlt:=hzl
 have M1:=Hq (M.out false (by simp; omega))
 have cp:=HQ1.out.rt.bf z hlt
 rw [HBC.out] at cp
 have z1:(z:Int)<(s.size:Int):=by omega
 have t1:decide (s.size≤z)=false:=by simp; omega
 have t2:decide ((s.size:Int)≤(z:Int))=false:=by simp; omega
 clear M W1 hr
 refine M1.out.mono ?_
 rintro e w' ⟨rfl,rfl⟩
 have KD:=Hq (kind59 x 102 HX0.out.1 HX0.out.2 HXK.out w1 HQ1.out.rt.nk)
 have DL:=Hq (delim67 ao c l 102 HL.out w1)
 go_wp2_with fail
 refine KD.out.mono ?_
 rintro e w' ⟨rfl,rfl⟩
 go_wp2_with fail
 refine DL.out.mono ?_
 rintro e w2 ⟨rfl,hg2⟩
 have HQ2:=Hq (HQ1.out.gb0 hg2)
 have HG2:=Hq (HG1.out.gb0 hg2)
 clear hg2 DL KD HQ1 HG1 M1 k0 k1 k7 k9 k10 cp
 obtain ⟨m0,m1,_,_,_⟩:=HQ2.out.rt.top.facts HQ2.out.rt.db.blk
 obtain ⟨_,m7,m10,_,m14⟩:=HQ2.out.rt.db.facts
 have m1f:w2.frozen? ⟨d,1,none⟩=false:=by unfold World.frozen?; simp only [HQ2.out.rt.db.blk]; simp
 have hzc:z<cap:=by omega
 have N:=false89 B z (cap-z) s w2 (by omega) (by omega) (by omega) HQ2.out.rt.bf
 rw [HW.out] at N
 have N:=Hq N
 have L:=Hq (lit70 d l HL.out w2 m1 m1f)
 have HT2:=Hq (HQ2.out.tx HG2.out HBG.out)
 have HL0:=HL.out
 go_wp2_with fail
 refine N.out.mono ?_
 rintro e w' ⟨rfl,rfl⟩
 go_wp2_with fail
 refine L.out.mono ?_
 rintro e w3 ⟨rfl,hw3⟩
 have HT3:=Hq (show TX b0 d w.heap.size w0 w3 by rw [hw3]; exact HT2.out.set 1 _ (.inl (by decide)))
 obtain ⟨x8,x9,_,_,q8,q9,_,_,_,qf8,qf9,_,_⟩:=HT3.out.facts
 have TK:=Hq (fun w=>tok90 w)
 have HT4:=Hq (fun (p4:Int)=>(HT3.out.set 8 (.int .i64 p4) (.inr (.inl ⟨_,rfl,.inl rfl⟩))).set 9 (.int .i64 p4) (.inr (.inl ⟨_,rfl,.inr rfl⟩)))
 clear hw3 N L HT2
 go_wp2_with fail
 refine (TK.out _).mono ?_
 rintro e w4 ⟨tv,rfl,⟨ta,tb,tc,rfl⟩,hg4⟩
 have HT5:=Hq ((HT4.out _).gb0 hg4)
 obtain ⟨g0,g1,g2,gf0,gf1,gf2⟩:=HT5.out.gb.facts
 clear hg4 HT4 HT3
 go_wp2_with fail
 exact tok_fin HT5.out.tw rfl rfl rfl (.inl rfl)
theorem rt_false_no(A:List Addr)(b0 base d B cap:Nat)(s:ByteArray)(vals l:Int)(aU aI aE aM:Addr)(p0:Nat)(hp0:p0≤s.size)(ds:Array Value)(ao:Option Addr)(c:Nat)(nsv:Value)(lab:Nat→Nat)(w0 w:World)(K:KC A s cap vals aU aI aE aM)(h:RQ A b0 base d B cap s vals l aU aI aE aM p0 ds ao c nsv lab w0 w)(hbg:base<w.heap.size)(hzq:∃ q,q+1=w.heap.size∧BZ q w)(hzl':p0+ws ((bytes s).drop p0)<s.size)(x:Int)(hb:(s[p0+ws ((bytes s).drop p0)].toNat:Int)=x)(hx:¬ x=58∧¬ x=44)(hxk:normK x=102)(hw:wordAt [102,97,108,115,101] ((bytes s).drop (p0+ws ((bytes s).drop p0)))=none):
  Calls Tryz.prog 50 #[.pointer (some ⟨d,0,none⟩)] w (RtP b0 d w.heap.size NoEnd w0):=by
 have HQ:=Hq (h.gb0 (World.grownBy_alloc w (.cells #[.pointer none,.string ⟨#[]⟩,.int .u64 0] 70) none))
 have c5:(w.alloc (.cells #[.pointer none,.string ⟨#[]⟩,.int .u64 0] 70)).cell? ⟨d,5,none⟩=some (.int .i64 0):=by rw [cell_of_row _ _ _ _ _ (0,0) HQ.out.rt.db.blk]; exact HQ.out.c5
 have HG:=Hq (show GB w.heap.size (w.alloc (.cells #[.pointer none,.string ⟨#[]⟩,.int .u64 0] 70)) from ⟨heap_alloc_new w _,by obtain ⟨q,hq,hz⟩:=hzq; exact ⟨q,hq,(heap_alloc_old w _ hz.lt).trans hz⟩⟩)
 have IV:=Hq (inval60 d (w.alloc (.cells #[.pointer none,.string ⟨#[]⟩,.int .u64 0] 70)) HQ.out.rt.db.facts.2.2.2.1)
 have HK:=Hq K
 have hcap:=K.hcap
 have hs:=K.hs
 have HBG:=Hq hbg
 have HL:=Hq h.rt.l01
 obtain ⟨z',HZ⟩:∃ z,Hid (ws ((bytes s).drop p0)=z):=⟨_,Hq rfl⟩
 obtain ⟨z,hz⟩:∃ z,p0+z'=z:=⟨_,rfl⟩
 have hzs:z≤s.size:=by have:=ws_fit hp0; rw [HZ.out] at this; omega
 have xz:(p0:Int)+(z':Int)=(z:Int):=by omega
 have z0:(0:Int)≤(z:Int):=Int.natCast_nonneg _
 have p00:(0:Int)≤(p0:Int):=Int.natCast_nonneg _
 have HZP:=Hq hz
 have hzl:z<s.size:=by have h1:=HZ.out; omega
 have HBC:=Hq (show (s[z].toNat:Int)=x by have e:p0+ws ((bytes s).drop p0)=z:=by { rw [HZ.out]; exact hz }; simpa only [e] using hb)
 have x58:(x==58)=false:=by simpa using hx.1
 have x44:(x==44)=false:=by simpa using hx.2
 have HX0:=Hq (show 0≤x∧x≤255 by rw [← hb]; have:=s[p0+ws ((bytes s).drop p0)].toNat_lt; omega)
 have HXK:=Hq hxk
 have HW:=Hq (show wordAt [102,97,108,115,101] ((bytes s).drop z)=none by have e:p0+ws ((bytes s).drop p0)=z:=by { rw [HZ.out]; exact hz }; rw [← e]; exact hw)
 clear hzl' hb hx hxk hw
 clear h K hz hbg hzq
 go_enter Tryz.func50,Tryz.ntmps50
 go_wp2_with fail
 refine IV.out.mono ?_
 rintro e w1 ⟨rfl,n1,hw1⟩
 have hgA:(w.alloc (.cells #[.pointer none,.string ⟨#[]⟩,.int .u64 0] 70)).grownBy w1 none:=by rw [hw1]; exact gb_drewN (World.grownBy.refl _ _) n1
 have HQ1:=Hq (HQ.out.gb0 hgA)
 have HG1:=Hq (HG.out.gb0 hgA)
 clear hw1 hgA IV c5 HQ HG
 obtain ⟨k0,k1,_,_,_⟩:=HQ1.out.rt.top.facts HQ1.out.rt.db.blk
 obtain ⟨_,k7,k10,_,_⟩:=HQ1.out.rt.db.facts
 have k9:w1.cell? ⟨d,9,none⟩=some (.int .i64 p0):=by rw [cell_of_row _ _ _ _ _ (0,0) HQ1.out.rt.db.blk]; exact HQ1.out.c9
 have hr:=rest_run (W:=w1) (B:=B) (cap:=cap) (q:=p0) (n:=s.size) hp0 hcap
 have W1:=wsC B p0 cap s w1 (by omega) hp0 hcap HQ1.out.rt.bf
 rw [HZ.out] at W1
 have W1:=Hq W1
 generalize rest B cap p0 s.size=u at hr W1
 have M:=Hq (fun b hb=>more62 d ds B cap z s vals l w1 HQ1.out.rt.db b hb)
 go_wp2_with fail
 refine W1.out.mono ?_
 rintro e w' ⟨rfl,rfl⟩
 go_wp2_with fail
 have hlt:=hzl
 have M1:=Hq (M.out false (by simp; omega))
 have cp:=HQ1.out.rt.bf z hlt
 rw [HBC.out] at cp
 have z1:(z:Int)<(s.size:Int):=by omega
 have t1:decide (s.size≤z)=false:=by simp; omega
 have t2:decide ((s.size:Int)≤(z:Int))=false:=by simp; omega
 clear M W1 hr
 refine M1.out.mono ?_
 rintro e w' ⟨rfl,rfl⟩
 have KD:=Hq (kind59 x 102 HX0.out.1 HX0.out.2 HXK.out w1 HQ1.out.rt.nk)
 have DL:=Hq (delim67 ao c l 102 HL.out w1)
 go_wp2_with fail
 refine KD.out.mono ?_
 rintro e w' ⟨rfl,rfl⟩
 go_wp2_with fail
 refine DL.out.mono ?_
 rintro e w2 ⟨rfl,hg2⟩
 have HQ2:=Hq (HQ1.out.gb0 hg2)
 have HG2:=Hq (HG1.out.gb0 hg2)
 clear hg2 DL KD HQ1 HG1 M1 k0 k1 k7 k9 k10 cp
 obtain ⟨m0,m1,_,_,_⟩:=HQ2.out.rt.top.facts HQ2.out.rt.db.blk
 obtain ⟨_,m7,m10,_,m14⟩:=HQ2.out.rt.db.facts
 have m1f:w2.frozen? ⟨d,1,none⟩=false:=by unfold World.frozen?; simp only [HQ2.out.rt.db.blk]; simp
 have hzc:z<cap:=by omega
 have N:=false89 B z (cap-z) s w2 (by omega) (by omega) (by omega) HQ2.out.rt.bf
 rw [HW.out] at N
 have N:=Hq N
 have L:=Hq (lit87 d ds B cap z aU s ⟨#[102,97,108,115,101]⟩ vals l _ w2 (by omega) (by decide) hlt hcap HQ2.out.rt.db HQ2.out.rt.bf HQ2.out.rt.gl HW.out)
 go_wp2_with fail
 refine N.out.mono ?_
 rintro e w' ⟨rfl,rfl⟩
 go_wp2_with fail
 refine L.out.mono ?_
 rintro e w3 ⟨n,v,rfl,hn,hv,hg3⟩
 have HQ3:=Hq (HQ2.out.gb0 hg3)
 have HG3:=Hq (HG2.out.gb0 hg3)
 have WR:=Hq (wrap_str HK.out HQ3.out.rt n hn 1 v (hv.imp id .inr))
 have hvf:∃ t y,v=.iface t y:=by rcases hv with rfl|⟨b,rfl⟩<;>exact ⟨_,_,rfl⟩
 obtain ⟨vt,vy,rfl⟩:=hvf
 clear hg3 hv N L
 go_wp2_with fail
 refine WR.out.mono ?_
 rintro e w4 ⟨b4,rfl,hg4⟩
 have HQ4:=Hq (HQ3.out.gb0 hg4)
 have HG4:=Hq (HG3.out.gb0 hg4)
 obtain ⟨g0,g1,g2,gf0,gf1,gf2⟩:=HG4.out.facts
 clear hg4 WR
 go_wp2_with fail
 exact tok_fin (HQ4.out.tw HG4.out HBG.out) rfl rfl rfl (.inr ⟨_,rfl⟩)
theorem rt_true_yes(A:List Addr)(b0 base d B cap:Nat)(s:ByteArray)(vals l:Int)(aU aI aE aM:Addr)(p0:Nat)(hp0:p0≤s.size)(ds:Array Value)(ao:Option Addr)(c:Nat)(nsv:Value)(lab:Nat→Nat)(w0 w:World)(K:KC A s cap vals aU aI aE aM)(h:RQ A b0 base d B cap s vals l aU aI aE aM p0 ds ao c nsv lab w0 w)(hbg:base<w.heap.size)(hzq:∃ q,q+1=w.heap.size∧BZ q w)(hzl':p0+ws ((bytes s).drop p0)<s.size)(x:Int)(hb:(s[p0+ws ((bytes s).drop p0)].toNat:Int)=x)(hx:¬ x=58∧¬ x=44)(hxk:normK x=116)(hw:wordAt [116,114,117,101] ((bytes s).drop (p0+ws ((bytes s).drop p0)))=some 4):
  Calls Tryz.prog 50 #[.pointer (some ⟨d,0,none⟩)] w (RtP b0 d w.heap.size NoEnd w0):=by
 have HQ:=Hq (h.gb0 (World.grownBy_alloc w (.cells #[.pointer none,.string ⟨#[]⟩,.int .u64 0] 70) none))
 have c5:(w.alloc (.cells #[.pointer none,.string ⟨#[]⟩,.int .u64 0] 70)).cell? ⟨d,5,none⟩=some (.int .i64 0):=by rw [cell_of_row _ _ _ _ _ (0,0) HQ.out.rt.db.blk]; exact HQ.out.c5
 have HG:=Hq (show GB w.heap.size (w.alloc (.cells #[.pointer none,.string ⟨#[]⟩,.int .u64 0] 70)) from ⟨heap_alloc_new w _,by obtain ⟨q,hq,hz⟩:=hzq; exact ⟨q,hq,(heap_alloc_old w _ hz.lt).trans hz⟩⟩)
 have IV:=Hq (inval60 d (w.alloc (.cells #[.pointer none,.string ⟨#[]⟩,.int .u64 0] 70)) HQ.out.rt.db.facts.2.2.2.1)
 have HK:=Hq K
 have hcap:=K.hcap
 have hs:=K.hs
 have HBG:=Hq hbg
 have HL:=Hq h.rt.l01
 obtain ⟨z',HZ⟩:∃ z,Hid (ws ((bytes s).drop p0)=z):=⟨_,Hq rfl⟩
 obtain ⟨z,hz⟩:∃ z,p0+z'=z:=⟨_,rfl⟩
 have hzs:z≤s.size:=by have:=ws_fit hp0; rw [HZ.out] at this; omega
 have xz:(p0:Int)+(z':Int)=(z:Int):=by omega
 have z0:(0:Int)≤(z:Int):=Int.natCast_nonneg _
 have p00:(0:Int)≤(p0:Int):=Int.natCast_nonneg _
 have HZP:=Hq hz
 have hzl:z<s.size:=by have h1:=HZ.out; omega
 have HBC:=Hq (show (s[z].toNat:Int)=x by have e:p0+ws ((bytes s).drop p0)=z:=by { rw [HZ.out]; exact hz }; simpa only [e] using hb)
 have x58:(x==58)=false:=by simpa using hx.1
 have x44:(x==44)=false:=by simpa using hx.2
 have HX0:=Hq (show 0≤x∧x≤255 by rw [← hb]; have:=s[p0+ws ((bytes s).drop p0)].toNat_lt; omega)
 have HXK:=Hq hxk
 have HW:=Hq (show wordAt [116,114,117,101] ((bytes s).drop z)=some 4 by have e:p0+ws ((bytes s).drop p0)=z:=by { rw [HZ.out]; exact hz }; rw [← e]; exact hw)
 clear hzl' hb hx hxk hw
 clear h K hz hbg hzq
 go_enter Tryz.func50,Tryz.ntmps50
 go_wp2_with fail
 refine IV.out.mono ?_
 rintro e w1 ⟨rfl,n1,hw1⟩
 have hgA:(w.alloc (.cells #[.pointer none,.string ⟨#[]⟩,.int .u64 0] 70)).grownBy w1 none:=by rw [hw1]; exact gb_drewN (World.grownBy.refl _ _) n1
 have HQ1:=Hq (HQ.out.gb0 hgA)
 have HG1:=Hq (HG.out.gb0 hgA)
 clear hw1 hgA IV c5 HQ HG
 obtain ⟨k0,k1,_,_,_⟩:=HQ1.out.rt.top.facts HQ1.out.rt.db.blk
 obtain ⟨_,k7,k10,_,_⟩:=HQ1.out.rt.db.facts
 have k9:w1.cell? ⟨d,9,none⟩=some (.int .i64 p0):=by rw [cell_of_row _ _ _ _ _ (0,0) HQ1.out.rt.db.blk]; exact HQ1.out.c9
 have hr:=rest_run (W:=w1) (B:=B) (cap:=cap) (q:=p0) (n:=s.size) hp0 hcap
 have W1:=wsC B p0 cap s w1 (by omega) hp0 hcap HQ1.out.rt.bf
 rw [HZ.out] at W1
 have W1:=Hq W1
 generalize rest B cap p0 s.size=u at hr W1
 have M:=Hq (fun b hb=>more62 d ds B cap z s vals l w1 HQ1.out.rt.db b hb)
 go_wp2_with fail
 refine W1.out.mono ?_
 rintro e w' ⟨rfl,rfl⟩
 go_wp2_with fail
 have hlt:=hzl
 have M1:=Hq (M.out false (by simp; omega))
 have cp:=HQ1.out.rt.bf z hlt
 rw [HBC.out] at cp
 have z1:(z:Int)<(s.size:Int):=by omega
 have t1:decide (s.size≤z)=false:=by simp; omega
 have t2:decide ((s.size:Int)≤(z:Int))=false:=by simp; omega
 clear M W1 hr
 refine M1.out.mono ?_
 rintro e w' ⟨rfl,rfl⟩
 have KD:=Hq (kind59 x 116 HX0.out.1 HX0.out.2 HXK.out w1 HQ1.out.rt.nk)
 have DL:=Hq (delim67 ao c l 116 HL.out w1)
 go_wp2_with fail
 refine KD.out.mono ?_
 rintro e w' ⟨rfl,rfl⟩
 go_wp2_with fail
 refine DL.out.mono ?_
 rintro e w2 ⟨rfl,hg2⟩
 have HQ2:=Hq (HQ1.out.gb0 hg2)
 have HG2:=Hq (HG1.out.gb0 hg2)
 clear hg2 DL KD HQ1 HG1 M1 k0 k1 k7 k9 k10 cp
 obtain ⟨m0,m1,_,_,_⟩:=HQ2.out.rt.top.facts HQ2.out.rt.db.blk
 obtain ⟨_,m7,m10,_,m14⟩:=HQ2.out.rt.db.facts
 have m1f:w2.frozen? ⟨d,1,none⟩=false:=by unfold World.frozen?; simp only [HQ2.out.rt.db.blk]; simp
 have hzc:z<cap:=by omega
 have N:=true91 B z (cap-z) s w2 (by omega) (by omega) (by omega) HQ2.out.rt.bf
 rw [HW.out] at N
 have N:=Hq N
 have L:=Hq (lit70 d l HL.out w2 m1 m1f)
 have HT2:=Hq (HQ2.out.tx HG2.out HBG.out)
 have HL0:=HL.out
 go_wp2_with fail
 refine N.out.mono ?_
 rintro e w' ⟨rfl,rfl⟩
 go_wp2_with fail
 refine L.out.mono ?_
 rintro e w3 ⟨rfl,hw3⟩
 have HT3:=Hq (show TX b0 d w.heap.size w0 w3 by rw [hw3]; exact HT2.out.set 1 _ (.inl (by decide)))
 obtain ⟨x8,x9,_,_,q8,q9,_,_,_,qf8,qf9,_,_⟩:=HT3.out.facts
 have TK:=Hq (fun w=>tok92 w)
 have HT4:=Hq (fun (p4:Int)=>(HT3.out.set 8 (.int .i64 p4) (.inr (.inl ⟨_,rfl,.inl rfl⟩))).set 9 (.int .i64 p4) (.inr (.inl ⟨_,rfl,.inr rfl⟩)))
 clear hw3 N L HT2
 go_wp2_with fail
 refine (TK.out _).mono ?_
 rintro e w4 ⟨tv,rfl,⟨ta,tb,tc,rfl⟩,hg4⟩
 have HT5:=Hq ((HT4.out _).gb0 hg4)
 obtain ⟨g0,g1,g2,gf0,gf1,gf2⟩:=HT5.out.gb.facts
 clear hg4 HT4 HT3
 go_wp2_with fail
 exact tok_fin HT5.out.tw rfl rfl rfl (.inl rfl)
theorem rt_true_no(A:List Addr)(b0 base d B cap:Nat)(s:ByteArray)(vals l:Int)(aU aI aE aM:Addr)(p0:Nat)(hp0:p0≤s.size)(ds:Array Value)(ao:Option Addr)(c:Nat)(nsv:Value)(lab:Nat→Nat)(w0 w:World)(K:KC A s cap vals aU aI aE aM)(h:RQ A b0 base d B cap s vals l aU aI aE aM p0 ds ao c nsv lab w0 w)(hbg:base<w.heap.size)(hzq:∃ q,q+1=w.heap.size∧BZ q w)(hzl':p0+ws ((bytes s).drop p0)<s.size)(x:Int)(hb:(s[p0+ws ((bytes s).drop p0)].toNat:Int)=x)(hx:¬ x=58∧¬ x=44)(hxk:normK x=116)(hw:wordAt [116,114,117,101] ((bytes s).drop (p0+ws ((bytes s).drop p0)))=none):
  Calls Tryz.prog 50 #[.pointer (some ⟨d,0,none⟩)] w (RtP b0 d w.heap.size NoEnd w0):=by
 have HQ:=Hq (h.gb0 (World.grownBy_alloc w (.cells #[.pointer none,.string ⟨#[]⟩,.int .u64 0] 70) none))
 have c5:(w.alloc (.cells #[.pointer none,.string ⟨#[]⟩,.int .u64 0] 70)).cell? ⟨d,5,none⟩=some (.int .i64 0):=by rw [cell_of_row _ _ _ _ _ (0,0) HQ.out.rt.db.blk]; exact HQ.out.c5
 have HG:=Hq (show GB w.heap.size (w.alloc (.cells #[.pointer none,.string ⟨#[]⟩,.int .u64 0] 70)) from ⟨heap_alloc_new w _,by obtain ⟨q,hq,hz⟩:=hzq; exact ⟨q,hq,(heap_alloc_old w _ hz.lt).trans hz⟩⟩)
 have IV:=Hq (inval60 d (w.alloc (.cells #[.pointer none,.string ⟨#[]⟩,.int .u64 0] 70)) HQ.out.rt.db.facts.2.2.2.1)
 have HK:=Hq K
 have hcap:=K.hcap
 have hs:=K.hs
 have HBG:=Hq hbg
 have HL:=Hq h.rt.l01
 obtain ⟨z',HZ⟩:∃ z,Hid (ws ((bytes s).drop p0)=z):=⟨_,Hq rfl⟩
 obtain ⟨z,hz⟩:∃ z,p0+z'=z:=⟨_,rfl⟩
 have hzs:z≤s.size:=by have:=ws_fit hp0; rw [HZ.out] at this; omega
 have xz:(p0:Int)+(z':Int)=(z:Int):=by omega
 have z0:(0:Int)≤(z:Int):=Int.natCast_nonneg _
 have p00:(0:Int)≤(p0:Int):=Int.natCast_nonneg _
 have HZP:=Hq hz
 have hzl:z<s.size:=by have h1:=HZ.out; omega
 have HBC:=Hq (show (s[z].toNat:Int)=x by have e:p0+ws ((bytes s).drop p0)=z:=by { rw [HZ.out]; exact hz }; simpa only [e] using hb)
 have x58:(x==58)=false:=by simpa using hx.1
 have x44:(x==44)=false:=by simpa using hx.2
 have HX0:=Hq (show 0≤x∧x≤255 by rw [← hb]; have:=s[p0+ws ((bytes s).drop p0)].toNat_lt; omega)
 have HXK:=Hq hxk
 have HW:=Hq (show wordAt [116,114,117,101] ((bytes s).drop z)=none by have e:p0+ws ((bytes s).drop p0)=z:=by { rw [HZ.out]; exact hz }; rw [← e]; exact hw)
 clear hzl' hb hx hxk hw
 clear h K hz hbg hzq
 go_enter Tryz.func50,Tryz.ntmps50
 go_wp2_with fail
 refine IV.out.mono ?_
 rintro e w1 ⟨rfl,n1,hw1⟩
 have hgA:(w.alloc (.cells #[.pointer none,.string ⟨#[]⟩,.int .u64 0] 70)).grownBy w1 none:=by rw [hw1]; exact gb_drewN (World.grownBy.refl _ _) n1
 have HQ1:=Hq (HQ.out.gb0 hgA)
 have HG1:=Hq (HG.out.gb0 hgA)
 clear hw1 hgA IV c5 HQ HG
 obtain ⟨k0,k1,_,_,_⟩:=HQ1.out.rt.top.facts HQ1.out.rt.db.blk
 obtain ⟨_,k7,k10,_,_⟩:=HQ1.out.rt.db.facts
 have k9:w1.cell? ⟨d,9,none⟩=some (.int .i64 p0):=by rw [cell_of_row _ _ _ _ _ (0,0) HQ1.out.rt.db.blk]; exact HQ1.out.c9
 have hr:=rest_run (W:=w1) (B:=B) (cap:=cap) (q:=p0) (n:=s.size) hp0 hcap
 have W1:=wsC B p0 cap s w1 (by omega) hp0 hcap HQ1.out.rt.bf
 rw [HZ.out] at W1
 have W1:=Hq W1
 generalize rest B cap p0 s.size=u at hr W1
 have M:=Hq (fun b hb=>more62 d ds B cap z s vals l w1 HQ1.out.rt.db b hb)
 go_wp2_with fail
 refine W1.out.mono ?_
 rintro e w' ⟨rfl,rfl⟩
 go_wp2_with fail
 have hlt:=hzl
 have M1:=Hq (M.out false (by simp; omega))
 have cp:=HQ1.out.rt.bf z hlt
 rw [HBC.out] at cp
 have z1:(z:Int)<(s.size:Int):=by omega
 have t1:decide (s.size≤z)=false:=by simp; omega
 have t2:decide ((s.size:Int)≤(z:Int))=false:=by simp; omega
 clear M W1 hr
 refine M1.out.mono ?_
 rintro e w' ⟨rfl,rfl⟩
 have KD:=Hq (kind59 x 116 HX0.out.1 HX0.out.2 HXK.out w1 HQ1.out.rt.nk)
 have DL:=Hq (delim67 ao c l 116 HL.out w1)
 go_wp2_with fail
 refine KD.out.mono ?_
 rintro e w' ⟨rfl,rfl⟩
 go_wp2_with fail
 refine DL.out.mono ?_
 rintro e w2 ⟨rfl,hg2⟩
 have HQ2:=Hq (HQ1.out.gb0 hg2)
 have HG2:=Hq (HG1.out.gb0 hg2)
 clear hg2 DL KD HQ1 HG1 M1 k0 k1 k7 k9 k10 cp
 obtain ⟨m0,m1,_,_,_⟩:=HQ2.out.rt.top.facts HQ2.out.rt.db.blk
 obtain ⟨_,m7,m10,_,m14⟩:=HQ2.out.rt.db.facts
 have m1f:w2.frozen? ⟨d,1,none⟩=false:=by unfold World.frozen?; simp only [HQ2.out.rt.db.blk]; simp
 have hzc:z<cap:=by omega
 have N:=true91 B z (cap-z) s w2 (by omega) (by omega) (by omega) HQ2.out.rt.bf
 rw [HW.out] at N
 have N:=Hq N
 have L:=Hq (lit87 d ds B cap z aU s ⟨#[116,114,117,101]⟩ vals l _ w2 (by omega) (by decide) hlt hcap HQ2.out.rt.db HQ2.out.rt.bf HQ2.out.rt.gl HW.out)
 go_wp2_with fail
 refine N.out.mono ?_
 rintro e w' ⟨rfl,rfl⟩
 go_wp2_with fail
 refine L.out.mono ?_
 rintro e w3 ⟨n,v,rfl,hn,hv,hg3⟩
 have HQ3:=Hq (HQ2.out.gb0 hg3)
 have HG3:=Hq (HG2.out.gb0 hg3)
 have WR:=Hq (wrap_str HK.out HQ3.out.rt n hn 1 v (hv.imp id .inr))
 have hvf:∃ t y,v=.iface t y:=by rcases hv with rfl|⟨b,rfl⟩<;>exact ⟨_,_,rfl⟩
 obtain ⟨vt,vy,rfl⟩:=hvf
 clear hg3 hv N L
 go_wp2_with fail
 refine WR.out.mono ?_
 rintro e w4 ⟨b4,rfl,hg4⟩
 have HQ4:=Hq (HQ3.out.gb0 hg4)
 have HG4:=Hq (HG3.out.gb0 hg4)
 obtain ⟨g0,g1,g2,gf0,gf1,gf2⟩:=HG4.out.facts
 clear hg4 WR
 go_wp2_with fail
 exact tok_fin (HQ4.out.tw HG4.out HBG.out) rfl rfl rfl (.inr ⟨_,rfl⟩)
theorem rt_pop83(A:List Addr)(b0 base d B cap:Nat)(s:ByteArray)(vals l:Int)(aU aI aE aM:Addr)(p0:Nat)(hp0:p0≤s.size)(ds:Array Value)(ao:Option Addr)(c:Nat)(nsv:Value)(lab:Nat→Nat)(w0 w:World)(K:KC A s cap vals aU aI aE aM)(h:RQ A b0 base d B cap s vals l aU aI aE aM p0 ds ao c nsv lab w0 w)(hbg:base<w.heap.size)(hzq:∃ q,q+1=w.heap.size∧BZ q w)(hzl':p0+ws ((bytes s).drop p0)<s.size)(x:Int)(hb:(s[p0+ws ((bytes s).drop p0)].toNat:Int)=x)(hx:¬ x=58∧¬ x=44)(hxk:normK x=125):
  Calls Tryz.prog 50 #[.pointer (some ⟨d,0,none⟩)] w (RtP b0 d w.heap.size NoEnd w0):=by
 have HQ:=Hq (h.gb0 (World.grownBy_alloc w (.cells #[.pointer none,.string ⟨#[]⟩,.int .u64 0] 70) none))
 have c5:(w.alloc (.cells #[.pointer none,.string ⟨#[]⟩,.int .u64 0] 70)).cell? ⟨d,5,none⟩=some (.int .i64 0):=by rw [cell_of_row _ _ _ _ _ (0,0) HQ.out.rt.db.blk]; exact HQ.out.c5
 have HG:=Hq (show GB w.heap.size (w.alloc (.cells #[.pointer none,.string ⟨#[]⟩,.int .u64 0] 70)) from ⟨heap_alloc_new w _,by obtain ⟨q,hq,hz⟩:=hzq; exact ⟨q,hq,(heap_alloc_old w _ hz.lt).trans hz⟩⟩)
 have IV:=Hq (inval60 d (w.alloc (.cells #[.pointer none,.string ⟨#[]⟩,.int .u64 0] 70)) HQ.out.rt.db.facts.2.2.2.1)
 have HK:=Hq K
 have hcap:=K.hcap
 have hs:=K.hs
 have HBG:=Hq hbg
 have HL:=Hq h.rt.l01
 obtain ⟨z',HZ⟩:∃ z,Hid (ws ((bytes s).drop p0)=z):=⟨_,Hq rfl⟩
 obtain ⟨z,hz⟩:∃ z,p0+z'=z:=⟨_,rfl⟩
 have hzs:z≤s.size:=by have:=ws_fit hp0; rw [HZ.out] at this; omega
 have xz:(p0:Int)+(z':Int)=(z:Int):=by omega
 have z0:(0:Int)≤(z:Int):=Int.natCast_nonneg _
 have p00:(0:Int)≤(p0:Int):=Int.natCast_nonneg _
 have HZP:=Hq hz
 have hzl:z<s.size:=by have h1:=HZ.out; omega
 have HBC:=Hq (show (s[z].toNat:Int)=x by have e:p0+ws ((bytes s).drop p0)=z:=by { rw [HZ.out]; exact hz }; simpa only [e] using hb)
 have x58:(x==58)=false:=by simpa using hx.1
 have x44:(x==44)=false:=by simpa using hx.2
 have HX0:=Hq (show 0≤x∧x≤255 by rw [← hb]; have:=s[p0+ws ((bytes s).drop p0)].toNat_lt; omega)
 have HXK:=Hq hxk
 clear hzl' hb hx hxk
 clear h K hz hbg hzq
 go_enter Tryz.func50,Tryz.ntmps50
 go_wp2_with fail
 refine IV.out.mono ?_
 rintro e w1 ⟨rfl,n1,hw1⟩
 have hgA:(w.alloc (.cells #[.pointer none,.string ⟨#[]⟩,.int .u64 0] 70)).grownBy w1 none:=by rw [hw1]; exact gb_drewN (World.grownBy.refl _ _) n1
 have HQ1:=Hq (HQ.out.gb0 hgA)
 have HG1:=Hq (HG.out.gb0 hgA)
 clear hw1 hgA IV c5 HQ HG
 obtain ⟨k0,k1,_,_,_⟩:=HQ1.out.rt.top.facts HQ1.out.rt.db.blk
 obtain ⟨_,k7,k10,_,_⟩:=HQ1.out.rt.db.facts
 have k9:w1.cell? ⟨d,9,none⟩=some (.int .i64 p0):=by rw [cell_of_row _ _ _ _ _ (0,0) HQ1.out.rt.db.blk]; exact HQ1.out.c9
 have hr:=rest_run (W:=w1) (B:=B) (cap:=cap) (q:=p0) (n:=s.size) hp0 hcap
 have W1:=wsC B p0 cap s w1 (by omega) hp0 hcap HQ1.out.rt.bf
 rw [HZ.out] at W1
 have W1:=Hq W1
 generalize rest B cap p0 s.size=u at hr W1
 have M:=Hq (fun b hb=>more62 d ds B cap z s vals l w1 HQ1.out.rt.db b hb)
 go_wp2_with fail
 refine W1.out.mono ?_
 rintro e w' ⟨rfl,rfl⟩
 go_wp2_with fail
 have hlt:=hzl
 have M1:=Hq (M.out false (by simp; omega))
 have cp:=HQ1.out.rt.bf z hlt
 rw [HBC.out] at cp
 have z1:(z:Int)<(s.size:Int):=by omega
 have t1:decide (s.size≤z)=false:=by simp; omega
 have t2:decide ((s.size:Int)≤(z:Int))=false:=by simp; omega
 clear M W1 hr
 refine M1.out.mono ?_
 rintro e w' ⟨rfl,rfl⟩
 have KD:=Hq (kind59 x 125 HX0.out.1 HX0.out.2 HXK.out w1 HQ1.out.rt.nk)
 have DL:=Hq (delim67 ao c l 125 HL.out w1)
 go_wp2_with fail
 refine KD.out.mono ?_
 rintro e w' ⟨rfl,rfl⟩
 go_wp2_with fail
 refine DL.out.mono ?_
 rintro e w2 ⟨rfl,hg2⟩
 have HQ2:=Hq (HQ1.out.gb0 hg2)
 have HG2:=Hq (HG1.out.gb0 hg2)
 clear hg2 DL KD HQ1 HG1 M1 k0 k1 k7 k9 k10 cp
 obtain ⟨m0,m1,_,_,_⟩:=HQ2.out.rt.top.facts HQ2.out.rt.db.blk
 obtain ⟨_,m7,m10,_,m14⟩:=HQ2.out.rt.db.facts
 have PB:=Hq (pop83_bad d c ao l HL.out _ w2 m0 m1 HQ2.out.rt.cM)
 have WR:=Hq (wrap_mis HK.out HQ2.out.rt z hzs 1)
 go_wp2_with fail
 refine PB.out.mono ?_
 rintro e w' ⟨rfl,rfl⟩
 go_wp2_with fail
 refine WR.out.mono ?_
 rintro e w4 ⟨b4,rfl,hg4⟩
 have HQ4:=Hq (HQ2.out.gb0 hg4)
 have HG4:=Hq (HG2.out.gb0 hg4)
 obtain ⟨g0,g1,g2,gf0,gf1,gf2⟩:=HG4.out.facts
 clear hg4 WR
 go_wp2_with fail
 exact tok_fin (HQ4.out.tw HG4.out HBG.out) rfl rfl rfl (.inr ⟨_,rfl⟩)
theorem rt_pop85(A:List Addr)(b0 base d B cap:Nat)(s:ByteArray)(vals l:Int)(aU aI aE aM:Addr)(p0:Nat)(hp0:p0≤s.size)(ds:Array Value)(ao:Option Addr)(c:Nat)(nsv:Value)(lab:Nat→Nat)(w0 w:World)(K:KC A s cap vals aU aI aE aM)(h:RQ A b0 base d B cap s vals l aU aI aE aM p0 ds ao c nsv lab w0 w)(hbg:base<w.heap.size)(hzq:∃ q,q+1=w.heap.size∧BZ q w)(hzl':p0+ws ((bytes s).drop p0)<s.size)(x:Int)(hb:(s[p0+ws ((bytes s).drop p0)].toNat:Int)=x)(hx:¬ x=58∧¬ x=44)(hxk:normK x=93):
  Calls Tryz.prog 50 #[.pointer (some ⟨d,0,none⟩)] w (RtP b0 d w.heap.size NoEnd w0):=by
 have HQ:=Hq (h.gb0 (World.grownBy_alloc w (.cells #[.pointer none,.string ⟨#[]⟩,.int .u64 0] 70) none))
 have c5:(w.alloc (.cells #[.pointer none,.string ⟨#[]⟩,.int .u64 0] 70)).cell? ⟨d,5,none⟩=some (.int .i64 0):=by rw [cell_of_row _ _ _ _ _ (0,0) HQ.out.rt.db.blk]; exact HQ.out.c5
 have HG:=Hq (show GB w.heap.size (w.alloc (.cells #[.pointer none,.string ⟨#[]⟩,.int .u64 0] 70)) from ⟨heap_alloc_new w _,by obtain ⟨q,hq,hz⟩:=hzq; exact ⟨q,hq,(heap_alloc_old w _ hz.lt).trans hz⟩⟩)
 have IV:=Hq (inval60 d (w.alloc (.cells #[.pointer none,.string ⟨#[]⟩,.int .u64 0] 70)) HQ.out.rt.db.facts.2.2.2.1)
 have HK:=Hq K
 have hcap:=K.hcap
 have hs:=K.hs
 have HBG:=Hq hbg
 have HL:=Hq h.rt.l01
 obtain ⟨z',HZ⟩:∃ z,Hid (ws ((bytes s).drop p0)=z):=⟨_,Hq rfl⟩
 obtain ⟨z,hz⟩:∃ z,p0+z'=z:=⟨_,rfl⟩
 have hzs:z≤s.size:=by have:=ws_fit hp0; rw [HZ.out] at this; omega
 have xz:(p0:Int)+(z':Int)=(z:Int):=by omega
 have z0:(0:Int)≤(z:Int):=Int.natCast_nonneg _
 have p00:(0:Int)≤(p0:Int):=Int.natCast_nonneg _
 have HZP:=Hq hz
 have hzl:z<s.size:=by have h1:=HZ.out; omega
 have HBC:=Hq (show (s[z].toNat:Int)=x by have e:p0+ws ((bytes s).drop p0)=z:=by { rw [HZ.out]; exact hz }; simpa only [e] using hb)
 have x58:(x==58)=false:=by simpa using hx.1
 have x44:(x==44)=false:=by simpa using hx.2
 have HX0:=Hq (show 0≤x∧x≤255 by rw [← hb]; have:=s[p0+ws ((bytes s).drop p0)].toNat_lt; omega)
 have HXK:=Hq hxk
 clear hzl' hb hx hxk
 clear h K hz hbg hzq
 go_enter Tryz.func50,Tryz.ntmps50
 go_wp2_with fail
 refine IV.out.mono ?_
 rintro e w1 ⟨rfl,n1,hw1⟩
 have hgA:(w.alloc (.cells #[.pointer none,.string ⟨#[]⟩,.int .u64 0] 70)).grownBy w1 none:=by rw [hw1]; exact gb_drewN (World.grownBy.refl _ _) n1
 have HQ1:=Hq (HQ.out.gb0 hgA)
 have HG1:=Hq (HG.out.gb0 hgA)
 clear hw1 hgA IV c5 HQ HG
 obtain ⟨k0,k1,_,_,_⟩:=HQ1.out.rt.top.facts HQ1.out.rt.db.blk
 obtain ⟨_,k7,k10,_,_⟩:=HQ1.out.rt.db.facts
 have k9:w1.cell? ⟨d,9,none⟩=some (.int .i64 p0):=by rw [cell_of_row _ _ _ _ _ (0,0) HQ1.out.rt.db.blk]; exact HQ1.out.c9
 have hr:=rest_run (W:=w1) (B:=B) (cap:=cap) (q:=p0) (n:=s.size) hp0 hcap
 have W1:=wsC B p0 cap s w1 (by omega) hp0 hcap HQ1.out.rt.bf
 rw [HZ.out] at W1
 have W1:=Hq W1
 generalize rest B cap p0 s.size=u at hr W1
 have M:=Hq (fun b hb=>more62 d ds B cap z s vals l w1 HQ1.out.rt.db b hb)
 go_wp2_with fail
 refine W1.out.mono ?_
 rintro e w' ⟨rfl,rfl⟩
 go_wp2_with fail
 have hlt:=hzl
 have M1:=Hq (M.out false (by simp; omega))
 have cp:=HQ1.out.rt.bf z hlt
 rw [HBC.out] at cp
 have z1:(z:Int)<(s.size:Int):=by omega
 have t1:decide (s.size≤z)=false:=by simp; omega
 have t2:decide ((s.size:Int)≤(z:Int))=false:=by simp; omega
 clear M W1 hr
 refine M1.out.mono ?_
 rintro e w' ⟨rfl,rfl⟩
 have KD:=Hq (kind59 x 93 HX0.out.1 HX0.out.2 HXK.out w1 HQ1.out.rt.nk)
 have DL:=Hq (delim67 ao c l 93 HL.out w1)
 go_wp2_with fail
 refine KD.out.mono ?_
 rintro e w' ⟨rfl,rfl⟩
 go_wp2_with fail
 refine DL.out.mono ?_
 rintro e w2 ⟨rfl,hg2⟩
 have HQ2:=Hq (HQ1.out.gb0 hg2)
 have HG2:=Hq (HG1.out.gb0 hg2)
 clear hg2 DL KD HQ1 HG1 M1 k0 k1 k7 k9 k10 cp
 obtain ⟨m0,m1,_,_,_⟩:=HQ2.out.rt.top.facts HQ2.out.rt.db.blk
 obtain ⟨_,m7,m10,_,m14⟩:=HQ2.out.rt.db.facts
 have PB:=Hq (pop85_bad d c ao l HL.out _ w2 m0 m1 HQ2.out.rt.cM)
 have WR:=Hq (wrap_mis HK.out HQ2.out.rt z hzs 1)
 go_wp2_with fail
 refine PB.out.mono ?_
 rintro e w' ⟨rfl,rfl⟩
 go_wp2_with fail
 refine WR.out.mono ?_
 rintro e w4 ⟨b4,rfl,hg4⟩
 have HQ4:=Hq (HQ2.out.gb0 hg4)
 have HG4:=Hq (HG2.out.gb0 hg4)
 obtain ⟨g0,g1,g2,gf0,gf1,gf2⟩:=HG4.out.facts
 clear hg4 WR
 go_wp2_with fail
 exact tok_fin (HQ4.out.tw HG4.out HBG.out) rfl rfl rfl (.inr ⟨_,rfl⟩)
theorem rt_other(A:List Addr)(b0 base d B cap:Nat)(s:ByteArray)(vals l:Int)(aU aI aE aM:Addr)(p0:Nat)(hp0:p0≤s.size)(ds:Array Value)(ao:Option Addr)(c:Nat)(nsv:Value)(lab:Nat→Nat)(w0 w:World)(K:KC A s cap vals aU aI aE aM)(h:RQ A b0 base d B cap s vals l aU aI aE aM p0 ds ao c nsv lab w0 w)(hbg:base<w.heap.size)(hzq:∃ q,q+1=w.heap.size∧BZ q w)(hzl':p0+ws ((bytes s).drop p0)<s.size)(x:Int)(hb:(s[p0+ws ((bytes s).drop p0)].toNat:Int)=x)(hx:¬ x=58∧¬ x=44)(hxk:normK x=0):
  Calls Tryz.prog 50 #[.pointer (some ⟨d,0,none⟩)] w (RtP b0 d w.heap.size NoEnd w0):=by
 have HQ:=Hq (h.gb0 (World.grownBy_alloc w (.cells #[.pointer none,.string ⟨#[]⟩,.int .u64 0] 70) none))
 have c5:(w.alloc (.cells #[.pointer none,.string ⟨#[]⟩,.int .u64 0] 70)).cell? ⟨d,5,none⟩=some (.int .i64 0):=by rw [cell_of_row _ _ _ _ _ (0,0) HQ.out.rt.db.blk]; exact HQ.out.c5
 have HG:=Hq (show GB w.heap.size (w.alloc (.cells #[.pointer none,.string ⟨#[]⟩,.int .u64 0] 70)) from ⟨heap_alloc_new w _,by obtain ⟨q,hq,hz⟩:=hzq; exact ⟨q,hq,(heap_alloc_old w _ hz.lt).trans hz⟩⟩)
 have IV:=Hq (inval60 d (w.alloc (.cells #[.pointer none,.string ⟨#[]⟩,.int .u64 0] 70)) HQ.out.rt.db.facts.2.2.2.1)
 have HK:=Hq K
 have hcap:=K.hcap
 have hs:=K.hs
 have HBG:=Hq hbg
 have HL:=Hq h.rt.l01
 obtain ⟨z',HZ⟩:∃ z,Hid (ws ((bytes s).drop p0)=z):=⟨_,Hq rfl⟩
 obtain ⟨z,hz⟩:∃ z,p0+z'=z:=⟨_,rfl⟩
 have hzs:z≤s.size:=by have:=ws_fit hp0; rw [HZ.out] at this; omega
 have xz:(p0:Int)+(z':Int)=(z:Int):=by omega
 have z0:(0:Int)≤(z:Int):=Int.natCast_nonneg _
 have p00:(0:Int)≤(p0:Int):=Int.natCast_nonneg _
 have HZP:=Hq hz
 have hzl:z<s.size:=by have h1:=HZ.out; omega
 have HBC:=Hq (show (s[z].toNat:Int)=x by have e:p0+ws ((bytes s).drop p0)=z:=by { rw [HZ.out]; exact hz }; simpa only [e] using hb)
 have x58:(x==58)=false:=by simpa using hx.1
 have x44:(x==44)=false:=by simpa using hx.2
 have HX0:=Hq (show 0≤x∧x≤255 by rw [← hb]; have:=s[p0+ws ((bytes s).drop p0)].toNat_lt; omega)
 have HXK:=Hq hxk
 clear hzl' hb hx hxk
 clear h K hz hbg hzq
 go_enter Tryz.func50,Tryz.ntmps50
 go_wp2_with fail
 refine IV.out.mono ?_
 rintro e w1 ⟨rfl,n1,hw1⟩
 have hgA:(w.alloc (.cells #[.pointer none,.string ⟨#[]⟩,.int .u64 0] 70)).grownBy w1 none:=by rw [hw1]; exact gb_drewN (World.grownBy.refl _ _) n1
 have HQ1:=Hq (HQ.out.gb0 hgA)
 have HG1:=Hq (HG.out.gb0 hgA)
 clear hw1 hgA IV c5 HQ HG
 obtain ⟨k0,k1,_,_,_⟩:=HQ1.out.rt.top.facts HQ1.out.rt.db.blk
 obtain ⟨_,k7,k10,_,_⟩:=HQ1.out.rt.db.facts
 have k9:w1.cell? ⟨d,9,none⟩=some (.int .i64 p0):=by rw [cell_of_row _ _ _ _ _ (0,0) HQ1.out.rt.db.blk]; exact HQ1.out.c9
 have hr:=rest_run (W:=w1) (B:=B) (cap:=cap) (q:=p0) (n:=s.size) hp0 hcap
 have W1:=wsC B p0 cap s w1 (by omega) hp0 hcap HQ1.out.rt.bf
 rw [HZ.out] at W1
 have W1:=Hq W1
 generalize rest B cap p0 s.size=u at hr W1
 have M:=Hq (fun b hb=>more62 d ds B cap z s vals l w1 HQ1.out.rt.db b hb)
 go_wp2_with fail
 refine W1.out.mono ?_
 rintro e w' ⟨rfl,rfl⟩
 go_wp2_with fail
 have hlt:=hzl
 have M1:=Hq (M.out false (by simp; omega))
 have cp:=HQ1.out.rt.bf z hlt
 rw [HBC.out] at cp
 have z1:(z:Int)<(s.size:Int):=by omega
 have t1:decide (s.size≤z)=false:=by simp; omega
 have t2:decide ((s.size:Int)≤(z:Int))=false:=by simp; omega
 clear M W1 hr
 refine M1.out.mono ?_
 rintro e w' ⟨rfl,rfl⟩
 have KD:=Hq (kind59 x 0 HX0.out.1 HX0.out.2 HXK.out w1 HQ1.out.rt.nk)
 have DL:=Hq (delim67 ao c l 0 HL.out w1)
 go_wp2_with fail
 refine KD.out.mono ?_
 rintro e w' ⟨rfl,rfl⟩
 go_wp2_with fail
 refine DL.out.mono ?_
 rintro e w2 ⟨rfl,hg2⟩
 have HQ2:=Hq (HQ1.out.gb0 hg2)
 have HG2:=Hq (HG1.out.gb0 hg2)
 clear hg2 DL KD HQ1 HG1 M1 k0 k1 k7 k9 k10 cp
 obtain ⟨m0,m1,_,_,_⟩:=HQ2.out.rt.top.facts HQ2.out.rt.db.blk
 obtain ⟨_,m7,m10,_,m14⟩:=HQ2.out.rt.db.facts
 have hr2:=rest_run (W:=w2) (B:=B) (cap:=cap) (q:=z) (n:=s.size) hzs hcap
 have CE:=Hq (fun wh=>charErrR B z cap s wh w2 HQ2.out.rt.gl.tabs hzs hcap HQ2.out.rt.bf)
 generalize rest B cap z s.size=u2 at hr2 CE
 go_wp2_with fail
 refine (CE.out _).mono ?_
 rintro e w3 ⟨b,rfl,hg3⟩
 have HQ3:=Hq (HQ2.out.gb0 hg3)
 have HG3:=Hq (HG2.out.gb0 hg3)
 have WR:=Hq (wrap_str HK.out HQ3.out.rt z hzs 1 _ (.inr (.inr ⟨b,rfl⟩)))
 clear hg3
 go_wp2_with fail
 refine WR.out.mono ?_
 rintro e w4 ⟨b4,rfl,hg4⟩
 have HQ4:=Hq (HQ3.out.gb0 hg4)
 have HG4:=Hq (HG3.out.gb0 hg4)
 obtain ⟨g0,g1,g2,gf0,gf1,gf2⟩:=HG4.out.facts
 clear hg4 WR
 go_wp2_with fail
 exact tok_fin (HQ4.out.tw HG4.out HBG.out) rfl rfl rfl (.inr ⟨_,rfl⟩)
end Go.Proofs.YtknaalohaagcdaaGreatDoor.Own
