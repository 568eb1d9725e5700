import Derived.Test.YtknaalohaagcdaaGreatDoorG01
import Derived.Test.YtknaalohaagcdaaGreatDoorG39
import Derived.Laws.ResultCell
set_option maxHeartbeats 400000000
set_option maxRecDepth 100000
namespace Go.Proofs.YtknaalohaagcdaaGreatDoor.Own
open Go.RowKit JG
def BZ(g:Nat)(w:World):Prop:=w.heap[g]? = some (.cells #[.pointer none,.string ⟨#[]⟩,.int .u64 0] 70 (0,0))
theorem BZ.lt{g:Nat}{w:World}(h:BZ g w):g<w.heap.size:=(Array.getElem?_eq_some_iff.1 h).1
theorem BZ.facts{g:Nat}{w:World}(h:BZ g w):w.cell? ⟨g,0,none⟩=some (.pointer none)∧w.cell? ⟨g,1,none⟩=some (.string ⟨#[]⟩)∧w.cell? ⟨g,2,none⟩=some (.int .u64 0)∧w.frozen? ⟨g,0,none⟩=false∧w.frozen? ⟨g,1,none⟩=false∧w.frozen? ⟨g,2,none⟩=false:=by
 have fz:∀ o,w.frozen? ⟨g,o,none⟩=false:=fun o=>by unfold World.frozen?; simp only [show w.heap[g]? = _ from h]; simp
 exact ⟨by rw [cell_of_row _ _ _ _ _ (0,0) h]; rfl,by rw [cell_of_row _ _ _ _ _ (0,0) h]; rfl,by rw [cell_of_row _ _ _ _ _ (0,0) h]; rfl,fz 0,fz 1,fz 2⟩
def GB(g:Nat)(w:World):Prop:=BZ g w∧∃ q,q+1=g∧BZ q w
theorem GB.facts{g:Nat}{w:World}(h:GB g w):w.cell? ⟨g,0,none⟩=some (.pointer none)∧w.cell? ⟨g,1,none⟩=some (.string ⟨#[]⟩)∧w.cell? ⟨g,2,none⟩=some (.int .u64 0)∧w.frozen? ⟨g,0,none⟩=false∧w.frozen? ⟨g,1,none⟩=false∧w.frozen? ⟨g,2,none⟩=false:=h.1.facts
theorem GB.keep{g:Nat}{w w':World}(h:GB g w)(hk:∀ q,q<w.heap.size→q=g∨q+1=g→w'.heap[q]? = w.heap[q]?):GB g w':=by
 obtain ⟨h1,q,hq,h2⟩:=h
 exact ⟨(hk g h1.lt (.inl rfl)).trans h1,q,hq,(hk q h2.lt (.inr hq)).trans h2⟩
theorem GB.gb{g:Nat}{w w':World}{r:Option Nat}(h:GB g w)(hg:w.grownBy w' r)(hr:∀ b,r=some b→b≠g∧b+1≠g):GB g w':=h.keep (fun q hlt hq=>hg.block q hlt (fun e=>by have:=hr q e.symm; omega))
theorem GB.gb0{g:Nat}{w w':World}(h:GB g w)(hg:w.grownBy w' none):GB g w':=h.gb hg (fun b e=>by cases e)
def DBk(d:Nat)(w:World):Prop:=∃ ds,w.heap[d]? = some (.cells ds 109 (0,0))∧ds.size=24
def RtP(b0 d g:Nat)(P:Value→Prop)(w0:World)(e:Ending)(w':World):Prop:=∃ a b c v,e=.returned (.tuple #[.agg #[.pointer a,.string b,.int .u64 c],v])∧P v∧Kp b0 w0 w'∧DBk d w'∧∃ q,q+1=g∧BZ q w'
structure TW(b0 d g:Nat)(w0 W:World):Prop where
 kp:Kp b0 w0 W
 db:DBk d W
 gb:GB g W
 b0d:b0≤d
 b0g:b0≤g
 dg:d≠g∧d+1≠g
theorem tok_fin{b0 d g:Nat}{P:Value→Prop}{w0 W:World}{a:Option Addr}{b:ByteArray}{c:Int}{v:Value}{act:Go.Act}(h:TW b0 d g w0 W)(h2:act.tmps.getD 2 undef=.pointer (some ⟨g,0,none⟩))(h3:act.tmps.getD 3 undef=v)(hd:act.defers=[])(hP:P v):
  bodyPost Tryz.prog Tryz.f50 (RtP b0 d g P w0) .ret act (((W.setCell ⟨g,0,none⟩ (.pointer a)).setCell ⟨g,1,none⟩ (.string b)).setCell ⟨g,2,none⟩ (.int .u64 c)):=by
 have hb:(((W.setCell ⟨g,0,none⟩ (.pointer a)).setCell ⟨g,1,none⟩ (.string b)).setCell ⟨g,2,none⟩ (.int .u64 c)).heap[g]? = some (.cells #[.pointer a,.string b,.int .u64 c] 70 (0,0)):=heap_set_cells (heap_set_cells (heap_set_cells h.gb.1))
 have hr:(results Tryz.f50 act.tmps).run Tryz.prog (((W.setCell ⟨g,0,none⟩ (.pointer a)).setCell ⟨g,1,none⟩ (.string b)).setCell ⟨g,2,none⟩ (.int .u64 c))=.ok (.tuple #[.agg #[.pointer a,.string b,.int .u64 c],v]) (((W.setCell ⟨g,0,none⟩ (.pointer a)).setCell ⟨g,1,none⟩ (.string b)).setCell ⟨g,2,none⟩ (.int .u64 c)):=by
  rw [results_cell_tmp Tryz.results50,h2,h3]
  simp only [asAddr,Sem.run_pure,Result.andThen_ok,run_loadVar_row _ g 70 70 _ (0,0) _ hb Tryz.underlying70 rfl info70]
 obtain ⟨ds,hds,hz⟩:=h.db
 have hne:d≠g:=h.dg.1
 obtain ⟨_,q,hq,hqz⟩:=h.gb
 have hqg:q≠g:=by omega
 refine bodyPost_ret hr hd ⟨a,b,c,v,rfl,hP,((h.kp.trans (Kp.set h.b0g)).trans (Kp.set h.b0g)).trans (Kp.set h.b0g),⟨ds,?_,hz⟩,q,hq,?_⟩
 ·rw [heap_set_other hne,heap_set_other hne,heap_set_other hne]
  exact hds
 ·show _=_
  rw [heap_set_other hqg,heap_set_other hqg,heap_set_other hqg]
  exact hqz
theorem RQ.tw{A:List Addr}{b0 base d B cap g:Nat}{s:ByteArray}{vals l:Int}{aU aI aE aM:Addr}{p:Nat}{ds:Array Value}{ao:Option Addr}{c:Nat}{nsv:Value}{lab:Nat→Nat}{w w':World}(h:RQ A b0 base d B cap s vals l aU aI aE aM p ds ao c nsv lab w w')(hg:GB g w')(hb:base<g):TW b0 d g w w':=
 ⟨h.kp,⟨ds,h.rt.db.blk,h.rt.db.dc.sz⟩,hg,h.b0d,Nat.le_trans h.b0b (Nat.le_of_lt hb),fun e=>by have:=h.db; omega,fun e=>by have:=h.db; omega⟩
def NoEnd(v:Value):Prop:=v=.nilIface∨∃ b,v=.iface 179 (.pointer (some ⟨b,0,none⟩))
theorem rt_end(A:List Addr)(b0 base d B cap:Nat)(s:ByteArray)(vals l:Int)(aU aI aE aM:Addr)(p0:Nat)(hp0:p0≤s.size)(ds:Array Value)(ao:Option Addr)(c:Nat)(nsv:Value)(lab:Nat→Nat)(w0 w:World)(K:KC A s cap vals aU aI aE aM)(h:RQ A b0 base d B cap s vals l aU aI aE aM p0 ds ao c nsv lab w0 w)(hbg:base<w.heap.size)(hzq:∃ q,q+1=w.heap.size∧BZ q w)(hze:p0+ws ((bytes s).drop p0)=s.size):
  Calls Tryz.prog 50 #[.pointer (some ⟨d,0,none⟩)] w (RtP b0 d w.heap.size (fun v=>v=.iface 260 (.pointer (some aE))) w0):=by
 have HQ:=Hq (h.gb0 (World.grownBy_alloc w (.cells #[.pointer none,.string ⟨#[]⟩,.int .u64 0] 70) none))
 have c5:(w.alloc (.cells #[.pointer none,.string ⟨#[]⟩,.int .u64 0] 70)).cell? ⟨d,5,none⟩=some (.int .i64 0):=by rw [cell_of_row _ _ _ _ _ (0,0) HQ.out.rt.db.blk]; exact HQ.out.c5
 have HG:=Hq (show GB w.heap.size (w.alloc (.cells #[.pointer none,.string ⟨#[]⟩,.int .u64 0] 70)) from ⟨heap_alloc_new w _,by obtain ⟨q,hq,hz⟩:=hzq; exact ⟨q,hq,(heap_alloc_old w _ hz.lt).trans hz⟩⟩)
 have IV:=Hq (inval60 d (w.alloc (.cells #[.pointer none,.string ⟨#[]⟩,.int .u64 0] 70)) HQ.out.rt.db.facts.2.2.2.1)
 have HK:=Hq K
 have hcap:=K.hcap
 have hs:=K.hs
 have HBG:=Hq hbg
 have HL:=Hq h.rt.l01
 obtain ⟨z',HZ⟩:∃ z,Hid (ws ((bytes s).drop p0)=z):=⟨_,Hq rfl⟩
 obtain ⟨z,hz⟩:∃ z,p0+z'=z:=⟨_,rfl⟩
 have hzs:z≤s.size:=by have:=ws_fit hp0; rw [HZ.out] at this; omega
 have xz:(p0:Int)+(z':Int)=(z:Int):=by omega
 have z0:(0:Int)≤(z:Int):=Int.natCast_nonneg _
 have p00:(0:Int)≤(p0:Int):=Int.natCast_nonneg _
 have HZP:=Hq hz
 have HZE:=Hq (show z=s.size by rw [← hz,← HZ.out]; exact hze)
 clear hze
 clear h K hz hbg hzq
 go_enter Tryz.func50,Tryz.ntmps50
 go_wp2_with fail
 refine IV.out.mono ?_
 rintro e w1 ⟨rfl,n1,hw1⟩
 have hgA:(w.alloc (.cells #[.pointer none,.string ⟨#[]⟩,.int .u64 0] 70)).grownBy w1 none:=by rw [hw1]; exact gb_drewN (World.grownBy.refl _ _) n1
 have HQ1:=Hq (HQ.out.gb0 hgA)
 have HG1:=Hq (HG.out.gb0 hgA)
 clear hw1 hgA IV c5 HQ HG
 obtain ⟨k0,k1,_,_,_⟩:=HQ1.out.rt.top.facts HQ1.out.rt.db.blk
 obtain ⟨_,k7,k10,_,_⟩:=HQ1.out.rt.db.facts
 have k9:w1.cell? ⟨d,9,none⟩=some (.int .i64 p0):=by rw [cell_of_row _ _ _ _ _ (0,0) HQ1.out.rt.db.blk]; exact HQ1.out.c9
 have hr:=rest_run (W:=w1) (B:=B) (cap:=cap) (q:=p0) (n:=s.size) hp0 hcap
 have W1:=wsC B p0 cap s w1 (by omega) hp0 hcap HQ1.out.rt.bf
 rw [HZ.out] at W1
 have W1:=Hq W1
 generalize rest B cap p0 s.size=u at hr W1
 have M:=Hq (fun b hb=>more62 d ds B cap z s vals l w1 HQ1.out.rt.db b hb)
 go_wp2_with fail
 refine W1.out.mono ?_
 rintro e w' ⟨rfl,rfl⟩
 go_wp2_with fail
 have hze:=HZE.out
 have M1:=Hq (M.out true (by simpa using hze))
 subst hze
 have WE:=Hq (wsEnd63 d ds B cap s vals l _ w1 (by omega) hcap HQ1.out.rt.db HQ1.out.rt.bf HQ1.out.rt.gl.eof aU rfl)
 have DP:=Hq (depth64 ao c l w1)
 have cU:=HQ1.out.rt.gl.eof
 have e1:=eqS aU w1
 clear M W1 hr
 refine M1.out.mono ?_
 rintro e w' ⟨rfl,rfl⟩
 go_wp2_with fail
 refine WE.out.mono ?_
 rintro e w' ⟨rfl,rfl⟩
 go_wp2_with fail
 refine DP.out.mono ?_
 rintro e w2 ⟨rfl,hg2⟩
 have HQ2:=Hq (HQ1.out.gb0 hg2)
 have HG2:=Hq (HG1.out.gb0 hg2)
 have cE:=HQ2.out.rt.cE
 have WR:=Hq (wrap65_E d s.size 0 aE w2 cE)
 obtain ⟨g0,g1,g2,gf0,gf1,gf2⟩:=HG2.out.facts
 clear hg2 WE DP M1
 go_wp2_with fail
 refine WR.out.mono ?_
 rintro e w' ⟨rfl,rfl⟩
 go_wp2_with fail
 exact tok_fin (HQ2.out.tw HG2.out HBG.out) rfl rfl rfl rfl
theorem rt_delim(A:List Addr)(b0 base d B cap:Nat)(s:ByteArray)(vals l:Int)(aU aI aE aM:Addr)(p0:Nat)(hp0:p0≤s.size)(ds:Array Value)(ao:Option Addr)(c:Nat)(nsv:Value)(lab:Nat→Nat)(w0 w:World)(K:KC A s cap vals aU aI aE aM)(h:RQ A b0 base d B cap s vals l aU aI aE aM p0 ds ao c nsv lab w0 w)(hbg:base<w.heap.size)(hzq:∃ q,q+1=w.heap.size∧BZ q w)(hzl':p0+ws ((bytes s).drop p0)<s.size)(x:Int)(hb:(s[p0+ws ((bytes s).drop p0)].toNat:Int)=x)(hx:x=58∨x=44):
  Calls Tryz.prog 50 #[.pointer (some ⟨d,0,none⟩)] w (RtP b0 d w.heap.size NoEnd w0):=by
 have HQ:=Hq (h.gb0 (World.grownBy_alloc w (.cells #[.pointer none,.string ⟨#[]⟩,.int .u64 0] 70) none))
 have c5:(w.alloc (.cells #[.pointer none,.string ⟨#[]⟩,.int .u64 0] 70)).cell? ⟨d,5,none⟩=some (.int .i64 0):=by rw [cell_of_row _ _ _ _ _ (0,0) HQ.out.rt.db.blk]; exact HQ.out.c5
 have HG:=Hq (show GB w.heap.size (w.alloc (.cells #[.pointer none,.string ⟨#[]⟩,.int .u64 0] 70)) from ⟨heap_alloc_new w _,by obtain ⟨q,hq,hz⟩:=hzq; exact ⟨q,hq,(heap_alloc_old w _ hz.lt).trans hz⟩⟩)
 have IV:=Hq (inval60 d (w.alloc (.cells #[.pointer none,.string ⟨#[]⟩,.int .u64 0] 70)) HQ.out.rt.db.facts.2.2.2.1)
 have HK:=Hq K
 have hcap:=K.hcap
 have hs:=K.hs
 have HBG:=Hq hbg
 have HL:=Hq h.rt.l01
 obtain ⟨z',HZ⟩:∃ z,Hid (ws ((bytes s).drop p0)=z):=⟨_,Hq rfl⟩
 obtain ⟨z,hz⟩:∃ z,p0+z'=z:=⟨_,rfl⟩
 have hzs:z≤s.size:=by have:=ws_fit hp0; rw [HZ.out] at this; omega
 have xz:(p0:Int)+(z':Int)=(z:Int):=by omega
 have z0:(0:Int)≤(z:Int):=Int.natCast_nonneg _
 have p00:(0:Int)≤(p0:Int):=Int.natCast_nonneg _
 have HZP:=Hq hz
 have hzl:z<s.size:=by have h1:=HZ.out; omega
 have HBC:=Hq (show (s[z].toNat:Int)=x by have e:p0+ws ((bytes s).drop p0)=z:=by { rw [HZ.out]; exact hz }; simpa only [e] using hb)
 clear hzl' hb
 clear h K hz hbg hzq
 go_enter Tryz.func50,Tryz.ntmps50
 go_wp2_with fail
 refine IV.out.mono ?_
 rintro e w1 ⟨rfl,n1,hw1⟩
 have hgA:(w.alloc (.cells #[.pointer none,.string ⟨#[]⟩,.int .u64 0] 70)).grownBy w1 none:=by rw [hw1]; exact gb_drewN (World.grownBy.refl _ _) n1
 have HQ1:=Hq (HQ.out.gb0 hgA)
 have HG1:=Hq (HG.out.gb0 hgA)
 clear hw1 hgA IV c5 HQ HG
 obtain ⟨k0,k1,_,_,_⟩:=HQ1.out.rt.top.facts HQ1.out.rt.db.blk
 obtain ⟨_,k7,k10,_,_⟩:=HQ1.out.rt.db.facts
 have k9:w1.cell? ⟨d,9,none⟩=some (.int .i64 p0):=by rw [cell_of_row _ _ _ _ _ (0,0) HQ1.out.rt.db.blk]; exact HQ1.out.c9
 have hr:=rest_run (W:=w1) (B:=B) (cap:=cap) (q:=p0) (n:=s.size) hp0 hcap
 have W1:=wsC B p0 cap s w1 (by omega) hp0 hcap HQ1.out.rt.bf
 rw [HZ.out] at W1
 have W1:=Hq W1
 generalize rest B cap p0 s.size=u at hr W1
 have M:=Hq (fun b hb=>more62 d ds B cap z s vals l w1 HQ1.out.rt.db b hb)
 go_wp2_with fail
 refine W1.out.mono ?_
 rintro e w' ⟨rfl,rfl⟩
 go_wp2_with fail
 have hlt:=hzl
 have M1:=Hq (M.out false (by simp; omega))
 have cp:=HQ1.out.rt.bf z hlt
 rw [HBC.out] at cp
 have z1:(z:Int)<(s.size:Int):=by omega
 have t1:decide (s.size≤z)=false:=by simp; omega
 have t2:decide ((s.size:Int)≤(z:Int))=false:=by simp; omega
 clear M W1 hr
 refine M1.out.mono ?_
 rintro e w' ⟨rfl,rfl⟩
 have BF:=Hq (fun w (h:RQ A b0 base d B cap s vals l aU aI aE aM p0 ds ao c nsv lab w0 w) v=>before66 HK.out h.rt p0 hp0 h.c9 x hx v)
 have CK:=Hq (fun w (h:RQ A b0 base d B cap s vals l aU aI aE aM p0 ds ao c nsv lab w0 w) nx=>check68 HK.out h.rt p0 hp0 h.c9 x nx hx)
 have e58:(x==58)=decide (x=58):=by rcases hx with rfl|rfl<;>rfl
 have e44:(x==44)=decide (x=44):=by rcases hx with rfl|rfl<;>rfl
 have e0:(0 != x)=true:=by rcases hx with rfl|rfl<;>rfl
 obtain ⟨y,HY⟩:∃ y,Hid (ws ((bytes s).drop (z+1))=y):=⟨_,Hq rfl⟩
 obtain ⟨p,hp⟩:∃ p,z+1=p:=⟨_,rfl⟩
 have hps:p≤s.size:=by omega
 obtain ⟨q,hq⟩:∃ q,p+y=q:=⟨_,rfl⟩
 have hqs:q≤s.size:=by have:=ws_fit (s:=s) (p:=z+1) (by omega); rw [HY.out] at this; omega
 have x1:(z:Int)+1=(p:Int):=by omega
 have x2:(p:Int)+(y:Int)=(q:Int):=by omega
 have pp0:(0:Int)≤(p:Int):=Int.natCast_nonneg _
 have q0:(0:Int)≤(q:Int):=Int.natCast_nonneg _
 have hr2:=rest_run (W:=w1) (B:=B) (cap:=cap) (q:=p) (n:=s.size) hps hcap
 have W2:=wsC B p cap s w1 (by omega) hps hcap HQ1.out.rt.bf
 rw [show ws ((bytes s).drop p)=y by rw [← hp]; exact HY.out] at W2
 have W2:=Hq W2
 generalize rest B cap p s.size=u2 at hr2 W2
 have M2:=Hq (fun b hb=>more62 d ds B cap q s vals l w1 HQ1.out.rt.db b hb)
 clear hp hq HY M1 HBC
 rcases hx with rfl|rfl
 all_goals
  go_wp2_with fail
  refine W2.out.mono ?_
  rintro e w' ⟨rfl,rfl⟩
  go_wp2_with fail
  by_cases hqe:q=s.size
  ·have M3:=Hq (M2.out true (by simpa using hqe))
   subst hqe
   have WE:=Hq (wsEnd63 d ds B cap s vals l _ w1 (by omega) hcap HQ1.out.rt.db HQ1.out.rt.bf HQ1.out.rt.gl.eof aU rfl)
   have WR:=Hq (wrap_str HK.out HQ1.out.rt s.size (Nat.le_refl _) 0 _ (.inl rfl))
   refine M3.out.mono ?_
   rintro e w' ⟨rfl,rfl⟩
   go_wp2_with fail
   refine WE.out.mono ?_
   rintro e w' ⟨rfl,rfl⟩
   go_wp2_with fail
   refine WR.out.mono ?_
   rintro e w2 ⟨bb,rfl,hg2⟩
   have HQ2:=Hq (HQ1.out.gb0 hg2)
   have HG2:=Hq (HG1.out.gb0 hg2)
   have B2:=Hq (BF.out w2 HQ2.out (.iface 179 (.pointer (some ⟨bb,0,none⟩))))
   clear hg2 WE M3 BF CK W2 M2
   go_wp2_with fail
   refine B2.out.mono ?_
   rintro e w3 ⟨b3,rfl,hg3⟩
   have HQ3:=Hq (HQ2.out.gb0 hg3)
   have HG3:=Hq (HG2.out.gb0 hg3)
   obtain ⟨g0,g1,g2,gf0,gf1,gf2⟩:=HG3.out.facts
   clear hg3
   go_wp2_with fail
   exact tok_fin (HQ3.out.tw HG3.out HBG.out) rfl rfl rfl (.inr ⟨_,rfl⟩)
  ·have hql:q<s.size:=by omega
   have M3:=Hq (M2.out false (by simpa using hqe))
   have cq:=HQ1.out.rt.bf q hql
   obtain ⟨cx,hcx⟩:∃ cx:Int,(s[q].toNat:Int)=cx:=⟨_,rfl⟩
   have hcx0:0≤cx:=by omega
   have hcx1:cx≤255:=by have:=s[q].toNat_lt; omega
   rw [hcx] at cq
   have q1:(q:Int)<(s.size:Int):=by omega
   have t3:decide (s.size≤q)=false:=by simp; omega
   have t4:decide ((s.size:Int)≤(q:Int))=false:=by simp; omega
   have KD:=Hq (kind59 cx (normK cx) hcx0 hcx1 rfl w1 HQ1.out.rt.nk)
   have DL:=Hq (delim67 ao c l (normK cx) HL.out w1)
   generalize normK cx=kx at KD DL
   clear M2 W2 BF hqe hcx hcx0 hcx1
   refine M3.out.mono ?_
   rintro e w' ⟨rfl,rfl⟩
   go_wp2_with fail
   refine KD.out.mono ?_
   rintro e w' ⟨rfl,rfl⟩
   go_wp2_with fail
   refine DL.out.mono ?_
   rintro e w2 ⟨rfl,hg2⟩
   have HQ2:=Hq (HQ1.out.gb0 hg2)
   have HG2:=Hq (HG1.out.gb0 hg2)
   have C2:=Hq (CK.out w2 HQ2.out kx)
   clear hg2 CK DL KD
   go_wp2_with fail
   refine C2.out.mono ?_
   rintro e w3 ⟨b3,rfl,hg3⟩
   have HQ3:=Hq (HQ2.out.gb0 hg3)
   have HG3:=Hq (HG2.out.gb0 hg3)
   obtain ⟨g0,g1,g2,gf0,gf1,gf2⟩:=HG3.out.facts
   clear hg3
   go_wp2_with fail
   exact tok_fin (HQ3.out.tw HG3.out HBG.out) rfl rfl rfl (.inr ⟨_,rfl⟩)
end Go.Proofs.YtknaalohaagcdaaGreatDoor.Own
