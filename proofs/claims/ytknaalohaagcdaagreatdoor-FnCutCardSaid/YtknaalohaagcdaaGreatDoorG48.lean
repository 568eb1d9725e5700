import Derived.Test.YtknaalohaagcdaaGreatDoorG01
import Derived.Test.YtknaalohaagcdaaGreatDoorG27
set_option maxHeartbeats 400000000
set_option maxRecDepth 100000
namespace Go.Proofs.YtknaalohaagcdaaGreatDoor.Own
open Go.RowKit JG
theorem own_unlike{w:World}{b1 b2:Nat}{e1 e2:TypeId}{s1 s2 n1 n2:Nat}{v1 v2:Value}{x1 x2:List Value}(h1:w.ownsRow b1 e1 s1 v1 n1 x1)(h2:w.ownsRow b2 e2 s2 v2 n2 x2)(hne:e1≠e2):∀ q,v1.ownBlock=some q→v2.ownBlock≠some q:=by
 intro q hq hq2
 rcases h1.2 with ⟨rfl,_⟩|⟨g1,c1,u1,rfl,_,hg1,_⟩
 ·cases hq
 rcases h2.2 with ⟨rfl,_⟩|⟨g2,c2,u2,rfl,_,hg2,_⟩
 ·cases hq2
 obtain rfl:g1=q:=Option.some.inj hq
 obtain rfl:g2=g1:=Option.some.inj hq2
 rw [hg1] at hg2
 cases hg2
 exact hne rfl
structure KN(g m:Nat)(s:ByteArray)(q:Nat)(tw lo op:Bool)(k:Int)(tx:ByteArray)(ns:Value)(nn:Nat)(nx:List Value)(gg cap cnt:Nat)(ks:Value)(w0 w:World):Prop where
 ks:KS g m s q tw lo op k tx ns gg cap cnt ks w0 w
 own:w.ownsRow w0.heap.size 9 1 ns nn nx
theorem KN.setg{g m:Nat}{s:ByteArray}{q:Nat}{tw lo op:Bool}{k:Int}{tx:ByteArray}{ns:Value}{nn:Nat}{nx:List Value}{gg cap cnt:Nat}{ks:Value}{w0 w:World}(h:KN g m s q tw lo op k tx ns nn nx gg cap cnt ks w0 w)(i:Nat)(v:Value):KN g m s q tw lo op k tx ns nn nx gg cap cnt ks w0 (w.setCell ⟨gg,i,none⟩ v):=by
 have hset:w.grownBy (w.setCell ⟨gg,i,none⟩ v) (some gg):=Go.Lib.grownBy_setCell _ _ _ _
 obtain ⟨xs,hk⟩:=h.ks.kids
 exact ⟨h.ks.setg i v,own_block h.own (fun j hj=>hset.block j (h.own.lt j hj).2 (fun e=>own_unlike h.own hk (by decide) j hj (by rw [e]; rfl)))⟩
theorem KN.setm{g m:Nat}{s:ByteArray}{q:Nat}{tw lo op:Bool}{k:Int}{tx:ByteArray}{ns:Value}{nn:Nat}{nx:List Value}{gg cap cnt:Nat}{ks:Value}{w0 w:World}(h:KN g m s q tw lo op k tx ns nn nx gg cap cnt ks w0 w)(v:Value):KN g m s q tw lo op k tx ns nn nx gg cap cnt v w0 (w.setCell ⟨m,3,none⟩ v):=by
 have hset:w.grownBy (w.setCell ⟨m,3,none⟩ v) (some m):=Go.Lib.grownBy_setCell _ _ _ _
 have:=h.ks.mlt
 exact ⟨h.ks.setm v,own_block h.own (fun j hj=>hset.block j (h.own.lt j hj).2 (fun e=>by have:=h.own.lt j hj; have:=Option.some.inj e; omega))⟩
theorem KN.start{g m:Nat}{s:ByteArray}{q:Nat}{tw lo op:Bool}{k:Int}{tx:ByteArray}{ns ks:Value}{nn:Nat}{nx:List Value}{gg cap cnt:Nat}{xs kv:List Value}{c0:Nat}{w0 w3 W w4:World}(hgm:g≠m)(hg:g<w0.heap.size)(hm:m<w0.heap.size)(hR:R w3 g s q tw lo 0 op)(hN:Nd w3 m k tx ns ks)(ht:Two g m w0 w3)(hW:w3.grownBy W none)(hgrow:W.grownBy w4 ks.ownBlock)
  (hkown:w3.ownsRow w0.heap.size 42 4 ks c0 kv) (hnown:w3.ownsRow w0.heap.size 9 1 ns nn nx) (hown:w4.ownsRow w0.heap.size 42 4 (.slice (some ⟨gg,0,none⟩) cnt cap) cnt xs):KN g m s q tw lo op k tx ns nn nx gg cap cnt ks w0 w4:=
 ⟨KS.start hgm hg hm hR hN ht hW hgrow (fun q hq=>(hkown.lt q hq).1) hown,
  own_block hnown (fun j hj=>(hgrow.block j (Nat.lt_of_lt_of_le (hnown.lt j hj).2 hW.size) (fun e=>own_unlike hnown hkown (by decide) j hj e.symm)).trans (hW.block j (hnown.lt j hj).2 (by simp)))⟩
theorem name_yes{g m:Nat}{s:ByteArray}{p:Nat}{tw lo op:Bool}{k:Int}{tx:ByteArray}{ns ks:Value}{base:Nat}{nms:List ByteArray}{r:Option Nat × Bool}{w:World}{f:FuncId}{args:Array Value}(h:Calls Tryz.prog f args w (NameP g m s p tw lo op k tx ns ks base nms r w)){j:Nat}{o:Bool}(hr:r=(some j,o)):
  Calls Tryz.prog f args w fun e w'=>e=.returned (.bool true)∧R w' g s (p+j) tw lo 0 (op || o)∧(∃ ns' nm,Nd w' m k tx ns' ks∧Good nm∧w'.ownsRow base 9 1 ns' (nms.length+1) ((nms++[nm]).map Value.string)∧(nms++[nm]).map bytes=namesO lo (nms.map bytes) ((bytes s).drop p))∧Fr (fun i=>i=g∨i=m∨some i=ns.ownBlock) w w':=by
 subst hr
 refine h.mono fun e w' hd => ?_
 rcases hd with ⟨k',h1,h2,h3,h4,h5⟩|⟨h1,_⟩
 ·cases h1
  exact ⟨h2,h3,h4,h5⟩
 ·cases h1
theorem name_not{g m:Nat}{s:ByteArray}{p:Nat}{tw lo op:Bool}{k:Int}{tx:ByteArray}{ns ks:Value}{base:Nat}{nms:List ByteArray}{r:Option Nat × Bool}{w:World}{f:FuncId}{args:Array Value}(h:Calls Tryz.prog f args w (NameP g m s p tw lo op k tx ns ks base nms r w)){o:Bool}(hr:r=(none,o)):
  Calls Tryz.prog f args w fun e w'=>e=.returned (.bool false)∧Failed g s tw lo (op || o) p w'∧(∃ ns',Nd w' m k tx ns' ks∧(ns'=ns∨∃ ao l c,ns'=.slice ao l c))∧Fr (fun i=>i=g∨i=m∨some i=ns.ownBlock) w w':=by
 subst hr
 refine h.mono fun e w' hd => ?_
 rcases hd with ⟨k',h1,_⟩|⟨h1,h2,h3,h4,h5⟩
 ·cases h1
 ·exact ⟨h2,h3,h4,h5⟩
theorem two_fr{g m:Nat}{ns:Value}{w0 w w':World}(h0:Two g m w0 w)(h:Fr (fun i=>i=g∨i=m∨some i=ns.ownBlock) w w')(hn:∀ j,ns.ownBlock=some j→w0.heap.size≤j):Two g m w0 w':=
 ⟨h.os.trans h0.os,h.tape.trans h0.tape,h.output.trans h0.output,Nat.le_trans h0.size h.size,fun i hi h1 h2=>(h.block i (Nat.lt_of_lt_of_le hi h0.size) (fun e=>by
  rcases e with e|e|e
  ·exact h1 e
  ·exact h2 e
  ·have:=hn i e.symm; omega)).trans (h0.block i hi h1 h2)⟩
theorem object45(n:Nat)(hV:∀ n',n'<n→VAll n')(g m:Nat)(s:ByteArray)(p:Nat)(tw lo op:Bool)(k:Int)(tx:ByteArray)(w:World)(hs:s.size≤4294967296)(h:R w g s p tw lo 0 op)(hN:Nd w m k tx (.slice none 0 0) (.slice none 0 0))(hne:m≠g)(hf:2 * (s.size-p)+1<n):
  Calls Tryz.prog 45 #[.pointer (some ⟨g,0,none⟩),.pointer (some ⟨m,0,none⟩)] w (SubP g m s p tw lo op (brO (chkT tw) lo n 125 (.mems []) ((bytes s).drop p)) w):=by
 obtain ⟨r,HRr⟩:∃ r,Hid (r=brO (chkT tw) lo n 125 (.mems []) ((bytes s).drop p)):=⟨_,Hq rfl⟩
 rw [← HRr.out]
 have SP:=Hq (space24 g s p tw lo 0 op w (by omega) h.2 h)
 have hgw:=h.lt
 have hmw:=hN.lt
 have hps:=h.2
 obtain ⟨c,HC⟩:∃ c,Hid (((bytes s).drop (p+ws ((bytes s).drop p))).headD 0=c):=⟨_,Hq rfl⟩
 have HN:=Hq hN
 have HB:=Hq hne
 obtain ⟨i0,hi,hz0,hz1,hz2⟩:=info_parts info42
 have SEE:=Hq (fun w h=>see_c g s (p+ws ((bytes s).drop p)) tw lo 0 op c HC.out w h)
 clear h hN hne
 by_cases hc:c=125
 ·subst hc
  have hlt:p+ws ((bytes s).drop p)<s.size:=headD_lt HC.out (by omega)
  have E:=Hq (show r=(some (ws ((bytes s).drop p)+1),false) by
   rw [HRr.out]
   unfold brO
   rw [List.drop_drop,HC.out,if_pos rfl])
  go_enter Tryz.func45,Tryz.ntmps45
  go_wp2_with fail
  refine SP.out.mono ?_
  rintro e w1 ⟨rfl,hR,hg⟩
  have HR1:=Hq hR
  have HG1:=Hq hg
  clear hR hg
  go_wp2_with fail
  refine (SEE.out w1 HR1.out).mono ?_
  rintro e w2 ⟨rfl,nd0,rfl⟩
  have hR6:=HR1.out.drew nd0
  obtain ⟨_,c1,_,_,_,_,f1,_,_⟩:=hR6.facts
  have HR6:=Hq (hR6.setAt (p+ws ((bytes s).drop p)+1) (by omega))
  clear hR6
  go_wp2_with fail
  go_ret
  have hg4:=gb_set (gb_drewN HG1.out nd0) 1 (.int .i64 (p+ws ((bytes s).drop p)+1:Nat))
  refine .inl ⟨ws ((bytes s).drop p)+1,by rw [E.out],rfl,?_,⟨k,tx,none,0,0,none,0,0,HN.out.kept hg4 HB.out⟩,Two.left hg4⟩
  rw [E.out,Bool.or_false]
  exact HR6.out
 ·have t1:(c==125)=false:=by simpa using hc
  go_enter Tryz.func45,Tryz.ntmps45
  go_wp2_with fail
  refine SP.out.mono ?_
  rintro e w1 ⟨rfl,hR,hg⟩
  have HR1:=Hq hR
  have HG1:=Hq hg
  have hp1:=hR.2
  clear hR hg
  go_wp2_with fail
  refine (SEE.out w1 HR1.out).mono ?_
  rintro e w2 ⟨rfl,nd0,rfl⟩
  go_wp2_with fail
  go_loopg [] n (fun gk wr=>∃ (q f cnt:Nat) (o':Bool) (nms:List ByteArray) (ns ks:Value),Hid (r=up (q-p) o' (run (chkT tw) lo f (.mems (nms.map bytes)) ((bytes s).drop q)))∧p≤q∧q≤s.size∧f≤n∧2 * (s.size-q)+1<f∧Hid (R wr g s q tw lo 0 (op || o'))∧Hid (Nd wr m k tx ns ks)∧Hid (wr.ownsRow w.heap.size 9 1 ns nms.length (nms.map Value.string))∧Hid (∀ x∈nms,Good x)∧nms.length≤q∧Hid (Kids wr w.heap.size ks cnt)∧cnt≤q∧Hid (Two g m w wr)∧Hid (gk=f))
  case atStart=>
   refine ⟨p+ws ((bytes s).drop p),n,0,false,[],.slice none 0 0,.slice none 0 0,Hq ?_,by omega,hp1,Nat.le_refl _,by omega,Hq ?_,Hq ?_,Hq (World.ownsRow_nil _ _ _ _),Hq (by simp),Nat.zero_le _,Hq ⟨[],World.ownsRow_nil _ _ _ _⟩,Nat.zero_le _,Hq ?_,Hq rfl⟩
   ·rw [HRr.out]
    unfold brO
    rw [List.drop_drop,HC.out,if_neg hc,show p+ws ((bytes s).drop p)-p=ws ((bytes s).drop p) by omega]
    rfl
   ·rw [Bool.or_false]
    exact HR1.out.drew _
   ·exact Nd.kept HN.out (gb_drewN HG1.out nd0) HB.out
   ·exact (Two.left HG1.out).drewN nd0
  case round=>
   obtain ⟨q,f,cnt,o',nms,ns,ks,HE,hpq,hqs,hfn,hff,HR,HNd,HNO,HGN,hnl,HK,hcnt,HT,HG⟩:=hrel
   obtain ⟨f',rfl⟩:∃ f',f=f'+1:=⟨f-1,by omega⟩
   have hwsz0:=HT.out.size
   have NM:=name52 g m s q tw lo (op || o') k tx ns ks w.heap.size nms wr hs HR.out HNd.out HB.out hgw hmw hwsz0 HNO.out HGN.out (by omega)
   obtain ⟨kv0,hkown0⟩:=HK.out
   obtain ⟨ao,cp,rfl⟩:=own_cnt hkown0
   obtain ⟨an,cn,rfl⟩:=own_cnt HNO.out
   have HKO:=Hq hkown0
   clear hkown0
   cases hnm:nameO (chkT tw) lo (nms.map bytes) ((bytes s).drop q) with
   |mk rj oj=>
   cases rj with
   |none=>
    have NN:=Hq (name_not NM hnm)
    have E:=Hq (HE.out.trans (by rw [run_mems_no hnm]))
    clear NM hnm
    go_wp2_with fail
    refine NN.out.mono ?_
    rintro e w3 ⟨rfl,hfl,⟨ns',hN3,hns'⟩,hF3⟩
    obtain ⟨xo,xl,xc,rfl⟩:∃ xo xl xc,ns'=.slice xo xl xc:=by
     rcases hns' with h|⟨a,b,c,h⟩
     ·exact ⟨_,_,_,h⟩
     ·exact ⟨_,_,_,h⟩
    have HZ:=Hq (And.intro hfl (And.intro hN3 hF3))
    clear hfl hN3 hF3 hns'
    go_wp2_with fail
    go_ret
    refine .inr ⟨by rw [E.out]; rfl,rfl,?_,⟨k,tx,xo,xl,xc,ao,cnt,cp,HZ.out.2.1⟩,two_fr HT.out HZ.out.2.2 (fun j hj=>(HNO.out.lt j hj).1)⟩
    rw [E.out]
    have e:=HZ.out.1.mono hpq
    simp only [Bool.or_assoc] at e
    exact e
   |some jj=>
   have NY:=Hq (name_yes NM hnm)
   have HNM:=Hq hnm
   have hjj:=(nameO_loc hnm).1
   have hjl:q+jj≤s.size:=by
    obtain ⟨_,pre,rest,h1,h2,_⟩:=nameO_loc hnm
    have:=congrArg List.length h1
    rw [List.length_drop,bytes_len,List.length_append] at this
    omega
   clear NM hnm
   go_wp2_with fail
   refine NY.out.mono ?_
   rintro e wn ⟨rfl,hRn,⟨ns',nm,hNn,hGm,hOn,hBn⟩,hFn⟩
   obtain ⟨an2,cn2,rfl⟩:=own_cnt hOn
   have HN1:=Hq (And.intro hRn (And.intro hNn (And.intro hOn (And.intro hGm hBn))))
   have hKn:wn.ownsRow w.heap.size 42 4 (.slice ao cnt cp) cnt kv0:=own_block HKO.out (fun j hj=>hFn.block j (HKO.out.lt j hj).2 (fun h=>by
    have:=HKO.out.lt j hj
    rcases h with h|h|h
    ·omega
    ·omega
    ·exact own_unlike HKO.out HNO.out (by decide) j hj h.symm))
   have HT1:=Hq (two_fr HT.out hFn (fun j hj=>(HNO.out.lt j hj).1))
   have HK1:=Hq hKn
   have V:=hV f' (by omega) g s (q+jj) tw lo (op || o' || oj) wn hs hRn (by omega)
   clear hRn hNn hOn hGm hBn hFn hKn HKO HK HNO HR HNd
   cases hv:run (chkT tw) lo f' .val ((bytes s).drop (q+jj)) with
   |mk ro oo=>
   cases ro with
   |none=>
    have VN:=Hq (val_no V hv)
    have E:=Hq (HE.out.trans (by rw [run_mems_val HNM.out (by rw [List.drop_drop]; exact hv)]))
    clear V hv
    go_wp2_with fail
    refine VN.out.mono ?_
    rintro e w3 ⟨nd,⟨k2,tx2,a2,la2,ca2,b2,lb2,cb2,rfl⟩,rfl,hfl,hg3⟩
    have HZ:=Hq (And.intro hfl hg3)
    clear hfl hg3
    go_wp2_with fail
    go_ret
    have hg4:wn.grownBy (w3.alloc (.cells #[.int .u8 k2,.string tx2,.slice a2 la2 ca2,.slice b2 lb2 cb2] 42)) (some g):=HZ.out.2.trans (World.grownBy_alloc w3 _ (some g))
    refine .inr ⟨by rw [E.out]; rfl,rfl,?_,⟨k,tx,an2,nms.length+1,cn2,ao,cnt,cp,HN1.out.2.1.kept hg4 HB.out⟩,HT1.out.trans (Two.left hg4)⟩
    rw [E.out]
    obtain ⟨q',fa,h1,h2,h3⟩:=HZ.out.1
    have e:=h3.block ((World.grownBy_alloc w3 (.cells #[.int .u8 k2,.string tx2,.slice a2 la2 ca2,.slice b2 lb2 cb2] 42) none).block g h3.lt (by simp))
    simp only [Bool.or_assoc] at e
    exact ⟨q',fa,h1,by omega,e⟩
   |some kk=>
    have VY:=Hq (val_yes V hv)
    have HVV:=Hq hv
    clear V hv
    go_wp2_with fail
    refine VY.out.mono ?_
    rintro e w3 ⟨nd,⟨k2,tx2,a2,la2,ca2,b2,lb2,cb2,rfl⟩,rfl,hR3,hg3⟩
    have HZ:=Hq (And.intro hR3 hg3)
    clear hR3 hg3
    have hNd3:=HN1.out.2.1.kept HZ.out.2 HB.out
    have hwsz:=HT1.out.size
    have own3:w3.ownsRow w.heap.size 42 4 (.slice ao cnt cp) cnt kv0:=own_block HK1.out (fun j hj=>HZ.out.2.block j (HK1.out.lt j hj).2 (fun e=>by have:=(HK1.out.lt j hj).1; have:=Option.some.inj e; omega))
    have nown3:w3.ownsRow w.heap.size 9 1 (.slice an2 (nms.length+1) cn2) (nms.length+1) ((nms++[nm]).map Value.string):=own_block HN1.out.2.2.1 (fun j hj=>HZ.out.2.block j (HN1.out.2.2.1.lt j hj).2 (fun e=>by have:=(HN1.out.2.2.1.lt j hj).1; have:=Option.some.inj e; omega))
    have lm:m<w3.heap.size:=Nat.lt_of_lt_of_le hmw (Nat.le_trans hwsz HZ.out.2.size)
    have hbase3:w.heap.size≤w3.heap.size:=Nat.le_trans hwsz HZ.out.2.size
    have hns:∀ q,(Value.slice ao cnt cp).ownBlock=some q→w.heap.size≤q∧q<w3.heap.size:=own3.lt
    have agm:(Value.slice ao cnt cp).ownBlock≠some m:=fun e=>by have:=hns m e; omega
    have i0c:(0:Int)≤(cnt:Int):=Int.natCast_nonneg _
    have i1c:(cnt:Int)<(cnt:Int)+1:=by omega
    obtain ⟨_,e3,_,fr3⟩:=hNd3.facts2
    have hkb:∀ o,(w3.alloc o).cell? ⟨m,3,none⟩=some (.slice ao cnt cp):=fun o=>(World.cell?_of_block (w:=w3) (a:=⟨m,3,none⟩) ((World.grownBy_alloc w3 o none).block m lm (by simp))).trans e3
    have hkf:∀ o,(w3.alloc o).frozen? ⟨m,3,none⟩=false:=fun o=>(World.frozen?_of_block (w:=w3) (a:=⟨m,3,none⟩) ((World.grownBy_alloc w3 o none).block m lm (by simp))).trans fr3
    have hnw:∀ o o',((w3.alloc o).alloc o').drew.heap[w3.heap.size+1]? = some o':=fun o o'=>by
     have h:=heap_alloc_new (w3.alloc o) o'
     rw [show (w3.alloc o).heap.size=w3.heap.size+1 by simp] at h
     exact h
    have hkv:kv0.length=cnt * 4:=own3.1
    have hmm:∀ o o',((w3.alloc o).alloc o').drew.heap[m]? = w3.heap[m]? := fun o o'=>((World.grownBy_alloc (w3.alloc o) o' none).block m (by simp; omega) (by simp)).trans ((World.grownBy_alloc w3 o none).block m lm (by simp))
    go_wp2_with fail
    go_upto_region 10 with (fail)
    go_cut [] from 30 to 40 (fun wc=>Hid (∃ gg cap,KN g m s (q+jj+kk) tw lo (op || o' || oj || oo) k tx (.slice an2 (nms.length+1) cn2) (nms.length+1) ((nms++[nm]).map Value.string) gg cap (cnt+1) (.slice (some ⟨gg,0,none⟩) (cnt+1) cap) w wc))
    case first=>
     go_region_law
      ((refine step_append_lies _ (by rfl) (.tmp 33) (.tmp 36) 40 (by rfl) w.heap.size 42 i0 _ 4 72 Tryz.underlying40 hi hz0 hz1 hz2 rfl (by omega) (.slice ao cnt cp) cnt kv0 (by rfl) (((own3.alloc _).alloc _).drew)
         ⟨w3.heap.size+1,0,none⟩ 1 1 [.int .u8 0,.string ⟨#[]⟩,.slice none 0 0,.slice none 0 0] (by rfl) (by rfl) (World.news_of_block (cs:=#[.int .u8 0,.string ⟨#[]⟩,.slice none 0 0,.slice none 0 0]) (t:=42) (fr:=(0,0)) (hnw _ _)) (by simp [Value.oneCell'])
         (by omega) (by simp only [maxLen]; omega) (by omega) (by simp; omega) (w3.heap.size+2) (by simp) ?_
        intro gg cap w4 hown4 hgrow hat hlt4
        have hb4:=hgrow.block m (by simp; omega) (fun e=>agm e.symm)
        have q1:w4.cell? ⟨m,3,none⟩=some (.slice ao cnt cp):=(World.cell?_of_block (w:=w3) (a:=⟨m,3,none⟩) (hb4.trans (hmm _ _))).trans e3
        have q2:w4.frozen? ⟨m,3,none⟩=false:=(World.frozen?_of_block (w:=w3) (a:=⟨m,3,none⟩) (hb4.trans (hmm _ _))).trans fr3
        have q3:=own_cell hown4 (cnt * 4) (.int .u8 0) (by rw [List.getElem?_append_right (by omega)]; simp [hkv])
        have q4:=own_cell hown4 (cnt * 4+1) (.string ⟨#[]⟩) (by rw [List.getElem?_append_right (by omega)]; simp [hkv])
        have q5:=own_cell hown4 (cnt * 4+2) (.slice none 0 0) (by rw [List.getElem?_append_right (by omega)]; simp [hkv])
        have q6:=own_cell hown4 (cnt * 4+3) (.slice none 0 0) (by rw [List.getElem?_append_right (by omega)]; simp [hkv])
        obtain ⟨q3,q3'⟩:=q3
        obtain ⟨q4,q4'⟩:=q4
        obtain ⟨q5,q5'⟩:=q5
        obtain ⟨q6,q6'⟩:=q6
        have q7:¬ gg=m:=fun e=>by have:=hown4.lt gg rfl; omega
        have q8:¬ m=gg:=fun e=>q7 e.symm))
     all_goals
      go_wp2_with fail
      go_meet
      have K0:=KN.start (Ne.symm HB.out) hgw hmw HZ.out.1 hNd3 (HT1.out.trans (Two.left HZ.out.2)) (gb_drewN ((World.grownBy_alloc w3 _ none).trans (World.grownBy_alloc _ _ none)) 1) hgrow own3 nown3 hown4
      refine Hq ⟨gg,cap,?_⟩
      with_reducible
       first
        |exact ((((K0.setg _ _).setg _ _).setg _ _).setg _ _).setm _
        |exact ((((K0.setm _).setg _ _).setg _ _).setg _ _).setg _ _
    case rest=>
     obtain ⟨gg,cap,HS⟩:=hcut.out
     have HS:=Hq HS
     clear agm i0c i1c e3 fr3 hkb hkf hnw hkv hmm hns own3 nown3
     have hqk:=HS.out.ks.r.2
     have SP2:=Hq (space24 g s (q+jj+kk) tw lo 0 (op || o' || oj || oo) wc (by omega) hqk HS.out.ks.r)
     go_wp2_with fail
     refine SP2.out.mono ?_
     rintro e w5 ⟨rfl,hR5,hg5⟩
     obtain ⟨c',HC'⟩:∃ c',Hid (((bytes s).drop (q+jj+kk+ws ((bytes s).drop (q+jj+kk)))).headD 0=c'):=⟨_,Hq rfl⟩
     have SE:=Hq (see_c g s (q+jj+kk+ws ((bytes s).drop (q+jj+kk))) tw lo 0 (op || o' || oj || oo) c' HC'.out w5 hR5)
     have H5:=Hq (And.intro hR5 hg5)
     have hsub:∀ w',w5.grownBy w' (some g)→NdS w' m∧Two g m w w':=fun w' hg=>⟨⟨k,tx,an2,nms.length+1,cn2,some ⟨gg,0,none⟩,cnt+1,cap,HS.out.ks.nd.kept (H5.out.2.trans hg) HB.out⟩,HS.out.ks.two.trans (Two.left (H5.out.2.trans hg))⟩
     have HSUB:=Hq hsub
     clear hR5 hg5 hsub
     go_wp2_with fail
     refine SE.out.mono ?_
     rintro e w6 ⟨rfl,nd6,rfl⟩
     have hdr:((bytes s).drop q).drop (jj+kk)=(bytes s).drop (q+jj+kk):=by rw [List.drop_drop,Nat.add_assoc]
     have hdr2:((bytes s).drop (q+jj+kk)).drop (ws ((bytes s).drop (q+jj+kk)))=(bytes s).drop (q+jj+kk+ws ((bytes s).drop (q+jj+kk))):=by rw [List.drop_drop]
     by_cases h125:c'=125
     ·have E:=Hq (show r=(some (jj+kk+ws ((bytes s).drop (q+jj+kk))+1+(q-p)),o' || (oj || oo)) by
       rw [HE.out,run_mems_end HNM.out (by rw [List.drop_drop]; exact HVV.out) (by rw [hdr,hdr2,HC'.out]; exact h125),hdr]
       rfl)
      have hlt:q+jj+kk+ws ((bytes s).drop (q+jj+kk))<s.size:=headD_lt HC'.out (by omega)
      have hR6:=H5.out.1.drew nd6
      obtain ⟨_,c1,_,_,_,_,f1,_,_⟩:=hR6.facts
      have HR6:=Hq (hR6.setAt (q+jj+kk+ws ((bytes s).drop (q+jj+kk))+1) (by omega))
      subst h125
      clear hR6 hdr hdr2
      go_wp2_with fail
      go_ret
      refine .inl ⟨jj+kk+ws ((bytes s).drop (q+jj+kk))+1+(q-p),by rw [E.out],rfl,?_,HSUB.out _ (gb_set (gb_drewN (World.grownBy.refl _ _) nd6) _ _)⟩
      rw [E.out,show p+(jj+kk+ws ((bytes s).drop (q+jj+kk))+1+(q-p))=q+jj+kk+ws ((bytes s).drop (q+jj+kk))+1 by omega]
      have e:=HR6.out
      simp only [Bool.or_assoc] at e
      exact e
     ·have t9:(c'==125)=false:=by simpa using h125
      have ND:=need53 g s (q+jj+kk+ws ((bytes s).drop (q+jj+kk))) tw lo (op || o' || oj || oo) 44 44 (w5.drewN nd6) (by omega) (H5.out.1.drew nd6)
      by_cases h44:c'=44
      ·have NY:=Hq (calls_yes ND (needs_head (by decide) (HC'.out.trans h44)))
       have E:=Hq (show r=up (q+jj+kk+ws ((bytes s).drop (q+jj+kk))+1+ws ((bytes s).drop (q+jj+kk+ws ((bytes s).drop (q+jj+kk))+1))-p) (o' || (oj || oo)) (run (chkT tw) lo f' (.mems ((nms++[nm]).map bytes)) ((bytes s).drop (q+jj+kk+ws ((bytes s).drop (q+jj+kk))+1+ws ((bytes s).drop (q+jj+kk+ws ((bytes s).drop (q+jj+kk))+1))))) by
        rw [HE.out,run_mems_more HNM.out (by rw [List.drop_drop]; exact HVV.out) (by rw [hdr,hdr2,HC'.out]; exact h44),hdr,HN1.out.2.2.2.2,List.drop_drop,List.drop_drop,up_up,
         show q+(jj+kk+ws ((bytes s).drop (q+jj+kk))+1)=q+jj+kk+ws ((bytes s).drop (q+jj+kk))+1 by omega]
        rw [show jj+kk+ws ((bytes s).drop (q+jj+kk))+1+ws ((bytes s).drop (q+jj+kk+ws ((bytes s).drop (q+jj+kk))+1))+(q-p)=q+jj+kk+ws ((bytes s).drop (q+jj+kk))+1+ws ((bytes s).drop (q+jj+kk+ws ((bytes s).drop (q+jj+kk))+1))-p by omega])
       have hlt:q+jj+kk+ws ((bytes s).drop (q+jj+kk))<s.size:=headD_lt HC'.out (by omega)
       clear ND hdr hdr2
       go_wp2_with fail
       refine NY.out.mono ?_
       rintro e w7 ⟨rfl,hR7,hg7⟩
       have SP3:=Hq (space24 g s (q+jj+kk+ws ((bytes s).drop (q+jj+kk))+1) tw lo 0 (op || o' || oj || oo) w7 (by omega) hR7.2 hR7)
       have H7:=Hq hg7
       clear hR7 hg7
       go_wp2_with fail
       refine SP3.out.mono ?_
       rintro e w8 ⟨rfl,hR8,hg8⟩
       have H8:=Hq (And.intro hR8 hg8)
       have hq8:=hR8.2
       clear hR8 hg8
       go_wp2_with fail
       go_roundg f'
       case measure=>have:=HG.out; omega
       case rel=>
        have hg57:=((gb_drewN (World.grownBy.refl w5 (some g)) nd6).trans H7.out).trans H8.out.2
        refine ⟨_,f',cnt+1,o' || (oj || oo),nms++[nm],.slice an2 (nms.length+1) cn2,.slice (some ⟨gg,0,none⟩) (cnt+1) cap,E,by omega,hq8,by omega,by omega,Hq ?_,Hq ?_,Hq ?_,Hq ?_,?_,Hq ?_,by omega,Hq ?_,Hq rfl⟩
        ·have e:=H8.out.1
         simp only [Bool.or_assoc] at e
         exact e
        ·exact HS.out.ks.nd.kept (H5.out.2.trans hg57) HB.out
        ·rw [List.length_append,List.length_singleton]
         exact own_block HS.out.own (fun j hj=>(H5.out.2.trans hg57).block j (HS.out.own.lt j hj).2 (fun e=>by have:=HS.out.own.lt j hj; have:=Option.some.inj e; omega))
        ·intro x hx
         rcases List.mem_append.1 hx with hx|hx
         ·exact HGN.out x hx
         ·rw [List.mem_singleton] at hx
          rw [hx]
          exact HN1.out.2.2.2.1
        ·rw [List.length_append,List.length_singleton]
         omega
        ·exact HS.out.ks.kids.block ((hg57.block gg (Nat.lt_of_lt_of_le HS.out.ks.kids.lt.2 H5.out.2.size) (fun e=>by have:=HS.out.ks.kids.lt; have:=Option.some.inj e; omega)).trans (H5.out.2.block gg HS.out.ks.kids.lt.2 (fun e=>by have:=HS.out.ks.kids.lt; have:=Option.some.inj e; omega)))
        ·exact HS.out.ks.two.trans (Two.left (H5.out.2.trans hg57))
      ·have NN:=Hq (calls_no ND (needs_nohead (by rw [HC'.out]; exact h44)))
       have E:=Hq (show r=(none,o' || (oj || oo)) by
        rw [HE.out,run_mems_else HNM.out (by rw [List.drop_drop]; exact HVV.out) (by rw [hdr,hdr2,HC'.out]; exact h125) (by rw [hdr,hdr2,HC'.out]; exact h44)]
        rfl)
       clear ND hdr hdr2
       go_wp2_with fail
       refine NN.out.mono ?_
       rintro e w7 ⟨rfl,hf7,hg7⟩
       have H7:=Hq (And.intro hf7 hg7)
       clear hf7 hg7
       go_wp2_with fail
       go_ret
       refine .inr ⟨by rw [E.out],rfl,?_,HSUB.out _ ((gb_drewN (World.grownBy.refl w5 (some g)) nd6).trans H7.out.2)⟩
       rw [E.out]
       have e:=H7.out.1.mono (show p≤q+jj+kk+ws ((bytes s).drop (q+jj+kk)) by omega)
       simp only [Bool.or_assoc] at e
       exact e
end Go.Proofs.YtknaalohaagcdaaGreatDoor.Own
