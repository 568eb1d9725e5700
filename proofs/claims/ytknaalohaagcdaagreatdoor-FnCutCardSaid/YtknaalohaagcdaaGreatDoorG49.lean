import Derived.Test.YtknaalohaagcdaaGreatDoorG01
import Derived.Test.YtknaalohaagcdaaGreatDoorG48
import Derived.Laws.ResultCell
set_option maxHeartbeats 400000000
set_option maxRecDepth 100000
namespace Go.Proofs.YtknaalohaagcdaaGreatDoor.Own
open Go.RowKit JG
theorem Nd.all{w:World}{m:Nat}{k:Int}{tx:ByteArray}{ns ks:Value}(h:Nd w m k tx ns ks):
  w.cell? ⟨m,0,none⟩=some (.int .u8 k)∧w.cell? ⟨m,1,none⟩=some (.string tx)∧w.cell? ⟨m,2,none⟩=some ns∧w.cell? ⟨m,3,none⟩=some ks∧w.frozen? ⟨m,0,none⟩=false∧w.frozen? ⟨m,1,none⟩=false∧w.frozen? ⟨m,2,none⟩=false∧w.frozen? ⟨m,3,none⟩=false:=by
 obtain ⟨a,b,c,d⟩:=h.facts
 obtain ⟨a2,b2,c2,d2⟩:=h.facts2
 exact ⟨a,b,a2,b2,c,d,c2,d2⟩
theorem scalar47(g m:Nat)(s:ByteArray)(p:Nat)(tw lo op:Bool)(k0:Int)(tx:ByteArray)(w:World)(hs:s.size≤4294967296)(h:R w g s p tw lo 0 op)(hN:Nd w m k0 tx (.slice none 0 0) (.slice none 0 0))(hne:m≠g):
  Calls Tryz.prog 47 #[.pointer (some ⟨g,0,none⟩),.pointer (some ⟨m,0,none⟩)] w (SubP g m s p tw lo op (scalarO lo ((bytes s).drop p),false) w):=by
 cases hj:scalarO lo ((bytes s).drop p) with
 |none=>exact (scalar47_no g m s p tw lo op k0 tx _ _ w (by omega) h hN hne hj).mono fun e w' ⟨h1,h2,⟨k',tx',h3⟩,h4⟩=>.inr ⟨rfl,h1,by rw [Bool.or_false]; exact h2,⟨k',tx',none,0,0,none,0,0,h3⟩,h4⟩
 |some j=>exact (scalar47_yes g m s p tw lo op k0 tx _ _ w (by omega) h hN hne j hj).mono fun e w' ⟨h1,h2,⟨k',tx',h3⟩,h4⟩=>.inl ⟨j,rfl,h1,by rw [Bool.or_false]; exact h2,⟨k',tx',none,0,0,none,0,0,h3⟩,h4⟩
theorem res_val{w:World}{T:Nat}{k:Int}{tx:ByteArray}{a b:Value}{tmps:Array Value}(h2:tmps.getD 2 undef=.pointer (some ⟨T,0,none⟩))(h:Nd w T k tx a b):(results Tryz.f23 tmps).run Tryz.prog w=.ok (.tuple #[.agg #[.int .u8 k,.string tx,a,b],tmps.getD 3 undef]) w:=by
 rw [results_cell_tmp (p:=2) (u:=3) (ty:=42) rfl,h2]
 have e:=run_loadVar_row (P:=Tryz.prog) w T 42 42 #[.int .u8 k,.string tx,a,b] (0,0) _ h Tryz.underlying42 rfl (by kernel_rfl)
 simp [asAddr,e,Result.andThen]
theorem val_frame{g m:Nat}{w w2 W w3 w4:World}(hm:m=w2.heap.size)(hg0:w.grownBy w2 (some g))(hW:w2.grownBy W (some g))(ht:Two g m W w3)(h4:w3.grownBy w4 (some w.heap.size)):w.grownBy w4 (some g):=by
 have h1:=hg0.size
 refine ⟨h4.os.trans (ht.os.trans (hW.os.trans hg0.os)),h4.tape.trans (ht.tape.trans (hW.tape.trans hg0.tape)),h4.output.trans (ht.output.trans (hW.output.trans hg0.output)),Nat.le_trans hg0.size (Nat.le_trans hW.size (Nat.le_trans ht.size h4.size)),fun i hi hn => ?_⟩
 have i1:i<w2.heap.size:=by omega
 have i2:i<W.heap.size:=Nat.lt_of_lt_of_le i1 hW.size
 have i3:i<w3.heap.size:=Nat.lt_of_lt_of_le i2 ht.size
 exact (h4.block i i3 (fun e=>by have:=Option.some.inj e; omega)).trans ((ht.block i i2 (fun e=>hn (by rw [e])) (by omega)).trans ((hW.block i i1 hn).trans (hg0.block i hi hn)))
theorem Nd.four{w:World}{T:Nat}{k:Int}{tx:ByteArray}{a b:Value}(h:Nd w T k tx a b)(k':Int)(tx':ByteArray)(a' b':Value):Nd ((((w.setCell ⟨T,0,none⟩ (.int .u8 k')).setCell ⟨T,1,none⟩ (.string tx')).setCell ⟨T,2,none⟩ a').setCell ⟨T,3,none⟩ b') T k' tx' a' b':=(((h.setKind k').setText tx').setNames a').setKids b'
theorem gb_four{w:World}{T:Nat}(a b c d:Value):w.grownBy ((((w.setCell ⟨T,0,none⟩ a).setCell ⟨T,1,none⟩ b).setCell ⟨T,2,none⟩ c).setCell ⟨T,3,none⟩ d) (some T):=
 (((Go.Lib.grownBy_setCell w T _ _:w.grownBy _ (some T)).trans (Go.Lib.grownBy_setCell _ _ _ _)).trans (Go.Lib.grownBy_setCell _ _ _ _)).trans (Go.Lib.grownBy_setCell _ _ _ _)
theorem val_obj_yes(n:Nat)(hV:∀ n',n'<n→VAll n')(g:Nat)(s:ByteArray)(p:Nat)(tw lo op:Bool)(w:World)(hs:s.size≤4294967296)(h:R w g s p tw lo 0 op)(hf:2 * (s.size-p)<n+1)(c:Int)(HC:Hid (((bytes s).drop (p+ws ((bytes s).drop p))).headD 0=c))(hc:c=123)(j:Nat)(o:Bool)(hj:brO (chkT tw) lo n 125 (.mems []) ((bytes s).drop (p+ws ((bytes s).drop p)+1))=(some j,o)):
  Calls Tryz.prog 23 #[.pointer (some ⟨g,0,none⟩)] w fun e w'=>∃ nd,NodeV nd∧e=.returned (.tuple #[nd,.bool true])∧R w' g s (p+ws ((bytes s).drop p)+1+j) tw lo 0 (op || o)∧w.grownBy w' (some g):=by
 have hgw:=h.lt
 have hR0:R (w.alloc (.cells #[.int .u8 0,.string ⟨#[]⟩,.slice none 0 0,.slice none 0 0] 42)) g s p tw lo 0 op:=h.block ((World.grownBy_alloc w _ none).block g hgw (by simp))
 have SP:=Hq (space24 g s p tw lo 0 op _ (by omega) h.2 hR0)
 have SEE:=Hq (fun w h=>see_c g s (p+ws ((bytes s).drop p)) tw lo 0 op c HC.out w h)
 have HV:=Hq hV
 have HJ:=Hq hj
 have hps:=h.2
 have HT0:=Hq (show Nd (w.alloc (.cells #[.int .u8 0,.string ⟨#[]⟩,.slice none 0 0,.slice none 0 0] 42)) w.heap.size 0 ⟨#[]⟩ (.slice none 0 0) (.slice none 0 0) from heap_alloc_new w _)
 have hlt:p+ws ((bytes s).drop p)<s.size:=headD_lt HC.out (by omega)
 subst hc
 clear h hR0 hV hj
 go_enter Tryz.func23,Tryz.ntmps23
 go_wp2_with fail
 refine SP.out.mono ?_
 rintro e w1 ⟨rfl,hR1,hg1⟩
 have HT1:=Hq (HT0.out.kept hg1 (by omega))
 have H1:=Hq (And.intro hR1 (World.grownBy.trans (World.grownBy_alloc w _ (some g)) hg1))
 clear hR1 hg1
 go_wp2_with fail
 refine (SEE.out w1 H1.out.1).mono ?_
 rintro e w2 ⟨rfl,d2,rfl⟩
 obtain ⟨w2,hw2⟩:∃ w2,w1.drewN d2=w2:=⟨_,rfl⟩
 have H2:Hid (R w2 g s (p+ws ((bytes s).drop p)) tw lo 0 op∧w.grownBy w2 (some g)∧Nd w2 w.heap.size 0 ⟨#[]⟩ (.slice none 0 0) (.slice none 0 0)):=Hq (by rw [← hw2]; exact ⟨H1.out.1.drew d2,gb_drewN H1.out.2 d2,HT1.out⟩)
 rw [hw2]
 clear hw2
 have hTm:=H2.out.2.2.lt
 have hgm:=H2.out.1.lt
 obtain ⟨_,c1,_,_,_,_,f1,_,_⟩:=H2.out.1.facts
 have hset:w2.grownBy (w2.setCell ⟨g,1,none⟩ (.int .i64 ((p:Int)+((ws ((bytes s).drop p):Nat):Int)+1))) (some g):=Go.Lib.grownBy_setCell _ _ _ _
 have hRb:R (w2.setCell ⟨g,1,none⟩ (.int .i64 ((p:Int)+((ws ((bytes s).drop p):Nat):Int)+1))) g s (p+ws ((bytes s).drop p)+1) tw lo 0 op:=H2.out.1.setAt (p+ws ((bytes s).drop p)+1) (by omega)
 have hsz:(w2.setCell ⟨g,1,none⟩ (.int .i64 ((p:Int)+((ws ((bytes s).drop p):Nat):Int)+1))).heap.size=w2.heap.size:=by simp
 have hRc:R ((w2.setCell ⟨g,1,none⟩ (.int .i64 ((p:Int)+((ws ((bytes s).drop p):Nat):Int)+1))).alloc (.cells #[.int .u8 123,.string ⟨#[]⟩,.slice none 0 0,.slice none 0 0] 42)) g s (p+ws ((bytes s).drop p)+1) tw lo 0 op:=hRb.block ((World.grownBy_alloc (w2.setCell ⟨g,1,none⟩ (.int .i64 ((p:Int)+((ws ((bytes s).drop p):Nat):Int)+1))) _ none).block g hRb.lt (by simp))
 have hNc:Nd ((w2.setCell ⟨g,1,none⟩ (.int .i64 ((p:Int)+((ws ((bytes s).drop p):Nat):Int)+1))).alloc (.cells #[.int .u8 123,.string ⟨#[]⟩,.slice none 0 0,.slice none 0 0] 42)) w2.heap.size 123 ⟨#[]⟩ (.slice none 0 0) (.slice none 0 0):=by
  have h:=heap_alloc_new (w2.setCell ⟨g,1,none⟩ (.int .i64 ((p:Int)+((ws ((bytes s).drop p):Nat):Int)+1))) (.cells #[.int .u8 123,.string ⟨#[]⟩,.slice none 0 0,.slice none 0 0] 42)
  rw [hsz] at h
  exact h
 have hgb:w2.grownBy ((w2.setCell ⟨g,1,none⟩ (.int .i64 ((p:Int)+((ws ((bytes s).drop p):Nat):Int)+1))).alloc (.cells #[.int .u8 123,.string ⟨#[]⟩,.slice none 0 0,.slice none 0 0] 42)) (some g):=hset.trans (World.grownBy_alloc (w2.setCell ⟨g,1,none⟩ (.int .i64 ((p:Int)+((ws ((bytes s).drop p):Nat):Int)+1))) _ (some g))
 have C:=object45 n HV.out g w2.heap.size s (p+ws ((bytes s).drop p)+1) tw lo op _ _ _ hs hRc hNc (by omega) (by omega)
 have C1:=Hq (sub_yes C HJ.out)
 have HGB:=Hq hgb
 clear C hgb hRb hset hsz hRc hNc
 go_wp2_with fail
 refine C1.out.mono ?_
 rintro e w3 ⟨rfl,hR3,⟨k3,tx3,a3,la3,ca3,b3,lb3,cb3,hN3⟩,hT3⟩
 have hTb:Nd w3 w.heap.size 0 ⟨#[]⟩ (.slice none 0 0) (.slice none 0 0):=H2.out.2.2.block ((hT3.block w.heap.size (Nat.lt_of_lt_of_le hTm HGB.out.size) (by omega) (by omega)).trans (HGB.out.block w.heap.size hTm (fun e=>by have:=Option.some.inj e; omega)))
 obtain ⟨m0,m1,m2,m3,_,_,_,_⟩:=hN3.all
 obtain ⟨n0,n1,n2,n3,g0,g1,g2,g3⟩:=hTb.all
 have H3:=Hq (And.intro hR3 hT3)
 have HTB:=Hq hTb
 have htm:¬ w2.heap.size=w.heap.size:=by omega
 clear hR3 hT3 hN3 hTb c1 f1
 go_wp2_with fail
 (try simp only [Exit.inBlock,Exit.then])
 refine bodyPost_ret (res_val (by rfl) (HTB.out.four _ _ _ _)) rfl ?_
 refine ⟨_,⟨_,_,_,_,_,_,_,_,rfl⟩,rfl,?_,val_frame rfl H2.out.2.1 HGB.out H3.out.2 (gb_four _ _ _ _)⟩
 exact H3.out.1.kept (gb_four _ _ _ _) (by omega)
theorem val_obj_no(n:Nat)(hV:∀ n',n'<n→VAll n')(g:Nat)(s:ByteArray)(p:Nat)(tw lo op:Bool)(w:World)(hs:s.size≤4294967296)(h:R w g s p tw lo 0 op)(hf:2 * (s.size-p)<n+1)(c:Int)(HC:Hid (((bytes s).drop (p+ws ((bytes s).drop p))).headD 0=c))(hc:c=123)(o:Bool)(hj:brO (chkT tw) lo n 125 (.mems []) ((bytes s).drop (p+ws ((bytes s).drop p)+1))=(none,o)):
  Calls Tryz.prog 23 #[.pointer (some ⟨g,0,none⟩)] w fun e w'=>∃ nd,NodeV nd∧e=.returned (.tuple #[nd,.bool false])∧Failed g s tw lo (op || o) (p+ws ((bytes s).drop p)+1) w'∧w.grownBy w' (some g):=by
 have hgw:=h.lt
 have hR0:R (w.alloc (.cells #[.int .u8 0,.string ⟨#[]⟩,.slice none 0 0,.slice none 0 0] 42)) g s p tw lo 0 op:=h.block ((World.grownBy_alloc w _ none).block g hgw (by simp))
 have SP:=Hq (space24 g s p tw lo 0 op _ (by omega) h.2 hR0)
 have SEE:=Hq (fun w h=>see_c g s (p+ws ((bytes s).drop p)) tw lo 0 op c HC.out w h)
 have HV:=Hq hV
 have HJ:=Hq hj
 have hps:=h.2
 have HT0:=Hq (show Nd (w.alloc (.cells #[.int .u8 0,.string ⟨#[]⟩,.slice none 0 0,.slice none 0 0] 42)) w.heap.size 0 ⟨#[]⟩ (.slice none 0 0) (.slice none 0 0) from heap_alloc_new w _)
 have hlt:p+ws ((bytes s).drop p)<s.size:=headD_lt HC.out (by omega)
 subst hc
 clear h hR0 hV hj
 go_enter Tryz.func23,Tryz.ntmps23
 go_wp2_with fail
 refine SP.out.mono ?_
 rintro e w1 ⟨rfl,hR1,hg1⟩
 have HT1:=Hq (HT0.out.kept hg1 (by omega))
 have H1:=Hq (And.intro hR1 (World.grownBy.trans (World.grownBy_alloc w _ (some g)) hg1))
 clear hR1 hg1
 go_wp2_with fail
 refine (SEE.out w1 H1.out.1).mono ?_
 rintro e w2 ⟨rfl,d2,rfl⟩
 obtain ⟨w2,hw2⟩:∃ w2,w1.drewN d2=w2:=⟨_,rfl⟩
 have H2:Hid (R w2 g s (p+ws ((bytes s).drop p)) tw lo 0 op∧w.grownBy w2 (some g)∧Nd w2 w.heap.size 0 ⟨#[]⟩ (.slice none 0 0) (.slice none 0 0)):=Hq (by rw [← hw2]; exact ⟨H1.out.1.drew d2,gb_drewN H1.out.2 d2,HT1.out⟩)
 rw [hw2]
 clear hw2
 have hTm:=H2.out.2.2.lt
 have hgm:=H2.out.1.lt
 obtain ⟨_,c1,_,_,_,_,f1,_,_⟩:=H2.out.1.facts
 have hset:w2.grownBy (w2.setCell ⟨g,1,none⟩ (.int .i64 ((p:Int)+((ws ((bytes s).drop p):Nat):Int)+1))) (some g):=Go.Lib.grownBy_setCell _ _ _ _
 have hRb:R (w2.setCell ⟨g,1,none⟩ (.int .i64 ((p:Int)+((ws ((bytes s).drop p):Nat):Int)+1))) g s (p+ws ((bytes s).drop p)+1) tw lo 0 op:=H2.out.1.setAt (p+ws ((bytes s).drop p)+1) (by omega)
 have hsz:(w2.setCell ⟨g,1,none⟩ (.int .i64 ((p:Int)+((ws ((bytes s).drop p):Nat):Int)+1))).heap.size=w2.heap.size:=by simp
 have hRc:R ((w2.setCell ⟨g,1,none⟩ (.int .i64 ((p:Int)+((ws ((bytes s).drop p):Nat):Int)+1))).alloc (.cells #[.int .u8 123,.string ⟨#[]⟩,.slice none 0 0,.slice none 0 0] 42)) g s (p+ws ((bytes s).drop p)+1) tw lo 0 op:=hRb.block ((World.grownBy_alloc (w2.setCell ⟨g,1,none⟩ (.int .i64 ((p:Int)+((ws ((bytes s).drop p):Nat):Int)+1))) _ none).block g hRb.lt (by simp))
 have hNc:Nd ((w2.setCell ⟨g,1,none⟩ (.int .i64 ((p:Int)+((ws ((bytes s).drop p):Nat):Int)+1))).alloc (.cells #[.int .u8 123,.string ⟨#[]⟩,.slice none 0 0,.slice none 0 0] 42)) w2.heap.size 123 ⟨#[]⟩ (.slice none 0 0) (.slice none 0 0):=by
  have h:=heap_alloc_new (w2.setCell ⟨g,1,none⟩ (.int .i64 ((p:Int)+((ws ((bytes s).drop p):Nat):Int)+1))) (.cells #[.int .u8 123,.string ⟨#[]⟩,.slice none 0 0,.slice none 0 0] 42)
  rw [hsz] at h
  exact h
 have hgb:w2.grownBy ((w2.setCell ⟨g,1,none⟩ (.int .i64 ((p:Int)+((ws ((bytes s).drop p):Nat):Int)+1))).alloc (.cells #[.int .u8 123,.string ⟨#[]⟩,.slice none 0 0,.slice none 0 0] 42)) (some g):=hset.trans (World.grownBy_alloc (w2.setCell ⟨g,1,none⟩ (.int .i64 ((p:Int)+((ws ((bytes s).drop p):Nat):Int)+1))) _ (some g))
 have C:=object45 n HV.out g w2.heap.size s (p+ws ((bytes s).drop p)+1) tw lo op _ _ _ hs hRc hNc (by omega) (by omega)
 have C1:=Hq (sub_no C HJ.out)
 have HGB:=Hq hgb
 clear C hgb hRb hset hsz hRc hNc
 go_wp2_with fail
 refine C1.out.mono ?_
 rintro e w3 ⟨rfl,hR3,⟨k3,tx3,a3,la3,ca3,b3,lb3,cb3,hN3⟩,hT3⟩
 have hTb:Nd w3 w.heap.size 0 ⟨#[]⟩ (.slice none 0 0) (.slice none 0 0):=H2.out.2.2.block ((hT3.block w.heap.size (Nat.lt_of_lt_of_le hTm HGB.out.size) (by omega) (by omega)).trans (HGB.out.block w.heap.size hTm (fun e=>by have:=Option.some.inj e; omega)))
 obtain ⟨m0,m1,m2,m3,_,_,_,_⟩:=hN3.all
 obtain ⟨n0,n1,n2,n3,g0,g1,g2,g3⟩:=hTb.all
 have H3:=Hq (And.intro hR3 hT3)
 have HTB:=Hq hTb
 have htm:¬ w2.heap.size=w.heap.size:=by omega
 clear hR3 hT3 hN3 hTb c1 f1
 go_wp2_with fail
 (try simp only [Exit.inBlock,Exit.then])
 refine bodyPost_ret (res_val (by rfl) (HTB.out.four _ _ _ _)) rfl ?_
 refine ⟨_,⟨_,_,_,_,_,_,_,_,rfl⟩,rfl,?_,val_frame rfl H2.out.2.1 HGB.out H3.out.2 (gb_four _ _ _ _)⟩
 obtain ⟨q',fa,z1,z2,z3⟩:=H3.out.1
 exact ⟨q',fa,z1,z2,z3.kept (gb_four _ _ _ _) (by omega)⟩
theorem val_arr_yes(n:Nat)(hV:∀ n',n'<n→VAll n')(g:Nat)(s:ByteArray)(p:Nat)(tw lo op:Bool)(w:World)(hs:s.size≤4294967296)(h:R w g s p tw lo 0 op)(hf:2 * (s.size-p)<n+1)(c:Int)(HC:Hid (((bytes s).drop (p+ws ((bytes s).drop p))).headD 0=c))(hc:c=91)(j:Nat)(o:Bool)(hj:brO (chkT tw) lo n 93 .elems ((bytes s).drop (p+ws ((bytes s).drop p)+1))=(some j,o)):
  Calls Tryz.prog 23 #[.pointer (some ⟨g,0,none⟩)] w fun e w'=>∃ nd,NodeV nd∧e=.returned (.tuple #[nd,.bool true])∧R w' g s (p+ws ((bytes s).drop p)+1+j) tw lo 0 (op || o)∧w.grownBy w' (some g):=by
 have hgw:=h.lt
 have hR0:R (w.alloc (.cells #[.int .u8 0,.string ⟨#[]⟩,.slice none 0 0,.slice none 0 0] 42)) g s p tw lo 0 op:=h.block ((World.grownBy_alloc w _ none).block g hgw (by simp))
 have SP:=Hq (space24 g s p tw lo 0 op _ (by omega) h.2 hR0)
 have SEE:=Hq (fun w h=>see_c g s (p+ws ((bytes s).drop p)) tw lo 0 op c HC.out w h)
 have HV:=Hq hV
 have HJ:=Hq hj
 have hps:=h.2
 have HT0:=Hq (show Nd (w.alloc (.cells #[.int .u8 0,.string ⟨#[]⟩,.slice none 0 0,.slice none 0 0] 42)) w.heap.size 0 ⟨#[]⟩ (.slice none 0 0) (.slice none 0 0) from heap_alloc_new w _)
 have hlt:p+ws ((bytes s).drop p)<s.size:=headD_lt HC.out (by omega)
 subst hc
 clear h hR0 hV hj
 go_enter Tryz.func23,Tryz.ntmps23
 go_wp2_with fail
 refine SP.out.mono ?_
 rintro e w1 ⟨rfl,hR1,hg1⟩
 have HT1:=Hq (HT0.out.kept hg1 (by omega))
 have H1:=Hq (And.intro hR1 (World.grownBy.trans (World.grownBy_alloc w _ (some g)) hg1))
 clear hR1 hg1
 go_wp2_with fail
 refine (SEE.out w1 H1.out.1).mono ?_
 rintro e w2 ⟨rfl,d2,rfl⟩
 obtain ⟨w2,hw2⟩:∃ w2,w1.drewN d2=w2:=⟨_,rfl⟩
 have H2:Hid (R w2 g s (p+ws ((bytes s).drop p)) tw lo 0 op∧w.grownBy w2 (some g)∧Nd w2 w.heap.size 0 ⟨#[]⟩ (.slice none 0 0) (.slice none 0 0)):=Hq (by rw [← hw2]; exact ⟨H1.out.1.drew d2,gb_drewN H1.out.2 d2,HT1.out⟩)
 rw [hw2]
 clear hw2
 have hTm:=H2.out.2.2.lt
 have hgm:=H2.out.1.lt
 obtain ⟨_,c1,_,_,_,_,f1,_,_⟩:=H2.out.1.facts
 have hset:w2.grownBy (w2.setCell ⟨g,1,none⟩ (.int .i64 ((p:Int)+((ws ((bytes s).drop p):Nat):Int)+1))) (some g):=Go.Lib.grownBy_setCell _ _ _ _
 have hRb:R (w2.setCell ⟨g,1,none⟩ (.int .i64 ((p:Int)+((ws ((bytes s).drop p):Nat):Int)+1))) g s (p+ws ((bytes s).drop p)+1) tw lo 0 op:=H2.out.1.setAt (p+ws ((bytes s).drop p)+1) (by omega)
 have hsz:(w2.setCell ⟨g,1,none⟩ (.int .i64 ((p:Int)+((ws ((bytes s).drop p):Nat):Int)+1))).heap.size=w2.heap.size:=by simp
 have hRc:R ((w2.setCell ⟨g,1,none⟩ (.int .i64 ((p:Int)+((ws ((bytes s).drop p):Nat):Int)+1))).alloc (.cells #[.int .u8 91,.string ⟨#[]⟩,.slice none 0 0,.slice none 0 0] 42)) g s (p+ws ((bytes s).drop p)+1) tw lo 0 op:=hRb.block ((World.grownBy_alloc (w2.setCell ⟨g,1,none⟩ (.int .i64 ((p:Int)+((ws ((bytes s).drop p):Nat):Int)+1))) _ none).block g hRb.lt (by simp))
 have hNc:Nd ((w2.setCell ⟨g,1,none⟩ (.int .i64 ((p:Int)+((ws ((bytes s).drop p):Nat):Int)+1))).alloc (.cells #[.int .u8 91,.string ⟨#[]⟩,.slice none 0 0,.slice none 0 0] 42)) w2.heap.size 91 ⟨#[]⟩ (.slice none 0 0) (.slice none 0 0):=by
  have h:=heap_alloc_new (w2.setCell ⟨g,1,none⟩ (.int .i64 ((p:Int)+((ws ((bytes s).drop p):Nat):Int)+1))) (.cells #[.int .u8 91,.string ⟨#[]⟩,.slice none 0 0,.slice none 0 0] 42)
  rw [hsz] at h
  exact h
 have hgb:w2.grownBy ((w2.setCell ⟨g,1,none⟩ (.int .i64 ((p:Int)+((ws ((bytes s).drop p):Nat):Int)+1))).alloc (.cells #[.int .u8 91,.string ⟨#[]⟩,.slice none 0 0,.slice none 0 0] 42)) (some g):=hset.trans (World.grownBy_alloc (w2.setCell ⟨g,1,none⟩ (.int .i64 ((p:Int)+((ws ((bytes s).drop p):Nat):Int)+1))) _ (some g))
 have C:=array46 n HV.out g w2.heap.size s (p+ws ((bytes s).drop p)+1) tw lo op _ _ _ hs hRc hNc (by omega) (by omega)
 have C1:=Hq (sub_yes C HJ.out)
 have HGB:=Hq hgb
 clear C hgb hRb hset hsz hRc hNc
 go_wp2_with fail
 refine C1.out.mono ?_
 rintro e w3 ⟨rfl,hR3,⟨k3,tx3,a3,la3,ca3,b3,lb3,cb3,hN3⟩,hT3⟩
 have hTb:Nd w3 w.heap.size 0 ⟨#[]⟩ (.slice none 0 0) (.slice none 0 0):=H2.out.2.2.block ((hT3.block w.heap.size (Nat.lt_of_lt_of_le hTm HGB.out.size) (by omega) (by omega)).trans (HGB.out.block w.heap.size hTm (fun e=>by have:=Option.some.inj e; omega)))
 obtain ⟨m0,m1,m2,m3,_,_,_,_⟩:=hN3.all
 obtain ⟨n0,n1,n2,n3,g0,g1,g2,g3⟩:=hTb.all
 have H3:=Hq (And.intro hR3 hT3)
 have HTB:=Hq hTb
 have htm:¬ w2.heap.size=w.heap.size:=by omega
 clear hR3 hT3 hN3 hTb c1 f1
 go_wp2_with fail
 (try simp only [Exit.inBlock,Exit.then])
 refine bodyPost_ret (res_val (by rfl) (HTB.out.four _ _ _ _)) rfl ?_
 refine ⟨_,⟨_,_,_,_,_,_,_,_,rfl⟩,rfl,?_,val_frame rfl H2.out.2.1 HGB.out H3.out.2 (gb_four _ _ _ _)⟩
 exact H3.out.1.kept (gb_four _ _ _ _) (by omega)
theorem val_arr_no(n:Nat)(hV:∀ n',n'<n→VAll n')(g:Nat)(s:ByteArray)(p:Nat)(tw lo op:Bool)(w:World)(hs:s.size≤4294967296)(h:R w g s p tw lo 0 op)(hf:2 * (s.size-p)<n+1)(c:Int)(HC:Hid (((bytes s).drop (p+ws ((bytes s).drop p))).headD 0=c))(hc:c=91)(o:Bool)(hj:brO (chkT tw) lo n 93 .elems ((bytes s).drop (p+ws ((bytes s).drop p)+1))=(none,o)):
  Calls Tryz.prog 23 #[.pointer (some ⟨g,0,none⟩)] w fun e w'=>∃ nd,NodeV nd∧e=.returned (.tuple #[nd,.bool false])∧Failed g s tw lo (op || o) (p+ws ((bytes s).drop p)+1) w'∧w.grownBy w' (some g):=by
 have hgw:=h.lt
 have hR0:R (w.alloc (.cells #[.int .u8 0,.string ⟨#[]⟩,.slice none 0 0,.slice none 0 0] 42)) g s p tw lo 0 op:=h.block ((World.grownBy_alloc w _ none).block g hgw (by simp))
 have SP:=Hq (space24 g s p tw lo 0 op _ (by omega) h.2 hR0)
 have SEE:=Hq (fun w h=>see_c g s (p+ws ((bytes s).drop p)) tw lo 0 op c HC.out w h)
 have HV:=Hq hV
 have HJ:=Hq hj
 have hps:=h.2
 have HT0:=Hq (show Nd (w.alloc (.cells #[.int .u8 0,.string ⟨#[]⟩,.slice none 0 0,.slice none 0 0] 42)) w.heap.size 0 ⟨#[]⟩ (.slice none 0 0) (.slice none 0 0) from heap_alloc_new w _)
 have hlt:p+ws ((bytes s).drop p)<s.size:=headD_lt HC.out (by omega)
 subst hc
 clear h hR0 hV hj
 go_enter Tryz.func23,Tryz.ntmps23
 go_wp2_with fail
 refine SP.out.mono ?_
 rintro e w1 ⟨rfl,hR1,hg1⟩
 have HT1:=Hq (HT0.out.kept hg1 (by omega))
 have H1:=Hq (And.intro hR1 (World.grownBy.trans (World.grownBy_alloc w _ (some g)) hg1))
 clear hR1 hg1
 go_wp2_with fail
 refine (SEE.out w1 H1.out.1).mono ?_
 rintro e w2 ⟨rfl,d2,rfl⟩
 obtain ⟨w2,hw2⟩:∃ w2,w1.drewN d2=w2:=⟨_,rfl⟩
 have H2:Hid (R w2 g s (p+ws ((bytes s).drop p)) tw lo 0 op∧w.grownBy w2 (some g)∧Nd w2 w.heap.size 0 ⟨#[]⟩ (.slice none 0 0) (.slice none 0 0)):=Hq (by rw [← hw2]; exact ⟨H1.out.1.drew d2,gb_drewN H1.out.2 d2,HT1.out⟩)
 rw [hw2]
 clear hw2
 have hTm:=H2.out.2.2.lt
 have hgm:=H2.out.1.lt
 obtain ⟨_,c1,_,_,_,_,f1,_,_⟩:=H2.out.1.facts
 have hset:w2.grownBy (w2.setCell ⟨g,1,none⟩ (.int .i64 ((p:Int)+((ws ((bytes s).drop p):Nat):Int)+1))) (some g):=Go.Lib.grownBy_setCell _ _ _ _
 have hRb:R (w2.setCell ⟨g,1,none⟩ (.int .i64 ((p:Int)+((ws ((bytes s).drop p):Nat):Int)+1))) g s (p+ws ((bytes s).drop p)+1) tw lo 0 op:=H2.out.1.setAt (p+ws ((bytes s).drop p)+1) (by omega)
 have hsz:(w2.setCell ⟨g,1,none⟩ (.int .i64 ((p:Int)+((ws ((bytes s).drop p):Nat):Int)+1))).heap.size=w2.heap.size:=by simp
 have hRc:R ((w2.setCell ⟨g,1,none⟩ (.int .i64 ((p:Int)+((ws ((bytes s).drop p):Nat):Int)+1))).alloc (.cells #[.int .u8 91,.string ⟨#[]⟩,.slice none 0 0,.slice none 0 0] 42)) g s (p+ws ((bytes s).drop p)+1) tw lo 0 op:=hRb.block ((World.grownBy_alloc (w2.setCell ⟨g,1,none⟩ (.int .i64 ((p:Int)+((ws ((bytes s).drop p):Nat):Int)+1))) _ none).block g hRb.lt (by simp))
 have hNc:Nd ((w2.setCell ⟨g,1,none⟩ (.int .i64 ((p:Int)+((ws ((bytes s).drop p):Nat):Int)+1))).alloc (.cells #[.int .u8 91,.string ⟨#[]⟩,.slice none 0 0,.slice none 0 0] 42)) w2.heap.size 91 ⟨#[]⟩ (.slice none 0 0) (.slice none 0 0):=by
  have h:=heap_alloc_new (w2.setCell ⟨g,1,none⟩ (.int .i64 ((p:Int)+((ws ((bytes s).drop p):Nat):Int)+1))) (.cells #[.int .u8 91,.string ⟨#[]⟩,.slice none 0 0,.slice none 0 0] 42)
  rw [hsz] at h
  exact h
 have hgb:w2.grownBy ((w2.setCell ⟨g,1,none⟩ (.int .i64 ((p:Int)+((ws ((bytes s).drop p):Nat):Int)+1))).alloc (.cells #[.int .u8 91,.string ⟨#[]⟩,.slice none 0 0,.slice none 0 0] 42)) (some g):=hset.trans (World.grownBy_alloc (w2.setCell ⟨g,1,none⟩ (.int .i64 ((p:Int)+((ws ((bytes s).drop p):Nat):Int)+1))) _ (some g))
 have C:=array46 n HV.out g w2.heap.size s (p+ws ((bytes s).drop p)+1) tw lo op _ _ _ hs hRc hNc (by omega) (by omega)
 have C1:=Hq (sub_no C HJ.out)
 have HGB:=Hq hgb
 clear C hgb hRb hset hsz hRc hNc
 go_wp2_with fail
 refine C1.out.mono ?_
 rintro e w3 ⟨rfl,hR3,⟨k3,tx3,a3,la3,ca3,b3,lb3,cb3,hN3⟩,hT3⟩
 have hTb:Nd w3 w.heap.size 0 ⟨#[]⟩ (.slice none 0 0) (.slice none 0 0):=H2.out.2.2.block ((hT3.block w.heap.size (Nat.lt_of_lt_of_le hTm HGB.out.size) (by omega) (by omega)).trans (HGB.out.block w.heap.size hTm (fun e=>by have:=Option.some.inj e; omega)))
 obtain ⟨m0,m1,m2,m3,_,_,_,_⟩:=hN3.all
 obtain ⟨n0,n1,n2,n3,g0,g1,g2,g3⟩:=hTb.all
 have H3:=Hq (And.intro hR3 hT3)
 have HTB:=Hq hTb
 have htm:¬ w2.heap.size=w.heap.size:=by omega
 clear hR3 hT3 hN3 hTb c1 f1
 go_wp2_with fail
 (try simp only [Exit.inBlock,Exit.then])
 refine bodyPost_ret (res_val (by rfl) (HTB.out.four _ _ _ _)) rfl ?_
 refine ⟨_,⟨_,_,_,_,_,_,_,_,rfl⟩,rfl,?_,val_frame rfl H2.out.2.1 HGB.out H3.out.2 (gb_four _ _ _ _)⟩
 obtain ⟨q',fa,z1,z2,z3⟩:=H3.out.1
 exact ⟨q',fa,z1,z2,z3.kept (gb_four _ _ _ _) (by omega)⟩
theorem val_sc_yes(g:Nat)(s:ByteArray)(p:Nat)(tw lo op:Bool)(w:World)(hs:s.size≤4294967296)(h:R w g s p tw lo 0 op)(c:Int)(HC:Hid (((bytes s).drop (p+ws ((bytes s).drop p))).headD 0=c))(h1:¬ c=123)(h2:¬ c=91)(j:Nat)(o:Bool)(hj:(scalarO lo ((bytes s).drop (p+ws ((bytes s).drop p))),false)=(some j,o)):
  Calls Tryz.prog 23 #[.pointer (some ⟨g,0,none⟩)] w fun e w'=>∃ nd,NodeV nd∧e=.returned (.tuple #[nd,.bool true])∧R w' g s (p+ws ((bytes s).drop p)+j) tw lo 0 (op || o)∧w.grownBy w' (some g):=by
 have hgw:=h.lt
 have hR0:R (w.alloc (.cells #[.int .u8 0,.string ⟨#[]⟩,.slice none 0 0,.slice none 0 0] 42)) g s p tw lo 0 op:=h.block ((World.grownBy_alloc w _ none).block g hgw (by simp))
 have SP:=Hq (space24 g s p tw lo 0 op _ (by omega) h.2 hR0)
 have SEE:=Hq (fun w h=>see_c g s (p+ws ((bytes s).drop p)) tw lo 0 op c HC.out w h)
 have HJ:=Hq hj
 have hps:=h.2
 have HT0:=Hq (show Nd (w.alloc (.cells #[.int .u8 0,.string ⟨#[]⟩,.slice none 0 0,.slice none 0 0] 42)) w.heap.size 0 ⟨#[]⟩ (.slice none 0 0) (.slice none 0 0) from heap_alloc_new w _)
 have t1:(c==123)=false:=by simpa using h1
 have t2:(c==91)=false:=by simpa using h2
 clear h hR0 hj
 go_enter Tryz.func23,Tryz.ntmps23
 go_wp2_with fail
 refine SP.out.mono ?_
 rintro e w1 ⟨rfl,hR1,hg1⟩
 have HT1:=Hq (HT0.out.kept hg1 (by omega))
 have H1:=Hq (And.intro hR1 (World.grownBy.trans (World.grownBy_alloc w _ (some g)) hg1))
 clear hR1 hg1
 go_wp2_with fail
 refine (SEE.out w1 H1.out.1).mono ?_
 rintro e w2 ⟨rfl,d2,rfl⟩
 obtain ⟨w2,hw2⟩:∃ w2,w1.drewN d2=w2:=⟨_,rfl⟩
 have H2:Hid (R w2 g s (p+ws ((bytes s).drop p)) tw lo 0 op∧w.grownBy w2 (some g)∧Nd w2 w.heap.size 0 ⟨#[]⟩ (.slice none 0 0) (.slice none 0 0)):=Hq (by rw [← hw2]; exact ⟨H1.out.1.drew d2,gb_drewN H1.out.2 d2,HT1.out⟩)
 rw [hw2]
 clear hw2
 have hTm:=H2.out.2.2.lt
 have hgm:=H2.out.1.lt
 have hRc:R (w2.alloc (.cells #[.int .u8 c,.string ⟨#[]⟩,.slice none 0 0,.slice none 0 0] 42)) g s (p+ws ((bytes s).drop p)) tw lo 0 op:=H2.out.1.block ((World.grownBy_alloc w2 _ none).block g hgm (by simp))
 have hNc:Nd (w2.alloc (.cells #[.int .u8 c,.string ⟨#[]⟩,.slice none 0 0,.slice none 0 0] 42)) w2.heap.size c ⟨#[]⟩ (.slice none 0 0) (.slice none 0 0):=heap_alloc_new w2 _
 have hgb:w2.grownBy (w2.alloc (.cells #[.int .u8 c,.string ⟨#[]⟩,.slice none 0 0,.slice none 0 0] 42)) (some g):=World.grownBy_alloc w2 _ (some g)
 have C:=scalar47 g w2.heap.size s (p+ws ((bytes s).drop p)) tw lo op _ _ _ hs hRc hNc (by omega)
 have C1:=Hq (sub_yes C HJ.out)
 have HGB:=Hq hgb
 clear C hgb hRc hNc
 go_wp2_with fail
 refine C1.out.mono ?_
 rintro e w3 ⟨rfl,hR3,⟨k3,tx3,a3,la3,ca3,b3,lb3,cb3,hN3⟩,hT3⟩
 have hTb:Nd w3 w.heap.size 0 ⟨#[]⟩ (.slice none 0 0) (.slice none 0 0):=H2.out.2.2.block ((hT3.block w.heap.size (Nat.lt_of_lt_of_le hTm HGB.out.size) (by omega) (by omega)).trans (HGB.out.block w.heap.size hTm (fun e=>by have:=Option.some.inj e; omega)))
 obtain ⟨m0,m1,m2,m3,_,_,_,_⟩:=hN3.all
 obtain ⟨n0,n1,n2,n3,g0,g1,g2,g3⟩:=hTb.all
 have H3:=Hq (And.intro hR3 hT3)
 have HTB:=Hq hTb
 have htm:¬ w2.heap.size=w.heap.size:=by omega
 clear hR3 hT3 hN3 hTb
 go_wp2_with fail
 (try simp only [Exit.inBlock,Exit.then])
 refine bodyPost_ret (res_val (by rfl) (HTB.out.four _ _ _ _)) rfl ?_
 refine ⟨_,⟨_,_,_,_,_,_,_,_,rfl⟩,rfl,?_,val_frame rfl H2.out.2.1 HGB.out H3.out.2 (gb_four _ _ _ _)⟩
 exact H3.out.1.kept (gb_four _ _ _ _) (by omega)
theorem val_sc_no(g:Nat)(s:ByteArray)(p:Nat)(tw lo op:Bool)(w:World)(hs:s.size≤4294967296)(h:R w g s p tw lo 0 op)(c:Int)(HC:Hid (((bytes s).drop (p+ws ((bytes s).drop p))).headD 0=c))(h1:¬ c=123)(h2:¬ c=91)(o:Bool)(hj:(scalarO lo ((bytes s).drop (p+ws ((bytes s).drop p))),false)=(none,o)):
  Calls Tryz.prog 23 #[.pointer (some ⟨g,0,none⟩)] w fun e w'=>∃ nd,NodeV nd∧e=.returned (.tuple #[nd,.bool false])∧Failed g s tw lo (op || o) (p+ws ((bytes s).drop p)) w'∧w.grownBy w' (some g):=by
 have hgw:=h.lt
 have hR0:R (w.alloc (.cells #[.int .u8 0,.string ⟨#[]⟩,.slice none 0 0,.slice none 0 0] 42)) g s p tw lo 0 op:=h.block ((World.grownBy_alloc w _ none).block g hgw (by simp))
 have SP:=Hq (space24 g s p tw lo 0 op _ (by omega) h.2 hR0)
 have SEE:=Hq (fun w h=>see_c g s (p+ws ((bytes s).drop p)) tw lo 0 op c HC.out w h)
 have HJ:=Hq hj
 have hps:=h.2
 have HT0:=Hq (show Nd (w.alloc (.cells #[.int .u8 0,.string ⟨#[]⟩,.slice none 0 0,.slice none 0 0] 42)) w.heap.size 0 ⟨#[]⟩ (.slice none 0 0) (.slice none 0 0) from heap_alloc_new w _)
 have t1:(c==123)=false:=by simpa using h1
 have t2:(c==91)=false:=by simpa using h2
 clear h hR0 hj
 go_enter Tryz.func23,Tryz.ntmps23
 go_wp2_with fail
 refine SP.out.mono ?_
 rintro e w1 ⟨rfl,hR1,hg1⟩
 have HT1:=Hq (HT0.out.kept hg1 (by omega))
 have H1:=Hq (And.intro hR1 (World.grownBy.trans (World.grownBy_alloc w _ (some g)) hg1))
 clear hR1 hg1
 go_wp2_with fail
 refine (SEE.out w1 H1.out.1).mono ?_
 rintro e w2 ⟨rfl,d2,rfl⟩
 obtain ⟨w2,hw2⟩:∃ w2,w1.drewN d2=w2:=⟨_,rfl⟩
 have H2:Hid (R w2 g s (p+ws ((bytes s).drop p)) tw lo 0 op∧w.grownBy w2 (some g)∧Nd w2 w.heap.size 0 ⟨#[]⟩ (.slice none 0 0) (.slice none 0 0)):=Hq (by rw [← hw2]; exact ⟨H1.out.1.drew d2,gb_drewN H1.out.2 d2,HT1.out⟩)
 rw [hw2]
 clear hw2
 have hTm:=H2.out.2.2.lt
 have hgm:=H2.out.1.lt
 have hRc:R (w2.alloc (.cells #[.int .u8 c,.string ⟨#[]⟩,.slice none 0 0,.slice none 0 0] 42)) g s (p+ws ((bytes s).drop p)) tw lo 0 op:=H2.out.1.block ((World.grownBy_alloc w2 _ none).block g hgm (by simp))
 have hNc:Nd (w2.alloc (.cells #[.int .u8 c,.string ⟨#[]⟩,.slice none 0 0,.slice none 0 0] 42)) w2.heap.size c ⟨#[]⟩ (.slice none 0 0) (.slice none 0 0):=heap_alloc_new w2 _
 have hgb:w2.grownBy (w2.alloc (.cells #[.int .u8 c,.string ⟨#[]⟩,.slice none 0 0,.slice none 0 0] 42)) (some g):=World.grownBy_alloc w2 _ (some g)
 have C:=scalar47 g w2.heap.size s (p+ws ((bytes s).drop p)) tw lo op _ _ _ hs hRc hNc (by omega)
 have C1:=Hq (sub_no C HJ.out)
 have HGB:=Hq hgb
 clear C hgb hRc hNc
 go_wp2_with fail
 refine C1.out.mono ?_
 rintro e w3 ⟨rfl,hR3,⟨k3,tx3,a3,la3,ca3,b3,lb3,cb3,hN3⟩,hT3⟩
 have hTb:Nd w3 w.heap.size 0 ⟨#[]⟩ (.slice none 0 0) (.slice none 0 0):=H2.out.2.2.block ((hT3.block w.heap.size (Nat.lt_of_lt_of_le hTm HGB.out.size) (by omega) (by omega)).trans (HGB.out.block w.heap.size hTm (fun e=>by have:=Option.some.inj e; omega)))
 obtain ⟨m0,m1,m2,m3,_,_,_,_⟩:=hN3.all
 obtain ⟨n0,n1,n2,n3,g0,g1,g2,g3⟩:=hTb.all
 have H3:=Hq (And.intro hR3 hT3)
 have HTB:=Hq hTb
 have htm:¬ w2.heap.size=w.heap.size:=by omega
 clear hR3 hT3 hN3 hTb
 go_wp2_with fail
 (try simp only [Exit.inBlock,Exit.then])
 refine bodyPost_ret (res_val (by rfl) (HTB.out.four _ _ _ _)) rfl ?_
 refine ⟨_,⟨_,_,_,_,_,_,_,_,rfl⟩,rfl,?_,val_frame rfl H2.out.2.1 HGB.out H3.out.2 (gb_four _ _ _ _)⟩
 obtain ⟨q',fa,z1,z2,z3⟩:=H3.out.1
 exact ⟨q',fa,z1,z2,z3.kept (gb_four _ _ _ _) (by omega)⟩
theorem valueAll:∀ n,VAll n:=by
 intro n
 induction n using Nat.strongRecOn with
 |_ n ih=>
  intro g s p tw lo op w hs h hf
  obtain ⟨n,rfl⟩:∃ n',n=n'+1:=⟨n-1,by omega⟩
  have hV:∀ n',n'<n→VAll n':=fun n' h=>ih n' (by omega)
  obtain ⟨c,HC⟩:∃ c,Hid (((bytes s).drop (p+ws ((bytes s).drop p))).headD 0=c):=⟨_,Hq rfl⟩
  have hd:((bytes s).drop p).drop (ws ((bytes s).drop p))=(bytes s).drop (p+ws ((bytes s).drop p)):=by rw [List.drop_drop]
  have hd1:((bytes s).drop p).drop (ws ((bytes s).drop p)+1)=(bytes s).drop (p+ws ((bytes s).drop p)+1):=by rw [List.drop_drop,Nat.add_assoc]
  by_cases c1:c=123
  ·have e:=run_obj' (chk:=chkT tw) (lo:=lo) (n:=n) (xs:=(bytes s).drop p) (by rw [hd,HC.out]; exact c1)
   rw [hd1] at e
   rw [e]
   cases hr:brO (chkT tw) lo n 125 (.mems []) ((bytes s).drop (p+ws ((bytes s).drop p)+1)) with
   |mk j o=>
   cases j with
   |none=>exact (val_obj_no n hV g s p tw lo op w hs h hf c HC c1 o hr).mono fun e w' ⟨nd,h1,h2,h3,h4⟩=>.inr ⟨nd,rfl,h1,h2,by simpa [up] using h3.mono (show p≤p+ws ((bytes s).drop p)+1 by omega),h4⟩
   |some j=>exact (val_obj_yes n hV g s p tw lo op w hs h hf c HC c1 j o hr).mono fun e w' ⟨nd,h1,h2,h3,h4⟩=>.inl ⟨j+(ws ((bytes s).drop p)+1),nd,rfl,h1,h2,by rw [show p+(j+(ws ((bytes s).drop p)+1))=p+ws ((bytes s).drop p)+1+j by omega]; simpa [up] using h3,h4⟩
  by_cases c2:c=91
  ·have e:=run_arr' (chk:=chkT tw) (lo:=lo) (n:=n) (xs:=(bytes s).drop p) (by rw [hd,HC.out]; exact c2)
   rw [hd1] at e
   rw [e]
   cases hr:brO (chkT tw) lo n 93 .elems ((bytes s).drop (p+ws ((bytes s).drop p)+1)) with
   |mk j o=>
   cases j with
   |none=>exact (val_arr_no n hV g s p tw lo op w hs h hf c HC c2 o hr).mono fun e w' ⟨nd,h1,h2,h3,h4⟩=>.inr ⟨nd,rfl,h1,h2,by simpa [up] using h3.mono (show p≤p+ws ((bytes s).drop p)+1 by omega),h4⟩
   |some j=>exact (val_arr_yes n hV g s p tw lo op w hs h hf c HC c2 j o hr).mono fun e w' ⟨nd,h1,h2,h3,h4⟩=>.inl ⟨j+(ws ((bytes s).drop p)+1),nd,rfl,h1,h2,by rw [show p+(j+(ws ((bytes s).drop p)+1))=p+ws ((bytes s).drop p)+1+j by omega]; simpa [up] using h3,h4⟩
  ·rw [run_scalar (by rw [hd,HC.out]; exact c1) (by rw [hd,HC.out]; exact c2),hd]
   cases hr:scalarO lo ((bytes s).drop (p+ws ((bytes s).drop p))) with
   |none=>exact (val_sc_no g s p tw lo op w hs h c HC c1 c2 false (by rw [hr])).mono fun e w' ⟨nd,h1,h2,h3,h4⟩=>.inr ⟨nd,rfl,h1,h2,h3.mono (show p≤p+ws ((bytes s).drop p) by omega),h4⟩
   |some j=>exact (val_sc_yes g s p tw lo op w hs h c HC c1 c2 j false (by rw [hr])).mono fun e w' ⟨nd,h1,h2,h3,h4⟩=>.inl ⟨j+ws ((bytes s).drop p),nd,rfl,h1,h2,by rw [show p+(j+ws ((bytes s).drop p))=p+ws ((bytes s).drop p)+j by omega]; exact h3,h4⟩
end Go.Proofs.YtknaalohaagcdaaGreatDoor.Own
