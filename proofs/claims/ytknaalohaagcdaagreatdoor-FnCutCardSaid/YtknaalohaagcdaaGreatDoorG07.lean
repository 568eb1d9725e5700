import Derived.Test.YtknaalohaagcdaaGreatDoorG01
import Derived.Test.YtknaalohaagcdaaGreatDoorG06
set_option maxHeartbeats 400000000
set_option maxRecDepth 100000
namespace Go.Proofs.YtknaalohaagcdaaGreatDoor.Own
open Go.RowKit JG
theorem scalar_num45(g m:Nat)(s:ByteArray)(p:Nat)(tw lo op:Bool)(k0:Int)(tx:ByteArray)(ns ks:Value)(w:World)(hs:s.size≤140737488355328)(h:R w g s p tw lo 0 op)(hN:Nd w m k0 tx ns ks)(hne:m≠g)(hc:((bytes s).drop p).headD 0=45)(j:Nat)(hj:num ((bytes s).drop p)=some j):
  Calls Tryz.prog 47 #[.pointer (some ⟨g,0,none⟩),.pointer (some ⟨m,0,none⟩)] w fun e w'=>e=.returned (.bool true)∧R w' g s (p+j) tw lo 0 op∧(∃ tx',Nd w' m 48 tx' ns ks)∧Two g m w w':=by
 have S:=Hq (see_c g s p tw lo 0 op 45 hc w h)
 have W:=Hq (fun w1 (h1:R w1 g s p tw lo 0 op)=>calls_yes (number56 g s p tw lo op w1 hs h1) hj)
 obtain ⟨c0,c1,_,_,_,_,_,_,_⟩:=h.facts
 obtain ⟨d0,d1,e0,e1⟩:=hN.facts
 have HN:=Hq hN
 have H:=Hq h
 have HP:=Hq h.2
 have HNE:=Hq hne
 clear h hN hc hj hne
 go_enter Tryz.func47,Tryz.ntmps47
 go_wp2_with fail
 refine S.out.mono ?_
 rintro e w' ⟨rfl,n,rfl⟩
 go_wp2_with fail
 have hset0:(w.drewN n).grownBy ((w.drewN n).setCell ⟨m,0,none⟩ (.int .u8 48)) (some m):=Go.Lib.grownBy_setCell _ _ _ _
 have hR0:=R.kept (H.out.drew n) hset0 (fun e=>HNE.out e.symm)
 have HN0:=Hq (Nd.setKind (w:=w.drewN n) HN.out 48)
 have HT0:=Hq ((Two.refl g m w).drewN n |>.trans (Two.right hset0))
 clear c0 c1 d0 d1 e0 e1 hset0
 refine (W.out _ hR0).mono ?_
 clear hR0
 rintro e w1 ⟨rfl,hR,hg⟩
 have HR:=Hq hR
 have HG:=Hq hg
 have hN1:=HN0.out.kept hg HNE.out
 obtain ⟨c0,c1,_,_,_,_,_,_,_⟩:=hR.facts
 obtain ⟨d0,d1,e0,e1⟩:=hN1.facts
 have hb1:p+j≤s.size:=hR.2
 have HN1:=Hq hN1
 clear hR hg hN1
 have hsl:∀ W,(Instr.slice 9 (.string s) (some (.int .i64 (p:Int))) (some (.int .i64 ((p:Int)+(j:Int)))) none).run Tryz.prog W=.ok (.string (s.extract p (p+j))) W:=fun W=>by
  have e:=run_slice_string (P:=Tryz.prog) W 9 s .i64 .i64 (p:Int) ((p:Int)+(j:Int)) Tryz.underlying9 (by omega) (by omega) (by omega)
  rw [e,Int.toNat_natCast,show ((p:Int)+(j:Int)).toNat=p+j by omega]
 go_wp2_with fail
 go_still_tail 13,(by kernel_rfl)
 go_wp2_with fail
 go_ret
 have hset:(w1.drewN 1).grownBy ((w1.drewN 1).setCell ⟨m,1,none⟩ (.string (s.extract p (p+j)))) (some m):=Go.Lib.grownBy_setCell _ _ _ _
 exact ⟨rfl,R.kept (HR.out.drew 1) hset (fun e=>HNE.out e.symm),⟨_,Nd.setText (w:=w1.drewN 1) HN1.out _⟩,HT0.out.trans ((Two.left HG.out).drewN 1 |>.trans (Two.right hset))⟩
theorem scalar_num45_no(g m:Nat)(s:ByteArray)(p:Nat)(tw lo op:Bool)(k0:Int)(tx:ByteArray)(ns ks:Value)(w:World)(hs:s.size≤140737488355328)(h:R w g s p tw lo 0 op)(hN:Nd w m k0 tx ns ks)(hne:m≠g)(hc:((bytes s).drop p).headD 0=45)(hj:num ((bytes s).drop p)=none):
  Calls Tryz.prog 47 #[.pointer (some ⟨g,0,none⟩),.pointer (some ⟨m,0,none⟩)] w fun e w'=>e=.returned (.bool false)∧Failed g s tw lo op p w'∧(∃ tx',Nd w' m 48 tx' ns ks)∧Two g m w w':=by
 have S:=Hq (see_c g s p tw lo 0 op 45 hc w h)
 have W:=Hq (fun w1 (h1:R w1 g s p tw lo 0 op)=>calls_no (number56 g s p tw lo op w1 hs h1) hj)
 obtain ⟨c0,c1,_,_,_,_,_,_,_⟩:=h.facts
 obtain ⟨d0,d1,e0,e1⟩:=hN.facts
 have HN:=Hq hN
 have H:=Hq h
 have HP:=Hq h.2
 have HNE:=Hq hne
 clear h hN hc hj hne
 go_enter Tryz.func47,Tryz.ntmps47
 go_wp2_with fail
 refine S.out.mono ?_
 rintro e w' ⟨rfl,n,rfl⟩
 go_wp2_with fail
 have hset0:(w.drewN n).grownBy ((w.drewN n).setCell ⟨m,0,none⟩ (.int .u8 48)) (some m):=Go.Lib.grownBy_setCell _ _ _ _
 have hR0:=R.kept (H.out.drew n) hset0 (fun e=>HNE.out e.symm)
 have HN0:=Hq (Nd.setKind (w:=w.drewN n) HN.out 48)
 have HT0:=Hq ((Two.refl g m w).drewN n |>.trans (Two.right hset0))
 clear c0 c1 d0 d1 e0 e1 hset0
 refine (W.out _ hR0).mono ?_
 clear hR0
 rintro e w1 ⟨rfl,⟨q,fa,hfa,hpq,hR⟩,hg⟩
 have HR:=Hq hR
 have HG:=Hq hg
 have hN1:=HN0.out.kept hg HNE.out
 obtain ⟨c0,c1,_,_,_,_,_,_,_⟩:=hR.facts
 obtain ⟨d0,d1,e0,e1⟩:=hN1.facts
 have hb1:q≤s.size:=hR.2
 have HN1:=Hq hN1
 clear hR hg hN1
 have hsl:∀ W,(Instr.slice 9 (.string s) (some (.int .i64 (p:Int))) (some (.int .i64 (q:Int))) none).run Tryz.prog W=.ok (.string (s.extract p q)) W:=fun W=>by
  have e:=run_slice_string (P:=Tryz.prog) W 9 s .i64 .i64 (p:Int) (q:Int) Tryz.underlying9 (by omega) (by omega) (by omega)
  rw [e,Int.toNat_natCast,Int.toNat_natCast]
 go_wp2_with fail
 go_still_tail 13,(by kernel_rfl)
 go_wp2_with fail
 go_ret
 have hset:(w1.drewN 1).grownBy ((w1.drewN 1).setCell ⟨m,1,none⟩ (.string (s.extract p q))) (some m):=Go.Lib.grownBy_setCell _ _ _ _
 exact ⟨rfl,⟨q,fa,hfa,hpq,R.kept (HR.out.drew 1) hset (fun e=>HNE.out e.symm)⟩,⟨_,Nd.setText (w:=w1.drewN 1) HN1.out _⟩,HT0.out.trans ((Two.left HG.out).drewN 1 |>.trans (Two.right hset))⟩
theorem scalar_num48(g m:Nat)(s:ByteArray)(p:Nat)(tw lo op:Bool)(k0:Int)(tx:ByteArray)(ns ks:Value)(w:World)(hs:s.size≤140737488355328)(h:R w g s p tw lo 0 op)(hN:Nd w m k0 tx ns ks)(hne:m≠g)(hc:((bytes s).drop p).headD 0=48)(j:Nat)(hj:num ((bytes s).drop p)=some j):
  Calls Tryz.prog 47 #[.pointer (some ⟨g,0,none⟩),.pointer (some ⟨m,0,none⟩)] w fun e w'=>e=.returned (.bool true)∧R w' g s (p+j) tw lo 0 op∧(∃ tx',Nd w' m 48 tx' ns ks)∧Two g m w w':=by
 have S:=Hq (see_c g s p tw lo 0 op 48 hc w h)
 have W:=Hq (fun w1 (h1:R w1 g s p tw lo 0 op)=>calls_yes (number56 g s p tw lo op w1 hs h1) hj)
 obtain ⟨c0,c1,_,_,_,_,_,_,_⟩:=h.facts
 obtain ⟨d0,d1,e0,e1⟩:=hN.facts
 have HN:=Hq hN
 have H:=Hq h
 have HP:=Hq h.2
 have HNE:=Hq hne
 clear h hN hc hj hne
 go_enter Tryz.func47,Tryz.ntmps47
 go_wp2_with fail
 refine S.out.mono ?_
 rintro e w' ⟨rfl,n,rfl⟩
 go_wp2_with fail
 have hset0:(w.drewN n).grownBy ((w.drewN n).setCell ⟨m,0,none⟩ (.int .u8 48)) (some m):=Go.Lib.grownBy_setCell _ _ _ _
 have hR0:=R.kept (H.out.drew n) hset0 (fun e=>HNE.out e.symm)
 have HN0:=Hq (Nd.setKind (w:=w.drewN n) HN.out 48)
 have HT0:=Hq ((Two.refl g m w).drewN n |>.trans (Two.right hset0))
 clear c0 c1 d0 d1 e0 e1 hset0
 refine (W.out _ hR0).mono ?_
 clear hR0
 rintro e w1 ⟨rfl,hR,hg⟩
 have HR:=Hq hR
 have HG:=Hq hg
 have hN1:=HN0.out.kept hg HNE.out
 obtain ⟨c0,c1,_,_,_,_,_,_,_⟩:=hR.facts
 obtain ⟨d0,d1,e0,e1⟩:=hN1.facts
 have hb1:p+j≤s.size:=hR.2
 have HN1:=Hq hN1
 clear hR hg hN1
 have hsl:∀ W,(Instr.slice 9 (.string s) (some (.int .i64 (p:Int))) (some (.int .i64 ((p:Int)+(j:Int)))) none).run Tryz.prog W=.ok (.string (s.extract p (p+j))) W:=fun W=>by
  have e:=run_slice_string (P:=Tryz.prog) W 9 s .i64 .i64 (p:Int) ((p:Int)+(j:Int)) Tryz.underlying9 (by omega) (by omega) (by omega)
  rw [e,Int.toNat_natCast,show ((p:Int)+(j:Int)).toNat=p+j by omega]
 go_wp2_with fail
 go_still_tail 13,(by kernel_rfl)
 go_wp2_with fail
 go_ret
 have hset:(w1.drewN 1).grownBy ((w1.drewN 1).setCell ⟨m,1,none⟩ (.string (s.extract p (p+j)))) (some m):=Go.Lib.grownBy_setCell _ _ _ _
 exact ⟨rfl,R.kept (HR.out.drew 1) hset (fun e=>HNE.out e.symm),⟨_,Nd.setText (w:=w1.drewN 1) HN1.out _⟩,HT0.out.trans ((Two.left HG.out).drewN 1 |>.trans (Two.right hset))⟩
theorem scalar_num48_no(g m:Nat)(s:ByteArray)(p:Nat)(tw lo op:Bool)(k0:Int)(tx:ByteArray)(ns ks:Value)(w:World)(hs:s.size≤140737488355328)(h:R w g s p tw lo 0 op)(hN:Nd w m k0 tx ns ks)(hne:m≠g)(hc:((bytes s).drop p).headD 0=48)(hj:num ((bytes s).drop p)=none):
  Calls Tryz.prog 47 #[.pointer (some ⟨g,0,none⟩),.pointer (some ⟨m,0,none⟩)] w fun e w'=>e=.returned (.bool false)∧Failed g s tw lo op p w'∧(∃ tx',Nd w' m 48 tx' ns ks)∧Two g m w w':=by
 have S:=Hq (see_c g s p tw lo 0 op 48 hc w h)
 have W:=Hq (fun w1 (h1:R w1 g s p tw lo 0 op)=>calls_no (number56 g s p tw lo op w1 hs h1) hj)
 obtain ⟨c0,c1,_,_,_,_,_,_,_⟩:=h.facts
 obtain ⟨d0,d1,e0,e1⟩:=hN.facts
 have HN:=Hq hN
 have H:=Hq h
 have HP:=Hq h.2
 have HNE:=Hq hne
 clear h hN hc hj hne
 go_enter Tryz.func47,Tryz.ntmps47
 go_wp2_with fail
 refine S.out.mono ?_
 rintro e w' ⟨rfl,n,rfl⟩
 go_wp2_with fail
 have hset0:(w.drewN n).grownBy ((w.drewN n).setCell ⟨m,0,none⟩ (.int .u8 48)) (some m):=Go.Lib.grownBy_setCell _ _ _ _
 have hR0:=R.kept (H.out.drew n) hset0 (fun e=>HNE.out e.symm)
 have HN0:=Hq (Nd.setKind (w:=w.drewN n) HN.out 48)
 have HT0:=Hq ((Two.refl g m w).drewN n |>.trans (Two.right hset0))
 clear c0 c1 d0 d1 e0 e1 hset0
 refine (W.out _ hR0).mono ?_
 clear hR0
 rintro e w1 ⟨rfl,⟨q,fa,hfa,hpq,hR⟩,hg⟩
 have HR:=Hq hR
 have HG:=Hq hg
 have hN1:=HN0.out.kept hg HNE.out
 obtain ⟨c0,c1,_,_,_,_,_,_,_⟩:=hR.facts
 obtain ⟨d0,d1,e0,e1⟩:=hN1.facts
 have hb1:q≤s.size:=hR.2
 have HN1:=Hq hN1
 clear hR hg hN1
 have hsl:∀ W,(Instr.slice 9 (.string s) (some (.int .i64 (p:Int))) (some (.int .i64 (q:Int))) none).run Tryz.prog W=.ok (.string (s.extract p q)) W:=fun W=>by
  have e:=run_slice_string (P:=Tryz.prog) W 9 s .i64 .i64 (p:Int) (q:Int) Tryz.underlying9 (by omega) (by omega) (by omega)
  rw [e,Int.toNat_natCast,Int.toNat_natCast]
 go_wp2_with fail
 go_still_tail 13,(by kernel_rfl)
 go_wp2_with fail
 go_ret
 have hset:(w1.drewN 1).grownBy ((w1.drewN 1).setCell ⟨m,1,none⟩ (.string (s.extract p q))) (some m):=Go.Lib.grownBy_setCell _ _ _ _
 exact ⟨rfl,⟨q,fa,hfa,hpq,R.kept (HR.out.drew 1) hset (fun e=>HNE.out e.symm)⟩,⟨_,Nd.setText (w:=w1.drewN 1) HN1.out _⟩,HT0.out.trans ((Two.left HG.out).drewN 1 |>.trans (Two.right hset))⟩
theorem scalar_num49(g m:Nat)(s:ByteArray)(p:Nat)(tw lo op:Bool)(k0:Int)(tx:ByteArray)(ns ks:Value)(w:World)(hs:s.size≤140737488355328)(h:R w g s p tw lo 0 op)(hN:Nd w m k0 tx ns ks)(hne:m≠g)(hc:((bytes s).drop p).headD 0=49)(j:Nat)(hj:num ((bytes s).drop p)=some j):
  Calls Tryz.prog 47 #[.pointer (some ⟨g,0,none⟩),.pointer (some ⟨m,0,none⟩)] w fun e w'=>e=.returned (.bool true)∧R w' g s (p+j) tw lo 0 op∧(∃ tx',Nd w' m 48 tx' ns ks)∧Two g m w w':=by
 have S:=Hq (see_c g s p tw lo 0 op 49 hc w h)
 have W:=Hq (fun w1 (h1:R w1 g s p tw lo 0 op)=>calls_yes (number56 g s p tw lo op w1 hs h1) hj)
 obtain ⟨c0,c1,_,_,_,_,_,_,_⟩:=h.facts
 obtain ⟨d0,d1,e0,e1⟩:=hN.facts
 have HN:=Hq hN
 have H:=Hq h
 have HP:=Hq h.2
 have HNE:=Hq hne
 clear h hN hc hj hne
 go_enter Tryz.func47,Tryz.ntmps47
 go_wp2_with fail
 refine S.out.mono ?_
 rintro e w' ⟨rfl,n,rfl⟩
 go_wp2_with fail
 have hset0:(w.drewN n).grownBy ((w.drewN n).setCell ⟨m,0,none⟩ (.int .u8 48)) (some m):=Go.Lib.grownBy_setCell _ _ _ _
 have hR0:=R.kept (H.out.drew n) hset0 (fun e=>HNE.out e.symm)
 have HN0:=Hq (Nd.setKind (w:=w.drewN n) HN.out 48)
 have HT0:=Hq ((Two.refl g m w).drewN n |>.trans (Two.right hset0))
 clear c0 c1 d0 d1 e0 e1 hset0
 refine (W.out _ hR0).mono ?_
 clear hR0
 rintro e w1 ⟨rfl,hR,hg⟩
 have HR:=Hq hR
 have HG:=Hq hg
 have hN1:=HN0.out.kept hg HNE.out
 obtain ⟨c0,c1,_,_,_,_,_,_,_⟩:=hR.facts
 obtain ⟨d0,d1,e0,e1⟩:=hN1.facts
 have hb1:p+j≤s.size:=hR.2
 have HN1:=Hq hN1
 clear hR hg hN1
 have hsl:∀ W,(Instr.slice 9 (.string s) (some (.int .i64 (p:Int))) (some (.int .i64 ((p:Int)+(j:Int)))) none).run Tryz.prog W=.ok (.string (s.extract p (p+j))) W:=fun W=>by
  have e:=run_slice_string (P:=Tryz.prog) W 9 s .i64 .i64 (p:Int) ((p:Int)+(j:Int)) Tryz.underlying9 (by omega) (by omega) (by omega)
  rw [e,Int.toNat_natCast,show ((p:Int)+(j:Int)).toNat=p+j by omega]
 go_wp2_with fail
 go_still_tail 13,(by kernel_rfl)
 go_wp2_with fail
 go_ret
 have hset:(w1.drewN 1).grownBy ((w1.drewN 1).setCell ⟨m,1,none⟩ (.string (s.extract p (p+j)))) (some m):=Go.Lib.grownBy_setCell _ _ _ _
 exact ⟨rfl,R.kept (HR.out.drew 1) hset (fun e=>HNE.out e.symm),⟨_,Nd.setText (w:=w1.drewN 1) HN1.out _⟩,HT0.out.trans ((Two.left HG.out).drewN 1 |>.trans (Two.right hset))⟩
theorem scalar_num49_no(g m:Nat)(s:ByteArray)(p:Nat)(tw lo op:Bool)(k0:Int)(tx:ByteArray)(ns ks:Value)(w:World)(hs:s.size≤140737488355328)(h:R w g s p tw lo 0 op)(hN:Nd w m k0 tx ns ks)(hne:m≠g)(hc:((bytes s).drop p).headD 0=49)(hj:num ((bytes s).drop p)=none):
  Calls Tryz.prog 47 #[.pointer (some ⟨g,0,none⟩),.pointer (some ⟨m,0,none⟩)] w fun e w'=>e=.returned (.bool false)∧Failed g s tw lo op p w'∧(∃ tx',Nd w' m 48 tx' ns ks)∧Two g m w w':=by
 have S:=Hq (see_c g s p tw lo 0 op 49 hc w h)
 have W:=Hq (fun w1 (h1:R w1 g s p tw lo 0 op)=>calls_no (number56 g s p tw lo op w1 hs h1) hj)
 obtain ⟨c0,c1,_,_,_,_,_,_,_⟩:=h.facts
 obtain ⟨d0,d1,e0,e1⟩:=hN.facts
 have HN:=Hq hN
 have H:=Hq h
 have HP:=Hq h.2
 have HNE:=Hq hne
 clear h hN hc hj hne
 go_enter Tryz.func47,Tryz.ntmps47
 go_wp2_with fail
 refine S.out.mono ?_
 rintro e w' ⟨rfl,n,rfl⟩
 go_wp2_with fail
 have hset0:(w.drewN n).grownBy ((w.drewN n).setCell ⟨m,0,none⟩ (.int .u8 48)) (some m):=Go.Lib.grownBy_setCell _ _ _ _
 have hR0:=R.kept (H.out.drew n) hset0 (fun e=>HNE.out e.symm)
 have HN0:=Hq (Nd.setKind (w:=w.drewN n) HN.out 48)
 have HT0:=Hq ((Two.refl g m w).drewN n |>.trans (Two.right hset0))
 clear c0 c1 d0 d1 e0 e1 hset0
 refine (W.out _ hR0).mono ?_
 clear hR0
 rintro e w1 ⟨rfl,⟨q,fa,hfa,hpq,hR⟩,hg⟩
 have HR:=Hq hR
 have HG:=Hq hg
 have hN1:=HN0.out.kept hg HNE.out
 obtain ⟨c0,c1,_,_,_,_,_,_,_⟩:=hR.facts
 obtain ⟨d0,d1,e0,e1⟩:=hN1.facts
 have hb1:q≤s.size:=hR.2
 have HN1:=Hq hN1
 clear hR hg hN1
 have hsl:∀ W,(Instr.slice 9 (.string s) (some (.int .i64 (p:Int))) (some (.int .i64 (q:Int))) none).run Tryz.prog W=.ok (.string (s.extract p q)) W:=fun W=>by
  have e:=run_slice_string (P:=Tryz.prog) W 9 s .i64 .i64 (p:Int) (q:Int) Tryz.underlying9 (by omega) (by omega) (by omega)
  rw [e,Int.toNat_natCast,Int.toNat_natCast]
 go_wp2_with fail
 go_still_tail 13,(by kernel_rfl)
 go_wp2_with fail
 go_ret
 have hset:(w1.drewN 1).grownBy ((w1.drewN 1).setCell ⟨m,1,none⟩ (.string (s.extract p q))) (some m):=Go.Lib.grownBy_setCell _ _ _ _
 exact ⟨rfl,⟨q,fa,hfa,hpq,R.kept (HR.out.drew 1) hset (fun e=>HNE.out e.symm)⟩,⟨_,Nd.setText (w:=w1.drewN 1) HN1.out _⟩,HT0.out.trans ((Two.left HG.out).drewN 1 |>.trans (Two.right hset))⟩
theorem scalar_num50(g m:Nat)(s:ByteArray)(p:Nat)(tw lo op:Bool)(k0:Int)(tx:ByteArray)(ns ks:Value)(w:World)(hs:s.size≤140737488355328)(h:R w g s p tw lo 0 op)(hN:Nd w m k0 tx ns ks)(hne:m≠g)(hc:((bytes s).drop p).headD 0=50)(j:Nat)(hj:num ((bytes s).drop p)=some j):
  Calls Tryz.prog 47 #[.pointer (some ⟨g,0,none⟩),.pointer (some ⟨m,0,none⟩)] w fun e w'=>e=.returned (.bool true)∧R w' g s (p+j) tw lo 0 op∧(∃ tx',Nd w' m 48 tx' ns ks)∧Two g m w w':=by
 have S:=Hq (see_c g s p tw lo 0 op 50 hc w h)
 have W:=Hq (fun w1 (h1:R w1 g s p tw lo 0 op)=>calls_yes (number56 g s p tw lo op w1 hs h1) hj)
 obtain ⟨c0,c1,_,_,_,_,_,_,_⟩:=h.facts
 obtain ⟨d0,d1,e0,e1⟩:=hN.facts
 have HN:=Hq hN
 have H:=Hq h
 have HP:=Hq h.2
 have HNE:=Hq hne
 clear h hN hc hj hne
 go_enter Tryz.func47,Tryz.ntmps47
 go_wp2_with fail
 refine S.out.mono ?_
 rintro e w' ⟨rfl,n,rfl⟩
 go_wp2_with fail
 have hset0:(w.drewN n).grownBy ((w.drewN n).setCell ⟨m,0,none⟩ (.int .u8 48)) (some m):=Go.Lib.grownBy_setCell _ _ _ _
 have hR0:=R.kept (H.out.drew n) hset0 (fun e=>HNE.out e.symm)
 have HN0:=Hq (Nd.setKind (w:=w.drewN n) HN.out 48)
 have HT0:=Hq ((Two.refl g m w).drewN n |>.trans (Two.right hset0))
 clear c0 c1 d0 d1 e0 e1 hset0
 refine (W.out _ hR0).mono ?_
 clear hR0
 rintro e w1 ⟨rfl,hR,hg⟩
 have HR:=Hq hR
 have HG:=Hq hg
 have hN1:=HN0.out.kept hg HNE.out
 obtain ⟨c0,c1,_,_,_,_,_,_,_⟩:=hR.facts
 obtain ⟨d0,d1,e0,e1⟩:=hN1.facts
 have hb1:p+j≤s.size:=hR.2
 have HN1:=Hq hN1
 clear hR hg hN1
 have hsl:∀ W,(Instr.slice 9 (.string s) (some (.int .i64 (p:Int))) (some (.int .i64 ((p:Int)+(j:Int)))) none).run Tryz.prog W=.ok (.string (s.extract p (p+j))) W:=fun W=>by
  have e:=run_slice_string (P:=Tryz.prog) W 9 s .i64 .i64 (p:Int) ((p:Int)+(j:Int)) Tryz.underlying9 (by omega) (by omega) (by omega)
  rw [e,Int.toNat_natCast,show ((p:Int)+(j:Int)).toNat=p+j by omega]
 go_wp2_with fail
 go_still_tail 13,(by kernel_rfl)
 go_wp2_with fail
 go_ret
 have hset:(w1.drewN 1).grownBy ((w1.drewN 1).setCell ⟨m,1,none⟩ (.string (s.extract p (p+j)))) (some m):=Go.Lib.grownBy_setCell _ _ _ _
 exact ⟨rfl,R.kept (HR.out.drew 1) hset (fun e=>HNE.out e.symm),⟨_,Nd.setText (w:=w1.drewN 1) HN1.out _⟩,HT0.out.trans ((Two.left HG.out).drewN 1 |>.trans (Two.right hset))⟩
theorem scalar_num50_no(g m:Nat)(s:ByteArray)(p:Nat)(tw lo op:Bool)(k0:Int)(tx:ByteArray)(ns ks:Value)(w:World)(hs:s.size≤140737488355328)(h:R w g s p tw lo 0 op)(hN:Nd w m k0 tx ns ks)(hne:m≠g)(hc:((bytes s).drop p).headD 0=50)(hj:num ((bytes s).drop p)=none):
  Calls Tryz.prog 47 #[.pointer (some ⟨g,0,none⟩),.pointer (some ⟨m,0,none⟩)] w fun e w'=>e=.returned (.bool false)∧Failed g s tw lo op p w'∧(∃ tx',Nd w' m 48 tx' ns ks)∧Two g m w w':=by
 have S:=Hq (see_c g s p tw lo 0 op 50 hc w h)
 have W:=Hq (fun w1 (h1:R w1 g s p tw lo 0 op)=>calls_no (number56 g s p tw lo op w1 hs h1) hj)
 obtain ⟨c0,c1,_,_,_,_,_,_,_⟩:=h.facts
 obtain ⟨d0,d1,e0,e1⟩:=hN.facts
 have HN:=Hq hN
 have H:=Hq h
 have HP:=Hq h.2
 have HNE:=Hq hne
 clear h hN hc hj hne
 go_enter Tryz.func47,Tryz.ntmps47
 go_wp2_with fail
 refine S.out.mono ?_
 rintro e w' ⟨rfl,n,rfl⟩
 go_wp2_with fail
 have hset0:(w.drewN n).grownBy ((w.drewN n).setCell ⟨m,0,none⟩ (.int .u8 48)) (some m):=Go.Lib.grownBy_setCell _ _ _ _
 have hR0:=R.kept (H.out.drew n) hset0 (fun e=>HNE.out e.symm)
 have HN0:=Hq (Nd.setKind (w:=w.drewN n) HN.out 48)
 have HT0:=Hq ((Two.refl g m w).drewN n |>.trans (Two.right hset0))
 clear c0 c1 d0 d1 e0 e1 hset0
 refine (W.out _ hR0).mono ?_
 clear hR0
 rintro e w1 ⟨rfl,⟨q,fa,hfa,hpq,hR⟩,hg⟩
 have HR:=Hq hR
 have HG:=Hq hg
 have hN1:=HN0.out.kept hg HNE.out
 obtain ⟨c0,c1,_,_,_,_,_,_,_⟩:=hR.facts
 obtain ⟨d0,d1,e0,e1⟩:=hN1.facts
 have hb1:q≤s.size:=hR.2
 have HN1:=Hq hN1
 clear hR hg hN1
 have hsl:∀ W,(Instr.slice 9 (.string s) (some (.int .i64 (p:Int))) (some (.int .i64 (q:Int))) none).run Tryz.prog W=.ok (.string (s.extract p q)) W:=fun W=>by
  have e:=run_slice_string (P:=Tryz.prog) W 9 s .i64 .i64 (p:Int) (q:Int) Tryz.underlying9 (by omega) (by omega) (by omega)
  rw [e,Int.toNat_natCast,Int.toNat_natCast]
 go_wp2_with fail
 go_still_tail 13,(by kernel_rfl)
 go_wp2_with fail
 go_ret
 have hset:(w1.drewN 1).grownBy ((w1.drewN 1).setCell ⟨m,1,none⟩ (.string (s.extract p q))) (some m):=Go.Lib.grownBy_setCell _ _ _ _
 exact ⟨rfl,⟨q,fa,hfa,hpq,R.kept (HR.out.drew 1) hset (fun e=>HNE.out e.symm)⟩,⟨_,Nd.setText (w:=w1.drewN 1) HN1.out _⟩,HT0.out.trans ((Two.left HG.out).drewN 1 |>.trans (Two.right hset))⟩
theorem scalar_num51(g m:Nat)(s:ByteArray)(p:Nat)(tw lo op:Bool)(k0:Int)(tx:ByteArray)(ns ks:Value)(w:World)(hs:s.size≤140737488355328)(h:R w g s p tw lo 0 op)(hN:Nd w m k0 tx ns ks)(hne:m≠g)(hc:((bytes s).drop p).headD 0=51)(j:Nat)(hj:num ((bytes s).drop p)=some j):
  Calls Tryz.prog 47 #[.pointer (some ⟨g,0,none⟩),.pointer (some ⟨m,0,none⟩)] w fun e w'=>e=.returned (.bool true)∧R w' g s (p+j) tw lo 0 op∧(∃ tx',Nd w' m 48 tx' ns ks)∧Two g m w w':=by
 have S:=Hq (see_c g s p tw lo 0 op 51 hc w h)
 have W:=Hq (fun w1 (h1:R w1 g s p tw lo 0 op)=>calls_yes (number56 g s p tw lo op w1 hs h1) hj)
 obtain ⟨c0,c1,_,_,_,_,_,_,_⟩:=h.facts
 obtain ⟨d0,d1,e0,e1⟩:=hN.facts
 have HN:=Hq hN
 have H:=Hq h
 have HP:=Hq h.2
 have HNE:=Hq hne
 clear h hN hc hj hne
 go_enter Tryz.func47,Tryz.ntmps47
 go_wp2_with fail
 refine S.out.mono ?_
 rintro e w' ⟨rfl,n,rfl⟩
 go_wp2_with fail
 have hset0:(w.drewN n).grownBy ((w.drewN n).setCell ⟨m,0,none⟩ (.int .u8 48)) (some m):=Go.Lib.grownBy_setCell _ _ _ _
 have hR0:=R.kept (H.out.drew n) hset0 (fun e=>HNE.out e.symm)
 have HN0:=Hq (Nd.setKind (w:=w.drewN n) HN.out 48)
 have HT0:=Hq ((Two.refl g m w).drewN n |>.trans (Two.right hset0))
 clear c0 c1 d0 d1 e0 e1 hset0
 refine (W.out _ hR0).mono ?_
 clear hR0
 rintro e w1 ⟨rfl,hR,hg⟩
 have HR:=Hq hR
 have HG:=Hq hg
 have hN1:=HN0.out.kept hg HNE.out
 obtain ⟨c0,c1,_,_,_,_,_,_,_⟩:=hR.facts
 obtain ⟨d0,d1,e0,e1⟩:=hN1.facts
 have hb1:p+j≤s.size:=hR.2
 have HN1:=Hq hN1
 clear hR hg hN1
 have hsl:∀ W,(Instr.slice 9 (.string s) (some (.int .i64 (p:Int))) (some (.int .i64 ((p:Int)+(j:Int)))) none).run Tryz.prog W=.ok (.string (s.extract p (p+j))) W:=fun W=>by
  have e:=run_slice_string (P:=Tryz.prog) W 9 s .i64 .i64 (p:Int) ((p:Int)+(j:Int)) Tryz.underlying9 (by omega) (by omega) (by omega)
  rw [e,Int.toNat_natCast,show ((p:Int)+(j:Int)).toNat=p+j by omega]
 go_wp2_with fail
 go_still_tail 13,(by kernel_rfl)
 go_wp2_with fail
 go_ret
 have hset:(w1.drewN 1).grownBy ((w1.drewN 1).setCell ⟨m,1,none⟩ (.string (s.extract p (p+j)))) (some m):=Go.Lib.grownBy_setCell _ _ _ _
 exact ⟨rfl,R.kept (HR.out.drew 1) hset (fun e=>HNE.out e.symm),⟨_,Nd.setText (w:=w1.drewN 1) HN1.out _⟩,HT0.out.trans ((Two.left HG.out).drewN 1 |>.trans (Two.right hset))⟩
theorem scalar_num51_no(g m:Nat)(s:ByteArray)(p:Nat)(tw lo op:Bool)(k0:Int)(tx:ByteArray)(ns ks:Value)(w:World)(hs:s.size≤140737488355328)(h:R w g s p tw lo 0 op)(hN:Nd w m k0 tx ns ks)(hne:m≠g)(hc:((bytes s).drop p).headD 0=51)(hj:num ((bytes s).drop p)=none):
  Calls Tryz.prog 47 #[.pointer (some ⟨g,0,none⟩),.pointer (some ⟨m,0,none⟩)] w fun e w'=>e=.returned (.bool false)∧Failed g s tw lo op p w'∧(∃ tx',Nd w' m 48 tx' ns ks)∧Two g m w w':=by
 have S:=Hq (see_c g s p tw lo 0 op 51 hc w h)
 have W:=Hq (fun w1 (h1:R w1 g s p tw lo 0 op)=>calls_no (number56 g s p tw lo op w1 hs h1) hj)
 obtain ⟨c0,c1,_,_,_,_,_,_,_⟩:=h.facts
 obtain ⟨d0,d1,e0,e1⟩:=hN.facts
 have HN:=Hq hN
 have H:=Hq h
 have HP:=Hq h.2
 have HNE:=Hq hne
 clear h hN hc hj hne
 go_enter Tryz.func47,Tryz.ntmps47
 go_wp2_with fail
 refine S.out.mono ?_
 rintro e w' ⟨rfl,n,rfl⟩
 go_wp2_with fail
 have hset0:(w.drewN n).grownBy ((w.drewN n).setCell ⟨m,0,none⟩ (.int .u8 48)) (some m):=Go.Lib.grownBy_setCell _ _ _ _
 have hR0:=R.kept (H.out.drew n) hset0 (fun e=>HNE.out e.symm)
 have HN0:=Hq (Nd.setKind (w:=w.drewN n) HN.out 48)
 have HT0:=Hq ((Two.refl g m w).drewN n |>.trans (Two.right hset0))
 clear c0 c1 d0 d1 e0 e1 hset0
 refine (W.out _ hR0).mono ?_
 clear hR0
 rintro e w1 ⟨rfl,⟨q,fa,hfa,hpq,hR⟩,hg⟩
 have HR:=Hq hR
 have HG:=Hq hg
 have hN1:=HN0.out.kept hg HNE.out
 obtain ⟨c0,c1,_,_,_,_,_,_,_⟩:=hR.facts
 obtain ⟨d0,d1,e0,e1⟩:=hN1.facts
 have hb1:q≤s.size:=hR.2
 have HN1:=Hq hN1
 clear hR hg hN1
 have hsl:∀ W,(Instr.slice 9 (.string s) (some (.int .i64 (p:Int))) (some (.int .i64 (q:Int))) none).run Tryz.prog W=.ok (.string (s.extract p q)) W:=fun W=>by
  have e:=run_slice_string (P:=Tryz.prog) W 9 s .i64 .i64 (p:Int) (q:Int) Tryz.underlying9 (by omega) (by omega) (by omega)
  rw [e,Int.toNat_natCast,Int.toNat_natCast]
 go_wp2_with fail
 go_still_tail 13,(by kernel_rfl)
 go_wp2_with fail
 go_ret
 have hset:(w1.drewN 1).grownBy ((w1.drewN 1).setCell ⟨m,1,none⟩ (.string (s.extract p q))) (some m):=Go.Lib.grownBy_setCell _ _ _ _
 exact ⟨rfl,⟨q,fa,hfa,hpq,R.kept (HR.out.drew 1) hset (fun e=>HNE.out e.symm)⟩,⟨_,Nd.setText (w:=w1.drewN 1) HN1.out _⟩,HT0.out.trans ((Two.left HG.out).drewN 1 |>.trans (Two.right hset))⟩
theorem scalar_num52(g m:Nat)(s:ByteArray)(p:Nat)(tw lo op:Bool)(k0:Int)(tx:ByteArray)(ns ks:Value)(w:World)(hs:s.size≤140737488355328)(h:R w g s p tw lo 0 op)(hN:Nd w m k0 tx ns ks)(hne:m≠g)(hc:((bytes s).drop p).headD 0=52)(j:Nat)(hj:num ((bytes s).drop p)=some j):
  Calls Tryz.prog 47 #[.pointer (some ⟨g,0,none⟩),.pointer (some ⟨m,0,none⟩)] w fun e w'=>e=.returned (.bool true)∧R w' g s (p+j) tw lo 0 op∧(∃ tx',Nd w' m 48 tx' ns ks)∧Two g m w w':=by
 have S:=Hq (see_c g s p tw lo 0 op 52 hc w h)
 have W:=Hq (fun w1 (h1:R w1 g s p tw lo 0 op)=>calls_yes (number56 g s p tw lo op w1 hs h1) hj)
 obtain ⟨c0,c1,_,_,_,_,_,_,_⟩:=h.facts
 obtain ⟨d0,d1,e0,e1⟩:=hN.facts
 have HN:=Hq hN
 have H:=Hq h
 have HP:=Hq h.2
 have HNE:=Hq hne
 clear h hN hc hj hne
 go_enter Tryz.func47,Tryz.ntmps47
 go_wp2_with fail
 refine S.out.mono ?_
 rintro e w' ⟨rfl,n,rfl⟩
 go_wp2_with fail
 have hset0:(w.drewN n).grownBy ((w.drewN n).setCell ⟨m,0,none⟩ (.int .u8 48)) (some m):=Go.Lib.grownBy_setCell _ _ _ _
 have hR0:=R.kept (H.out.drew n) hset0 (fun e=>HNE.out e.symm)
 have HN0:=Hq (Nd.setKind (w:=w.drewN n) HN.out 48)
 have HT0:=Hq ((Two.refl g m w).drewN n |>.trans (Two.right hset0))
 clear c0 c1 d0 d1 e0 e1 hset0
 refine (W.out _ hR0).mono ?_
 clear hR0
 rintro e w1 ⟨rfl,hR,hg⟩
 have HR:=Hq hR
 have HG:=Hq hg
 have hN1:=HN0.out.kept hg HNE.out
 obtain ⟨c0,c1,_,_,_,_,_,_,_⟩:=hR.facts
 obtain ⟨d0,d1,e0,e1⟩:=hN1.facts
 have hb1:p+j≤s.size:=hR.2
 have HN1:=Hq hN1
 clear hR hg hN1
 have hsl:∀ W,(Instr.slice 9 (.string s) (some (.int .i64 (p:Int))) (some (.int .i64 ((p:Int)+(j:Int)))) none).run Tryz.prog W=.ok (.string (s.extract p (p+j))) W:=fun W=>by
  have e:=run_slice_string (P:=Tryz.prog) W 9 s .i64 .i64 (p:Int) ((p:Int)+(j:Int)) Tryz.underlying9 (by omega) (by omega) (by omega)
  rw [e,Int.toNat_natCast,show ((p:Int)+(j:Int)).toNat=p+j by omega]
 go_wp2_with fail
 go_still_tail 13,(by kernel_rfl)
 go_wp2_with fail
 go_ret
 have hset:(w1.drewN 1).grownBy ((w1.drewN 1).setCell ⟨m,1,none⟩ (.string (s.extract p (p+j)))) (some m):=Go.Lib.grownBy_setCell _ _ _ _
 exact ⟨rfl,R.kept (HR.out.drew 1) hset (fun e=>HNE.out e.symm),⟨_,Nd.setText (w:=w1.drewN 1) HN1.out _⟩,HT0.out.trans ((Two.left HG.out).drewN 1 |>.trans (Two.right hset))⟩
theorem scalar_num52_no(g m:Nat)(s:ByteArray)(p:Nat)(tw lo op:Bool)(k0:Int)(tx:ByteArray)(ns ks:Value)(w:World)(hs:s.size≤140737488355328)(h:R w g s p tw lo 0 op)(hN:Nd w m k0 tx ns ks)(hne:m≠g)(hc:((bytes s).drop p).headD 0=52)(hj:num ((bytes s).drop p)=none):
  Calls Tryz.prog 47 #[.pointer (some ⟨g,0,none⟩),.pointer (some ⟨m,0,none⟩)] w fun e w'=>e=.returned (.bool false)∧Failed g s tw lo op p w'∧(∃ tx',Nd w' m 48 tx' ns ks)∧Two g m w w':=by
 have S:=Hq (see_c g s p tw lo 0 op 52 hc w h)
 have W:=Hq (fun w1 (h1:R w1 g s p tw lo 0 op)=>calls_no (number56 g s p tw lo op w1 hs h1) hj)
 obtain ⟨c0,c1,_,_,_,_,_,_,_⟩:=h.facts
 obtain ⟨d0,d1,e0,e1⟩:=hN.facts
 have HN:=Hq hN
 have H:=Hq h
 have HP:=Hq h.2
 have HNE:=Hq hne
 clear h hN hc hj hne
 go_enter Tryz.func47,Tryz.ntmps47
 go_wp2_with fail
 refine S.out.mono ?_
 rintro e w' ⟨rfl,n,rfl⟩
 go_wp2_with fail
 have hset0:(w.drewN n).grownBy ((w.drewN n).setCell ⟨m,0,none⟩ (.int .u8 48)) (some m):=Go.Lib.grownBy_setCell _ _ _ _
 have hR0:=R.kept (H.out.drew n) hset0 (fun e=>HNE.out e.symm)
 have HN0:=Hq (Nd.setKind (w:=w.drewN n) HN.out 48)
 have HT0:=Hq ((Two.refl g m w).drewN n |>.trans (Two.right hset0))
 clear c0 c1 d0 d1 e0 e1 hset0
 refine (W.out _ hR0).mono ?_
 clear hR0
 rintro e w1 ⟨rfl,⟨q,fa,hfa,hpq,hR⟩,hg⟩
 have HR:=Hq hR
 have HG:=Hq hg
 have hN1:=HN0.out.kept hg HNE.out
 obtain ⟨c0,c1,_,_,_,_,_,_,_⟩:=hR.facts
 obtain ⟨d0,d1,e0,e1⟩:=hN1.facts
 have hb1:q≤s.size:=hR.2
 have HN1:=Hq hN1
 clear hR hg hN1
 have hsl:∀ W,(Instr.slice 9 (.string s) (some (.int .i64 (p:Int))) (some (.int .i64 (q:Int))) none).run Tryz.prog W=.ok (.string (s.extract p q)) W:=fun W=>by
  have e:=run_slice_string (P:=Tryz.prog) W 9 s .i64 .i64 (p:Int) (q:Int) Tryz.underlying9 (by omega) (by omega) (by omega)
  rw [e,Int.toNat_natCast,Int.toNat_natCast]
 go_wp2_with fail
 go_still_tail 13,(by kernel_rfl)
 go_wp2_with fail
 go_ret
 have hset:(w1.drewN 1).grownBy ((w1.drewN 1).setCell ⟨m,1,none⟩ (.string (s.extract p q))) (some m):=Go.Lib.grownBy_setCell _ _ _ _
 exact ⟨rfl,⟨q,fa,hfa,hpq,R.kept (HR.out.drew 1) hset (fun e=>HNE.out e.symm)⟩,⟨_,Nd.setText (w:=w1.drewN 1) HN1.out _⟩,HT0.out.trans ((Two.left HG.out).drewN 1 |>.trans (Two.right hset))⟩
theorem scalar_num53(g m:Nat)(s:ByteArray)(p:Nat)(tw lo op:Bool)(k0:Int)(tx:ByteArray)(ns ks:Value)(w:World)(hs:s.size≤140737488355328)(h:R w g s p tw lo 0 op)(hN:Nd w m k0 tx ns ks)(hne:m≠g)(hc:((bytes s).drop p).headD 0=53)(j:Nat)(hj:num ((bytes s).drop p)=some j):
  Calls Tryz.prog 47 #[.pointer (some ⟨g,0,none⟩),.pointer (some ⟨m,0,none⟩)] w fun e w'=>e=.returned (.bool true)∧R w' g s (p+j) tw lo 0 op∧(∃ tx',Nd w' m 48 tx' ns ks)∧Two g m w w':=by
 have S:=Hq (see_c g s p tw lo 0 op 53 hc w h)
 have W:=Hq (fun w1 (h1:R w1 g s p tw lo 0 op)=>calls_yes (number56 g s p tw lo op w1 hs h1) hj)
 obtain ⟨c0,c1,_,_,_,_,_,_,_⟩:=h.facts
 obtain ⟨d0,d1,e0,e1⟩:=hN.facts
 have HN:=Hq hN
 have H:=Hq h
 have HP:=Hq h.2
 have HNE:=Hq hne
 clear h hN hc hj hne
 go_enter Tryz.func47,Tryz.ntmps47
 go_wp2_with fail
 refine S.out.mono ?_
 rintro e w' ⟨rfl,n,rfl⟩
 go_wp2_with fail
 have hset0:(w.drewN n).grownBy ((w.drewN n).setCell ⟨m,0,none⟩ (.int .u8 48)) (some m):=Go.Lib.grownBy_setCell _ _ _ _
 have hR0:=R.kept (H.out.drew n) hset0 (fun e=>HNE.out e.symm)
 have HN0:=Hq (Nd.setKind (w:=w.drewN n) HN.out 48)
 have HT0:=Hq ((Two.refl g m w).drewN n |>.trans (Two.right hset0))
 clear c0 c1 d0 d1 e0 e1 hset0
 refine (W.out _ hR0).mono ?_
 clear hR0
 rintro e w1 ⟨rfl,hR,hg⟩
 have HR:=Hq hR
 have HG:=Hq hg
 have hN1:=HN0.out.kept hg HNE.out
 obtain ⟨c0,c1,_,_,_,_,_,_,_⟩:=hR.facts
 obtain ⟨d0,d1,e0,e1⟩:=hN1.facts
 have hb1:p+j≤s.size:=hR.2
 have HN1:=Hq hN1
 clear hR hg hN1
 have hsl:∀ W,(Instr.slice 9 (.string s) (some (.int .i64 (p:Int))) (some (.int .i64 ((p:Int)+(j:Int)))) none).run Tryz.prog W=.ok (.string (s.extract p (p+j))) W:=fun W=>by
  have e:=run_slice_string (P:=Tryz.prog) W 9 s .i64 .i64 (p:Int) ((p:Int)+(j:Int)) Tryz.underlying9 (by omega) (by omega) (by omega)
  rw [e,Int.toNat_natCast,show ((p:Int)+(j:Int)).toNat=p+j by omega]
 go_wp2_with fail
 go_still_tail 13,(by kernel_rfl)
 go_wp2_with fail
 go_ret
 have hset:(w1.drewN 1).grownBy ((w1.drewN 1).setCell ⟨m,1,none⟩ (.string (s.extract p (p+j)))) (some m):=Go.Lib.grownBy_setCell _ _ _ _
 exact ⟨rfl,R.kept (HR.out.drew 1) hset (fun e=>HNE.out e.symm),⟨_,Nd.setText (w:=w1.drewN 1) HN1.out _⟩,HT0.out.trans ((Two.left HG.out).drewN 1 |>.trans (Two.right hset))⟩
theorem scalar_num53_no(g m:Nat)(s:ByteArray)(p:Nat)(tw lo op:Bool)(k0:Int)(tx:ByteArray)(ns ks:Value)(w:World)(hs:s.size≤140737488355328)(h:R w g s p tw lo 0 op)(hN:Nd w m k0 tx ns ks)(hne:m≠g)(hc:((bytes s).drop p).headD 0=53)(hj:num ((bytes s).drop p)=none):
  Calls Tryz.prog 47 #[.pointer (some ⟨g,0,none⟩),.pointer (some ⟨m,0,none⟩)] w fun e w'=>e=.returned (.bool false)∧Failed g s tw lo op p w'∧(∃ tx',Nd w' m 48 tx' ns ks)∧Two g m w w':=by
 have S:=Hq (see_c g s p tw lo 0 op 53 hc w h)
 have W:=Hq (fun w1 (h1:R w1 g s p tw lo 0 op)=>calls_no (number56 g s p tw lo op w1 hs h1) hj)
 obtain ⟨c0,c1,_,_,_,_,_,_,_⟩:=h.facts
 obtain ⟨d0,d1,e0,e1⟩:=hN.facts
 have HN:=Hq hN
 have H:=Hq h
 have HP:=Hq h.2
 have HNE:=Hq hne
 clear h hN hc hj hne
 go_enter Tryz.func47,Tryz.ntmps47
 go_wp2_with fail
 refine S.out.mono ?_
 rintro e w' ⟨rfl,n,rfl⟩
 go_wp2_with fail
 have hset0:(w.drewN n).grownBy ((w.drewN n).setCell ⟨m,0,none⟩ (.int .u8 48)) (some m):=Go.Lib.grownBy_setCell _ _ _ _
 have hR0:=R.kept (H.out.drew n) hset0 (fun e=>HNE.out e.symm)
 have HN0:=Hq (Nd.setKind (w:=w.drewN n) HN.out 48)
 have HT0:=Hq ((Two.refl g m w).drewN n |>.trans (Two.right hset0))
 clear c0 c1 d0 d1 e0 e1 hset0
 refine (W.out _ hR0).mono ?_
 clear hR0
 rintro e w1 ⟨rfl,⟨q,fa,hfa,hpq,hR⟩,hg⟩
 have HR:=Hq hR
 have HG:=Hq hg
 have hN1:=HN0.out.kept hg HNE.out
 obtain ⟨c0,c1,_,_,_,_,_,_,_⟩:=hR.facts
 obtain ⟨d0,d1,e0,e1⟩:=hN1.facts
 have hb1:q≤s.size:=hR.2
 have HN1:=Hq hN1
 clear hR hg hN1
 have hsl:∀ W,(Instr.slice 9 (.string s) (some (.int .i64 (p:Int))) (some (.int .i64 (q:Int))) none).run Tryz.prog W=.ok (.string (s.extract p q)) W:=fun W=>by
  have e:=run_slice_string (P:=Tryz.prog) W 9 s .i64 .i64 (p:Int) (q:Int) Tryz.underlying9 (by omega) (by omega) (by omega)
  rw [e,Int.toNat_natCast,Int.toNat_natCast]
 go_wp2_with fail
 go_still_tail 13,(by kernel_rfl)
 go_wp2_with fail
 go_ret
 have hset:(w1.drewN 1).grownBy ((w1.drewN 1).setCell ⟨m,1,none⟩ (.string (s.extract p q))) (some m):=Go.Lib.grownBy_setCell _ _ _ _
 exact ⟨rfl,⟨q,fa,hfa,hpq,R.kept (HR.out.drew 1) hset (fun e=>HNE.out e.symm)⟩,⟨_,Nd.setText (w:=w1.drewN 1) HN1.out _⟩,HT0.out.trans ((Two.left HG.out).drewN 1 |>.trans (Two.right hset))⟩
theorem scalar_num54(g m:Nat)(s:ByteArray)(p:Nat)(tw lo op:Bool)(k0:Int)(tx:ByteArray)(ns ks:Value)(w:World)(hs:s.size≤140737488355328)(h:R w g s p tw lo 0 op)(hN:Nd w m k0 tx ns ks)(hne:m≠g)(hc:((bytes s).drop p).headD 0=54)(j:Nat)(hj:num ((bytes s).drop p)=some j):
  Calls Tryz.prog 47 #[.pointer (some ⟨g,0,none⟩),.pointer (some ⟨m,0,none⟩)] w fun e w'=>e=.returned (.bool true)∧R w' g s (p+j) tw lo 0 op∧(∃ tx',Nd w' m 48 tx' ns ks)∧Two g m w w':=by
 have S:=Hq (see_c g s p tw lo 0 op 54 hc w h)
 have W:=Hq (fun w1 (h1:R w1 g s p tw lo 0 op)=>calls_yes (number56 g s p tw lo op w1 hs h1) hj)
 obtain ⟨c0,c1,_,_,_,_,_,_,_⟩:=h.facts
 obtain ⟨d0,d1,e0,e1⟩:=hN.facts
 have HN:=Hq hN
 have H:=Hq h
 have HP:=Hq h.2
 have HNE:=Hq hne
 clear h hN hc hj hne
 go_enter Tryz.func47,Tryz.ntmps47
 go_wp2_with fail
 refine S.out.mono ?_
 rintro e w' ⟨rfl,n,rfl⟩
 go_wp2_with fail
 have hset0:(w.drewN n).grownBy ((w.drewN n).setCell ⟨m,0,none⟩ (.int .u8 48)) (some m):=Go.Lib.grownBy_setCell _ _ _ _
 have hR0:=R.kept (H.out.drew n) hset0 (fun e=>HNE.out e.symm)
 have HN0:=Hq (Nd.setKind (w:=w.drewN n) HN.out 48)
 have HT0:=Hq ((Two.refl g m w).drewN n |>.trans (Two.right hset0))
 clear c0 c1 d0 d1 e0 e1 hset0
 refine (W.out _ hR0).mono ?_
 clear hR0
 rintro e w1 ⟨rfl,hR,hg⟩
 have HR:=Hq hR
 have HG:=Hq hg
 have hN1:=HN0.out.kept hg HNE.out
 obtain ⟨c0,c1,_,_,_,_,_,_,_⟩:=hR.facts
 obtain ⟨d0,d1,e0,e1⟩:=hN1.facts
 have hb1:p+j≤s.size:=hR.2
 have HN1:=Hq hN1
 clear hR hg hN1
 have hsl:∀ W,(Instr.slice 9 (.string s) (some (.int .i64 (p:Int))) (some (.int .i64 ((p:Int)+(j:Int)))) none).run Tryz.prog W=.ok (.string (s.extract p (p+j))) W:=fun W=>by
  have e:=run_slice_string (P:=Tryz.prog) W 9 s .i64 .i64 (p:Int) ((p:Int)+(j:Int)) Tryz.underlying9 (by omega) (by omega) (by omega)
  rw [e,Int.toNat_natCast,show ((p:Int)+(j:Int)).toNat=p+j by omega]
 go_wp2_with fail
 go_still_tail 13,(by kernel_rfl)
 go_wp2_with fail
 go_ret
 have hset:(w1.drewN 1).grownBy ((w1.drewN 1).setCell ⟨m,1,none⟩ (.string (s.extract p (p+j)))) (some m):=Go.Lib.grownBy_setCell _ _ _ _
 exact ⟨rfl,R.kept (HR.out.drew 1) hset (fun e=>HNE.out e.symm),⟨_,Nd.setText (w:=w1.drewN 1) HN1.out _⟩,HT0.out.trans ((Two.left HG.out).drewN 1 |>.trans (Two.right hset))⟩
theorem scalar_num54_no(g m:Nat)(s:ByteArray)(p:Nat)(tw lo op:Bool)(k0:Int)(tx:ByteArray)(ns ks:Value)(w:World)(hs:s.size≤140737488355328)(h:R w g s p tw lo 0 op)(hN:Nd w m k0 tx ns ks)(hne:m≠g)(hc:((bytes s).drop p).headD 0=54)(hj:num ((bytes s).drop p)=none):
  Calls Tryz.prog 47 #[.pointer (some ⟨g,0,none⟩),.pointer (some ⟨m,0,none⟩)] w fun e w'=>e=.returned (.bool false)∧Failed g s tw lo op p w'∧(∃ tx',Nd w' m 48 tx' ns ks)∧Two g m w w':=by
 have S:=Hq (see_c g s p tw lo 0 op 54 hc w h)
 have W:=Hq (fun w1 (h1:R w1 g s p tw lo 0 op)=>calls_no (number56 g s p tw lo op w1 hs h1) hj)
 obtain ⟨c0,c1,_,_,_,_,_,_,_⟩:=h.facts
 obtain ⟨d0,d1,e0,e1⟩:=hN.facts
 have HN:=Hq hN
 have H:=Hq h
 have HP:=Hq h.2
 have HNE:=Hq hne
 clear h hN hc hj hne
 go_enter Tryz.func47,Tryz.ntmps47
 go_wp2_with fail
 refine S.out.mono ?_
 rintro e w' ⟨rfl,n,rfl⟩
 go_wp2_with fail
 have hset0:(w.drewN n).grownBy ((w.drewN n).setCell ⟨m,0,none⟩ (.int .u8 48)) (some m):=Go.Lib.grownBy_setCell _ _ _ _
 have hR0:=R.kept (H.out.drew n) hset0 (fun e=>HNE.out e.symm)
 have HN0:=Hq (Nd.setKind (w:=w.drewN n) HN.out 48)
 have HT0:=Hq ((Two.refl g m w).drewN n |>.trans (Two.right hset0))
 clear c0 c1 d0 d1 e0 e1 hset0
 refine (W.out _ hR0).mono ?_
 clear hR0
 rintro e w1 ⟨rfl,⟨q,fa,hfa,hpq,hR⟩,hg⟩
 have HR:=Hq hR
 have HG:=Hq hg
 have hN1:=HN0.out.kept hg HNE.out
 obtain ⟨c0,c1,_,_,_,_,_,_,_⟩:=hR.facts
 obtain ⟨d0,d1,e0,e1⟩:=hN1.facts
 have hb1:q≤s.size:=hR.2
 have HN1:=Hq hN1
 clear hR hg hN1
 have hsl:∀ W,(Instr.slice 9 (.string s) (some (.int .i64 (p:Int))) (some (.int .i64 (q:Int))) none).run Tryz.prog W=.ok (.string (s.extract p q)) W:=fun W=>by
  have e:=run_slice_string (P:=Tryz.prog) W 9 s .i64 .i64 (p:Int) (q:Int) Tryz.underlying9 (by omega) (by omega) (by omega)
  rw [e,Int.toNat_natCast,Int.toNat_natCast]
 go_wp2_with fail
 go_still_tail 13,(by kernel_rfl)
 go_wp2_with fail
 go_ret
 have hset:(w1.drewN 1).grownBy ((w1.drewN 1).setCell ⟨m,1,none⟩ (.string (s.extract p q))) (some m):=Go.Lib.grownBy_setCell _ _ _ _
 exact ⟨rfl,⟨q,fa,hfa,hpq,R.kept (HR.out.drew 1) hset (fun e=>HNE.out e.symm)⟩,⟨_,Nd.setText (w:=w1.drewN 1) HN1.out _⟩,HT0.out.trans ((Two.left HG.out).drewN 1 |>.trans (Two.right hset))⟩
theorem scalar_num55(g m:Nat)(s:ByteArray)(p:Nat)(tw lo op:Bool)(k0:Int)(tx:ByteArray)(ns ks:Value)(w:World)(hs:s.size≤140737488355328)(h:R w g s p tw lo 0 op)(hN:Nd w m k0 tx ns ks)(hne:m≠g)(hc:((bytes s).drop p).headD 0=55)(j:Nat)(hj:num ((bytes s).drop p)=some j):
  Calls Tryz.prog 47 #[.pointer (some ⟨g,0,none⟩),.pointer (some ⟨m,0,none⟩)] w fun e w'=>e=.returned (.bool true)∧R w' g s (p+j) tw lo 0 op∧(∃ tx',Nd w' m 48 tx' ns ks)∧Two g m w w':=by
 have S:=Hq (see_c g s p tw lo 0 op 55 hc w h)
 have W:=Hq (fun w1 (h1:R w1 g s p tw lo 0 op)=>calls_yes (number56 g s p tw lo op w1 hs h1) hj)
 obtain ⟨c0,c1,_,_,_,_,_,_,_⟩:=h.facts
 obtain ⟨d0,d1,e0,e1⟩:=hN.facts
 have HN:=Hq hN
 have H:=Hq h
 have HP:=Hq h.2
 have HNE:=Hq hne
 clear h hN hc hj hne
 go_enter Tryz.func47,Tryz.ntmps47
 go_wp2_with fail
 refine S.out.mono ?_
 rintro e w' ⟨rfl,n,rfl⟩
 go_wp2_with fail
 have hset0:(w.drewN n).grownBy ((w.drewN n).setCell ⟨m,0,none⟩ (.int .u8 48)) (some m):=Go.Lib.grownBy_setCell _ _ _ _
 have hR0:=R.kept (H.out.drew n) hset0 (fun e=>HNE.out e.symm)
 have HN0:=Hq (Nd.setKind (w:=w.drewN n) HN.out 48)
 have HT0:=Hq ((Two.refl g m w).drewN n |>.trans (Two.right hset0))
 clear c0 c1 d0 d1 e0 e1 hset0
 refine (W.out _ hR0).mono ?_
 clear hR0
 rintro e w1 ⟨rfl,hR,hg⟩
 have HR:=Hq hR
 have HG:=Hq hg
 have hN1:=HN0.out.kept hg HNE.out
 obtain ⟨c0,c1,_,_,_,_,_,_,_⟩:=hR.facts
 obtain ⟨d0,d1,e0,e1⟩:=hN1.facts
 have hb1:p+j≤s.size:=hR.2
 have HN1:=Hq hN1
 clear hR hg hN1
 have hsl:∀ W,(Instr.slice 9 (.string s) (some (.int .i64 (p:Int))) (some (.int .i64 ((p:Int)+(j:Int)))) none).run Tryz.prog W=.ok (.string (s.extract p (p+j))) W:=fun W=>by
  have e:=run_slice_string (P:=Tryz.prog) W 9 s .i64 .i64 (p:Int) ((p:Int)+(j:Int)) Tryz.underlying9 (by omega) (by omega) (by omega)
  rw [e,Int.toNat_natCast,show ((p:Int)+(j:Int)).toNat=p+j by omega]
 go_wp2_with fail
 go_still_tail 13,(by kernel_rfl)
 go_wp2_with fail
 go_ret
 have hset:(w1.drewN 1).grownBy ((w1.drewN 1).setCell ⟨m,1,none⟩ (.string (s.extract p (p+j)))) (some m):=Go.Lib.grownBy_setCell _ _ _ _
 exact ⟨rfl,R.kept (HR.out.drew 1) hset (fun e=>HNE.out e.symm),⟨_,Nd.setText (w:=w1.drewN 1) HN1.out _⟩,HT0.out.trans ((Two.left HG.out).drewN 1 |>.trans (Two.right hset))⟩
theorem scalar_num55_no(g m:Nat)(s:ByteArray)(p:Nat)(tw lo op:Bool)(k0:Int)(tx:ByteArray)(ns ks:Value)(w:World)(hs:s.size≤140737488355328)(h:R w g s p tw lo 0 op)(hN:Nd w m k0 tx ns ks)(hne:m≠g)(hc:((bytes s).drop p).headD 0=55)(hj:num ((bytes s).drop p)=none):
  Calls Tryz.prog 47 #[.pointer (some ⟨g,0,none⟩),.pointer (some ⟨m,0,none⟩)] w fun e w'=>e=.returned (.bool false)∧Failed g s tw lo op p w'∧(∃ tx',Nd w' m 48 tx' ns ks)∧Two g m w w':=by
 have S:=Hq (see_c g s p tw lo 0 op 55 hc w h)
 have W:=Hq (fun w1 (h1:R w1 g s p tw lo 0 op)=>calls_no (number56 g s p tw lo op w1 hs h1) hj)
 obtain ⟨c0,c1,_,_,_,_,_,_,_⟩:=h.facts
 obtain ⟨d0,d1,e0,e1⟩:=hN.facts
 have HN:=Hq hN
 have H:=Hq h
 have HP:=Hq h.2
 have HNE:=Hq hne
 clear h hN hc hj hne
 go_enter Tryz.func47,Tryz.ntmps47
 go_wp2_with fail
 refine S.out.mono ?_
 rintro e w' ⟨rfl,n,rfl⟩
 go_wp2_with fail
 have hset0:(w.drewN n).grownBy ((w.drewN n).setCell ⟨m,0,none⟩ (.int .u8 48)) (some m):=Go.Lib.grownBy_setCell _ _ _ _
 have hR0:=R.kept (H.out.drew n) hset0 (fun e=>HNE.out e.symm)
 have HN0:=Hq (Nd.setKind (w:=w.drewN n) HN.out 48)
 have HT0:=Hq ((Two.refl g m w).drewN n |>.trans (Two.right hset0))
 clear c0 c1 d0 d1 e0 e1 hset0
 refine (W.out _ hR0).mono ?_
 clear hR0
 rintro e w1 ⟨rfl,⟨q,fa,hfa,hpq,hR⟩,hg⟩
 have HR:=Hq hR
 have HG:=Hq hg
 have hN1:=HN0.out.kept hg HNE.out
 obtain ⟨c0,c1,_,_,_,_,_,_,_⟩:=hR.facts
 obtain ⟨d0,d1,e0,e1⟩:=hN1.facts
 have hb1:q≤s.size:=hR.2
 have HN1:=Hq hN1
 clear hR hg hN1
 have hsl:∀ W,(Instr.slice 9 (.string s) (some (.int .i64 (p:Int))) (some (.int .i64 (q:Int))) none).run Tryz.prog W=.ok (.string (s.extract p q)) W:=fun W=>by
  have e:=run_slice_string (P:=Tryz.prog) W 9 s .i64 .i64 (p:Int) (q:Int) Tryz.underlying9 (by omega) (by omega) (by omega)
  rw [e,Int.toNat_natCast,Int.toNat_natCast]
 go_wp2_with fail
 go_still_tail 13,(by kernel_rfl)
 go_wp2_with fail
 go_ret
 have hset:(w1.drewN 1).grownBy ((w1.drewN 1).setCell ⟨m,1,none⟩ (.string (s.extract p q))) (some m):=Go.Lib.grownBy_setCell _ _ _ _
 exact ⟨rfl,⟨q,fa,hfa,hpq,R.kept (HR.out.drew 1) hset (fun e=>HNE.out e.symm)⟩,⟨_,Nd.setText (w:=w1.drewN 1) HN1.out _⟩,HT0.out.trans ((Two.left HG.out).drewN 1 |>.trans (Two.right hset))⟩
theorem scalar_num56(g m:Nat)(s:ByteArray)(p:Nat)(tw lo op:Bool)(k0:Int)(tx:ByteArray)(ns ks:Value)(w:World)(hs:s.size≤140737488355328)(h:R w g s p tw lo 0 op)(hN:Nd w m k0 tx ns ks)(hne:m≠g)(hc:((bytes s).drop p).headD 0=56)(j:Nat)(hj:num ((bytes s).drop p)=some j):
  Calls Tryz.prog 47 #[.pointer (some ⟨g,0,none⟩),.pointer (some ⟨m,0,none⟩)] w fun e w'=>e=.returned (.bool true)∧R w' g s (p+j) tw lo 0 op∧(∃ tx',Nd w' m 48 tx' ns ks)∧Two g m w w':=by
 have S:=Hq (see_c g s p tw lo 0 op 56 hc w h)
 have W:=Hq (fun w1 (h1:R w1 g s p tw lo 0 op)=>calls_yes (number56 g s p tw lo op w1 hs h1) hj)
 obtain ⟨c0,c1,_,_,_,_,_,_,_⟩:=h.facts
 obtain ⟨d0,d1,e0,e1⟩:=hN.facts
 have HN:=Hq hN
 have H:=Hq h
 have HP:=Hq h.2
 have HNE:=Hq hne
 clear h hN hc hj hne
 go_enter Tryz.func47,Tryz.ntmps47
 go_wp2_with fail
 refine S.out.mono ?_
 rintro e w' ⟨rfl,n,rfl⟩
 go_wp2_with fail
 have hset0:(w.drewN n).grownBy ((w.drewN n).setCell ⟨m,0,none⟩ (.int .u8 48)) (some m):=Go.Lib.grownBy_setCell _ _ _ _
 have hR0:=R.kept (H.out.drew n) hset0 (fun e=>HNE.out e.symm)
 have HN0:=Hq (Nd.setKind (w:=w.drewN n) HN.out 48)
 have HT0:=Hq ((Two.refl g m w).drewN n |>.trans (Two.right hset0))
 clear c0 c1 d0 d1 e0 e1 hset0
 refine (W.out _ hR0).mono ?_
 clear hR0
 rintro e w1 ⟨rfl,hR,hg⟩
 have HR:=Hq hR
 have HG:=Hq hg
 have hN1:=HN0.out.kept hg HNE.out
 obtain ⟨c0,c1,_,_,_,_,_,_,_⟩:=hR.facts
 obtain ⟨d0,d1,e0,e1⟩:=hN1.facts
 have hb1:p+j≤s.size:=hR.2
 have HN1:=Hq hN1
 clear hR hg hN1
 have hsl:∀ W,(Instr.slice 9 (.string s) (some (.int .i64 (p:Int))) (some (.int .i64 ((p:Int)+(j:Int)))) none).run Tryz.prog W=.ok (.string (s.extract p (p+j))) W:=fun W=>by
  have e:=run_slice_string (P:=Tryz.prog) W 9 s .i64 .i64 (p:Int) ((p:Int)+(j:Int)) Tryz.underlying9 (by omega) (by omega) (by omega)
  rw [e,Int.toNat_natCast,show ((p:Int)+(j:Int)).toNat=p+j by omega]
 go_wp2_with fail
 go_still_tail 13,(by kernel_rfl)
 go_wp2_with fail
 go_ret
 have hset:(w1.drewN 1).grownBy ((w1.drewN 1).setCell ⟨m,1,none⟩ (.string (s.extract p (p+j)))) (some m):=Go.Lib.grownBy_setCell _ _ _ _
 exact ⟨rfl,R.kept (HR.out.drew 1) hset (fun e=>HNE.out e.symm),⟨_,Nd.setText (w:=w1.drewN 1) HN1.out _⟩,HT0.out.trans ((Two.left HG.out).drewN 1 |>.trans (Two.right hset))⟩
theorem scalar_num56_no(g m:Nat)(s:ByteArray)(p:Nat)(tw lo op:Bool)(k0:Int)(tx:ByteArray)(ns ks:Value)(w:World)(hs:s.size≤140737488355328)(h:R w g s p tw lo 0 op)(hN:Nd w m k0 tx ns ks)(hne:m≠g)(hc:((bytes s).drop p).headD 0=56)(hj:num ((bytes s).drop p)=none):
  Calls Tryz.prog 47 #[.pointer (some ⟨g,0,none⟩),.pointer (some ⟨m,0,none⟩)] w fun e w'=>e=.returned (.bool false)∧Failed g s tw lo op p w'∧(∃ tx',Nd w' m 48 tx' ns ks)∧Two g m w w':=by
 have S:=Hq (see_c g s p tw lo 0 op 56 hc w h)
 have W:=Hq (fun w1 (h1:R w1 g s p tw lo 0 op)=>calls_no (number56 g s p tw lo op w1 hs h1) hj)
 obtain ⟨c0,c1,_,_,_,_,_,_,_⟩:=h.facts
 obtain ⟨d0,d1,e0,e1⟩:=hN.facts
 have HN:=Hq hN
 have H:=Hq h
 have HP:=Hq h.2
 have HNE:=Hq hne
 clear h hN hc hj hne
 go_enter Tryz.func47,Tryz.ntmps47
 go_wp2_with fail
 refine S.out.mono ?_
 rintro e w' ⟨rfl,n,rfl⟩
 go_wp2_with fail
 have hset0:(w.drewN n).grownBy ((w.drewN n).setCell ⟨m,0,none⟩ (.int .u8 48)) (some m):=Go.Lib.grownBy_setCell _ _ _ _
 have hR0:=R.kept (H.out.drew n) hset0 (fun e=>HNE.out e.symm)
 have HN0:=Hq (Nd.setKind (w:=w.drewN n) HN.out 48)
 have HT0:=Hq ((Two.refl g m w).drewN n |>.trans (Two.right hset0))
 clear c0 c1 d0 d1 e0 e1 hset0
 refine (W.out _ hR0).mono ?_
 clear hR0
 rintro e w1 ⟨rfl,⟨q,fa,hfa,hpq,hR⟩,hg⟩
 have HR:=Hq hR
 have HG:=Hq hg
 have hN1:=HN0.out.kept hg HNE.out
 obtain ⟨c0,c1,_,_,_,_,_,_,_⟩:=hR.facts
 obtain ⟨d0,d1,e0,e1⟩:=hN1.facts
 have hb1:q≤s.size:=hR.2
 have HN1:=Hq hN1
 clear hR hg hN1
 have hsl:∀ W,(Instr.slice 9 (.string s) (some (.int .i64 (p:Int))) (some (.int .i64 (q:Int))) none).run Tryz.prog W=.ok (.string (s.extract p q)) W:=fun W=>by
  have e:=run_slice_string (P:=Tryz.prog) W 9 s .i64 .i64 (p:Int) (q:Int) Tryz.underlying9 (by omega) (by omega) (by omega)
  rw [e,Int.toNat_natCast,Int.toNat_natCast]
 go_wp2_with fail
 go_still_tail 13,(by kernel_rfl)
 go_wp2_with fail
 go_ret
 have hset:(w1.drewN 1).grownBy ((w1.drewN 1).setCell ⟨m,1,none⟩ (.string (s.extract p q))) (some m):=Go.Lib.grownBy_setCell _ _ _ _
 exact ⟨rfl,⟨q,fa,hfa,hpq,R.kept (HR.out.drew 1) hset (fun e=>HNE.out e.symm)⟩,⟨_,Nd.setText (w:=w1.drewN 1) HN1.out _⟩,HT0.out.trans ((Two.left HG.out).drewN 1 |>.trans (Two.right hset))⟩
theorem scalar_num57(g m:Nat)(s:ByteArray)(p:Nat)(tw lo op:Bool)(k0:Int)(tx:ByteArray)(ns ks:Value)(w:World)(hs:s.size≤140737488355328)(h:R w g s p tw lo 0 op)(hN:Nd w m k0 tx ns ks)(hne:m≠g)(hc:((bytes s).drop p).headD 0=57)(j:Nat)(hj:num ((bytes s).drop p)=some j):
  Calls Tryz.prog 47 #[.pointer (some ⟨g,0,none⟩),.pointer (some ⟨m,0,none⟩)] w fun e w'=>e=.returned (.bool true)∧R w' g s (p+j) tw lo 0 op∧(∃ tx',Nd w' m 48 tx' ns ks)∧Two g m w w':=by
 have S:=Hq (see_c g s p tw lo 0 op 57 hc w h)
 have W:=Hq (fun w1 (h1:R w1 g s p tw lo 0 op)=>calls_yes (number56 g s p tw lo op w1 hs h1) hj)
 obtain ⟨c0,c1,_,_,_,_,_,_,_⟩:=h.facts
 obtain ⟨d0,d1,e0,e1⟩:=hN.facts
 have HN:=Hq hN
 have H:=Hq h
 have HP:=Hq h.2
 have HNE:=Hq hne
 clear h hN hc hj hne
 go_enter Tryz.func47,Tryz.ntmps47
 go_wp2_with fail
 refine S.out.mono ?_
 rintro e w' ⟨rfl,n,rfl⟩
 go_wp2_with fail
 have hset0:(w.drewN n).grownBy ((w.drewN n).setCell ⟨m,0,none⟩ (.int .u8 48)) (some m):=Go.Lib.grownBy_setCell _ _ _ _
 have hR0:=R.kept (H.out.drew n) hset0 (fun e=>HNE.out e.symm)
 have HN0:=Hq (Nd.setKind (w:=w.drewN n) HN.out 48)
 have HT0:=Hq ((Two.refl g m w).drewN n |>.trans (Two.right hset0))
 clear c0 c1 d0 d1 e0 e1 hset0
 refine (W.out _ hR0).mono ?_
 clear hR0
 rintro e w1 ⟨rfl,hR,hg⟩
 have HR:=Hq hR
 have HG:=Hq hg
 have hN1:=HN0.out.kept hg HNE.out
 obtain ⟨c0,c1,_,_,_,_,_,_,_⟩:=hR.facts
 obtain ⟨d0,d1,e0,e1⟩:=hN1.facts
 have hb1:p+j≤s.size:=hR.2
 have HN1:=Hq hN1
 clear hR hg hN1
 have hsl:∀ W,(Instr.slice 9 (.string s) (some (.int .i64 (p:Int))) (some (.int .i64 ((p:Int)+(j:Int)))) none).run Tryz.prog W=.ok (.string (s.extract p (p+j))) W:=fun W=>by
  have e:=run_slice_string (P:=Tryz.prog) W 9 s .i64 .i64 (p:Int) ((p:Int)+(j:Int)) Tryz.underlying9 (by omega) (by omega) (by omega)
  rw [e,Int.toNat_natCast,show ((p:Int)+(j:Int)).toNat=p+j by omega]
 go_wp2_with fail
 go_still_tail 13,(by kernel_rfl)
 go_wp2_with fail
 go_ret
 have hset:(w1.drewN 1).grownBy ((w1.drewN 1).setCell ⟨m,1,none⟩ (.string (s.extract p (p+j)))) (some m):=Go.Lib.grownBy_setCell _ _ _ _
 exact ⟨rfl,R.kept (HR.out.drew 1) hset (fun e=>HNE.out e.symm),⟨_,Nd.setText (w:=w1.drewN 1) HN1.out _⟩,HT0.out.trans ((Two.left HG.out).drewN 1 |>.trans (Two.right hset))⟩
theorem scalar_num57_no(g m:Nat)(s:ByteArray)(p:Nat)(tw lo op:Bool)(k0:Int)(tx:ByteArray)(ns ks:Value)(w:World)(hs:s.size≤140737488355328)(h:R w g s p tw lo 0 op)(hN:Nd w m k0 tx ns ks)(hne:m≠g)(hc:((bytes s).drop p).headD 0=57)(hj:num ((bytes s).drop p)=none):
  Calls Tryz.prog 47 #[.pointer (some ⟨g,0,none⟩),.pointer (some ⟨m,0,none⟩)] w fun e w'=>e=.returned (.bool false)∧Failed g s tw lo op p w'∧(∃ tx',Nd w' m 48 tx' ns ks)∧Two g m w w':=by
 have S:=Hq (see_c g s p tw lo 0 op 57 hc w h)
 have W:=Hq (fun w1 (h1:R w1 g s p tw lo 0 op)=>calls_no (number56 g s p tw lo op w1 hs h1) hj)
 obtain ⟨c0,c1,_,_,_,_,_,_,_⟩:=h.facts
 obtain ⟨d0,d1,e0,e1⟩:=hN.facts
 have HN:=Hq hN
 have H:=Hq h
 have HP:=Hq h.2
 have HNE:=Hq hne
 clear h hN hc hj hne
 go_enter Tryz.func47,Tryz.ntmps47
 go_wp2_with fail
 refine S.out.mono ?_
 rintro e w' ⟨rfl,n,rfl⟩
 go_wp2_with fail
 have hset0:(w.drewN n).grownBy ((w.drewN n).setCell ⟨m,0,none⟩ (.int .u8 48)) (some m):=Go.Lib.grownBy_setCell _ _ _ _
 have hR0:=R.kept (H.out.drew n) hset0 (fun e=>HNE.out e.symm)
 have HN0:=Hq (Nd.setKind (w:=w.drewN n) HN.out 48)
 have HT0:=Hq ((Two.refl g m w).drewN n |>.trans (Two.right hset0))
 clear c0 c1 d0 d1 e0 e1 hset0
 refine (W.out _ hR0).mono ?_
 clear hR0
 rintro e w1 ⟨rfl,⟨q,fa,hfa,hpq,hR⟩,hg⟩
 have HR:=Hq hR
 have HG:=Hq hg
 have hN1:=HN0.out.kept hg HNE.out
 obtain ⟨c0,c1,_,_,_,_,_,_,_⟩:=hR.facts
 obtain ⟨d0,d1,e0,e1⟩:=hN1.facts
 have hb1:q≤s.size:=hR.2
 have HN1:=Hq hN1
 clear hR hg hN1
 have hsl:∀ W,(Instr.slice 9 (.string s) (some (.int .i64 (p:Int))) (some (.int .i64 (q:Int))) none).run Tryz.prog W=.ok (.string (s.extract p q)) W:=fun W=>by
  have e:=run_slice_string (P:=Tryz.prog) W 9 s .i64 .i64 (p:Int) (q:Int) Tryz.underlying9 (by omega) (by omega) (by omega)
  rw [e,Int.toNat_natCast,Int.toNat_natCast]
 go_wp2_with fail
 go_still_tail 13,(by kernel_rfl)
 go_wp2_with fail
 go_ret
 have hset:(w1.drewN 1).grownBy ((w1.drewN 1).setCell ⟨m,1,none⟩ (.string (s.extract p q))) (some m):=Go.Lib.grownBy_setCell _ _ _ _
 exact ⟨rfl,⟨q,fa,hfa,hpq,R.kept (HR.out.drew 1) hset (fun e=>HNE.out e.symm)⟩,⟨_,Nd.setText (w:=w1.drewN 1) HN1.out _⟩,HT0.out.trans ((Two.left HG.out).drewN 1 |>.trans (Two.right hset))⟩
end Go.Proofs.YtknaalohaagcdaaGreatDoor.Own
