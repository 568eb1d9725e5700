import Derived.Test.YtknaalohaagcdaaGreatDoorG01
import Derived.Test.YtknaalohaagcdaaGreatDoorG18
import Derived.Test.YtknaalohaagcdaaGreatDoorG27
import Derived.Test.YtknaalohaagcdaaGreatDoorG28
set_option maxHeartbeats 400000000
set_option maxRecDepth 100000
namespace Go.Proofs.YtknaalohaagcdaaGreatDoor.Own
open Go.RowKit JG
def SynE(w:World)(e:Ending)(w':World):Prop:=∃ b,e=.returned (.iface 179 (.pointer (some ⟨b,0,none⟩)))∧w.grownBy w' none
theorem wrap65_BA(A:List Addr)(d:Nat)(ds:Array Value)(ao:Option Addr)(c q B cap:Nat)(s:ByteArray)(vals last wh:Int)(aE aM:Addr)(eU eI:Value)(nsv:Value)(w:World)(hD:DB w d ds B cap s vals last)(hT:Top ds ao c last nsv)(hq:q≤s.size)(hs:s.size≤4096)(_hcap:s.size≤cap)(hB:Bf w B s)(hG:Gl eU eI w)(hA:EB A w)(hE:aE∈A)(hM:aM∈A)
  (cE:w.cell? ⟨0,0,none⟩=some (.iface 260 (.pointer (some aE)))) (cM:w.cell? ⟨5,0,none⟩=some (.iface 260 (.pointer (some aM)))) (h0:bits .and .u64 vals 549755813888=0) (_hBl:B<w.heap.size) (a:Addr) (ha:a∈A) (hne:a≠aM) (hnE:a≠aE):
  Calls Tryz.prog 65 #[.iface 121 (.pointer (some ⟨d,0,none⟩)),.iface 260 (.pointer (some a)),.int .i64 q,.int .i64 wh] w (SynE w):=by
 obtain ⟨_,c7,c10,_,c14⟩:=hD.facts
 have HD:=Hq hD
 have HT:=Hq hT
 have HB:=Hq hB
 have HG:=Hq hG
 have OF:=Hq (fun w h=>offs207 d q w (by omega) h)
 have PL:=Hq (fun (w1:World) (hg:w.grownBy w1 none)=>place215 d ds ao c last wh nsv _ w1 ((hD.block (hg.block d hD.lt (by simp))).blk) hT hD.dc.buf)
 have h18:=hG.size
 have hAw:=fun (w1:World) (hg:w.grownBy w1 none)=>hA.kept (w':=w1) (fun a ha=>by
  obtain ⟨c,t,e⟩:=hA a ha
  exact hg.block a.block (Array.getElem?_eq_some_iff.1 e).1 (by simp))
 have e1:=eqO a aE w hnE (hA a ha) (hA aE hE)
 have a1:=as260_162 (.pointer (some a)) w
 have a2:=fun w=>as260_166 (.pointer (some a)) w
 have a3:=fun w=>as121_121 (.pointer (some ⟨d,0,none⟩)) w
 have HAW:=Hq hAw
 clear hD hT hB hG hA hAw
 go_enter Tryz.func65,Tryz.ntmps65
 go_wp2_with fail
 refine (OF.out _ c10).mono ?_
 rintro e w' ⟨rfl,rfl⟩
 go_wp2_with fail
 refine (PL.out _ (World.grownBy.refl _ _)).mono ?_
 rintro e w1 ⟨rfl,hg1⟩
 have hg1':=hg1
 have HD1:=Hq (HD.out.block (hg1'.block d HD.out.lt (by simp)))
 obtain ⟨_,d7,d10,_,d14⟩:=HD1.out.facts
 obtain ⟨d0,_,_,_,_⟩:=HT.out.facts HD1.out.blk
 obtain ⟨pres,hpres⟩:=HD1.out.dc.pres
 have d13:w1.cell? ⟨d,13,none⟩=some (.int .u64 pres):=by rw [cell_of_row _ _ _ _ _ (0,0) HD1.out.blk]; exact hpres
 have dM:w1.cell? ⟨5,0,none⟩=some (.iface 260 (.pointer (some aM))):=(World.cell?_of_block (w:=w) (a:=⟨5,0,none⟩) (hg1'.block 5 (by omega) (by simp))).trans cM
 have hEB:=HAW.out w1 hg1'
 have e2:=eqO a aM w1 hne (hEB a ha) (hEB aM hM)
 have HGG:=Hq hg1'
 have OP:=Hq (fun w=>opts218 d w)
 have GT:=Hq (fun w=>get72 pres vals 549755813888 false (by rw [h0]; rfl) w)
 clear hpres hEB hg1' hg1
 go_wp2_with fail
 refine (OP.out _).mono ?_
 rintro e w' ⟨rfl,rfl⟩
 go_wp2_with fail
 refine (GT.out _).mono ?_
 rintro e w5 ⟨rfl,hg5⟩
 have HG5:=Hq hg5
 have cv:=conv172_nil w5
 clear hg5
 go_wp2_with fail
 go_ret
 exact ⟨_,rfl,(HGG.out.trans HG5.out).trans (World.grownBy_alloc w5 _ none)⟩
theorem wrap65_BM(A:List Addr)(d:Nat)(ds:Array Value)(ao:Option Addr)(c q B cap:Nat)(s:ByteArray)(vals last wh:Int)(aE aM:Addr)(eU eI:Value)(nsv:Value)(w:World)(hD:DB w d ds B cap s vals last)(hT:Top ds ao c last nsv)(hq:q≤s.size)(hs:s.size≤4096)(hcap:s.size≤cap)(hB:Bf w B s)(hG:Gl eU eI w)(hA:EB A w)(hE:aE∈A)(hM:aM∈A)
  (cE:w.cell? ⟨0,0,none⟩=some (.iface 260 (.pointer (some aE)))) (cM:w.cell? ⟨5,0,none⟩=some (.iface 260 (.pointer (some aM)))) (h0:bits .and .u64 vals 549755813888=0) (hBl:B<w.heap.size) (hnE:aM≠aE):
  Calls Tryz.prog 65 #[.iface 121 (.pointer (some ⟨d,0,none⟩)),.iface 260 (.pointer (some aM)),.int .i64 q,.int .i64 wh] w (SynE w):=by
 obtain ⟨_,c7,c10,_,c14⟩:=hD.facts
 have HD:=Hq hD
 have HT:=Hq hT
 have HB:=Hq hB
 have HG:=Hq hG
 have OF:=Hq (fun w h=>offs207 d q w (by omega) h)
 have PL:=Hq (fun (w1:World) (hg:w.grownBy w1 none)=>place215 d ds ao c last wh nsv _ w1 ((hD.block (hg.block d hD.lt (by simp))).blk) hT hD.dc.buf)
 have h18:=hG.size
 have hAw:=fun (w1:World) (hg:w.grownBy w1 none)=>hA.kept (w':=w1) (fun a ha=>by
  obtain ⟨c,t,e⟩:=hA a ha
  exact hg.block a.block (Array.getElem?_eq_some_iff.1 e).1 (by simp))
 have e1:=eqO aM aE w hnE (hA aM hM) (hA aE hE)
 have a1:=as260_162 (.pointer (some aM)) w
 have a2:=fun w=>as260_166 (.pointer (some aM)) w
 have a3:=fun w=>as121_121 (.pointer (some ⟨d,0,none⟩)) w
 have HAW:=Hq hAw
 clear hD hT hB hG hA hAw
 go_enter Tryz.func65,Tryz.ntmps65
 go_wp2_with fail
 refine (OF.out _ c10).mono ?_
 rintro e w' ⟨rfl,rfl⟩
 go_wp2_with fail
 refine (PL.out _ (World.grownBy.refl _ _)).mono ?_
 rintro e w1 ⟨rfl,hg1⟩
 have hg1':=hg1
 have HD1:=Hq (HD.out.block (hg1'.block d HD.out.lt (by simp)))
 obtain ⟨_,d7,d10,_,d14⟩:=HD1.out.facts
 obtain ⟨d0,_,_,_,_⟩:=HT.out.facts HD1.out.blk
 obtain ⟨pres,hpres⟩:=HD1.out.dc.pres
 have d13:w1.cell? ⟨d,13,none⟩=some (.int .u64 pres):=by rw [cell_of_row _ _ _ _ _ (0,0) HD1.out.blk]; exact hpres
 have dM:w1.cell? ⟨5,0,none⟩=some (.iface 260 (.pointer (some aM))):=(World.cell?_of_block (w:=w) (a:=⟨5,0,none⟩) (hg1'.block 5 (by omega) (by simp))).trans cM
 have hEB:=HAW.out w1 hg1'
 have e2:=eqS aM w1
 have HGG:=Hq hg1'
 have OP:=Hq (fun w=>opts218 d w)
 have GT:=Hq (fun w=>get72 pres vals 549755813888 false (by rw [h0]; rfl) w)
 have CE:=Hq (fun wh=>charErrR B q cap s wh w1 ((HG.out.kept hg1'.size (fun i hi=>hg1'.block i (by omega) (by simp))).tabs) hq hcap (HB.out.kept (hg1'.block B hBl (by simp))))
 have hr:=rest_run (W:=w1) (B:=B) (cap:=cap) hq hcap
 generalize rest B cap q s.size=u at CE hr
 clear hpres hEB hg1' hg1
 go_wp2_with fail
 refine (CE.out _).mono ?_
 rintro e w3 ⟨b3,rfl,hg3⟩
 have HG3:=Hq hg3
 have HD3:=Hq (HD1.out.block (hg3.block d HD1.out.lt (by simp)))
 obtain ⟨_,_,_,_,f14⟩:=HD3.out.facts
 have f13:w3.cell? ⟨d,13,none⟩=some (.int .u64 pres):=(World.cell?_of_block (w:=w1) (a:=⟨d,13,none⟩) (hg3.block d HD1.out.lt (by simp))).trans d13
 clear hg3
 go_wp2_with fail
 refine (OP.out _).mono ?_
 rintro e w' ⟨rfl,rfl⟩
 go_wp2_with fail
 refine (GT.out _).mono ?_
 rintro e w5 ⟨rfl,hg5⟩
 have HG5:=Hq hg5
 have cv:=conv172_nil w5
 clear hg5
 go_wp2_with fail
 go_ret
 exact ⟨_,rfl,((HGG.out.trans HG3.out).trans HG5.out).trans (World.grownBy_alloc w5 _ none)⟩
theorem wrap65_BT(A:List Addr)(d:Nat)(ds:Array Value)(ao:Option Addr)(c q B cap:Nat)(s:ByteArray)(vals last wh:Int)(aE aM:Addr)(eU eI:Value)(nsv:Value)(w:World)(hD:DB w d ds B cap s vals last)(hT:Top ds ao c last nsv)(hq:q≤s.size)(hs:s.size≤4096)(_hcap:s.size≤cap)(hB:Bf w B s)(hG:Gl eU eI w)(hA:EB A w)(_hE:aE∈A)(_hM:aM∈A)
  (cE:w.cell? ⟨0,0,none⟩=some (.iface 260 (.pointer (some aE)))) (cM:w.cell? ⟨5,0,none⟩=some (.iface 260 (.pointer (some aM)))) (h0:bits .and .u64 vals 549755813888=0) (_hBl:B<w.heap.size) (b:Nat):
  Calls Tryz.prog 65 #[.iface 121 (.pointer (some ⟨d,0,none⟩)),.iface 175 (.pointer (some ⟨b,0,none⟩)),.int .i64 q,.int .i64 wh] w (SynE w):=by
 obtain ⟨_,c7,c10,_,c14⟩:=hD.facts
 have HD:=Hq hD
 have HT:=Hq hT
 have HB:=Hq hB
 have HG:=Hq hG
 have OF:=Hq (fun w h=>offs207 d q w (by omega) h)
 have PL:=Hq (fun (w1:World) (hg:w.grownBy w1 none)=>place215 d ds ao c last wh nsv _ w1 ((hD.block (hg.block d hD.lt (by simp))).blk) hT hD.dc.buf)
 have h18:=hG.size
 have hAw:=fun (w1:World) (hg:w.grownBy w1 none)=>hA.kept (w':=w1) (fun a ha=>by
  obtain ⟨c,t,e⟩:=hA a ha
  exact hg.block a.block (Array.getElem?_eq_some_iff.1 e).1 (by simp))
 have e1:=eqD2 175 260 (.pointer (some ⟨b,0,none⟩)) (.pointer (some aE)) w (by decide)
 have a1:=as175_162 (.pointer (some ⟨b,0,none⟩)) w
 have a2:=fun w=>as175_166 (.pointer (some ⟨b,0,none⟩)) w
 have a3:=fun w=>as121_121 (.pointer (some ⟨d,0,none⟩)) w
 have HAW:=Hq hAw
 clear hD hT hB hG hA hAw
 go_enter Tryz.func65,Tryz.ntmps65
 go_wp2_with fail
 refine (OF.out _ c10).mono ?_
 rintro e w' ⟨rfl,rfl⟩
 go_wp2_with fail
 refine (PL.out _ (World.grownBy.refl _ _)).mono ?_
 rintro e w1 ⟨rfl,hg1⟩
 have hg1':=hg1
 have HD1:=Hq (HD.out.block (hg1'.block d HD.out.lt (by simp)))
 obtain ⟨_,d7,d10,_,d14⟩:=HD1.out.facts
 obtain ⟨d0,_,_,_,_⟩:=HT.out.facts HD1.out.blk
 obtain ⟨pres,hpres⟩:=HD1.out.dc.pres
 have d13:w1.cell? ⟨d,13,none⟩=some (.int .u64 pres):=by rw [cell_of_row _ _ _ _ _ (0,0) HD1.out.blk]; exact hpres
 have dM:w1.cell? ⟨5,0,none⟩=some (.iface 260 (.pointer (some aM))):=(World.cell?_of_block (w:=w) (a:=⟨5,0,none⟩) (hg1'.block 5 (by omega) (by simp))).trans cM
 have hEB:=HAW.out w1 hg1'
 have e2:=eqD2 175 260 (.pointer (some ⟨b,0,none⟩)) (.pointer (some aM)) w1 (by decide)
 have HGG:=Hq hg1'
 have OP:=Hq (fun w=>opts218 d w)
 have GT:=Hq (fun w=>get72 pres vals 549755813888 false (by rw [h0]; rfl) w)
 clear hpres hEB hg1' hg1
 go_wp2_with fail
 refine (OP.out _).mono ?_
 rintro e w' ⟨rfl,rfl⟩
 go_wp2_with fail
 refine (GT.out _).mono ?_
 rintro e w5 ⟨rfl,hg5⟩
 have HG5:=Hq hg5
 have cv:=conv172_nil w5
 clear hg5
 go_wp2_with fail
 go_ret
 exact ⟨_,rfl,(HGG.out.trans HG5.out).trans (World.grownBy_alloc w5 _ none)⟩
theorem wrap65_PA(A:List Addr)(d:Nat)(ds:Array Value)(ao:Option Addr)(c q B cap:Nat)(s:ByteArray)(vals last wh:Int)(aE aM:Addr)(eU eI:Value)(nsv:Value)(w:World)(pb gg n c2:Nat)(t:List Int)(hD:DB w d ds B cap s vals last)(hT:Top ds ao c last nsv)(hq:q≤s.size)(hs:s.size≤4096)(_hcap:s.size≤cap)(hB:Bf w B s)(hG:Gl eU eI w)(hA:EB A w)(_hE:aE∈A)(hM:aM∈A)
  (cE:w.cell? ⟨0,0,none⟩=some (.iface 260 (.pointer (some aE)))) (cM:w.cell? ⟨5,0,none⟩=some (.iface 260 (.pointer (some aM)))) (h0:bits .and .u64 vals 549755813888=0) (_hBl:B<w.heap.size) (a:Addr) (ha:a∈A) (hne:a≠aM) (hP:w.heap[pb]? = some (.cells #[.iface 260 (.pointer (some a)),.slice (some ⟨gg,0,none⟩) n c2] 170 (0,0))) (hrow:w.ownsRow 0 5 1 (.slice (some ⟨gg,0,none⟩) n c2) n ((47::t).map (Value.int .u8))) (hn:n≤4294967296):
  Calls Tryz.prog 65 #[.iface 121 (.pointer (some ⟨d,0,none⟩)),.iface 166 (.pointer (some ⟨pb,0,none⟩)),.int .i64 q,.int .i64 wh] w (SynE w):=by
 obtain ⟨_,c7,c10,_,c14⟩:=hD.facts
 have HD:=Hq hD
 have HT:=Hq hT
 have HB:=Hq hB
 have HG:=Hq hG
 have OF:=Hq (fun w h=>offs207 d q w (by omega) h)
 have PL:=Hq (fun (w1:World) (hg:w.grownBy w1 none)=>place215 d ds ao c last wh nsv _ w1 ((hD.block (hg.block d hD.lt (by simp))).blk) hT hD.dc.buf)
 have h18:=hG.size
 have hAw:=fun (w1:World) (hg:w.grownBy w1 none)=>hA.kept (w':=w1) (fun a ha=>by
  obtain ⟨c,t,e⟩:=hA a ha
  exact hg.block a.block (Array.getElem?_eq_some_iff.1 e).1 (by simp))
 have e1:=eqD2 166 260 (.pointer (some ⟨pb,0,none⟩)) (.pointer (some aE)) w (by decide)
 have a1:=as166_162 (.pointer (some ⟨pb,0,none⟩)) w
 have a2:=fun w=>as166_166 (.pointer (some ⟨pb,0,none⟩)) w
 have a3:=fun w=>as121_121 (.pointer (some ⟨d,0,none⟩)) w
 have HAW:=Hq hAw
 clear hD hT hB hG hA hAw
 go_enter Tryz.func65,Tryz.ntmps65
 go_wp2_with fail
 refine (OF.out _ c10).mono ?_
 rintro e w' ⟨rfl,rfl⟩
 go_wp2_with fail
 refine (PL.out _ (World.grownBy.refl _ _)).mono ?_
 rintro e w1 ⟨rfl,hg1⟩
 have HG1:=Hq hg1
 have hP1:=(hg1.block pb (Array.getElem?_eq_some_iff.1 hP).1 (by simp)).trans hP
 have PC:=Hq (place123 pb gg n c2 _ (47::t) w1 hn rfl hP1 (own_block hrow (fun g hg=>hg1.block g (hrow.lt g hg).2 (by simp))))
 clear hg1
 go_wp2_with fail
 refine PC.out.mono ?_
 rintro e w2 ⟨aoP,mP,cP,us,rfl,hown,_,hg2⟩
 have hg1':w.grownBy w2 none:=HG1.out.trans hg2
 have dP:w2.cell? ⟨pb,0,none⟩=some (.iface 260 (.pointer (some a))):=by rw [cell_of_row _ _ _ _ _ (0,0) ((hg2.block pb (Array.getElem?_eq_some_iff.1 hP1).1 (by simp)).trans hP1)]; rfl
 have HOW:=Hq hown
 clear hg2 hP1 hown PC
 have HD1:=Hq (HD.out.block (hg1'.block d HD.out.lt (by simp)))
 obtain ⟨_,d7,d10,_,d14⟩:=HD1.out.facts
 obtain ⟨d0,_,_,_,_⟩:=HT.out.facts HD1.out.blk
 obtain ⟨pres,hpres⟩:=HD1.out.dc.pres
 have d13:w2.cell? ⟨d,13,none⟩=some (.int .u64 pres):=by rw [cell_of_row _ _ _ _ _ (0,0) HD1.out.blk]; exact hpres
 have dM:w2.cell? ⟨5,0,none⟩=some (.iface 260 (.pointer (some aM))):=(World.cell?_of_block (w:=w) (a:=⟨5,0,none⟩) (hg1'.block 5 (by omega) (by simp))).trans cM
 have hEB:=HAW.out w2 hg1'
 have e2:=eqO a aM w2 hne (hEB a ha) (hEB aM hM)
 have HGG:=Hq hg1'
 have OP:=Hq (fun w=>opts218 d w)
 have GT:=Hq (fun w=>get72 pres vals 549755813888 false (by rw [h0]; rfl) w)
 clear hpres hEB hg1'
 go_wp2_with fail
 refine (OP.out _).mono ?_
 rintro e w' ⟨rfl,rfl⟩
 go_wp2_with fail
 refine (GT.out _).mono ?_
 rintro e w5 ⟨rfl,hg5⟩
 have HG5:=Hq hg5
 have cv:=conv172 (own_block HOW.out (fun g hg=>hg5.block g (HOW.out.lt g hg).2 (by simp)))
 clear hg5
 go_wp2_with fail
 go_ret
 exact ⟨_,rfl,(HGG.out.trans HG5.out).trans (World.grownBy_alloc w5 _ none)⟩
theorem wrap65_PM(A:List Addr)(d:Nat)(ds:Array Value)(ao:Option Addr)(c q B cap:Nat)(s:ByteArray)(vals last wh:Int)(aE aM:Addr)(eU eI:Value)(nsv:Value)(w:World)(pb gg n c2:Nat)(t:List Int)(hD:DB w d ds B cap s vals last)(hT:Top ds ao c last nsv)(hq:q≤s.size)(hs:s.size≤4096)(hcap:s.size≤cap)(hB:Bf w B s)(hG:Gl eU eI w)(hA:EB A w)(_hE:aE∈A)(_hM:aM∈A)
  (cE:w.cell? ⟨0,0,none⟩=some (.iface 260 (.pointer (some aE)))) (cM:w.cell? ⟨5,0,none⟩=some (.iface 260 (.pointer (some aM)))) (h0:bits .and .u64 vals 549755813888=0) (hBl:B<w.heap.size)  (hP:w.heap[pb]? = some (.cells #[.iface 260 (.pointer (some aM)),.slice (some ⟨gg,0,none⟩) n c2] 170 (0,0))) (hrow:w.ownsRow 0 5 1 (.slice (some ⟨gg,0,none⟩) n c2) n ((47::t).map (Value.int .u8))) (hn:n≤4294967296):
  Calls Tryz.prog 65 #[.iface 121 (.pointer (some ⟨d,0,none⟩)),.iface 166 (.pointer (some ⟨pb,0,none⟩)),.int .i64 q,.int .i64 wh] w (SynE w):=by
 obtain ⟨_,c7,c10,_,c14⟩:=hD.facts
 have HD:=Hq hD
 have HT:=Hq hT
 have HB:=Hq hB
 have HG:=Hq hG
 have OF:=Hq (fun w h=>offs207 d q w (by omega) h)
 have PL:=Hq (fun (w1:World) (hg:w.grownBy w1 none)=>place215 d ds ao c last wh nsv _ w1 ((hD.block (hg.block d hD.lt (by simp))).blk) hT hD.dc.buf)
 have h18:=hG.size
 have hAw:=fun (w1:World) (hg:w.grownBy w1 none)=>hA.kept (w':=w1) (fun a ha=>by
  obtain ⟨c,t,e⟩:=hA a ha
  exact hg.block a.block (Array.getElem?_eq_some_iff.1 e).1 (by simp))
 have e1:=eqD2 166 260 (.pointer (some ⟨pb,0,none⟩)) (.pointer (some aE)) w (by decide)
 have a1:=as166_162 (.pointer (some ⟨pb,0,none⟩)) w
 have a2:=fun w=>as166_166 (.pointer (some ⟨pb,0,none⟩)) w
 have a3:=fun w=>as121_121 (.pointer (some ⟨d,0,none⟩)) w
 have HAW:=Hq hAw
 clear hD hT hB hG hA hAw
 go_enter Tryz.func65,Tryz.ntmps65
 go_wp2_with fail
 refine (OF.out _ c10).mono ?_
 rintro e w' ⟨rfl,rfl⟩
 go_wp2_with fail
 refine (PL.out _ (World.grownBy.refl _ _)).mono ?_
 rintro e w1 ⟨rfl,hg1⟩
 have HG1:=Hq hg1
 have hP1:=(hg1.block pb (Array.getElem?_eq_some_iff.1 hP).1 (by simp)).trans hP
 have PC:=Hq (place123 pb gg n c2 _ (47::t) w1 hn rfl hP1 (own_block hrow (fun g hg=>hg1.block g (hrow.lt g hg).2 (by simp))))
 clear hg1
 go_wp2_with fail
 refine PC.out.mono ?_
 rintro e w2 ⟨aoP,mP,cP,us,rfl,hown,_,hg2⟩
 have hg1':w.grownBy w2 none:=HG1.out.trans hg2
 have dP:w2.cell? ⟨pb,0,none⟩=some (.iface 260 (.pointer (some aM))):=by rw [cell_of_row _ _ _ _ _ (0,0) ((hg2.block pb (Array.getElem?_eq_some_iff.1 hP1).1 (by simp)).trans hP1)]; rfl
 have HOW:=Hq hown
 clear hg2 hP1 hown PC
 have HD1:=Hq (HD.out.block (hg1'.block d HD.out.lt (by simp)))
 obtain ⟨_,d7,d10,_,d14⟩:=HD1.out.facts
 obtain ⟨d0,_,_,_,_⟩:=HT.out.facts HD1.out.blk
 obtain ⟨pres,hpres⟩:=HD1.out.dc.pres
 have d13:w2.cell? ⟨d,13,none⟩=some (.int .u64 pres):=by rw [cell_of_row _ _ _ _ _ (0,0) HD1.out.blk]; exact hpres
 have dM:w2.cell? ⟨5,0,none⟩=some (.iface 260 (.pointer (some aM))):=(World.cell?_of_block (w:=w) (a:=⟨5,0,none⟩) (hg1'.block 5 (by omega) (by simp))).trans cM
 have hEB:=HAW.out w2 hg1'
 have e2:=eqS aM w2
 have HGG:=Hq hg1'
 have OP:=Hq (fun w=>opts218 d w)
 have GT:=Hq (fun w=>get72 pres vals 549755813888 false (by rw [h0]; rfl) w)
 have CE:=Hq (fun wh=>charErrR B q cap s wh w2 ((HG.out.kept hg1'.size (fun i hi=>hg1'.block i (by omega) (by simp))).tabs) hq hcap (HB.out.kept (hg1'.block B hBl (by simp))))
 have hr:=rest_run (W:=w2) (B:=B) (cap:=cap) hq hcap
 generalize rest B cap q s.size=u at CE hr
 clear hpres hEB hg1'
 go_wp2_with fail
 refine (CE.out _).mono ?_
 rintro e w3 ⟨b3,rfl,hg3⟩
 have HG3:=Hq hg3
 have HD3:=Hq (HD1.out.block (hg3.block d HD1.out.lt (by simp)))
 obtain ⟨_,_,_,_,f14⟩:=HD3.out.facts
 have f13:w3.cell? ⟨d,13,none⟩=some (.int .u64 pres):=(World.cell?_of_block (w:=w2) (a:=⟨d,13,none⟩) (hg3.block d HD1.out.lt (by simp))).trans d13
 clear hg3
 go_wp2_with fail
 refine (OP.out _).mono ?_
 rintro e w' ⟨rfl,rfl⟩
 go_wp2_with fail
 refine (GT.out _).mono ?_
 rintro e w5 ⟨rfl,hg5⟩
 have HG5:=Hq hg5
 have cv:=conv172 (own_block HOW.out (fun g hg=>(HG3.out.trans hg5).block g (HOW.out.lt g hg).2 (by simp)))
 clear hg5
 go_wp2_with fail
 go_ret
 exact ⟨_,rfl,((HGG.out.trans HG3.out).trans HG5.out).trans (World.grownBy_alloc w5 _ none)⟩
theorem wrap65_PT(A:List Addr)(d:Nat)(ds:Array Value)(ao:Option Addr)(c q B cap:Nat)(s:ByteArray)(vals last wh:Int)(aE aM:Addr)(eU eI:Value)(nsv:Value)(w:World)(pb gg n c2:Nat)(t:List Int)(hD:DB w d ds B cap s vals last)(hT:Top ds ao c last nsv)(hq:q≤s.size)(hs:s.size≤4096)(_hcap:s.size≤cap)(hB:Bf w B s)(hG:Gl eU eI w)(hA:EB A w)(_hE:aE∈A)(_hM:aM∈A)
  (cE:w.cell? ⟨0,0,none⟩=some (.iface 260 (.pointer (some aE)))) (cM:w.cell? ⟨5,0,none⟩=some (.iface 260 (.pointer (some aM)))) (h0:bits .and .u64 vals 549755813888=0) (_hBl:B<w.heap.size) (b:Nat) (hP:w.heap[pb]? = some (.cells #[.iface 175 (.pointer (some ⟨b,0,none⟩)),.slice (some ⟨gg,0,none⟩) n c2] 170 (0,0))) (hrow:w.ownsRow 0 5 1 (.slice (some ⟨gg,0,none⟩) n c2) n ((47::t).map (Value.int .u8))) (hn:n≤4294967296):
  Calls Tryz.prog 65 #[.iface 121 (.pointer (some ⟨d,0,none⟩)),.iface 166 (.pointer (some ⟨pb,0,none⟩)),.int .i64 q,.int .i64 wh] w (SynE w):=by
 obtain ⟨_,c7,c10,_,c14⟩:=hD.facts
 have HD:=Hq hD
 have HT:=Hq hT
 have HB:=Hq hB
 have HG:=Hq hG
 have OF:=Hq (fun w h=>offs207 d q w (by omega) h)
 have PL:=Hq (fun (w1:World) (hg:w.grownBy w1 none)=>place215 d ds ao c last wh nsv _ w1 ((hD.block (hg.block d hD.lt (by simp))).blk) hT hD.dc.buf)
 have h18:=hG.size
 have hAw:=fun (w1:World) (hg:w.grownBy w1 none)=>hA.kept (w':=w1) (fun a ha=>by
  obtain ⟨c,t,e⟩:=hA a ha
  exact hg.block a.block (Array.getElem?_eq_some_iff.1 e).1 (by simp))
 have e1:=eqD2 166 260 (.pointer (some ⟨pb,0,none⟩)) (.pointer (some aE)) w (by decide)
 have a1:=as166_162 (.pointer (some ⟨pb,0,none⟩)) w
 have a2:=fun w=>as166_166 (.pointer (some ⟨pb,0,none⟩)) w
 have a3:=fun w=>as121_121 (.pointer (some ⟨d,0,none⟩)) w
 have HAW:=Hq hAw
 clear hD hT hB hG hA hAw
 go_enter Tryz.func65,Tryz.ntmps65
 go_wp2_with fail
 refine (OF.out _ c10).mono ?_
 rintro e w' ⟨rfl,rfl⟩
 go_wp2_with fail
 refine (PL.out _ (World.grownBy.refl _ _)).mono ?_
 rintro e w1 ⟨rfl,hg1⟩
 have HG1:=Hq hg1
 have hP1:=(hg1.block pb (Array.getElem?_eq_some_iff.1 hP).1 (by simp)).trans hP
 have PC:=Hq (place123 pb gg n c2 _ (47::t) w1 hn rfl hP1 (own_block hrow (fun g hg=>hg1.block g (hrow.lt g hg).2 (by simp))))
 clear hg1
 go_wp2_with fail
 refine PC.out.mono ?_
 rintro e w2 ⟨aoP,mP,cP,us,rfl,hown,_,hg2⟩
 have hg1':w.grownBy w2 none:=HG1.out.trans hg2
 have dP:w2.cell? ⟨pb,0,none⟩=some (.iface 175 (.pointer (some ⟨b,0,none⟩))):=by rw [cell_of_row _ _ _ _ _ (0,0) ((hg2.block pb (Array.getElem?_eq_some_iff.1 hP1).1 (by simp)).trans hP1)]; rfl
 have HOW:=Hq hown
 clear hg2 hP1 hown PC
 have HD1:=Hq (HD.out.block (hg1'.block d HD.out.lt (by simp)))
 obtain ⟨_,d7,d10,_,d14⟩:=HD1.out.facts
 obtain ⟨d0,_,_,_,_⟩:=HT.out.facts HD1.out.blk
 obtain ⟨pres,hpres⟩:=HD1.out.dc.pres
 have d13:w2.cell? ⟨d,13,none⟩=some (.int .u64 pres):=by rw [cell_of_row _ _ _ _ _ (0,0) HD1.out.blk]; exact hpres
 have dM:w2.cell? ⟨5,0,none⟩=some (.iface 260 (.pointer (some aM))):=(World.cell?_of_block (w:=w) (a:=⟨5,0,none⟩) (hg1'.block 5 (by omega) (by simp))).trans cM
 have hEB:=HAW.out w2 hg1'
 have e2:=eqD2 175 260 (.pointer (some ⟨b,0,none⟩)) (.pointer (some aM)) w2 (by decide)
 have HGG:=Hq hg1'
 have OP:=Hq (fun w=>opts218 d w)
 have GT:=Hq (fun w=>get72 pres vals 549755813888 false (by rw [h0]; rfl) w)
 clear hpres hEB hg1'
 go_wp2_with fail
 refine (OP.out _).mono ?_
 rintro e w' ⟨rfl,rfl⟩
 go_wp2_with fail
 refine (GT.out _).mono ?_
 rintro e w5 ⟨rfl,hg5⟩
 have HG5:=Hq hg5
 have cv:=conv172 (own_block HOW.out (fun g hg=>hg5.block g (HOW.out.lt g hg).2 (by simp)))
 clear hg5
 go_wp2_with fail
 go_ret
 exact ⟨_,rfl,(HGG.out.trans HG5.out).trans (World.grownBy_alloc w5 _ none)⟩
theorem frac_stop{t:List Int}(h:∀ c u,t=c::u→¬ c=46∧¬ c=101∧¬ c=69):frac t=some 0:=by
 cases t with
 |nil=>rfl
 |cons c u=>
  obtain ⟨h1,h2,h3⟩:=h c u rfl
  rw [frac_no h1,expo_no (by omega)]
def SimP(s:ByteArray)(q:Nat)(w:World)(e:Ending)(w':World):Prop:=∃ n:Nat,e=.returned (.int .i64 n)∧q+n≤s.size∧(n=0∨q+n=s.size∨num ((bytes s).drop q)=some n)∧w=w'
theorem simple96(B q cap:Nat)(s:ByteArray)(w:World)(hs:s.size≤4294967296)(hq:q<s.size)(hcap:s.size-q≤cap)(hB:Bf w B s):
  Calls Tryz.prog 96 #[.slice (some ⟨B,q,none⟩) (s.size-q) cap] w (SimP s q w):=by
 obtain ⟨L,hL⟩:∃ L,s.size-q=L:=⟨_,rfl⟩
 rw [hL] at hcap ⊢
 have HB:=Hq hB
 have c0:=hB q hq
 have hd0:=bytes_drop hq
 have hb0:=s[q].toNat_lt
 obtain ⟨c,hcc⟩:∃ c:Int,(s[q].toNat:Int)=c:=⟨_,rfl⟩
 rw [hcc] at c0 hd0
 have hcb:0≤c∧c≤255:=by omega
 have hl0:0<L:=by omega
 have hl4:L≤4294967296:=by omega
 have t0:decide ((0:Int)<(L:Int))=true:=by simp; omega
 have HL:=Hq hL
 have HX:=Hq hd0
 have HQ:=Hq hq
 clear hB hL hd0 hcc hb0 hq
 -- what stands behind the digits
 have E:=Hq (fun (n:Nat) (hn:1≤n) (hnl:n≤L) (hnum:num ((bytes s).drop q)=(frac ((bytes s).drop (q+n))).map (·+n)) (hgo:n<L→∀ x:Int,w.cell? ⟨B,q+n,none⟩=some (.int .u8 x)→¬ x=46∧¬ x=101∧¬ x=69)=>(show SimP s q w (.returned (.int .i64 n)) w from by
  refine ⟨n,rfl,by have:=HL.out; omega,?_,rfl⟩
  by_cases he:n=L
  ·exact .inr (.inl (by have:=HL.out; have:=HQ.out; omega))
  ·have hlt:q+n<s.size:=by have:=HL.out; omega
   refine .inr (.inr ?_)
   rw [hnum,frac_stop (fun c u hc => ?_)]
   ·simp
   ·rw [bytes_drop hlt] at hc
    have:=(List.cons.inj hc).1
    exact hgo (by omega) c (by rw [HB.out _ hlt,this])))
 have TAIL:=trivial
 go_enter Tryz.func96,Tryz.ntmps96
 by_cases h48:c=48
 ·subst h48
  by_cases h1:1<L
  ·have hlt:q+1<s.size:=by have:=HL.out; omega
   have c1:=HB.out (q+1) hlt
   obtain ⟨x,hx⟩:∃ x:Int,(s[q+1].toNat:Int)=x:=⟨_,rfl⟩
   rw [hx] at c1
   have t1:decide ((L:Int)≤1)=false:=by simp; omega
   have i1:(1:Int)<(L:Int):=by omega
   have E1:=Hq (fun (hz:¬ x=46∧¬ x=101∧¬ x=69)=>E.out 1 (by omega) (by omega) (by rw [HX.out]; rfl) (fun _ y hy=>by rw [c1] at hy; cases hy; exact hz))
   have HXX:=Hq hx
   clear hx E
   by_cases hgo:x=46∨x=101∨x=69
   ·rcases hgo with rfl|rfl|rfl
    all_goals
     go_wp2_with fail
     go_ret
     exact ⟨0,rfl,by omega,.inl rfl,rfl⟩
   ·have u1:(x != 46)=true:=by simp; omega
    have u2:(x != 101)=true:=by simp; omega
    have u3:(x != 69)=true:=by simp; omega
    go_wp2_with fail
    go_ret
    exact E1.out (by omega)
  ·have hL1:L=1:=by omega
   subst hL1
   have E1:=Hq (E.out 1 (by omega) (by omega) (by rw [HX.out]; rfl) (fun h=>absurd h (by omega)))
   clear E
   go_wp2_with fail
   go_ret
   exact E1.out
 ·have u0:(c==48)=false:=by simpa using h48
  by_cases hdig:49≤c∧c≤57
  ·have v1:decide (49≤c)=true:=by simpa using hdig.1
   have v2:decide (c≤57)=true:=by simpa using hdig.2
   have HD:=Hq (show isDig c=true from isDig_yes (by omega) (by omega))
   have NUM:=Hq (show num ((bytes s).drop q)=(frac ((bytes s).drop (q+digs ((bytes s).drop q)))).map (·+digs ((bytes s).drop q)) by
    rw [← List.drop_drop]
    have:=num_whole (X:=(bytes s).drop q) (p0:=0) (c:=c) (t:=(bytes s).drop (q+1)) (by rw [HX.out,num_plain (by omega)]; simp) (by rw [List.drop_zero,HX.out]) HD.out h48
    simpa using this)
   clear h48 hdig
   go_wp2_with fail
   go_loopg [2] L (fun gk v2 wr=>∃ n:Nat,v2=.int .i64 n∧1≤n∧n≤L∧Hid (digs ((bytes s).drop q)=n+digs ((bytes s).drop (q+n)))∧w=wr∧Hid (gk=L-n+1))
   case atStart=>exact ⟨1,rfl,by omega,by omega,Hq (by rw [HX.out,digs_c,HD.out]; simp; omega),rfl,Hq (by omega)⟩
   case round=>
    obtain ⟨n,rfl,hn1,hnL,HN,rfl,HG⟩:=hrel
    have n0:(0:Int)≤(n:Int):=Int.natCast_nonneg _
    by_cases hlt:n<L
    ·have w1:decide (n<L)=true:=by simpa using hlt
     have w2:decide (L≤n)=false:=by simp; omega
     have n1:(n:Int)<(L:Int):=by omega
     have hlt2:q+n<s.size:=by have:=HL.out; omega
     have cn:=HB.out (q+n) hlt2
     have hdn:=bytes_drop hlt2
     have hbn:=s[q+n].toNat_lt
     obtain ⟨x,hx⟩:∃ x:Int,(s[q+n].toNat:Int)=x:=⟨_,rfl⟩
     rw [hx] at cn hdn
     by_cases hdx:48≤x∧x≤57
     ·have x1:decide (48≤x)=true:=by simpa using hdx.1
      have x2:decide (x≤57)=true:=by simpa using hdx.2
      have HN2:=Hq (show digs ((bytes s).drop q)=(n+1)+digs ((bytes s).drop (q+(n+1))) by
       rw [HN.out,hdn,digs_c,isDig_yes hdx.1 hdx.2,show q+(n+1)=q+n+1 by omega]
       simp
       omega)
      clear hdx hdn hx hbn E
      go_wp2_with fail
      go_roundg (L-(n+1)+1)
      case measure=>have:=HG.out; omega
      case rel=>exact ⟨n+1,by go_num,by omega,by omega,HN2,rfl,Hq rfl⟩
     ·have HN2:=Hq (show digs ((bytes s).drop q)=n by rw [HN.out,hdn,digs_c,isDig_no (by omega)]; rfl)
      have E1:=Hq (fun (hz:¬ x=46∧¬ x=101∧¬ x=69)=>E.out n hn1 hnL (by have:=NUM.out; rw [HN2.out] at this; exact this) (fun _ y hy=>by rw [cn] at hy; cases hy; exact hz))
      have hcase:decide (48≤x)=false∨(decide (48≤x)=true∧decide (x≤57)=false):=by simp; omega
      clear hdn hx hbn E HN2
      by_cases hgo:x=46∨x=101∨x=69
      ·clear hcase hdx
       rcases hgo with rfl|rfl|rfl
       all_goals
        go_wp2_with fail
        go_ret
        exact ⟨0,rfl,by have:=HQ.out; omega,.inl rfl,rfl⟩
      ·have u1:(x != 46)=true:=by simp; omega
       have u2:(x != 101)=true:=by simp; omega
       have u3:(x != 69)=true:=by simp; omega
       have E2:=Hq (E1.out (by omega))
       clear hdx hgo E1
       rcases hcase with x1|⟨x1,x2⟩
       all_goals
        go_wp2_with fail
        go_ret
        exact E2.out
    ·have w1:decide (n<L)=false:=by simpa using hlt
     have w2:decide (L≤n)=true:=by simp; omega
     have hnL2:n=L:=by omega
     subst hnL2
     have E1:=Hq (show SimP s q w (.returned (.int .i64 n)) w from ⟨n,rfl,by have:=HL.out; have:=HQ.out; omega,.inr (.inl (by have:=HL.out; have:=HQ.out; omega)),rfl⟩)
     clear E
     go_wp2_with fail
     go_ret
     exact E1.out
  ·have hcase:decide (49≤c)=false∨(decide (49≤c)=true∧decide (c≤57)=false):=by simp; omega
   clear h48 hdig E
   rcases hcase with x1|⟨x1,x2⟩
   all_goals
    go_wp2_with fail
    go_ret
    exact ⟨0,rfl,by have:=HQ.out; omega,.inl rfl,rfl⟩
end Go.Proofs.YtknaalohaagcdaaGreatDoor.Own
