import Derived.Test.YtknaalohaagcdaaGreatDoorG01
import Derived.Test.YtknaalohaagcdaaGreatDoorG47
import Derived.Test.YtknaalohaagcdaaGreatDoorG49
import Derived.Test.YtknaalohaagcdaaGreatDoorRows
import Derived.ProofKit
import Derived.LaidMore
import Derived.Lay
import Derived.Stop.LaidErr
import Derived.Lib.LaidTab
import Derived.Lib.LaidU8T
set_option maxHeartbeats 400000000
set_option maxRecDepth 100000
namespace Go.Proofs.YtknaalohaagcdaaGreatDoor.Own
open Go.RowKit JG
def Oc(w:World)(t:Nat)(fa:Int)(q:Nat)(op:Bool):Prop:=w.heap[t]? = some (.cells #[.int .i64 fa,.int .i64 q,.bool op] 44 (0,0))
theorem Oc.all{w:World}{t:Nat}{fa:Int}{q:Nat}{op:Bool}(h:Oc w t fa q op):w.cell? ⟨t,0,none⟩=some (.int .i64 fa)∧w.cell? ⟨t,1,none⟩=some (.int .i64 q)∧w.cell? ⟨t,2,none⟩=some (.bool op)∧w.frozen? ⟨t,0,none⟩=false∧w.frozen? ⟨t,1,none⟩=false∧w.frozen? ⟨t,2,none⟩=false:=by
 unfold Oc at h
 refine ⟨cell_of_row _ _ 0 _ _ (0,0) h,cell_of_row _ _ 1 _ _ (0,0) h,cell_of_row _ _ 2 _ _ (0,0) h,?_,?_,?_⟩<;>(unfold World.frozen?; simp only [h]; simp)
theorem Oc.block{w w':World}{t:Nat}{fa:Int}{q:Nat}{op:Bool}(h:Oc w t fa q op)(e:w'.heap[t]? = w.heap[t]?):Oc w' t fa q op:=by
 unfold Oc at *
 rw [e]
 exact h
theorem Oc.lt{w:World}{t:Nat}{fa:Int}{q:Nat}{op:Bool}(h:Oc w t fa q op):t<w.heap.size:=(Array.getElem?_eq_some_iff.1 h).1
def ParseP(s:ByteArray)(tw lo:Bool)(n:Nat)(w:World)(e:Ending)(w':World):Prop:=
 ∃ (nd:Value) (fa:Int) (q:Nat),NodeV nd∧e=.returned (.tuple #[nd,.agg #[.int .i64 fa,.int .i64 q,.bool (run (chkT tw) lo n .val (bytes s)).2]])∧(decide (fa=0)=tkn (chkT tw) lo n (bytes s))∧w.grownBy w' none
structure PS(w0 w:World)(T4 T5:Nat)(k:Int)(tx:ByteArray)(a b:Value)(fa:Int)(q:Nat)(op:Bool):Prop where
 nd:Nd w T4 k tx a b
 oc:Oc w T5 fa q op
 gb:w0.grownBy w none
 ne:T4≠T5
 l4:w0.heap.size≤T4
 l5:w0.heap.size≤T5
theorem PS.setN{w0 w:World}{T4 T5:Nat}{k:Int}{tx:ByteArray}{a b:Value}{fa:Int}{q:Nat}{op:Bool}(h:PS w0 w T4 T5 k tx a b fa q op)(k':Int)(tx':ByteArray)(a' b':Value):PS w0 ((((w.setCell ⟨T4,0,none⟩ (.int .u8 k')).setCell ⟨T4,1,none⟩ (.string tx')).setCell ⟨T4,2,none⟩ a').setCell ⟨T4,3,none⟩ b') T4 T5 k' tx' a' b' fa q op:=
 ⟨h.nd.four _ _ _ _,h.oc.block ((gb_four _ _ _ _:w.grownBy _ (some T4)).block T5 h.oc.lt (fun e=>h.ne (Option.some.inj e).symm)),gb_none h.gb (gb_four _ _ _ _) h.l4,h.ne,h.l4,h.l5⟩
theorem PS.setO{w0 w:World}{T4 T5:Nat}{k:Int}{tx:ByteArray}{a b:Value}{fa:Int}{q:Nat}{op:Bool}(h:PS w0 w T4 T5 k tx a b fa q op)(fa':Int)(q':Nat)(op':Bool):PS w0 (((w.setCell ⟨T5,0,none⟩ (.int .i64 fa')).setCell ⟨T5,1,none⟩ (.int .i64 q')).setCell ⟨T5,2,none⟩ (.bool op')) T4 T5 k tx a b fa' q' op':=by
 have hg:w.grownBy (((w.setCell ⟨T5,0,none⟩ (.int .i64 fa')).setCell ⟨T5,1,none⟩ (.int .i64 q')).setCell ⟨T5,2,none⟩ (.bool op')) (some T5):=((Go.Lib.grownBy_setCell w T5 _ _:w.grownBy _ (some T5)).trans (Go.Lib.grownBy_setCell _ _ _ _)).trans (Go.Lib.grownBy_setCell _ _ _ _)
 refine ⟨h.nd.block (hg.block T4 h.nd.lt (fun e=>h.ne (Option.some.inj e))),?_,gb_none h.gb hg h.l5,h.ne,h.l4,h.l5⟩
 have h0:=h.oc
 unfold Oc at *
 have e1:=heap_setCell_same w T5 0 _ 44 (.int .i64 fa') h0
 have e2:=heap_setCell_same _ T5 1 _ 44 (.int .i64 q') e1
 have e3:=heap_setCell_same _ T5 2 _ 44 (.bool op') e2
 rw [e3]
 rfl
theorem PS.drew{w0 w:World}{T4 T5:Nat}{k:Int}{tx:ByteArray}{a b:Value}{fa:Int}{q:Nat}{op:Bool}(h:PS w0 w T4 T5 k tx a b fa q op):PS w0 w.drew T4 T5 k tx a b fa q op:=⟨h.nd,h.oc,⟨h.gb.os,h.gb.tape,h.gb.output,h.gb.size,h.gb.block⟩,h.ne,h.l4,h.l5⟩
theorem results_two_cells{P:Program}{fn:Func}{p u:Tmp}{t1 t2:TypeId}(h:fn.results=#[.cell p t1,.cell u t2])(tmps:Array Value)(w:World){A B:Addr}{v1 v2:Value}(hp:tmps.getD p undef=.pointer (some A))(hu:tmps.getD u undef=.pointer (some B))(h1:(loadVar t1 A).run P w=.ok v1 w)(h2:(loadVar t2 B).run P w=.ok v2 w):
  (results fn tmps).run P w=.ok (.tuple #[v1,v2]) w:=by
 have hp':tmps[p]?.getD undef=.pointer (some A):=by simpa using hp
 have hu':tmps[u]?.getD undef=.pointer (some B):=by simpa using hu
 simp only [results,h]
 simp [Sem.run_bind,hp',hu',asAddr,h1,h2,Result.andThen]
theorem res_parse{w0 w:World}{T4 T5:Nat}{k:Int}{tx:ByteArray}{a b:Value}{fa:Int}{q:Nat}{op:Bool}(h:PS w0 w T4 T5 k tx a b fa q op){tmps:Array Value}(h4:tmps.getD 4 undef=.pointer (some ⟨T4,0,none⟩))(h5:tmps.getD 5 undef=.pointer (some ⟨T5,0,none⟩)):(results Tryz.f17 tmps).run Tryz.prog w=.ok (.tuple #[.agg #[.int .u8 k,.string tx,a,b],.agg #[.int .i64 fa,.int .i64 q,.bool op]]) w:=
 results_two_cells (p:=4) (u:=5) (t1:=42) (t2:=44) rfl tmps w h4 h5 (run_loadVar_row (P:=Tryz.prog) w T4 42 42 #[.int .u8 k,.string tx,a,b] (0,0) _ h.nd Tryz.underlying42 rfl (by kernel_rfl))
  (run_loadVar_row (P:=Tryz.prog) w T5 44 44 #[.int .i64 fa,.int .i64 q,.bool op] (0,0) _ h.oc Tryz.underlying44 rfl (by kernel_rfl))
theorem PS.far{w0 w w':World}{T4 T5 j:Nat}{k:Int}{tx:ByteArray}{a b:Value}{fa:Int}{q:Nat}{op:Bool}(h:PS w0 w T4 T5 k tx a b fa q op)(hg:w.grownBy w' (some j))(h4:T4≠j)(h5:T5≠j)(h0:w0.heap.size≤j):PS w0 w' T4 T5 k tx a b fa q op:=
 ⟨h.nd.block (hg.block T4 h.nd.lt (fun e=>h4 (Option.some.inj e))),h.oc.block (hg.block T5 h.oc.lt (fun e=>h5 (Option.some.inj e))),gb_none h.gb hg h0,h.ne,h.l4,h.l5⟩
theorem parse_no(s:ByteArray)(tw lo:Bool)(n:Nat)(w:World)(hs:s.size≤4294967296)(hn:2 * s.size<n)(o:Bool)(hr:run (chkT tw) lo n .val (bytes s)=(none,o)):
  Calls Tryz.prog 17 #[.string s,.agg #[.bool tw,.bool lo]] w (ParseP s tw lo n w):=by
 have HTK:=Hq (show tkn (chkT tw) lo n (bytes s)=false by
  unfold tkn
  rw [hr])
 have HO:=Hq (show (run (chkT tw) lo n .val (bytes s)).2=o by rw [hr])
 have HR0:=Hq hr
 clear hr
 have hRG:R ((((w.alloc (.cells #[.bool tw,.bool lo] 28)).alloc (.cells #[.int .u8 0,.string ⟨#[]⟩,.slice none 0 0,.slice none 0 0] 42)).alloc (.cells #[.int .i64 0,.int .i64 0,.bool false] 44)).alloc (.cells #[.string s,.int .i64 0,.bool tw,.bool lo,.int .i64 0,.bool false] 54)) (w.heap.size+1+1+1) s 0 tw lo 0 false:=by
  refine ⟨?_,Nat.zero_le _⟩
  have h:=heap_alloc_new (((w.alloc (.cells #[.bool tw,.bool lo] 28)).alloc (.cells #[.int .u8 0,.string ⟨#[]⟩,.slice none 0 0,.slice none 0 0] 42)).alloc (.cells #[.int .i64 0,.int .i64 0,.bool false] 44)) (.cells #[.string s,.int .i64 0,.bool tw,.bool lo,.int .i64 0,.bool false] 54)
  simpa using h
 have hPS:PS w ((((w.alloc (.cells #[.bool tw,.bool lo] 28)).alloc (.cells #[.int .u8 0,.string ⟨#[]⟩,.slice none 0 0,.slice none 0 0] 42)).alloc (.cells #[.int .i64 0,.int .i64 0,.bool false] 44)).alloc (.cells #[.string s,.int .i64 0,.bool tw,.bool lo,.int .i64 0,.bool false] 54)) (w.heap.size+1) (w.heap.size+1+1) 0 ⟨#[]⟩ (.slice none 0 0) (.slice none 0 0) 0 0 false:=by
  refine ⟨?_,?_,(((World.grownBy_alloc w _ none).trans (World.grownBy_alloc _ _ none)).trans (World.grownBy_alloc _ _ none)).trans (World.grownBy_alloc _ _ none),by omega,by omega,by omega⟩
  ·have h:=heap_alloc_new (w.alloc (.cells #[.bool tw,.bool lo] 28)) (.cells #[.int .u8 0,.string ⟨#[]⟩,.slice none 0 0,.slice none 0 0] 42)
   have e:(w.alloc (.cells #[.bool tw,.bool lo] 28)).heap.size=w.heap.size+1:=by simp
   rw [e] at h
   unfold Nd
   rw [heap_alloc_old _ _ (by simp),heap_alloc_old _ _ (by simp),h]
  ·have h:=heap_alloc_new ((w.alloc (.cells #[.bool tw,.bool lo] 28)).alloc (.cells #[.int .u8 0,.string ⟨#[]⟩,.slice none 0 0,.slice none 0 0] 42)) (.cells #[.int .i64 0,.int .i64 0,.bool false] 44)
   have e:((w.alloc (.cells #[.bool tw,.bool lo] 28)).alloc (.cells #[.int .u8 0,.string ⟨#[]⟩,.slice none 0 0,.slice none 0 0] 42)).heap.size=w.heap.size+1+1:=by simp
   rw [e] at h
   unfold Oc
   rw [heap_alloc_old _ _ (by simp),h]
   rfl
 go_enter Tryz.func17,Tryz.ntmps17
 go_wp2_with fail
 generalize ((((w.alloc (.cells #[.bool tw,.bool lo] 28)).alloc (.cells #[.int .u8 0,.string ⟨#[]⟩,.slice none 0 0,.slice none 0 0] 42)).alloc (.cells #[.int .i64 0,.int .i64 0,.bool false] 44)).alloc (.cells #[.string s,.int .i64 0,.bool tw,.bool lo,.int .i64 0,.bool false] 54))=W at hRG hPS ⊢
 have hWG:=hRG.lt
 have V:=Hq (val_no (valueAll n (w.heap.size+1+1+1) s 0 tw lo false W hs hRG (by omega)) HR0.out)
 have HPS:=Hq hPS
 clear hRG hPS
 refine V.out.mono ?_
 rintro e w1 ⟨nd,⟨k2,tx2,a2,la2,ca2,b2,lb2,cb2,rfl⟩,rfl,hR1,hg1⟩
 have hg2:W.grownBy (w1.alloc (.cells #[.int .u8 k2,.string tx2,.slice a2 la2 ca2,.slice b2 lb2 cb2] 42)) (some (w.heap.size+1+1+1)):=hg1.trans (World.grownBy_alloc w1 _ _)
 have hM:Nd (w1.alloc (.cells #[.int .u8 k2,.string tx2,.slice a2 la2 ca2,.slice b2 lb2 cb2] 42)) w1.heap.size k2 tx2 (.slice a2 la2 ca2) (.slice b2 lb2 cb2):=heap_alloc_new w1 _
 have hPS2:PS w (w1.alloc (.cells #[.int .u8 k2,.string tx2,.slice a2 la2 ca2,.slice b2 lb2 cb2] 42)) (w.heap.size+1) (w.heap.size+1+1) 0 ⟨#[]⟩ (.slice none 0 0) (.slice none 0 0) 0 0 false:=HPS.out.far hg2 (by omega) (by omega) (by omega)
 have hgsz:=hg1.size
 have hsz2:(w1.alloc (.cells #[.int .u8 k2,.string tx2,.slice a2 la2 ca2,.slice b2 lb2 cb2] 42)).heap.size=w1.heap.size+1:=by simp
 obtain ⟨q,fa,hfa,hpq,hRf⟩:=hR1
 have hR2:=hRf.block ((World.grownBy_alloc w1 (.cells #[.int .u8 k2,.string tx2,.slice a2 la2 ca2,.slice b2 lb2 cb2] 42) none).block _ hRf.lt (by simp))
 have HFA:=Hq (show decide (fa=0)=false by simpa using hfa)
 clear hRf hg1
 go_wp2_with fail
 generalize (w1.alloc (.cells #[.int .u8 k2,.string tx2,.slice a2 la2 ca2,.slice b2 lb2 cb2] 42))=w2 at hM hPS2 hR2 hsz2
 obtain ⟨_,c1,_,_,c4,c5,_⟩:=hR2.facts
 obtain ⟨m0,m1,m2,m3,_⟩:=hM.all
 obtain ⟨n0,n1,n2,n3,g0,g1,g2,g3⟩:=hPS2.nd.all
 obtain ⟨o0,o1,o2,p0,p1,p2⟩:=hPS2.oc.all
 have HZ:=Hq hPS2
 have x1:¬ w1.heap.size=w.heap.size+1:=by omega
 have x2:¬ w1.heap.size=w.heap.size+1+1:=by omega
 have x3:¬ w.heap.size+1=w1.heap.size:=by omega
 have x4:¬ w.heap.size+1+1=w1.heap.size:=by omega
 clear hM hPS2 hR2
 go_region_held3 (fun w'=>w'.cell? ⟨w1.heap.size,0,none⟩=some (.int .u8 k2)∧w'.cell? ⟨w1.heap.size,1,none⟩=some (.string tx2)∧w'.cell? ⟨w1.heap.size,2,none⟩=some (.slice a2 la2 ca2)∧w'.cell? ⟨w1.heap.size,3,none⟩=some (.slice b2 lb2 cb2)∧
   w'.cell? ⟨w.heap.size+1+1+1,1,none⟩=some (.int .i64 q)∧w'.cell? ⟨w.heap.size+1+1+1,4,none⟩=some (.int .i64 fa)∧w'.cell? ⟨w.heap.size+1+1+1,5,none⟩=some (.bool (false || o)))
  (go_keep) (fail)
 go_wp2_with fail
 (try simp only [Exit.inBlock,Exit.then])
 refine bodyPost_ret (res_parse (((HZ.out.setN k2 tx2 (.slice a2 la2 ca2) (.slice b2 lb2 cb2)).setO fa q o).drew) (by rfl) (by rfl)) rfl ?_
 refine ⟨.agg #[.int .u8 k2,.string tx2,.slice a2 la2 ca2,.slice b2 lb2 cb2],fa,q,⟨k2,tx2,a2,la2,ca2,b2,lb2,cb2,rfl⟩,?_,HFA.out.trans HTK.out.symm,(((HZ.out.setN k2 tx2 (.slice a2 la2 ca2) (.slice b2 lb2 cb2)).setO fa q o).drew).gb⟩
 rw [HO.out]
theorem parse_yes(s:ByteArray)(tw lo:Bool)(n:Nat)(w:World)(hs:s.size≤4294967296)(hn:2 * s.size<n)(k:Nat)(o:Bool)(hr:run (chkT tw) lo n .val (bytes s)=(some k,o))(hk:k+ws ((bytes s).drop k)=s.size):
  Calls Tryz.prog 17 #[.string s,.agg #[.bool tw,.bool lo]] w (ParseP s tw lo n w):=by
 have HTK:=Hq (show tkn (chkT tw) lo n (bytes s)=true by
  unfold tkn
  rw [hr]
  simp only
  rw [bytes_len]
  simp
  omega)
 have HO:=Hq (show (run (chkT tw) lo n .val (bytes s)).2=o by rw [hr])
 have HR0:=Hq hr
 clear hr
 have hRG:R ((((w.alloc (.cells #[.bool tw,.bool lo] 28)).alloc (.cells #[.int .u8 0,.string ⟨#[]⟩,.slice none 0 0,.slice none 0 0] 42)).alloc (.cells #[.int .i64 0,.int .i64 0,.bool false] 44)).alloc (.cells #[.string s,.int .i64 0,.bool tw,.bool lo,.int .i64 0,.bool false] 54)) (w.heap.size+1+1+1) s 0 tw lo 0 false:=by
  refine ⟨?_,Nat.zero_le _⟩
  have h:=heap_alloc_new (((w.alloc (.cells #[.bool tw,.bool lo] 28)).alloc (.cells #[.int .u8 0,.string ⟨#[]⟩,.slice none 0 0,.slice none 0 0] 42)).alloc (.cells #[.int .i64 0,.int .i64 0,.bool false] 44)) (.cells #[.string s,.int .i64 0,.bool tw,.bool lo,.int .i64 0,.bool false] 54)
  simpa using h
 have hPS:PS w ((((w.alloc (.cells #[.bool tw,.bool lo] 28)).alloc (.cells #[.int .u8 0,.string ⟨#[]⟩,.slice none 0 0,.slice none 0 0] 42)).alloc (.cells #[.int .i64 0,.int .i64 0,.bool false] 44)).alloc (.cells #[.string s,.int .i64 0,.bool tw,.bool lo,.int .i64 0,.bool false] 54)) (w.heap.size+1) (w.heap.size+1+1) 0 ⟨#[]⟩ (.slice none 0 0) (.slice none 0 0) 0 0 false:=by
  refine ⟨?_,?_,(((World.grownBy_alloc w _ none).trans (World.grownBy_alloc _ _ none)).trans (World.grownBy_alloc _ _ none)).trans (World.grownBy_alloc _ _ none),by omega,by omega,by omega⟩
  ·have h:=heap_alloc_new (w.alloc (.cells #[.bool tw,.bool lo] 28)) (.cells #[.int .u8 0,.string ⟨#[]⟩,.slice none 0 0,.slice none 0 0] 42)
   have e:(w.alloc (.cells #[.bool tw,.bool lo] 28)).heap.size=w.heap.size+1:=by simp
   rw [e] at h
   unfold Nd
   rw [heap_alloc_old _ _ (by simp),heap_alloc_old _ _ (by simp),h]
  ·have h:=heap_alloc_new ((w.alloc (.cells #[.bool tw,.bool lo] 28)).alloc (.cells #[.int .u8 0,.string ⟨#[]⟩,.slice none 0 0,.slice none 0 0] 42)) (.cells #[.int .i64 0,.int .i64 0,.bool false] 44)
   have e:((w.alloc (.cells #[.bool tw,.bool lo] 28)).alloc (.cells #[.int .u8 0,.string ⟨#[]⟩,.slice none 0 0,.slice none 0 0] 42)).heap.size=w.heap.size+1+1:=by simp
   rw [e] at h
   unfold Oc
   rw [heap_alloc_old _ _ (by simp),h]
   rfl
 go_enter Tryz.func17,Tryz.ntmps17
 go_wp2_with fail
 generalize ((((w.alloc (.cells #[.bool tw,.bool lo] 28)).alloc (.cells #[.int .u8 0,.string ⟨#[]⟩,.slice none 0 0,.slice none 0 0] 42)).alloc (.cells #[.int .i64 0,.int .i64 0,.bool false] 44)).alloc (.cells #[.string s,.int .i64 0,.bool tw,.bool lo,.int .i64 0,.bool false] 54))=W at hRG hPS ⊢
 have hWG:=hRG.lt
 have V:=Hq (val_yes (valueAll n (w.heap.size+1+1+1) s 0 tw lo false W hs hRG (by omega)) HR0.out)
 have HPS:=Hq hPS
 clear hRG hPS
 refine V.out.mono ?_
 rintro e w1 ⟨nd,⟨k2,tx2,a2,la2,ca2,b2,lb2,cb2,rfl⟩,rfl,hR1,hg1⟩
 have hg2:W.grownBy (w1.alloc (.cells #[.int .u8 k2,.string tx2,.slice a2 la2 ca2,.slice b2 lb2 cb2] 42)) (some (w.heap.size+1+1+1)):=hg1.trans (World.grownBy_alloc w1 _ _)
 have hM:Nd (w1.alloc (.cells #[.int .u8 k2,.string tx2,.slice a2 la2 ca2,.slice b2 lb2 cb2] 42)) w1.heap.size k2 tx2 (.slice a2 la2 ca2) (.slice b2 lb2 cb2):=heap_alloc_new w1 _
 have hPS2:PS w (w1.alloc (.cells #[.int .u8 k2,.string tx2,.slice a2 la2 ca2,.slice b2 lb2 cb2] 42)) (w.heap.size+1) (w.heap.size+1+1) 0 ⟨#[]⟩ (.slice none 0 0) (.slice none 0 0) 0 0 false:=HPS.out.far hg2 (by omega) (by omega) (by omega)
 have hgsz:=hg1.size
 have hsz2:(w1.alloc (.cells #[.int .u8 k2,.string tx2,.slice a2 la2 ca2,.slice b2 lb2 cb2] 42)).heap.size=w1.heap.size+1:=by simp
 have hR2:=hR1.block ((World.grownBy_alloc w1 (.cells #[.int .u8 k2,.string tx2,.slice a2 la2 ca2,.slice b2 lb2 cb2] 42) none).block _ hR1.lt (by simp))
 have SP:=Hq (space24 (w.heap.size+1+1+1) s (0+k) tw lo 0 (false || o) _ (by omega) hR2.2 hR2)
 have HX:=Hq (And.intro hM (And.intro hPS2 hsz2))
 clear hM hPS2 hsz2 hg1 hg2 hR1 hR2
 go_wp2_with fail
 refine SP.out.mono ?_
 rintro e w3 ⟨rfl,hR3,hg3⟩
 have hM3:=HX.out.1.block (hg3.block w1.heap.size HX.out.1.lt (fun e=>by have:=Option.some.inj e; omega))
 have hPS3:=HX.out.2.1.far hg3 (by omega) (by omega) (by omega)
 have hp0:0+k+ws ((bytes s).drop (0+k))=k+ws ((bytes s).drop k):=by rw [Nat.zero_add]
 rw [hp0] at hR3
 rw [hk] at hR3
 have t1:decide (s.size<s.size)=false:=by simp
 obtain ⟨c0,c1,_⟩:=hR3.facts
 go_wp2_with fail
 clear c0 c1
 have hM:=hM3
 have hPS2:=hPS3
 have hR2:=hR3
 have HFA:=Hq (show decide ((0:Int)=0)=true from rfl)
 obtain ⟨w2,hw2⟩:∃ w2,w3=w2:=⟨_,rfl⟩
 rw [hw2] at hM hPS2 hR2 ⊢
 obtain ⟨_,c1,_,_,c4,c5,_⟩:=hR2.facts
 obtain ⟨m0,m1,m2,m3,_⟩:=hM.all
 obtain ⟨n0,n1,n2,n3,g0,g1,g2,g3⟩:=hPS2.nd.all
 obtain ⟨o0,o1,o2,p0,p1,p2⟩:=hPS2.oc.all
 have HZ:=Hq hPS2
 have x1:¬ w1.heap.size=w.heap.size+1:=by omega
 have x2:¬ w1.heap.size=w.heap.size+1+1:=by omega
 have x3:¬ w.heap.size+1=w1.heap.size:=by omega
 have x4:¬ w.heap.size+1+1=w1.heap.size:=by omega
 clear hM hPS2 hR2
 go_region_held3 (fun w'=>w'.cell? ⟨w1.heap.size,0,none⟩=some (.int .u8 k2)∧w'.cell? ⟨w1.heap.size,1,none⟩=some (.string tx2)∧w'.cell? ⟨w1.heap.size,2,none⟩=some (.slice a2 la2 ca2)∧w'.cell? ⟨w1.heap.size,3,none⟩=some (.slice b2 lb2 cb2)∧
   w'.cell? ⟨w.heap.size+1+1+1,1,none⟩=some (.int .i64 s.size)∧w'.cell? ⟨w.heap.size+1+1+1,4,none⟩=some (.int .i64 0)∧w'.cell? ⟨w.heap.size+1+1+1,5,none⟩=some (.bool (false || o)))
  (go_keep) (fail)
 go_wp2_with fail
 (try simp only [Exit.inBlock,Exit.then])
 refine bodyPost_ret (res_parse (((HZ.out.setN k2 tx2 (.slice a2 la2 ca2) (.slice b2 lb2 cb2)).setO 0 s.size o).drew) (by rfl) (by rfl)) rfl ?_
 refine ⟨.agg #[.int .u8 k2,.string tx2,.slice a2 la2 ca2,.slice b2 lb2 cb2],0,s.size,⟨k2,tx2,a2,la2,ca2,b2,lb2,cb2,rfl⟩,?_,HFA.out.trans HTK.out.symm,(((HZ.out.setN k2 tx2 (.slice a2 la2 ca2) (.slice b2 lb2 cb2)).setO 0 s.size o).drew).gb⟩
 rw [HO.out]
theorem parse_rest(s:ByteArray)(tw lo:Bool)(n:Nat)(w:World)(hs:s.size≤4294967296)(hn:2 * s.size<n)(k:Nat)(o:Bool)(hr:run (chkT tw) lo n .val (bytes s)=(some k,o))(hk:¬ k+ws ((bytes s).drop k)=s.size):
  Calls Tryz.prog 17 #[.string s,.agg #[.bool tw,.bool lo]] w (ParseP s tw lo n w):=by
 have HTK:=Hq (show tkn (chkT tw) lo n (bytes s)=false by
  unfold tkn
  rw [hr]
  simp only
  rw [bytes_len]
  simp
  omega)
 have HO:=Hq (show (run (chkT tw) lo n .val (bytes s)).2=o by rw [hr])
 have HR0:=Hq hr
 clear hr
 have hRG:R ((((w.alloc (.cells #[.bool tw,.bool lo] 28)).alloc (.cells #[.int .u8 0,.string ⟨#[]⟩,.slice none 0 0,.slice none 0 0] 42)).alloc (.cells #[.int .i64 0,.int .i64 0,.bool false] 44)).alloc (.cells #[.string s,.int .i64 0,.bool tw,.bool lo,.int .i64 0,.bool false] 54)) (w.heap.size+1+1+1) s 0 tw lo 0 false:=by
  refine ⟨?_,Nat.zero_le _⟩
  have h:=heap_alloc_new (((w.alloc (.cells #[.bool tw,.bool lo] 28)).alloc (.cells #[.int .u8 0,.string ⟨#[]⟩,.slice none 0 0,.slice none 0 0] 42)).alloc (.cells #[.int .i64 0,.int .i64 0,.bool false] 44)) (.cells #[.string s,.int .i64 0,.bool tw,.bool lo,.int .i64 0,.bool false] 54)
  simpa using h
 have hPS:PS w ((((w.alloc (.cells #[.bool tw,.bool lo] 28)).alloc (.cells #[.int .u8 0,.string ⟨#[]⟩,.slice none 0 0,.slice none 0 0] 42)).alloc (.cells #[.int .i64 0,.int .i64 0,.bool false] 44)).alloc (.cells #[.string s,.int .i64 0,.bool tw,.bool lo,.int .i64 0,.bool false] 54)) (w.heap.size+1) (w.heap.size+1+1) 0 ⟨#[]⟩ (.slice none 0 0) (.slice none 0 0) 0 0 false:=by
  refine ⟨?_,?_,(((World.grownBy_alloc w _ none).trans (World.grownBy_alloc _ _ none)).trans (World.grownBy_alloc _ _ none)).trans (World.grownBy_alloc _ _ none),by omega,by omega,by omega⟩
  ·have h:=heap_alloc_new (w.alloc (.cells #[.bool tw,.bool lo] 28)) (.cells #[.int .u8 0,.string ⟨#[]⟩,.slice none 0 0,.slice none 0 0] 42)
   have e:(w.alloc (.cells #[.bool tw,.bool lo] 28)).heap.size=w.heap.size+1:=by simp
   rw [e] at h
   unfold Nd
   rw [heap_alloc_old _ _ (by simp),heap_alloc_old _ _ (by simp),h]
  ·have h:=heap_alloc_new ((w.alloc (.cells #[.bool tw,.bool lo] 28)).alloc (.cells #[.int .u8 0,.string ⟨#[]⟩,.slice none 0 0,.slice none 0 0] 42)) (.cells #[.int .i64 0,.int .i64 0,.bool false] 44)
   have e:((w.alloc (.cells #[.bool tw,.bool lo] 28)).alloc (.cells #[.int .u8 0,.string ⟨#[]⟩,.slice none 0 0,.slice none 0 0] 42)).heap.size=w.heap.size+1+1:=by simp
   rw [e] at h
   unfold Oc
   rw [heap_alloc_old _ _ (by simp),h]
   rfl
 go_enter Tryz.func17,Tryz.ntmps17
 go_wp2_with fail
 generalize ((((w.alloc (.cells #[.bool tw,.bool lo] 28)).alloc (.cells #[.int .u8 0,.string ⟨#[]⟩,.slice none 0 0,.slice none 0 0] 42)).alloc (.cells #[.int .i64 0,.int .i64 0,.bool false] 44)).alloc (.cells #[.string s,.int .i64 0,.bool tw,.bool lo,.int .i64 0,.bool false] 54))=W at hRG hPS ⊢
 have hWG:=hRG.lt
 have V:=Hq (val_yes (valueAll n (w.heap.size+1+1+1) s 0 tw lo false W hs hRG (by omega)) HR0.out)
 have HPS:=Hq hPS
 clear hRG hPS
 refine V.out.mono ?_
 rintro e w1 ⟨nd,⟨k2,tx2,a2,la2,ca2,b2,lb2,cb2,rfl⟩,rfl,hR1,hg1⟩
 have hg2:W.grownBy (w1.alloc (.cells #[.int .u8 k2,.string tx2,.slice a2 la2 ca2,.slice b2 lb2 cb2] 42)) (some (w.heap.size+1+1+1)):=hg1.trans (World.grownBy_alloc w1 _ _)
 have hM:Nd (w1.alloc (.cells #[.int .u8 k2,.string tx2,.slice a2 la2 ca2,.slice b2 lb2 cb2] 42)) w1.heap.size k2 tx2 (.slice a2 la2 ca2) (.slice b2 lb2 cb2):=heap_alloc_new w1 _
 have hPS2:PS w (w1.alloc (.cells #[.int .u8 k2,.string tx2,.slice a2 la2 ca2,.slice b2 lb2 cb2] 42)) (w.heap.size+1) (w.heap.size+1+1) 0 ⟨#[]⟩ (.slice none 0 0) (.slice none 0 0) 0 0 false:=HPS.out.far hg2 (by omega) (by omega) (by omega)
 have hgsz:=hg1.size
 have hsz2:(w1.alloc (.cells #[.int .u8 k2,.string tx2,.slice a2 la2 ca2,.slice b2 lb2 cb2] 42)).heap.size=w1.heap.size+1:=by simp
 have hR2:=hR1.block ((World.grownBy_alloc w1 (.cells #[.int .u8 k2,.string tx2,.slice a2 la2 ca2,.slice b2 lb2 cb2] 42) none).block _ hR1.lt (by simp))
 have SP:=Hq (space24 (w.heap.size+1+1+1) s (0+k) tw lo 0 (false || o) _ (by omega) hR2.2 hR2)
 have HX:=Hq (And.intro hM (And.intro hPS2 hsz2))
 clear hM hPS2 hsz2 hg1 hg2 hR1 hR2
 go_wp2_with fail
 refine SP.out.mono ?_
 rintro e w3 ⟨rfl,hR3,hg3⟩
 have hM3:=HX.out.1.block (hg3.block w1.heap.size HX.out.1.lt (fun e=>by have:=Option.some.inj e; omega))
 have hPS3:=HX.out.2.1.far hg3 (by omega) (by omega) (by omega)
 have hp0:0+k+ws ((bytes s).drop (0+k))=k+ws ((bytes s).drop k):=by rw [Nat.zero_add]
 rw [hp0] at hR3
 have hlt:k+ws ((bytes s).drop k)<s.size:=by have:=hR3.2; omega
 have t1:decide (((k:Int)+((ws ((bytes s).drop k):Nat):Int))<(s.size:Int))=true:=by simp; omega
 have F:=Hq (fail25 (w.heap.size+1+1+1) s _ tw lo (false || o) 4 w3 hR3)
 obtain ⟨c0,c1,_⟩:=hR3.facts
 have HY:=Hq (And.intro hM3 hPS3)
 clear hM3 hPS3 hR3
 go_wp2_with fail
 refine F.out.mono ?_
 rintro e w4 ⟨rfl,hR4,hg4⟩
 have hM:=HY.out.1.block (hg4.block w1.heap.size HY.out.1.lt (fun e=>by have:=Option.some.inj e; omega))
 have hPS2:=HY.out.2.far hg4 (by omega) (by omega) (by omega)
 have hR2:=hR4
 clear c0 c1 hR4
 have HFA:=Hq (show decide ((4:Int)=0)=false from rfl)
 go_wp2_with fail
 obtain ⟨w2,hw2⟩:∃ w2,w4=w2:=⟨_,rfl⟩
 rw [hw2] at hM hPS2 hR2 ⊢
 obtain ⟨_,c1,_,_,c4,c5,_⟩:=hR2.facts
 obtain ⟨m0,m1,m2,m3,_⟩:=hM.all
 obtain ⟨n0,n1,n2,n3,g0,g1,g2,g3⟩:=hPS2.nd.all
 obtain ⟨o0,o1,o2,p0,p1,p2⟩:=hPS2.oc.all
 have HZ:=Hq hPS2
 have x1:¬ w1.heap.size=w.heap.size+1:=by omega
 have x2:¬ w1.heap.size=w.heap.size+1+1:=by omega
 have x3:¬ w.heap.size+1=w1.heap.size:=by omega
 have x4:¬ w.heap.size+1+1=w1.heap.size:=by omega
 clear hM hPS2 hR2
 go_region_held3 (fun w'=>w'.cell? ⟨w1.heap.size,0,none⟩=some (.int .u8 k2)∧w'.cell? ⟨w1.heap.size,1,none⟩=some (.string tx2)∧w'.cell? ⟨w1.heap.size,2,none⟩=some (.slice a2 la2 ca2)∧w'.cell? ⟨w1.heap.size,3,none⟩=some (.slice b2 lb2 cb2)∧
   w'.cell? ⟨w.heap.size+1+1+1,1,none⟩=some (.int .i64 (k+ws ((bytes s).drop k)))∧w'.cell? ⟨w.heap.size+1+1+1,4,none⟩=some (.int .i64 4)∧w'.cell? ⟨w.heap.size+1+1+1,5,none⟩=some (.bool (false || o)))
  (go_keep) (fail)
 go_wp2_with fail
 (try simp only [Exit.inBlock,Exit.then])
 refine bodyPost_ret (res_parse (((HZ.out.setN k2 tx2 (.slice a2 la2 ca2) (.slice b2 lb2 cb2)).setO 4 (k+ws ((bytes s).drop k)) o).drew) (by rfl) (by rfl)) rfl ?_
 refine ⟨.agg #[.int .u8 k2,.string tx2,.slice a2 la2 ca2,.slice b2 lb2 cb2],4,(k+ws ((bytes s).drop k)),⟨k2,tx2,a2,la2,ca2,b2,lb2,cb2,rfl⟩,?_,HFA.out.trans HTK.out.symm,(((HZ.out.setN k2 tx2 (.slice a2 la2 ca2) (.slice b2 lb2 cb2)).setO 4 (k+ws ((bytes s).drop k)) o).drew).gb⟩
 rw [HO.out]
theorem gb_two_alloc{w w':World}(h:w.grownBy w' none)(a b:Obj):w.grownBy ((w'.alloc a).alloc b) none:=(h.trans (World.grownBy_alloc _ _ none)).trans (World.grownBy_alloc _ _ none)
theorem parse17(s:ByteArray)(tw lo:Bool)(n:Nat)(w:World)(hs:s.size≤4294967296)(hn:2 * s.size<n):Calls Tryz.prog 17 #[.string s,.agg #[.bool tw,.bool lo]] w (ParseP s tw lo n w):=by
 cases hr:run (chkT tw) lo n .val (bytes s) with
 |mk j o=>
 cases j with
 |none=>exact parse_no s tw lo n w hs hn o hr
 |some k=>
  by_cases hk:k+ws ((bytes s).drop k)=s.size
  ·exact parse_yes s tw lo n w hs hn k o hr hk
  ·exact parse_rest s tw lo n w hs hn k o hr hk
theorem taken8(s:ByteArray)(tw lo:Bool)(n:Nat)(w:World)(hs:s.size≤4294967296)(hn:2 * s.size<n):
  Calls Tryz.prog 8 #[.string s,.agg #[.bool tw,.bool lo]] w fun e w'=>e=.returned (.tuple #[.bool (tkn (chkT tw) lo n (bytes s)),.bool (!(run (chkT tw) lo n .val (bytes s)).2)])∧w.grownBy w' none:=by
 have P:=Hq (parse17 s tw lo n (w.alloc (.cells #[.bool tw,.bool lo] 28)) hs hn)
 have HA:=Hq (World.grownBy_alloc w (.cells #[.bool tw,.bool lo] 28) none)
 generalize hx:tkn (chkT tw) lo n (bytes s)=x
 obtain ⟨o,HOO⟩:∃ o,Hid ((run (chkT tw) lo n .val (bytes s)).2=o):=⟨_,Hq rfl⟩
 rw [HOO.out]
 have HX:=Hq hx
 clear hx
 go_enter Tryz.func8,Tryz.ntmps8
 go_wp2_with fail
 refine P.out.mono ?_
 rintro e w1 ⟨nd,fa,q,⟨k2,tx2,a2,la2,ca2,b2,lb2,cb2,rfl⟩,rfl,hfa,hg⟩
 have HG:=Hq (And.intro (hfa.trans HX.out) hg)
 clear hfa hg
 rw [HOO.out]
 go_wp2_with fail
 go_quiet (fail)
 go_wp2_with fail
 go_ret2
 refine ⟨?_,gb_drewN (gb_two_alloc (HA.out.trans HG.out.2) _ _) _⟩
 have e:(fa==0)=x:=by
  rw [← HG.out.1]
  by_cases h:fa=0<;>simp [h]
 show Ending.returned (.tuple #[.bool (fa==0),.bool !o])=_
 rw [e]
end Go.Proofs.YtknaalohaagcdaaGreatDoor.Own
namespace Go.Proofs.YtknaalohaagcdaaGreatDoor.Own
open Go.ChangeShapes Go.WideShapes Go.ChangeAt Go.RowKit
def kindTab:List Int:=(List.range 256).map fun (i:Nat)=>normK i
def escTab:List Int:=(List.range 128).map fun (i:Nat)=>if i<32∨i=34∨i=38∨i=60∨i=62∨i=92 then 1 else 0
theorem kindLen:kindTab.length=256:=by simp [kindTab]
theorem kindAt(c:Nat)(h:c<256):kindTab.getD c 0=normK c:=by simp [kindTab,h]
theorem escLen:escTab.length=128:=by simp [escTab]
theorem escAt(c:Nat)(h:c<128):escTab.getD c 0=if c<32∨c=34∨c=38∨c=60∨c=62∨c=92 then 1 else 0:=by simp [escTab,h]
theorem rowErr(u:TypeId)(h:Tryz.prog.typeName? 3 u=some "*errors.errorString"):u=260:=
 typeName_ptr_named (nm := "errors.errorString") (by rw [show "*" ++ "errors.errorString" = "*errors.errorString" from rfl]<;>kernel_rfl) (by kernel_rfl) (by decide) u h
theorem snt_head{n:String}{text:List UInt8}{r:List (String × DataW Unit)}{W:World}{g:Nat}
  (h:laidMet Tryz.prog ((n,.iface "*errors.errorString" (.ptr (.agg [.lit (.string text)])))::r) W)
  (hg:Tryz.prog.globalNamed n=some g) (ht:(Tryz.prog.globals[g]?).map (·.type)=some 62):
  ∃ (a:Addr) (s:ByteArray) (c:Array Value) (t:TypeId),W.cell? ⟨g,0,none⟩=some (.iface 260 (.pointer (some a)))∧W.cell? a=some (.string s)∧s.data.toList=text∧W.heap[a.block]? = some (.cells c t (0,0)):=by
 obtain ⟨ps,⟨g0,t0,cs0,f0,p0,q0,hg0,ht0,hv0,hd0,_,e0⟩,_,hrows⟩:=h
 obtain rfl:=Option.some.inj (hg.symm.trans hg0)
 obtain rfl:=Option.some.inj (ht.symm.trans ht0)
 subst e0
 obtain ⟨l0⟩:=cs0
 have ok0:∀ u v,l0=[.iface u v]→Value.okWide Tryz.prog W .any 0 u v:=fun u v e=>by
  subst e
  exact (hrows g 0 (by simp [MemPlace.row])).2 u v (by simpa using World.var?_cell hg0 hv0 0)
 obtain ⟨a0,s0,rfl,hc0,hs0,_,rfl⟩:=errorString_of_trod Tryz.underlying62 rowErr Tryz.underlying260 Tryz.underlying280 rfl rfl Tryz.underlying9 (by kernel_rfl) (by kernel_rfl) hd0 ok0
 obtain ⟨c0,t0,hb0⟩:=(hrows a0.block a0.off (by simp [MemPlace.row])).1
 exact ⟨a0,s0,c0,t0,World.var?_cell hg hv0 0,hc0,hs0,hb0⟩
theorem snt_ne{W:World}{a b:Addr}{s t:ByteArray}{x y:List UInt8}(ha:W.cell? a=some (.string s))(hx:s.data.toList=x)(hb:W.cell? b=some (.string t))(hy:t.data.toList=y)(h:x≠y):a≠b:=by
 rintro rfl
 rw [ha] at hb
 cases hb
 exact h (hx.symm.trans hy)
def u8ren:Go.Shelf.Ren:=⟨id,fun|5=>5|119=>240|138=>242|139=>243|n=>n,fun|3=>12|4=>13|n=>n⟩
theorem u8types:U8Types Tryz.prog u8ren:=⟨Tryz.underlying5,Tryz.underlying240,Tryz.underlying242,Tryz.underlying243⟩
theorem u8extra:U8Extra Tryz.prog u8ren:=⟨by kernel_rfl,by kernel_rfl,by kernel_rfl,by kernel_rfl,by kernel_rfl,by kernel_rfl,by kernel_rfl⟩
theorem u8first:Go.Pinned.utf8First=Lib.firstData:=by kernel_rfl
theorem laid_facts{W:World}(h:laidMetH Tryz.prog Rows.fnValidRow.laid W):∃ (A:List Addr) (aU aI aE aM:Addr),LF A aU aI aE aM W:=by
 rw [MakeChecks.laidMetH_plain _ _ _ (by kernel_rfl)] at h
 have h2:=h.tail.tail
 have h3:=h2.tail
 have h4:=h3.tail
 have h5:=h4.tail
 have h6:=h5.tail
 have h7:=h6.tail
 have h9:=h7.tail.tail
 have h10:=h9.tail
 have h11:=h10.tail
 have h12:=h11.tail
 have h13:=h12.tail
 have h14:=h13.tail
 have h15:=h14.tail
 have h16:=h15.tail
 have hP':laidMet Tryz.prog (("internal/strconv.uint64pow10",Lib.tabData .u64 Lib.pow10Tab)::_) W:=h2
 have hP:=Lib.tabIs_of_head (g:=15) (t:=254) (e:=68) (n:=20) (by kernel_rfl) (by kernel_rfl) Tryz.underlying254 Tryz.underlying68 (by kernel_rfl) (by kernel_rfl) hP'
 have hE':laidMet Tryz.prog (("loop.example/pub-g01450/pub/jsontext_internal_jsonwire.escapeASCII",Lib.tabData .u8 escTab)::_) W:=h6
 have hE:=Lib.tabIs_of_head (g:=9) (t:=195) (e:=5) (n:=128) (by kernel_rfl) (by kernel_rfl) Tryz.underlying195 Tryz.underlying5 (by kernel_rfl) (by kernel_rfl) hE'
 have hK':laidMet Tryz.prog (("loop.example/pub-g01450/pub/jsontext.normKind",Lib.tabData .u8 kindTab)::_) W:=h15
 have hK:=Lib.tabIs_of_head (g:=4) (t:=157) (e:=123) (n:=256) (by kernel_rfl) (by kernel_rfl) Tryz.underlying157 Tryz.underlying123 (by kernel_rfl) (by kernel_rfl) hK'
 have hA':laidMet Tryz.prog (("unicode/utf8.acceptRanges",Lib.acceptData)::_) W:=h3
 have hF':laidMet Tryz.prog [("unicode/utf8.first",Lib.firstData)] W:=by
  rw [← u8first]
  exact h16
 have hT:Lib.Utf8Tabs 12 13 W:=utf8Tabs_of_readsT (ρ:=u8ren) u8types u8extra (Lib.laidMet.reads hF' (.head _)) (Lib.laidMet.reads hA' (.head _))
 obtain ⟨a0,s0,c0,t0,v0,k0,x0,b0⟩:=snt_head (g:=0) h4 (by kernel_rfl) (by kernel_rfl)
 obtain ⟨a1,s1,c1,t1,v1,k1,x1,b1⟩:=snt_head (g:=1) h5 (by kernel_rfl) (by kernel_rfl)
 obtain ⟨aI,sI,cI,tI,vI,kI,xI,bI⟩:=snt_head (g:=11) h7 (by kernel_rfl) (by kernel_rfl)
 obtain ⟨a3,s3,c3,t3,v3,k3,x3,b3⟩:=snt_head (g:=3) h9 (by kernel_rfl) (by kernel_rfl)
 obtain ⟨a6,s6,c6,t6,v6,k6,x6,b6⟩:=snt_head (g:=6) h10 (by kernel_rfl) (by kernel_rfl)
 obtain ⟨a8,s8,c8,t8,v8,k8,x8,b8⟩:=snt_head (g:=8) h11 (by kernel_rfl) (by kernel_rfl)
 obtain ⟨a5,s5,c5,t5,v5,k5,x5,b5⟩:=snt_head (g:=5) h12 (by kernel_rfl) (by kernel_rfl)
 obtain ⟨a7,s7,c7,t7,v7,k7,x7,b7⟩:=snt_head (g:=7) h13 (by kernel_rfl) (by kernel_rfl)
 obtain ⟨a2,s2,c2,t2,v2,k2,x2,b2⟩:=snt_head (g:=2) h14 (by kernel_rfl) (by kernel_rfl)
 have hsz:18≤W.heap.size:=by
  obtain ⟨ps,⟨g0,t0,cs0,f0,p0,q0,hg0,ht0,hv0,_⟩,_⟩:=h.tail
  have hg:Tryz.prog.globalNamed "math/bits.deBruijn64tab" = some 17:=by kernel_rfl
  obtain rfl:=Option.some.inj (hg.symm.trans hg0)
  unfold World.var? at hv0
  rw [hg] at hv0
  simp only [Option.bind_some] at hv0
  cases hh:W.heap[17]? with
  |none=>rw [hh] at hv0; cases hv0
  |some o=>exact (Array.getElem?_eq_some_iff.1 hh).1
 clear h2 h3 h4 h5 h6 h7 h9 h10 h11 h12 h13 h14 h15 h16 hE' hK' hA' hF' hP' h
 refine ⟨[a0,a1,aI,a3,a6,a8,a5,a7,a2],a1,aI,a0,a5,⟨hT,?_,v1,vI,hsz⟩,⟨?_,hP,?_⟩,?_,v0,v5,by simp,by simp,by simp,by simp,?_,?_,?_,?_,?_,?_⟩
 ·intro c hc
  refine ⟨_,hE.cell (by kernel_rfl) c (by rw [escLen]; exact hc),fun h => ?_⟩
  rw [escAt c hc] at h
  split at h
  ·cases h
  ·next hn=>omega
 ·intro c hc
  rw [hK.cell (by kernel_rfl) c (by rw [kindLen]; exact hc),kindAt c hc]
 ·intro g hg
  simp only [List.mem_cons,List.not_mem_nil,or_false] at hg
  rcases hg with rfl|rfl|rfl|rfl|rfl|rfl|rfl
  ·exact ⟨a0,by simp,v0⟩
  ·exact ⟨a2,by simp,v2⟩
  ·exact ⟨a3,by simp,v3⟩
  ·exact ⟨a5,by simp,v5⟩
  ·exact ⟨a6,by simp,v6⟩
  ·exact ⟨a7,by simp,v7⟩
  ·exact ⟨a8,by simp,v8⟩
 ·intro a ha
  simp only [List.mem_cons,List.not_mem_nil,or_false] at ha
  rcases ha with rfl|rfl|rfl|rfl|rfl|rfl|rfl|rfl|rfl
  ·exact ⟨c0,t0,b0⟩
  ·exact ⟨c1,t1,b1⟩
  ·exact ⟨cI,tI,bI⟩
  ·exact ⟨c3,t3,b3⟩
  ·exact ⟨c6,t6,b6⟩
  ·exact ⟨c8,t8,b8⟩
  ·exact ⟨c5,t5,b5⟩
  ·exact ⟨c7,t7,b7⟩
  ·exact ⟨c2,t2,b2⟩
 ·exact snt_ne k1 x1 kI xI (by decide)
 ·exact snt_ne k1 x1 k0 x0 (by decide)
 ·exact snt_ne k1 x1 k5 x5 (by decide)
 ·exact snt_ne kI xI k0 x0 (by decide)
 ·exact snt_ne kI xI k5 x5 (by decide)
 ·exact snt_ne k5 x5 k0 x0 (by decide)
end Go.Proofs.YtknaalohaagcdaaGreatDoor.Own
