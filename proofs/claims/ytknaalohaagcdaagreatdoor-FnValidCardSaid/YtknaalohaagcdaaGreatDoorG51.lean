import Derived.Test.YtknaalohaagcdaaGreatDoorG01
import Derived.Test.YtknaalohaagcdaaGreatDoorG47
import Derived.Test.YtknaalohaagcdaaGreatDoorG50
set_option maxHeartbeats 400000000
set_option maxRecDepth 100000
namespace Go.Proofs.YtknaalohaagcdaaGreatDoor.Own
open Go.RowKit JG
theorem tkn_said{tw lo:Bool}{n:Nat}{xs:List Int}(h:(run (chkT tw) lo n .val xs).2=false):tkn (chkT tw) lo n xs=tkn (chkD tw) lo n xs:=by
 cases tw with
 |true=>rfl
 |false=>
  have e:run (chkT false) lo n .val xs=run (chkD false) lo n .val xs:=run_agree (fun ns hx=>chk_agree hx) n .val xs h
  unfold tkn
  rw [e]
def LawP(w:World)(e:Ending)(w':World):Prop:=e=.returned (.bool true)∧Below w.heap.size w w'
theorem Kp.below{w w':World}(h:Kp w.heap.size w w'):Below w.heap.size w w':=⟨h.os,h.tape,h.output,h.size,fun i hi=>h.keep i hi⟩
def BX(du iv fl it ht js ml pr ro co cm:Int)(ind prx:Bool)(sI sP:ByteArray)(g:Nat)(w:World):Prop:=w.heap[g]? = some (.cells #[.int .i64 du,.int .i64 iv,.int .i64 fl,.int .i64 it,.int .i64 ht,.int .i64 js,.int .i64 ml,.int .i64 pr,.int .i64 ro,.int .i64 co,.int .i64 cm,.bool ind,.string sI,.bool prx,.string sP] 23 (0,0))
theorem BX.facts{du iv fl it ht js ml pr ro co cm:Int}{ind prx:Bool}{sI sP:ByteArray}{g:Nat}{w:World}(h:BX du iv fl it ht js ml pr ro co cm ind prx sI sP g w):w.cell? ⟨g,0,none⟩=some (.int .i64 du)∧w.cell? ⟨g,1,none⟩=some (.int .i64 iv)∧w.cell? ⟨g,2,none⟩=some (.int .i64 fl)∧w.cell? ⟨g,3,none⟩=some (.int .i64 it)∧w.cell? ⟨g,4,none⟩=some (.int .i64 ht)∧w.cell? ⟨g,5,none⟩=some (.int .i64 js)∧w.cell? ⟨g,6,none⟩=some (.int .i64 ml)∧w.cell? ⟨g,7,none⟩=some (.int .i64 pr)∧w.cell? ⟨g,8,none⟩=some (.int .i64 ro)∧w.cell? ⟨g,9,none⟩=some (.int .i64 co)∧w.cell? ⟨g,10,none⟩=some (.int .i64 cm)∧w.cell? ⟨g,11,none⟩=some (.bool ind)∧w.cell? ⟨g,12,none⟩=some (.string sI)∧w.cell? ⟨g,13,none⟩=some (.bool prx)∧w.cell? ⟨g,14,none⟩=some (.string sP):=by
 refine ⟨?_,?_,?_,?_,?_,?_,?_,?_,?_,?_,?_,?_,?_,?_,?_⟩<;>rw [cell_of_row _ _ _ _ _ (0,0) h]<;>rfl
theorem BX.kp{du iv fl it ht js ml pr ro co cm:Int}{ind prx:Bool}{sI sP:ByteArray}{g b0:Nat}{w w':World}(h:BX du iv fl it ht js ml pr ro co cm ind prx sI sP g w)(hk:Kp b0 w w')(hg:g<b0):BX du iv fl it ht js ml pr ro co cm ind prx sI sP g w':=(hk.keep g hg).trans h
theorem BX.gb{du iv fl it ht js ml pr ro co cm:Int}{ind prx:Bool}{sI sP:ByteArray}{g:Nat}{w w':World}(h:BX du iv fl it ht js ml pr ro co cm ind prx sI sP g w)(hg:w.grownBy w' none):BX du iv fl it ht js ml pr ro co cm ind prx sI sP g w':=(hg.block g (Array.getElem?_eq_some_iff.1 h).1 (by simp)).trans h
theorem law3(A:List Addr)(aU aI aE aM:Addr)(s:ByteArray)(du iv fl it ht js ml pr ro co cm:Int)(ind prx:Bool)(sI sP:ByteArray)(w:World)(hLF:LF A aU aI aE aM w):Calls Tryz.prog 3 #[.string s,.agg #[.int .i64 du,.int .i64 iv,.int .i64 fl,.int .i64 it,.int .i64 ht,.int .i64 js,.int .i64 ml,.int .i64 pr,.int .i64 ro,.int .i64 co,.int .i64 cm,.bool ind,.string sI,.bool prx,.string sP]] w (LawP w):=by
 have HL:=Hq hLF
 have HG1:=Hq (World.grownBy_alloc w (.cells #[.int .i64 du,.int .i64 iv,.int .i64 fl,.int .i64 it,.int .i64 ht,.int .i64 js,.int .i64 ml,.int .i64 pr,.int .i64 ro,.int .i64 co,.int .i64 cm,.bool ind,.string sI,.bool prx,.string sP] 23) none)
 have ZZ:=Hq (fun w=>zz7 du iv fl it ht js ml pr ro co cm ind prx sI sP w)
 have RU:=Hq (fun w=>rules9 du iv fl it ht js ml pr ro co cm ind prx sI sP w)
 by_cases hs:s.size≤2147483647
 ·have t1:decide ((2147483647:Int)<(s.size:Int))=false:=by simp; omega
  clear hLF
  go_enter Tryz.func3,Tryz.ntmps3
  go_wp2_with fail
  refine (ZZ.out _).mono ?_
  rintro e w1 ⟨b1,rfl,hb1,hg1⟩
  have HB1:=Hq (show BX du iv fl it ht js ml pr ro co cm ind prx sI sP w.heap.size w1 from (show BX du iv fl it ht js ml pr ro co cm ind prx sI sP w.heap.size (w.alloc (.cells #[.int .i64 du,.int .i64 iv,.int .i64 fl,.int .i64 it,.int .i64 ht,.int .i64 js,.int .i64 ml,.int .i64 pr,.int .i64 ro,.int .i64 co,.int .i64 cm,.bool ind,.string sI,.bool prx,.string sP] 23)) from heap_alloc_new w _).gb hg1)
  have HG2:=Hq (HG1.out.trans hg1)
  have HBI:=Hq hb1
  clear hb1 hg1
  cases b1 with
  |false=>
   go_wp2_with fail
   go_ret
   exact ⟨rfl,(Kp.gb0 HG2.out (Nat.le_refl _)).below⟩
  |true=>
   have HS:=Hq (show s.size≤2147483647 from hs)
   obtain ⟨c0,c1,c2,c3,c4,c5,c6,c7,c8,c9,c10,c11,c12,c13,c14⟩:=HB1.out.facts
   clear hs
   go_wp2_with fail
   refine (RU.out _).mono ?_
   rintro e w2 ⟨rfl,hg2⟩
   have HG3:=Hq (HG2.out.trans hg2)
   have HB2:=Hq (HB1.out.gb hg2)
   have TK:=Hq (taken8 s (du==1) (iv==1) (2 * s.size+1) w2 (by have:=HS.out; omega) (by omega))
   clear hg2
   generalize hx1:(du==1)=tw at TK ⊢
   generalize hx2:(iv==1)=lo at TK ⊢
   obtain ⟨tk,HTK⟩:∃ tk,Hid (tkn (chkT tw) lo (2 * s.size+1) (bytes s)=tk):=⟨_,Hq rfl⟩
   obtain ⟨op,HOP⟩:∃ op,Hid ((!(run (chkT tw) lo (2 * s.size+1) .val (bytes s)).2)=op):=⟨_,Hq rfl⟩
   rw [HTK.out,HOP.out] at TK
   have HX:=Hq (And.intro hx1 hx2)
   clear hx1 hx2
   obtain ⟨d0,d1,d2,d3,d4,d5,d6,d7,d8,d9,d10,d11,d12,d13,d14⟩:=HB2.out.facts
   go_wp2_with fail
   refine TK.out.mono ?_
   rintro e w3 ⟨rfl,hg3⟩
   have HG4:=Hq (HG3.out.trans hg3)
   have HB3:=Hq (HB2.out.gb hg3)
   have FN:=Hq (fine10 s du iv fl it ht js ml pr ro co cm ind prx sI sP HS.out (HBI.out trivial).1 (HBI.out trivial).2 w3)
   clear hg3 TK
   obtain ⟨f0,f1,f2,f3,f4,f5,f6,f7,f8,f9,f10,f11,f12,f13,f14⟩:=HB3.out.facts
   go_wp2_with fail
   refine FN.out.mono ?_
   rintro e w4 ⟨b2,rfl,hb2,hg4⟩
   have HG5:=Hq (HG4.out.trans hg4)
   have HB4:=Hq (HB3.out.gb hg4)
   have HF:=Hq hb2
   clear hg4 hb2 FN
   cases b2 with
   |false=>
    go_wp2_with fail
    go_ret
    exact ⟨rfl,(Kp.gb0 HG5.out (Nat.le_refl _)).below⟩
   |true=>
    cases op with
    |false=>
     go_wp2_with fail
     go_ret
     exact ⟨rfl,(Kp.gb0 HG5.out (Nat.le_refl _)).below⟩
    |true=>
     have hfin:=HF.out rfl
     have VD:=Hq (valid11 A aU aI aE aM (2 * s.size+1) s du iv fl it ht js ml pr ro co cm ind prx sI sP hfin.2.1 hfin.2.2 w4 (HL.out.gb0 HG5.out) (by omega) (by omega))
     have E:=Hq (show tkn (chkD (decide (du=1))) (decide (iv=1)) (2 * s.size+1) (bytes s)=tk by
      have h1:=tkn_said (show (run (chkT tw) lo (2 * s.size+1) .val (bytes s)).2=false by simpa using HOP.out)
      rw [HTK.out] at h1
      rw [h1,← HX.out.1,← HX.out.2]
      rfl)
     rw [E.out] at VD
     obtain ⟨h0,h1,h2,h3,h4,h5,h6,h7,h8,h9,h10,h11,h12,h13,h14⟩:=HB4.out.facts
     clear hfin
     go_wp2_with fail
     refine VD.out.mono ?_
     rintro e w5 ⟨rfl,hk⟩
     have HK:=Hq ((Kp.gb0 HG5.out (Nat.le_refl _)).trans (show Kp w.heap.size w4 w5 from ⟨hk.os,hk.tape,hk.output,hk.size,fun b hb=>hk.keep b (Nat.lt_of_lt_of_le hb HG5.out.size)⟩))
     clear hk
     go_wp2_with fail
     go_ret
     exact ⟨by simp,HK.out.below⟩
 ·have t1:decide ((2147483647:Int)<(s.size:Int))=true:=by simp; omega
  clear hs hLF
  go_enter Tryz.func3,Tryz.ntmps3
  go_wp2_with fail
  go_ret
  exact ⟨rfl,(Kp.gb0 HG1.out (Nat.le_refl _)).below⟩
end Go.Proofs.YtknaalohaagcdaaGreatDoor.Own
