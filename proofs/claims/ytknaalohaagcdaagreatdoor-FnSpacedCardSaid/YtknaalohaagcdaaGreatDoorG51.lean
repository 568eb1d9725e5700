import Derived.Test.YtknaalohaagcdaaGreatDoorG01
import Derived.Test.YtknaalohaagcdaaGreatDoorG08
import Derived.Test.YtknaalohaagcdaaGreatDoorG09
import Derived.Test.YtknaalohaagcdaaGreatDoorG46
import Derived.Test.YtknaalohaagcdaaGreatDoorG47
import Derived.Test.YtknaalohaagcdaaGreatDoorG50
import Derived.Test.YtknaalohaagcdaaGreatDoorCards
import Derived.Test.YtknaalohaagcdaaGreatDoorTie
import Derived.ProofKit
import Derived.OpenVars
import Derived.OpenShut
import Derived.LaidMore
import Derived.Lay
import Derived.SevenTiedAt
import Derived.Stop.Joined
import Derived.Deep.DeepHandedRow
import Derived.Lib.SmallJoins
import Derived.ChangeMaps5
set_option maxHeartbeats 400000000
set_option maxRecDepth 100000
namespace Go.Proofs.YtknaalohaagcdaaGreatDoor.Own
open Go.RowKit JG
theorem ws_eq_len:∀ {xs:List Int},ws xs=xs.length↔∀ c∈xs,isWs c=true
 |[]=>by simp [ws]
 |c::t=>by
  by_cases hc:isWs c=true
  ·have e:ws (c::t)=ws t+1:=by show (if isWs c then _ else _)=_; rw [if_pos hc]
   rw [e]
   simp [hc,ws_eq_len (xs:=t)]
  ·have e:ws (c::t)=0:=by show (if isWs c then _ else _)=_; rw [if_neg hc]
   rw [e]
   constructor
   ·intro h; simp at h
   ·intro h; exact absurd (h c (by simp)) hc
theorem tkn_ahead{chk:List (List Int)→Bool × Bool}{lo:Bool}{n:Nat}{a xs:List Int}(h:∀ c∈a,isWs c=true):tkn chk lo (n+1) (a++xs)=tkn chk lo (n+1) xs:=by
 unfold tkn
 rw [run_ahead h]
 cases e:run chk lo (n+1) .val xs with
 |mk o b=>
 cases o with
 |none=>rfl
 |some k=>
  show decide (k+a.length+ws ((a++xs).drop (k+a.length))=(a++xs).length)=decide (k+ws (xs.drop k)=xs.length)
  rw [show (a++xs).drop (k+a.length)=xs.drop k by rw [Nat.add_comm,← List.drop_drop,drop_app rfl],List.length_append]
  congr 1
  simp only [eq_iff_iff]
  omega
theorem notgoes_ws{c:Int}(h:isWs c=true∨c=0):¬ goesOn c:=by
 unfold goesOn
 rcases h with h|h
 ·have:=(isWs_iff c).1 h; omega
 ·omega
theorem head_ws{b:List Int}(h:∀ c∈b,isWs c=true):isWs (b.headD 0)=true∨b.headD 0=0:=by
 cases b with
 |nil=>exact .inr rfl
 |cons c t=>exact .inl (h c (by simp))
theorem tkn_behind{chk:List (List Int)→Bool × Bool}{lo:Bool}{n:Nat}{xs b:List Int}(h:∀ c∈b,isWs c=true):tkn chk lo n (xs++b)=tkn chk lo n xs:=by
 have fin:∀ k,k≤xs.length→decide (k+ws ((xs++b).drop k)=(xs++b).length)=decide (k+ws (xs.drop k)=xs.length):=by
  intro k hk
  have e:(xs++b).drop k=xs.drop k++b:=List.drop_append_of_le_length hk
  rw [e,List.length_append]
  have hl:=ws_le (xs.drop k)
  have hl':=ws_le (xs.drop k++b)
  rw [List.length_drop] at hl
  rw [List.length_append,List.length_drop] at hl'
  congr 1
  simp only [eq_iff_iff]
  constructor
  ·intro hh
   have:ws (xs.drop k++b)=(xs.drop k++b).length:=by rw [List.length_append,List.length_drop]; omega
   have:=ws_eq_len.1 this
   have h3:ws (xs.drop k)=(xs.drop k).length:=ws_eq_len.2 (fun c hc=>this c (by simp [hc]))
   rw [List.length_drop] at h3
   omega
  ·intro hh
   have h3:ws (xs.drop k)=(xs.drop k).length:=by rw [List.length_drop]; omega
   have h4:=ws_eq_len.1 h3
   have:ws (xs.drop k++b)=(xs.drop k++b).length:=ws_eq_len.2 (fun c hc=>by
    rcases List.mem_append.1 hc with hc|hc
    ·exact h4 c hc
    ·exact h c hc)
   rw [List.length_append,List.length_drop] at this
   omega
 unfold tkn
 cases e:run chk lo n .val xs with
 |mk o bb=>
 cases o with
 |some k=>
  obtain ⟨h1,_,pre,rest,rfl,h2,h3⟩:=run_loc n .val xs k bb e
  have e2:run chk lo n .val (pre++rest++b)=(some k,bb):=by
   rw [List.append_assoc]
   refine h3 (rest++b) (fun _ => ?_)
   cases rest with
   |nil=>exact .inl (notgoes_ws (head_ws h))
   |cons c t=>exact .inr rfl
  rw [e2]
  exact fin k (by rw [List.length_append]; omega)
 |none=>
  cases e2:run chk lo n .val (xs++b) with
  |mk o2 b2=>
  cases o2 with
  |none=>rfl
  |some j=>
   exfalso
   obtain ⟨h1,h2,pre,rest,h3,h4,h5⟩:=run_loc n .val _ j b2 e2
   by_cases hj:j≤xs.length
   ·have e3:xs.take j=pre:=by
     have:=congrArg (List.take j) h3
     rwa [List.take_append_of_le_length hj,List.take_append_of_le_length (by omega),List.take_of_length_le (l:=pre) (by omega)] at this
    have e4:xs=pre++xs.drop j:=by rw [← e3,List.take_append_drop]
    have e5:rest=xs.drop j++b:=by
     have:=congrArg (List.drop j) h3
     rw [drop_app h4,List.drop_append_of_le_length hj] at this
     exact this.symm
    have e6:=h5 (xs.drop j) (fun _=>by
     rw [e5]
     cases xs.drop j with
     |nil=>exact .inl (notgoes_ws (.inr rfl))
     |cons c t=>exact .inr rfl)
    rw [← e4,e] at e6
    cases (Prod.mk.inj e6).1
   ·have hl:=congrArg List.length h3
    rw [List.length_append,List.length_append] at hl
    have hd:(xs++b).drop (j-1)=b.drop (j-1-xs.length):=by
     rw [List.drop_append,List.drop_eq_nil_of_le (by omega),List.nil_append]
    rw [hd] at h2
    cases hb:b.drop (j-1-xs.length) with
    |nil=>
     have:=congrArg List.length hb
     rw [List.length_drop] at this
     simp at this
     omega
    |cons c t=>
     rw [hb] at h2
     have hc:c∈b:=List.mem_of_mem_drop (i:=j-1-xs.length) (by rw [hb]; simp)
     have:=h c hc
     rw [show isWs c=false from h2] at this
     cases this
theorem tkn_spaced{chk:List (List Int)→Bool × Bool}{lo:Bool}{n:Nat}{a xs b:List Int}(ha:∀ c∈a,isWs c=true)(hb:∀ c∈b,isWs c=true):tkn chk lo (n+1) (a++xs++b)=tkn chk lo (n+1) xs:=by
 rw [tkn_behind hb,tkn_ahead ha]
theorem fits2(g:Nat)(s t:ByteArray)(w:World)(hs:s.size≤4294967296)(ht:t.size≤4294967296)(c0:w.cell? ⟨g,0,none⟩=some (.string s))(c1:w.cell? ⟨g,1,none⟩=some (.string t)):Calls Tryz.prog 12 #[.slice (some ⟨g,0,none⟩) 2 2] w fun e w'=>e=.returned (.bool (decide (s.size≤1000)&&decide (t.size≤1000)))∧w=w':=by
 by_cases h:s.size≤1000
 ·have e1:decide ((1000:Int)<(s.size:Int))=false:=by simp; omega
  rw [decide_eq_true h]
  by_cases h2:t.size≤1000
  ·have e2:decide ((1000:Int)<(t.size:Int))=false:=by simp; omega
   rw [decide_eq_true h2]
   go_enter Tryz.func12,Tryz.ntmps12
   go_wp2_with fail
   refine wp_loop_rounds 3 ?_
   rw [rounds_succ]
   go_wp2_with fail
   rw [rounds_succ]
   go_wp2_with fail
   rw [rounds_succ]
   go_wp2_with fail
   go_ret
   exact ⟨rfl,rfl⟩
  ·have e2:decide ((1000:Int)<(t.size:Int))=true:=by simp; omega
   rw [decide_eq_false h2]
   go_enter Tryz.func12,Tryz.ntmps12
   go_wp2_with fail
   refine wp_loop_rounds 3 ?_
   rw [rounds_succ]
   go_wp2_with fail
   rw [rounds_succ]
   go_wp2_with fail
   go_ret
   exact ⟨rfl,rfl⟩
 ·have t:decide ((1000:Int)<(s.size:Int))=true:=by simp; omega
  rw [decide_eq_false h]
  go_enter Tryz.func12,Tryz.ntmps12
  go_wp2_with fail
  refine wp_loop_rounds 3 ?_
  rw [rounds_succ]
  go_wp2_with fail
  go_ret
  exact ⟨rfl,rfl⟩
theorem tkn_said{tw lo:Bool}{n:Nat}{xs:List Int}(h:(run (chkT tw) lo n .val xs).2=false):tkn (chkT tw) lo n xs=tkn (chkD tw) lo n xs:=by
 cases tw with
 |true=>rfl
 |false=>
  have e:run (chkT false) lo n .val xs=run (chkD false) lo n .val xs:=run_agree (fun ns hx=>chk_agree hx) n .val xs h
  unfold tkn
  rw [e]
def LawP(w:World)(e:Ending)(w':World):Prop:=e=.returned (.bool true)∧Below w.heap.size w w'
theorem Kp.below{w w':World}(h:Kp w.heap.size w w'):Below w.heap.size w w':=⟨h.os,h.tape,h.output,h.size,fun i hi=>h.keep i hi⟩
def BX(du iv fl it ht js ml pr ro co cm:Int)(ind prx:Bool)(sI sP:ByteArray)(g:Nat)(w:World):Prop:=w.heap[g]? = some (.cells #[.int .i64 du,.int .i64 iv,.int .i64 fl,.int .i64 it,.int .i64 ht,.int .i64 js,.int .i64 ml,.int .i64 pr,.int .i64 ro,.int .i64 co,.int .i64 cm,.bool ind,.string sI,.bool prx,.string sP] 23 (0,0))
theorem BX.facts{du iv fl it ht js ml pr ro co cm:Int}{ind prx:Bool}{sI sP:ByteArray}{g:Nat}{w:World}(h:BX du iv fl it ht js ml pr ro co cm ind prx sI sP g w):w.cell? ⟨g,0,none⟩=some (.int .i64 du)∧w.cell? ⟨g,1,none⟩=some (.int .i64 iv)∧w.cell? ⟨g,2,none⟩=some (.int .i64 fl)∧w.cell? ⟨g,3,none⟩=some (.int .i64 it)∧w.cell? ⟨g,4,none⟩=some (.int .i64 ht)∧w.cell? ⟨g,5,none⟩=some (.int .i64 js)∧w.cell? ⟨g,6,none⟩=some (.int .i64 ml)∧w.cell? ⟨g,7,none⟩=some (.int .i64 pr)∧w.cell? ⟨g,8,none⟩=some (.int .i64 ro)∧w.cell? ⟨g,9,none⟩=some (.int .i64 co)∧w.cell? ⟨g,10,none⟩=some (.int .i64 cm)∧w.cell? ⟨g,11,none⟩=some (.bool ind)∧w.cell? ⟨g,12,none⟩=some (.string sI)∧w.cell? ⟨g,13,none⟩=some (.bool prx)∧w.cell? ⟨g,14,none⟩=some (.string sP):=by
 refine ⟨?_,?_,?_,?_,?_,?_,?_,?_,?_,?_,?_,?_,?_,?_,?_⟩<;>rw [cell_of_row _ _ _ _ _ (0,0) h]<;>rfl
theorem BX.kp{du iv fl it ht js ml pr ro co cm:Int}{ind prx:Bool}{sI sP:ByteArray}{g b0:Nat}{w w':World}(h:BX du iv fl it ht js ml pr ro co cm ind prx sI sP g w)(hk:Kp b0 w w')(hg:g<b0):BX du iv fl it ht js ml pr ro co cm ind prx sI sP g w':=(hk.keep g hg).trans h
theorem BX.gb{du iv fl it ht js ml pr ro co cm:Int}{ind prx:Bool}{sI sP:ByteArray}{g:Nat}{w w':World}(h:BX du iv fl it ht js ml pr ro co cm ind prx sI sP g w)(hg:w.grownBy w' none):BX du iv fl it ht js ml pr ro co cm ind prx sI sP g w':=(hg.block g (Array.getElem?_eq_some_iff.1 h).1 (by simp)).trans h
def Wsp(s:ByteArray):Prop:=∀ (i:Nat) (h:i<s.size),isWs (s[i].toNat:Int)=true
theorem Wsp.all{s:ByteArray}(h:Wsp s):∀ c∈bytes s,isWs c=true:=by
 intro c hc
 obtain ⟨i,hi,e⟩:=List.getElem_of_mem hc
 have hi':i<s.size:=by rw [bytes_len] at hi; exact hi
 have:=h i hi'
 have e2:(bytes s)[i]=(s[i].toNat:Int):=by simp [bytes]; rfl
 rw [← e,e2]
 exact this
theorem spaces16(s:ByteArray)(hs:s.size≤4294967296)(w:World):Calls Tryz.prog 16 #[.string s] w fun e w'=>∃ b,e=.returned (.bool b)∧(b=true→Wsp s)∧w=w':=by
 go_enter Tryz.func16,Tryz.ntmps16
 go_wp2_with fail
 go_loopg [6] s.size (fun gk v6 wr=>∃ k:Nat,v6=.int .i64 k∧k≤s.size∧Hid (∀ (i:Nat) (h:i<s.size),i<k→isWs (s[i].toNat:Int)=true)∧Hid (gk=s.size-k)∧w=wr)
 case atStart=>exact ⟨0,rfl,by omega,Hq (fun i _ h=>by omega),Hq rfl,rfl⟩
 case round=>
  obtain ⟨k,rfl,hk,HB,HG,rfl⟩:=hrel
  have k0:(0:Int)≤(k:Int):=Int.natCast_nonneg _
  by_cases hks:k<s.size
  ·have k1:(k:Int)<(s.size:Int):=by omega
   go_wp2_with fail
   refine (isSpace22 _ _).mono ?_
   rintro e w' ⟨rfl,rfl⟩
   cases hb:isWs (s[k].toNat:Int) with
   |false=>
    go_wp2_with fail
    go_ret
    exact ⟨_,rfl,fun h=>(by cases h),rfl⟩
   |true=>
    have HX:=Hq hb
    clear hb
    go_wp2_with fail
    go_roundg (s.size-(k+1))
    case measure=>have:=HG.out; omega
    case rel=>exact ⟨k+1,rfl,by omega,Hq (fun i h hi=>if e:i=k then by subst e; exact HX.out else HB.out i h (by omega)),Hq rfl,rfl⟩
  ·go_wp2_with fail
   go_ret
   exact ⟨_,rfl,fun _ i h=>HB.out i h (by omega),rfl⟩
theorem bytes_app(a b:ByteArray):bytes (a++b)=bytes a++bytes b:=by simp [bytes]
theorem law5(A:List Addr)(aU aI aE aM:Addr)(s0 s1 s2:ByteArray)(du iv fl it ht js ml pr ro co cm:Int)(ind prx:Bool)(sI sP:ByteArray)(w:World)(hLF:LF A aU aI aE aM w):Calls Tryz.prog 5 #[.string s0,.string s1,.string s2,.agg #[.int .i64 du,.int .i64 iv,.int .i64 fl,.int .i64 it,.int .i64 ht,.int .i64 js,.int .i64 ml,.int .i64 pr,.int .i64 ro,.int .i64 co,.int .i64 cm,.bool ind,.string sI,.bool prx,.string sP]] w (LawP w):=by
 have HL:=Hq hLF
 have HG1:=Hq (World.grownBy_alloc w (.cells #[.int .i64 du,.int .i64 iv,.int .i64 fl,.int .i64 it,.int .i64 ht,.int .i64 js,.int .i64 ml,.int .i64 pr,.int .i64 ro,.int .i64 co,.int .i64 cm,.bool ind,.string sI,.bool prx,.string sP] 23) none)
 have ZZ:=Hq (fun w=>zz7 du iv fl it ht js ml pr ro co cm ind prx sI sP w)
 have RU:=Hq (fun w=>rules9 du iv fl it ht js ml pr ro co cm ind prx sI sP w)
 clear hLF
 by_cases z0:s0.size≤2147483647
 rotate_left
 ·have t0:decide ((2147483647:Int)<(s0.size:Int))=true:=by simp; omega
  clear z0
  go_enter Tryz.func5,Tryz.ntmps5
  go_wp2_with fail
  go_ret
  exact ⟨rfl,(Kp.gb0 HG1.out (Nat.le_refl _)).below⟩
 have t0:decide ((2147483647:Int)<(s0.size:Int))=false:=by simp; omega
 by_cases z1:s1.size≤2147483647
 rotate_left
 ·have t1:decide ((2147483647:Int)<(s1.size:Int))=true:=by simp; omega
  clear z0 z1
  go_enter Tryz.func5,Tryz.ntmps5
  go_wp2_with fail
  go_ret
  exact ⟨rfl,(Kp.gb0 HG1.out (Nat.le_refl _)).below⟩
 have t1:decide ((2147483647:Int)<(s1.size:Int))=false:=by simp; omega
 by_cases z2:s2.size≤2147483647
 rotate_left
 ·have t2:decide ((2147483647:Int)<(s2.size:Int))=true:=by simp; omega
  clear z0 z1 z2
  go_enter Tryz.func5,Tryz.ntmps5
  go_wp2_with fail
  go_ret
  exact ⟨rfl,(Kp.gb0 HG1.out (Nat.le_refl _)).below⟩
 have t2:decide ((2147483647:Int)<(s2.size:Int))=false:=by simp; omega
 have HS:=Hq (And.intro z0 (And.intro z1 z2))
 clear z0 z1 z2
 go_enter Tryz.func5,Tryz.ntmps5
 go_wp2_with fail
 refine (ZZ.out _).mono ?_
 rintro e w1 ⟨b1,rfl,hb1,hg1⟩
 have HB1:=Hq (show BX du iv fl it ht js ml pr ro co cm ind prx sI sP w.heap.size w1 from (show BX du iv fl it ht js ml pr ro co cm ind prx sI sP w.heap.size (w.alloc (.cells #[.int .i64 du,.int .i64 iv,.int .i64 fl,.int .i64 it,.int .i64 ht,.int .i64 js,.int .i64 ml,.int .i64 pr,.int .i64 ro,.int .i64 co,.int .i64 cm,.bool ind,.string sI,.bool prx,.string sP] 23)) from heap_alloc_new w _).gb hg1)
 have HG2:=Hq (HG1.out.trans hg1)
 have HBI:=Hq hb1
 clear hb1 hg1
 cases b1 with
 |false=>
  go_wp2_with fail
  go_ret
  exact ⟨rfl,(Kp.gb0 HG2.out (Nat.le_refl _)).below⟩
 |true=>
  have FN:=Hq (fine10 s1 du iv fl it ht js ml pr ro co cm ind prx sI sP HS.out.2.1 (HBI.out (by trivial)).1 (HBI.out (by trivial)).2 w1)
  obtain ⟨c0,c1,c2,c3,c4,c5,c6,c7,c8,c9,c10,c11,c12,c13,c14⟩:=HB1.out.facts
  go_wp2_with fail
  refine FN.out.mono ?_
  rintro e w2 ⟨b2,rfl,hb2,hg2⟩
  have HG3:=Hq (HG2.out.trans hg2)
  have HB2:=Hq (HB1.out.gb hg2)
  have HF:=Hq hb2
  clear hg2 hb2 FN
  cases b2 with
  |false=>
   go_wp2_with fail
   go_ret
   exact ⟨rfl,(Kp.gb0 HG3.out (Nat.le_refl _)).below⟩
  |true=>
   have HGA:=Hq (World.grownBy_alloc w2 (.cells #[.string s0,.string s2] 9) none)
   have FT:=Hq (fits2 w2.heap.size s0 s2 (w2.alloc (.cells #[.string s0,.string s2] 9)) (by have:=HS.out; omega) (by have:=HS.out; omega) (by rw [cell_of_row _ _ _ _ _ (0,0) (heap_alloc_new w2 _)]; rfl) (by rw [cell_of_row _ _ _ _ _ (0,0) (heap_alloc_new w2 _)]; rfl))
   obtain ⟨b3,HB3⟩:∃ b3,Hid ((decide (s0.size≤1000)&&decide (s2.size≤1000))=b3):=⟨_,Hq rfl⟩
   rw [HB3.out] at FT
   go_wp2_with fail
   refine FT.out.mono ?_
   rintro e w3 ⟨rfl,rfl⟩
   have HG4:=Hq (HG3.out.trans HGA.out)
   have HB4:=Hq (HB2.out.gb HGA.out)
   obtain ⟨W3,hW3⟩:∃ W3,w2.alloc (.cells #[.string s0,.string s2] 9)=W3:=⟨_,rfl⟩
   rw [hW3] at HG4 HB4 ⊢
   clear hW3 FT HGA
   cases b3 with
   |false=>
    go_wp2_with fail
    go_ret
    exact ⟨rfl,(Kp.gb0 HG4.out (Nat.le_refl _)).below⟩
   |true=>
    have SA:=Hq (fun w=>spaces16 s0 (by have:=HS.out; omega) w)
    have SB:=Hq (fun w=>spaces16 s2 (by have:=HS.out; omega) w)
    go_wp2_with fail
    refine (SA.out _).mono ?_
    rintro e w4 ⟨b4,rfl,hb4,rfl⟩
    have HSA:=Hq hb4
    clear hb4
    cases b4 with
    |false=>
     go_wp2_with fail
     go_ret
     exact ⟨rfl,(Kp.gb0 HG4.out (Nat.le_refl _)).below⟩
    |true=>
     go_wp2_with fail
     refine (SB.out _).mono ?_
     rintro e w4 ⟨b5,rfl,hb5,rfl⟩
     have HSB:=Hq hb5
     clear hb5
     cases b5 with
     |false=>
      go_wp2_with fail
      go_ret
      exact ⟨rfl,(Kp.gb0 HG4.out (Nat.le_refl _)).below⟩
     |true=>
      obtain ⟨d0,d1,d2,d3,d4,d5,d6,d7,d8,d9,d10,d11,d12,d13,d14⟩:=HB4.out.facts
      go_wp2_with fail
      refine (RU.out _).mono ?_
      rintro e w5 ⟨rfl,hg5⟩
      have HG5:=Hq (HG4.out.trans hg5)
      have HB5:=Hq (HB4.out.gb hg5)
      have TK:=Hq (taken8 s1 (du==1) (iv==1) 8201 w5 (by have:=HS.out; omega) (by have:=(HF.out (by trivial)).1; omega))
      clear hg5
      generalize hx1:(du==1)=tw at TK ⊢
      generalize hx2:(iv==1)=lo at TK ⊢
      obtain ⟨tk,HTK⟩:∃ tk,Hid (tkn (chkT tw) lo 8201 (bytes s1)=tk):=⟨_,Hq rfl⟩
      obtain ⟨op,HOP⟩:∃ op,Hid ((!(run (chkT tw) lo 8201 .val (bytes s1)).2)=op):=⟨_,Hq rfl⟩
      rw [HTK.out,HOP.out] at TK
      have HX:=Hq (And.intro hx1 hx2)
      clear hx1 hx2
      go_wp2_with fail
      refine TK.out.mono ?_
      rintro e w6 ⟨rfl,hg6⟩
      have HG6:=Hq (HG5.out.trans hg6)
      have HB6:=Hq (HB5.out.gb hg6)
      clear hg6 TK
      cases op with
      |false=>
       go_wp2_with fail
       go_ret
       exact ⟨rfl,(Kp.gb0 HG6.out (Nat.le_refl _)).below⟩
      |true=>
       have hz:(s0++s1++s2).size≤3000:=by
        have h1:=(HF.out (by trivial)).1
        have h2:=HB3.out
        simp at h2
        simp only [ByteArray.size_append]
        omega
       have VD:=Hq (valid11 A aU aI aE aM 8201 (s0++s1++s2) du iv fl it ht js ml pr ro co cm ind prx sI sP (HF.out (by trivial)).2.1 (HF.out (by trivial)).2.2 w6 (HL.out.gb0 HG6.out) (by omega) (by omega))
       have E:=Hq (show tkn (chkD (decide (du=1))) (decide (iv=1)) 8201 (bytes (s0++s1++s2))=tk by
        have h1:=tkn_said (show (run (chkT tw) lo 8201 .val (bytes s1)).2=false by simpa using HOP.out)
        rw [HTK.out] at h1
        rw [bytes_app,bytes_app,tkn_spaced (n:=8200) (HSA.out (by trivial)).all (HSB.out (by trivial)).all,h1,← HX.out.1,← HX.out.2]
        rfl)
       rw [E.out] at VD
       have q1:∀ w,(Op.stringOp .add s0 s1).run Tryz.prog w=.ok (.string (s0++s1)) w:=fun w=>run_string_add_sum w _ _ (by simp only [ByteArray.size_append] at hz; omega)
       have q2:∀ w,(Op.stringOp .add (s0++s1) s2).run Tryz.prog w=.ok (.string (s0++s1++s2)) w:=fun w=>run_string_add_sum w _ _ (by simp only [ByteArray.size_append] at hz ⊢; omega)
       clear hz
       obtain ⟨h0,h1,h2,h3,h4,h5,h6,h7,h8,h9,h10,h11,h12,h13,h14⟩:=HB6.out.facts
       go_wp2_with fail
       refine VD.out.mono ?_
       rintro e w7 ⟨rfl,hk⟩
       have HK:=Hq ((Kp.gb0 HG6.out (Nat.le_refl _)).trans (show Kp w.heap.size w6 w7 from ⟨hk.os,hk.tape,hk.output,hk.size,fun b hb=>hk.keep b (Nat.lt_of_lt_of_le hb HG6.out.size)⟩))
       clear hk
       go_wp2_with fail
       go_ret
       exact ⟨by simp,HK.out.below⟩
end Go.Proofs.YtknaalohaagcdaaGreatDoor.Own
namespace Go.Proofs.YtknaalohaagcdaaGreatDoor.Own
open Go.ChangeShapes Go.WideShapes Go.ChangeAt Go.RowKit Go.ChangeMaps
theorem one_cell{cs:Array Value}{i:Nat}{v:Value}(h:(((Value.agg cs).cells.toList.drop i).take 1)=[v]):cs[i]? = some v:=by
 have h0:=congrArg (·[0]?) h
 simpa [Value.cells] using h0
theorem own:ownKnob Tryz.prog.godebug=none:=by kernel_rfl
theorem laidOut:laidOutB Tryz.prog=true:=by kernel_rfl
theorem trodVars_len{H:Type}{enc:TypeId × Value→H}{P:Program}{W:World}{sp:Nat→Bool}:∀ {ns:List String} {gs:List (DataW H)} {ps:List MemPlace},DataW.TrodVars enc P W sp ns gs ps→gs.length=ns.length
 |[],[],_,_=>rfl
 |[],_::_,_,h=>h.elim
 |_::_,[],_,h=>h.elim
 |_::ns,_::ds,_,h=>by
  obtain ⟨_,_,_,_,_,q,_,_,_,_,hs,_⟩:=h
  simp [trodVars_len hs]
theorem opts_open{H:Type}{enc:TypeId × Value→H}{W:World}{base b0:Nat}{sp:Nat→Bool}{held:Bool}{r:Reach}{v:Value}{d:DataW H}{p:List MemPlace}(hv:Value.okWide Tryz.prog W r b0 23 v)(h:DataW.Trod enc Tryz.prog W base sp held 23 v d p):
  ∃ (du iv fl it ht js ml pr ro co cm:Int) (ind prx:Bool) (sI sP:ByteArray),v=.agg #[.int .i64 du,.int .i64 iv,.int .i64 fl,.int .i64 it,.int .i64 ht,.int .i64 js,.int .i64 ml,.int .i64 pr,.int .i64 ro,.int .i64 co,.int .i64 cm,.bool ind,.string sI,.bool prx,.string sP]:=by
 obtain ⟨cs,rfl,hsz⟩:=okWide_struct Tryz.underlying23 hv
 have hsz':cs.size=15:=hsz.trans (by kernel_rfl)
 obtain ⟨fuel,hf⟩:=h
 obtain ⟨xs,n,_,_,_,hl,hx⟩:=DataW.trod_struct Tryz.underlying23 hf
 have hl':xs.length=15:=hl
 have c2:Tryz.prog.cellsOf 2=1:=by kernel_rfl
 have c4:Tryz.prog.cellsOf 4=1:=by kernel_rfl
 have c9:Tryz.prog.cellsOf 9=1:=by kernel_rfl
 have hg:∀ i,i<15→∃ y,xs[i]? = some y:=fun i hi=>⟨xs[i]'(by omega),List.getElem?_eq_getElem _⟩
 have hi:∀ i,i<15→∀ f:Field,f.type=2→f.offset=i→DataW.trod enc Tryz.prog W base sp held n f.type (((Value.agg cs).cells.toList.drop f.offset).take (Tryz.prog.cellsOf f.type))=xs[i]? → ∃ x,cs[i]? = some (.int .i64 x):=by
  intro i hi f ht ho he
  obtain ⟨y,hy⟩:=hg i hi
  rw [hy,ht,ho,c2] at he
  obtain ⟨x,hx,_⟩:=DataW.trod_int Tryz.underlying2 he
  exact ⟨x,one_cell hx⟩
 have hb:∀ i,i<15→∀ f:Field,f.type=4→f.offset=i→DataW.trod enc Tryz.prog W base sp held n f.type (((Value.agg cs).cells.toList.drop f.offset).take (Tryz.prog.cellsOf f.type))=xs[i]? → ∃ x,cs[i]? = some (.bool x):=by
  intro i hi f ht ho he
  obtain ⟨y,hy⟩:=hg i hi
  rw [hy,ht,ho,c4] at he
  obtain ⟨x,hx,_⟩:=DataW.trod_bool Tryz.underlying4 he
  exact ⟨x,one_cell hx⟩
 have hs:∀ i,i<15→∀ f:Field,f.type=9→f.offset=i→DataW.trod enc Tryz.prog W base sp held n f.type (((Value.agg cs).cells.toList.drop f.offset).take (Tryz.prog.cellsOf f.type))=xs[i]? → ∃ x,cs[i]? = some (.string x):=by
  intro i hi f ht ho he
  obtain ⟨y,hy⟩:=hg i hi
  rw [hy,ht,ho,c9] at he
  obtain ⟨x,hx,_⟩:=DataW.trod_string Tryz.underlying9 he
  exact ⟨x,one_cell hx⟩
 obtain ⟨x0,e0⟩:=hi 0 (by decide) _ rfl rfl (hx 0 _ rfl)
 obtain ⟨x1,e1⟩:=hi 1 (by decide) _ rfl rfl (hx 1 _ rfl)
 obtain ⟨x2,e2⟩:=hi 2 (by decide) _ rfl rfl (hx 2 _ rfl)
 obtain ⟨x3,e3⟩:=hi 3 (by decide) _ rfl rfl (hx 3 _ rfl)
 obtain ⟨x4,e4⟩:=hi 4 (by decide) _ rfl rfl (hx 4 _ rfl)
 obtain ⟨x5,e5⟩:=hi 5 (by decide) _ rfl rfl (hx 5 _ rfl)
 obtain ⟨x6,e6⟩:=hi 6 (by decide) _ rfl rfl (hx 6 _ rfl)
 obtain ⟨x7,e7⟩:=hi 7 (by decide) _ rfl rfl (hx 7 _ rfl)
 obtain ⟨x8,e8⟩:=hi 8 (by decide) _ rfl rfl (hx 8 _ rfl)
 obtain ⟨x9,e9⟩:=hi 9 (by decide) _ rfl rfl (hx 9 _ rfl)
 obtain ⟨x10,e10⟩:=hi 10 (by decide) _ rfl rfl (hx 10 _ rfl)
 obtain ⟨x11,e11⟩:=hb 11 (by decide) _ rfl rfl (hx 11 _ rfl)
 obtain ⟨x12,e12⟩:=hs 12 (by decide) _ rfl rfl (hx 12 _ rfl)
 obtain ⟨x13,e13⟩:=hb 13 (by decide) _ rfl rfl (hx 13 _ rfl)
 obtain ⟨x14,e14⟩:=hs 14 (by decide) _ rfl rfl (hx 14 _ rfl)
 refine ⟨x0,x1,x2,x3,x4,x5,x6,x7,x8,x9,x10,x11,x13,x12,x14,?_⟩
 have:cs=#[.int .i64 x0,.int .i64 x1,.int .i64 x2,.int .i64 x3,.int .i64 x4,.int .i64 x5,.int .i64 x6,.int .i64 x7,.int .i64 x8,.int .i64 x9,.int .i64 x10,.bool x11,.string x12,.bool x13,.string x14]:=by
  apply Array.ext_getElem?
  intro i
  by_cases h15:i<15
  ·match i,h15 with
   |0,_=>exact e0
   |1,_=>exact e1
   |2,_=>exact e2
   |3,_=>exact e3
   |4,_=>exact e4
   |5,_=>exact e5
   |6,_=>exact e6
   |7,_=>exact e7
   |8,_=>exact e8
   |9,_=>exact e9
   |10,_=>exact e10
   |11,_=>exact e11
   |12,_=>exact e12
   |13,_=>exact e13
   |14,_=>exact e14
  ·rw [Array.getElem?_eq_none (by omega),Array.getElem?_eq_none (by simp; omega)]
 rw [this]
namespace Valid
end Valid
end Go.Proofs.YtknaalohaagcdaaGreatDoor.Own
