import Derived.Test.YtknaalohaagcdaaGreatDoorG01
import Derived.Test.YtknaalohaagcdaaGreatDoorG02
set_option maxHeartbeats 400000000
set_option maxRecDepth 100000
namespace Go.Proofs.YtknaalohaagcdaaGreatDoor.Own
open Go.RowKit JG
def chain:List (Int × Int)→List Int→Option Nat
 |[],_=>some 0
 |(l,m)::r,xs=>if hexO l m xs=some 1 then (chain r xs.tail).map (·+1) else none
theorem chain_yes{l m:Int}{r:List (Int × Int)}{xs:List Int}(h:hexO l m xs=some 1):chain ((l,m)::r) xs=(chain r xs.tail).map (·+1):=by show (if _ then _ else _)=_; rw [if_pos h]
theorem chain_no{l m:Int}{r:List (Int × Int)}{xs:List Int}(h:¬ hexO l m xs=some 1):chain ((l,m)::r) xs=none:=by show (if _ then _ else _)=_; rw [if_neg h]
theorem hexO_none{l m:Int}{xs:List Int}(h:¬ hexO l m xs=some 1):hexO l m xs=none:=by
 unfold hexO at h ⊢
 by_cases c:hexv (xs.headD 0)<l∨m<hexv (xs.headD 0)
 ·rw [if_pos c]
 ·rw [if_neg c] at h
  exact absurd rfl h
def Did2(g:Nat)(s:ByteArray)(tw lo op:Bool)(p:Nat)(o:Option Nat)(half:Bool)(w:World)(e:Ending)(w':World):Prop:=
 (∃ k,o=some k∧e=.returned (.tuple #[.bool true,.bool half])∧R w' g s (p+k) tw lo 0 op∧w.grownBy w' (some g))∨
 (o=none∧e=.returned (.tuple #[.bool false,.bool false])∧Failed g s tw lo op p w'∧w.grownBy w' (some g))
theorem unit_loose(g:Nat)(s:ByteArray)(p:Nat)(tw op:Bool)(w:World)(hs:s.size≤140737488355328)(low:Bool)(h:R w g s p tw true 0 op):
  Calls Tryz.prog 145 #[.pointer (some ⟨g,0,none⟩),.bool low] w (Did2 g s tw true op p (chain [(0,15),(0,15),(0,15),(0,15)] ((bytes s).drop p)) false w):=by
 have HR:=Hq (And.intro h (World.grownBy.refl w (some g)))
 obtain ⟨_,_,_,c3,_,_,_,_,_⟩:=h.facts
 clear h
 by_cases h0:hexO 0 15 ((bytes s).drop (p))=some 1
 ·have D0:=Hq (fun w1 (h:R w1 g s (p) tw true 0 op)=>calls_yes (hex167 g s (p) tw true op 0 15 (by decide) w1 hs h) h0)
  have H0:=Hq h0
  clear h0
  by_cases h1:hexO 0 15 ((bytes s).drop (p+1))=some 1
  ·have D1:=Hq (fun w1 (h:R w1 g s (p+1) tw true 0 op)=>calls_yes (hex167 g s (p+1) tw true op 0 15 (by decide) w1 hs h) h1)
   have H1:=Hq h1
   clear h1
   by_cases h2:hexO 0 15 ((bytes s).drop (p+1+1))=some 1
   ·have D2:=Hq (fun w1 (h:R w1 g s (p+1+1) tw true 0 op)=>calls_yes (hex167 g s (p+1+1) tw true op 0 15 (by decide) w1 hs h) h2)
    have H2:=Hq h2
    clear h2
    by_cases h3:hexO 0 15 ((bytes s).drop (p+1+1+1))=some 1
    ·have D3:=Hq (fun w1 (h:R w1 g s (p+1+1+1) tw true 0 op)=>calls_yes (hex167 g s (p+1+1+1) tw true op 0 15 (by decide) w1 hs h) h3)
     have H3:=Hq h3
     clear h3
     have E:=Hq (show chain [(0,15),(0,15),(0,15),(0,15)] ((bytes s).drop p)=some 4 by rw [chain_yes H0.out,tail_drop1,chain_yes H1.out,tail_drop1,chain_yes H2.out,tail_drop1,chain_yes H3.out]<;>rfl)
     go_enter Tryz.func145,Tryz.ntmps145
     go_wp2_with fail
     have HR0:=Hq HR.out
     refine (D0.out _ HR0.out.1).mono ?_
     rintro e w0 ⟨rfl,hR,hg⟩
     have HR1:=Hq (And.intro hR (HR0.out.2.trans hg))
     clear hR hg
     go_wp2_with fail
     refine (D1.out _ HR1.out.1).mono ?_
     rintro e w1 ⟨rfl,hR,hg⟩
     have HR2:=Hq (And.intro hR (HR1.out.2.trans hg))
     clear hR hg
     go_wp2_with fail
     refine (D2.out _ HR2.out.1).mono ?_
     rintro e w2 ⟨rfl,hR,hg⟩
     have HR3:=Hq (And.intro hR (HR2.out.2.trans hg))
     clear hR hg
     go_wp2_with fail
     refine (D3.out _ HR3.out.1).mono ?_
     rintro e w3 ⟨rfl,hR,hg⟩
     have HR4:=Hq (And.intro hR (HR3.out.2.trans hg))
     clear hR hg
     go_wp2_with fail
     go_ret2
     exact .inl ⟨4,E.out,rfl,HR4.out.1,HR4.out.2⟩
    ·have D3:=Hq (fun w1 (h:R w1 g s (p+1+1+1) tw true 0 op)=>calls_no (hex167 g s (p+1+1+1) tw true op 0 15 (by decide) w1 hs h) (hexO_none h3))
     have H3:=Hq h3
     clear h3
     have E:=Hq (show chain [(0,15),(0,15),(0,15),(0,15)] ((bytes s).drop p)=none by rw [chain_yes H0.out,tail_drop1,chain_yes H1.out,tail_drop1,chain_yes H2.out,tail_drop1,chain_no H3.out]<;>rfl)
     go_enter Tryz.func145,Tryz.ntmps145
     go_wp2_with fail
     have HR0:=Hq HR.out
     refine (D0.out _ HR0.out.1).mono ?_
     rintro e w0 ⟨rfl,hR,hg⟩
     have HR1:=Hq (And.intro hR (HR0.out.2.trans hg))
     clear hR hg
     go_wp2_with fail
     refine (D1.out _ HR1.out.1).mono ?_
     rintro e w1 ⟨rfl,hR,hg⟩
     have HR2:=Hq (And.intro hR (HR1.out.2.trans hg))
     clear hR hg
     go_wp2_with fail
     refine (D2.out _ HR2.out.1).mono ?_
     rintro e w2 ⟨rfl,hR,hg⟩
     have HR3:=Hq (And.intro hR (HR2.out.2.trans hg))
     clear hR hg
     go_wp2_with fail
     refine (D3.out _ HR3.out.1).mono ?_
     rintro e w3 ⟨rfl,hR,hg⟩
     have HR4:=Hq (And.intro hR (HR3.out.2.trans hg))
     clear hR hg
     go_wp2_with fail
     go_ret2
     exact .inr ⟨E.out,rfl,HR4.out.1.mono (by omega),HR4.out.2⟩
   ·have D2:=Hq (fun w1 (h:R w1 g s (p+1+1) tw true 0 op)=>calls_no (hex167 g s (p+1+1) tw true op 0 15 (by decide) w1 hs h) (hexO_none h2))
    have H2:=Hq h2
    clear h2
    have E:=Hq (show chain [(0,15),(0,15),(0,15),(0,15)] ((bytes s).drop p)=none by rw [chain_yes H0.out,tail_drop1,chain_yes H1.out,tail_drop1,chain_no H2.out]<;>rfl)
    go_enter Tryz.func145,Tryz.ntmps145
    go_wp2_with fail
    have HR0:=Hq HR.out
    refine (D0.out _ HR0.out.1).mono ?_
    rintro e w0 ⟨rfl,hR,hg⟩
    have HR1:=Hq (And.intro hR (HR0.out.2.trans hg))
    clear hR hg
    go_wp2_with fail
    refine (D1.out _ HR1.out.1).mono ?_
    rintro e w1 ⟨rfl,hR,hg⟩
    have HR2:=Hq (And.intro hR (HR1.out.2.trans hg))
    clear hR hg
    go_wp2_with fail
    refine (D2.out _ HR2.out.1).mono ?_
    rintro e w2 ⟨rfl,hR,hg⟩
    have HR3:=Hq (And.intro hR (HR2.out.2.trans hg))
    clear hR hg
    go_wp2_with fail
    go_ret2
    exact .inr ⟨E.out,rfl,HR3.out.1.mono (by omega),HR3.out.2⟩
  ·have D1:=Hq (fun w1 (h:R w1 g s (p+1) tw true 0 op)=>calls_no (hex167 g s (p+1) tw true op 0 15 (by decide) w1 hs h) (hexO_none h1))
   have H1:=Hq h1
   clear h1
   have E:=Hq (show chain [(0,15),(0,15),(0,15),(0,15)] ((bytes s).drop p)=none by rw [chain_yes H0.out,tail_drop1,chain_no H1.out]<;>rfl)
   go_enter Tryz.func145,Tryz.ntmps145
   go_wp2_with fail
   have HR0:=Hq HR.out
   refine (D0.out _ HR0.out.1).mono ?_
   rintro e w0 ⟨rfl,hR,hg⟩
   have HR1:=Hq (And.intro hR (HR0.out.2.trans hg))
   clear hR hg
   go_wp2_with fail
   refine (D1.out _ HR1.out.1).mono ?_
   rintro e w1 ⟨rfl,hR,hg⟩
   have HR2:=Hq (And.intro hR (HR1.out.2.trans hg))
   clear hR hg
   go_wp2_with fail
   go_ret2
   exact .inr ⟨E.out,rfl,HR2.out.1.mono (by omega),HR2.out.2⟩
 ·have D0:=Hq (fun w1 (h:R w1 g s (p) tw true 0 op)=>calls_no (hex167 g s (p) tw true op 0 15 (by decide) w1 hs h) (hexO_none h0))
  have H0:=Hq h0
  clear h0
  have E:=Hq (show chain [(0,15),(0,15),(0,15),(0,15)] ((bytes s).drop p)=none by rw [chain_no H0.out]<;>rfl)
  go_enter Tryz.func145,Tryz.ntmps145
  go_wp2_with fail
  have HR0:=Hq HR.out
  refine (D0.out _ HR0.out.1).mono ?_
  rintro e w0 ⟨rfl,hR,hg⟩
  have HR1:=Hq (And.intro hR (HR0.out.2.trans hg))
  clear hR hg
  go_wp2_with fail
  go_ret2
  exact .inr ⟨E.out,rfl,HR1.out.1.mono (by omega),HR1.out.2⟩
theorem unit_low(g:Nat)(s:ByteArray)(p:Nat)(tw op:Bool)(w:World)(hs:s.size≤140737488355328)(h:R w g s p tw false 0 op):
  Calls Tryz.prog 145 #[.pointer (some ⟨g,0,none⟩),.bool true] w (Did2 g s tw false op p (chain [(13,13),(12,15),(0,15),(0,15)] ((bytes s).drop p)) false w):=by
 have HR:=Hq (And.intro h (World.grownBy.refl w (some g)))
 obtain ⟨_,_,_,c3,_,_,_,_,_⟩:=h.facts
 obtain ⟨c,HC⟩:∃ c,Hid (((bytes s).drop p).headD 0=c):=⟨_,Hq rfl⟩
 obtain ⟨c',HC'⟩:∃ c,Hid (((bytes s).drop (p+1)).headD 0=c):=⟨_,Hq rfl⟩
 have hc:=headD_byte s p
 have hc':=headD_byte s (p+1)
 rw [HC.out] at hc
 rw [HC'.out] at hc'
 obtain ⟨x,HX⟩:∃ x,Hid (hexv c=x):=⟨_,Hq rfl⟩
 obtain ⟨x',HX'⟩:∃ x,Hid (hexv c'=x):=⟨_,Hq rfl⟩
 have S0:=Hq (fun w h=>see_c g s p tw false 0 op c HC.out w h)
 have S1:=Hq (fun w h=>see_c g s (p+1) tw false 0 op c' HC'.out w h)
 have X0:=Hq (fun w=>hex168 c hc.1 hc.2 w)
 have X1:=Hq (fun w=>hex168 c' hc'.1 hc'.2 w)
 rw [HX.out] at X0
 rw [HX'.out] at X1
 clear hc hc'
 clear h
 by_cases h0:hexO 13 13 ((bytes s).drop (p))=some 1
 ·have D0:=Hq (fun w1 (h:R w1 g s (p) tw false 0 op)=>calls_yes (hex167 g s (p) tw false op 13 13 (by decide) w1 hs h) h0)
  have H0:=Hq h0
  clear h0
  by_cases h1:hexO 12 15 ((bytes s).drop (p+1))=some 1
  ·have D1:=Hq (fun w1 (h:R w1 g s (p+1) tw false 0 op)=>calls_yes (hex167 g s (p+1) tw false op 12 15 (by decide) w1 hs h) h1)
   have H1:=Hq h1
   clear h1
   by_cases h2:hexO 0 15 ((bytes s).drop (p+1+1))=some 1
   ·have D2:=Hq (fun w1 (h:R w1 g s (p+1+1) tw false 0 op)=>calls_yes (hex167 g s (p+1+1) tw false op 0 15 (by decide) w1 hs h) h2)
    have H2:=Hq h2
    clear h2
    by_cases h3:hexO 0 15 ((bytes s).drop (p+1+1+1))=some 1
    ·have D3:=Hq (fun w1 (h:R w1 g s (p+1+1+1) tw false 0 op)=>calls_yes (hex167 g s (p+1+1+1) tw false op 0 15 (by decide) w1 hs h) h3)
     have H3:=Hq h3
     clear h3
     have E:=Hq (show chain [(13,13),(12,15),(0,15),(0,15)] ((bytes s).drop p)=some 4 by rw [chain_yes H0.out,tail_drop1,chain_yes H1.out,tail_drop1,chain_yes H2.out,tail_drop1,chain_yes H3.out]<;>rfl)
     go_enter Tryz.func145,Tryz.ntmps145
     go_wp2_with fail
     refine (S0.out _ HR.out.1).mono ?_
     rintro e w' ⟨rfl,n,rfl⟩
     go_wp2_with fail
     refine (X0.out _).mono ?_
     rintro e w' ⟨rfl,rfl⟩
     have HR0:=Hq (And.intro (HR.out.1.drew n) (gb_drewN HR.out.2 n))
     go_wp2_with fail
     refine (D0.out _ HR0.out.1).mono ?_
     rintro e w0 ⟨rfl,hR,hg⟩
     have HR1:=Hq (And.intro hR (HR0.out.2.trans hg))
     clear hR hg
     go_wp2_with fail
     refine (S1.out _ HR1.out.1).mono ?_
     rintro e w' ⟨rfl,n1,rfl⟩
     go_wp2_with fail
     refine (X1.out _).mono ?_
     rintro e w' ⟨rfl,rfl⟩
     have HRS:=Hq (And.intro (HR1.out.1.drew n1) (gb_drewN HR1.out.2 n1))
     go_wp2_with fail
     refine (D1.out _ HRS.out.1).mono ?_
     rintro e w1 ⟨rfl,hR,hg⟩
     have HR2:=Hq (And.intro hR (HRS.out.2.trans hg))
     clear hR hg
     go_wp2_with fail
     refine (D2.out _ HR2.out.1).mono ?_
     rintro e w2 ⟨rfl,hR,hg⟩
     have HR3:=Hq (And.intro hR (HR2.out.2.trans hg))
     clear hR hg
     go_wp2_with fail
     refine (D3.out _ HR3.out.1).mono ?_
     rintro e w3 ⟨rfl,hR,hg⟩
     have HR4:=Hq (And.intro hR (HR3.out.2.trans hg))
     clear hR hg
     go_wp2_with fail
     go_ret2
     exact .inl ⟨4,E.out,rfl,HR4.out.1,HR4.out.2⟩
    ·have D3:=Hq (fun w1 (h:R w1 g s (p+1+1+1) tw false 0 op)=>calls_no (hex167 g s (p+1+1+1) tw false op 0 15 (by decide) w1 hs h) (hexO_none h3))
     have H3:=Hq h3
     clear h3
     have E:=Hq (show chain [(13,13),(12,15),(0,15),(0,15)] ((bytes s).drop p)=none by rw [chain_yes H0.out,tail_drop1,chain_yes H1.out,tail_drop1,chain_yes H2.out,tail_drop1,chain_no H3.out]<;>rfl)
     go_enter Tryz.func145,Tryz.ntmps145
     go_wp2_with fail
     refine (S0.out _ HR.out.1).mono ?_
     rintro e w' ⟨rfl,n,rfl⟩
     go_wp2_with fail
     refine (X0.out _).mono ?_
     rintro e w' ⟨rfl,rfl⟩
     have HR0:=Hq (And.intro (HR.out.1.drew n) (gb_drewN HR.out.2 n))
     go_wp2_with fail
     refine (D0.out _ HR0.out.1).mono ?_
     rintro e w0 ⟨rfl,hR,hg⟩
     have HR1:=Hq (And.intro hR (HR0.out.2.trans hg))
     clear hR hg
     go_wp2_with fail
     refine (S1.out _ HR1.out.1).mono ?_
     rintro e w' ⟨rfl,n1,rfl⟩
     go_wp2_with fail
     refine (X1.out _).mono ?_
     rintro e w' ⟨rfl,rfl⟩
     have HRS:=Hq (And.intro (HR1.out.1.drew n1) (gb_drewN HR1.out.2 n1))
     go_wp2_with fail
     refine (D1.out _ HRS.out.1).mono ?_
     rintro e w1 ⟨rfl,hR,hg⟩
     have HR2:=Hq (And.intro hR (HRS.out.2.trans hg))
     clear hR hg
     go_wp2_with fail
     refine (D2.out _ HR2.out.1).mono ?_
     rintro e w2 ⟨rfl,hR,hg⟩
     have HR3:=Hq (And.intro hR (HR2.out.2.trans hg))
     clear hR hg
     go_wp2_with fail
     refine (D3.out _ HR3.out.1).mono ?_
     rintro e w3 ⟨rfl,hR,hg⟩
     have HR4:=Hq (And.intro hR (HR3.out.2.trans hg))
     clear hR hg
     go_wp2_with fail
     go_ret2
     exact .inr ⟨E.out,rfl,HR4.out.1.mono (by omega),HR4.out.2⟩
   ·have D2:=Hq (fun w1 (h:R w1 g s (p+1+1) tw false 0 op)=>calls_no (hex167 g s (p+1+1) tw false op 0 15 (by decide) w1 hs h) (hexO_none h2))
    have H2:=Hq h2
    clear h2
    have E:=Hq (show chain [(13,13),(12,15),(0,15),(0,15)] ((bytes s).drop p)=none by rw [chain_yes H0.out,tail_drop1,chain_yes H1.out,tail_drop1,chain_no H2.out]<;>rfl)
    go_enter Tryz.func145,Tryz.ntmps145
    go_wp2_with fail
    refine (S0.out _ HR.out.1).mono ?_
    rintro e w' ⟨rfl,n,rfl⟩
    go_wp2_with fail
    refine (X0.out _).mono ?_
    rintro e w' ⟨rfl,rfl⟩
    have HR0:=Hq (And.intro (HR.out.1.drew n) (gb_drewN HR.out.2 n))
    go_wp2_with fail
    refine (D0.out _ HR0.out.1).mono ?_
    rintro e w0 ⟨rfl,hR,hg⟩
    have HR1:=Hq (And.intro hR (HR0.out.2.trans hg))
    clear hR hg
    go_wp2_with fail
    refine (S1.out _ HR1.out.1).mono ?_
    rintro e w' ⟨rfl,n1,rfl⟩
    go_wp2_with fail
    refine (X1.out _).mono ?_
    rintro e w' ⟨rfl,rfl⟩
    have HRS:=Hq (And.intro (HR1.out.1.drew n1) (gb_drewN HR1.out.2 n1))
    go_wp2_with fail
    refine (D1.out _ HRS.out.1).mono ?_
    rintro e w1 ⟨rfl,hR,hg⟩
    have HR2:=Hq (And.intro hR (HRS.out.2.trans hg))
    clear hR hg
    go_wp2_with fail
    refine (D2.out _ HR2.out.1).mono ?_
    rintro e w2 ⟨rfl,hR,hg⟩
    have HR3:=Hq (And.intro hR (HR2.out.2.trans hg))
    clear hR hg
    go_wp2_with fail
    go_ret2
    exact .inr ⟨E.out,rfl,HR3.out.1.mono (by omega),HR3.out.2⟩
  ·have D1:=Hq (fun w1 (h:R w1 g s (p+1) tw false 0 op)=>calls_no (hex167 g s (p+1) tw false op 12 15 (by decide) w1 hs h) (hexO_none h1))
   have H1:=Hq h1
   clear h1
   have E:=Hq (show chain [(13,13),(12,15),(0,15),(0,15)] ((bytes s).drop p)=none by rw [chain_yes H0.out,tail_drop1,chain_no H1.out]<;>rfl)
   go_enter Tryz.func145,Tryz.ntmps145
   go_wp2_with fail
   refine (S0.out _ HR.out.1).mono ?_
   rintro e w' ⟨rfl,n,rfl⟩
   go_wp2_with fail
   refine (X0.out _).mono ?_
   rintro e w' ⟨rfl,rfl⟩
   have HR0:=Hq (And.intro (HR.out.1.drew n) (gb_drewN HR.out.2 n))
   go_wp2_with fail
   refine (D0.out _ HR0.out.1).mono ?_
   rintro e w0 ⟨rfl,hR,hg⟩
   have HR1:=Hq (And.intro hR (HR0.out.2.trans hg))
   clear hR hg
   go_wp2_with fail
   refine (S1.out _ HR1.out.1).mono ?_
   rintro e w' ⟨rfl,n1,rfl⟩
   go_wp2_with fail
   refine (X1.out _).mono ?_
   rintro e w' ⟨rfl,rfl⟩
   have HRS:=Hq (And.intro (HR1.out.1.drew n1) (gb_drewN HR1.out.2 n1))
   go_wp2_with fail
   refine (D1.out _ HRS.out.1).mono ?_
   rintro e w1 ⟨rfl,hR,hg⟩
   have HR2:=Hq (And.intro hR (HRS.out.2.trans hg))
   clear hR hg
   go_wp2_with fail
   go_ret2
   exact .inr ⟨E.out,rfl,HR2.out.1.mono (by omega),HR2.out.2⟩
 ·have D0:=Hq (fun w1 (h:R w1 g s (p) tw false 0 op)=>calls_no (hex167 g s (p) tw false op 13 13 (by decide) w1 hs h) (hexO_none h0))
  have H0:=Hq h0
  clear h0
  have E:=Hq (show chain [(13,13),(12,15),(0,15),(0,15)] ((bytes s).drop p)=none by rw [chain_no H0.out]<;>rfl)
  go_enter Tryz.func145,Tryz.ntmps145
  go_wp2_with fail
  refine (S0.out _ HR.out.1).mono ?_
  rintro e w' ⟨rfl,n,rfl⟩
  go_wp2_with fail
  refine (X0.out _).mono ?_
  rintro e w' ⟨rfl,rfl⟩
  have HR0:=Hq (And.intro (HR.out.1.drew n) (gb_drewN HR.out.2 n))
  go_wp2_with fail
  refine (D0.out _ HR0.out.1).mono ?_
  rintro e w0 ⟨rfl,hR,hg⟩
  have HR1:=Hq (And.intro hR (HR0.out.2.trans hg))
  clear hR hg
  go_wp2_with fail
  go_ret2
  exact .inr ⟨E.out,rfl,HR1.out.1.mono (by omega),HR1.out.2⟩
theorem unit_13(g:Nat)(s:ByteArray)(p:Nat)(tw op:Bool)(w:World)(hs:s.size≤140737488355328)(hf:hexv (((bytes s).drop p).headD 0)=13)(h:R w g s p tw false 0 op):
  Calls Tryz.prog 145 #[.pointer (some ⟨g,0,none⟩),.bool false] w (Did2 g s tw false op p (chain [(0,15),(0,11),(0,15),(0,15)] ((bytes s).drop p)) (decide (8≤hexv (((bytes s).drop (p+1)).headD 0))) w):=by
 have HR:=Hq (And.intro h (World.grownBy.refl w (some g)))
 obtain ⟨_,_,_,c3,_,_,_,_,_⟩:=h.facts
 obtain ⟨c,HC⟩:∃ c,Hid (((bytes s).drop p).headD 0=c):=⟨_,Hq rfl⟩
 obtain ⟨c',HC'⟩:∃ c,Hid (((bytes s).drop (p+1)).headD 0=c):=⟨_,Hq rfl⟩
 have hc:=headD_byte s p
 have hc':=headD_byte s (p+1)
 rw [HC.out] at hc
 rw [HC'.out] at hc'
 obtain ⟨x,HX⟩:∃ x,Hid (hexv c=x):=⟨_,Hq rfl⟩
 obtain ⟨x',HX'⟩:∃ x,Hid (hexv c'=x):=⟨_,Hq rfl⟩
 have S0:=Hq (fun w h=>see_c g s p tw false 0 op c HC.out w h)
 have S1:=Hq (fun w h=>see_c g s (p+1) tw false 0 op c' HC'.out w h)
 have X0:=Hq (fun w=>hex168 c hc.1 hc.2 w)
 have X1:=Hq (fun w=>hex168 c' hc'.1 hc'.2 w)
 rw [HX.out] at X0
 rw [HX'.out] at X1
 have hf':=hf
 rw [HC.out,HX.out] at hf'
 rw [HC'.out,HX'.out]
 have t13:(x==13)=true:=by simpa using hf'
 clear hc hc' hf hf'
 clear h
 by_cases h0:hexO 0 15 ((bytes s).drop (p))=some 1
 ·have D0:=Hq (fun w1 (h:R w1 g s (p) tw false 0 op)=>calls_yes (hex167 g s (p) tw false op 0 15 (by decide) w1 hs h) h0)
  have H0:=Hq h0
  clear h0
  by_cases h1:hexO 0 11 ((bytes s).drop (p+1))=some 1
  ·have D1:=Hq (fun w1 (h:R w1 g s (p+1) tw false 0 op)=>calls_yes (hex167 g s (p+1) tw false op 0 11 (by decide) w1 hs h) h1)
   have H1:=Hq h1
   clear h1
   by_cases h2:hexO 0 15 ((bytes s).drop (p+1+1))=some 1
   ·have D2:=Hq (fun w1 (h:R w1 g s (p+1+1) tw false 0 op)=>calls_yes (hex167 g s (p+1+1) tw false op 0 15 (by decide) w1 hs h) h2)
    have H2:=Hq h2
    clear h2
    by_cases h3:hexO 0 15 ((bytes s).drop (p+1+1+1))=some 1
    ·have D3:=Hq (fun w1 (h:R w1 g s (p+1+1+1) tw false 0 op)=>calls_yes (hex167 g s (p+1+1+1) tw false op 0 15 (by decide) w1 hs h) h3)
     have H3:=Hq h3
     clear h3
     have E:=Hq (show chain [(0,15),(0,11),(0,15),(0,15)] ((bytes s).drop p)=some 4 by rw [chain_yes H0.out,tail_drop1,chain_yes H1.out,tail_drop1,chain_yes H2.out,tail_drop1,chain_yes H3.out]<;>rfl)
     go_enter Tryz.func145,Tryz.ntmps145
     go_wp2_with fail
     refine (S0.out _ HR.out.1).mono ?_
     rintro e w' ⟨rfl,n,rfl⟩
     go_wp2_with fail
     refine (X0.out _).mono ?_
     rintro e w' ⟨rfl,rfl⟩
     have HR0:=Hq (And.intro (HR.out.1.drew n) (gb_drewN HR.out.2 n))
     go_wp2_with fail
     refine (D0.out _ HR0.out.1).mono ?_
     rintro e w0 ⟨rfl,hR,hg⟩
     have HR1:=Hq (And.intro hR (HR0.out.2.trans hg))
     clear hR hg
     go_wp2_with fail
     refine (S1.out _ HR1.out.1).mono ?_
     rintro e w' ⟨rfl,n1,rfl⟩
     go_wp2_with fail
     refine (X1.out _).mono ?_
     rintro e w' ⟨rfl,rfl⟩
     have HRS:=Hq (And.intro (HR1.out.1.drew n1) (gb_drewN HR1.out.2 n1))
     go_wp2_with fail
     refine (D1.out _ HRS.out.1).mono ?_
     rintro e w1 ⟨rfl,hR,hg⟩
     have HR2:=Hq (And.intro hR (HRS.out.2.trans hg))
     clear hR hg
     go_wp2_with fail
     refine (D2.out _ HR2.out.1).mono ?_
     rintro e w2 ⟨rfl,hR,hg⟩
     have HR3:=Hq (And.intro hR (HR2.out.2.trans hg))
     clear hR hg
     go_wp2_with fail
     refine (D3.out _ HR3.out.1).mono ?_
     rintro e w3 ⟨rfl,hR,hg⟩
     have HR4:=Hq (And.intro hR (HR3.out.2.trans hg))
     clear hR hg
     go_wp2_with fail
     go_ret2
     exact .inl ⟨4,E.out,rfl,HR4.out.1,HR4.out.2⟩
    ·have D3:=Hq (fun w1 (h:R w1 g s (p+1+1+1) tw false 0 op)=>calls_no (hex167 g s (p+1+1+1) tw false op 0 15 (by decide) w1 hs h) (hexO_none h3))
     have H3:=Hq h3
     clear h3
     have E:=Hq (show chain [(0,15),(0,11),(0,15),(0,15)] ((bytes s).drop p)=none by rw [chain_yes H0.out,tail_drop1,chain_yes H1.out,tail_drop1,chain_yes H2.out,tail_drop1,chain_no H3.out]<;>rfl)
     go_enter Tryz.func145,Tryz.ntmps145
     go_wp2_with fail
     refine (S0.out _ HR.out.1).mono ?_
     rintro e w' ⟨rfl,n,rfl⟩
     go_wp2_with fail
     refine (X0.out _).mono ?_
     rintro e w' ⟨rfl,rfl⟩
     have HR0:=Hq (And.intro (HR.out.1.drew n) (gb_drewN HR.out.2 n))
     go_wp2_with fail
     refine (D0.out _ HR0.out.1).mono ?_
     rintro e w0 ⟨rfl,hR,hg⟩
     have HR1:=Hq (And.intro hR (HR0.out.2.trans hg))
     clear hR hg
     go_wp2_with fail
     refine (S1.out _ HR1.out.1).mono ?_
     rintro e w' ⟨rfl,n1,rfl⟩
     go_wp2_with fail
     refine (X1.out _).mono ?_
     rintro e w' ⟨rfl,rfl⟩
     have HRS:=Hq (And.intro (HR1.out.1.drew n1) (gb_drewN HR1.out.2 n1))
     go_wp2_with fail
     refine (D1.out _ HRS.out.1).mono ?_
     rintro e w1 ⟨rfl,hR,hg⟩
     have HR2:=Hq (And.intro hR (HRS.out.2.trans hg))
     clear hR hg
     go_wp2_with fail
     refine (D2.out _ HR2.out.1).mono ?_
     rintro e w2 ⟨rfl,hR,hg⟩
     have HR3:=Hq (And.intro hR (HR2.out.2.trans hg))
     clear hR hg
     go_wp2_with fail
     refine (D3.out _ HR3.out.1).mono ?_
     rintro e w3 ⟨rfl,hR,hg⟩
     have HR4:=Hq (And.intro hR (HR3.out.2.trans hg))
     clear hR hg
     go_wp2_with fail
     go_ret2
     exact .inr ⟨E.out,rfl,HR4.out.1.mono (by omega),HR4.out.2⟩
   ·have D2:=Hq (fun w1 (h:R w1 g s (p+1+1) tw false 0 op)=>calls_no (hex167 g s (p+1+1) tw false op 0 15 (by decide) w1 hs h) (hexO_none h2))
    have H2:=Hq h2
    clear h2
    have E:=Hq (show chain [(0,15),(0,11),(0,15),(0,15)] ((bytes s).drop p)=none by rw [chain_yes H0.out,tail_drop1,chain_yes H1.out,tail_drop1,chain_no H2.out]<;>rfl)
    go_enter Tryz.func145,Tryz.ntmps145
    go_wp2_with fail
    refine (S0.out _ HR.out.1).mono ?_
    rintro e w' ⟨rfl,n,rfl⟩
    go_wp2_with fail
    refine (X0.out _).mono ?_
    rintro e w' ⟨rfl,rfl⟩
    have HR0:=Hq (And.intro (HR.out.1.drew n) (gb_drewN HR.out.2 n))
    go_wp2_with fail
    refine (D0.out _ HR0.out.1).mono ?_
    rintro e w0 ⟨rfl,hR,hg⟩
    have HR1:=Hq (And.intro hR (HR0.out.2.trans hg))
    clear hR hg
    go_wp2_with fail
    refine (S1.out _ HR1.out.1).mono ?_
    rintro e w' ⟨rfl,n1,rfl⟩
    go_wp2_with fail
    refine (X1.out _).mono ?_
    rintro e w' ⟨rfl,rfl⟩
    have HRS:=Hq (And.intro (HR1.out.1.drew n1) (gb_drewN HR1.out.2 n1))
    go_wp2_with fail
    refine (D1.out _ HRS.out.1).mono ?_
    rintro e w1 ⟨rfl,hR,hg⟩
    have HR2:=Hq (And.intro hR (HRS.out.2.trans hg))
    clear hR hg
    go_wp2_with fail
    refine (D2.out _ HR2.out.1).mono ?_
    rintro e w2 ⟨rfl,hR,hg⟩
    have HR3:=Hq (And.intro hR (HR2.out.2.trans hg))
    clear hR hg
    go_wp2_with fail
    go_ret2
    exact .inr ⟨E.out,rfl,HR3.out.1.mono (by omega),HR3.out.2⟩
  ·have D1:=Hq (fun w1 (h:R w1 g s (p+1) tw false 0 op)=>calls_no (hex167 g s (p+1) tw false op 0 11 (by decide) w1 hs h) (hexO_none h1))
   have H1:=Hq h1
   clear h1
   have E:=Hq (show chain [(0,15),(0,11),(0,15),(0,15)] ((bytes s).drop p)=none by rw [chain_yes H0.out,tail_drop1,chain_no H1.out]<;>rfl)
   go_enter Tryz.func145,Tryz.ntmps145
   go_wp2_with fail
   refine (S0.out _ HR.out.1).mono ?_
   rintro e w' ⟨rfl,n,rfl⟩
   go_wp2_with fail
   refine (X0.out _).mono ?_
   rintro e w' ⟨rfl,rfl⟩
   have HR0:=Hq (And.intro (HR.out.1.drew n) (gb_drewN HR.out.2 n))
   go_wp2_with fail
   refine (D0.out _ HR0.out.1).mono ?_
   rintro e w0 ⟨rfl,hR,hg⟩
   have HR1:=Hq (And.intro hR (HR0.out.2.trans hg))
   clear hR hg
   go_wp2_with fail
   refine (S1.out _ HR1.out.1).mono ?_
   rintro e w' ⟨rfl,n1,rfl⟩
   go_wp2_with fail
   refine (X1.out _).mono ?_
   rintro e w' ⟨rfl,rfl⟩
   have HRS:=Hq (And.intro (HR1.out.1.drew n1) (gb_drewN HR1.out.2 n1))
   go_wp2_with fail
   refine (D1.out _ HRS.out.1).mono ?_
   rintro e w1 ⟨rfl,hR,hg⟩
   have HR2:=Hq (And.intro hR (HRS.out.2.trans hg))
   clear hR hg
   go_wp2_with fail
   go_ret2
   exact .inr ⟨E.out,rfl,HR2.out.1.mono (by omega),HR2.out.2⟩
 ·have D0:=Hq (fun w1 (h:R w1 g s (p) tw false 0 op)=>calls_no (hex167 g s (p) tw false op 0 15 (by decide) w1 hs h) (hexO_none h0))
  have H0:=Hq h0
  clear h0
  have E:=Hq (show chain [(0,15),(0,11),(0,15),(0,15)] ((bytes s).drop p)=none by rw [chain_no H0.out]<;>rfl)
  go_enter Tryz.func145,Tryz.ntmps145
  go_wp2_with fail
  refine (S0.out _ HR.out.1).mono ?_
  rintro e w' ⟨rfl,n,rfl⟩
  go_wp2_with fail
  refine (X0.out _).mono ?_
  rintro e w' ⟨rfl,rfl⟩
  have HR0:=Hq (And.intro (HR.out.1.drew n) (gb_drewN HR.out.2 n))
  go_wp2_with fail
  refine (D0.out _ HR0.out.1).mono ?_
  rintro e w0 ⟨rfl,hR,hg⟩
  have HR1:=Hq (And.intro hR (HR0.out.2.trans hg))
  clear hR hg
  go_wp2_with fail
  go_ret2
  exact .inr ⟨E.out,rfl,HR1.out.1.mono (by omega),HR1.out.2⟩
theorem unit_other(g:Nat)(s:ByteArray)(p:Nat)(tw op:Bool)(w:World)(hs:s.size≤140737488355328)(hf:¬ hexv (((bytes s).drop p).headD 0)=13)(h:R w g s p tw false 0 op):
  Calls Tryz.prog 145 #[.pointer (some ⟨g,0,none⟩),.bool false] w (Did2 g s tw false op p (chain [(0,15),(0,15),(0,15),(0,15)] ((bytes s).drop p)) false w):=by
 have HR:=Hq (And.intro h (World.grownBy.refl w (some g)))
 obtain ⟨_,_,_,c3,_,_,_,_,_⟩:=h.facts
 obtain ⟨c,HC⟩:∃ c,Hid (((bytes s).drop p).headD 0=c):=⟨_,Hq rfl⟩
 obtain ⟨c',HC'⟩:∃ c,Hid (((bytes s).drop (p+1)).headD 0=c):=⟨_,Hq rfl⟩
 have hc:=headD_byte s p
 have hc':=headD_byte s (p+1)
 rw [HC.out] at hc
 rw [HC'.out] at hc'
 obtain ⟨x,HX⟩:∃ x,Hid (hexv c=x):=⟨_,Hq rfl⟩
 obtain ⟨x',HX'⟩:∃ x,Hid (hexv c'=x):=⟨_,Hq rfl⟩
 have S0:=Hq (fun w h=>see_c g s p tw false 0 op c HC.out w h)
 have S1:=Hq (fun w h=>see_c g s (p+1) tw false 0 op c' HC'.out w h)
 have X0:=Hq (fun w=>hex168 c hc.1 hc.2 w)
 have X1:=Hq (fun w=>hex168 c' hc'.1 hc'.2 w)
 rw [HX.out] at X0
 rw [HX'.out] at X1
 have hf':=hf
 rw [HC.out,HX.out] at hf'
 have t13:(x==13)=false:=by simpa using hf'
 clear hc hc' hf hf'
 clear h
 by_cases h0:hexO 0 15 ((bytes s).drop (p))=some 1
 ·have D0:=Hq (fun w1 (h:R w1 g s (p) tw false 0 op)=>calls_yes (hex167 g s (p) tw false op 0 15 (by decide) w1 hs h) h0)
  have H0:=Hq h0
  clear h0
  by_cases h1:hexO 0 15 ((bytes s).drop (p+1))=some 1
  ·have D1:=Hq (fun w1 (h:R w1 g s (p+1) tw false 0 op)=>calls_yes (hex167 g s (p+1) tw false op 0 15 (by decide) w1 hs h) h1)
   have H1:=Hq h1
   clear h1
   by_cases h2:hexO 0 15 ((bytes s).drop (p+1+1))=some 1
   ·have D2:=Hq (fun w1 (h:R w1 g s (p+1+1) tw false 0 op)=>calls_yes (hex167 g s (p+1+1) tw false op 0 15 (by decide) w1 hs h) h2)
    have H2:=Hq h2
    clear h2
    by_cases h3:hexO 0 15 ((bytes s).drop (p+1+1+1))=some 1
    ·have D3:=Hq (fun w1 (h:R w1 g s (p+1+1+1) tw false 0 op)=>calls_yes (hex167 g s (p+1+1+1) tw false op 0 15 (by decide) w1 hs h) h3)
     have H3:=Hq h3
     clear h3
     have E:=Hq (show chain [(0,15),(0,15),(0,15),(0,15)] ((bytes s).drop p)=some 4 by rw [chain_yes H0.out,tail_drop1,chain_yes H1.out,tail_drop1,chain_yes H2.out,tail_drop1,chain_yes H3.out]<;>rfl)
     go_enter Tryz.func145,Tryz.ntmps145
     go_wp2_with fail
     refine (S0.out _ HR.out.1).mono ?_
     rintro e w' ⟨rfl,n,rfl⟩
     go_wp2_with fail
     refine (X0.out _).mono ?_
     rintro e w' ⟨rfl,rfl⟩
     have HR0:=Hq (And.intro (HR.out.1.drew n) (gb_drewN HR.out.2 n))
     go_wp2_with fail
     refine (D0.out _ HR0.out.1).mono ?_
     rintro e w0 ⟨rfl,hR,hg⟩
     have HR1:=Hq (And.intro hR (HR0.out.2.trans hg))
     clear hR hg
     go_wp2_with fail
     refine (S1.out _ HR1.out.1).mono ?_
     rintro e w' ⟨rfl,n1,rfl⟩
     go_wp2_with fail
     refine (X1.out _).mono ?_
     rintro e w' ⟨rfl,rfl⟩
     have HRS:=Hq (And.intro (HR1.out.1.drew n1) (gb_drewN HR1.out.2 n1))
     go_wp2_with fail
     refine (D1.out _ HRS.out.1).mono ?_
     rintro e w1 ⟨rfl,hR,hg⟩
     have HR2:=Hq (And.intro hR (HRS.out.2.trans hg))
     clear hR hg
     go_wp2_with fail
     refine (D2.out _ HR2.out.1).mono ?_
     rintro e w2 ⟨rfl,hR,hg⟩
     have HR3:=Hq (And.intro hR (HR2.out.2.trans hg))
     clear hR hg
     go_wp2_with fail
     refine (D3.out _ HR3.out.1).mono ?_
     rintro e w3 ⟨rfl,hR,hg⟩
     have HR4:=Hq (And.intro hR (HR3.out.2.trans hg))
     clear hR hg
     go_wp2_with fail
     go_ret2
     exact .inl ⟨4,E.out,rfl,HR4.out.1,HR4.out.2⟩
    ·have D3:=Hq (fun w1 (h:R w1 g s (p+1+1+1) tw false 0 op)=>calls_no (hex167 g s (p+1+1+1) tw false op 0 15 (by decide) w1 hs h) (hexO_none h3))
     have H3:=Hq h3
     clear h3
     have E:=Hq (show chain [(0,15),(0,15),(0,15),(0,15)] ((bytes s).drop p)=none by rw [chain_yes H0.out,tail_drop1,chain_yes H1.out,tail_drop1,chain_yes H2.out,tail_drop1,chain_no H3.out]<;>rfl)
     go_enter Tryz.func145,Tryz.ntmps145
     go_wp2_with fail
     refine (S0.out _ HR.out.1).mono ?_
     rintro e w' ⟨rfl,n,rfl⟩
     go_wp2_with fail
     refine (X0.out _).mono ?_
     rintro e w' ⟨rfl,rfl⟩
     have HR0:=Hq (And.intro (HR.out.1.drew n) (gb_drewN HR.out.2 n))
     go_wp2_with fail
     refine (D0.out _ HR0.out.1).mono ?_
     rintro e w0 ⟨rfl,hR,hg⟩
     have HR1:=Hq (And.intro hR (HR0.out.2.trans hg))
     clear hR hg
     go_wp2_with fail
     refine (S1.out _ HR1.out.1).mono ?_
     rintro e w' ⟨rfl,n1,rfl⟩
     go_wp2_with fail
     refine (X1.out _).mono ?_
     rintro e w' ⟨rfl,rfl⟩
     have HRS:=Hq (And.intro (HR1.out.1.drew n1) (gb_drewN HR1.out.2 n1))
     go_wp2_with fail
     refine (D1.out _ HRS.out.1).mono ?_
     rintro e w1 ⟨rfl,hR,hg⟩
     have HR2:=Hq (And.intro hR (HRS.out.2.trans hg))
     clear hR hg
     go_wp2_with fail
     refine (D2.out _ HR2.out.1).mono ?_
     rintro e w2 ⟨rfl,hR,hg⟩
     have HR3:=Hq (And.intro hR (HR2.out.2.trans hg))
     clear hR hg
     go_wp2_with fail
     refine (D3.out _ HR3.out.1).mono ?_
     rintro e w3 ⟨rfl,hR,hg⟩
     have HR4:=Hq (And.intro hR (HR3.out.2.trans hg))
     clear hR hg
     go_wp2_with fail
     go_ret2
     exact .inr ⟨E.out,rfl,HR4.out.1.mono (by omega),HR4.out.2⟩
   ·have D2:=Hq (fun w1 (h:R w1 g s (p+1+1) tw false 0 op)=>calls_no (hex167 g s (p+1+1) tw false op 0 15 (by decide) w1 hs h) (hexO_none h2))
    have H2:=Hq h2
    clear h2
    have E:=Hq (show chain [(0,15),(0,15),(0,15),(0,15)] ((bytes s).drop p)=none by rw [chain_yes H0.out,tail_drop1,chain_yes H1.out,tail_drop1,chain_no H2.out]<;>rfl)
    go_enter Tryz.func145,Tryz.ntmps145
    go_wp2_with fail
    refine (S0.out _ HR.out.1).mono ?_
    rintro e w' ⟨rfl,n,rfl⟩
    go_wp2_with fail
    refine (X0.out _).mono ?_
    rintro e w' ⟨rfl,rfl⟩
    have HR0:=Hq (And.intro (HR.out.1.drew n) (gb_drewN HR.out.2 n))
    go_wp2_with fail
    refine (D0.out _ HR0.out.1).mono ?_
    rintro e w0 ⟨rfl,hR,hg⟩
    have HR1:=Hq (And.intro hR (HR0.out.2.trans hg))
    clear hR hg
    go_wp2_with fail
    refine (S1.out _ HR1.out.1).mono ?_
    rintro e w' ⟨rfl,n1,rfl⟩
    go_wp2_with fail
    refine (X1.out _).mono ?_
    rintro e w' ⟨rfl,rfl⟩
    have HRS:=Hq (And.intro (HR1.out.1.drew n1) (gb_drewN HR1.out.2 n1))
    go_wp2_with fail
    refine (D1.out _ HRS.out.1).mono ?_
    rintro e w1 ⟨rfl,hR,hg⟩
    have HR2:=Hq (And.intro hR (HRS.out.2.trans hg))
    clear hR hg
    go_wp2_with fail
    refine (D2.out _ HR2.out.1).mono ?_
    rintro e w2 ⟨rfl,hR,hg⟩
    have HR3:=Hq (And.intro hR (HR2.out.2.trans hg))
    clear hR hg
    go_wp2_with fail
    go_ret2
    exact .inr ⟨E.out,rfl,HR3.out.1.mono (by omega),HR3.out.2⟩
  ·have D1:=Hq (fun w1 (h:R w1 g s (p+1) tw false 0 op)=>calls_no (hex167 g s (p+1) tw false op 0 15 (by decide) w1 hs h) (hexO_none h1))
   have H1:=Hq h1
   clear h1
   have E:=Hq (show chain [(0,15),(0,15),(0,15),(0,15)] ((bytes s).drop p)=none by rw [chain_yes H0.out,tail_drop1,chain_no H1.out]<;>rfl)
   go_enter Tryz.func145,Tryz.ntmps145
   go_wp2_with fail
   refine (S0.out _ HR.out.1).mono ?_
   rintro e w' ⟨rfl,n,rfl⟩
   go_wp2_with fail
   refine (X0.out _).mono ?_
   rintro e w' ⟨rfl,rfl⟩
   have HR0:=Hq (And.intro (HR.out.1.drew n) (gb_drewN HR.out.2 n))
   go_wp2_with fail
   refine (D0.out _ HR0.out.1).mono ?_
   rintro e w0 ⟨rfl,hR,hg⟩
   have HR1:=Hq (And.intro hR (HR0.out.2.trans hg))
   clear hR hg
   go_wp2_with fail
   refine (S1.out _ HR1.out.1).mono ?_
   rintro e w' ⟨rfl,n1,rfl⟩
   go_wp2_with fail
   refine (X1.out _).mono ?_
   rintro e w' ⟨rfl,rfl⟩
   have HRS:=Hq (And.intro (HR1.out.1.drew n1) (gb_drewN HR1.out.2 n1))
   go_wp2_with fail
   refine (D1.out _ HRS.out.1).mono ?_
   rintro e w1 ⟨rfl,hR,hg⟩
   have HR2:=Hq (And.intro hR (HRS.out.2.trans hg))
   clear hR hg
   go_wp2_with fail
   go_ret2
   exact .inr ⟨E.out,rfl,HR2.out.1.mono (by omega),HR2.out.2⟩
 ·have D0:=Hq (fun w1 (h:R w1 g s (p) tw false 0 op)=>calls_no (hex167 g s (p) tw false op 0 15 (by decide) w1 hs h) (hexO_none h0))
  have H0:=Hq h0
  clear h0
  have E:=Hq (show chain [(0,15),(0,15),(0,15),(0,15)] ((bytes s).drop p)=none by rw [chain_no H0.out]<;>rfl)
  go_enter Tryz.func145,Tryz.ntmps145
  go_wp2_with fail
  refine (S0.out _ HR.out.1).mono ?_
  rintro e w' ⟨rfl,n,rfl⟩
  go_wp2_with fail
  refine (X0.out _).mono ?_
  rintro e w' ⟨rfl,rfl⟩
  have HR0:=Hq (And.intro (HR.out.1.drew n) (gb_drewN HR.out.2 n))
  go_wp2_with fail
  refine (D0.out _ HR0.out.1).mono ?_
  rintro e w0 ⟨rfl,hR,hg⟩
  have HR1:=Hq (And.intro hR (HR0.out.2.trans hg))
  clear hR hg
  go_wp2_with fail
  go_ret2
  exact .inr ⟨E.out,rfl,HR1.out.1.mono (by omega),HR1.out.2⟩
end Go.Proofs.YtknaalohaagcdaaGreatDoor.Own
