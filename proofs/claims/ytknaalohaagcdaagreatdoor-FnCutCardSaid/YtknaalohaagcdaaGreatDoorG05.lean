import Derived.Test.YtknaalohaagcdaaGreatDoorG01
import Derived.Test.YtknaalohaagcdaaGreatDoorG04
set_option maxHeartbeats 400000000
set_option maxRecDepth 100000
namespace Go.Proofs.YtknaalohaagcdaaGreatDoor.Own
open Go.RowKit JG
def chainN:List (Int × Int)→List Int→Option Nat
 |[],_=>some 0
 |(l,m)::r,xs=>if needs l m xs=some 1 then (chainN r xs.tail).map (·+1) else none
theorem chainN_yes{l m:Int}{r:List (Int × Int)}{xs:List Int}(h:needs l m xs=some 1):chainN ((l,m)::r) xs=(chainN r xs.tail).map (·+1):=by show (if _ then _ else _)=_; rw [if_pos h]
theorem chainN_no{l m:Int}{r:List (Int × Int)}{xs:List Int}(h:¬ needs l m xs=some 1):chainN ((l,m)::r) xs=none:=by show (if _ then _ else _)=_; rw [if_neg h]
theorem rune2(g:Nat)(s:ByteArray)(p:Nat)(tw lo op:Bool)(w:World)(hs:s.size≤140737488355328)(h:R w g s p tw lo 0 op)(c:Int)(hc:((bytes s).drop p).headD 0=c)(h1:194≤c)(h2:c≤223):
  Calls Tryz.prog 112 #[.pointer (some ⟨g,0,none⟩)] w (Did g s tw lo op p ((chainN [(128,191)] ((bytes s).drop (p+1))).map (·+1)) w):=by
 have hlt:p<s.size:=headD_lt hc (by omega)
 have S:=Hq (see_c g s p tw lo 0 op c hc w h)
 have H:=Hq (fun n=>h.drew n)
 have HS:=Hq (fun n=>And.intro ((h.drew n).setAt (p+1) (by omega)) (gb_set (gb_drewN (World.grownBy.refl w (some g)) n) 1 (.int .i64 (p+1:Nat))))
 clear h hc
 obtain ⟨o,HO⟩:∃ o,Hid (o=(chainN [(128,191)] ((bytes s).drop (p+1))).map (·+1)):=⟨_,Hq rfl⟩
 rw [← HO.out]
 by_cases h0:needs 128 191 ((bytes s).drop (p+1))=some 1
 ·have D0:=Hq (fun w1 (h:R w1 g s (p+1) tw lo 0 op)=>calls_yes (need53 g s (p+1) tw lo op 128 191 w1 hs h) h0)
  have H0:=Hq h0
  clear h0
  have E:=Hq (show o=some 2 by rw [HO.out,chainN_yes H0.out]<;>rfl)
  go_enter Tryz.func112,Tryz.ntmps112
  go_wp2_with fail
  refine S.out.mono ?_
  rintro e w' ⟨rfl,n,rfl⟩
  obtain ⟨c0,c1,_,_,_,_,f1,_,_⟩:=(H.out n).facts
  go_wp2_with fail
  have HR0:=Hq (HS.out n)
  refine (D0.out _ HR0.out.1).mono ?_
  rintro e w0 ⟨rfl,hR,hg⟩
  have HR1:=Hq (And.intro hR (HR0.out.2.trans hg))
  clear hR hg
  go_wp2_with fail
  go_ret
  exact .inl ⟨2,E.out,rfl,HR1.out.1,HR1.out.2⟩
 ·have D0:=Hq (fun w1 (h:R w1 g s (p+1) tw lo 0 op)=>calls_no (need53 g s (p+1) tw lo op 128 191 w1 hs h) (needs_none h0))
  have H0:=Hq h0
  clear h0
  have E:=Hq (show o=none by rw [HO.out,chainN_no H0.out]<;>rfl)
  go_enter Tryz.func112,Tryz.ntmps112
  go_wp2_with fail
  refine S.out.mono ?_
  rintro e w' ⟨rfl,n,rfl⟩
  obtain ⟨c0,c1,_,_,_,_,f1,_,_⟩:=(H.out n).facts
  go_wp2_with fail
  have HR0:=Hq (HS.out n)
  refine (D0.out _ HR0.out.1).mono ?_
  rintro e w0 ⟨rfl,hR,hg⟩
  have HR1:=Hq (And.intro hR (HR0.out.2.trans hg))
  clear hR hg
  go_wp2_with fail
  go_ret
  exact .inr ⟨E.out,rfl,HR1.out.1.mono (by omega),HR1.out.2⟩
theorem rune3a(g:Nat)(s:ByteArray)(p:Nat)(tw lo op:Bool)(w:World)(hs:s.size≤140737488355328)(h:R w g s p tw lo 0 op)(c:Int)(hc:((bytes s).drop p).headD 0=c)(h1:c=224):
  Calls Tryz.prog 112 #[.pointer (some ⟨g,0,none⟩)] w (Did g s tw lo op p ((chainN [(160,191),(128,191)] ((bytes s).drop (p+1))).map (·+1)) w):=by
 have hlt:p<s.size:=headD_lt hc (by omega)
 have S:=Hq (see_c g s p tw lo 0 op c hc w h)
 have H:=Hq (fun n=>h.drew n)
 have HS:=Hq (fun n=>And.intro ((h.drew n).setAt (p+1) (by omega)) (gb_set (gb_drewN (World.grownBy.refl w (some g)) n) 1 (.int .i64 (p+1:Nat))))
 subst h1
 clear h hc
 obtain ⟨o,HO⟩:∃ o,Hid (o=(chainN [(160,191),(128,191)] ((bytes s).drop (p+1))).map (·+1)):=⟨_,Hq rfl⟩
 rw [← HO.out]
 by_cases h0:needs 160 191 ((bytes s).drop (p+1))=some 1
 ·have D0:=Hq (fun w1 (h:R w1 g s (p+1) tw lo 0 op)=>calls_yes (need53 g s (p+1) tw lo op 160 191 w1 hs h) h0)
  have H0:=Hq h0
  clear h0
  by_cases h1:needs 128 191 ((bytes s).drop (p+1+1))=some 1
  ·have D1:=Hq (fun w1 (h:R w1 g s (p+1+1) tw lo 0 op)=>calls_yes (need53 g s (p+1+1) tw lo op 128 191 w1 hs h) h1)
   have H1:=Hq h1
   clear h1
   have E:=Hq (show o=some 3 by rw [HO.out,chainN_yes H0.out,tail_drop1,chainN_yes H1.out]<;>rfl)
   go_enter Tryz.func112,Tryz.ntmps112
   go_wp2_with fail
   refine S.out.mono ?_
   rintro e w' ⟨rfl,n,rfl⟩
   obtain ⟨c0,c1,_,_,_,_,f1,_,_⟩:=(H.out n).facts
   go_wp2_with fail
   have HR0:=Hq (HS.out n)
   refine (D0.out _ HR0.out.1).mono ?_
   rintro e w0 ⟨rfl,hR,hg⟩
   have HR1:=Hq (And.intro hR (HR0.out.2.trans hg))
   clear hR hg
   go_wp2_with fail
   refine (D1.out _ HR1.out.1).mono ?_
   rintro e w1 ⟨rfl,hR,hg⟩
   have HR2:=Hq (And.intro hR (HR1.out.2.trans hg))
   clear hR hg
   go_wp2_with fail
   go_ret
   exact .inl ⟨3,E.out,rfl,HR2.out.1,HR2.out.2⟩
  ·have D1:=Hq (fun w1 (h:R w1 g s (p+1+1) tw lo 0 op)=>calls_no (need53 g s (p+1+1) tw lo op 128 191 w1 hs h) (needs_none h1))
   have H1:=Hq h1
   clear h1
   have E:=Hq (show o=none by rw [HO.out,chainN_yes H0.out,tail_drop1,chainN_no H1.out]<;>rfl)
   go_enter Tryz.func112,Tryz.ntmps112
   go_wp2_with fail
   refine S.out.mono ?_
   rintro e w' ⟨rfl,n,rfl⟩
   obtain ⟨c0,c1,_,_,_,_,f1,_,_⟩:=(H.out n).facts
   go_wp2_with fail
   have HR0:=Hq (HS.out n)
   refine (D0.out _ HR0.out.1).mono ?_
   rintro e w0 ⟨rfl,hR,hg⟩
   have HR1:=Hq (And.intro hR (HR0.out.2.trans hg))
   clear hR hg
   go_wp2_with fail
   refine (D1.out _ HR1.out.1).mono ?_
   rintro e w1 ⟨rfl,hR,hg⟩
   have HR2:=Hq (And.intro hR (HR1.out.2.trans hg))
   clear hR hg
   go_wp2_with fail
   go_ret
   exact .inr ⟨E.out,rfl,HR2.out.1.mono (by omega),HR2.out.2⟩
 ·have D0:=Hq (fun w1 (h:R w1 g s (p+1) tw lo 0 op)=>calls_no (need53 g s (p+1) tw lo op 160 191 w1 hs h) (needs_none h0))
  have H0:=Hq h0
  clear h0
  have E:=Hq (show o=none by rw [HO.out,chainN_no H0.out]<;>rfl)
  go_enter Tryz.func112,Tryz.ntmps112
  go_wp2_with fail
  refine S.out.mono ?_
  rintro e w' ⟨rfl,n,rfl⟩
  obtain ⟨c0,c1,_,_,_,_,f1,_,_⟩:=(H.out n).facts
  go_wp2_with fail
  have HR0:=Hq (HS.out n)
  refine (D0.out _ HR0.out.1).mono ?_
  rintro e w0 ⟨rfl,hR,hg⟩
  have HR1:=Hq (And.intro hR (HR0.out.2.trans hg))
  clear hR hg
  go_wp2_with fail
  go_ret
  exact .inr ⟨E.out,rfl,HR1.out.1.mono (by omega),HR1.out.2⟩
theorem rune3b(g:Nat)(s:ByteArray)(p:Nat)(tw lo op:Bool)(w:World)(hs:s.size≤140737488355328)(h:R w g s p tw lo 0 op)(c:Int)(hc:((bytes s).drop p).headD 0=c)(h1:c=237):
  Calls Tryz.prog 112 #[.pointer (some ⟨g,0,none⟩)] w (Did g s tw lo op p ((chainN [(128,159),(128,191)] ((bytes s).drop (p+1))).map (·+1)) w):=by
 have hlt:p<s.size:=headD_lt hc (by omega)
 have S:=Hq (see_c g s p tw lo 0 op c hc w h)
 have H:=Hq (fun n=>h.drew n)
 have HS:=Hq (fun n=>And.intro ((h.drew n).setAt (p+1) (by omega)) (gb_set (gb_drewN (World.grownBy.refl w (some g)) n) 1 (.int .i64 (p+1:Nat))))
 subst h1
 clear h hc
 obtain ⟨o,HO⟩:∃ o,Hid (o=(chainN [(128,159),(128,191)] ((bytes s).drop (p+1))).map (·+1)):=⟨_,Hq rfl⟩
 rw [← HO.out]
 by_cases h0:needs 128 159 ((bytes s).drop (p+1))=some 1
 ·have D0:=Hq (fun w1 (h:R w1 g s (p+1) tw lo 0 op)=>calls_yes (need53 g s (p+1) tw lo op 128 159 w1 hs h) h0)
  have H0:=Hq h0
  clear h0
  by_cases h1:needs 128 191 ((bytes s).drop (p+1+1))=some 1
  ·have D1:=Hq (fun w1 (h:R w1 g s (p+1+1) tw lo 0 op)=>calls_yes (need53 g s (p+1+1) tw lo op 128 191 w1 hs h) h1)
   have H1:=Hq h1
   clear h1
   have E:=Hq (show o=some 3 by rw [HO.out,chainN_yes H0.out,tail_drop1,chainN_yes H1.out]<;>rfl)
   go_enter Tryz.func112,Tryz.ntmps112
   go_wp2_with fail
   refine S.out.mono ?_
   rintro e w' ⟨rfl,n,rfl⟩
   obtain ⟨c0,c1,_,_,_,_,f1,_,_⟩:=(H.out n).facts
   go_wp2_with fail
   have HR0:=Hq (HS.out n)
   refine (D0.out _ HR0.out.1).mono ?_
   rintro e w0 ⟨rfl,hR,hg⟩
   have HR1:=Hq (And.intro hR (HR0.out.2.trans hg))
   clear hR hg
   go_wp2_with fail
   refine (D1.out _ HR1.out.1).mono ?_
   rintro e w1 ⟨rfl,hR,hg⟩
   have HR2:=Hq (And.intro hR (HR1.out.2.trans hg))
   clear hR hg
   go_wp2_with fail
   go_ret
   exact .inl ⟨3,E.out,rfl,HR2.out.1,HR2.out.2⟩
  ·have D1:=Hq (fun w1 (h:R w1 g s (p+1+1) tw lo 0 op)=>calls_no (need53 g s (p+1+1) tw lo op 128 191 w1 hs h) (needs_none h1))
   have H1:=Hq h1
   clear h1
   have E:=Hq (show o=none by rw [HO.out,chainN_yes H0.out,tail_drop1,chainN_no H1.out]<;>rfl)
   go_enter Tryz.func112,Tryz.ntmps112
   go_wp2_with fail
   refine S.out.mono ?_
   rintro e w' ⟨rfl,n,rfl⟩
   obtain ⟨c0,c1,_,_,_,_,f1,_,_⟩:=(H.out n).facts
   go_wp2_with fail
   have HR0:=Hq (HS.out n)
   refine (D0.out _ HR0.out.1).mono ?_
   rintro e w0 ⟨rfl,hR,hg⟩
   have HR1:=Hq (And.intro hR (HR0.out.2.trans hg))
   clear hR hg
   go_wp2_with fail
   refine (D1.out _ HR1.out.1).mono ?_
   rintro e w1 ⟨rfl,hR,hg⟩
   have HR2:=Hq (And.intro hR (HR1.out.2.trans hg))
   clear hR hg
   go_wp2_with fail
   go_ret
   exact .inr ⟨E.out,rfl,HR2.out.1.mono (by omega),HR2.out.2⟩
 ·have D0:=Hq (fun w1 (h:R w1 g s (p+1) tw lo 0 op)=>calls_no (need53 g s (p+1) tw lo op 128 159 w1 hs h) (needs_none h0))
  have H0:=Hq h0
  clear h0
  have E:=Hq (show o=none by rw [HO.out,chainN_no H0.out]<;>rfl)
  go_enter Tryz.func112,Tryz.ntmps112
  go_wp2_with fail
  refine S.out.mono ?_
  rintro e w' ⟨rfl,n,rfl⟩
  obtain ⟨c0,c1,_,_,_,_,f1,_,_⟩:=(H.out n).facts
  go_wp2_with fail
  have HR0:=Hq (HS.out n)
  refine (D0.out _ HR0.out.1).mono ?_
  rintro e w0 ⟨rfl,hR,hg⟩
  have HR1:=Hq (And.intro hR (HR0.out.2.trans hg))
  clear hR hg
  go_wp2_with fail
  go_ret
  exact .inr ⟨E.out,rfl,HR1.out.1.mono (by omega),HR1.out.2⟩
theorem rune3(g:Nat)(s:ByteArray)(p:Nat)(tw lo op:Bool)(w:World)(hs:s.size≤140737488355328)(h:R w g s p tw lo 0 op)(c:Int)(hc:((bytes s).drop p).headD 0=c)(h1:224≤c)(h2:c≤239)(h3:¬ c=224)(h4:¬ c=237):
  Calls Tryz.prog 112 #[.pointer (some ⟨g,0,none⟩)] w (Did g s tw lo op p ((chainN [(128,191),(128,191)] ((bytes s).drop (p+1))).map (·+1)) w):=by
 have hlt:p<s.size:=headD_lt hc (by omega)
 have S:=Hq (see_c g s p tw lo 0 op c hc w h)
 have H:=Hq (fun n=>h.drew n)
 have HS:=Hq (fun n=>And.intro ((h.drew n).setAt (p+1) (by omega)) (gb_set (gb_drewN (World.grownBy.refl w (some g)) n) 1 (.int .i64 (p+1:Nat))))
 have n1:¬ c≤223:=by omega
 have n2:194≤c:=by omega
 have e0:(c==224)=false:=by simp; omega
 have e1:(c==237)=false:=by simp; omega
 clear h3 h4
 clear h hc
 obtain ⟨o,HO⟩:∃ o,Hid (o=(chainN [(128,191),(128,191)] ((bytes s).drop (p+1))).map (·+1)):=⟨_,Hq rfl⟩
 rw [← HO.out]
 by_cases h0:needs 128 191 ((bytes s).drop (p+1))=some 1
 ·have D0:=Hq (fun w1 (h:R w1 g s (p+1) tw lo 0 op)=>calls_yes (need53 g s (p+1) tw lo op 128 191 w1 hs h) h0)
  have H0:=Hq h0
  clear h0
  by_cases h1:needs 128 191 ((bytes s).drop (p+1+1))=some 1
  ·have D1:=Hq (fun w1 (h:R w1 g s (p+1+1) tw lo 0 op)=>calls_yes (need53 g s (p+1+1) tw lo op 128 191 w1 hs h) h1)
   have H1:=Hq h1
   clear h1
   have E:=Hq (show o=some 3 by rw [HO.out,chainN_yes H0.out,tail_drop1,chainN_yes H1.out]<;>rfl)
   go_enter Tryz.func112,Tryz.ntmps112
   go_wp2_with fail
   refine S.out.mono ?_
   rintro e w' ⟨rfl,n,rfl⟩
   obtain ⟨c0,c1,_,_,_,_,f1,_,_⟩:=(H.out n).facts
   go_wp2_with fail
   have HR0:=Hq (HS.out n)
   refine (D0.out _ HR0.out.1).mono ?_
   rintro e w0 ⟨rfl,hR,hg⟩
   have HR1:=Hq (And.intro hR (HR0.out.2.trans hg))
   clear hR hg
   go_wp2_with fail
   refine (D1.out _ HR1.out.1).mono ?_
   rintro e w1 ⟨rfl,hR,hg⟩
   have HR2:=Hq (And.intro hR (HR1.out.2.trans hg))
   clear hR hg
   go_wp2_with fail
   go_ret
   exact .inl ⟨3,E.out,rfl,HR2.out.1,HR2.out.2⟩
  ·have D1:=Hq (fun w1 (h:R w1 g s (p+1+1) tw lo 0 op)=>calls_no (need53 g s (p+1+1) tw lo op 128 191 w1 hs h) (needs_none h1))
   have H1:=Hq h1
   clear h1
   have E:=Hq (show o=none by rw [HO.out,chainN_yes H0.out,tail_drop1,chainN_no H1.out]<;>rfl)
   go_enter Tryz.func112,Tryz.ntmps112
   go_wp2_with fail
   refine S.out.mono ?_
   rintro e w' ⟨rfl,n,rfl⟩
   obtain ⟨c0,c1,_,_,_,_,f1,_,_⟩:=(H.out n).facts
   go_wp2_with fail
   have HR0:=Hq (HS.out n)
   refine (D0.out _ HR0.out.1).mono ?_
   rintro e w0 ⟨rfl,hR,hg⟩
   have HR1:=Hq (And.intro hR (HR0.out.2.trans hg))
   clear hR hg
   go_wp2_with fail
   refine (D1.out _ HR1.out.1).mono ?_
   rintro e w1 ⟨rfl,hR,hg⟩
   have HR2:=Hq (And.intro hR (HR1.out.2.trans hg))
   clear hR hg
   go_wp2_with fail
   go_ret
   exact .inr ⟨E.out,rfl,HR2.out.1.mono (by omega),HR2.out.2⟩
 ·have D0:=Hq (fun w1 (h:R w1 g s (p+1) tw lo 0 op)=>calls_no (need53 g s (p+1) tw lo op 128 191 w1 hs h) (needs_none h0))
  have H0:=Hq h0
  clear h0
  have E:=Hq (show o=none by rw [HO.out,chainN_no H0.out]<;>rfl)
  go_enter Tryz.func112,Tryz.ntmps112
  go_wp2_with fail
  refine S.out.mono ?_
  rintro e w' ⟨rfl,n,rfl⟩
  obtain ⟨c0,c1,_,_,_,_,f1,_,_⟩:=(H.out n).facts
  go_wp2_with fail
  have HR0:=Hq (HS.out n)
  refine (D0.out _ HR0.out.1).mono ?_
  rintro e w0 ⟨rfl,hR,hg⟩
  have HR1:=Hq (And.intro hR (HR0.out.2.trans hg))
  clear hR hg
  go_wp2_with fail
  go_ret
  exact .inr ⟨E.out,rfl,HR1.out.1.mono (by omega),HR1.out.2⟩
theorem rune4a(g:Nat)(s:ByteArray)(p:Nat)(tw lo op:Bool)(w:World)(hs:s.size≤140737488355328)(h:R w g s p tw lo 0 op)(c:Int)(hc:((bytes s).drop p).headD 0=c)(h1:c=240):
  Calls Tryz.prog 112 #[.pointer (some ⟨g,0,none⟩)] w (Did g s tw lo op p ((chainN [(144,191),(128,191),(128,191)] ((bytes s).drop (p+1))).map (·+1)) w):=by
 have hlt:p<s.size:=headD_lt hc (by omega)
 have S:=Hq (see_c g s p tw lo 0 op c hc w h)
 have H:=Hq (fun n=>h.drew n)
 have HS:=Hq (fun n=>And.intro ((h.drew n).setAt (p+1) (by omega)) (gb_set (gb_drewN (World.grownBy.refl w (some g)) n) 1 (.int .i64 (p+1:Nat))))
 subst h1
 clear h hc
 obtain ⟨o,HO⟩:∃ o,Hid (o=(chainN [(144,191),(128,191),(128,191)] ((bytes s).drop (p+1))).map (·+1)):=⟨_,Hq rfl⟩
 rw [← HO.out]
 by_cases h0:needs 144 191 ((bytes s).drop (p+1))=some 1
 ·have D0:=Hq (fun w1 (h:R w1 g s (p+1) tw lo 0 op)=>calls_yes (need53 g s (p+1) tw lo op 144 191 w1 hs h) h0)
  have H0:=Hq h0
  clear h0
  by_cases h1:needs 128 191 ((bytes s).drop (p+1+1))=some 1
  ·have D1:=Hq (fun w1 (h:R w1 g s (p+1+1) tw lo 0 op)=>calls_yes (need53 g s (p+1+1) tw lo op 128 191 w1 hs h) h1)
   have H1:=Hq h1
   clear h1
   by_cases h2:needs 128 191 ((bytes s).drop (p+1+1+1))=some 1
   ·have D2:=Hq (fun w1 (h:R w1 g s (p+1+1+1) tw lo 0 op)=>calls_yes (need53 g s (p+1+1+1) tw lo op 128 191 w1 hs h) h2)
    have H2:=Hq h2
    clear h2
    have E:=Hq (show o=some 4 by rw [HO.out,chainN_yes H0.out,tail_drop1,chainN_yes H1.out,tail_drop1,chainN_yes H2.out]<;>rfl)
    go_enter Tryz.func112,Tryz.ntmps112
    go_wp2_with fail
    refine S.out.mono ?_
    rintro e w' ⟨rfl,n,rfl⟩
    obtain ⟨c0,c1,_,_,_,_,f1,_,_⟩:=(H.out n).facts
    go_wp2_with fail
    have HR0:=Hq (HS.out n)
    refine (D0.out _ HR0.out.1).mono ?_
    rintro e w0 ⟨rfl,hR,hg⟩
    have HR1:=Hq (And.intro hR (HR0.out.2.trans hg))
    clear hR hg
    go_wp2_with fail
    refine (D1.out _ HR1.out.1).mono ?_
    rintro e w1 ⟨rfl,hR,hg⟩
    have HR2:=Hq (And.intro hR (HR1.out.2.trans hg))
    clear hR hg
    go_wp2_with fail
    refine (D2.out _ HR2.out.1).mono ?_
    rintro e w2 ⟨rfl,hR,hg⟩
    have HR3:=Hq (And.intro hR (HR2.out.2.trans hg))
    clear hR hg
    go_wp2_with fail
    go_ret
    exact .inl ⟨4,E.out,rfl,HR3.out.1,HR3.out.2⟩
   ·have D2:=Hq (fun w1 (h:R w1 g s (p+1+1+1) tw lo 0 op)=>calls_no (need53 g s (p+1+1+1) tw lo op 128 191 w1 hs h) (needs_none h2))
    have H2:=Hq h2
    clear h2
    have E:=Hq (show o=none by rw [HO.out,chainN_yes H0.out,tail_drop1,chainN_yes H1.out,tail_drop1,chainN_no H2.out]<;>rfl)
    go_enter Tryz.func112,Tryz.ntmps112
    go_wp2_with fail
    refine S.out.mono ?_
    rintro e w' ⟨rfl,n,rfl⟩
    obtain ⟨c0,c1,_,_,_,_,f1,_,_⟩:=(H.out n).facts
    go_wp2_with fail
    have HR0:=Hq (HS.out n)
    refine (D0.out _ HR0.out.1).mono ?_
    rintro e w0 ⟨rfl,hR,hg⟩
    have HR1:=Hq (And.intro hR (HR0.out.2.trans hg))
    clear hR hg
    go_wp2_with fail
    refine (D1.out _ HR1.out.1).mono ?_
    rintro e w1 ⟨rfl,hR,hg⟩
    have HR2:=Hq (And.intro hR (HR1.out.2.trans hg))
    clear hR hg
    go_wp2_with fail
    refine (D2.out _ HR2.out.1).mono ?_
    rintro e w2 ⟨rfl,hR,hg⟩
    have HR3:=Hq (And.intro hR (HR2.out.2.trans hg))
    clear hR hg
    go_wp2_with fail
    go_ret
    exact .inr ⟨E.out,rfl,HR3.out.1.mono (by omega),HR3.out.2⟩
  ·have D1:=Hq (fun w1 (h:R w1 g s (p+1+1) tw lo 0 op)=>calls_no (need53 g s (p+1+1) tw lo op 128 191 w1 hs h) (needs_none h1))
   have H1:=Hq h1
   clear h1
   have E:=Hq (show o=none by rw [HO.out,chainN_yes H0.out,tail_drop1,chainN_no H1.out]<;>rfl)
   go_enter Tryz.func112,Tryz.ntmps112
   go_wp2_with fail
   refine S.out.mono ?_
   rintro e w' ⟨rfl,n,rfl⟩
   obtain ⟨c0,c1,_,_,_,_,f1,_,_⟩:=(H.out n).facts
   go_wp2_with fail
   have HR0:=Hq (HS.out n)
   refine (D0.out _ HR0.out.1).mono ?_
   rintro e w0 ⟨rfl,hR,hg⟩
   have HR1:=Hq (And.intro hR (HR0.out.2.trans hg))
   clear hR hg
   go_wp2_with fail
   refine (D1.out _ HR1.out.1).mono ?_
   rintro e w1 ⟨rfl,hR,hg⟩
   have HR2:=Hq (And.intro hR (HR1.out.2.trans hg))
   clear hR hg
   go_wp2_with fail
   go_ret
   exact .inr ⟨E.out,rfl,HR2.out.1.mono (by omega),HR2.out.2⟩
 ·have D0:=Hq (fun w1 (h:R w1 g s (p+1) tw lo 0 op)=>calls_no (need53 g s (p+1) tw lo op 144 191 w1 hs h) (needs_none h0))
  have H0:=Hq h0
  clear h0
  have E:=Hq (show o=none by rw [HO.out,chainN_no H0.out]<;>rfl)
  go_enter Tryz.func112,Tryz.ntmps112
  go_wp2_with fail
  refine S.out.mono ?_
  rintro e w' ⟨rfl,n,rfl⟩
  obtain ⟨c0,c1,_,_,_,_,f1,_,_⟩:=(H.out n).facts
  go_wp2_with fail
  have HR0:=Hq (HS.out n)
  refine (D0.out _ HR0.out.1).mono ?_
  rintro e w0 ⟨rfl,hR,hg⟩
  have HR1:=Hq (And.intro hR (HR0.out.2.trans hg))
  clear hR hg
  go_wp2_with fail
  go_ret
  exact .inr ⟨E.out,rfl,HR1.out.1.mono (by omega),HR1.out.2⟩
theorem rune4b(g:Nat)(s:ByteArray)(p:Nat)(tw lo op:Bool)(w:World)(hs:s.size≤140737488355328)(h:R w g s p tw lo 0 op)(c:Int)(hc:((bytes s).drop p).headD 0=c)(h1:c=244):
  Calls Tryz.prog 112 #[.pointer (some ⟨g,0,none⟩)] w (Did g s tw lo op p ((chainN [(128,143),(128,191),(128,191)] ((bytes s).drop (p+1))).map (·+1)) w):=by
 have hlt:p<s.size:=headD_lt hc (by omega)
 have S:=Hq (see_c g s p tw lo 0 op c hc w h)
 have H:=Hq (fun n=>h.drew n)
 have HS:=Hq (fun n=>And.intro ((h.drew n).setAt (p+1) (by omega)) (gb_set (gb_drewN (World.grownBy.refl w (some g)) n) 1 (.int .i64 (p+1:Nat))))
 subst h1
 clear h hc
 obtain ⟨o,HO⟩:∃ o,Hid (o=(chainN [(128,143),(128,191),(128,191)] ((bytes s).drop (p+1))).map (·+1)):=⟨_,Hq rfl⟩
 rw [← HO.out]
 by_cases h0:needs 128 143 ((bytes s).drop (p+1))=some 1
 ·have D0:=Hq (fun w1 (h:R w1 g s (p+1) tw lo 0 op)=>calls_yes (need53 g s (p+1) tw lo op 128 143 w1 hs h) h0)
  have H0:=Hq h0
  clear h0
  by_cases h1:needs 128 191 ((bytes s).drop (p+1+1))=some 1
  ·have D1:=Hq (fun w1 (h:R w1 g s (p+1+1) tw lo 0 op)=>calls_yes (need53 g s (p+1+1) tw lo op 128 191 w1 hs h) h1)
   have H1:=Hq h1
   clear h1
   by_cases h2:needs 128 191 ((bytes s).drop (p+1+1+1))=some 1
   ·have D2:=Hq (fun w1 (h:R w1 g s (p+1+1+1) tw lo 0 op)=>calls_yes (need53 g s (p+1+1+1) tw lo op 128 191 w1 hs h) h2)
    have H2:=Hq h2
    clear h2
    have E:=Hq (show o=some 4 by rw [HO.out,chainN_yes H0.out,tail_drop1,chainN_yes H1.out,tail_drop1,chainN_yes H2.out]<;>rfl)
    go_enter Tryz.func112,Tryz.ntmps112
    go_wp2_with fail
    refine S.out.mono ?_
    rintro e w' ⟨rfl,n,rfl⟩
    obtain ⟨c0,c1,_,_,_,_,f1,_,_⟩:=(H.out n).facts
    go_wp2_with fail
    have HR0:=Hq (HS.out n)
    refine (D0.out _ HR0.out.1).mono ?_
    rintro e w0 ⟨rfl,hR,hg⟩
    have HR1:=Hq (And.intro hR (HR0.out.2.trans hg))
    clear hR hg
    go_wp2_with fail
    refine (D1.out _ HR1.out.1).mono ?_
    rintro e w1 ⟨rfl,hR,hg⟩
    have HR2:=Hq (And.intro hR (HR1.out.2.trans hg))
    clear hR hg
    go_wp2_with fail
    refine (D2.out _ HR2.out.1).mono ?_
    rintro e w2 ⟨rfl,hR,hg⟩
    have HR3:=Hq (And.intro hR (HR2.out.2.trans hg))
    clear hR hg
    go_wp2_with fail
    go_ret
    exact .inl ⟨4,E.out,rfl,HR3.out.1,HR3.out.2⟩
   ·have D2:=Hq (fun w1 (h:R w1 g s (p+1+1+1) tw lo 0 op)=>calls_no (need53 g s (p+1+1+1) tw lo op 128 191 w1 hs h) (needs_none h2))
    have H2:=Hq h2
    clear h2
    have E:=Hq (show o=none by rw [HO.out,chainN_yes H0.out,tail_drop1,chainN_yes H1.out,tail_drop1,chainN_no H2.out]<;>rfl)
    go_enter Tryz.func112,Tryz.ntmps112
    go_wp2_with fail
    refine S.out.mono ?_
    rintro e w' ⟨rfl,n,rfl⟩
    obtain ⟨c0,c1,_,_,_,_,f1,_,_⟩:=(H.out n).facts
    go_wp2_with fail
    have HR0:=Hq (HS.out n)
    refine (D0.out _ HR0.out.1).mono ?_
    rintro e w0 ⟨rfl,hR,hg⟩
    have HR1:=Hq (And.intro hR (HR0.out.2.trans hg))
    clear hR hg
    go_wp2_with fail
    refine (D1.out _ HR1.out.1).mono ?_
    rintro e w1 ⟨rfl,hR,hg⟩
    have HR2:=Hq (And.intro hR (HR1.out.2.trans hg))
    clear hR hg
    go_wp2_with fail
    refine (D2.out _ HR2.out.1).mono ?_
    rintro e w2 ⟨rfl,hR,hg⟩
    have HR3:=Hq (And.intro hR (HR2.out.2.trans hg))
    clear hR hg
    go_wp2_with fail
    go_ret
    exact .inr ⟨E.out,rfl,HR3.out.1.mono (by omega),HR3.out.2⟩
  ·have D1:=Hq (fun w1 (h:R w1 g s (p+1+1) tw lo 0 op)=>calls_no (need53 g s (p+1+1) tw lo op 128 191 w1 hs h) (needs_none h1))
   have H1:=Hq h1
   clear h1
   have E:=Hq (show o=none by rw [HO.out,chainN_yes H0.out,tail_drop1,chainN_no H1.out]<;>rfl)
   go_enter Tryz.func112,Tryz.ntmps112
   go_wp2_with fail
   refine S.out.mono ?_
   rintro e w' ⟨rfl,n,rfl⟩
   obtain ⟨c0,c1,_,_,_,_,f1,_,_⟩:=(H.out n).facts
   go_wp2_with fail
   have HR0:=Hq (HS.out n)
   refine (D0.out _ HR0.out.1).mono ?_
   rintro e w0 ⟨rfl,hR,hg⟩
   have HR1:=Hq (And.intro hR (HR0.out.2.trans hg))
   clear hR hg
   go_wp2_with fail
   refine (D1.out _ HR1.out.1).mono ?_
   rintro e w1 ⟨rfl,hR,hg⟩
   have HR2:=Hq (And.intro hR (HR1.out.2.trans hg))
   clear hR hg
   go_wp2_with fail
   go_ret
   exact .inr ⟨E.out,rfl,HR2.out.1.mono (by omega),HR2.out.2⟩
 ·have D0:=Hq (fun w1 (h:R w1 g s (p+1) tw lo 0 op)=>calls_no (need53 g s (p+1) tw lo op 128 143 w1 hs h) (needs_none h0))
  have H0:=Hq h0
  clear h0
  have E:=Hq (show o=none by rw [HO.out,chainN_no H0.out]<;>rfl)
  go_enter Tryz.func112,Tryz.ntmps112
  go_wp2_with fail
  refine S.out.mono ?_
  rintro e w' ⟨rfl,n,rfl⟩
  obtain ⟨c0,c1,_,_,_,_,f1,_,_⟩:=(H.out n).facts
  go_wp2_with fail
  have HR0:=Hq (HS.out n)
  refine (D0.out _ HR0.out.1).mono ?_
  rintro e w0 ⟨rfl,hR,hg⟩
  have HR1:=Hq (And.intro hR (HR0.out.2.trans hg))
  clear hR hg
  go_wp2_with fail
  go_ret
  exact .inr ⟨E.out,rfl,HR1.out.1.mono (by omega),HR1.out.2⟩
theorem rune4(g:Nat)(s:ByteArray)(p:Nat)(tw lo op:Bool)(w:World)(hs:s.size≤140737488355328)(h:R w g s p tw lo 0 op)(c:Int)(hc:((bytes s).drop p).headD 0=c)(h1:240≤c)(h2:c≤244)(h3:¬ c=240)(h4:¬ c=244):
  Calls Tryz.prog 112 #[.pointer (some ⟨g,0,none⟩)] w (Did g s tw lo op p ((chainN [(128,191),(128,191),(128,191)] ((bytes s).drop (p+1))).map (·+1)) w):=by
 have hlt:p<s.size:=headD_lt hc (by omega)
 have S:=Hq (see_c g s p tw lo 0 op c hc w h)
 have H:=Hq (fun n=>h.drew n)
 have HS:=Hq (fun n=>And.intro ((h.drew n).setAt (p+1) (by omega)) (gb_set (gb_drewN (World.grownBy.refl w (some g)) n) 1 (.int .i64 (p+1:Nat))))
 have n1:¬ c≤223:=by omega
 have n2:194≤c:=by omega
 have n3:¬ c≤239:=by omega
 have n4:224≤c:=by omega
 have e0:(c==240)=false:=by simp; omega
 have e1:(c==244)=false:=by simp; omega
 clear h3 h4
 clear h hc
 obtain ⟨o,HO⟩:∃ o,Hid (o=(chainN [(128,191),(128,191),(128,191)] ((bytes s).drop (p+1))).map (·+1)):=⟨_,Hq rfl⟩
 rw [← HO.out]
 by_cases h0:needs 128 191 ((bytes s).drop (p+1))=some 1
 ·have D0:=Hq (fun w1 (h:R w1 g s (p+1) tw lo 0 op)=>calls_yes (need53 g s (p+1) tw lo op 128 191 w1 hs h) h0)
  have H0:=Hq h0
  clear h0
  by_cases h1:needs 128 191 ((bytes s).drop (p+1+1))=some 1
  ·have D1:=Hq (fun w1 (h:R w1 g s (p+1+1) tw lo 0 op)=>calls_yes (need53 g s (p+1+1) tw lo op 128 191 w1 hs h) h1)
   have H1:=Hq h1
   clear h1
   by_cases h2:needs 128 191 ((bytes s).drop (p+1+1+1))=some 1
   ·have D2:=Hq (fun w1 (h:R w1 g s (p+1+1+1) tw lo 0 op)=>calls_yes (need53 g s (p+1+1+1) tw lo op 128 191 w1 hs h) h2)
    have H2:=Hq h2
    clear h2
    have E:=Hq (show o=some 4 by rw [HO.out,chainN_yes H0.out,tail_drop1,chainN_yes H1.out,tail_drop1,chainN_yes H2.out]<;>rfl)
    go_enter Tryz.func112,Tryz.ntmps112
    go_wp2_with fail
    refine S.out.mono ?_
    rintro e w' ⟨rfl,n,rfl⟩
    obtain ⟨c0,c1,_,_,_,_,f1,_,_⟩:=(H.out n).facts
    go_wp2_with fail
    have HR0:=Hq (HS.out n)
    refine (D0.out _ HR0.out.1).mono ?_
    rintro e w0 ⟨rfl,hR,hg⟩
    have HR1:=Hq (And.intro hR (HR0.out.2.trans hg))
    clear hR hg
    go_wp2_with fail
    refine (D1.out _ HR1.out.1).mono ?_
    rintro e w1 ⟨rfl,hR,hg⟩
    have HR2:=Hq (And.intro hR (HR1.out.2.trans hg))
    clear hR hg
    go_wp2_with fail
    refine (D2.out _ HR2.out.1).mono ?_
    rintro e w2 ⟨rfl,hR,hg⟩
    have HR3:=Hq (And.intro hR (HR2.out.2.trans hg))
    clear hR hg
    go_wp2_with fail
    go_ret
    exact .inl ⟨4,E.out,rfl,HR3.out.1,HR3.out.2⟩
   ·have D2:=Hq (fun w1 (h:R w1 g s (p+1+1+1) tw lo 0 op)=>calls_no (need53 g s (p+1+1+1) tw lo op 128 191 w1 hs h) (needs_none h2))
    have H2:=Hq h2
    clear h2
    have E:=Hq (show o=none by rw [HO.out,chainN_yes H0.out,tail_drop1,chainN_yes H1.out,tail_drop1,chainN_no H2.out]<;>rfl)
    go_enter Tryz.func112,Tryz.ntmps112
    go_wp2_with fail
    refine S.out.mono ?_
    rintro e w' ⟨rfl,n,rfl⟩
    obtain ⟨c0,c1,_,_,_,_,f1,_,_⟩:=(H.out n).facts
    go_wp2_with fail
    have HR0:=Hq (HS.out n)
    refine (D0.out _ HR0.out.1).mono ?_
    rintro e w0 ⟨rfl,hR,hg⟩
    have HR1:=Hq (And.intro hR (HR0.out.2.trans hg))
    clear hR hg
    go_wp2_with fail
    refine (D1.out _ HR1.out.1).mono ?_
    rintro e w1 ⟨rfl,hR,hg⟩
    have HR2:=Hq (And.intro hR (HR1.out.2.trans hg))
    clear hR hg
    go_wp2_with fail
    refine (D2.out _ HR2.out.1).mono ?_
    rintro e w2 ⟨rfl,hR,hg⟩
    have HR3:=Hq (And.intro hR (HR2.out.2.trans hg))
    clear hR hg
    go_wp2_with fail
    go_ret
    exact .inr ⟨E.out,rfl,HR3.out.1.mono (by omega),HR3.out.2⟩
  ·have D1:=Hq (fun w1 (h:R w1 g s (p+1+1) tw lo 0 op)=>calls_no (need53 g s (p+1+1) tw lo op 128 191 w1 hs h) (needs_none h1))
   have H1:=Hq h1
   clear h1
   have E:=Hq (show o=none by rw [HO.out,chainN_yes H0.out,tail_drop1,chainN_no H1.out]<;>rfl)
   go_enter Tryz.func112,Tryz.ntmps112
   go_wp2_with fail
   refine S.out.mono ?_
   rintro e w' ⟨rfl,n,rfl⟩
   obtain ⟨c0,c1,_,_,_,_,f1,_,_⟩:=(H.out n).facts
   go_wp2_with fail
   have HR0:=Hq (HS.out n)
   refine (D0.out _ HR0.out.1).mono ?_
   rintro e w0 ⟨rfl,hR,hg⟩
   have HR1:=Hq (And.intro hR (HR0.out.2.trans hg))
   clear hR hg
   go_wp2_with fail
   refine (D1.out _ HR1.out.1).mono ?_
   rintro e w1 ⟨rfl,hR,hg⟩
   have HR2:=Hq (And.intro hR (HR1.out.2.trans hg))
   clear hR hg
   go_wp2_with fail
   go_ret
   exact .inr ⟨E.out,rfl,HR2.out.1.mono (by omega),HR2.out.2⟩
 ·have D0:=Hq (fun w1 (h:R w1 g s (p+1) tw lo 0 op)=>calls_no (need53 g s (p+1) tw lo op 128 191 w1 hs h) (needs_none h0))
  have H0:=Hq h0
  clear h0
  have E:=Hq (show o=none by rw [HO.out,chainN_no H0.out]<;>rfl)
  go_enter Tryz.func112,Tryz.ntmps112
  go_wp2_with fail
  refine S.out.mono ?_
  rintro e w' ⟨rfl,n,rfl⟩
  obtain ⟨c0,c1,_,_,_,_,f1,_,_⟩:=(H.out n).facts
  go_wp2_with fail
  have HR0:=Hq (HS.out n)
  refine (D0.out _ HR0.out.1).mono ?_
  rintro e w0 ⟨rfl,hR,hg⟩
  have HR1:=Hq (And.intro hR (HR0.out.2.trans hg))
  clear hR hg
  go_wp2_with fail
  go_ret
  exact .inr ⟨E.out,rfl,HR1.out.1.mono (by omega),HR1.out.2⟩
def runeO(xs:List Int):Option Nat:=
 if 194≤xs.headD 0∧xs.headD 0≤223 then (chainN [(128,191)] xs.tail).map (·+1)
 else if xs.headD 0=224 then (chainN [(160,191),(128,191)] xs.tail).map (·+1)
 else if xs.headD 0=237 then (chainN [(128,159),(128,191)] xs.tail).map (·+1)
 else if 224≤xs.headD 0∧xs.headD 0≤239 then (chainN [(128,191),(128,191)] xs.tail).map (·+1)
 else if xs.headD 0=240 then (chainN [(144,191),(128,191),(128,191)] xs.tail).map (·+1)
 else if xs.headD 0=244 then (chainN [(128,143),(128,191),(128,191)] xs.tail).map (·+1)
 else if 240≤xs.headD 0∧xs.headD 0≤244 then (chainN [(128,191),(128,191),(128,191)] xs.tail).map (·+1)
 else none
theorem rune_bad(g:Nat)(s:ByteArray)(p:Nat)(tw lo op:Bool)(w:World)(h:R w g s p tw lo 0 op)(c:Int)(hc:((bytes s).drop p).headD 0=c)(h1:c<194∨244<c):
  Calls Tryz.prog 112 #[.pointer (some ⟨g,0,none⟩)] w (Did g s tw lo op p none w):=by
 have S:=Hq (see_c g s p tw lo 0 op c hc w h)
 have F:=Hq (fun n=>fail25 g s p tw lo op 4 (w.drewN n) (h.drew n))
 clear h hc
 rcases h1 with h1|h1
 ·have n1:¬ 194≤c:=by omega
  have n2:¬ 224≤c:=by omega
  have n3:¬ 240≤c:=by omega
  go_enter Tryz.func112,Tryz.ntmps112
  go_wp2_with fail
  refine S.out.mono ?_
  rintro e w' ⟨rfl,n,rfl⟩
  go_wp2_with fail
  refine (F.out _).mono ?_
  rintro e w' ⟨rfl,hR,hg⟩
  have HR:=Hq (And.intro hR hg)
  clear hR hg
  go_wp2_with fail
  go_ret
  exact .inr ⟨rfl,rfl,⟨p,4,by decide,Nat.le_refl _,HR.out.1⟩,(gb_drewN (World.grownBy.refl _ _) _).trans HR.out.2⟩
 ·have n1:¬ c≤223:=by omega
  have n2:¬ c≤239:=by omega
  have n3:¬ c≤244:=by omega
  have m1:194≤c:=by omega
  have m2:224≤c:=by omega
  have m3:240≤c:=by omega
  go_enter Tryz.func112,Tryz.ntmps112
  go_wp2_with fail
  refine S.out.mono ?_
  rintro e w' ⟨rfl,n,rfl⟩
  go_wp2_with fail
  refine (F.out _).mono ?_
  rintro e w' ⟨rfl,hR,hg⟩
  have HR:=Hq (And.intro hR hg)
  clear hR hg
  go_wp2_with fail
  go_ret
  exact .inr ⟨rfl,rfl,⟨p,4,by decide,Nat.le_refl _,HR.out.1⟩,(gb_drewN (World.grownBy.refl _ _) _).trans HR.out.2⟩
theorem rune112(g:Nat)(s:ByteArray)(p:Nat)(tw lo op:Bool)(w:World)(hs:s.size≤140737488355328)(h:R w g s p tw lo 0 op):
  Calls Tryz.prog 112 #[.pointer (some ⟨g,0,none⟩)] w (Did g s tw lo op p (runeO ((bytes s).drop p)) w):=by
 obtain ⟨c,hc⟩:∃ c,((bytes s).drop p).headD 0=c:=⟨_,rfl⟩
 unfold runeO
 rw [hc,tail_drop1]
 by_cases a:194≤c∧c≤223
 ·rw [if_pos a]
  exact rune2 g s p tw lo op w hs h c hc a.1 a.2
 rw [if_neg a]
 by_cases b:c=224
 ·rw [if_pos b]
  exact rune3a g s p tw lo op w hs h c hc b
 rw [if_neg b]
 by_cases d:c=237
 ·rw [if_pos d]
  exact rune3b g s p tw lo op w hs h c hc d
 rw [if_neg d]
 by_cases e:224≤c∧c≤239
 ·rw [if_pos e]
  exact rune3 g s p tw lo op w hs h c hc e.1 e.2 b d
 rw [if_neg e]
 by_cases f:c=240
 ·rw [if_pos f]
  exact rune4a g s p tw lo op w hs h c hc f
 rw [if_neg f]
 by_cases k:c=244
 ·rw [if_pos k]
  exact rune4b g s p tw lo op w hs h c hc k
 rw [if_neg k]
 by_cases l:240≤c∧c≤244
 ·rw [if_pos l]
  exact rune4 g s p tw lo op w hs h c hc l.1 l.2 f k
 rw [if_neg l]
 exact rune_bad g s p tw lo op w h c hc (by omega)
end Go.Proofs.YtknaalohaagcdaaGreatDoor.Own
