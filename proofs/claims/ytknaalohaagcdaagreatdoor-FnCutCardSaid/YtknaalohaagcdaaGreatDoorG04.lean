import Derived.Test.YtknaalohaagcdaaGreatDoorG01
import Derived.Test.YtknaalohaagcdaaGreatDoorG03
set_option maxHeartbeats 400000000
set_option maxRecDepth 100000
namespace Go.Proofs.YtknaalohaagcdaaGreatDoor.Own
open Go.RowKit JG
def c4:List (Int × Int):=[(0,15),(0,15),(0,15),(0,15)]
def c13:List (Int × Int):=[(0,15),(0,11),(0,15),(0,15)]
def cLow:List (Int × Int):=[(13,13),(12,15),(0,15),(0,15)]
def unitH(lo:Bool)(xs:List Int):Option Nat:=if lo then chain c4 xs else if hexv (xs.headD 0)=13 then chain c13 xs else chain c4 xs
def halfH(lo:Bool)(xs:List Int):Bool:=if lo then false else if hexv (xs.headD 0)=13 then decide (8≤hexv (xs.tail.headD 0)) else false
def unitL(lo:Bool)(xs:List Int):Option Nat:=if lo then chain c4 xs else chain cLow xs
theorem unitF(g:Nat)(s:ByteArray)(p:Nat)(tw lo op:Bool)(w:World)(hs:s.size≤140737488355328)(h:R w g s p tw lo 0 op):
  Calls Tryz.prog 145 #[.pointer (some ⟨g,0,none⟩),.bool false] w (Did2 g s tw lo op p (unitH lo ((bytes s).drop p)) (halfH lo ((bytes s).drop p)) w):=by
 cases lo
 ·by_cases hf:hexv (((bytes s).drop p).headD 0)=13
  ·have h1:unitH false ((bytes s).drop p)=chain c13 ((bytes s).drop p):=by unfold unitH; rw [if_neg (by simp),if_pos hf]
   have h2:halfH false ((bytes s).drop p)=decide (8≤hexv (((bytes s).drop (p+1)).headD 0)):=by unfold halfH; rw [if_neg (by simp),if_pos hf,tail_drop1]
   rw [h1,h2]
   exact unit_13 g s p tw op w hs hf h
  ·have h1:unitH false ((bytes s).drop p)=chain c4 ((bytes s).drop p):=by unfold unitH; rw [if_neg (by simp),if_neg hf]
   have h2:halfH false ((bytes s).drop p)=false:=by unfold halfH; rw [if_neg (by simp),if_neg hf]
   rw [h1,h2]
   exact unit_other g s p tw op w hs hf h
 ·exact unit_loose g s p tw op w hs false h
theorem unitT(g:Nat)(s:ByteArray)(p:Nat)(tw lo op:Bool)(w:World)(hs:s.size≤140737488355328)(h:R w g s p tw lo 0 op):
  Calls Tryz.prog 145 #[.pointer (some ⟨g,0,none⟩),.bool true] w (Did2 g s tw lo op p (unitL lo ((bytes s).drop p)) false w):=by
 cases lo
 ·exact unit_low g s p tw op w hs h
 ·exact unit_loose g s p tw op w hs true h
theorem calls2_yes{f:FuncId}{args:Array Value}{g:Nat}{s:ByteArray}{tw lo op:Bool}{p:Nat}{o:Option Nat}{half:Bool}{w:World}(h:Calls Tryz.prog f args w (Did2 g s tw lo op p o half w)){k:Nat}(ho:o=some k):
  Calls Tryz.prog f args w fun e w'=>e=.returned (.tuple #[.bool true,.bool half])∧R w' g s (p+k) tw lo 0 op∧w.grownBy w' (some g):=by
 refine h.mono fun e w' hd => ?_
 rcases hd with ⟨k',h1,h2,h3,h4⟩|⟨h1,_⟩
 ·obtain rfl:k'=k:=Option.some.inj (h1.symm.trans ho)
  exact ⟨h2,h3,h4⟩
 ·rw [ho] at h1
  cases h1
theorem calls2_no{f:FuncId}{args:Array Value}{g:Nat}{s:ByteArray}{tw lo op:Bool}{p:Nat}{o:Option Nat}{half:Bool}{w:World}(h:Calls Tryz.prog f args w (Did2 g s tw lo op p o half w))(ho:o=none):
  Calls Tryz.prog f args w fun e w'=>e=.returned (.tuple #[.bool false,.bool false])∧Failed g s tw lo op p w'∧w.grownBy w' (some g):=by
 refine h.mono fun e w' hd => ?_
 rcases hd with ⟨k',h1,_⟩|⟨_,h2,h3,h4⟩
 ·rw [ho] at h1
  cases h1
 ·exact ⟨h2,h3,h4⟩
def isSimple(c:Int):Prop:=c=34∨c=92∨c=47∨c=98∨c=102∨c=110∨c=114∨c=116
instance (c:Int):Decidable (isSimple c):=by unfold isSimple; infer_instance
def escO(lo:Bool)(xs:List Int):Option Nat:=
 if isSimple (xs.headD 0) then some 1
 else if xs.headD 0=117 then
  match unitH lo xs.tail with
  |none=>none
  |some k=>
   if halfH lo xs.tail then
    (if needs 92 92 (xs.drop (1+k))=some 1∧needs 117 117 (xs.drop (2+k))=some 1 then (unitL lo (xs.drop (3+k))).map (·+(3+k)) else none)
   else some (1+k)
 else none
theorem needs_none{a b:Int}{xs:List Int}(h:¬ needs a b xs=some 1):needs a b xs=none:=by
 cases xs with
 |nil=>rfl
 |cons c t=>
  rw [needs_cons] at h ⊢
  by_cases hc:a≤c∧c≤b
  ·rw [if_pos hc] at h; exact absurd rfl h
  ·rw [if_neg hc]
theorem escape_simple(g:Nat)(s:ByteArray)(p:Nat)(tw lo op:Bool)(w:World)(hs:s.size≤140737488355328)(h:R w g s p tw lo 0 op)(hc:isSimple (((bytes s).drop p).headD 0)):
  Calls Tryz.prog 111 #[.pointer (some ⟨g,0,none⟩)] w (Did g s tw lo op p (some 1) w):=by
 obtain ⟨c,HC⟩:∃ c,Hid (((bytes s).drop p).headD 0=c):=⟨_,Hq rfl⟩
 rw [HC.out] at hc
 have hlt:p<s.size:=headD_lt HC.out (by unfold isSimple at hc; omega)
 have S:=Hq (see_c g s p tw lo 0 op c HC.out w h)
 have H:=Hq h
 clear h HC
 unfold isSimple at hc
 rcases hc with rfl|rfl|rfl|rfl|rfl|rfl|rfl|rfl
 all_goals
  go_enter Tryz.func111,Tryz.ntmps111
  go_wp2_with fail
  refine S.out.mono ?_
  rintro e w' ⟨rfl,n,rfl⟩
  obtain ⟨c0,c1,_,_,_,_,f1,_,_⟩:=(H.out.drew n).facts
  go_wp2_with fail
  go_ret
  exact .inl ⟨1,rfl,rfl,(H.out.drew n).setAt (p+1) (by omega),gb_set (gb_drewN (World.grownBy.refl _ _) _) _ _⟩
theorem escape_bad(g:Nat)(s:ByteArray)(p:Nat)(tw lo op:Bool)(w:World)(h:R w g s p tw lo 0 op)(hc:¬ isSimple (((bytes s).drop p).headD 0))(hu:¬ ((bytes s).drop p).headD 0=117):
  Calls Tryz.prog 111 #[.pointer (some ⟨g,0,none⟩)] w (Did g s tw lo op p none w):=by
 obtain ⟨c,HC⟩:∃ c,Hid (((bytes s).drop p).headD 0=c):=⟨_,Hq rfl⟩
 rw [HC.out] at hc hu
 have S:=Hq (see_c g s p tw lo 0 op c HC.out w h)
 have F:=Hq (fun n=>fail25 g s p tw lo op 4 (w.drewN n) (h.drew n))
 unfold isSimple at hc
 have t1:(c==34)=false:=by simp; omega
 have t2:(c==92)=false:=by simp; omega
 have t3:(c==47)=false:=by simp; omega
 have t4:(c==98)=false:=by simp; omega
 have t5:(c==102)=false:=by simp; omega
 have t6:(c==110)=false:=by simp; omega
 have t7:(c==114)=false:=by simp; omega
 have t8:(c==116)=false:=by simp; omega
 have t9:(c==117)=false:=by simp; omega
 clear h HC hc hu
 go_enter Tryz.func111,Tryz.ntmps111
 go_wp2_with fail
 refine S.out.mono ?_
 rintro e w' ⟨rfl,n,rfl⟩
 go_wp2_with fail
 refine (F.out _).mono ?_
 rintro e w' ⟨rfl,hR,hg⟩
 have HR:=Hq (And.intro hR hg)
 clear hR hg
 go_wp2_with fail
 go_ret
 exact .inr ⟨rfl,rfl,⟨p,4,by decide,Nat.le_refl _,HR.out.1⟩,(gb_drewN (World.grownBy.refl _ _) _).trans HR.out.2⟩
theorem escape_u(g:Nat)(s:ByteArray)(p:Nat)(tw lo op:Bool)(w:World)(hs:s.size≤140737488355328)(h:R w g s p tw lo 0 op)(hu:((bytes s).drop p).headD 0=117)(o:Option Nat) (HO:Hid (o=(match unitH lo ((bytes s).drop (p+1)) with
   |none=>none
   |some k=>if halfH lo ((bytes s).drop (p+1)) then
     (if needs 92 92 ((bytes s).drop (p+1+k))=some 1∧needs 117 117 ((bytes s).drop (p+1+k+1))=some 1 then (unitL lo ((bytes s).drop (p+1+k+1+1))).map (·+(3+k)) else none)
    else some (1+k)))):
  Calls Tryz.prog 111 #[.pointer (some ⟨g,0,none⟩)] w (Did g s tw lo op p o w):=by
 have hlt:p<s.size:=headD_lt hu (by omega)
 have S:=Hq (see_c g s p tw lo 0 op 117 hu w h)
 have H:=Hq (fun n=>h.drew n)
 have H1:=Hq (fun n=>And.intro ((h.drew n).setAt (p+1) (by omega)) (gb_set (gb_drewN (World.grownBy.refl w (some g)) n) 1 (.int .i64 (p+1:Nat))))
 have U:=Hq (fun w1 h=>unitF g s (p+1) tw lo op w1 hs h)
 clear h hu
 cases hk:unitH lo ((bytes s).drop (p+1)) with
 |none=>
  have UN:=Hq (fun w1 h=>calls2_no (U.out w1 h) hk)
  have E:=Hq (show o=none by rw [HO.out,hk])
  clear hk
  go_enter Tryz.func111,Tryz.ntmps111
  go_wp2_with fail
  refine S.out.mono ?_
  rintro e w' ⟨rfl,n,rfl⟩
  obtain ⟨c0,c1,_,_,_,_,f1,_,_⟩:=(H.out n).facts
  go_wp2_with fail
  refine (UN.out _ (H1.out n).1).mono ?_
  rintro e w1 ⟨rfl,hR,hg⟩
  have HR:=Hq (And.intro hR ((H1.out n).2.trans hg))
  clear hR hg
  go_wp2_with fail
  go_ret
  exact .inr ⟨E.out,rfl,HR.out.1.mono (by omega),HR.out.2⟩
 |some k=>
  have UY:=fun w1 h=>calls2_yes (U.out w1 h) hk
  have HO2:=HO.out
  rw [hk] at HO2
  have HO3:=Hq HO2
  clear hk HO2
  cases hh:halfH lo ((bytes s).drop (p+1))
  ·rw [hh] at UY
   have UY:=Hq UY
   have E:=Hq (show o=some (1+k) by rw [HO3.out]; show (if halfH lo _=true then _ else _)=_; rw [hh]; rfl)
   clear hh
   go_enter Tryz.func111,Tryz.ntmps111
   go_wp2_with fail
   refine S.out.mono ?_
   rintro e w' ⟨rfl,n,rfl⟩
   obtain ⟨c0,c1,_,_,_,_,f1,_,_⟩:=(H.out n).facts
   go_wp2_with fail
   refine (UY.out _ (H1.out n).1).mono ?_
   rintro e w1 ⟨rfl,hR,hg⟩
   have HR:=Hq (And.intro hR ((H1.out n).2.trans hg))
   clear hR hg
   go_wp2_with fail
   go_ret
   exact .inl ⟨1+k,E.out,rfl,by rw [show p+(1+k)=p+1+k by omega]; exact HR.out.1,HR.out.2⟩
  ·rw [hh] at UY
   have UY:=Hq UY
   have HO4:=Hq (show o=(if needs 92 92 ((bytes s).drop (p+1+k))=some 1∧needs 117 117 ((bytes s).drop (p+1+k+1))=some 1 then (unitL lo ((bytes s).drop (p+1+k+1+1))).map (·+(3+k)) else none) by rw [HO3.out]; show (if halfH lo _=true then _ else _)=_; rw [hh]; rfl)
   clear hh
   by_cases n1:needs 92 92 ((bytes s).drop (p+1+k))=some 1
   ·have N1:=Hq (fun w1 h=>calls_yes (need53 g s (p+1+k) tw lo op 92 92 w1 hs h) n1)
    by_cases n2:needs 117 117 ((bytes s).drop (p+1+k+1))=some 1
    ·have N2:=Hq (fun w1 h=>calls_yes (need53 g s (p+1+k+1) tw lo op 117 117 w1 hs h) n2)
     have V:=fun w1 h=>unitT g s (p+1+k+1+1) tw lo op w1 hs h
     have HN:=Hq (And.intro n1 n2)
     clear n1 n2
     cases hv:unitL lo ((bytes s).drop (p+1+k+1+1)) with
     |none=>
      have VN:=Hq (fun w1 h=>calls2_no (V w1 h) hv)
      have E:=Hq (show o=none by rw [HO4.out,if_pos HN.out,hv]; rfl)
      clear V hv
      go_enter Tryz.func111,Tryz.ntmps111
      go_wp2_with fail
      refine S.out.mono ?_
      rintro e w' ⟨rfl,n,rfl⟩
      obtain ⟨c0,c1,_,_,_,_,f1,_,_⟩:=(H.out n).facts
      go_wp2_with fail
      refine (UY.out _ (H1.out n).1).mono ?_
      rintro e w1 ⟨rfl,hR,hg⟩
      have HR:=Hq (And.intro hR ((H1.out n).2.trans hg))
      clear hR hg
      go_wp2_with fail
      refine (N1.out _ HR.out.1).mono ?_
      rintro e w2 ⟨rfl,hR,hg⟩
      have HR2:=Hq (And.intro hR (HR.out.2.trans hg))
      clear hR hg
      go_wp2_with fail
      refine (N2.out _ HR2.out.1).mono ?_
      rintro e w3 ⟨rfl,hR,hg⟩
      have HR3:=Hq (And.intro hR (HR2.out.2.trans hg))
      clear hR hg
      go_wp2_with fail
      refine (VN.out _ HR3.out.1).mono ?_
      rintro e w4 ⟨rfl,hR,hg⟩
      have HR4:=Hq (And.intro hR (HR3.out.2.trans hg))
      clear hR hg
      go_wp2_with fail
      go_ret
      exact .inr ⟨E.out,rfl,HR4.out.1.mono (by omega),HR4.out.2⟩
     |some v=>
      have VY:=Hq (fun w1 h=>calls2_yes (V w1 h) hv)
      have E:=Hq (show o=some (v+(3+k)) by rw [HO4.out,if_pos HN.out,hv]; rfl)
      clear V hv
      go_enter Tryz.func111,Tryz.ntmps111
      go_wp2_with fail
      refine S.out.mono ?_
      rintro e w' ⟨rfl,n,rfl⟩
      obtain ⟨c0,c1,_,_,_,_,f1,_,_⟩:=(H.out n).facts
      go_wp2_with fail
      refine (UY.out _ (H1.out n).1).mono ?_
      rintro e w1 ⟨rfl,hR,hg⟩
      have HR:=Hq (And.intro hR ((H1.out n).2.trans hg))
      clear hR hg
      go_wp2_with fail
      refine (N1.out _ HR.out.1).mono ?_
      rintro e w2 ⟨rfl,hR,hg⟩
      have HR2:=Hq (And.intro hR (HR.out.2.trans hg))
      clear hR hg
      go_wp2_with fail
      refine (N2.out _ HR2.out.1).mono ?_
      rintro e w3 ⟨rfl,hR,hg⟩
      have HR3:=Hq (And.intro hR (HR2.out.2.trans hg))
      clear hR hg
      go_wp2_with fail
      refine (VY.out _ HR3.out.1).mono ?_
      rintro e w4 ⟨rfl,hR,hg⟩
      have HR4:=Hq (And.intro hR (HR3.out.2.trans hg))
      clear hR hg
      go_wp2_with fail
      go_ret
      exact .inl ⟨v+(3+k),E.out,rfl,by rw [show p+(v+(3+k))=p+1+k+1+1+v by omega]; exact HR4.out.1,HR4.out.2⟩
    ·have N2:=Hq (fun w1 h=>calls_no (need53 g s (p+1+k+1) tw lo op 117 117 w1 hs h) (needs_none n2))
     have E:=Hq (show o=none by rw [HO4.out,if_neg (fun h=>n2 h.2)])
     clear n1 n2
     go_enter Tryz.func111,Tryz.ntmps111
     go_wp2_with fail
     refine S.out.mono ?_
     rintro e w' ⟨rfl,n,rfl⟩
     obtain ⟨c0,c1,_,_,_,_,f1,_,_⟩:=(H.out n).facts
     go_wp2_with fail
     refine (UY.out _ (H1.out n).1).mono ?_
     rintro e w1 ⟨rfl,hR,hg⟩
     have HR:=Hq (And.intro hR ((H1.out n).2.trans hg))
     clear hR hg
     go_wp2_with fail
     refine (N1.out _ HR.out.1).mono ?_
     rintro e w2 ⟨rfl,hR,hg⟩
     have HR2:=Hq (And.intro hR (HR.out.2.trans hg))
     clear hR hg
     go_wp2_with fail
     refine (N2.out _ HR2.out.1).mono ?_
     rintro e w3 ⟨rfl,hR,hg⟩
     have HR3:=Hq (And.intro hR (HR2.out.2.trans hg))
     clear hR hg
     go_wp2_with fail
     go_ret
     exact .inr ⟨E.out,rfl,HR3.out.1.mono (by omega),HR3.out.2⟩
   ·have N1:=Hq (fun w1 h=>calls_no (need53 g s (p+1+k) tw lo op 92 92 w1 hs h) (needs_none n1))
    have E:=Hq (show o=none by rw [HO4.out,if_neg (fun h=>n1 h.1)])
    clear n1
    go_enter Tryz.func111,Tryz.ntmps111
    go_wp2_with fail
    refine S.out.mono ?_
    rintro e w' ⟨rfl,n,rfl⟩
    obtain ⟨c0,c1,_,_,_,_,f1,_,_⟩:=(H.out n).facts
    go_wp2_with fail
    refine (UY.out _ (H1.out n).1).mono ?_
    rintro e w1 ⟨rfl,hR,hg⟩
    have HR:=Hq (And.intro hR ((H1.out n).2.trans hg))
    clear hR hg
    go_wp2_with fail
    refine (N1.out _ HR.out.1).mono ?_
    rintro e w2 ⟨rfl,hR,hg⟩
    have HR2:=Hq (And.intro hR (HR.out.2.trans hg))
    clear hR hg
    go_wp2_with fail
    go_ret
    exact .inr ⟨E.out,rfl,HR2.out.1.mono (by omega),HR2.out.2⟩
theorem escape111(g:Nat)(s:ByteArray)(p:Nat)(tw lo op:Bool)(w:World)(hs:s.size≤140737488355328)(h:R w g s p tw lo 0 op):
  Calls Tryz.prog 111 #[.pointer (some ⟨g,0,none⟩)] w (Did g s tw lo op p (escO lo ((bytes s).drop p)) w):=by
 unfold escO
 by_cases hc:isSimple (((bytes s).drop p).headD 0)
 ·rw [if_pos hc]
  exact escape_simple g s p tw lo op w hs h hc
 ·rw [if_neg hc]
  by_cases hu:((bytes s).drop p).headD 0=117
  ·rw [if_pos hu]
   have e:=escape_u g s p tw lo op w hs h hu _ (Hq rfl)
   simp only [tail_drop1,List.drop_drop]
   simp only [show ∀ k,p+(1+k)=p+1+k from fun k=>by omega,show ∀ k,p+(2+k)=p+1+k+1 from fun k=>by omega,show ∀ k,p+(3+k)=p+1+k+1+1 from fun k=>by omega]
   exact e
  ·rw [if_neg hu]
   exact escape_bad g s p tw lo op w h hc hu
end Go.Proofs.YtknaalohaagcdaaGreatDoor.Own
