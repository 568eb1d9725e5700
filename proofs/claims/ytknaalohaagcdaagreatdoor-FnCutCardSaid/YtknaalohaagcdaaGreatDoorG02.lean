import Derived.Test.YtknaalohaagcdaaGreatDoorG01
set_option maxHeartbeats 400000000
set_option maxRecDepth 100000
namespace Go.Proofs.YtknaalohaagcdaaGreatDoor.Own
open Go.RowKit JG
theorem num_head(xs:List Int):num xs=if xs.headD 0=45 then (whole xs.tail).map (·+1) else whole xs:=by cases xs<;>rfl
theorem whole_head(xs:List Int):whole xs=if xs.headD 0=48 then (frac xs.tail).map (·+1) else (digsO xs).bind fun k=>(frac (xs.drop k)).map (·+k):=by cases xs<;>rfl
theorem frac_head(xs:List Int):frac xs=if xs.headD 0=46 then (digsO xs.tail).bind fun k=>(expo (xs.tail.drop k)).map (·+(1+k)) else expo xs:=by cases xs<;>rfl
theorem sgn_head(xs:List Int):sgn xs=if xs.headD 0=45∨xs.headD 0=43 then 1 else 0:=by cases xs<;>rfl
theorem expo_head(xs:List Int):expo xs=if xs.headD 0=101∨xs.headD 0=69 then (digsO (xs.tail.drop (sgn xs.tail))).map (·+(1+sgn xs.tail)) else some 0:=by cases xs<;>rfl
theorem map_add(o:Option Nat)(a b:Nat):(o.map (·+a)).map (·+b)=o.map (·+(a+b)):=by
 rw [Option.map_map]
 congr 1
 funext x
 show x+a+b=x+(a+b)
 omega
theorem tail_drop1(xs:List Int)(q:Nat):(xs.drop q).tail=xs.drop (q+1):=by rw [List.tail_drop]
theorem headD_lt{s:ByteArray}{q:Nat}{c:Int}(h:((bytes s).drop q).headD 0=c)(h0:c≠0):q<s.size:=by
 by_cases hq:q<s.size
 ·exact hq
 ·rw [bytes_end (by omega)] at h
  exact absurd h.symm h0
theorem digs_le(xs:List Int):digs xs≤xs.length:=by
 induction xs with
 |nil=>simp [digs]
 |cons c t ih=>unfold digs; split<;>simp<;>omega
theorem digsO_le{s:ByteArray}{q k:Nat}(h:digsO ((bytes s).drop q)=some k):q+k≤s.size:=by
 unfold digsO at h
 split at h
 ·cases h
 ·have h1:=digs_le ((bytes s).drop q)
  rw [List.length_drop,bytes_len] at h1
  have h2:=Option.some.inj h
  omega
theorem see_c(g:Nat)(s:ByteArray)(p:Nat)(tw lo:Bool)(fa:Int)(op:Bool)(c:Int)(hc:((bytes s).drop p).headD 0=c)(w:World)(h:R w g s p tw lo fa op):
  Calls Tryz.prog 44 #[.pointer (some ⟨g,0,none⟩)] w fun e w'=>e=.returned (.int .u8 c)∧∃ n,w'=w.drewN n:=by
 rw [← hc]
 exact see44 g s p tw lo fa op w h
theorem number56(g:Nat)(s:ByteArray)(p:Nat)(tw lo op:Bool)(w:World)(hs:s.size≤140737488355328)(h:R w g s p tw lo 0 op):
  Calls Tryz.prog 56 #[.pointer (some ⟨g,0,none⟩)] w (Did g s tw lo op p (num ((bytes s).drop p)) w):=by
 obtain ⟨c,HC⟩:∃ c,Hid (((bytes s).drop p).headD 0=c):=⟨_,Hq rfl⟩
 have S:=Hq (see_c g s p tw lo 0 op c HC.out w h)
 have H:=Hq h
 clear h
 go_enter Tryz.func56,Tryz.ntmps56
 go_upto_if 5 with (go_at_call 44; refine S.out.mono ?_; rintro e w' ⟨rfl,n,rfl⟩)
 go_cut [] from 3 to 13 (fun wc=>∃ q,p≤q∧q≤p+1∧(p<s.size∨q=p)∧Hid (num ((bytes s).drop p)=(whole ((bytes s).drop q)).map (·+(q-p)))∧Hid (R wc g s q tw lo 0 op)∧Hid (w.grownBy wc (some g)))
 case first=>
  have HR:=Hq (H.out.drew n)
  obtain ⟨c0,c1,_,_,_,_,f1,_,_⟩:=HR.out.facts
  by_cases hc:c=45
  ·have t:(c==45)=true:=by simpa using hc
   have hlt:=headD_lt HC.out (by omega)
   have E:=Hq (show num ((bytes s).drop p)=(whole ((bytes s).drop (p+1))).map (·+(p+1-p)) by
    rw [num_head,if_pos (by rw [HC.out]; exact hc),tail_drop1,show p+1-p=1 by omega])
   clear hc
   go_wp2_with fail
   go_meet
   case rel=>exact ⟨p+1,by omega,by omega,.inl hlt,E,Hq (HR.out.setAt (p+1) (by omega)),Hq (gb_set (gb_drewN (World.grownBy.refl _ _) _) _ _)⟩
  ·have t:(c==45)=false:=by simpa using hc
   have E:=Hq (show num ((bytes s).drop p)=(whole ((bytes s).drop p)).map (·+(p-p)) by
    rw [num_head,if_neg (by rw [HC.out]; exact hc),Nat.sub_self]; simp)
   clear hc
   go_wp2_with fail
   go_meet
   case rel=>exact ⟨p,by omega,by omega,.inr rfl,E,HR,Hq (gb_drewN (World.grownBy.refl _ _) _)⟩
 case rest=>
  clear S HC
  obtain ⟨q,hq1,hq2,hq3,HE,HR,HB⟩:=hcut
  have hpq:p≤q:=hq1
  obtain ⟨c,HC⟩:∃ c,Hid (((bytes s).drop q).headD 0=c):=⟨_,Hq rfl⟩
  have S:=Hq (see_c g s q tw lo 0 op c HC.out _ HR.out)
  have HQ:=Hq (And.intro hq1 (And.intro hq2 hq3))
  clear hq1 hq2 hq3
  go_upto_if 15 with (go_at_call 44; refine S.out.mono ?_; rintro e w' ⟨rfl,n,rfl⟩)
  go_cut [] from 13 to 26 (fun wc=>∃ q,p≤q∧q≤s.size∧Hid (num ((bytes s).drop p)=(frac ((bytes s).drop q)).map (·+(q-p)))∧Hid (R wc g s q tw lo 0 op)∧Hid (w.grownBy wc (some g)))
  case first=>
   have HR1:=Hq (HR.out.drew n)
   have HB1:=Hq (gb_drewN HB.out n)
   obtain ⟨c0,c1,_,_,_,_,f1,_,_⟩:=HR1.out.facts
   clear HR HB S
   by_cases hc:c=48
   ·have t:(c==48)=true:=by simpa using hc
    have hlt:=headD_lt HC.out (by omega)
    have E:=Hq (show num ((bytes s).drop p)=(frac ((bytes s).drop (q+1))).map (·+(q+1-p)) by
     rw [HE.out,whole_head,if_pos (by rw [HC.out]; exact hc),tail_drop1,map_add,show 1+(q-p)=q+1-p by omega])
    clear hc
    go_wp2_with fail
    go_meet
    case rel=>exact ⟨q+1,by omega,by omega,E,Hq (HR1.out.setAt (q+1) (by omega)),Hq (gb_set HB1.out _ _)⟩
   ·have t:(c==48)=false:=by simpa using hc
    have D:=digits113 g s q tw lo op _ hs HR1.out
    cases hd:digsO ((bytes s).drop q) with
    |none=>
     have DN:=Hq (calls_no D hd)
     have E:=Hq (show num ((bytes s).drop p)=none by
      rw [HE.out,whole_head,if_neg (by rw [HC.out]; exact hc),hd]; rfl)
     clear D hd hc
     go_wp2_with fail
     refine DN.out.mono ?_
     rintro e w1 ⟨rfl,hR,hg⟩
     have HD:=Hq (And.intro hR hg)
     clear hR hg
     go_wp2_with fail
     go_ret
     exact .inr ⟨E.out,rfl,HD.out.1.mono (by omega),HB1.out.trans HD.out.2⟩
    |some k=>
     have hk:=digsO_le hd
     have DY:=Hq (calls_yes D hd)
     have E:=Hq (show num ((bytes s).drop p)=(frac ((bytes s).drop (q+k))).map (·+(q+k-p)) by
      rw [HE.out,whole_head,if_neg (by rw [HC.out]; exact hc),hd]
      show ((frac (List.drop k (List.drop q (bytes s)))).map (·+k)).map (·+(q-p))=_
      rw [map_add,List.drop_drop,show k+(q-p)=q+k-p by omega])
     clear D hd hc
     go_wp2_with fail
     refine DY.out.mono ?_
     rintro e w1 ⟨rfl,hR,hg⟩
     have HD:=Hq (And.intro hR hg)
     clear hR hg
     go_wp2_with fail
     go_meet
     case rel=>exact ⟨q+k,by omega,hk,E,Hq HD.out.1,Hq (HB1.out.trans HD.out.2)⟩
  case rest=>
   clear S HC HE HR HB HQ hpq
   obtain ⟨q,hq1,hq2,HE,HR,HB⟩:=hcut
   obtain ⟨c,HC⟩:∃ c,Hid (((bytes s).drop q).headD 0=c):=⟨_,Hq rfl⟩
   have S:=Hq (see_c g s q tw lo 0 op c HC.out _ HR.out)
   go_upto_if 28 with (go_at_call 44; refine S.out.mono ?_; rintro e w' ⟨rfl,n,rfl⟩)
   go_cut [] from 26 to 39 (fun wc=>∃ q,p≤q∧q≤s.size∧Hid (num ((bytes s).drop p)=(expo ((bytes s).drop q)).map (·+(q-p)))∧Hid (R wc g s q tw lo 0 op)∧Hid (w.grownBy wc (some g)))
   case first=>
    have HR1:=Hq (HR.out.drew n)
    have HB1:=Hq (gb_drewN HB.out n)
    obtain ⟨c0,c1,_,_,_,_,f1,_,_⟩:=HR1.out.facts
    clear HR HB S
    by_cases hc:c=46
    ·have t:(c==46)=true:=by simpa using hc
     have hlt:=headD_lt HC.out (by omega)
     have D:=fun w1 (h:R w1 g s (q+1) tw lo 0 op)=>digits113 g s (q+1) tw lo op w1 hs h
     have HR2:=Hq (HR1.out.setAt (q+1) (by omega))
     have HB2:=Hq (gb_set HB1.out 1 (.int .i64 (q+1:Nat)))
     cases hd:digsO ((bytes s).drop (q+1)) with
     |none=>
      have DN:=Hq (calls_no (D _ HR2.out) hd)
      have E:=Hq (show num ((bytes s).drop p)=none by
       rw [HE.out,frac_head,if_pos (by rw [HC.out]; exact hc),tail_drop1,hd]; rfl)
      clear D hd hc
      go_wp2_with fail
      refine DN.out.mono ?_
      rintro e w1 ⟨rfl,hR,hg⟩
      have HD:=Hq (And.intro hR hg)
      clear hR hg
      go_wp2_with fail
      go_ret
      exact .inr ⟨E.out,rfl,HD.out.1.mono (by omega),HB2.out.trans HD.out.2⟩
     |some k=>
      have hk:=digsO_le hd
      have DY:=Hq (calls_yes (D _ HR2.out) hd)
      have E:=Hq (show num ((bytes s).drop p)=(expo ((bytes s).drop (q+1+k))).map (·+(q+1+k-p)) by
       rw [HE.out,frac_head,if_pos (by rw [HC.out]; exact hc),tail_drop1,hd]
       show ((expo (List.drop k (List.drop (q+1) (bytes s)))).map (·+(1+k))).map (·+(q-p))=_
       rw [map_add,List.drop_drop,show 1+k+(q-p)=q+1+k-p by omega])
      clear D hd hc
      go_wp2_with fail
      refine DY.out.mono ?_
      rintro e w1 ⟨rfl,hR,hg⟩
      have HD:=Hq (And.intro hR hg)
      clear hR hg
      go_wp2_with fail
      go_meet
      case rel=>exact ⟨q+1+k,by omega,hk,E,Hq HD.out.1,Hq (HB2.out.trans HD.out.2)⟩
    ·have t:(c==46)=false:=by simpa using hc
     have E:=Hq (show num ((bytes s).drop p)=(expo ((bytes s).drop q)).map (·+(q-p)) by
      rw [HE.out,frac_head,if_neg (by rw [HC.out]; exact hc)])
     clear hc
     go_wp2_with fail
     go_meet
     case rel=>exact ⟨q,by omega,hq2,E,HR1,HB1⟩
   case rest=>
    clear S HC HE HR HB hq1 hq2
    obtain ⟨q,hq1,hq2,HE,HR,HB⟩:=hcut
    obtain ⟨c,HC⟩:∃ c,Hid (((bytes s).drop q).headD 0=c):=⟨_,Hq rfl⟩
    have S:=Hq (fun w h=>see_c g s q tw lo 0 op c HC.out w h)
    obtain ⟨b,HBB⟩:∃ b:Bool,Hid (b=decide (c=101∨c=69)):=⟨_,Hq rfl⟩
    go_upto_region 11 with (fail)
    go_cut [46] from 39 to 47 (fun v wc=>v=.bool b∧Hid (R wc g s q tw lo 0 op)∧Hid (w.grownBy wc (some g)))
    case first=>
     by_cases h1:c=101
     ·have t:(c==101)=true:=by simpa using h1
      have E:=Hq (show true=b by rw [HBB.out]; simp [h1])
      clear h1
      go_wp2_with fail
      refine (S.out _ HR.out).mono ?_
      rintro e w' ⟨rfl,n,rfl⟩
      go_wp2_with fail
      go_meet
      case rel=>exact ⟨by rw [E.out],Hq (HR.out.drew n),Hq (gb_drewN HB.out n)⟩
     ·have t:(c==101)=false:=by simpa using h1
      have E:=Hq (show (c==69)=b by rw [HBB.out]; simp [h1]; rfl)
      clear h1
      go_wp2_with fail
      refine (S.out _ HR.out).mono ?_
      rintro e w' ⟨rfl,n,rfl⟩
      go_wp2_with fail
      refine (S.out _ (HR.out.drew n)).mono ?_
      rintro e w' ⟨rfl,m,rfl⟩
      go_wp2_with fail
      go_meet
      case rel=>exact ⟨by rw [E.out],Hq (HR.out.drew (n+m)),Hq (gb_drewN HB.out (n+m))⟩
    case rest=>
     clear HR HB
     obtain ⟨rfl,HR,HB⟩:=hcut
     cases b
     ·have E:=Hq (show num ((bytes s).drop p)=some (q-p) by
       rw [HE.out,expo_head,if_neg (by rw [HC.out]; exact of_decide_eq_false HBB.out.symm)]; simp)
      go_wp2_with fail
      go_ret
      refine .inl ⟨q-p,E.out,rfl,?_,HB.out⟩
      rw [show p+(q-p)=q by omega]
      exact HR.out
     ·have hcc:c=101∨c=69:=of_decide_eq_true HBB.out.symm
      have hlt:=headD_lt HC.out (by omega)
      have E1:=Hq (show num ((bytes s).drop p)=(digsO ((bytes s).drop (q+1+sgn ((bytes s).drop (q+1))))).map (·+(q+1+sgn ((bytes s).drop (q+1))-p)) by
       rw [HE.out,expo_head,if_pos (by rw [HC.out]; exact hcc),tail_drop1,map_add,List.drop_drop]
       rw [show 1+sgn ((bytes s).drop (q+1))+(q-p)=q+1+sgn ((bytes s).drop (q+1))-p by omega])
      clear hcc HE S HBB
      obtain ⟨c0,c1,_,_,_,_,f1,_,_⟩:=HR.out.facts
      go_upto_region 13 with (fail)
      have HR2:=Hq (HR.out.setAt (q+1) (by omega))
      have HB2:=Hq (gb_set HB.out 1 (.int .i64 (q+1:Nat)))
      clear c0 c1 f1
      obtain ⟨c',HC'⟩:∃ c',Hid (((bytes s).drop (q+1)).headD 0=c'):=⟨_,Hq rfl⟩
      have S:=Hq (fun w h=>see_c g s (q+1) tw lo 0 op c' HC'.out w h)
      obtain ⟨b',HBB⟩:∃ b:Bool,Hid (b=decide (c'=45∨c'=43)):=⟨_,Hq rfl⟩
      go_cut [61] from 54 to 62 (fun v wc=>v=.bool b'∧Hid (R wc g s (q+1) tw lo 0 op)∧Hid (w.grownBy wc (some g)))
      case first=>
       by_cases h1:c'=43
       ·have t:(c'==43)=true:=by simpa using h1
        have E:=Hq (show true=b' by rw [HBB.out]; simp [h1])
        clear h1
        go_wp2_with fail
        refine (S.out _ HR2.out).mono ?_
        rintro e w' ⟨rfl,n,rfl⟩
        go_wp2_with fail
        go_meet
        case rel=>exact ⟨by rw [E.out],Hq (HR2.out.drew n),Hq (gb_drewN HB2.out n)⟩
       ·have t:(c'==43)=false:=by simpa using h1
        have E:=Hq (show (c'==45)=b' by rw [HBB.out]; simp [h1]; rfl)
        clear h1
        go_wp2_with fail
        refine (S.out _ HR2.out).mono ?_
        rintro e w' ⟨rfl,n,rfl⟩
        go_wp2_with fail
        refine (S.out _ (HR2.out.drew n)).mono ?_
        rintro e w' ⟨rfl,m,rfl⟩
        go_wp2_with fail
        go_meet
        case rel=>exact ⟨by rw [E.out],Hq (HR2.out.drew (n+m)),Hq (gb_drewN HB2.out (n+m))⟩
      case rest=>
       clear HR HB HR2 HB2
       obtain ⟨rfl,HR,HB⟩:=hcut
       obtain ⟨c0,c1,_,_,_,_,f1,_,_⟩:=HR.out.facts
       obtain ⟨r,HRR⟩:∃ r,Hid (r=q+1+sgn ((bytes s).drop (q+1))):=⟨_,Hq rfl⟩
       rw [← HRR.out] at E1
       have hr1:q+1≤r:=by rw [HRR.out]; omega
       go_upto_if 61 with (fail)
       go_cut [] from 62 to 69 (fun wc=>Hid (R wc g s r tw lo 0 op)∧Hid (w.grownBy wc (some g)))
       case first=>
        cases b'
        ·have e0:r=q+1:=by
          rw [HRR.out,sgn_head,if_neg (by rw [HC'.out]; exact of_decide_eq_false HBB.out.symm)]
         have E0:=Hq e0
         clear e0
         go_wp2_with fail
         go_meet
         case rel=>exact ⟨by rw [E0.out]; exact HR,HB⟩
        ·have hcc:=of_decide_eq_true HBB.out.symm
         have hlt2:=headD_lt HC'.out (by omega)
         have e0:r=q+1+1:=by
          rw [HRR.out,sgn_head,if_pos (by rw [HC'.out]; exact hcc)]
         have E0:=Hq e0
         have HR3:=Hq (HR.out.setAt (q+1+1) (by omega))
         clear e0 hcc
         go_wp2_with fail
         go_meet
         case rel=>exact ⟨by rw [E0.out]; exact HR3,Hq (gb_set HB.out _ _)⟩
       case rest=>
        clear c0 c1 f1 HR HB
        obtain ⟨HR,HB⟩:=hcut
        have D:=digits113 g s r tw lo op _ hs HR.out
        cases hd:digsO ((bytes s).drop r) with
        |none=>
         have DN:=Hq (calls_no D hd)
         have E:=Hq (E1.out.trans (by rw [hd]; rfl:_=none))
         clear D hd
         go_wp2_with fail
         refine DN.out.mono ?_
         rintro e w1 ⟨rfl,hR,hg⟩
         have HD:=Hq (And.intro hR hg)
         clear hR hg
         go_wp2_with fail
         go_ret
         exact .inr ⟨E.out,rfl,HD.out.1.mono (by omega),HB.out.trans HD.out.2⟩
        |some k=>
         have DY:=Hq (calls_yes D hd)
         have E:=Hq (E1.out.trans (by rw [hd]; rfl:_=some (k+(r-p))))
         clear D hd
         go_wp2_with fail
         refine DY.out.mono ?_
         rintro e w1 ⟨rfl,hR,hg⟩
         have HD:=Hq (And.intro hR hg)
         clear hR hg
         go_wp2_with fail
         go_ret
         refine .inl ⟨_,E.out,rfl,?_,HB.out.trans HD.out.2⟩
         rw [show p+(k+(r-p))=r+k by omega]
         exact HD.out.1
theorem hex168(c:Int)(h0:0≤c)(h1:c≤255)(w:World):Calls Tryz.prog 168 #[.int .u8 c] w fun e w'=>e=.returned (.int .i64 (hexv c))∧w'=w:=by
 by_cases a1:48≤c∧c≤57
 ·rw [show hexv c=c-48 by unfold hexv; rw [if_pos a1]]
  obtain ⟨a1,a2⟩:=a1
  go_enter Tryz.func168,Tryz.ntmps168
  go_wp2
  go_ret
  exact ⟨rfl,rfl⟩
 ·by_cases a2:97≤c∧c≤102
  ·rw [show hexv c=c-97+10 by unfold hexv; rw [if_neg a1,if_pos a2]; omega]
   have b1:¬ c≤57:=by omega
   have b0:48≤c:=by omega
   obtain ⟨a2,a3⟩:=a2
   clear a1
   go_enter Tryz.func168,Tryz.ntmps168
   go_wp2
   go_ret
   exact ⟨rfl,rfl⟩
  ·by_cases a3:65≤c∧c≤70
   ·rw [show hexv c=c-65+10 by unfold hexv; rw [if_neg a1,if_neg a2,if_pos a3]; omega]
    have b1:¬ c≤57:=by omega
    have b0:48≤c:=by omega
    have b2:¬ 97≤c:=by omega
    obtain ⟨a3,a4⟩:=a3
    clear a1 a2
    go_enter Tryz.func168,Tryz.ntmps168
    go_wp2
    go_ret
    exact ⟨rfl,rfl⟩
   ·rw [show hexv c = -1 by unfold hexv; rw [if_neg a1,if_neg a2,if_neg a3]]
    go_enter Tryz.func168,Tryz.ntmps168
    go_wp2
    all_goals go_ret
    all_goals exact ⟨rfl,rfl⟩
def hexO(l m:Int)(xs:List Int):Option Nat:=if hexv (xs.headD 0)<l∨m<hexv (xs.headD 0) then none else some 1
theorem headD_byte(s:ByteArray)(q:Nat):0≤((bytes s).drop q).headD 0∧((bytes s).drop q).headD 0≤255:=by
 by_cases h:q<s.size
 ·rw [bytes_drop h]
  have:=s[q].toNat_lt
  exact ⟨by show (0:Int)≤(s[q].toNat:Int); omega,by show (s[q].toNat:Int)≤255; omega⟩
 ·rw [bytes_end (by omega)]
  simp
theorem hex167(g:Nat)(s:ByteArray)(p:Nat)(tw lo op:Bool)(a b:Int)(ha:0≤a)(w:World)(hs:s.size≤140737488355328)(h:R w g s p tw lo 0 op):
  Calls Tryz.prog 167 #[.pointer (some ⟨g,0,none⟩),.int .i64 a,.int .i64 b] w (Did g s tw lo op p (hexO a b ((bytes s).drop p)) w):=by
 obtain ⟨c,HC⟩:∃ c,Hid (((bytes s).drop p).headD 0=c):=⟨_,Hq rfl⟩
 have hc:=headD_byte s p
 rw [HC.out] at hc
 obtain ⟨x,HX⟩:∃ x,Hid (hexv c=x):=⟨_,Hq rfl⟩
 have S:=Hq (see_c g s p tw lo 0 op c HC.out w h)
 have X:=Hq (fun n=>hex168 c hc.1 hc.2 (w.drewN n))
 rw [HX.out] at X
 have F:=Hq (fun n=>fail25 g s p tw lo op 4 (w.drewN n) (h.drew n))
 have H:=Hq (fun n=>h.drew n)
 clear h hc
 by_cases h1:x<a
 ·have E:=Hq (show hexO a b ((bytes s).drop p)=none by unfold hexO; rw [HC.out,HX.out,if_pos (.inl h1)])
  clear ha
  go_enter Tryz.func167,Tryz.ntmps167
  go_wp2_with fail
  refine S.out.mono ?_
  rintro e w' ⟨rfl,n,rfl⟩
  go_wp2_with fail
  refine (X.out _).mono ?_
  rintro e w' ⟨rfl,rfl⟩
  go_wp2_with fail
  refine (F.out _).mono ?_
  rintro e w' ⟨rfl,hR,hg⟩
  have HR:=Hq (And.intro hR hg)
  clear hR hg
  go_wp2_with fail
  go_ret
  exact .inr ⟨E.out,rfl,⟨p,4,by decide,Nat.le_refl _,HR.out.1⟩,(gb_drewN (World.grownBy.refl _ _) _).trans HR.out.2⟩
 ·by_cases h2:b<x
  ·have E:=Hq (show hexO a b ((bytes s).drop p)=none by unfold hexO; rw [HC.out,HX.out,if_pos (.inr h2)])
   clear ha
   go_enter Tryz.func167,Tryz.ntmps167
   go_wp2_with fail
   refine S.out.mono ?_
   rintro e w' ⟨rfl,n,rfl⟩
   go_wp2_with fail
   refine (X.out _).mono ?_
   rintro e w' ⟨rfl,rfl⟩
   go_wp2_with fail
   refine (F.out _).mono ?_
   rintro e w' ⟨rfl,hR,hg⟩
   have HR:=Hq (And.intro hR hg)
   clear hR hg
   go_wp2_with fail
   go_ret
   exact .inr ⟨E.out,rfl,⟨p,4,by decide,Nat.le_refl _,HR.out.1⟩,(gb_drewN (World.grownBy.refl _ _) _).trans HR.out.2⟩
  ·have E:=Hq (show hexO a b ((bytes s).drop p)=some 1 by unfold hexO; rw [HC.out,HX.out,if_neg (by omega)])
   have hx0:0≤hexv c:=by rw [HX.out]; omega
   have hlt:p<s.size:=headD_lt HC.out (fun hh=>by rw [hh] at hx0; revert hx0; decide)
   clear ha hx0
   go_enter Tryz.func167,Tryz.ntmps167
   go_wp2_with fail
   refine S.out.mono ?_
   rintro e w' ⟨rfl,n,rfl⟩
   go_wp2_with fail
   refine (X.out _).mono ?_
   rintro e w' ⟨rfl,rfl⟩
   obtain ⟨c0,c1,_,_,_,_,f1,_,_⟩:=(H.out n).facts
   go_wp2_with fail
   go_ret
   exact .inl ⟨1,E.out,rfl,(H.out n).setAt (p+1) (by omega),gb_set (gb_drewN (World.grownBy.refl _ _) _) _ _⟩
end Go.Proofs.YtknaalohaagcdaaGreatDoor.Own
