import Derived.Test.YtknaalohaagcdaaGreatDoorG01
import Derived.Test.YtknaalohaagcdaaGreatDoorG15
import Derived.Deep.CutBlock
set_option maxHeartbeats 400000000
set_option maxRecDepth 100000
namespace Go.Proofs.YtknaalohaagcdaaGreatDoor.Own
open Go.RowKit JG
theorem prefixW(B q cap n:Nat)(s:ByteArray)(low:Bool)(w:World)(hs:s.size≤4294967296)(hq:q+n≤s.size)(hB:Bf w B s):
  Calls Tryz.prog 158 #[.slice (some ⟨B,q,none⟩) n cap,.bool low] w fun e w'=>∃ b,e=.returned (.bool b)∧w=w':=
 (prefix158 B q cap n s low w hs hq hB).mono fun _ _ ⟨b,h1,h2⟩=>⟨b,h1,h2.symm⟩
theorem prefixN(ao:Option Addr)(cap:Nat)(low:Bool)(w:World):Calls Tryz.prog 158 #[.slice ao 0 cap,.bool low] w fun e w'=>∃ b,e=.returned (.bool b)∧w=w':=
 (prefix158_nil ao cap low w).mono fun _ _ ⟨b,h1,h2⟩=>⟨b,h1,h2.symm⟩
theorem surrW(c:Int)(b:Bool)(w:World)(h:(decide (55296≤c)&&decide (c<57344))=b):Calls Tryz.prog 161 #[.int .i32 c] w fun e w'=>e=.returned (.bool b)∧w=w':=
 (surr161 c w).mono fun _ _ ⟨h1,h2⟩=>⟨by rw [h1,h],h2.symm⟩
theorem pairW(a b r:Int)(w:World)(h:pairO a b=r):Calls Tryz.prog 162 #[.int .i32 a,.int .i32 b] w fun e w'=>e=.returned (.int .i32 r)∧w=w':=
 (pair162 a b w).mono fun _ _ ⟨h1,h2⟩=>⟨by rw [h1,h],h2.symm⟩
theorem hexW(B q cap:Nat)(s:ByteArray)(w:World)(hv:Int)(ok:Bool)(hq:q+4≤s.size)(hB:Bf w B s)(hh:hexR (hex4 ((bytes s).drop q))=(hv,ok)):
  Calls Tryz.prog 160 #[.slice (some ⟨B,q,none⟩) 4 cap] w fun e w'=>e=.returned (.tuple #[.int .u16 hv,.bool ok])∧w=w':=
 (hex160 B q cap s w hq hB).mono fun _ _ ⟨h1,h2⟩=>⟨by rw [h1,hh],h2.symm⟩
theorem str139(F B p cap L:Nat)(fl0:Int)(lo:Bool)(s:ByteArray)(eU eI:Value)(w:World)(hs:s.size≤4294967296)(hL:p+L=s.size)(hcap:L≤cap)(hW:SW B s eU eI F w)(hF:Fl w F fl0):
  Calls Tryz.prog 139 #[.pointer (some ⟨F,0,none⟩),.slice (some ⟨B,p,none⟩) L cap,.int .i64 0,.bool (!lo)] w (StrP lo ((bytes s).drop p) F eU eI w):=by
 have hlen:((bytes s).drop p).length=L:=by rw [List.length_drop,bytes_len]; omega
 have hL4:L≤4294967296:=by omega
 have HLQ:=Hq hL
 have HSZ:=Hq hs
 have HLEN:=Hq hlen
 clear hL hs hlen
 by_cases hq:∃ h:p<s.size,(s[p].toNat:Int)=34
 ·obtain ⟨hlt,h34⟩:=hq
  have c0:=hW.buf p hlt
  rw [h34] at c0
  have hd:=bytes_drop hlt
  rw [h34] at hd
  have S0:=Hq (show SoFar lo s p 1 fl0 from ⟨by rw [hd]; unfold quotedO; rw [if_pos (by rfl)]; rfl,fun _=>VerbL.nil⟩)
  have hL1:1≤L:=by have:=HLQ.out; omega
  have t0:((L:Int)==0)=false:=by simp; omega
  have HS0:=Hq (show SS B s eU eI F w w fl0 from ⟨hW,hF,World.grownBy.refl _ _⟩)
  have HD:=Hq hd
  clear hd hW hF h34 hlt
  go_enter Tryz.func139,Tryz.ntmps139
  go_wp2_with fail
  go_loopg [8] (L-1) (fun gk v8 wr=>∃ (n:Nat) (fl:Int),v8=.int .i64 n∧1≤n∧n≤L∧Hid (SS B s eU eI F w wr fl)∧Hid (SoFar lo s p n fl)∧Hid (gk=L-n))
  case atStart=>exact ⟨1,fl0,rfl,Nat.le_refl _,by omega,HS0,S0,Hq rfl⟩
  case round=>
   clear c0 HS0 S0 t0
   obtain ⟨n,fl,rfl,hn1,hnL,HW,HS,HG⟩:=hrel
   have ce:=HW.out.sw.gl.eof
   have ci:=HW.out.sw.gl.inv
   by_cases hnl:n<L
   ·have t1:decide (n<L)=true:=by simpa using hnl
    go_wp2_with fail
    go_loopg [8] (L-n) (fun gk2 v8 wr2=>∃ n2:Nat,v8=.int .i64 n2∧n≤n2∧n2≤L∧Hid (SoFar lo s p n2 fl)∧Hid (gk2=L-n2)∧wr2=wr)
    case atStart=>exact ⟨n,rfl,Nat.le_refl _,hnL,HS,Hq rfl,rfl⟩
    case round=>
     clear t1
     obtain ⟨n2,rfl,hn2,hn2L,HS2,HG2,rfl⟩:=hrel
     have j0:(0:Int)≤(n2:Int):=Int.natCast_nonneg _
     by_cases hlt2:n2<L
     ·have t2:decide (n2<L)=true:=by simpa using hlt2
      have j1:(n2:Int)<(L:Int):=by omega
      have hltb:p+n2<s.size:=by have:=HLQ.out; omega
      have hdn:=bytes_drop hltb
      have cn:=HW.out.sw.buf (p+n2) hltb
      have hcb:=s[p+n2].toNat_lt
      obtain ⟨c,hcc⟩:∃ c:Int,(s[p+n2].toNat:Int)=c:=⟨_,rfl⟩
      have HCC:=Hq hcc
      have hcb:0≤c∧c≤255:=by omega
      rw [hcc] at hdn cn
      have HDN:=Hq hdn
      clear hdn hcc
      by_cases hpl:plainB c=true
      ·have N1:=Hq (noEscB c true hpl)
       have S1:=Hq (HS2.out.one (by omega) HDN.out hpl)
       clear hpl hcb ce ci
       go_wp2_with fail
       refine (N1.out _).mono ?_
       rintro e w' ⟨rfl,rfl⟩
       go_wp2_with fail
       go_roundg (L-(n2+1))
       case measure=>have:=HG2.out; omega
       case rel=>exact ⟨n2+1,by go_num,by omega,by omega,S1,Hq rfl,rfl⟩
      ·have hpl0:plainB c=false:=by simpa using hpl
       have N1:=Hq (noEscB c false hpl0)
       by_cases a1:c=34
       ·have E:=Hq (HS2.out.done (HDN.out.trans (by rw [a1])))
        subst a1
        clear hpl hpl0 hcb ce ci
        go_wp2_with fail
        refine (N1.out _).mono ?_
        rintro e w' ⟨rfl,rfl⟩
        go_wp2_with fail
        go_ret2
        refine .inl ⟨n2,fl,E.out,rfl,HW.out.fl,fun h => ?_,HW.out.gb⟩
        rw [HD.out]
        exact HS2.out.2 h
       ·have t34:(c==34)=false:=by simpa using a1
        have D:=decode142 B (p+n2) (cap-n2) s wr HW.out.sw.gl.tabs hltb HW.out.sw.buf
        rw [show s.size-(p+n2)=L-n2 by have:=HLQ.out; omega] at D
        have D:=Hq D
        have HPL:=Hq (And.intro hpl0 a1)
        have hn2c:n2<cap:=by omega
        clear hpl hpl0 a1
        go_wp2_with fail
        refine (N1.out _).mono ?_
        rintro e w' ⟨rfl,rfl⟩
        go_wp2_with fail
        refine D.out.mono ?_
        rintro e w1 ⟨r,k,rfl,hd,hb⟩
        rw [HDN.out] at hd
        have hk:=DR_le hd (by simp)
        rw [← HDN.out,List.length_drop,bytes_len] at hk
        have hkL:n2+k≤L:=by have:=HLQ.out; omega
        have HW1:=Hq (HW.out.below (below_gb hb))
        have HK:=Hq hk
        clear hb D N1 cn ce ci hk
        rcases (show (c<128∧r=c∧k=1)∨(¬ c<128∧runeO (c::(bytes s).drop (p+n2+1))=some k∧2≤k)∨(¬ c<128∧runeO (c::(bytes s).drop (p+n2+1))=none∧r=65533∧k=1) from hd) with ⟨h128,hrc,rfl⟩|⟨h128,hr,hk2⟩|⟨h128,hr,rfl,rfl⟩
        ·have hrc:=hrc.symm
         subst hrc
         have hcc0:c<32∨c=92:=by
          have h:=HPL.out.1
          have h2:=HPL.out.2
          unfold plainB at h
          simp at h
          omega
         have hcc1:=hcc0
         rcases hcc1 with hc32|hc92
         ·as_aux_lemma=>
          have t92:(c==92)=false:=by simp; omega
          have t65:(c==65533)=false:=by simp; omega
          have t32:decide (c<32)=true:=by simpa using hc32
          have E:=Hq (HS2.out.stop HDN.out HPL.out.2 (stp_ctl hc32))
          have J:=Hq (joinO F fl 3 w1 HW1.out.fl (by omega))
          clear hd h128 hcc0 hc32
          go_wp2_with fail
          refine J.out.mono ?_
          rintro e w2 ⟨fl',rfl,hf2,hodd,hb2⟩
          have HW2:=Hq (HW1.out.join hb2 hf2)
          have CE:=fun wh=>charErr107 B (p+n2) (cap-n2) s wh w2 HW2.out.sw.gl.tabs hltb (by have:=HLQ.out; omega) HW2.out.sw.buf
          rw [show s.size-(p+n2)=L-n2 by have:=HLQ.out; omega] at CE
          have CE:=Hq CE
          clear hf2 hodd hb2 J
          go_wp2_with fail
          refine (CE.out _).mono ?_
          rintro e w3 ⟨b,rfl,hb3⟩
          have HW3:=Hq (HW2.out.below hb3)
          clear hb3 CE
          go_wp2_with fail
          go_ret2
          exact HW3.out.stop E.out (by rw [HLEN.out]; omega) (.inr (.inr ⟨_,rfl⟩))
         ·subst hc92
          have J:=Hq (joinO F fl 1 w1 HW1.out.fl (by omega))
          clear hd h128 hcc0 hcb t34 hkL
          go_wp2_with fail
          refine J.out.mono ?_
          rintro e w2 ⟨fl1,rfl,hf2,hodd,hb2⟩
          have HW2:=Hq (HW1.out.join hb2 hf2)
          have HOD:=Hq hodd
          clear hf2 hodd hb2 J HW1 HPL
          by_cases hs2:n2+1<L
          ·have t5:decide ((L:Int)<(n2:Int)+2)=false:=by simp; omega
           have hq1:p+(n2+1)<s.size:=by have:=HLQ.out; omega
           have cd:=HW2.out.sw.buf (p+(n2+1)) hq1
           have hd1:=bytes_drop hq1
           have hdb:=s[p+(n2+1)].toNat_lt
           obtain ⟨d,hdd⟩:∃ d:Int,(s[p+(n2+1)].toNat:Int)=d:=⟨_,rfl⟩
           have hdb:0≤d∧d≤255:=by omega
           have i0:(0:Int)≤(n2:Int)+1:=by omega
           have i1:(n2:Int)+1<(L:Int):=by omega
           have iw:((n2:Int)+1).toNat=n2+1:=by omega
           rw [hdd] at cd hd1
           have HX:=Hq (show (bytes s).drop (p+n2)=92::d::(bytes s).drop (p+(n2+2)) from HDN.out.trans (by rw [show p+n2+1=p+(n2+1) by omega,hd1,show p+(n2+1)+1=p+(n2+2) by omega]))
           clear hd1 hdd HCC HDN
           rcases (show d=47∨d=34∨d=92∨d=98∨d=102∨d=110∨d=114∨d=116∨d=117∨(¬ isSimple d∧¬ d=117) by unfold isSimple; omega) with rfl|rfl|rfl|rfl|rfl|rfl|rfl|rfl|rfl|⟨hns,hnu⟩
           ·as_aux_lemma=>
            have S1:=fun fl' h=>HS2.out.step (k:=2) (fl':=fl') (by omega) HX.out (by decide) (stp_simple (by decide)) h
            have S1:=Hq S1
            have J:=Hq (joinO F fl1 2 w2 HW2.out.fl (.inr (.inr ⟨rfl,HOD.out⟩)))
            go_wp2_with fail
            refine J.out.mono ?_
            rintro e w3 ⟨fl2,rfl,hf3,hodd,hb3⟩
            have HW3:=Hq (HW2.out.join hb3 hf3)
            have HOD2:=Hq hodd
            clear hf3 hodd hb3 J
            go_wp2_with fail
            go_roundg (L-(n2+2))
            case measure=>have:=HG.out; omega
            case rel=>exact ⟨n2+2,fl2,by go_num,by omega,by omega,HW3,Hq (S1.out _ HOD2.out),Hq rfl⟩
           ·as_aux_lemma=>
            have S1:=Hq (HS2.out.step (k:=2) (fl':=fl1) (by omega) HX.out (by decide) (stp_simple (by decide)) HOD.out)
            go_wp2_with fail
            go_roundg (L-(n2+2))
            case measure=>have:=HG.out; omega
            case rel=>exact ⟨n2+2,fl1,by go_num,by omega,by omega,HW2,S1,Hq rfl⟩
           ·as_aux_lemma=>
            have S1:=Hq (HS2.out.step (k:=2) (fl':=fl1) (by omega) HX.out (by decide) (stp_simple (by decide)) HOD.out)
            go_wp2_with fail
            go_roundg (L-(n2+2))
            case measure=>have:=HG.out; omega
            case rel=>exact ⟨n2+2,fl1,by go_num,by omega,by omega,HW2,S1,Hq rfl⟩
           ·as_aux_lemma=>
            have S1:=Hq (HS2.out.step (k:=2) (fl':=fl1) (by omega) HX.out (by decide) (stp_simple (by decide)) HOD.out)
            go_wp2_with fail
            go_roundg (L-(n2+2))
            case measure=>have:=HG.out; omega
            case rel=>exact ⟨n2+2,fl1,by go_num,by omega,by omega,HW2,S1,Hq rfl⟩
           ·as_aux_lemma=>
            have S1:=Hq (HS2.out.step (k:=2) (fl':=fl1) (by omega) HX.out (by decide) (stp_simple (by decide)) HOD.out)
            go_wp2_with fail
            go_roundg (L-(n2+2))
            case measure=>have:=HG.out; omega
            case rel=>exact ⟨n2+2,fl1,by go_num,by omega,by omega,HW2,S1,Hq rfl⟩
           ·as_aux_lemma=>
            have S1:=Hq (HS2.out.step (k:=2) (fl':=fl1) (by omega) HX.out (by decide) (stp_simple (by decide)) HOD.out)
            go_wp2_with fail
            go_roundg (L-(n2+2))
            case measure=>have:=HG.out; omega
            case rel=>exact ⟨n2+2,fl1,by go_num,by omega,by omega,HW2,S1,Hq rfl⟩
           ·as_aux_lemma=>
            have S1:=Hq (HS2.out.step (k:=2) (fl':=fl1) (by omega) HX.out (by decide) (stp_simple (by decide)) HOD.out)
            go_wp2_with fail
            go_roundg (L-(n2+2))
            case measure=>have:=HG.out; omega
            case rel=>exact ⟨n2+2,fl1,by go_num,by omega,by omega,HW2,S1,Hq rfl⟩
           ·as_aux_lemma=>
            have S1:=Hq (HS2.out.step (k:=2) (fl':=fl1) (by omega) HX.out (by decide) (stp_simple (by decide)) HOD.out)
            go_wp2_with fail
            go_roundg (L-(n2+2))
            case measure=>have:=HG.out; omega
            case rel=>exact ⟨n2+2,fl1,by go_num,by omega,by omega,HW2,S1,Hq rfl⟩
           ·as_aux_lemma=>
            by_cases hs6:n2+6≤L
            ·have t6:decide ((L:Int)<(n2:Int)+6)=false:=by simp; omega
             obtain ⟨hv,hhv⟩:∃ hv,hex4 ((bytes s).drop (p+(n2+2)))=hv:=⟨_,rfl⟩
             have hvl:hv<65536:=by rw [← hhv]; exact hex4_lt _
             have H1:=fun v ok h=>hexW B (p+(n2+2)) (cap-(n2+2)) s w2 v ok (by have:=HLQ.out; omega) HW2.out.sw.buf h
             have HHV:=Hq hhv
             clear hhv
             by_cases hneg:hv<0
             ·have H1:=Hq (H1 0 false (by rw [HHV.out]; exact if_pos hneg))
              have E:=Hq (HS2.out.stop HX.out (by decide) (stp_u_none (unitH_bad (by rw [List.length_drop,bytes_len]; have:=HLQ.out; omega) (by rw [HHV.out]; exact hneg))))
              have J:=Hq (joinO F fl1 2 w2 HW2.out.fl (.inr (.inr ⟨rfl,HOD.out⟩)))
              go_wp2_with fail
              refine H1.out.mono ?_
              rintro e w' ⟨rfl,rfl⟩
              go_wp2_with fail
              refine J.out.mono ?_
              rintro e w3 ⟨fl2,rfl,hf3,hodd,hb3⟩
              have HW3:=Hq (HW2.out.join hb3 hf3)
              have CE:=Hq (escErr159 B (p+n2) 6 (cap-n2) s w3 (by have:=HLQ.out; omega) HW3.out.sw.buf)
              clear hf3 hodd hb3 J
              go_wp2_with fail
              refine CE.out.mono ?_
              rintro e w4 ⟨b,rfl,hb4⟩
              have HW4:=Hq (HW3.out.below hb4)
              clear hb4 CE
              go_wp2_with fail
              go_ret2
              exact HW4.out.stop E.out (by rw [HLEN.out]; omega) (.inr (.inr ⟨_,rfl⟩))
             ·have H1:=Hq (H1 hv true (by rw [HHV.out]; exact if_neg hneg))
              have hv0:0≤hv:=by omega
              clear hneg
              go_wp2_with fail
              refine H1.out.mono ?_
              rintro e w' ⟨rfl,rfl⟩
              go_upto_block 7 with (fail)
              go_cut [17] from 185 to 217 (fun v17 wc=>Hid (∃ fl',SS B s eU eI F w wc fl'∧¬ fl' % 2=0))
              case first=>as_aux_lemma=>
               have J:=Hq (fun wr fl' (h:Fl wr F fl') (ho:¬ fl' % 2=0)=>joinO F fl' 2 wr h (.inr (.inr ⟨rfl,ho⟩)))
               by_cases hsp:hv=8∨hv=12∨hv=10∨hv=13∨hv=9
               ·rcases hsp with rfl|rfl|rfl|rfl|rfl
                all_goals
                 go_wp2_with fail
                 refine (J.out w2 fl1 HW2.out.fl HOD.out).mono ?_
                 rintro e w3 ⟨fl2,rfl,hf3,hodd,hb3⟩
                 have R:=Hq (And.intro (HW2.out.join hb3 hf3) hodd)
                 clear hf3 hodd hb3
                 go_wp2_with fail
                 go_meet
                 case rel=>exact Hq ⟨fl2,R.out⟩
               ·have u1:(hv==8)=false:=by simp; omega
                have u2:(hv==12)=false:=by simp; omega
                have u3:(hv==10)=false:=by simp; omega
                have u4:(hv==13)=false:=by simp; omega
                have u5:(hv==9)=false:=by simp; omega
                clear hsp
                by_cases h32:32≤hv
                ·have u6:decide (32≤hv)=true:=by simpa using h32
                 go_wp2_with fail
                 refine (J.out w2 fl1 HW2.out.fl HOD.out).mono ?_
                 rintro e w3 ⟨fl2,rfl,hf3,hodd,hb3⟩
                 have R:=Hq (And.intro (HW2.out.join hb3 hf3) hodd)
                 clear hf3 hodd hb3
                 go_wp2_with fail
                 go_meet
                 case rel=>exact Hq ⟨fl2,R.out⟩
                ·have u6:decide (32≤hv)=false:=by simpa using h32
                 go_wp2_with fail
                 go_loopg [197] 4 (fun gk3 v197 wr3=>∃ (i:Nat) (fl':Int),v197=.int .i64 i∧i≤4∧Hid (SS B s eU eI F w wr3 fl')∧Hid (¬ fl' % 2=0)∧Hid (gk3=4-i))
                 case atStart=>exact ⟨0,fl1,rfl,by omega,HW2,HOD,Hq rfl⟩
                 case round=>
                  obtain ⟨i,fl',rfl,hi,HW3,HOD3,HG3⟩:=hrel
                  by_cases hi4:i<4
                  ·have v1:decide ((i:Int)<4)=true:=by simp; omega
                   have i0':(0:Int)≤(i:Int):=Int.natCast_nonneg _
                   have i1':(i:Int)<4:=by omega
                   have hq3:p+(n2+2)+i<s.size:=by have:=HLQ.out; omega
                   have c3:=HW3.out.sw.buf (p+(n2+2)+i) hq3
                   generalize (s[p+(n2+2)+i].toNat:Int)=c' at c3
                   by_cases h65:65≤c'
                   ·have v2:decide (65≤c')=true:=by simpa using h65
                    by_cases h70:c'≤70
                    ·have v3:decide (c'≤70)=true:=by simpa using h70
                     go_wp2_with fail
                     refine (J.out _ fl' HW3.out.fl HOD3.out).mono ?_
                     rintro e w3 ⟨fl2,rfl,hf3,hodd,hb3⟩
                     have R:=Hq (And.intro (HW3.out.join hb3 hf3) hodd)
                     clear hf3 hodd hb3
                     go_wp2_with fail
                     go_roundg (4-(i+1))
                     case measure=>have:=HG3.out; omega
                     case rel=>exact ⟨i+1,fl2,by go_num,by omega,Hq R.out.1,Hq R.out.2,Hq rfl⟩
                    ·have v3:decide (c'≤70)=false:=by simpa using h70
                     go_wp2_with fail
                     go_roundg (4-(i+1))
                     case measure=>have:=HG3.out; omega
                     case rel=>exact ⟨i+1,fl',by go_num,by omega,HW3,HOD3,Hq rfl⟩
                   ·have v2:decide (65≤c')=false:=by simpa using h65
                    go_wp2_with fail
                    go_roundg (4-(i+1))
                    case measure=>have:=HG3.out; omega
                    case rel=>exact ⟨i+1,fl',by go_num,by omega,HW3,HOD3,Hq rfl⟩
                  ·have v1:decide ((i:Int)<4)=false:=by simp; omega
                   go_wp2_with fail
                   go_meet
                   case rel=>exact Hq ⟨fl',HW3.out,HOD3.out⟩
              case rest=>
               obtain ⟨fl2,hS3,ho3⟩:=hcut.out
               have HW3:=Hq hS3
               have HOD3:=Hq ho3
               clear hS3 ho3 hcut cd H1
               by_cases hlo:lo=true∨hv<55296∨57344≤hv
               ·have S1:=Hq (HS2.out.step (k:=6) (fl':=fl2) (by omega) HX.out (by decide) (stp_u_six (by rw [HHV.out]; exact hv0) (hlo.imp id (fun h=>by rw [HHV.out]; omega))) HOD3.out)
                cases lo
                ·have SU:=Hq (surrW hv false wc (by simp at hlo ⊢; omega))
                 clear hlo
                 go_wp2_with fail
                 refine SU.out.mono ?_
                 rintro e w' ⟨rfl,rfl⟩
                 go_wp2_with fail
                 go_roundg (L-(n2+6))
                 case measure=>have:=HG.out; omega
                 case rel=>exact ⟨n2+6,fl2,by go_num,by omega,by omega,HW3,S1,Hq rfl⟩
                ·clear hlo
                 go_wp2_with fail
                 go_roundg (L-(n2+6))
                 case measure=>have:=HG.out; omega
                 case rel=>exact ⟨n2+6,fl2,by go_num,by omega,by omega,HW3,S1,Hq rfl⟩
               ·obtain ⟨hl,hv1,hv2⟩:lo=false∧55296≤hv∧hv<57344:=by cases lo<;>simp at hlo ⊢<;>omega
                subst hl
                have SU:=Hq (surrW hv true wc (by simp; omega))
                clear hlo
                by_cases hs12:n2+12≤L
                ·have t7:decide ((L:Int)<(n2:Int)+12)=false:=by simp; omega
                 have t8:decide ((L:Int)<(n2:Int)+6+6)=false:=by simp; omega
                 have hqx:p+(n2+6)<s.size:=by have:=HLQ.out; omega
                 have hqy:p+(n2+6+1)<s.size:=by have:=HLQ.out; omega
                 have cx:=HW3.out.sw.buf (p+(n2+6)) hqx
                 have cy:=HW3.out.sw.buf (p+(n2+6+1)) hqy
                 have hdx:=bytes_drop hqx
                 have hdy:=bytes_drop hqy
                 generalize (s[p+(n2+6)].toNat:Int)=x at cx hdx
                 generalize (s[p+(n2+6+1)].toNat:Int)=y at cy hdy
                 have HXY:=Hq (show ((bytes s).drop (p+(n2+2))).drop 4=x::y::(bytes s).drop (p+(n2+6+2)) by
                  rw [List.drop_drop,show p+(n2+2)+4=p+(n2+6) by omega,hdx,show p+(n2+6)+1=p+(n2+6+1) by omega,hdy,show p+(n2+6+1)+1=p+(n2+6+2) by omega])
                 clear hdx hdy
                 obtain ⟨hv',hhv'⟩:∃ hv',hex4 ((bytes s).drop (p+(n2+6+2)))=hv':=⟨_,rfl⟩
                 have hvl':hv'<65536:=by rw [← hhv']; exact hex4_lt _
                 have H2:=fun v ok h=>hexW B (p+(n2+6+2)) (cap-(n2+6+2)) s wc v ok (by have:=HLQ.out; omega) HW3.out.sw.buf h
                 have HHV':=Hq hhv'
                 clear hhv'
                 have k0:(0:Int)≤(n2:Int)+6+1:=by omega
                 have k1:(n2:Int)+6+1<(L:Int):=by omega
                 have J:=Hq (joinO F fl2 2 wc HW3.out.fl (.inr (.inr ⟨rfl,HOD3.out⟩)))
                 have lone:¬ (hv<56320∧x=92∧y=117∧56320≤hv'∧hv'<57344)→quotedO false ((bytes s).drop p)=none:=fun hno=>
                  HS2.out.stop HX.out (by decide) (stp_u_lone (by rw [HHV.out]; exact hv1) (by rw [HHV.out]; omega) (by
                   rintro ⟨h1,t2,ht2,h5,h6⟩
                   rw [HXY.out] at ht2
                   simp only [List.cons.injEq] at ht2
                   obtain ⟨e1,e2,e3⟩:=ht2
                   rw [← e3,HHV'.out] at h5 h6
                   rw [HHV.out] at h1
                   exact hno ⟨h1,e1,e2,h5,h6⟩))
                 have LONE:=Hq lone
                 clear lone
                 by_cases hx:x=92
                 ·by_cases hy:y=117
                  ·by_cases hn':hv'<0
                   ·as_aux_lemma=>
                    have H2:=Hq (H2 0 false (by rw [HHV'.out]; exact if_pos hn'))
                    have E:=Hq (LONE.out (by omega))
                    subst hx
                    subst hy
                    clear hn'
                    go_wp2_with fail
                    refine SU.out.mono ?_
                    rintro e w' ⟨rfl,rfl⟩
                    go_wp2_with fail
                    refine H2.out.mono ?_
                    rintro e w' ⟨rfl,rfl⟩
                    go_wp2_with fail
                    refine J.out.mono ?_
                    rintro e w4 ⟨fl4,rfl,hf4,hodd,hb4⟩
                    have HW4:=Hq (HW3.out.join hb4 hf4)
                    have CE:=Hq (fun n cp hn=>escErr159 B (p+n2) n cp s w4 hn HW4.out.sw.buf)
                    clear hf4 hodd hb4 J
                    go_wp2_with fail
                    refine (CE.out _ _ (by have:=HLQ.out; omega)).mono ?_
                    rintro e w5 ⟨b,rfl,hb5⟩
                    have HW5:=Hq (HW4.out.below hb5)
                    clear hb5 CE
                    go_wp2_with fail
                    go_ret2
                    exact HW5.out.stop E.out (by rw [HLEN.out]; omega) (.inr (.inr ⟨_,rfl⟩))
                   ·have H2:=Hq (H2 hv' true (by rw [HHV'.out]; exact if_neg hn'))
                    have hv0':0≤hv':=by omega
                    subst hx
                    subst hy
                    clear hn'
                    by_cases hpr:hv<56320∧56320≤hv'∧hv'<57344
                    ·as_aux_lemma=>
                     obtain ⟨h5,h6,h7⟩:=hpr
                     have S1:=Hq (HS2.out.step (k:=12) (fl':=fl2) (by omega) HX.out (by decide) (stp_u_twelve (by rw [HHV.out]; exact hv1) (by rw [HHV.out]; exact h5) HXY.out (by rw [HHV'.out]; exact h6) (by rw [HHV'.out]; exact h7)) HOD3.out)
                     obtain ⟨rr,hrr⟩:∃ rr,pairO hv hv'=rr:=⟨_,rfl⟩
                     have tr:(rr==65533)=false:=by
                      rw [← hrr]
                      unfold pairO
                      rw [if_pos ⟨hv1,h5,h6,h7⟩]
                      simp
                      omega
                     have PR:=Hq (pairW hv hv' rr wc hrr)
                     clear hrr h5 h6 h7 J LONE
                     go_wp2_with fail
                     refine SU.out.mono ?_
                     rintro e w' ⟨rfl,rfl⟩
                     go_wp2_with fail
                     refine H2.out.mono ?_
                     rintro e w' ⟨rfl,rfl⟩
                     go_wp2_with fail
                     refine PR.out.mono ?_
                     rintro e w' ⟨rfl,rfl⟩
                     go_wp2_with fail
                     go_roundg (L-(n2+12))
                     case measure=>have:=HG.out; omega
                     case rel=>exact ⟨n2+12,fl2,by go_num,by omega,by omega,HW3,S1,Hq rfl⟩
                    ·as_aux_lemma=>
                     have E:=Hq (LONE.out (fun h=>hpr ⟨h.1,h.2.2.2⟩))
                     have PR:=Hq (pairW hv hv' 65533 wc (by
                      unfold pairO
                      exact if_neg (fun h=>hpr ⟨h.2.1,h.2.2⟩)))
                     clear hpr
                     go_wp2_with fail
                     refine SU.out.mono ?_
                     rintro e w' ⟨rfl,rfl⟩
                     go_wp2_with fail
                     refine H2.out.mono ?_
                     rintro e w' ⟨rfl,rfl⟩
                     go_wp2_with fail
                     refine PR.out.mono ?_
                     rintro e w' ⟨rfl,rfl⟩
                     go_wp2_with fail
                     refine J.out.mono ?_
                     rintro e w4 ⟨fl4,rfl,hf4,hodd,hb4⟩
                     have HW4:=Hq (HW3.out.join hb4 hf4)
                     have CE:=Hq (fun n cp hn=>escErr159 B (p+n2) n cp s w4 hn HW4.out.sw.buf)
                     clear hf4 hodd hb4 J
                     go_wp2_with fail
                     refine (CE.out _ _ (by have:=HLQ.out; omega)).mono ?_
                     rintro e w5 ⟨b,rfl,hb5⟩
                     have HW5:=Hq (HW4.out.below hb5)
                     clear hb5 CE
                     go_wp2_with fail
                     go_ret2
                     exact HW5.out.stop E.out (by rw [HLEN.out]; omega) (.inr (.inr ⟨_,rfl⟩))
                  ·as_aux_lemma=>
                   have ty:(y != 117)=true:=by simpa using hy
                   obtain ⟨vv,ok,hvo⟩:∃ vv ok,hexR hv'=(vv,ok):=⟨_,_,rfl⟩
                   have H2:=Hq (H2 vv ok (by rw [HHV'.out]; exact hvo))
                   have E:=Hq (LONE.out (fun h=>hy h.2.2.1))
                   subst hx
                   clear hvo hy
                   go_wp2_with fail
                   refine SU.out.mono ?_
                   rintro e w' ⟨rfl,rfl⟩
                   go_wp2_with fail
                   refine H2.out.mono ?_
                   rintro e w' ⟨rfl,rfl⟩
                   go_wp2_with fail
                   refine J.out.mono ?_
                   rintro e w4 ⟨fl4,rfl,hf4,hodd,hb4⟩
                   have HW4:=Hq (HW3.out.join hb4 hf4)
                   have CE:=Hq (fun n cp hn=>escErr159 B (p+n2) n cp s w4 hn HW4.out.sw.buf)
                   clear hf4 hodd hb4 J
                   go_wp2_with fail
                   refine (CE.out _ _ (by have:=HLQ.out; omega)).mono ?_
                   rintro e w5 ⟨b,rfl,hb5⟩
                   have HW5:=Hq (HW4.out.below hb5)
                   clear hb5 CE
                   go_wp2_with fail
                   go_ret2
                   exact HW5.out.stop E.out (by rw [HLEN.out]; omega) (.inr (.inr ⟨_,rfl⟩))
                 ·as_aux_lemma=>
                  have tx:(x != 92)=true:=by simpa using hx
                  obtain ⟨vv,ok,hvo⟩:∃ vv ok,hexR hv'=(vv,ok):=⟨_,_,rfl⟩
                  have H2:=Hq (H2 vv ok (by rw [HHV'.out]; exact hvo))
                  have E:=Hq (LONE.out (fun h=>hx h.2.1))
                  clear hvo hx
                  go_wp2_with fail
                  refine SU.out.mono ?_
                  rintro e w' ⟨rfl,rfl⟩
                  go_wp2_with fail
                  refine H2.out.mono ?_
                  rintro e w' ⟨rfl,rfl⟩
                  go_wp2_with fail
                  refine J.out.mono ?_
                  rintro e w4 ⟨fl4,rfl,hf4,hodd,hb4⟩
                  have HW4:=Hq (HW3.out.join hb4 hf4)
                  have CE:=Hq (fun n cp hn=>escErr159 B (p+n2) n cp s w4 hn HW4.out.sw.buf)
                  clear hf4 hodd hb4 J
                  go_wp2_with fail
                  refine (CE.out _ _ (by have:=HLQ.out; omega)).mono ?_
                  rintro e w5 ⟨b,rfl,hb5⟩
                  have HW5:=Hq (HW4.out.below hb5)
                  clear hb5 CE
                  go_wp2_with fail
                  go_ret2
                  exact HW5.out.stop E.out (by rw [HLEN.out]; omega) (.inr (.inr ⟨_,rfl⟩))
                ·have t7:decide ((L:Int)<(n2:Int)+12)=true:=by simp; omega
                 have t8:decide ((L:Int)<(n2:Int)+6+6)=true:=by simp; omega
                 have E:=Hq (HS2.out.stop HX.out (by decide) (stp_u_lone (by rw [HHV.out]; exact hv1) (by rw [HHV.out]; omega) (by
                  rintro ⟨_,t2,ht2,h5,_⟩
                  have hl:=congrArg List.length ht2
                  rw [List.length_drop,List.length_drop,bytes_len] at hl
                  obtain ⟨_,_,_,_,_,rfl,_⟩:=hex4_ge (show 0≤hex4 t2 by omega)
                  simp at hl
                  have:=HLQ.out
                  omega)))
                 have PF:Hid (∀ W,Bf W B s→Calls Tryz.prog 158 #[.slice (some ⟨B,p+(n2+6),none⟩) (L-(n2+6)) (cap-(n2+6)),.bool true] W fun e w'=>∃ b,e=.returned (.bool b)∧W=w'):=
                  Hq (fun W hB=>prefixW B (p+(n2+6)) (cap-(n2+6)) (L-(n2+6)) s true W HSZ.out (by have:=HLQ.out; omega) hB)
                 have PN:Hid (∀ W,Calls Tryz.prog 158 #[.slice (some ⟨B,p,none⟩) 0 0,.bool true] W fun e w'=>∃ b,e=.returned (.bool b)∧W=w'):=
                  Hq (fun W=>prefixN _ 0 true W)
                 by_cases hcc:n2+6<cap
                 ·clear PN
                  go_wp2_with fail
                  refine SU.out.mono ?_
                  rintro e w' ⟨rfl,rfl⟩
                  go_wp2_with fail
                  refine (PF.out wc HW3.out.sw.buf).mono ?_
                  rintro e w' ⟨b,rfl,rfl⟩
                  cases b
                  ·have J:=Hq (joinO F fl2 2 wc HW3.out.fl (.inr (.inr ⟨rfl,HOD3.out⟩)))
                   go_wp2_with fail
                   refine J.out.mono ?_
                   rintro e w4 ⟨fl4,rfl,hf4,hodd,hb4⟩
                   have HW4:=Hq (HW3.out.join hb4 hf4)
                   have CE:=Hq (escErr159 B (p+n2) (L-n2) (cap-n2) s w4 (by have:=HLQ.out; omega) HW4.out.sw.buf)
                   clear hf4 hodd hb4 J
                   go_wp2_with fail
                   refine CE.out.mono ?_
                   rintro e w5 ⟨b,rfl,hb5⟩
                   have HW5:=Hq (HW4.out.below hb5)
                   clear hb5 CE
                   go_wp2_with fail
                   go_ret2
                   exact HW5.out.stop E.out (by rw [HLEN.out]; omega) (.inr (.inr ⟨_,rfl⟩))
                  ·have ce:=HW3.out.sw.gl.eof
                   go_wp2_with fail
                   go_quiet (fail)
                   go_wp2_with fail
                   go_ret2
                   exact (HW3.out.drew _).stop E.out (by rw [HLEN.out]; omega) (.inl rfl)
                 ·have hcc2:cap=n2+6:=by omega
                  subst hcc2
                  go_wp2_with fail
                  refine SU.out.mono ?_
                  rintro e w' ⟨rfl,rfl⟩
                  go_wp2_with fail
                  refine (PN.out wc).mono ?_
                  rintro e w' ⟨b,rfl,rfl⟩
                  cases b
                  ·have J:=Hq (joinO F fl2 2 wc HW3.out.fl (.inr (.inr ⟨rfl,HOD3.out⟩)))
                   go_wp2_with fail
                   refine J.out.mono ?_
                   rintro e w4 ⟨fl4,rfl,hf4,hodd,hb4⟩
                   have HW4:=Hq (HW3.out.join hb4 hf4)
                   have CE:=Hq (fun n cp hn=>escErr159 B (p+n2) n cp s w4 hn HW4.out.sw.buf)
                   clear hf4 hodd hb4 J
                   go_wp2_with fail
                   refine (CE.out _ _ (by have:=HLQ.out; omega)).mono ?_
                   rintro e w5 ⟨b,rfl,hb5⟩
                   have HW5:=Hq (HW4.out.below hb5)
                   clear hb5 CE
                   go_wp2_with fail
                   go_ret2
                   exact HW5.out.stop E.out (by rw [HLEN.out]; omega) (.inr (.inr ⟨_,rfl⟩))
                  ·have ce:=HW3.out.sw.gl.eof
                   go_wp2_with fail
                   go_quiet (fail)
                   go_wp2_with fail
                   go_ret2
                   exact (HW3.out.drew _).stop E.out (by rw [HLEN.out]; omega) (.inl rfl)
            ·have t6:decide ((L:Int)<(n2:Int)+6)=true:=by simp; omega
             have E:=Hq (HS2.out.stop HX.out (by decide) (stp_u_none (unitH_short (by rw [List.length_drop,bytes_len]; have:=HLQ.out; omega))))
             have PF:=Hq (prefixW B (p+n2) (cap-n2) (L-n2) s false w2 HSZ.out (by have:=HLQ.out; omega) HW2.out.sw.buf)
             go_wp2_with fail
             refine PF.out.mono ?_
             rintro e w' ⟨b,rfl,rfl⟩
             cases b
             ·have J:=Hq (joinO F fl1 2 w2 HW2.out.fl (.inr (.inr ⟨rfl,HOD.out⟩)))
              go_wp2_with fail
              refine J.out.mono ?_
              rintro e w3 ⟨fl2,rfl,hf3,hodd,hb3⟩
              have HW3:=Hq (HW2.out.join hb3 hf3)
              have CE:=Hq (escErr159 B (p+n2) (L-n2) (cap-n2) s w3 (by have:=HLQ.out; omega) HW3.out.sw.buf)
              clear hf3 hodd hb3 J
              go_wp2_with fail
              refine CE.out.mono ?_
              rintro e w4 ⟨b,rfl,hb4⟩
              have HW4:=Hq (HW3.out.below hb4)
              clear hb4 CE
              go_wp2_with fail
              go_ret2
              exact HW4.out.stop E.out (by rw [HLEN.out]; omega) (.inr (.inr ⟨_,rfl⟩))
             ·have ce:=HW2.out.sw.gl.eof
              go_wp2_with fail
              go_quiet (fail)
              go_wp2_with fail
              go_ret2
              exact (HW2.out.drew _).stop E.out (by rw [HLEN.out]; omega) (.inl rfl)
           ·as_aux_lemma=>
            have E:=Hq (HS2.out.stop HX.out (by decide) (stp_noesc hns hnu))
            have J:=Hq (joinO F fl1 2 w2 HW2.out.fl (.inr (.inr ⟨rfl,HOD.out⟩)))
            have hns:¬ (d=34∨d=92∨d=47∨d=98∨d=102∨d=110∨d=114∨d=116):=hns
            have u1:(d==47)=false:=by simp; omega
            have u2:(d==34)=false:=by simp; omega
            have u3:(d==92)=false:=by simp; omega
            have u4:(d==98)=false:=by simp; omega
            have u5:(d==102)=false:=by simp; omega
            have u6:(d==110)=false:=by simp; omega
            have u7:(d==114)=false:=by simp; omega
            have u8:(d==116)=false:=by simp; omega
            have u9:(d==117)=false:=by simp; omega
            clear hns hnu hdb
            go_wp2_with fail
            refine J.out.mono ?_
            rintro e w3 ⟨fl2,rfl,hf3,hodd,hb3⟩
            have HW3:=Hq (HW2.out.join hb3 hf3)
            have CE:=Hq (escErr159 B (p+n2) 2 (cap-n2) s w3 (by omega) HW3.out.sw.buf)
            clear hf3 hodd hb3 J
            go_wp2_with fail
            refine CE.out.mono ?_
            rintro e w4 ⟨b,rfl,hb4⟩
            have HW4:=Hq (HW3.out.below hb4)
            clear hb4 CE
            go_wp2_with fail
            go_ret2
            exact HW4.out.stop E.out (by rw [HLEN.out]; omega) (.inr (.inr ⟨_,rfl⟩))
          ·as_aux_lemma=>
           have t5:decide ((L:Int)<(n2:Int)+2)=true:=by simp; omega
           have ce:=HW2.out.sw.gl.eof
           have E:=Hq (HS2.out.stop HDN.out (by decide) (by rw [bytes_end (by have:=HLQ.out; omega)]; rfl))
           go_wp2_with fail
           go_quiet (fail)
           go_wp2_with fail
           go_ret2
           exact (HW2.out.drew _).stop E.out (by rw [HLEN.out]; omega) (.inl rfl)
        ·as_aux_lemma=>
         have tk:decide (1<(k:Int))=true:=by simp; omega
         have S1:=Hq (HS2.out.rune (by omega) HDN.out h128 hr)
         clear hr hd h128 HPL t34
         go_wp2_with fail
         go_roundg (L-(n2+k))
         case measure=>have:=HG.out; omega
         case rel=>exact ⟨n2+k,fl,by go_num,by omega,hkL,HW1,S1,Hq rfl⟩
        ·as_aux_lemma=>
         have FU:=full163 B (p+n2) (cap-n2) s w1 HW1.out.sw.gl.tabs hltb HW1.out.sw.buf (by rw [HCC.out]; exact h128)
         rw [show s.size-(p+n2)=L-n2 by have:=HLQ.out; omega] at FU
         have FU:=Hq FU
         have HR:=Hq (And.intro hr h128)
         clear hr hd h128
         go_wp2_with fail
         refine FU.out.mono ?_
         rintro e w2 ⟨b,rfl,hall,hb2⟩
         have HW2:=Hq (HW1.out.below hb2)
         have HALL:=Hq hall
         clear hall hb2 FU
         cases b
         ·have E:=Hq (HS2.out.cut (HALL.out rfl))
          have ce:=HW2.out.sw.gl.eof
          go_wp2_with fail
          go_quiet (fail)
          go_wp2_with fail
          go_ret2
          exact (HW2.out.drew _).stop E.out (by rw [HLEN.out]; omega) (.inl rfl)
         ·have J:=Hq (joinO F fl 3 w2 HW2.out.fl (by omega))
          go_wp2_with fail
          refine J.out.mono ?_
          rintro e w3 ⟨fl',rfl,hf3,hodd,hb3⟩
          have HW3:=Hq (HW2.out.join hb3 hf3)
          have HOD:=Hq hodd
          clear hf3 hodd hb3 J
          cases lo
          ·have E:=Hq (HS2.out.stop HDN.out HPL.out.2 (by rw [stp_rune (by have h:=HR.out.2; simpa using h)]; exact HR.out.1))
           have ci:=HW3.out.sw.gl.inv
           go_wp2_with fail
           go_quiet (fail)
           go_wp2_with fail
           go_ret2
           exact (HW3.out.drew _).stop E.out (by rw [HLEN.out]; omega) (.inr (.inl rfl))
          ·have S1:=Hq (HS2.out.step (fl':=fl') (by omega) HDN.out HPL.out.2 (stp_one (by have:=HR.out.2; omega) (by have:=HR.out.2; omega) (.inr rfl)) HOD.out)
           go_wp2_with fail
           go_roundg (L-(n2+1))
           case measure=>have:=HG.out; omega
           case rel=>exact ⟨n2+1,fl',by go_num,by omega,hkL,HW3,S1,Hq rfl⟩
     ·have t2:decide (n2<L)=false:=by simpa using hlt2
      have t3:decide (L≤n2)=true:=by simp; omega
      have E:=Hq (HS2.out.none (by rw [bytes_end (by have:=HLQ.out; omega)]; rfl))
      go_wp2_with fail
      go_quiet (fail)
      go_wp2_with fail
      go_ret2
      exact (HW.out.drew _).stop E.out (by rw [HLEN.out]; omega) (.inl rfl)
   ·have t1:decide (n<L)=false:=by simpa using hnl
    have E:=Hq (HS.out.none (by rw [bytes_end (by have:=HLQ.out; omega)]; rfl))
    go_wp2_with fail
    go_quiet (fail)
    go_wp2_with fail
    go_ret2
    exact (HW.out.drew _).stop E.out (by rw [HLEN.out]; omega) (.inl rfl)
 ·have HS0:=Hq (show SS B s eU eI F w w fl0 from ⟨hW,hF,World.grownBy.refl _ _⟩)
  have E:=Hq (show quotedO lo ((bytes s).drop p)=none by
   unfold quotedO
   rw [if_neg]
   intro h
   have hp:=headD_lt h (by omega)
   rw [bytes_drop hp] at h
   exact hq ⟨hp,h⟩)
  by_cases h0:L=0
  ·subst h0
   have ce:=hW.gl.eof
   clear hW hF hq
   go_enter Tryz.func139,Tryz.ntmps139
   go_wp2_with fail
   go_quiet (fail)
   go_wp2_with fail
   go_ret2
   exact (HS0.out.drew _).stop E.out (Nat.zero_le _) (.inl rfl)
  ·have hlt:p<s.size:=by have:=HLQ.out; omega
   have c0:=hW.buf p hlt
   have t0:((L:Int)==0)=false:=by simp; omega
   have i1:(0:Int)<(L:Int):=by omega
   have t1:((s[p].toNat:Int)==34)=false:=by
    simp only [beq_eq_false_iff_ne,ne_eq]
    exact fun h=>hq ⟨hlt,h⟩
   generalize (s[p].toNat:Int)=c at c0 t1
   have CE:=fun wh=>charErr107 B p cap s wh w hW.gl.tabs hlt (by have:=HLQ.out; omega) hW.buf
   rw [show s.size-p=L by have:=HLQ.out; omega] at CE
   have CE:=Hq CE
   clear hW hF hq
   go_enter Tryz.func139,Tryz.ntmps139
   go_wp2_with fail
   refine (CE.out _).mono ?_
   rintro e w1 ⟨b,rfl,hb⟩
   have HW1:=Hq (HS0.out.below hb)
   clear hb CE
   go_wp2_with fail
   go_ret2
   exact HW1.out.stop E.out (Nat.zero_le _) (.inr (.inr ⟨_,rfl⟩))
end Go.Proofs.YtknaalohaagcdaaGreatDoor.Own
