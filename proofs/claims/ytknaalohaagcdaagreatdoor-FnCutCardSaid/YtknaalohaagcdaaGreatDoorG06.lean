import Derived.Test.YtknaalohaagcdaaGreatDoorG01
import Derived.Test.YtknaalohaagcdaaGreatDoorG05
import Derived.StillTailTactics
set_option maxHeartbeats 400000000
set_option maxRecDepth 100000
namespace Go.Proofs.YtknaalohaagcdaaGreatDoor.Own
open Go.RowKit JG
def stp(lo:Bool):List Int→Option Nat
 |[]=>none
 |c::t=>if c=92 then (escO lo t).map (·+1) else if c<32 then none else if c<128∨lo=true then some 1 else runeO (c::t)
def sq(lo:Bool):Nat→List Int→Option Nat
 |_,[]=>none
 |k+1,_::t=>(sq lo k t).map (·+1)
 |0,c::t=>if c=34 then some 0 else (stp lo (c::t)).bind fun n=>(sq lo (n-1) t).map (·+1)
def quotedO(lo:Bool)(xs:List Int):Option Nat:=if xs.headD 0=34 then (sq lo 0 xs.tail).map (·+1) else none
theorem sq_skip(lo:Bool):∀ (k:Nat) (xs:List Int),sq lo k xs=(sq lo 0 (xs.drop k)).map (·+k)
 |0,xs=>by simp
 |k+1,[]=>by simp [sq]
 |k+1,_::t=>by
  show (sq lo k t).map (·+1)=_
  rw [sq_skip lo k t,map_add]
  rfl
theorem hexO_ne{l m:Int}{xs:List Int}(hl:0≤l)(h:hexO l m xs=some 1):1≤xs.length:=by
 cases xs with
 |nil=>
  unfold hexO at h
  rw [if_pos] at h
  ·cases h
  ·left
   show hexv 0<l
   have:hexv 0 = -1:=by decide
   omega
 |cons c t=>simp
theorem chain_le:∀ {r:List (Int × Int)} {xs:List Int} {n:Nat},(∀ b∈r,0≤b.1)→chain r xs=some n→n≤xs.length
 |[],xs,n,_,h=>by have:=Option.some.inj h; omega
 |(l,m)::r,xs,n,hb,h=>by
  by_cases hx:hexO l m xs=some 1
  ·rw [chain_yes hx] at h
   have h1:=hexO_ne (hb (l,m) (by simp)) hx
   cases hc:chain r xs.tail with
   |none=>rw [hc] at h; cases h
   |some k=>
    rw [hc] at h
    have h2:=chain_le (fun b hb'=>hb b (by simp [hb'])) hc
    have h3:k+1=n:=Option.some.inj h
    rw [List.length_tail] at h2
    omega
  ·rw [chain_no hx] at h
   cases h
theorem needs_ne{l m:Int}{xs:List Int}(h:needs l m xs=some 1):1≤xs.length:=by
 cases xs with
 |nil=>cases h
 |cons c t=>simp
theorem chainN_le:∀ {r:List (Int × Int)} {xs:List Int} {n:Nat},chainN r xs=some n→n≤xs.length
 |[],xs,n,h=>by have:=Option.some.inj h; omega
 |(l,m)::r,xs,n,h=>by
  by_cases hx:needs l m xs=some 1
  ·rw [chainN_yes hx] at h
   have h1:=needs_ne hx
   cases hc:chainN r xs.tail with
   |none=>rw [hc] at h; cases h
   |some k=>
    rw [hc] at h
    have h2:=chainN_le hc
    have h3:k+1=n:=Option.some.inj h
    rw [List.length_tail] at h2
    omega
  ·rw [chainN_no hx] at h
   cases h
theorem unitH_le{lo:Bool}{xs:List Int}{n:Nat}(h:unitH lo xs=some n):n≤xs.length:=by
 unfold unitH at h
 split at h
 ·exact chain_le (by decide) h
 ·split at h
  ·exact chain_le (by decide) h
  ·exact chain_le (by decide) h
theorem unitL_le{lo:Bool}{xs:List Int}{n:Nat}(h:unitL lo xs=some n):n≤xs.length:=by
 unfold unitL at h
 split at h
 ·exact chain_le (by decide) h
 ·exact chain_le (by decide) h
theorem escO_le{lo:Bool}{xs:List Int}{n:Nat}(hx:1≤xs.length)(h:escO lo xs=some n):n≤xs.length:=by
 unfold escO at h
 split at h
 ·have:=Option.some.inj h; omega
 ·split at h
  ·cases hk:unitH lo xs.tail with
   |none=>rw [hk] at h; cases h
   |some k=>
    rw [hk] at h
    have hkl:=unitH_le hk
    rw [List.length_tail] at hkl
    simp only at h
    split at h
    ·split at h
     ·cases hv:unitL lo (xs.drop (3+k)) with
      |none=>rw [hv] at h; cases h
      |some v=>
       rw [hv] at h
       have hvl:=unitL_le hv
       have h3:v+(3+k)=n:=Option.some.inj h
       rename_i hn
       have h4:=needs_ne hn.2
       rw [List.length_drop] at hvl h4
       omega
     ·cases h
    ·have:=Option.some.inj h; omega
  ·cases h
theorem map1_le{o:Option Nat}{n m:Nat}(h:o.map (·+1)=some n)(hl:∀ k,o=some k→k+1≤m):n≤m:=by
 cases o with
 |none=>cases h
 |some k=>
  have h2:k+1=n:=Option.some.inj h
  have h3:=hl k rfl
  omega
theorem runeO_le{xs:List Int}{n:Nat}(hx:1≤xs.length)(h:runeO xs=some n):n≤xs.length:=by
 have key:∀ r:List (Int × Int),(chainN r xs.tail).map (·+1)=some n→n≤xs.length:=fun r h=>map1_le h (fun k hk=>by have:=chainN_le hk; rw [List.length_tail] at this; omega)
 unfold runeO at h
 repeat (first|(split at h; (exact key _ h))|(cases h; done))
theorem stp_le{lo:Bool}{xs:List Int}{n:Nat}(h:stp lo xs=some n):n≤xs.length:=by
 cases xs with
 |nil=>cases h
 |cons c t=>
  have h':(if c=92 then (escO lo t).map (·+1) else if c<32 then none else if c<128∨lo=true then some 1 else runeO (c::t))=some n:=h
  split at h'
  ·refine map1_le h' (fun k hk => ?_)
   cases t with
   |nil=>
    have hn:escO lo []=none:=by unfold escO; rw [if_neg (by unfold isSimple; simp),if_neg (by simp)]
    rw [hn] at hk
    cases hk
   |cons d u=>have:=escO_le (by simp) hk; simp at this ⊢; omega
  ·split at h'
   ·cases h'
   ·split at h'
    ·have:=Option.some.inj h'; simp; omega
    ·exact runeO_le (by simp) h'
theorem stp_pos{s:ByteArray}{lo:Bool}{q n:Nat}(h:stp lo ((bytes s).drop q)=some n)(hq:q≤s.size):q+n≤s.size:=by
 have:=stp_le h
 rw [List.length_drop,bytes_len] at this
 omega
theorem sq_cons{lo:Bool}{c:Int}{t:List Int}(h:¬ c=34):sq lo 0 (c::t)=(stp lo (c::t)).bind fun n=>(sq lo (n-1) t).map (·+1):=by
 show (if c=34 then _ else _)=_
 rw [if_neg h]
theorem sq_step{s:ByteArray}{lo:Bool}{q n:Nat}(hq:q<s.size)(h34:¬ (s[q].toNat:Int)=34)(h:stp lo ((bytes s).drop q)=some n)(hn:1≤n):sq lo 0 ((bytes s).drop q)=(sq lo 0 ((bytes s).drop (q+n))).map (·+n):=by
 have e:=bytes_drop hq
 rw [e] at h
 rw [e,sq_cons h34,h]
 show (sq lo (n-1) ((bytes s).drop (q+1))).map (·+1)=_
 rw [sq_skip,map_add,List.drop_drop,show q+1+(n-1)=q+n by omega,show n-1+1=n by omega]
theorem sq_fail{s:ByteArray}{lo:Bool}{q:Nat}(hq:q<s.size)(h34:¬ (s[q].toNat:Int)=34)(h:stp lo ((bytes s).drop q)=none):sq lo 0 ((bytes s).drop q)=none:=by
 have e:=bytes_drop hq
 rw [e] at h
 rw [e,sq_cons h34,h]
 rfl
theorem stp_esc{lo:Bool}{c:Int}{t:List Int}(h:c=92):stp lo (c::t)=(escO lo t).map (·+1):=by show (if c=92 then _ else _)=_; rw [if_pos h]
theorem stp_ctl{lo:Bool}{c:Int}{t:List Int}(h:c<32):stp lo (c::t)=none:=by show (if c=92 then _ else if c<32 then _ else _)=_; rw [if_neg (by omega),if_pos h]
theorem stp_one{lo:Bool}{c:Int}{t:List Int}(h0:¬ c=92)(h1:¬ c<32)(h2:c<128∨lo=true):stp lo (c::t)=some 1:=by show (if c=92 then _ else if c<32 then _ else if c<128∨lo=true then _ else _)=_; rw [if_neg h0,if_neg h1,if_pos h2]
theorem stp_rune{lo:Bool}{c:Int}{t:List Int}(h1:¬ (c<128∨lo=true)):stp lo (c::t)=runeO (c::t):=by show (if c=92 then _ else if c<32 then _ else if c<128∨lo=true then _ else _)=_; rw [if_neg (fun h=>h1 (.inl (by omega))),if_neg (fun h=>h1 (.inl (by omega))),if_neg h1]
theorem map1_pos{o:Option Nat}{n:Nat}(h:o.map (·+1)=some n):1≤n:=by
 cases o with
 |none=>cases h
 |some k=>
  have h2:k+1=n:=Option.some.inj h
  omega
theorem runeO_pos{xs:List Int}{n:Nat}(h:runeO xs=some n):1≤n:=by
 unfold runeO at h
 repeat (first|(split at h; (exact map1_pos h))|(cases h; done))
theorem quoted55(g:Nat)(s:ByteArray)(p:Nat)(tw lo op:Bool)(w:World)(hs:s.size≤140737488355328)(h:R w g s p tw lo 0 op):
  Calls Tryz.prog 55 #[.pointer (some ⟨g,0,none⟩)] w (Did g s tw lo op p (quotedO lo ((bytes s).drop p)) w):=by
 obtain ⟨o,HO⟩:∃ o,Hid (o=quotedO lo ((bytes s).drop p)):=⟨_,Hq rfl⟩
 rw [← HO.out]
 have N:=need53 g s p tw lo op 34 34 w hs h
 by_cases hq:∃ h:p<s.size,(s[p].toNat:Int)=34
 ·obtain ⟨hp,hd⟩:=hq
  have hn:needs 34 34 ((bytes s).drop p)=some 1:=by rw [bytes_drop hp,needs_cons,if_pos (by omega)]
  have NY:=Hq (calls_yes N hn)
  have HO1:=Hq (show o=(sq lo 0 ((bytes s).drop (p+1))).map (·+(p+1-p)) by
   rw [HO.out]
   unfold quotedO
   rw [if_pos (by rw [bytes_drop hp]; exact hd),tail_drop1,show p+1-p=1 by omega])
  clear N hn hd h HO
  go_enter Tryz.func55,Tryz.ntmps55
  go_wp2_with fail
  refine NY.out.mono ?_
  rintro e w1 ⟨rfl,hR,hg⟩
  have HD:=Hq (And.intro hR hg)
  clear hR hg
  go_wp2_with fail
  go_loopg [] (s.size-(p+1)) (fun gk wr=>∃ q,p≤q∧Hid (o=(sq lo 0 ((bytes s).drop q)).map (·+(q-p)))∧q≤s.size∧Hid (gk=s.size-q)∧Hid (R wr g s q tw lo 0 op)∧Hid (w.grownBy wr (some g)))
  case atStart=>exact ⟨p+1,by omega,HO1,by omega,Hq rfl,Hq HD.out.1,Hq HD.out.2⟩
  case round=>
   clear HD HO1 NY
   obtain ⟨q,hpq,HE,hq,HG,HR,HB⟩:=hrel
   by_cases hlt:q<s.size
   ·have t0:decide (q<s.size)=true:=by simpa using hlt
    obtain ⟨c,HC⟩:∃ c:Int,Hid ((s[q].toNat:Int)=c):=⟨_,Hq rfl⟩
    have HX:=Hq (show (bytes s).drop q=c::(bytes s).drop (q+1) by rw [← HC.out]; exact bytes_drop hlt)
    have hcb:0≤c∧c≤255:=by rw [← HC.out]; have:=s[q].toNat_lt; omega
    have hstep:∀ n,stp lo ((bytes s).drop q)=some n→1≤n→¬ c=34→o=(sq lo 0 ((bytes s).drop (q+n))).map (·+(q+n-p))∧q+n≤s.size:=fun n h1 h2 h3=>by
     refine ⟨?_,stp_pos h1 hq⟩
     rw [HE.out,sq_step hlt (by rw [HC.out]; exact h3) h1 h2,map_add,show n+(q-p)=q+n-p by omega]
    have hfail:stp lo ((bytes s).drop q)=none→¬ c=34→o=none:=fun h1 h3=>by
     rw [HE.out,sq_fail hlt (by rw [HC.out]; exact h3) h1]
     rfl
    have HS:=Hq (And.intro hstep hfail)
    clear hstep hfail
    have HR1:=Hq (fun n=>HR.out.drew n)
    have HB1:=Hq (fun n=>gb_drewN HB.out n)
    obtain ⟨c0,c1,_,c3,_,_,f1,_,_⟩:=HR.out.facts
    by_cases a1:c=34
    ·have t1:((s[q].toNat:Int)==34)=true:=by rw [HC.out]; simpa using a1
     have E:=Hq (show o=some (q-p) by
      rw [HE.out,HX.out,a1]
      show (some 0).map (·+(q-p))=_
      simp)
     clear a1 hcb
     go_wp2_with fail
     go_quiet (fail)
     go_wp2_with fail
     go_quiet (fail)
     go_wp2_with fail
     go_ret
     refine .inl ⟨q-p,E.out,rfl,?_,by first|exact HB1.out _|exact gb_drewN (HB1.out _) _⟩
     rw [show p+(q-p)=q by omega]
     exact HR.out
    ·have t1:((s[q].toNat:Int)==34)=false:=by rw [HC.out]; simpa using a1
     have HA:=Hq a1
     clear a1
     by_cases a2:c=92
     ·have t2:((s[q].toNat:Int)==92)=true:=by rw [HC.out]; simpa using a2
      have HST:=Hq (show stp lo ((bytes s).drop q)=(escO lo ((bytes s).drop (q+1))).map (·+1) by rw [HX.out]; exact stp_esc a2)
      have X:=fun w1 h=>escape111 g s (q+1) tw lo op w1 hs h
      have HR2:=Hq (fun n=>And.intro ((HR1.out n).setAt (q+1) (by omega)) (gb_set (HB1.out n) 1 (.int .i64 (q+1:Nat))))
      clear a2 hcb
      cases hk:escO lo ((bytes s).drop (q+1)) with
      |none=>
       have XN:=Hq (fun w1 h=>calls_no (X w1 h) hk)
       have E:=Hq (HS.out.2 (by rw [HST.out,hk]; rfl) HA.out)
       clear X hk
       go_wp2_with fail
       go_quiet (fail)
       go_wp2_with fail
       go_quiet (fail)
       go_wp2_with fail
       refine (XN.out _ (HR2.out _).1).mono ?_
       rintro e w1 ⟨rfl,hR,hg⟩
       have HD:=Hq (And.intro hR ((HR2.out _).2.trans hg))
       clear hR hg
       go_wp2_with fail
       go_ret
       exact .inr ⟨E.out,rfl,HD.out.1.mono (by omega),HD.out.2⟩
      |some k=>
       have XY:=Hq (fun w1 h=>calls_yes (X w1 h) hk)
       have E:=Hq (HS.out.1 (k+1) (by rw [HST.out,hk]; rfl) (by omega) HA.out)
       clear X hk
       go_wp2_with fail
       go_quiet (fail)
       go_wp2_with fail
       go_quiet (fail)
       go_wp2_with fail
       refine (XY.out _ (HR2.out _).1).mono ?_
       rintro e w1 ⟨rfl,hR,hg⟩
       have HD:=Hq (And.intro hR ((HR2.out _).2.trans hg))
       clear hR hg
       go_wp2_with fail
       go_roundg (s.size-(q+(k+1)))
       case measure=>have h1:=HG.out; have h2:=E.out.2; omega
       case rel=>exact ⟨q+(k+1),by omega,Hq E.out.1,E.out.2,Hq rfl,Hq (by rw [show q+(k+1)=q+1+k by omega]; exact HD.out.1),Hq HD.out.2⟩
     ·have t2:((s[q].toNat:Int)==92)=false:=by rw [HC.out]; simpa using a2
      by_cases a3:c<32
      ·have t3:decide ((s[q].toNat:Int)<32)=true:=by rw [HC.out]; simpa using a3
       have E:=Hq (HS.out.2 (by rw [HX.out]; exact stp_ctl a3) HA.out)
       have F:=Hq (fun n=>fail25 g s q tw lo op 4 (wr.drewN n) (HR1.out n))
       clear a2 a3 hcb
       go_wp2_with fail
       go_quiet (fail)
       go_wp2_with fail
       go_quiet (fail)
       go_wp2_with fail
       refine (F.out _).mono ?_
       rintro e w1 ⟨rfl,hR,hg⟩
       have HD:=Hq (And.intro hR ((HB1.out _).trans hg))
       clear hR hg
       go_wp2_with fail
       go_ret
       exact .inr ⟨E.out,rfl,⟨q,4,by decide,by omega,HD.out.1⟩,HD.out.2⟩
      ·have t3:decide ((s[q].toNat:Int)<32)=false:=by rw [HC.out]; simpa using a3
       by_cases a4:c<128
       ·have t4:decide ((s[q].toNat:Int)<128)=true:=by rw [HC.out]; simpa using a4
        have E:=Hq (HS.out.1 1 (by rw [HX.out]; exact stp_one a2 a3 (.inl a4)) (by omega) HA.out)
        clear a2 a3 a4 hcb
        go_wp2_with fail
        go_quiet (fail)
        go_wp2_with fail
        go_quiet (fail)
        go_wp2_with fail
        go_roundg (s.size-(q+1))
        case measure=>have h1:=HG.out; have h2:=E.out.2; omega
        case rel=>exact ⟨q+1,by omega,Hq E.out.1,E.out.2,Hq rfl,Hq ((HR1.out _).setAt (q+1) (by omega)),Hq (gb_set (HB1.out _) _ _)⟩
       ·have t4:decide ((s[q].toNat:Int)<128)=false:=by rw [HC.out]; simpa using a4
        cases lo
        ·have X:=fun w1 h=>rune112 g s q tw false op w1 hs h
         have HST:=Hq (show stp false ((bytes s).drop q)=runeO ((bytes s).drop q) by rw [HX.out]; exact stp_rune (by simp; omega))
         clear a2 a3 a4 hcb
         cases hk:runeO ((bytes s).drop q) with
         |none=>
          have XN:=Hq (fun w1 h=>calls_no (X w1 h) hk)
          have E:=Hq (HS.out.2 (by rw [HST.out,hk]) HA.out)
          clear X hk
          go_wp2_with fail
          go_quiet (fail)
          go_wp2_with fail
          go_quiet (fail)
          go_wp2_with fail
          refine (XN.out _ (HR1.out _)).mono ?_
          rintro e w1 ⟨rfl,hR,hg⟩
          have HD:=Hq (And.intro hR ((HB1.out _).trans hg))
          clear hR hg
          go_wp2_with fail
          go_ret
          exact .inr ⟨E.out,rfl,HD.out.1.mono (by omega),HD.out.2⟩
         |some k=>
          have XY:=Hq (fun w1 h=>calls_yes (X w1 h) hk)
          have hk1:=runeO_pos hk
          have E:=Hq (HS.out.1 k (by rw [HST.out,hk]) hk1 HA.out)
          clear X hk
          go_wp2_with fail
          go_quiet (fail)
          go_wp2_with fail
          go_quiet (fail)
          go_wp2_with fail
          refine (XY.out _ (HR1.out _)).mono ?_
          rintro e w1 ⟨rfl,hR,hg⟩
          have HD:=Hq (And.intro hR ((HB1.out _).trans hg))
          clear hR hg
          go_wp2_with fail
          go_roundg (s.size-(q+k))
          case measure=>have h1:=HG.out; have h2:=E.out.2; omega
          case rel=>exact ⟨q+k,by omega,Hq E.out.1,E.out.2,Hq rfl,Hq HD.out.1,Hq HD.out.2⟩
        ·have E:=Hq (HS.out.1 1 (by rw [HX.out]; exact stp_one a2 a3 (.inr rfl)) (by omega) HA.out)
         clear a2 a3 a4 hcb
         go_wp2_with fail
         go_quiet (fail)
         go_wp2_with fail
         go_quiet (fail)
         go_wp2_with fail
         go_roundg (s.size-(q+1))
         case measure=>have h1:=HG.out; have h2:=E.out.2; omega
         case rel=>exact ⟨q+1,by omega,Hq E.out.1,E.out.2,Hq rfl,Hq ((HR1.out _).setAt (q+1) (by omega)),Hq (gb_set (HB1.out _) _ _)⟩
   ·have t0:decide (q<s.size)=false:=by simpa using hlt
    have E:=Hq (show o=none by rw [HE.out,bytes_end (by omega)]; rfl)
    have F:=Hq (fun n=>fail25 g s q tw lo op 4 (wr.drewN n) (HR.out.drew n))
    obtain ⟨c0,c1,_,c3,_,_,f1,_,_⟩:=HR.out.facts
    go_wp2_with fail
    go_quiet (fail)
    go_wp2_with fail
    refine (F.out _).mono ?_
    rintro e w1 ⟨rfl,hR,hg⟩
    have HD:=Hq (And.intro hR hg)
    clear hR hg
    go_wp2_with fail
    go_ret
    exact .inr ⟨E.out,rfl,⟨q,4,by decide,by omega,HD.out.1⟩,(gb_drewN HB.out _).trans HD.out.2⟩
 ·have hn:needs 34 34 ((bytes s).drop p)=none:=by
   by_cases hp:p<s.size
   ·rw [bytes_drop hp,needs_cons,if_neg (fun h=>hq ⟨hp,by omega⟩)]
   ·rw [bytes_end (by omega)]
    rfl
  have E:=Hq (show o=none by
   rw [HO.out]
   unfold quotedO
   rw [if_neg]
   intro h
   have hp:=headD_lt h (by omega)
   rw [bytes_drop hp] at h
   exact hq ⟨hp,h⟩)
  have NN:=Hq (calls_no N hn)
  clear N hn h hq HO
  go_enter Tryz.func55,Tryz.ntmps55
  go_wp2_with fail
  refine NN.out.mono ?_
  rintro e w1 ⟨rfl,hR,hg⟩
  have HD:=Hq (And.intro hR hg)
  clear hR hg
  go_wp2_with fail
  go_ret
  exact .inr ⟨E.out,rfl,HD.out.1.mono (by omega),HD.out.2⟩
structure Two(g m:Nat)(w w':World):Prop where
 os:w'.os=w.os
 tape:w'.tape=w.tape
 output:w'.output=w.output
 size:w.heap.size≤w'.heap.size
 block:∀ i,i<w.heap.size→i≠g→i≠m→w'.heap[i]? = w.heap[i]?
theorem Two.refl(g m:Nat)(w:World):Two g m w w:=⟨rfl,rfl,rfl,Nat.le_refl _,fun _ _ _ _=>rfl⟩
theorem Two.trans{g m:Nat}{a b c:World}(h:Two g m a b)(k:Two g m b c):Two g m a c:=
 ⟨k.os.trans h.os,k.tape.trans h.tape,k.output.trans h.output,Nat.le_trans h.size k.size,fun i hi h1 h2=>(k.block i (Nat.lt_of_lt_of_le hi h.size) h1 h2).trans (h.block i hi h1 h2)⟩
theorem Two.left{g m:Nat}{a b:World}(h:a.grownBy b (some g)):Two g m a b:=⟨h.os,h.tape,h.output,h.size,fun i hi h1 _=>h.block i hi (fun e=>h1 (Option.some.inj e))⟩
theorem Two.right{g m:Nat}{a b:World}(h:a.grownBy b (some m)):Two g m a b:=⟨h.os,h.tape,h.output,h.size,fun i hi _ h2=>h.block i hi (fun e=>h2 (Option.some.inj e))⟩
theorem Two.drewN{g m:Nat}{a b:World}(h:Two g m a b)(n:Nat):Two g m a (b.drewN n):=⟨h.os,h.tape,h.output,h.size,h.block⟩
def Nd(w:World)(m:Nat)(k:Int)(tx:ByteArray)(ns ks:Value):Prop:=w.heap[m]? = some (.cells #[.int .u8 k,.string tx,ns,ks] 42 (0,0))
theorem Nd.facts{w:World}{m:Nat}{k:Int}{tx:ByteArray}{ns ks:Value}(h:Nd w m k tx ns ks):
  w.cell? ⟨m,0,none⟩=some (.int .u8 k)∧w.cell? ⟨m,1,none⟩=some (.string tx)∧w.frozen? ⟨m,0,none⟩=false∧w.frozen? ⟨m,1,none⟩=false:=by
 unfold Nd at h
 refine ⟨cell_of_row _ _ 0 _ _ (0,0) h,cell_of_row _ _ 1 _ _ (0,0) h,?_,?_⟩<;>(unfold World.frozen?; simp only [h]; simp)
theorem Nd.kept{w w':World}{g m:Nat}{k:Int}{tx:ByteArray}{ns ks:Value}(h:Nd w m k tx ns ks)(hg:w.grownBy w' (some g))(hne:m≠g):Nd w' m k tx ns ks:=by
 unfold Nd at *
 rw [hg.block m (Array.getElem?_eq_some_iff.1 h).1 (fun e=>hne (Option.some.inj e))]
 exact h
theorem R.kept{w w':World}{g m:Nat}{s:ByteArray}{p:Nat}{tw lo:Bool}{fa:Int}{op:Bool}(h:R w g s p tw lo fa op)(hg:w.grownBy w' (some m))(hne:g≠m):R w' g s p tw lo fa op:=by
 refine ⟨?_,h.2⟩
 rw [hg.block g (Array.getElem?_eq_some_iff.1 h.1).1 (fun e=>hne (Option.some.inj e))]
 exact h.1
theorem Nd.setText{w:World}{m:Nat}{k:Int}{tx:ByteArray}{ns ks:Value}(h:Nd w m k tx ns ks)(tx':ByteArray):Nd (w.setCell ⟨m,1,none⟩ (.string tx')) m k tx' ns ks:=by
 unfold Nd at *
 rw [heap_setCell_same _ _ _ _ _ _ h]
 rfl
theorem Nd.setKind{w:World}{m:Nat}{k:Int}{tx:ByteArray}{ns ks:Value}(h:Nd w m k tx ns ks)(k':Int):Nd (w.setCell ⟨m,0,none⟩ (.int .u8 k')) m k' tx ns ks:=by
 unfold Nd at *
 rw [heap_setCell_same _ _ _ _ _ _ h]
 rfl
theorem scalar_word(g m:Nat)(s:ByteArray)(p:Nat)(tw lo op:Bool)(k0:Int)(tx:ByteArray)(ns ks:Value)(w:World)(hs:s.size≤140737488355328)(h:R w g s p tw lo 0 op)(hN:Nd w m k0 tx ns ks)(hne:m≠g)(hc:((bytes s).drop p).headD 0=110)(j:Nat)(hj:wordAt (bytes ⟨#[110,117,108,108]⟩) ((bytes s).drop p)=some j):
  Calls Tryz.prog 47 #[.pointer (some ⟨g,0,none⟩),.pointer (some ⟨m,0,none⟩)] w fun e w'=>e=.returned (.bool true)∧R w' g s (p+j) tw lo 0 op∧(∃ tx',Nd w' m k0 tx' ns ks)∧Two g m w w':=by
 have S:=Hq (see_c g s p tw lo 0 op 110 hc w h)
 have W:=Hq (fun n=>calls_yes (word54 g s ⟨#[110,117,108,108]⟩ p tw lo op (w.drewN n) hs (by decide) h.2 (h.drew n)) hj)
 obtain ⟨c0,c1,_,_,_,_,_,_,_⟩:=h.facts
 have HN:=Hq hN
 have HP:=Hq h.2
 have HNE:=Hq hne
 clear h hN hc hj hne
 go_enter Tryz.func47,Tryz.ntmps47
 go_wp2_with fail
 refine S.out.mono ?_
 rintro e w' ⟨rfl,n,rfl⟩
 clear c0 c1
 go_wp2_with fail
 refine (W.out n).mono ?_
 rintro e w1 ⟨rfl,hR,hg⟩
 have HR:=Hq hR
 have HG:=Hq hg
 have hN1:=HN.out.kept ((gb_drewN (World.grownBy.refl w (some g)) n).trans hg) HNE.out
 obtain ⟨c0,c1,_,_,_,_,_,_,_⟩:=hR.facts
 obtain ⟨d0,d1,e0,e1⟩:=hN1.facts
 have hb1:p+j≤s.size:=hR.2
 have HN1:=Hq hN1
 clear hR hg hN1
 have hsl:∀ W,(Instr.slice 9 (.string s) (some (.int .i64 (p:Int))) (some (.int .i64 ((p:Int)+(j:Int)))) none).run Tryz.prog W=.ok (.string (s.extract p (p+j))) W:=fun W=>by
  have e:=run_slice_string (P:=Tryz.prog) W 9 s .i64 .i64 (p:Int) ((p:Int)+(j:Int)) Tryz.underlying9 (by omega) (by omega) (by omega)
  rw [e,Int.toNat_natCast,show ((p:Int)+(j:Int)).toNat=p+j by omega]
 go_wp2_with fail
 go_still_tail 13,(by kernel_rfl)
 go_wp2_with fail
 go_ret
 have hG2:Two g m w (w1.drewN 1):=(Two.left ((gb_drewN (World.grownBy.refl w (some g)) n).trans HG.out)).drewN 1
 have hset:(w1.drewN 1).grownBy ((w1.drewN 1).setCell ⟨m,1,none⟩ (.string (s.extract p (p+j)))) (some m):=Go.Lib.grownBy_setCell _ _ _ _
 exact ⟨rfl,R.kept (HR.out.drew 1) hset (fun e=>HNE.out e.symm),⟨_,Nd.setText (w:=w1.drewN 1) HN1.out _⟩,hG2.trans (Two.right hset)⟩
theorem scalar_true(g m:Nat)(s:ByteArray)(p:Nat)(tw lo op:Bool)(k0:Int)(tx:ByteArray)(ns ks:Value)(w:World)(hs:s.size≤140737488355328)(h:R w g s p tw lo 0 op)(hN:Nd w m k0 tx ns ks)(hne:m≠g)(hc:((bytes s).drop p).headD 0=116)(j:Nat)(hj:wordAt (bytes ⟨#[116,114,117,101]⟩) ((bytes s).drop p)=some j):
  Calls Tryz.prog 47 #[.pointer (some ⟨g,0,none⟩),.pointer (some ⟨m,0,none⟩)] w fun e w'=>e=.returned (.bool true)∧R w' g s (p+j) tw lo 0 op∧(∃ tx',Nd w' m k0 tx' ns ks)∧Two g m w w':=by
 have S:=Hq (see_c g s p tw lo 0 op 116 hc w h)
 have W:=Hq (fun n=>calls_yes (word54 g s ⟨#[116,114,117,101]⟩ p tw lo op (w.drewN n) hs (by decide) h.2 (h.drew n)) hj)
 obtain ⟨c0,c1,_,_,_,_,_,_,_⟩:=h.facts
 have HN:=Hq hN
 have HP:=Hq h.2
 have HNE:=Hq hne
 clear h hN hc hj hne
 go_enter Tryz.func47,Tryz.ntmps47
 go_wp2_with fail
 refine S.out.mono ?_
 rintro e w' ⟨rfl,n,rfl⟩
 clear c0 c1
 go_wp2_with fail
 refine (W.out n).mono ?_
 rintro e w1 ⟨rfl,hR,hg⟩
 have HR:=Hq hR
 have HG:=Hq hg
 have hN1:=HN.out.kept ((gb_drewN (World.grownBy.refl w (some g)) n).trans hg) HNE.out
 obtain ⟨c0,c1,_,_,_,_,_,_,_⟩:=hR.facts
 obtain ⟨d0,d1,e0,e1⟩:=hN1.facts
 have hb1:p+j≤s.size:=hR.2
 have HN1:=Hq hN1
 clear hR hg hN1
 have hsl:∀ W,(Instr.slice 9 (.string s) (some (.int .i64 (p:Int))) (some (.int .i64 ((p:Int)+(j:Int)))) none).run Tryz.prog W=.ok (.string (s.extract p (p+j))) W:=fun W=>by
  have e:=run_slice_string (P:=Tryz.prog) W 9 s .i64 .i64 (p:Int) ((p:Int)+(j:Int)) Tryz.underlying9 (by omega) (by omega) (by omega)
  rw [e,Int.toNat_natCast,show ((p:Int)+(j:Int)).toNat=p+j by omega]
 go_wp2_with fail
 go_still_tail 13,(by kernel_rfl)
 go_wp2_with fail
 go_ret
 have hG2:Two g m w (w1.drewN 1):=(Two.left ((gb_drewN (World.grownBy.refl w (some g)) n).trans HG.out)).drewN 1
 have hset:(w1.drewN 1).grownBy ((w1.drewN 1).setCell ⟨m,1,none⟩ (.string (s.extract p (p+j)))) (some m):=Go.Lib.grownBy_setCell _ _ _ _
 exact ⟨rfl,R.kept (HR.out.drew 1) hset (fun e=>HNE.out e.symm),⟨_,Nd.setText (w:=w1.drewN 1) HN1.out _⟩,hG2.trans (Two.right hset)⟩
theorem scalar_false(g m:Nat)(s:ByteArray)(p:Nat)(tw lo op:Bool)(k0:Int)(tx:ByteArray)(ns ks:Value)(w:World)(hs:s.size≤140737488355328)(h:R w g s p tw lo 0 op)(hN:Nd w m k0 tx ns ks)(hne:m≠g)(hc:((bytes s).drop p).headD 0=102)(j:Nat)(hj:wordAt (bytes ⟨#[102,97,108,115,101]⟩) ((bytes s).drop p)=some j):
  Calls Tryz.prog 47 #[.pointer (some ⟨g,0,none⟩),.pointer (some ⟨m,0,none⟩)] w fun e w'=>e=.returned (.bool true)∧R w' g s (p+j) tw lo 0 op∧(∃ tx',Nd w' m k0 tx' ns ks)∧Two g m w w':=by
 have S:=Hq (see_c g s p tw lo 0 op 102 hc w h)
 have W:=Hq (fun n=>calls_yes (word54 g s ⟨#[102,97,108,115,101]⟩ p tw lo op (w.drewN n) hs (by decide) h.2 (h.drew n)) hj)
 obtain ⟨c0,c1,_,_,_,_,_,_,_⟩:=h.facts
 have HN:=Hq hN
 have HP:=Hq h.2
 have HNE:=Hq hne
 clear h hN hc hj hne
 go_enter Tryz.func47,Tryz.ntmps47
 go_wp2_with fail
 refine S.out.mono ?_
 rintro e w' ⟨rfl,n,rfl⟩
 clear c0 c1
 go_wp2_with fail
 refine (W.out n).mono ?_
 rintro e w1 ⟨rfl,hR,hg⟩
 have HR:=Hq hR
 have HG:=Hq hg
 have hN1:=HN.out.kept ((gb_drewN (World.grownBy.refl w (some g)) n).trans hg) HNE.out
 obtain ⟨c0,c1,_,_,_,_,_,_,_⟩:=hR.facts
 obtain ⟨d0,d1,e0,e1⟩:=hN1.facts
 have hb1:p+j≤s.size:=hR.2
 have HN1:=Hq hN1
 clear hR hg hN1
 have hsl:∀ W,(Instr.slice 9 (.string s) (some (.int .i64 (p:Int))) (some (.int .i64 ((p:Int)+(j:Int)))) none).run Tryz.prog W=.ok (.string (s.extract p (p+j))) W:=fun W=>by
  have e:=run_slice_string (P:=Tryz.prog) W 9 s .i64 .i64 (p:Int) ((p:Int)+(j:Int)) Tryz.underlying9 (by omega) (by omega) (by omega)
  rw [e,Int.toNat_natCast,show ((p:Int)+(j:Int)).toNat=p+j by omega]
 go_wp2_with fail
 go_still_tail 13,(by kernel_rfl)
 go_wp2_with fail
 go_ret
 have hG2:Two g m w (w1.drewN 1):=(Two.left ((gb_drewN (World.grownBy.refl w (some g)) n).trans HG.out)).drewN 1
 have hset:(w1.drewN 1).grownBy ((w1.drewN 1).setCell ⟨m,1,none⟩ (.string (s.extract p (p+j)))) (some m):=Go.Lib.grownBy_setCell _ _ _ _
 exact ⟨rfl,R.kept (HR.out.drew 1) hset (fun e=>HNE.out e.symm),⟨_,Nd.setText (w:=w1.drewN 1) HN1.out _⟩,hG2.trans (Two.right hset)⟩
theorem scalar_word_no(g m:Nat)(s:ByteArray)(p:Nat)(tw lo op:Bool)(k0:Int)(tx:ByteArray)(ns ks:Value)(w:World)(hs:s.size≤140737488355328)(h:R w g s p tw lo 0 op)(hN:Nd w m k0 tx ns ks)(hne:m≠g)(hc:((bytes s).drop p).headD 0=110)(hj:wordAt (bytes ⟨#[110,117,108,108]⟩) ((bytes s).drop p)=none):
  Calls Tryz.prog 47 #[.pointer (some ⟨g,0,none⟩),.pointer (some ⟨m,0,none⟩)] w fun e w'=>e=.returned (.bool false)∧Failed g s tw lo op p w'∧(∃ tx',Nd w' m k0 tx' ns ks)∧Two g m w w':=by
 have S:=Hq (see_c g s p tw lo 0 op 110 hc w h)
 have W:=Hq (fun n=>calls_no (word54 g s ⟨#[110,117,108,108]⟩ p tw lo op (w.drewN n) hs (by decide) h.2 (h.drew n)) hj)
 obtain ⟨c0,c1,_,_,_,_,_,_,_⟩:=h.facts
 have HN:=Hq hN
 have HP:=Hq h.2
 have HNE:=Hq hne
 clear h hN hc hj hne
 go_enter Tryz.func47,Tryz.ntmps47
 go_wp2_with fail
 refine S.out.mono ?_
 rintro e w' ⟨rfl,n,rfl⟩
 clear c0 c1
 go_wp2_with fail
 refine (W.out n).mono ?_
 rintro e w1 ⟨rfl,⟨q,fa,hfa,hpq,hR⟩,hg⟩
 have HR:=Hq hR
 have HG:=Hq hg
 have hN1:=HN.out.kept ((gb_drewN (World.grownBy.refl w (some g)) n).trans hg) HNE.out
 obtain ⟨c0,c1,_,_,_,_,_,_,_⟩:=hR.facts
 obtain ⟨d0,d1,e0,e1⟩:=hN1.facts
 have hb1:q≤s.size:=hR.2
 have HN1:=Hq hN1
 clear hR hg hN1
 have hsl:∀ W,(Instr.slice 9 (.string s) (some (.int .i64 (p:Int))) (some (.int .i64 (q:Int))) none).run Tryz.prog W=.ok (.string (s.extract p q)) W:=fun W=>by
  have e:=run_slice_string (P:=Tryz.prog) W 9 s .i64 .i64 (p:Int) (q:Int) Tryz.underlying9 (by omega) (by omega) (by omega)
  rw [e,Int.toNat_natCast,Int.toNat_natCast]
 go_wp2_with fail
 go_still_tail 13,(by kernel_rfl)
 go_wp2_with fail
 go_ret
 have hG2:Two g m w (w1.drewN 1):=(Two.left ((gb_drewN (World.grownBy.refl w (some g)) n).trans HG.out)).drewN 1
 have hset:(w1.drewN 1).grownBy ((w1.drewN 1).setCell ⟨m,1,none⟩ (.string (s.extract p q))) (some m):=Go.Lib.grownBy_setCell _ _ _ _
 exact ⟨rfl,⟨q,fa,hfa,hpq,R.kept (HR.out.drew 1) hset (fun e=>HNE.out e.symm)⟩,⟨_,Nd.setText (w:=w1.drewN 1) HN1.out _⟩,hG2.trans (Two.right hset)⟩
theorem scalar_true_no(g m:Nat)(s:ByteArray)(p:Nat)(tw lo op:Bool)(k0:Int)(tx:ByteArray)(ns ks:Value)(w:World)(hs:s.size≤140737488355328)(h:R w g s p tw lo 0 op)(hN:Nd w m k0 tx ns ks)(hne:m≠g)(hc:((bytes s).drop p).headD 0=116)(hj:wordAt (bytes ⟨#[116,114,117,101]⟩) ((bytes s).drop p)=none):
  Calls Tryz.prog 47 #[.pointer (some ⟨g,0,none⟩),.pointer (some ⟨m,0,none⟩)] w fun e w'=>e=.returned (.bool false)∧Failed g s tw lo op p w'∧(∃ tx',Nd w' m k0 tx' ns ks)∧Two g m w w':=by
 have S:=Hq (see_c g s p tw lo 0 op 116 hc w h)
 have W:=Hq (fun n=>calls_no (word54 g s ⟨#[116,114,117,101]⟩ p tw lo op (w.drewN n) hs (by decide) h.2 (h.drew n)) hj)
 obtain ⟨c0,c1,_,_,_,_,_,_,_⟩:=h.facts
 have HN:=Hq hN
 have HP:=Hq h.2
 have HNE:=Hq hne
 clear h hN hc hj hne
 go_enter Tryz.func47,Tryz.ntmps47
 go_wp2_with fail
 refine S.out.mono ?_
 rintro e w' ⟨rfl,n,rfl⟩
 clear c0 c1
 go_wp2_with fail
 refine (W.out n).mono ?_
 rintro e w1 ⟨rfl,⟨q,fa,hfa,hpq,hR⟩,hg⟩
 have HR:=Hq hR
 have HG:=Hq hg
 have hN1:=HN.out.kept ((gb_drewN (World.grownBy.refl w (some g)) n).trans hg) HNE.out
 obtain ⟨c0,c1,_,_,_,_,_,_,_⟩:=hR.facts
 obtain ⟨d0,d1,e0,e1⟩:=hN1.facts
 have hb1:q≤s.size:=hR.2
 have HN1:=Hq hN1
 clear hR hg hN1
 have hsl:∀ W,(Instr.slice 9 (.string s) (some (.int .i64 (p:Int))) (some (.int .i64 (q:Int))) none).run Tryz.prog W=.ok (.string (s.extract p q)) W:=fun W=>by
  have e:=run_slice_string (P:=Tryz.prog) W 9 s .i64 .i64 (p:Int) (q:Int) Tryz.underlying9 (by omega) (by omega) (by omega)
  rw [e,Int.toNat_natCast,Int.toNat_natCast]
 go_wp2_with fail
 go_still_tail 13,(by kernel_rfl)
 go_wp2_with fail
 go_ret
 have hG2:Two g m w (w1.drewN 1):=(Two.left ((gb_drewN (World.grownBy.refl w (some g)) n).trans HG.out)).drewN 1
 have hset:(w1.drewN 1).grownBy ((w1.drewN 1).setCell ⟨m,1,none⟩ (.string (s.extract p q))) (some m):=Go.Lib.grownBy_setCell _ _ _ _
 exact ⟨rfl,⟨q,fa,hfa,hpq,R.kept (HR.out.drew 1) hset (fun e=>HNE.out e.symm)⟩,⟨_,Nd.setText (w:=w1.drewN 1) HN1.out _⟩,hG2.trans (Two.right hset)⟩
theorem scalar_false_no(g m:Nat)(s:ByteArray)(p:Nat)(tw lo op:Bool)(k0:Int)(tx:ByteArray)(ns ks:Value)(w:World)(hs:s.size≤140737488355328)(h:R w g s p tw lo 0 op)(hN:Nd w m k0 tx ns ks)(hne:m≠g)(hc:((bytes s).drop p).headD 0=102)(hj:wordAt (bytes ⟨#[102,97,108,115,101]⟩) ((bytes s).drop p)=none):
  Calls Tryz.prog 47 #[.pointer (some ⟨g,0,none⟩),.pointer (some ⟨m,0,none⟩)] w fun e w'=>e=.returned (.bool false)∧Failed g s tw lo op p w'∧(∃ tx',Nd w' m k0 tx' ns ks)∧Two g m w w':=by
 have S:=Hq (see_c g s p tw lo 0 op 102 hc w h)
 have W:=Hq (fun n=>calls_no (word54 g s ⟨#[102,97,108,115,101]⟩ p tw lo op (w.drewN n) hs (by decide) h.2 (h.drew n)) hj)
 obtain ⟨c0,c1,_,_,_,_,_,_,_⟩:=h.facts
 have HN:=Hq hN
 have HP:=Hq h.2
 have HNE:=Hq hne
 clear h hN hc hj hne
 go_enter Tryz.func47,Tryz.ntmps47
 go_wp2_with fail
 refine S.out.mono ?_
 rintro e w' ⟨rfl,n,rfl⟩
 clear c0 c1
 go_wp2_with fail
 refine (W.out n).mono ?_
 rintro e w1 ⟨rfl,⟨q,fa,hfa,hpq,hR⟩,hg⟩
 have HR:=Hq hR
 have HG:=Hq hg
 have hN1:=HN.out.kept ((gb_drewN (World.grownBy.refl w (some g)) n).trans hg) HNE.out
 obtain ⟨c0,c1,_,_,_,_,_,_,_⟩:=hR.facts
 obtain ⟨d0,d1,e0,e1⟩:=hN1.facts
 have hb1:q≤s.size:=hR.2
 have HN1:=Hq hN1
 clear hR hg hN1
 have hsl:∀ W,(Instr.slice 9 (.string s) (some (.int .i64 (p:Int))) (some (.int .i64 (q:Int))) none).run Tryz.prog W=.ok (.string (s.extract p q)) W:=fun W=>by
  have e:=run_slice_string (P:=Tryz.prog) W 9 s .i64 .i64 (p:Int) (q:Int) Tryz.underlying9 (by omega) (by omega) (by omega)
  rw [e,Int.toNat_natCast,Int.toNat_natCast]
 go_wp2_with fail
 go_still_tail 13,(by kernel_rfl)
 go_wp2_with fail
 go_ret
 have hG2:Two g m w (w1.drewN 1):=(Two.left ((gb_drewN (World.grownBy.refl w (some g)) n).trans HG.out)).drewN 1
 have hset:(w1.drewN 1).grownBy ((w1.drewN 1).setCell ⟨m,1,none⟩ (.string (s.extract p q))) (some m):=Go.Lib.grownBy_setCell _ _ _ _
 exact ⟨rfl,⟨q,fa,hfa,hpq,R.kept (HR.out.drew 1) hset (fun e=>HNE.out e.symm)⟩,⟨_,Nd.setText (w:=w1.drewN 1) HN1.out _⟩,hG2.trans (Two.right hset)⟩
end Go.Proofs.YtknaalohaagcdaaGreatDoor.Own
