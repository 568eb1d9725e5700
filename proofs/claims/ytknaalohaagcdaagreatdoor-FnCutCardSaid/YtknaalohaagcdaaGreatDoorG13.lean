import Derived.Test.YtknaalohaagcdaaGreatDoorG01
import Derived.Test.YtknaalohaagcdaaGreatDoorG10
import Derived.Test.YtknaalohaagcdaaGreatDoorG12
set_option maxHeartbeats 400000000
set_option maxRecDepth 100000
namespace Go.Proofs.YtknaalohaagcdaaGreatDoor.Own
open Go.RowKit JG
def SomeBool(w:World)(e:Ending)(w':World):Prop:=∃ b,e=.returned (.bool b)∧w'=w
theorem prefix158(B q cap n:Nat)(s:ByteArray)(low:Bool)(w:World)(hs:s.size≤4294967296)(hq:q+n≤s.size)(hB:Bf w B s):
  Calls Tryz.prog 158 #[.slice (some ⟨B,q,none⟩) n cap,.bool low] w (SomeBool w):=by
 have HB:=Hq hB
 clear hB
 go_enter Tryz.func158,Tryz.ntmps158
 go_wp2_with fail
 go_loopg [9] n (fun gk v9 wr=>∃ (i:Nat),v9=.int .i64 i∧i≤n∧Hid (gk=n-i)∧wr=w)
 case atStart=>exact ⟨0,rfl,by omega,Hq rfl,rfl⟩
 case round=>
  obtain ⟨i,rfl,hi,HG,rfl⟩:=hrel
  by_cases hlt:i<n
  ·have t4:decide (i<n)=true:=by simpa using hlt
   have i0:(0:Int)≤(i:Int):=Int.natCast_nonneg _
   have i1:(i:Int)<(n:Int):=by omega
   have hc:=HB.out (q+i) (by omega)
   generalize (s[q+i].toNat:Int)=c at hc
   have HGm:=Hq (show n-(i+1)<gk by have:=HG.out; omega)
   rcases (show i=0∨i=1∨i=2∨i=3∨(4≤i∧i<6)∨6≤i by omega) with rfl|rfl|rfl|rfl|h4|h6
   ·rw [Nat.add_zero] at hc
    by_cases hc0:c=92
    ·subst hc0
     cases low
     all_goals
      go_wp2_with fail
      go_roundg (n-(0+1))
      case measure=>exact HGm.out
      case rel=>exact ⟨0+1,by go_num,by omega,Hq rfl,rfl⟩
    ·have u:(c != 92)=true:=by simpa using hc0
     cases low
     all_goals
      go_wp2_with fail
      go_ret
      exact ⟨_,rfl,rfl⟩
   ·by_cases hc0:c=117
    ·subst hc0
     cases low
     all_goals
      go_wp2_with fail
      go_roundg (n-(1+1))
      case measure=>exact HGm.out
      case rel=>exact ⟨1+1,by go_num,by omega,Hq rfl,rfl⟩
    ·have u:(c != 117)=true:=by simpa using hc0
     cases low
     all_goals
      go_wp2_with fail
      go_ret
      exact ⟨_,rfl,rfl⟩
   ·cases low
    ·skip
     rcases (show (48≤c∧c≤57)∨(97≤c∧c≤102)∨(65≤c∧c≤70)∨(c<48)∨(57<c∧c<65)∨(70<c∧c<97)∨(102<c) by omega) with hcl|hcl|hcl|hcl|hcl|hcl|hcl
     ·skip
      have u0:(decide (48≤c))=true:=by simp; omega
      have u1:(decide (c≤57))=true:=by simp; omega
      go_wp2_with fail
      go_roundg (n-(2+1))
      case measure=>exact HGm.out
      case rel=>exact ⟨2+1,by go_num,by omega,Hq rfl,rfl⟩
     ·skip
      have u0:(decide (48≤c))=true:=by simp; omega
      have u1:(decide (c≤57))=false:=by simp; omega
      have u2:(decide (97≤c))=true:=by simp; omega
      have u3:(decide (c≤102))=true:=by simp; omega
      go_wp2_with fail
      go_roundg (n-(2+1))
      case measure=>exact HGm.out
      case rel=>exact ⟨2+1,by go_num,by omega,Hq rfl,rfl⟩
     ·skip
      have u0:(decide (48≤c))=true:=by simp; omega
      have u1:(decide (c≤57))=false:=by simp; omega
      have u2:(decide (97≤c))=false:=by simp; omega
      have u3:(decide (65≤c))=true:=by simp; omega
      have u4:(decide (c≤70))=true:=by simp; omega
      go_wp2_with fail
      go_roundg (n-(2+1))
      case measure=>exact HGm.out
      case rel=>exact ⟨2+1,by go_num,by omega,Hq rfl,rfl⟩
     ·skip
      have u0:(decide (48≤c))=false:=by simp; omega
      have u1:(decide (97≤c))=false:=by simp; omega
      have u2:(decide (65≤c))=false:=by simp; omega
      go_wp2_with fail
      go_ret
      exact ⟨_,rfl,rfl⟩
     ·skip
      have u0:(decide (48≤c))=true:=by simp; omega
      have u1:(decide (c≤57))=false:=by simp; omega
      have u2:(decide (97≤c))=false:=by simp; omega
      have u3:(decide (65≤c))=false:=by simp; omega
      go_wp2_with fail
      go_ret
      exact ⟨_,rfl,rfl⟩
     ·skip
      have u0:(decide (48≤c))=true:=by simp; omega
      have u1:(decide (c≤57))=false:=by simp; omega
      have u2:(decide (97≤c))=false:=by simp; omega
      have u3:(decide (65≤c))=true:=by simp; omega
      have u4:(decide (c≤70))=false:=by simp; omega
      go_wp2_with fail
      go_ret
      exact ⟨_,rfl,rfl⟩
     ·skip
      have u0:(decide (48≤c))=true:=by simp; omega
      have u1:(decide (c≤57))=false:=by simp; omega
      have u2:(decide (97≤c))=true:=by simp; omega
      have u3:(decide (c≤102))=false:=by simp; omega
      have u4:(decide (65≤c))=true:=by simp; omega
      have u5:(decide (c≤70))=false:=by simp; omega
      go_wp2_with fail
      go_ret
      exact ⟨_,rfl,rfl⟩
    ·by_cases hc0:c=100
     ·subst hc0
      go_wp2_with fail
      go_roundg (n-(2+1))
      case measure=>exact HGm.out
      case rel=>exact ⟨2+1,by go_num,by omega,Hq rfl,rfl⟩
     by_cases hc1:c=68
     ·subst hc1
      go_wp2_with fail
      go_roundg (n-(2+1))
      case measure=>exact HGm.out
      case rel=>exact ⟨2+1,by go_num,by omega,Hq rfl,rfl⟩
     ·have u:(c != 100)=true:=by simpa using hc0
      have v:(c != 68)=true:=by simpa using hc1
      go_wp2_with fail
      go_ret
      exact ⟨_,rfl,rfl⟩
   ·cases low
    ·skip
     rcases (show (48≤c∧c≤57)∨(97≤c∧c≤102)∨(65≤c∧c≤70)∨(c<48)∨(57<c∧c<65)∨(70<c∧c<97)∨(102<c) by omega) with hcl|hcl|hcl|hcl|hcl|hcl|hcl
     ·skip
      have u0:(decide (48≤c))=true:=by simp; omega
      have u1:(decide (c≤57))=true:=by simp; omega
      go_wp2_with fail
      go_roundg (n-(3+1))
      case measure=>exact HGm.out
      case rel=>exact ⟨3+1,by go_num,by omega,Hq rfl,rfl⟩
     ·skip
      have u0:(decide (48≤c))=true:=by simp; omega
      have u1:(decide (c≤57))=false:=by simp; omega
      have u2:(decide (97≤c))=true:=by simp; omega
      have u3:(decide (c≤102))=true:=by simp; omega
      go_wp2_with fail
      go_roundg (n-(3+1))
      case measure=>exact HGm.out
      case rel=>exact ⟨3+1,by go_num,by omega,Hq rfl,rfl⟩
     ·skip
      have u0:(decide (48≤c))=true:=by simp; omega
      have u1:(decide (c≤57))=false:=by simp; omega
      have u2:(decide (97≤c))=false:=by simp; omega
      have u3:(decide (65≤c))=true:=by simp; omega
      have u4:(decide (c≤70))=true:=by simp; omega
      go_wp2_with fail
      go_roundg (n-(3+1))
      case measure=>exact HGm.out
      case rel=>exact ⟨3+1,by go_num,by omega,Hq rfl,rfl⟩
     ·skip
      have u0:(decide (48≤c))=false:=by simp; omega
      have u1:(decide (97≤c))=false:=by simp; omega
      have u2:(decide (65≤c))=false:=by simp; omega
      go_wp2_with fail
      go_ret
      exact ⟨_,rfl,rfl⟩
     ·skip
      have u0:(decide (48≤c))=true:=by simp; omega
      have u1:(decide (c≤57))=false:=by simp; omega
      have u2:(decide (97≤c))=false:=by simp; omega
      have u3:(decide (65≤c))=false:=by simp; omega
      go_wp2_with fail
      go_ret
      exact ⟨_,rfl,rfl⟩
     ·skip
      have u0:(decide (48≤c))=true:=by simp; omega
      have u1:(decide (c≤57))=false:=by simp; omega
      have u2:(decide (97≤c))=false:=by simp; omega
      have u3:(decide (65≤c))=true:=by simp; omega
      have u4:(decide (c≤70))=false:=by simp; omega
      go_wp2_with fail
      go_ret
      exact ⟨_,rfl,rfl⟩
     ·skip
      have u0:(decide (48≤c))=true:=by simp; omega
      have u1:(decide (c≤57))=false:=by simp; omega
      have u2:(decide (97≤c))=true:=by simp; omega
      have u3:(decide (c≤102))=false:=by simp; omega
      have u4:(decide (65≤c))=true:=by simp; omega
      have u5:(decide (c≤70))=false:=by simp; omega
      go_wp2_with fail
      go_ret
      exact ⟨_,rfl,rfl⟩
    ·skip
     rcases (show (99≤c∧c≤102)∨(67≤c∧c≤70)∨(c<67)∨(70<c∧c<99)∨(102<c) by omega) with hcl|hcl|hcl|hcl|hcl
     ·skip
      have u0:(decide (99≤c))=true:=by simp; omega
      have u1:(decide (c≤102))=true:=by simp; omega
      have u2:(decide (48≤c))=true:=by simp; omega
      have u3:(decide (c≤57))=false:=by simp; omega
      have u4:(decide (97≤c))=true:=by simp; omega
      go_wp2_with fail
      go_roundg (n-(3+1))
      case measure=>exact HGm.out
      case rel=>exact ⟨3+1,by go_num,by omega,Hq rfl,rfl⟩
     ·skip
      have u0:(decide (99≤c))=false:=by simp; omega
      have u1:(decide (67≤c))=true:=by simp; omega
      have u2:(decide (c≤70))=true:=by simp; omega
      have u3:(decide (48≤c))=true:=by simp; omega
      have u4:(decide (c≤57))=false:=by simp; omega
      have u5:(decide (97≤c))=false:=by simp; omega
      have u6:(decide (65≤c))=true:=by simp; omega
      go_wp2_with fail
      go_roundg (n-(3+1))
      case measure=>exact HGm.out
      case rel=>exact ⟨3+1,by go_num,by omega,Hq rfl,rfl⟩
     ·skip
      have u0:(decide (99≤c))=false:=by simp; omega
      have u1:(decide (67≤c))=false:=by simp; omega
      go_wp2_with fail
      go_ret
      exact ⟨_,rfl,rfl⟩
     ·skip
      have u0:(decide (99≤c))=false:=by simp; omega
      have u1:(decide (67≤c))=true:=by simp; omega
      have u2:(decide (c≤70))=false:=by simp; omega
      go_wp2_with fail
      go_ret
      exact ⟨_,rfl,rfl⟩
     ·skip
      have u0:(decide (99≤c))=true:=by simp; omega
      have u1:(decide (c≤102))=false:=by simp; omega
      have u2:(decide (67≤c))=true:=by simp; omega
      have u3:(decide (c≤70))=false:=by simp; omega
      go_wp2_with fail
      go_ret
      exact ⟨_,rfl,rfl⟩
   ·have e0:((i:Int)==0)=false:=by simp; omega
    have e1:((i:Int)==1)=false:=by simp; omega
    have e2:((i:Int)==2)=false:=by simp; omega
    have e3:((i:Int)==3)=false:=by simp; omega
    have e4:decide (2≤(i:Int))=true:=by simp; omega
    have e5:decide ((i:Int)<6)=true:=by simp; omega
    cases low
    all_goals
     rcases (show (48≤c∧c≤57)∨(97≤c∧c≤102)∨(65≤c∧c≤70)∨(c<48)∨(57<c∧c<65)∨(70<c∧c<97)∨(102<c) by omega) with hcl|hcl|hcl|hcl|hcl|hcl|hcl
     ·skip
      have u0:(decide (48≤c))=true:=by simp; omega
      have u1:(decide (c≤57))=true:=by simp; omega
      go_wp2_with fail
      go_roundg (n-(i+1))
      case measure=>exact HGm.out
      case rel=>exact ⟨i+1,by go_num,by omega,Hq rfl,rfl⟩
     ·skip
      have u0:(decide (48≤c))=true:=by simp; omega
      have u1:(decide (c≤57))=false:=by simp; omega
      have u2:(decide (97≤c))=true:=by simp; omega
      have u3:(decide (c≤102))=true:=by simp; omega
      go_wp2_with fail
      go_roundg (n-(i+1))
      case measure=>exact HGm.out
      case rel=>exact ⟨i+1,by go_num,by omega,Hq rfl,rfl⟩
     ·skip
      have u0:(decide (48≤c))=true:=by simp; omega
      have u1:(decide (c≤57))=false:=by simp; omega
      have u2:(decide (97≤c))=false:=by simp; omega
      have u3:(decide (65≤c))=true:=by simp; omega
      have u4:(decide (c≤70))=true:=by simp; omega
      go_wp2_with fail
      go_roundg (n-(i+1))
      case measure=>exact HGm.out
      case rel=>exact ⟨i+1,by go_num,by omega,Hq rfl,rfl⟩
     ·skip
      have u0:(decide (48≤c))=false:=by simp; omega
      have u1:(decide (97≤c))=false:=by simp; omega
      have u2:(decide (65≤c))=false:=by simp; omega
      go_wp2_with fail
      go_ret
      exact ⟨_,rfl,rfl⟩
     ·skip
      have u0:(decide (48≤c))=true:=by simp; omega
      have u1:(decide (c≤57))=false:=by simp; omega
      have u2:(decide (97≤c))=false:=by simp; omega
      have u3:(decide (65≤c))=false:=by simp; omega
      go_wp2_with fail
      go_ret
      exact ⟨_,rfl,rfl⟩
     ·skip
      have u0:(decide (48≤c))=true:=by simp; omega
      have u1:(decide (c≤57))=false:=by simp; omega
      have u2:(decide (97≤c))=false:=by simp; omega
      have u3:(decide (65≤c))=true:=by simp; omega
      have u4:(decide (c≤70))=false:=by simp; omega
      go_wp2_with fail
      go_ret
      exact ⟨_,rfl,rfl⟩
     ·skip
      have u0:(decide (48≤c))=true:=by simp; omega
      have u1:(decide (c≤57))=false:=by simp; omega
      have u2:(decide (97≤c))=true:=by simp; omega
      have u3:(decide (c≤102))=false:=by simp; omega
      have u4:(decide (65≤c))=true:=by simp; omega
      have u5:(decide (c≤70))=false:=by simp; omega
      go_wp2_with fail
      go_ret
      exact ⟨_,rfl,rfl⟩
   ·have e0:((i:Int)==0)=false:=by simp; omega
    have e1:((i:Int)==1)=false:=by simp; omega
    have e2:((i:Int)==2)=false:=by simp; omega
    have e3:((i:Int)==3)=false:=by simp; omega
    have e4:decide (2≤(i:Int))=true:=by simp; omega
    have e5:decide ((i:Int)<6)=false:=by simp; omega
    cases low
    all_goals
     go_wp2_with fail
     go_roundg (n-(i+1))
     case measure=>exact HGm.out
     case rel=>exact ⟨i+1,by go_num,by omega,Hq rfl,rfl⟩
  ·have t4:decide (i<n)=false:=by simpa using hlt
   go_wp2_with fail
   go_ret
   exact ⟨_,rfl,rfl⟩
theorem prefix158_nil(ao:Option Addr)(cap:Nat)(low:Bool)(w:World):
  Calls Tryz.prog 158 #[.slice ao 0 cap,.bool low] w (SomeBool w):=by
 go_enter Tryz.func158,Tryz.ntmps158
 go_wp2_with fail
 go_loopg [9] 1 (fun gk v9 wr=>v9=.int .i64 0∧wr=w∧gk=1)
 case atStart=>exact ⟨rfl,rfl,rfl⟩
 case round=>
  obtain ⟨rfl,rfl,hk⟩:=hrel
  go_wp2_with fail
  go_ret
  exact ⟨_,rfl,rfl⟩
theorem below_gb{w w':World}(h:Below w.heap.size w w'):w.grownBy w' none:=⟨h.os,h.tape,h.output,h.size,fun i hi _=>h.block i hi⟩
def TextErr(w:World)(e:Ending)(w':World):Prop:=∃ b,e=.returned (.iface 175 (.pointer (some ⟨b,0,none⟩)))∧w.grownBy w' none
theorem DR_le{xs:List Int}{r:Int}{k:Nat}(h:DR xs r k)(hx:1≤xs.length):1≤k∧k≤xs.length:=by
 rcases h with ⟨_,_,rfl⟩|⟨_,h,h2⟩|⟨_,_,_,rfl⟩
 ·exact ⟨Nat.le_refl _,hx⟩
 ·exact ⟨by omega,runeO_le hx h⟩
 ·exact ⟨Nat.le_refl _,hx⟩
theorem charErr107(B p cap:Nat)(s wh:ByteArray)(w:World)(hT:Lib.Utf8Tabs 12 13 w)(hp:p<s.size)(hcap:s.size-p≤cap)(hB:Bf w B s):
  Calls Tryz.prog 107 #[.slice (some ⟨B,p,none⟩) (s.size-p) cap,.string wh] w (TextErr w):=by
 have D:=Hq (decode142 B p cap s w hT hp hB)
 have HB:=Hq hB
 have hBl:B<w.heap.size:=World.block_lt_of_cell? w _ (hB p hp)
 clear hB hT
 go_enter Tryz.func107,Tryz.ntmps107
 go_wp2_with fail
 refine D.out.mono ?_
 rintro e w1 ⟨r,k,rfl,hd,hb⟩
 have hk:=DR_le hd (by rw [List.length_drop,bytes_len]; omega)
 rw [List.length_drop,bytes_len] at hk
 have HG:=Hq (below_gb hb)
 have hB1:Bf w1 B s:=HB.out.kept (hb.block B hBl)
 have hst:=conv_head (p:=p) (cap:=cap) (n:=k) hB1 (by omega)
 have i0:(0:Int)≤(k:Int):=Int.natCast_nonneg _
 have i1:(k:Int)≤(cap:Int):=by omega
 have i2:k≤cap:=by omega
 generalize s.extract p (p+k)=y at hst
 clear hd hb hB1 hk
 go_wp2_with fail
 go_ret
 exact ⟨_,rfl,HG.out.trans (World.grownBy_alloc _ _ none)⟩
theorem escErr159(B p n cap:Nat)(s:ByteArray)(w:World)(hp:p+n≤s.size)(hB:Bf w B s):
  Calls Tryz.prog 159 #[.slice (some ⟨B,p,none⟩) n cap] w (TextErr w):=by
 have hst:=conv_head (p:=p) (cap:=cap) (n:=n) hB hp
 generalize s.extract p (p+n)=y at hst
 clear hB
 by_cases h6:6<n
 ·have t1:decide (6<(n:Int))=true:=by simp; omega
  go_enter Tryz.func159,Tryz.ntmps159
  go_wp2_with fail
  go_ret
  exact ⟨_,rfl,World.grownBy_alloc _ _ none⟩
 ·have t1:decide (6<(n:Int))=false:=by simp; omega
  go_enter Tryz.func159,Tryz.ntmps159
  go_wp2_with fail
  go_ret
  exact ⟨_,rfl,World.grownBy_alloc _ _ none⟩
def VerbL(pre:List Int):Prop:=∀ ys,dec 0 (pre++ys)=(pre++(dec 0 ys).1,(dec 0 ys).2)
theorem VerbL.nil:VerbL []:=fun _=>rfl
theorem VerbL.append{a b:List Int}(ha:VerbL a)(hb:VerbL b):VerbL (a++b):=fun ys=>by rw [List.append_assoc,ha,hb,List.append_assoc]
theorem VerbL.one{c:Int}(h:c<128)(h2:¬ c=92):VerbL [c]:=fun ys=>by
 have hw:widthO (c::ys)=1:=by unfold widthO; rw [if_pos (by exact h)]
 have hp:pieceD (c::ys)=([c],1,true):=by
  unfold pieceD
  rw [if_neg (by exact h2),hw,if_neg (by decide)]
  rfl
 rw [List.singleton_append,dec_cons,hp]
 simp
theorem VerbL.rune{c:Int}{pre:List Int}(h:¬ c<128)(hp:∀ ys,runeO (c::pre++ys)=some (c::pre).length):VerbL (c::pre):=fun ys=>by
 have hw:widthO (c::(pre++ys))=(c::pre).length:=by
  unfold widthO
  rw [if_neg (by exact h),← List.cons_append,hp]
  rfl
 have hpd:pieceD (c::(pre++ys))=(c::pre,(c::pre).length,true):=by
  unfold pieceD
  rw [if_neg (show ¬ (c::(pre++ys)).headD 0=92 from (show ¬ c=92 by omega)),hw,if_neg (by simp),← List.cons_append,List.take_left]
 rw [List.cons_append,dec_cons,hpd]
 simp only [Bool.true_and]
 rw [← List.cons_append,drop_app rfl]
theorem VerbL.all{pre:List Int}(h:VerbL pre):dec 0 pre=(pre,true):=by
 have:=h []
 simpa [dec] using this
def EscTab(w:World):Prop:=∀ c:Nat,c<128→∃ v:Int,w.cell? ⟨9,c,none⟩=some (.int .u8 v)∧(v=0→32≤c∧c≠34∧c≠92)
def Simple(xs:List Int)(w:World)(e:Ending)(w':World):Prop:=∃ k:Nat,e=.returned (.int .i64 k)∧w'=w∧(k=0∨∃ j,k=j+1∧(∀ lo,quotedO lo xs=some j)∧VerbL (xs.tail.take (j-1)))
theorem simple93(B p cap:Nat)(s:ByteArray)(w:World)(hs:s.size≤4294967296)(hp:p≤s.size)(hB:Bf w B s)(hE:EscTab w):
  Calls Tryz.prog 93 #[.slice (some ⟨B,p,none⟩) (s.size-p) cap] w (Simple ((bytes s).drop p) w):=by
 have HB:=Hq hB
 have HE0:=Hq hE
 clear hE
 by_cases hq:∃ h:p<s.size,(s[p].toNat:Int)=34
 ·obtain ⟨hlt,h34⟩:=hq
  have c0:=hB p hlt
  rw [h34] at c0
  have i0:(0:Int)<((s.size-p:Nat):Int):=by omega
  have hd:=bytes_drop hlt
  rw [h34] at hd
  have HD:=Hq hd
  have HQ:=Hq (show ∀ lo,quotedO lo ((bytes s).drop p)=(sq lo 0 ((bytes s).drop (p+1))).map (·+1) by
   intro lo
   rw [hd]
   unfold quotedO
   rw [if_pos (by rfl)]
   rfl)
  clear hd hB
  go_enter Tryz.func93,Tryz.ntmps93
  go_wp2_with fail
  go_loopg [2] (s.size-(p+1)) (fun gk v2 wr=>∃ n:Nat,v2=.int .i64 n∧1≤n∧p+n≤s.size∧Hid (∀ lo,quotedO lo ((bytes s).drop p)=(sq lo 0 ((bytes s).drop (p+n))).map (·+n))∧Hid (VerbL (((bytes s).drop (p+1)).take (n-1)))∧Hid (gk=s.size-(p+n))∧wr=w)
  case atStart=>exact ⟨1,rfl,Nat.le_refl _,by omega,HQ,Hq VerbL.nil,Hq rfl,rfl⟩
  case round=>
   obtain ⟨n,rfl,hn,hpn,HS,HV,HG,rfl⟩:=hrel
   have j0:(0:Int)≤(n:Int):=Int.natCast_nonneg _
   by_cases hlt2:p+n<s.size
   ·have t0:decide (n<s.size-p)=true:=by simp; omega
    have j1:(n:Int)<((s.size-p:Nat):Int):=by omega
    have cn:=HB.out (p+n) hlt2
    have hdn:=bytes_drop hlt2
    have hcb:=s[p+n].toNat_lt
    have HDN:=Hq hdn
    generalize s[p+n].toNat=c at cn hcb HDN
    clear hdn
    by_cases h128:c<128
    ·have t1:decide ((c:Int)<128)=true:=by simp; omega
     obtain ⟨v,hv,hv0⟩:=HE0.out c h128
     have k0:(0:Int)≤(c:Int):=Int.natCast_nonneg _
     have k1:(c:Int)<128:=by omega
     by_cases hvz:v=0
     ·obtain ⟨e1,e2,e3⟩:=hv0 hvz
      subst hvz
      have HC:=Hq (And.intro e1 (And.intro e2 e3))
      clear e1 e2 e3 hv0
      go_wp2_with fail
      go_roundg (s.size-(p+(n+1)))
      case measure=>have:=HG.out; omega
      case rel=>
       have h1:¬ (c:Int)=34:=by have:=HC.out; omega
       have hst:∀ lo,stp lo ((bytes s).drop (p+n))=some 1:=fun lo=>by
        rw [HDN.out]
        exact stp_one (by have:=HC.out; omega) (by have:=HC.out; omega) (.inl (by omega))
       refine ⟨n+1,by go_num,by omega,by omega,Hq (fun lo => ?_),Hq ?_,Hq rfl,rfl⟩
       ·have h2:=hst lo
        rw [HDN.out] at h2
        rw [HS.out lo,HDN.out,sq_gen h1 h2 (Nat.le_refl _),map_add,List.drop_succ_cons,List.drop_zero,show p+n+1=p+(n+1) by omega,Nat.add_comm 1 n]
       ·have e:((bytes s).drop (p+1)).take (n+1-1)=((bytes s).drop (p+1)).take (n-1)++[(c:Int)]:=by
         rw [show n+1-1=(n-1)+1 by omega,List.take_add,List.drop_drop,show p+1+(n-1)=p+n by omega,HDN.out]
         rfl
        rw [e]
        exact HV.out.append (VerbL.one (by omega) (by have:=HC.out; omega))
     ·have t2:(v==0)=false:=by simpa using hvz
      clear hv0
      by_cases h34:c=34
      ·skip
       subst h34
       have E:=Hq (show ∀ lo,quotedO lo ((bytes s).drop p)=some n by
        intro lo
        rw [HS.out lo,HDN.out]
        show (some (0:Nat)).map (·+n)=some n
        simp)
       go_wp2_with fail
       go_ret
       refine ⟨n+1,rfl,rfl,.inr ⟨n,rfl,E.out,?_⟩⟩
       rw [HD.out]
       exact HV.out
      ·have t3:((c:Int)==34)=false:=by simp; omega
       go_wp2_with fail
       go_ret
       exact ⟨0,rfl,rfl,.inl rfl⟩
    ·have t1:decide ((c:Int)<128)=false:=by simp; omega
     have t3:((c:Int)==34)=false:=by simp; omega
     go_wp2_with fail
     go_ret
     exact ⟨0,rfl,rfl,.inl rfl⟩
   ·have t0:decide (n<s.size-p)=false:=by simp; omega
    go_wp2_with fail
    go_ret
    exact ⟨0,rfl,rfl,.inl rfl⟩
 ·by_cases hlt:p<s.size
  ·have c0:=hB p hlt
   have t3:((s[p].toNat:Int)==34)=false:=by
    simp only [beq_eq_false_iff_ne,ne_eq]
    exact fun h=>hq ⟨hlt,h⟩
   have t0:decide (0<((s.size-p:Nat):Int))=true:=by simp; omega
   have i0:(0:Int)<((s.size-p:Nat):Int):=by omega
   generalize (s[p].toNat:Int)=c at c0 t3
   clear hB hq
   go_enter Tryz.func93,Tryz.ntmps93
   go_wp2_with fail
   go_ret
   exact ⟨0,rfl,rfl,.inl rfl⟩
  ·have e:s.size-p=0:=by omega
   rw [e]
   clear hB hq
   go_enter Tryz.func93,Tryz.ntmps93
   go_wp2_with fail
   go_ret
   exact ⟨0,rfl,rfl,.inl rfl⟩
theorem sq_none_high(lo:Bool):∀ (m:Nat) (xs:List Int),xs.length≤m→(∀ c∈xs,128≤c)→sq lo 0 xs=none
 |m,[],_,_=>rfl
 |0,_::_,hm,_=>by simp at hm
 |m+1,c::t,hm,h=>by
  have hc:=h c (by simp)
  cases hs:stp lo (c::t) with
  |none=>rw [sq_cons (by omega),hs]; rfl
  |some q=>
   have hq:=(stp_loc hs).1
   have hl:=stp_le hs
   rw [sq_gen (by omega) hs hq,sq_none_high lo m _ (by rw [List.length_drop]; simp at hm hl ⊢; omega) (fun d hd=>h d (List.mem_of_mem_drop hd))]
   rfl
theorem sq_none{lo:Bool}{c:Int}{t:List Int}(h34:¬ c=34)(h:stp lo (c::t)=none):sq lo 0 (c::t)=none:=by rw [sq_cons h34,h]; rfl
theorem hex4_cons(a b c d:Int)(t:List Int):hex4 (a::b::c::d::t)=if 0≤hexv a∧0≤hexv b∧0≤hexv c∧0≤hexv d then ((hexv a * 16+hexv b) * 16+hexv c) * 16+hexv d else -1:=rfl
theorem hexO_on(l m c:Int)(t:List Int)(h:l≤hexv c)(h2:hexv c≤m):hexO l m (c::t)=some 1:=by
 unfold hexO
 exact if_neg (show ¬ (hexv c<l∨m<hexv c) by omega)
theorem hexO_off(l m c:Int)(t:List Int)(h:hexv c<l∨m<hexv c):¬ hexO l m (c::t)=some 1:=by
 unfold hexO
 show ¬ (if hexv c<l∨m<hexv c then none else some 1)=some 1
 rw [if_pos h]
 simp
theorem chain4{l1 m1 l2 m2:Int}{a b c d:Int}{t:List Int}:chain [(l1,m1),(l2,m2),(0,15),(0,15)] (a::b::c::d::t)=if (l1≤hexv a∧hexv a≤m1)∧(l2≤hexv b∧hexv b≤m2)∧0≤hexv c∧0≤hexv d then some 4 else none:=by
 have hc:=hexv_lt c
 have hd:=hexv_lt d
 by_cases h1:l1≤hexv a∧hexv a≤m1
 ·rw [chain_yes (hexO_on _ _ _ _ h1.1 h1.2),List.tail_cons]
  by_cases h2:l2≤hexv b∧hexv b≤m2
  ·rw [chain_yes (hexO_on _ _ _ _ h2.1 h2.2),List.tail_cons]
   by_cases h3:0≤hexv c
   ·rw [chain_yes (hexO_on _ _ _ _ h3 hc),List.tail_cons]
    by_cases h4:0≤hexv d
    ·rw [chain_yes (hexO_on _ _ _ _ h4 hd),if_pos ⟨h1,h2,h3,h4⟩]
     rfl
    ·rw [chain_no (hexO_off _ _ _ _ (by omega)),if_neg (fun h=>h4 h.2.2.2)]
     rfl
   ·rw [chain_no (hexO_off _ _ _ _ (by omega)),if_neg (fun h=>h3 h.2.2.1)]
    rfl
  ·rw [chain_no (hexO_off _ _ _ _ (by omega)),if_neg (fun h=>h2 h.2.1)]
   rfl
 ·rw [chain_no (hexO_off _ _ _ _ (by omega)),if_neg (fun h=>h1 h.1)]
theorem stp_u(lo:Bool)(t:List Int):stp lo (92::117::t)=(escO lo (117::t)).map (·+1):=rfl
theorem escO_u(lo:Bool)(t:List Int):escO lo (117::t)=match unitH lo t with
  |none=>none
  |some k=>if halfH lo t then (if needs 92 92 ((117::t).drop (1+k))=some 1∧needs 117 117 ((117::t).drop (2+k))=some 1 then (unitL lo ((117::t).drop (3+k))).map (·+(3+k)) else none) else some (1+k):=by
 unfold escO
 rw [if_neg (show ¬ isSimple ((117::t).headD 0) by unfold isSimple; simp),if_pos (by rfl)]
 rfl
theorem unitH_short{lo:Bool}{t:List Int}(h:t.length<4):unitH lo t=none:=by
 cases e:unitH lo t with
 |none=>rfl
 |some n=>
  obtain ⟨_,a,b,c,d,rest,rfl,_⟩:=unitH_loc e
  simp at h
  omega
theorem stp_u_none{lo:Bool}{t:List Int}(h:unitH lo t=none):stp lo (92::117::t)=none:=by
 rw [stp_u,escO_u,h]
 rfl
theorem list4{t:List Int}(h:4≤t.length):∃ a b c d r,t=a::b::c::d::r:=by
 match t,h with
 |a::b::c::d::r,_=>exact ⟨a,b,c,d,r,rfl⟩
theorem unitH_bad{lo:Bool}{t:List Int}(h4:4≤t.length)(h:hex4 t<0):unitH lo t=none:=by
 obtain ⟨a,b,c,d,r,rfl⟩:=list4 h4
 rw [hex4_cons] at h
 cases e:unitH lo (a::b::c::d::r) with
 |none=>rfl
 |some n=>
  have hn:=(unitH_loc e).1
  subst hn
  have e2:unitH true (a::b::c::d::r)=some 4:=by
   cases lo
   ·exact unitH_loose e
   ·exact e
  unfold unitH at e2
  rw [if_pos rfl] at e2
  have h0:=chain_hex4 e2 r
  rw [hex4_cons] at h0
  omega
theorem unitH_c4{t:List Int}(h:0≤hex4 t):chain c4 t=some 4:=by
 obtain ⟨a,b,c,d,u,rfl,h2⟩:=hex4_ge h
 exact h2 u
theorem stp_u_six{lo:Bool}{t:List Int}(h:0≤hex4 t)(hl:lo=true∨hex4 t<55296∨57343<hex4 t):stp lo (92::117::t)=some 6:=by
 cases lo
 ·obtain ⟨a,b,c,d,u,rfl,_⟩:=hex4_ge h
  have hl:hex4 (a::b::c::d::u)<55296∨57343<hex4 (a::b::c::d::u):=by
   rcases hl with h|h
   ·cases h
   ·exact h
  rw [hex4_cons] at h hl
  have ha:=hexv_lt a
  have hb:=hexv_lt b
  have hc:=hexv_lt c
  have hd:=hexv_lt d
  split at h
  ·rename_i hh
   rw [if_pos hh] at hl
   rw [stp_u,escO_u]
   by_cases h13:hexv a=13
   ·have e:unitH false (a::b::c::d::u)=some 4:=by
     unfold unitH
     rw [if_neg (by simp),if_pos (by exact h13)]
     show chain [(0,15),(0,11),(0,15),(0,15)] _=_
     rw [chain4,if_pos (by omega)]
    have e2:halfH false (a::b::c::d::u)=false:=by
     unfold halfH
     rw [if_neg (by simp),if_pos (by exact h13)]
     show decide (8≤hexv b)=false
     simp
     omega
    rw [e,e2]
    rfl
   ·have e:unitH false (a::b::c::d::u)=some 4:=by
     unfold unitH
     rw [if_neg (by simp),if_neg (by exact h13)]
     show chain [(0,15),(0,15),(0,15),(0,15)] _=_
     rw [chain4,if_pos (by omega)]
    have e2:halfH false (a::b::c::d::u)=false:=by
     unfold halfH
     rw [if_neg (by simp),if_neg (by exact h13)]
    rw [e,e2]
    rfl
  ·omega
 ·exact stp_u_loose (by unfold unitH; rw [if_pos rfl]; exact unitH_c4 h)
theorem stp_u_twelve{t t2:List Int}(h:55296≤hex4 t)(h2:hex4 t<56320)(ht:t.drop 4=92::117::t2)(h3:56320≤hex4 t2)(h4:hex4 t2<57344):stp false (92::117::t)=some 12:=by
 obtain ⟨a,b,c,d,u,rfl,_⟩:=hex4_ge (show 0≤hex4 t by omega)
 obtain rfl:u=92::117::t2:=ht
 obtain ⟨a2,b2,c2,d2,u2,rfl,_⟩:=hex4_ge (show 0≤hex4 t2 by omega)
 rw [hex4_cons] at h h2 h3 h4
 have ha:=hexv_lt a
 have hb:=hexv_lt b
 have hc:=hexv_lt c
 have hd:=hexv_lt d
 have ha2:=hexv_lt a2
 have hb2:=hexv_lt b2
 have hc2:=hexv_lt c2
 have hd2:=hexv_lt d2
 split at h
 ·rename_i hh
  rw [if_pos hh] at h2
  split at h3
  ·rename_i hh2
   rw [if_pos hh2] at h4
   have h13:hexv a=13:=by omega
   rw [stp_u,escO_u]
   have e:unitH false (a::b::c::d::92::117::a2::b2::c2::d2::u2)=some 4:=by
    unfold unitH
    rw [if_neg (by simp),if_pos (by exact h13)]
    show chain [(0,15),(0,11),(0,15),(0,15)] _=_
    rw [chain4,if_pos (by omega)]
   have e2:halfH false (a::b::c::d::92::117::a2::b2::c2::d2::u2)=true:=by
    unfold halfH
    rw [if_neg (by simp),if_pos (by exact h13)]
    show decide (8≤hexv b)=true
    simp
    omega
   have e3:unitL false (a2::b2::c2::d2::u2)=some 4:=by
    unfold unitL
    rw [if_neg (by simp)]
    show chain [(13,13),(12,15),(0,15),(0,15)] _=_
    rw [chain4,if_pos (by omega)]
   rw [e,e2]
   simp only [if_true,List.drop_succ_cons,List.drop_zero]
   rw [if_pos ⟨by simp [needs],by simp [needs]⟩,e3]
   rfl
  ·omega
 ·omega
theorem stp_u_lone{t:List Int}(h:55296≤hex4 t)(h2:hex4 t≤57343)(hn:¬ (hex4 t<56320∧∃ t2,t.drop 4=92::117::t2∧56320≤hex4 t2∧hex4 t2<57344)):stp false (92::117::t)=none:=by
 obtain ⟨a,b,c,d,u,rfl,_⟩:=hex4_ge (show 0≤hex4 t by omega)
 have hn:¬ (hex4 (a::b::c::d::u)<56320∧∃ t2,u=92::117::t2∧56320≤hex4 t2∧hex4 t2<57344):=hn
 rw [hex4_cons] at h h2 hn
 have ha:=hexv_lt a
 have hb:=hexv_lt b
 have hc:=hexv_lt c
 have hd:=hexv_lt d
 split at h
 ·rename_i hh
  rw [if_pos hh] at h2 hn
  have h13:hexv a=13:=by omega
  rw [stp_u,escO_u]
  by_cases h11:hexv b≤11
  ·have e:unitH false (a::b::c::d::u)=some 4:=by
    unfold unitH
    rw [if_neg (by simp),if_pos (by exact h13)]
    show chain [(0,15),(0,11),(0,15),(0,15)] _=_
    rw [chain4,if_pos (by omega)]
   have e2:halfH false (a::b::c::d::u)=true:=by
    unfold halfH
    rw [if_neg (by simp),if_pos (by exact h13)]
    show decide (8≤hexv b)=true
    simp
    omega
   rw [e,e2]
   simp only [if_true,List.drop_succ_cons,List.drop_zero]
   by_cases hnn:needs 92 92 u=some 1∧needs 117 117 (u.drop 1)=some 1
   ·obtain ⟨n1,n2⟩:=hnn
    obtain ⟨x1,t1,rfl,_⟩:=needs_loc n1
    rw [List.drop_succ_cons,List.drop_zero] at n2
    obtain ⟨x2,t2,rfl,_⟩:=needs_loc n2
    obtain rfl:92=x1:=by
     rw [needs_cons] at n1
     split at n1
     ·omega
     ·cases n1
    obtain rfl:117=x2:=by
     rw [needs_cons] at n2
     split at n2
     ·omega
     ·cases n2
    rw [if_pos ⟨n1,n2⟩]
    have hno:¬ (56320≤hex4 t2∧hex4 t2<57344):=fun hx=>hn ⟨by omega,t2,rfl,hx.1,hx.2⟩
    simp only [List.drop_succ_cons,List.drop_zero]
    cases eL:unitL false t2 with
    |none=>rfl
    |some n=>
     exfalso
     obtain ⟨rfl,_⟩:=unitL_loc eL
     have e4:=unitL_loose eL
     unfold unitH at e4
     rw [if_pos rfl] at e4
     have hl4:4≤t2.length:=chain_le (by decide) e4
     obtain ⟨a2,b2,c2,d2,u2,rfl⟩:=list4 hl4
     unfold unitL at eL
     rw [if_neg (by simp)] at eL
     have eL:chain [(13,13),(12,15),(0,15),(0,15)] (a2::b2::c2::d2::u2)=some 4:=eL
     rw [chain4] at eL
     split at eL
     ·rename_i hh2
      have ha2:=hexv_lt a2
      have hb2:=hexv_lt b2
      have hc2:=hexv_lt c2
      have hd2:=hexv_lt d2
      refine hno ?_
      rw [hex4_cons,if_pos (by omega)]
      omega
     ·cases eL
   ·rw [if_neg hnn]
    rfl
  ·have e:unitH false (a::b::c::d::u)=none:=by
    unfold unitH
    rw [if_neg (by simp),if_pos (by exact h13)]
    show chain [(0,15),(0,11),(0,15),(0,15)] _=_
    rw [chain4,if_neg (by omega)]
   rw [e]
   rfl
 ·omega
end Go.Proofs.YtknaalohaagcdaaGreatDoor.Own
