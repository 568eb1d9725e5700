import Derived.Test.YtknaalohaagcdaaGreatDoorG01
import Derived.Test.YtknaalohaagcdaaGreatDoorG14
import Derived.Test.YtknaalohaagcdaaGreatDoorG16
import Derived.Deep.CutBlock
set_option maxHeartbeats 400000000
set_option maxRecDepth 100000
namespace Go.Proofs.YtknaalohaagcdaaGreatDoor.Own
open Go.RowKit JG
structure DC(ds:Array Value)(B cap:Nat)(s:ByteArray)(vals last:Int):Prop where
 sz:ds.size=24
 last:ds[1]? = some (.int .u64 last)
 buf:ds[7]? = some (.slice (some ⟨B,0,none⟩) s.size cap)
 base:ds[10]? = some (.int .i64 0)
 rd:ds[11]? = some .nilIface
 vals:ds[14]? = some (.int .u64 vals)
 pres:∃ x,ds[13]? = some (.int .u64 x)
theorem DC.set4{ds:Array Value}{B cap:Nat}{s:ByteArray}{vals last:Int}(h:DC ds B cap s vals last)(v:Value):DC (ds.setIfInBounds 4 v) B cap s vals last:=
 ⟨by simp [h.sz],by rw [Array.getElem?_setIfInBounds_ne (by omega)]; exact h.last,by rw [Array.getElem?_setIfInBounds_ne (by omega)]; exact h.buf,by rw [Array.getElem?_setIfInBounds_ne (by omega)]; exact h.base,by rw [Array.getElem?_setIfInBounds_ne (by omega)]; exact h.rd,by rw [Array.getElem?_setIfInBounds_ne (by omega)]; exact h.vals,by obtain ⟨x,hx⟩:=h.pres; exact ⟨x,by rw [Array.getElem?_setIfInBounds_ne (by omega)]; exact hx⟩⟩
structure DB(w:World)(d:Nat)(ds:Array Value)(B cap:Nat)(s:ByteArray)(vals last:Int):Prop where
 blk:w.heap[d]? = some (.cells ds 109 (0,0))
 dc:DC ds B cap s vals last
theorem DB.lt{w:World}{d:Nat}{ds:Array Value}{B cap:Nat}{s:ByteArray}{vals last:Int}(h:DB w d ds B cap s vals last):d<w.heap.size:=(Array.getElem?_eq_some_iff.1 h.blk).1
theorem DB.block{w w':World}{d:Nat}{ds:Array Value}{B cap:Nat}{s:ByteArray}{vals last:Int}(h:DB w d ds B cap s vals last)(e:w'.heap[d]? = w.heap[d]?):DB w' d ds B cap s vals last:=⟨e.trans h.blk,h.dc⟩
theorem DB.facts{w:World}{d:Nat}{ds:Array Value}{B cap:Nat}{s:ByteArray}{vals last:Int}(h:DB w d ds B cap s vals last):
  w.cell? ⟨d,1,none⟩=some (.int .u64 last)∧w.cell? ⟨d,7,none⟩=some (.slice (some ⟨B,0,none⟩) s.size cap)∧w.cell? ⟨d,10,none⟩=some (.int .i64 0)∧w.cell? ⟨d,11,none⟩=some .nilIface∧w.cell? ⟨d,14,none⟩=some (.int .u64 vals):=by
 refine ⟨?_,?_,?_,?_,?_⟩<;>rw [cell_of_row _ _ _ _ _ (0,0) h.blk]
 ·exact h.dc.last
 ·exact h.dc.buf
 ·exact h.dc.base
 ·exact h.dc.rd
 ·exact h.dc.vals
theorem fetch122(d:Nat)(ds:Array Value)(B cap:Nat)(s:ByteArray)(vals last:Int)(eU:Value)(w:World)(h:DB w d ds B cap s vals last)(ce:w.cell? ⟨1,0,none⟩=some eU):
  Calls Tryz.prog 122 #[.pointer (some ⟨d,0,none⟩)] w fun e w'=>e=.returned eU∧w=w':=by
 obtain ⟨_,_,_,c11,_⟩:=h.facts
 clear h
 go_enter Tryz.func122,Tryz.ntmps122
 go_wp2_with fail
 go_ret
 exact ⟨rfl,rfl⟩
theorem more62(d:Nat)(ds:Array Value)(B cap q:Nat)(s:ByteArray)(vals last:Int)(w:World)(h:DB w d ds B cap s vals last)(b:Bool)(hb:decide (q=s.size)=b):
  Calls Tryz.prog 62 #[.pointer (some ⟨d,5,none⟩),.int .i64 q] w fun e w'=>e=.returned (.bool b)∧w=w':=by
 obtain ⟨_,c7,_,_,_⟩:=h.facts
 have E:=Hq (show ((q:Int)==(s.size:Int))=b by rw [← hb,Bool.eq_iff_iff]; simp; omega)
 clear h hb
 go_enter Tryz.func62,Tryz.ntmps62
 go_wp2_with fail
 go_ret
 exact ⟨by rw [E.out]; rfl,rfl⟩
def rest(B cap q n:Nat):Value:=sliced (some ⟨B,0,none⟩) q n cap 1
theorem rest_run{W:World}{B cap q n:Nat}(hq:q≤n)(_hn:n≤cap):(Instr.slice 47 (.slice (some ⟨B,0,none⟩) n cap) (some (.int .i64 (q:Int))) none none).run Tryz.prog W=.ok (rest B cap q n) W:=by
 rw [run_slice_l (P:=Tryz.prog) W 47 _ n cap (by kernel_rfl) .i64 (q:Int) (by omega) (by omega)]
 have e:(sizeOf (Tryz.prog.elem 47)).run Tryz.prog W=.ok 1 W:=by kernel_rfl
 rw [e]
 simp only [Result.andThen_ok,Int.toNat_natCast]
 rfl
theorem rest_form{B cap q n:Nat}(hq:q<n)(hn:n≤cap):rest B cap q n=.slice (some ⟨B,q,none⟩) (n-q) (cap-q):=by
 unfold rest sliced
 rw [if_neg (by omega)]
 simp [Addr.add]
 exact fun h=>h.symm
theorem rest_end{B cap n:Nat}:∃ ao c,rest B cap n n=.slice ao 0 c:=by
 unfold rest sliced
 rw [Nat.sub_self]
 exact ⟨_,_,rfl⟩
theorem wsC(B q cap:Nat)(s:ByteArray)(w:World)(hs:s.size≤4294967296)(hq:q≤s.size)(hcap:s.size≤cap)(hB:Bf w B s):
  Calls Tryz.prog 61 #[rest B cap q s.size] w fun e w'=>e=.returned (.int .i64 (ws ((bytes s).drop q):Nat))∧w=w':=by
 by_cases h:q<s.size
 ·rw [rest_form h hcap]
  exact (ws61 B q (cap-q) s w hs hq hB).mono fun _ _ ⟨h1,h2⟩=>⟨h1,h2.symm⟩
 ·obtain rfl:q=s.size:=by omega
  obtain ⟨ao,c,e⟩:=rest_end (B:=B) (cap:=cap) (n:=s.size)
  rw [e,bytes_end (Nat.le_refl _)]
  exact (ws61_nil ao c w).mono fun _ _ ⟨h1,h2⟩=>⟨h1,h2.symm⟩
theorem wsEnd63(d:Nat)(ds:Array Value)(B cap:Nat)(s:ByteArray)(vals last:Int)(eU:Value)(w:World)(hs:s.size≤4294967296)(hcap:s.size≤cap)(h:DB w d ds B cap s vals last)(hB:Bf w B s)(ce:w.cell? ⟨1,0,none⟩=some eU)(aU:Addr)(hU:eU=.iface 260 (.pointer (some aU))):
  Calls Tryz.prog 63 #[.pointer (some ⟨d,0,none⟩),.int .i64 s.size] w fun e w'=>e=.returned (.tuple #[.int .i64 s.size,eU])∧w=w':=by
 subst hU
 obtain ⟨_,c7,c10,_,_⟩:=h.facts
 have W1:=Hq (wsC B s.size cap s w hs (Nat.le_refl _) hcap hB)
 have M1:=Hq (more62 d ds B cap s.size s vals last w h true (by simp))
 have F1:=Hq (fetch122 d ds B cap s vals last _ w h ce)
 have hr:=rest_run (W:=w) (B:=B) (cap:=cap) (Nat.le_refl s.size) hcap
 have z:ws ((bytes s).drop s.size)=0:=by rw [bytes_end (Nat.le_refl _)]; rfl
 rw [z] at W1
 generalize rest B cap s.size s.size=u at hr W1
 clear h hB z
 go_enter Tryz.func63,Tryz.ntmps63
 go_wp2_with fail
 refine wp_loop_rounds 1 ?_
 rw [rounds_succ]
 go_wp2_with fail
 refine W1.out.mono ?_
 rintro e w' ⟨rfl,rfl⟩
 go_wp2_with fail
 refine M1.out.mono ?_
 rintro e w' ⟨rfl,rfl⟩
 go_wp2_with fail
 refine F1.out.mono ?_
 rintro e w' ⟨rfl,rfl⟩
 go_wp2_with fail
 go_ret2
 exact ⟨rfl,rfl⟩
def NumP(xs:List Int)(eU:Value)(w:World)(e:Ending)(w':World):Prop:=
 (∃ (m st:Nat),num xs=some m∧e=.returned (.tuple #[.int .i64 m,.int .u64 st,.nilIface])∧w.grownBy w' none)∨
 (num xs=none∧∃ (n st:Nat) (v:Value),e=.returned (.tuple #[.int .i64 n,.int .u64 st,v])∧n≤xs.length∧(v=eU∨∃ b,v=.iface 175 (.pointer (some ⟨b,0,none⟩)))∧w.grownBy w' none)
def NumR(f:List Int→Option Nat)(X:List Int)(L:Nat)(v2 v6:Value):Prop:=∃ q st:Nat,v6=.int .i64 q∧v2=.int .u64 st∧q≤L∧num X=(f (X.drop q)).map (·+q)
theorem num_plain{c:Int}{t:List Int}(h:¬ c=45):num (c::t)=whole (c::t):=if_neg h
theorem whole_zero{t:List Int}:whole (48::t)=(frac t).map (·+1):=rfl
theorem whole_digs{c:Int}{t:List Int}(h:¬ c=48):whole (c::t)=(digsO (c::t)).bind fun k=>(frac ((c::t).drop k)).map (·+k):=if_neg h
theorem digs_c{c:Int}{t:List Int}:digs (c::t)=if isDig c then digs t+1 else 0:=rfl
theorem isDig_yes{c:Int}(h1:48≤c)(h2:c≤57):isDig c=true:=by unfold isDig; simp; omega
theorem isDig_no{c:Int}(h:c<48∨57<c):isDig c=false:=by unfold isDig; simp; omega
theorem digsO_none{c:Int}{t:List Int}(h:isDig c=false):digsO (c::t)=none:=by unfold digsO; rw [digs_c,h]; rfl
theorem digsO_some{c:Int}{t:List Int}(h:isDig c=true):digsO (c::t)=some (digs t+1):=by
 unfold digsO
 rw [digs_c,h,if_pos rfl,if_neg (by omega)]
theorem frac_dot{t:List Int}:frac (46::t)=(digsO t).bind fun k=>(expo (t.drop k)).map (·+(1+k)):=rfl
theorem frac_no{c:Int}{t:List Int}(h:¬ c=46):frac (c::t)=expo (c::t):=if_neg h
theorem expo_yes{c:Int}{t:List Int}(h:c=101∨c=69):expo (c::t)=(digsO (t.drop (sgn t))).map (·+(1+sgn t)):=if_pos h
theorem expo_no{c:Int}{t:List Int}(h:¬ (c=101∨c=69)):expo (c::t)=some 0:=if_neg h
theorem num_whole{X:List Int}{p0:Nat}{c:Int}{t:List Int}(h:num X=(whole (X.drop p0)).map (·+p0))(hX:X.drop p0=c::t)(hc:isDig c=true)(h48:¬ c=48):num X=(frac (X.drop (p0+digs (X.drop p0)))).map (·+(p0+digs (X.drop p0))):=by
 rw [h,hX,whole_digs h48,digsO_some hc]
 show (((frac ((c::t).drop (digs t+1))).map (·+(digs t+1))).map (·+p0))=_
 have e:digs (c::t)=digs t+1:=by rw [digs_c,hc]; rfl
 rw [e,map_add,← hX,List.drop_drop,Nat.add_comm (digs t+1) p0]
theorem num_frac{X:List Int}{q:Nat}{c:Int}{t:List Int}(h:num X=(frac (X.drop q)).map (·+q))(hX:X.drop q=46::c::t)(hc:isDig c=true):num X=(expo (X.drop (q+1+digs (X.drop (q+1))))).map (·+(q+1+digs (X.drop (q+1)))):=by
 have h1:X.drop (q+1)=c::t:=by rw [← List.drop_drop,hX]; rfl
 rw [h,hX,frac_dot,digsO_some hc]
 show (((expo ((c::t).drop (digs t+1))).map (·+(1+(digs t+1)))).map (·+q))=_
 have e:digs (c::t)=digs t+1:=by rw [digs_c,hc]; rfl
 rw [h1,e,map_add,← h1,List.drop_drop,show 1+(digs t+1)+q=q+1+(digs t+1) by omega]
theorem num_expo{X:List Int}{q:Nat}{c e:Int}{t u:List Int}(h:num X=(expo (X.drop q)).map (·+q))(hX:X.drop q=e::t)(he:e=101∨e=69)(hu:t.drop (sgn t)=c::u)(hc:isDig c=true):num X=some (q+1+sgn t+digs (c::u)):=by
 rw [h,hX,expo_yes he,hu,digsO_some hc]
 have e:digs (c::u)=digs u+1:=by rw [digs_c,hc]; rfl
 rw [e]
 simp
 omega
theorem digs_lb(X:List Int)(q:Nat):digs (X.drop q)≤(X.drop q).length:=digs_le _
theorem num140(B p cap L:Nat)(s:ByteArray)(eU eI:Value)(w:World)(hs:s.size≤4294967296)(hL:p+L=s.size)(hL0:0<L)(hcap:L≤cap)(hB:Bf w B s)(hG:Gl eU eI w):
  Calls Tryz.prog 140 #[.slice (some ⟨B,p,none⟩) L cap,.int .i64 0,.int .u64 0] w (NumP ((bytes s).drop p) eU w):=by
 obtain ⟨X,hX⟩:∃ X,X=(bytes s).drop p:=⟨_,rfl⟩
 have hlen:X.length=L:=by rw [hX,List.length_drop,bytes_len]; omega
 have HXD:=Hq (show ∀ k (h:p+k<s.size),X.drop k=(s[p+k].toNat:Int)::X.drop (k+1) from fun k h=>by
  rw [hX,List.drop_drop,bytes_drop h,List.drop_drop,show p+k+1=p+(k+1) by omega])
 have HXN:=Hq (show ∀ k,L≤k→X.drop k=[] from fun k h=>List.drop_eq_nil_of_le (by omega))
 rw [← hX]
 have HB:=Hq hB
 have HG:=Hq hG
 have hL4:L≤4294967296:=by omega
 have HLQ:=Hq hL
 have HLEN:=Hq hlen
 have ce:=hG.eof
 have h0s:p<s.size:=by omega
 have cc0:=hB p h0s
 have hd0:=HXD.out 0 (by omega)
 simp only [List.drop_zero,Nat.add_zero] at hd0
 obtain ⟨c0,hc0⟩:∃ c0:Int,(s[p].toNat:Int)=c0:=⟨_,rfl⟩
 rw [hc0] at cc0 hd0
 obtain ⟨p0,hp1,hsg,hn⟩:∃ p0:Nat,p0≤1∧((c0=45∧p0=1)∨(¬ c0=45∧p0=0))∧num X=(whole (X.drop p0)).map (·+p0):=by
  by_cases h:c0=45
  ·exact ⟨1,by omega,.inl ⟨h,rfl⟩,by rw [hd0,h]; rfl⟩
  ·exact ⟨0,by omega,.inr ⟨h,rfl⟩,by rw [hd0,num_plain h]; simp⟩
 have HSG:=Hq hsg
 have HN:=Hq hn
 have CE:=Hq (show ∀ (q:Nat) (wh:ByteArray) (W:World),q<L→Bf W B s→Gl eU eI W→Calls Tryz.prog 107 #[.slice (some ⟨B,p+q,none⟩) (L-q) (cap-q),.string wh] W (TextErr W) from fun q wh W hq hb hg=>by
  have h:=charErr107 B (p+q) (cap-q) s wh W hg.tabs (by omega) (by omega) hb
  rwa [show s.size-(p+q)=L-q by omega] at h)
 clear hX hlen hB hG hL hs hd0 hc0 hsg hn
 go_enter Tryz.func140,Tryz.ntmps140
 go_wp2_with fail
 go_step3
 go_wp2_with fail
 go_step3
 go_upto_if 68 with (fail)
 go_cut [6] from 58 to 71 (fun v6 wc=>v6=.int .i64 p0∧w=wc)
 case first=>as_aux_lemma=>
  rcases HSG.out with ⟨h,rfl⟩|⟨h,rfl⟩
  ·have t:(c0==45)=true:=by simpa using h
   clear h
   go_wp2_with fail
   go_meet
   case rel=>exact ⟨rfl,rfl⟩
  ·have t:(c0==45)=false:=by simpa using h
   clear h
   go_wp2_with fail
   go_meet
   case rel=>exact ⟨rfl,rfl⟩
 case rest=>
  obtain ⟨rfl,rfl⟩:=hcut
  clear cc0
  by_cases hp0:p0<L
  ·have t1:decide (L≤p0)=false:=by simp; omega
   have hq:p+p0<s.size:=by have:=HLQ.out; omega
   have cp:=HB.out (p+p0) hq
   have hdp:=HXD.out p0 hq
   have i1:(p0:Int)<(L:Int):=by omega
   obtain ⟨c,hcc⟩:∃ c:Int,(s[p+p0].toNat:Int)=c:=⟨_,rfl⟩
   rw [hcc] at cp hdp
   have HDP:=Hq hdp
   clear hcc hdp
   go_upto_block 4 with (fail)
   go_cut [2,6] from 71 to 131 (fun v2 v6 wc=>NumR frac X L v2 v6∧w=wc)
   case first=>as_aux_lemma=>
    by_cases h48:c=48
    ·have t:(c==48)=true:=by simpa using h48
     have R:=Hq (show num X=(frac (X.drop (p0+1))).map (·+(p0+1)) by
      rw [HN.out,HDP.out,h48,whole_zero,map_add,Nat.add_comm 1 p0])
     clear h48
     go_wp2_with fail
     go_meet
     case rel=>exact ⟨⟨p0+1,3,by go_num,rfl,by omega,R.out⟩,rfl⟩
    ·have t:(c==48)=false:=by simpa using h48
     by_cases hdg:49≤c∧c≤57
     ·have t2:decide (49≤c)=true:=by simp; omega
      have t3:decide (c≤57)=true:=by simp; omega
      have hdc:isDig c=true:=isDig_yes (by omega) (by omega)
      have R:=Hq (num_whole HN.out HDP.out hdc h48)
      have HK0:=Hq (show digs (X.drop p0)=digs (X.drop (p0+1))+1 by rw [HDP.out,digs_c,hdc]; rfl)
      have HLE:=Hq (digs_lb X p0)
      clear h48 hdg hdc
      go_wp2_with fail
      go_loop [6] (fun v=>∃ k:Nat,v=.int .i64 k∧k≤L∧Hid (k+digs (X.drop k)=p0+digs (X.drop p0))) (fun v=>L-(intOf v).toNat)
      case atStart=>exact ⟨p0+1,by go_num,by omega,Hq (by rw [HK0.out]; omega)⟩
      case round=>
       obtain ⟨k,rfl,hk,HK⟩:=hrel
       have fin:digs (X.drop k)=0→NumR frac X L (.int .u64 2) (.int .i64 k):=fun hz=>⟨k,2,rfl,rfl,hk,by have e:=HK.out; rw [hz] at e; rw [R.out,← e]; rfl⟩
       have FIN:=Hq fin
       clear fin
       by_cases hkL:k<L
       ·have t4:decide (k<L)=true:=by simpa using hkL
        have hqk:p+k<s.size:=by have:=HLQ.out; omega
        have ck:=HB.out (p+k) hqk
        have hdk:=HXD.out k hqk
        have i2:(k:Int)<(L:Int):=by omega
        obtain ⟨d,hdd⟩:∃ d:Int,(s[p+k].toNat:Int)=d:=⟨_,rfl⟩
        rw [hdd] at ck hdk
        have HDK:=Hq hdk
        clear hdk hdd
        by_cases h1:48≤d
        ·have u1:decide (48≤d)=true:=by simpa using h1
         by_cases h2:d≤57
         ·have u2:decide (d≤57)=true:=by simpa using h2
          have Z:=Hq (show k+1+digs (X.drop (k+1))=p0+digs (X.drop p0) by rw [← HK.out,HDK.out,digs_c,isDig_yes h1 h2,if_pos rfl]; omega)
          go_wp2_with fail
          go_round
          case rel=>exact ⟨k+1,by go_num,by omega,Z⟩
          case measure=>simp [intOf]; omega
         ·have u2:decide (d≤57)=false:=by simpa using h2
          have Z:=Hq (FIN.out (by rw [HDK.out,digs_c,isDig_no (by omega)]; rfl))
          go_wp2_with fail
          go_meet
          case rel=>exact ⟨Z.out,rfl⟩
        ·have u1:decide (48≤d)=false:=by simpa using h1
         have Z:=Hq (FIN.out (by rw [HDK.out,digs_c,isDig_no (by omega)]; rfl))
         go_wp2_with fail
         go_meet
         case rel=>exact ⟨Z.out,rfl⟩
       ·have t4:decide (k<L)=false:=by simpa using hkL
        have Z:=Hq (FIN.out (by rw [HXN.out k (by omega)]; rfl))
        go_wp2_with fail
        go_meet
        case rel=>exact ⟨Z.out,rfl⟩
     ·have E:=Hq (show num X=none by rw [HN.out,HDP.out,whole_digs h48,digsO_none (isDig_no (by omega))]; rfl)
      have CX:=Hq (fun wh=>CE.out p0 wh w hp0 HB.out HG.out)
      by_cases h49:49≤c
      ·have t2:decide (49≤c)=true:=by simpa using h49
       have t3:decide (c≤57)=false:=by simp; omega
       clear h48 hdg
       go_wp2_with fail
       refine (CX.out _).mono ?_
       rintro e w1 ⟨b,rfl,hb⟩
       have HB1:=Hq hb
       clear hb
       go_wp2_with fail
       rw [Exit.noGoto_ret]
       go_ret3
       exact .inr ⟨E.out,p0,0,_,rfl,by rw [HLEN.out]; omega,.inr ⟨_,rfl⟩,HB1.out⟩
      ·have t2:decide (49≤c)=false:=by simpa using h49
       clear h48 hdg
       go_wp2_with fail
       refine (CX.out _).mono ?_
       rintro e w1 ⟨b,rfl,hb⟩
       have HB1:=Hq hb
       clear hb
       go_wp2_with fail
       rw [Exit.noGoto_ret]
       go_ret3
       exact .inr ⟨E.out,p0,0,_,rfl,by rw [HLEN.out]; omega,.inr ⟨_,rfl⟩,HB1.out⟩
   case rest=>
    obtain ⟨⟨q,st,rfl,rfl,hq1,hnq⟩,rfl⟩:=hcut
    have HN2:=Hq hnq
    clear cp HDP HSG HN hnq hq i1 t1 hp0
    go_wp2_with fail
    go_step3
    go_step
    go_step
    go_step
    go_cut [2,6] from 131 to 199 (fun v2 v6 wc=>NumR expo X L v2 v6∧w=wc)
    case first=>as_aux_lemma=>
     by_cases hqL:q<L
     ·have t4:decide (q<L)=true:=by simpa using hqL
      have hqs:p+q<s.size:=by have:=HLQ.out; omega
      have cq:=HB.out (p+q) hqs
      have hdq:=HXD.out q hqs
      have i2:(q:Int)<(L:Int):=by omega
      have i0:(0:Int)≤(q:Int):=Int.natCast_nonneg _
      obtain ⟨d,hdd⟩:∃ d:Int,(s[p+q].toNat:Int)=d:=⟨_,rfl⟩
      rw [hdd] at cq hdq
      have HDQ:=Hq hdq
      clear hdq hdd
      by_cases h46:d=46
      ·have t5:(d==46)=true:=by simpa using h46
       by_cases hq2:q+1<L
       ·have t6:decide (L≤q+1)=false:=by simp; omega
        have t6':decide ((L:Int)≤(q:Int)+1)=false:=by simp; omega
        have hqs2:p+(q+1)<s.size:=by have:=HLQ.out; omega
        have cq2:=HB.out (p+(q+1)) hqs2
        have hdq2:=HXD.out (q+1) hqs2
        have i3:(q:Int)+1<(L:Int):=by omega
        obtain ⟨f,hff⟩:∃ f:Int,(s[p+(q+1)].toNat:Int)=f:=⟨_,rfl⟩
        rw [hff] at cq2 hdq2
        have HDQ2:=Hq hdq2
        have HDX:=Hq (show X.drop q=46::f::X.drop (q+1+1) by rw [HDQ.out,h46,hdq2])
        clear hdq2 hff h46
        by_cases hfd:48≤f∧f≤57
        ·have u1:decide (48≤f)=true:=by simp; omega
         have u2:decide (f≤57)=true:=by simp; omega
         have hdc:isDig f=true:=isDig_yes (by omega) (by omega)
         have R:=Hq (num_frac HN2.out HDX.out hdc)
         have HK0:=Hq (show digs (X.drop (q+1))=digs (X.drop (q+1+1))+1 by rw [HDQ2.out,digs_c,hdc]; rfl)
         clear hfd hdc
         go_wp2_with fail
         go_loop [6] (fun v=>∃ k:Nat,v=.int .i64 k∧k≤L∧Hid (k+digs (X.drop k)=q+1+digs (X.drop (q+1)))) (fun v=>L-(intOf v).toNat)
         case atStart=>exact ⟨q+1+1,by go_num,by omega,Hq (by rw [HK0.out]; omega)⟩
         case round=>
          obtain ⟨k,rfl,hk,HK⟩:=hrel
          have fin:digs (X.drop k)=0→NumR expo X L (.int .u64 4) (.int .i64 k):=fun hz=>⟨k,4,rfl,rfl,hk,by have e:=HK.out; rw [hz] at e; rw [R.out,← e]; rfl⟩
          have FIN:=Hq fin
          clear fin
          by_cases hkL:k<L
          ·have t4:decide (k<L)=true:=by simpa using hkL
           have hqk:p+k<s.size:=by have:=HLQ.out; omega
           have ck:=HB.out (p+k) hqk
           have hdk:=HXD.out k hqk
           have i2:(k:Int)<(L:Int):=by omega
           obtain ⟨d,hdd⟩:∃ d:Int,(s[p+k].toNat:Int)=d:=⟨_,rfl⟩
           rw [hdd] at ck hdk
           have HDK:=Hq hdk
           clear hdk hdd
           by_cases h1:48≤d
           ·have u1:decide (48≤d)=true:=by simpa using h1
            by_cases h2:d≤57
            ·have u2:decide (d≤57)=true:=by simpa using h2
             have Z:=Hq (show k+1+digs (X.drop (k+1))=q+1+digs (X.drop (q+1)) by rw [← HK.out,HDK.out,digs_c,isDig_yes h1 h2,if_pos rfl]; omega)
             go_wp2_with fail
             go_round
             case rel=>exact ⟨k+1,by go_num,by omega,Z⟩
             case measure=>simp [intOf]; omega
            ·have u2:decide (d≤57)=false:=by simpa using h2
             have Z:=Hq (FIN.out (by rw [HDK.out,digs_c,isDig_no (by omega)]; rfl))
             go_wp2_with fail
             go_meet
             case rel=>exact ⟨Z.out,rfl⟩
           ·have u1:decide (48≤d)=false:=by simpa using h1
            have Z:=Hq (FIN.out (by rw [HDK.out,digs_c,isDig_no (by omega)]; rfl))
            go_wp2_with fail
            go_meet
            case rel=>exact ⟨Z.out,rfl⟩
          ·have t4:decide (k<L)=false:=by simpa using hkL
           have Z:=Hq (FIN.out (by rw [HXN.out k (by omega)]; rfl))
           go_wp2_with fail
           go_meet
           case rel=>exact ⟨Z.out,rfl⟩
        ·have E:=Hq (show num X=none by rw [HN2.out,HDX.out,frac_dot,digsO_none (isDig_no (by omega))]; rfl)
         have CX:=Hq (fun wh=>CE.out (q+1) wh w hq2 HB.out HG.out)
         by_cases h49:48≤f
         ·have u1:decide (48≤f)=true:=by simpa using h49
          have u2:decide (f≤57)=false:=by simp; omega
          clear hfd
          go_wp2_with fail
          refine (CX.out _).mono ?_
          rintro e w1 ⟨b,rfl,hb⟩
          have HB1:=Hq hb
          clear hb
          go_wp2_with fail
          rw [Exit.noGoto_ret]
          go_ret3
          exact .inr ⟨E.out,q+1,st,_,rfl,by rw [HLEN.out]; omega,.inr ⟨_,rfl⟩,HB1.out⟩
         ·have u1:decide (48≤f)=false:=by simpa using h49
          clear hfd
          go_wp2_with fail
          refine (CX.out _).mono ?_
          rintro e w1 ⟨b,rfl,hb⟩
          have HB1:=Hq hb
          clear hb
          go_wp2_with fail
          rw [Exit.noGoto_ret]
          go_ret3
          exact .inr ⟨E.out,q+1,st,_,rfl,by rw [HLEN.out]; omega,.inr ⟨_,rfl⟩,HB1.out⟩
       ·have t6:decide (L≤q+1)=true:=by simp; omega
        have t6':decide ((L:Int)≤(q:Int)+1)=true:=by simp; omega
        have E:=Hq (show num X=none by rw [HN2.out,HDQ.out,h46,HXN.out (q+1) (by omega)]; rfl)
        clear h46
        go_wp2_with fail
        go_quiet (fail)
        go_wp2_with fail
        rw [Exit.noGoto_ret]
        go_ret3
        exact .inr ⟨E.out,q,3,eU,rfl,by rw [HLEN.out]; omega,.inl rfl,gb_drewN (World.grownBy.refl _ _) _⟩
      ·have t5:(d==46)=false:=by simpa using h46
       have R:=Hq (show num X=(expo (X.drop q)).map (·+q) by rw [HN2.out,HDQ.out,frac_no h46])
       clear h46
       go_wp2_with fail
       go_meet
       case rel=>exact ⟨⟨q,st,rfl,rfl,by omega,R.out⟩,rfl⟩
     ·have t4:decide (q<L)=false:=by simpa using hqL
      have R:=Hq (show num X=(expo (X.drop q)).map (·+q) by rw [HN2.out,HXN.out q (by omega)]; rfl)
      go_wp2_with fail
      go_meet
      case rel=>exact ⟨⟨q,st,rfl,rfl,by omega,R.out⟩,rfl⟩
    case rest=>
     obtain ⟨⟨q,st,rfl,rfl,hq1,hnq⟩,rfl⟩:=hcut
     have HN3:=Hq hnq
     clear HN2 hnq
     go_wp2_with fail
     go_step3
     go_step
     go_step
     go_step
     go_cut [2,6] from 199 to 298 (fun v2 v6 wc=>(∃ st:Nat,v2=.int .u64 st)∧(∃ m:Nat,v6=.int .i64 m∧Hid (num X=some m))∧w=wc)
     case first=>as_aux_lemma=>
      by_cases hqL:q<L
      ·have t4:decide (q<L)=true:=by simpa using hqL
       have hqs:p+q<s.size:=by have:=HLQ.out; omega
       have cq:=HB.out (p+q) hqs
       have hdq:=HXD.out q hqs
       have i2:(q:Int)<(L:Int):=by omega
       have i0:(0:Int)≤(q:Int):=Int.natCast_nonneg _
       obtain ⟨d,hdd⟩:∃ d:Int,(s[p+q].toNat:Int)=d:=⟨_,rfl⟩
       rw [hdd] at cq hdq
       have HDQ:=Hq hdq
       clear hdq hdd
       by_cases he:d=101∨d=69
       ·have HE:=Hq he
        clear he
        go_upto_region 42 with (fail)
        go_cut [218] from 199 to 219 (fun v wc=>v=.bool true∧w=wc)
        case first=>
         rcases HE.out with rfl|rfl
         ·go_wp2_with fail
          go_meet
          case rel=>exact ⟨rfl,rfl⟩
         ·go_wp2_with fail
          go_meet
          case rel=>exact ⟨rfl,rfl⟩
        case rest=>
         obtain ⟨rfl,rfl⟩:=hcut
         obtain ⟨sg,hsg1,hsg⟩:∃ sg:Nat,sg=sgn (X.drop (q+1))∧sg≤1:=⟨_,rfl,by unfold sgn; split<;>(try split)<;>omega⟩
         have HSG:=Hq hsg1
         obtain ⟨sb,hsb⟩:∃ sb:Bool,sb=decide (sg=1):=⟨_,rfl⟩
         have HSB:=Hq hsb
         clear hsg1 cq hsb
         go_upto_region 45 with (fail)
         go_cut [241] from 219 to 242 (fun v wc=>v=.bool sb∧w=wc)
         case first=>
          by_cases hq2:q+1<L
          ·have t6:decide (q+1<L)=true:=by simpa using hq2
           have t6':decide ((q:Int)+1<(L:Int))=true:=by simp; omega
           have hqs2:p+(q+1)<s.size:=by have:=HLQ.out; omega
           have cq2:=HB.out (p+(q+1)) hqs2
           have hdq2:=HXD.out (q+1) hqs2
           have i3:(q:Int)+1<(L:Int):=by omega
           generalize (s[p+(q+1)].toNat:Int)=f at cq2 hdq2
           have hs2:=HSG.out
           rw [hdq2] at hs2
           have hs2:sg=if f=45∨f=43 then 1 else 0:=hs2
           clear hdq2
           by_cases h45:f=45
           ·rw [if_pos (.inl h45)] at hs2
            have HS2:=Hq hs2
            clear hs2
            subst h45
            go_wp2_with fail
            go_meet
            case rel=>exact ⟨by rw [HSB.out,HS2.out]; rfl,rfl⟩
           ·have u1:(f==45)=false:=by simpa using h45
            by_cases h43:f=43
            ·rw [if_pos (.inr h43)] at hs2
             have HS2:=Hq hs2
             clear hs2
             subst h43
             clear h45
             go_wp2_with fail
             go_meet
             case rel=>exact ⟨by rw [HSB.out,HS2.out]; rfl,rfl⟩
            ·have u2:(f==43)=false:=by simpa using h43
             rw [if_neg (by omega)] at hs2
             have HS2:=Hq hs2
             clear hs2
             clear h45 h43
             go_wp2_with fail
             go_meet
             case rel=>exact ⟨by rw [HSB.out,HS2.out]; rfl,rfl⟩
          ·have t6:decide (q+1<L)=false:=by simpa using hq2
           have t6':decide ((q:Int)+1<(L:Int))=false:=by simp; omega
           have hs2:=HSG.out
           rw [HXN.out (q+1) (by omega)] at hs2
           have hs2:sg=0:=hs2
           have HS2:=Hq hs2
           clear hs2
           go_wp2_with fail
           go_meet
           case rel=>exact ⟨by rw [HSB.out,HS2.out]; rfl,rfl⟩
         case rest=>
          obtain ⟨rfl,rfl⟩:=hcut
          obtain ⟨k0,hk0⟩:∃ k0,k0=q+1+sg:=⟨_,rfl⟩
          have HK0:=Hq hk0
          clear hk0
          go_upto_if 241 with (fail)
          go_cut [6] from 241 to 244 (fun v6 wc=>v6=.int .i64 k0∧w=wc)
          case first=>
           cases sb
           ·go_wp2_with fail
            go_meet
            case rel=>exact ⟨by have h:¬ sg=1:=of_decide_eq_false HSB.out.symm; rw [HK0.out]; go_num,rfl⟩
           ·go_wp2_with fail
            go_meet
            case rel=>exact ⟨by have h:sg=1:=of_decide_eq_true HSB.out.symm; rw [HK0.out]; go_num,rfl⟩
          case rest=>
           obtain ⟨rfl,rfl⟩:=hcut
           have HE2:=Hq (show ∀ u c,X.drop k0=c::u→isDig c=true→num X=some (k0+digs (X.drop k0)) from fun u c hu hc=>by
            have hu':(X.drop (q+1)).drop (sgn (X.drop (q+1)))=c::u:=by rw [List.drop_drop,← HSG.out,← HK0.out]; exact hu
            rw [num_expo HN3.out HDQ.out HE.out hu' hc,← HSG.out,← HK0.out,hu])
           have HE3:=Hq (show digsO (X.drop k0)=none→num X=none from fun hn=>by
            rw [HN3.out,HDQ.out,expo_yes HE.out,List.drop_drop,← HSG.out,← HK0.out,hn]
            rfl)
           have hk0b:(k0:Int)≤4294967299:=by rw [HK0.out]; omega
           have hk0c:(0:Int)≤(k0:Int):=Int.natCast_nonneg _
           by_cases hkL0:k0<L
           ·have t7:decide (L≤k0)=false:=by simp; omega
            have hks:p+k0<s.size:=by have:=HLQ.out; omega
            have ckz:=HB.out (p+k0) hks
            have hdk0:=HXD.out k0 hks
            have i4:(k0:Int)<(L:Int):=by omega
            have i5:(0:Int)≤(k0:Int):=Int.natCast_nonneg _
            obtain ⟨f,hff⟩:∃ f:Int,(s[p+k0].toNat:Int)=f:=⟨_,rfl⟩
            rw [hff] at ckz hdk0
            have HDX:=Hq hdk0
            clear hdk0 hff
            by_cases hfd:48≤f∧f≤57
            ·have u1:decide (48≤f)=true:=by simp; omega
             have u2:decide (f≤57)=true:=by simp; omega
             have hdc:isDig f=true:=isDig_yes (by omega) (by omega)
             have R:=Hq (HE2.out _ _ HDX.out hdc)
             have HKZ:=Hq (show digs (X.drop k0)=digs (X.drop (k0+1))+1 by rw [HDX.out,digs_c,hdc]; rfl)
             clear hfd hdc
             go_wp2_with fail
             go_loop [6] (fun v=>∃ k:Nat,v=.int .i64 k∧k≤L∧Hid (k+digs (X.drop k)=k0+digs (X.drop k0))) (fun v=>L-(intOf v).toNat)
             case atStart=>exact ⟨k0+1,by go_num,by omega,Hq (by rw [HKZ.out]; omega)⟩
             case round=>
              obtain ⟨k,rfl,hk,HK⟩:=hrel
              have fin:digs (X.drop k)=0→(∃ m:Nat,Value.int .i64 k=.int .i64 m∧Hid (num X=some m)):=fun hz=>⟨k,rfl,Hq (by have e:=HK.out; rw [hz] at e; rw [R.out,← e]; rfl)⟩
              have FIN:=Hq fin
              clear fin
              by_cases hkL:k<L
              ·have t4:decide (k<L)=true:=by simpa using hkL
               have hqk:p+k<s.size:=by have:=HLQ.out; omega
               have ck:=HB.out (p+k) hqk
               have hdk:=HXD.out k hqk
               have i2:(k:Int)<(L:Int):=by omega
               obtain ⟨d,hdd⟩:∃ d:Int,(s[p+k].toNat:Int)=d:=⟨_,rfl⟩
               rw [hdd] at ck hdk
               have HDK:=Hq hdk
               clear hdk hdd
               by_cases h1:48≤d
               ·have u1:decide (48≤d)=true:=by simpa using h1
                by_cases h2:d≤57
                ·have u2:decide (d≤57)=true:=by simpa using h2
                 have Z:=Hq (show k+1+digs (X.drop (k+1))=k0+digs (X.drop k0) by rw [← HK.out,HDK.out,digs_c,isDig_yes h1 h2,if_pos rfl]; omega)
                 go_wp2_with fail
                 go_round
                 case rel=>exact ⟨k+1,by go_num,by omega,Z⟩
                 case measure=>simp [intOf]; omega
                ·have u2:decide (d≤57)=false:=by simpa using h2
                 have Z:=Hq (FIN.out (by rw [HDK.out,digs_c,isDig_no (by omega)]; rfl))
                 go_wp2_with fail
                 go_meet
                 case rel=>exact ⟨⟨6,rfl⟩,Z.out,rfl⟩
               ·have u1:decide (48≤d)=false:=by simpa using h1
                have Z:=Hq (FIN.out (by rw [HDK.out,digs_c,isDig_no (by omega)]; rfl))
                go_wp2_with fail
                go_meet
                case rel=>exact ⟨⟨6,rfl⟩,Z.out,rfl⟩
              ·have t4:decide (k<L)=false:=by simpa using hkL
               have Z:=Hq (FIN.out (by rw [HXN.out k (by omega)]; rfl))
               go_wp2_with fail
               go_meet
               case rel=>exact ⟨⟨6,rfl⟩,Z.out,rfl⟩
            ·have E:=Hq (HE3.out (by rw [HDX.out]; exact digsO_none (isDig_no (by omega))))
             have CX:=Hq (fun wh=>CE.out k0 wh w hkL0 HB.out HG.out)
             by_cases h49:48≤f
             ·have u1:decide (48≤f)=true:=by simpa using h49
              have u2:decide (f≤57)=false:=by simp; omega
              clear hfd
              go_wp2_with fail
              refine (CX.out _).mono ?_
              rintro e w1 ⟨b,rfl,hb⟩
              have HB1:=Hq hb
              clear hb
              go_wp2_with fail
              rw [Exit.noGoto_ret]
              go_ret3
              exact .inr ⟨E.out,k0,st,_,rfl,by rw [HLEN.out]; omega,.inr ⟨_,rfl⟩,HB1.out⟩
             ·have u1:decide (48≤f)=false:=by simpa using h49
              clear hfd
              go_wp2_with fail
              refine (CX.out _).mono ?_
              rintro e w1 ⟨b,rfl,hb⟩
              have HB1:=Hq hb
              clear hb
              go_wp2_with fail
              rw [Exit.noGoto_ret]
              go_ret3
              exact .inr ⟨E.out,k0,st,_,rfl,by rw [HLEN.out]; omega,.inr ⟨_,rfl⟩,HB1.out⟩
           ·have t7:decide (L≤k0)=true:=by simp; omega
            have t8:decide ((L:Int)≤(k0:Int))=true:=by simp; omega
            have t9:L≤k0:=by omega
            have E:=Hq (HE3.out (by rw [HXN.out k0 (by omega)]; rfl))
            clear hkL0
            go_wp2_with fail
            go_quiet (fail)
            go_wp2_with fail
            rw [Exit.noGoto_ret]
            go_ret3
            exact .inr ⟨E.out,q,5,eU,rfl,by rw [HLEN.out]; omega,.inl rfl,gb_drewN (World.grownBy.refl _ _) _⟩
       ·have t5:(d==101)=false:=by simp; omega
        have t6:(d==69)=false:=by simp; omega
        have R:=Hq (show num X=some q by rw [HN3.out,HDQ.out,expo_no he]; simp)
        clear he
        go_wp2_with fail
        go_meet
        case rel=>exact ⟨⟨st,rfl⟩,⟨q,rfl,R⟩,rfl⟩
      ·have t4:decide (q<L)=false:=by simpa using hqL
       have R:=Hq (show num X=some q by rw [HN3.out,HXN.out q (by omega)]; simp [expo])
       go_wp2_with fail
       go_meet
       case rel=>exact ⟨⟨st,rfl⟩,⟨q,rfl,R⟩,rfl⟩
     case rest=>
      obtain ⟨⟨st',rfl⟩,⟨m,rfl,HM⟩,rfl⟩:=hcut
      go_wp2_with fail
      rw [Exit.noGoto_ret]
      go_ret3
      exact .inl ⟨m,st',HM.out,rfl,World.grownBy.refl _ _⟩
  ·have t1:decide (L≤p0)=true:=by simp; omega
   have E:=Hq (show num X=none by rw [HN.out,HXN.out p0 (by omega)]; rfl)
   go_wp2_with fail
   go_quiet (fail)
   go_wp2_with fail
   rw [Exit.noGoto_ret]
   go_ret3
   exact .inr ⟨E.out,0,1,eU,rfl,Nat.zero_le _,.inl rfl,gb_drewN (World.grownBy.refl _ _) _⟩
end Go.Proofs.YtknaalohaagcdaaGreatDoor.Own
