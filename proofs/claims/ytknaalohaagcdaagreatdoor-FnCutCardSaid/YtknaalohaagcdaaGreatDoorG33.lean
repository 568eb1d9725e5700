import Derived.Test.YtknaalohaagcdaaGreatDoorG01
import Derived.Test.YtknaalohaagcdaaGreatDoorG30
import Derived.Test.YtknaalohaagcdaaGreatDoorG31
import Derived.Test.YtknaalohaagcdaaGreatDoorG32
set_option maxHeartbeats 400000000
set_option maxRecDepth 100000
namespace Go.Proofs.YtknaalohaagcdaaGreatDoor.Own
open Go.RowKit JG
def VAllI(n:Nat):Prop:=∀ (A:List Addr) (base d F B cap k q depth:Nat) (s:ByteArray) (vals:Int) (aU aI:Addr) (lo dup:Bool) (lab:Nat→Nat) (ds:Array Value) (nsv:Value) (w:World),Cst A s cap vals aU aI lo dup→DS A w lab base d F B cap k s vals 0 (.iface 260 (.pointer (some aU))) (.iface 260 (.pointer (some aI))) ds nsv→q<s.size→ws ((bytes s).drop q)=0→depth≤q+1→k≤q→2 * (s.size-q)<n→
 Calls Tryz.prog 69 #[.pointer (some ⟨d,0,none⟩),.pointer (some ⟨F,0,none⟩),.int .i64 q,.int .i64 depth] w (ValQ A base d F B cap k s vals (.iface 260 (.pointer (some aU))) (.iface 260 (.pointer (some aI))) lab ds (run (chkD dup) lo n .val ((bytes s).drop q)).1 q (50000 * (s.size-q)) w)
structure ST(A:List Addr)(base d F B cap k:Nat)(s:ByteArray)(vals:Int)(eU eI:Value)(lab:Nat→Nat)(ds:Array Value)(w wr:World)(lab':Nat→Nat)(ds':Array Value)(nsv':Value):Prop where
 fm:Fm lab lab' k d F w wr
 hds:DS A wr lab' base d F B cap k s vals 0 eU eI ds' nsv'
 b4:But4 ds ds'
section
variable {A:List Addr} {w wr w3:World} {lab lab':Nat→Nat} {base d F B cap k:Nat} {s:ByteArray} {vals:Int} {eU eI:Value} {ds ds':Array Value} {nsv nsv':Value} {o:Option Nat} {q m:Nat}
theorem ST.start(h:DS A w lab base d F B cap k s vals 0 eU eI ds nsv):ST A base d F B cap k s vals eU eI lab ds w w lab ds nsv:=⟨Fm.refl _ _ _ _ _,h,But4.refl _⟩
theorem ST.gb0(h:ST A base d F B cap k s vals eU eI lab ds w wr lab' ds' nsv')(hg:wr.grownBy w3 none):ST A base d F B cap k s vals eU eI lab ds w w3 lab' ds' nsv':=⟨h.fm.trans (Fm.gb0 hg),h.hds.gb0 hg,h.b4⟩
theorem ST.yes{e:Ending}{j:Nat}(h:ST A base d F B cap k s vals eU eI lab ds w wr lab' ds' nsv')(ho:o=some j)(he:e=.returned (.tuple #[.int .i64 (q+j:Nat),.nilIface])):ValQ A base d F B cap k s vals eU eI lab ds o q m w e wr:=⟨lab',ds',nsv',h.fm,h.hds,h.b4,.inl ⟨j,ho,he⟩⟩
theorem ST.no{e:Ending}{n:Nat}{v:Value}(h:ST A base d F B cap k s vals eU eI lab ds w wr lab' ds' nsv')(ho:o=none)(he:e=.returned (.tuple #[.int .i64 n,v]))(hn:n≤s.size)(hv:Bare A v):ValQ A base d F B cap k s vals eU eI lab ds o q m w e wr:=⟨lab',ds',nsv',h.fm,h.hds,h.b4,.inr ⟨ho,n,v,he,hn,.inl hv⟩⟩
theorem ST.err{e:Ending}{n m':Nat}{v:Value}(h:ST A base d F B cap k s vals eU eI lab ds w wr lab' ds' nsv')(ho:o=none)(he:e=.returned (.tuple #[.int .i64 n,v]))(hn:n≤s.size)(hv:PE A w.heap.size w3 (labN wr lab' 0) m' v)(hm:m'≤m)(hE:Er w.heap.size (labN wr lab' 0) wr w3)(hb:base≤w.heap.size):ValQ A base d F B cap k s vals eU eI lab ds o q m w e w3:=
 ⟨labN wr lab' 0,ds',nsv',h.fm.er hE.labN (labN_eq _ _ _) (Nat.le_refl _),h.hds.er hE.labN (labN_eq _ _ _) hb,h.b4,.inr ⟨ho,n,v,he,hn,ErrV.more (.inr hv) hm⟩⟩
end
theorem val_took{A:List Addr}{base d F B cap k:Nat}{s:ByteArray}{vals:Int}{eU eI:Value}{lab:Nat→Nat}{ds:Array Value}{o:Option Nat}{q m j:Nat}{w:World}{f:FuncId}{args:Array Value}(h:Calls Tryz.prog f args w (ValQ A base d F B cap k s vals eU eI lab ds o q m w))(ho:o=some j):
  Calls Tryz.prog f args w fun e w'=>e=.returned (.tuple #[.int .i64 (q+j:Nat),.nilIface])∧∃ lab' ds' nsv',Fm lab lab' k d F w w'∧DS A w' lab' base d F B cap k s vals 0 eU eI ds' nsv'∧But4 ds ds':=
 h.mono fun e w' ⟨lab',ds',nsv',h1,h2,h3,h4⟩=>by
  rcases h4 with ⟨j',hj,he⟩|⟨hj,_⟩
  ·rw [ho] at hj
   obtain rfl:=Option.some.inj hj
   exact ⟨he,lab',ds',nsv',h1,h2,h3⟩
  ·rw [ho] at hj
   cases hj
theorem val_left{A:List Addr}{base d F B cap k:Nat}{s:ByteArray}{vals:Int}{eU eI:Value}{lab:Nat→Nat}{ds:Array Value}{o:Option Nat}{q m:Nat}{w:World}{f:FuncId}{args:Array Value}(h:Calls Tryz.prog f args w (ValQ A base d F B cap k s vals eU eI lab ds o q m w))(ho:o=none):
  Calls Tryz.prog f args w fun e w'=>∃ (n:Nat) (v:Value),e=.returned (.tuple #[.int .i64 n,v])∧n≤s.size∧(∃ u x,v=.iface u (.pointer (some x)))∧∃ lab' ds' nsv',Fm lab lab' k d F w w'∧DS A w' lab' base d F B cap k s vals 0 eU eI ds' nsv'∧But4 ds ds'∧ErrV A w.heap.size w' lab' m v:=
 h.mono fun e w' ⟨lab',ds',nsv',h1,h2,h3,h4⟩=>by
  rcases h4 with ⟨j',hj,he⟩|⟨_,n,v,he,hn,hv⟩
  ·rw [ho] at hj
   cases hj
  ·refine ⟨n,v,he,hn,?_,lab',ds',nsv',h1,h2,h3,hv⟩
   rcases hv with (⟨a,_,rfl⟩|⟨b,rfl⟩)|⟨pb,_,_,_,_,rfl,_⟩
   ·exact ⟨_,_,rfl⟩
   ·exact ⟨_,_,rfl⟩
   ·exact ⟨_,_,rfl⟩
theorem run_nil{chk:List (List Int)→Bool × Bool}{lo:Bool}(n:Nat):(run chk lo n .val []).1=none:=by
 cases n with
 |zero=>rfl
 |succ n=>
  rw [run_scalar (xs:=[]) (by decide) (by decide)]
  rfl
theorem run_drop{chk:List (List Int)→Bool × Bool}{lo:Bool}(n:Nat)(xs:List Int):(run chk lo n .val xs).1=(run chk lo n .val (xs.drop (ws xs))).1.map (·+ws xs):=by
 cases n with
 |zero=>rfl
 |succ n=>
  obtain ⟨pre,rest,e,hl,_,hall,_⟩:=ws_loc xs
  have hd:xs.drop (ws xs)=rest:=by rw [← hl,e,List.drop_left]
  rw [hd]
  have h2:=run_ahead (chk:=chk) (lo:=lo) (n:=n) (xs:=rest) hall
  rw [← e,hl] at h2
  rw [h2]
  rfl
theorem ws_zero(xs:List Int):ws (xs.drop (ws xs))=0:=by
 obtain ⟨pre,rest,e,hl,hw,_,_⟩:=ws_loc xs
 have hd:xs.drop (ws xs)=rest:=by rw [← hl,e,List.drop_left]
 rw [hd]
 cases rest with
 |nil=>rfl
 |cons c t=>
  show (if isWs c then ws t+1 else 0)=0
  rw [if_neg (by simpa using hw)]
theorem ws_fit{s:ByteArray}{p:Nat}(h:p≤s.size):p+ws ((bytes s).drop p)≤s.size:=by
 have:=ws_le ((bytes s).drop p)
 rw [List.length_drop,bytes_len] at this
 omega
theorem head_byte{s:ByteArray}{p:Nat}(h:p<s.size):((bytes s).drop p).headD 0=(s[p].toNat:Int):=by rw [bytes_drop h]; rfl
theorem head_end{s:ByteArray}{p:Nat}(h:s.size≤p):((bytes s).drop p).headD 0=0:=by rw [bytes_end h]; rfl
theorem arr132(n:Nat)(hV:∀ n',n'<n→VAllI n')(A:List Addr)(base d F B cap k q depth:Nat)(s:ByteArray)(vals:Int)(aU aI:Addr)(lo dup:Bool)(lab:Nat→Nat)(ds:Array Value)(nsv:Value)(w:World)(C:Cst A s cap vals aU aI lo dup)
  (h:DS A w lab base d F B cap k s vals 0 (.iface 260 (.pointer (some aU))) (.iface 260 (.pointer (some aI))) ds nsv) (hq:q<s.size) (hc:(s[q].toNat:Int)=91) (hdep:depth≤q+1) (hkq:k≤q) (hfu:2 * (s.size-(q+1))+1<n):
  Calls Tryz.prog 132 #[.pointer (some ⟨d,0,none⟩),.pointer (some ⟨F,0,none⟩),.int .i64 q,.int .i64 depth] w (ValQ A base d F B cap k s vals (.iface 260 (.pointer (some aU))) (.iface 260 (.pointer (some aI))) lab ds ((brO (chkD dup) lo n 93 .elems ((bytes s).drop (q+1))).1.map (·+1)) q (50000 * (s.size-q)) w):=by
 obtain ⟨r,HRr⟩:∃ r,Hid (r=(brO (chkD dup) lo n 93 .elems ((bytes s).drop (q+1))).1.map (·+1)):=⟨_,Hq rfl⟩
 rw [← HRr.out]
 obtain ⟨c1,c7,c10,_,_⟩:=h.db.facts
 have cq:=h.buf q hq
 rw [hc] at cq
 have hs:=C.hs
 have hcap:=C.hcap
 have HC:=Hq C
 have HS0:=Hq (ST.start h)
 have hbase:=h.hb
 obtain ⟨p,hp⟩:∃ p,q+1=p:=⟨_,rfl⟩
 have hps:p≤s.size:=by omega
 have x1:(q:Int)+1=(p:Int):=by omega
 obtain ⟨dp,hdp⟩:∃ dp,depth+1=dp:=⟨_,rfl⟩
 have x5:(depth:Int)+1=(dp:Int):=by omega
 have x2:¬ (depth:Int)=10001:=by omega
 have x3:((depth:Int)==10001)=false:=by simp; omega
 have q0:(0:Int)≤(q:Int):=Int.natCast_nonneg _
 have q1:(q:Int)<(s.size:Int):=by omega
 have p0:(0:Int)≤(p:Int):=Int.natCast_nonneg _
 have t1:decide (s.size≤q)=false:=by simp; omega
 have t2:decide ((s.size:Int)≤(q:Int))=false:=by simp; omega
 obtain ⟨z,HZ⟩:∃ z,Hid (ws ((bytes s).drop p)=z):=⟨_,Hq rfl⟩
 have hr:=rest_run (W:=w) (B:=B) (cap:=cap) (q:=p) (n:=s.size) hps hcap
 have W1:=wsC B p cap s w (by omega) hps hcap h.buf
 rw [HZ.out] at W1
 have W1:=Hq W1
 generalize rest B cap p s.size=u at hr W1
 obtain ⟨p2,hp2⟩:∃ p2,p+z=p2:=⟨_,rfl⟩
 have hp2s:p2≤s.size:=by have:=ws_fit hps; rw [HZ.out] at this; omega
 have x4:(p:Int)+(z:Int)=(p2:Int):=by omega
 have M:=Hq (fun b hb=>more62 d ds B cap p2 s vals 0 w h.db b hb)
 have ce:=h.gl.eof
 have WE:=Hq (wsEnd63 d ds B cap s vals 0 _ w (by omega) hcap h.db h.buf ce aU rfl)
 clear h hc C
 go_enter Tryz.func132,Tryz.ntmps132
 go_wp2_with fail
 refine W1.out.mono ?_
 rintro e w' ⟨rfl,rfl⟩
 go_wp2_with fail
 by_cases he2:p2=s.size
 ·have M1:=Hq (M.out true (by simpa using he2))
  have E:=Hq (show r=none by
   rw [HRr.out]
   unfold brO
   have e0:((bytes s).drop (q+1)).drop (ws ((bytes s).drop (q+1)))=[]:=by rw [hp,HZ.out,List.drop_drop,hp2]; exact bytes_end (by omega)
   rw [e0,if_neg (by decide)]
   cases n with
   |zero=>rfl
   |succ n=>
    cases hv:run (chkD dup) lo n .val [] with
    |mk a b=>
    have:=run_nil (chk:=chkD dup) (lo:=lo) n
    rw [hv] at this
    rw [run_elems_no (show run (chkD dup) lo n .val []=(none,b) by rw [hv,← this])]
    rfl)
  subst he2
  clear M hV
  refine M1.out.mono ?_
  rintro e w' ⟨rfl,rfl⟩
  go_wp2_with fail
  refine WE.out.mono ?_
  rintro e w' ⟨rfl,rfl⟩
  go_wp2_with fail
  go_ret2
  exact HS0.out.no E.out (by rfl) (Nat.le_refl _) (.inl ⟨_,HC.out.hU,rfl⟩)
 ·have hlt2:p2<s.size:=by omega
  have M1:=Hq (M.out false (by simpa using he2))
  have cp:=HS0.out.hds.buf p2 hlt2
  have HB2:=Hq (head_byte hlt2)
  obtain ⟨c,hcc⟩:∃ c:Int,(s[p2].toNat:Int)=c:=⟨_,rfl⟩
  rw [hcc] at cp HB2
  have p20:(0:Int)≤(p2:Int):=Int.natCast_nonneg _
  have p21:(p2:Int)<(s.size:Int):=by omega
  have hdd:((bytes s).drop (q+1)).drop (ws ((bytes s).drop (q+1)))=(bytes s).drop p2:=by rw [hp,HZ.out,List.drop_drop,hp2]
  have HDD:=Hq hdd
  clear M he2 hcc hdd
  refine M1.out.mono ?_
  rintro e w' ⟨rfl,rfl⟩
  by_cases h93:c=93
  ·subst h93
   have E:=Hq (show r=some (z+2) by
    rw [HRr.out]
    unfold brO
    rw [HDD.out,HB2.out,if_pos rfl,hp,HZ.out]
    rfl)
   clear hV
   go_wp2_with fail
   go_ret2
   exact HS0.out.yes E.out (by rw [show ((q+(z+2):Nat):Int)=(p2:Int)+1 by omega]; rfl)
  ·have t93:(c==93)=false:=by simpa using h93
   have E0:=Hq (show r=(run (chkD dup) lo n .elems ((bytes s).drop p2)).1.map (·+(p2-q)) by
    rw [HRr.out]
    unfold brO
    rw [HDD.out,HB2.out,if_neg h93,hp,HZ.out]
    show Option.map _ (Option.map _ _)=_
    rw [Option.map_map]
    congr 1
    funext x
    simp
    omega)
   clear h93
   go_wp2_with fail
   go_loopg [2,9,10] n (fun gk v2 v9 v10 wr=>∃ (p f idx:Nat) (lab':Nat→Nat) (ds':Array Value) (nsv':Value),v2=.int .i64 p∧v9=.nilIface∧v10=.int .i64 idx∧q+1≤p∧p≤s.size∧idx≤p∧Hid (r=(run (chkD dup) lo f .elems ((bytes s).drop p)).1.map (·+(p-q)))∧f≤n∧2 * (s.size-p)+1<f∧Hid (ST A base d F B cap k s vals (.iface 260 (.pointer (some aU))) (.iface 260 (.pointer (some aI))) lab ds w wr lab' ds' nsv')∧Hid (gk=f))
   case atStart=>exact ⟨p2,n,0,lab,ds,nsv,rfl,rfl,rfl,by omega,by omega,by omega,E0,Nat.le_refl _,by omega,HS0,Hq rfl⟩
   case round=>
    clear E0 HS0 M1 cp HB2 HDD hlt2 x1 x2 x3 x4 p0 p20 p21 hp2s hp HZ W1 hr t93 t1 t2 c7 c10 c1 cq ce WE HRr hps
    obtain ⟨p,f,idx,lab1,ds1,nsv1,rfl,rfl,rfl,hqp,hps,hidx,HE,hfn,hff,HS1,HG⟩:=hrel
    obtain ⟨f',rfl⟩:∃ f',f=f'+1:=⟨f-1,by omega⟩
    have h1:=HS1.out.hds
    obtain ⟨b1,b7,b10,_,_⟩:=h1.db.facts
    obtain ⟨z1,HZ1⟩:∃ z,Hid (ws ((bytes s).drop p)=z):=⟨_,Hq rfl⟩
    have hr1:=rest_run (W:=wr) (B:=B) (cap:=cap) (q:=p) (n:=s.size) hps hcap
    have W1:=wsC B p cap s wr (by omega) hps hcap h1.buf
    rw [HZ1.out] at W1
    have W1:=Hq W1
    generalize rest B cap p s.size=u1 at hr1 W1
    obtain ⟨p3,hp3⟩:∃ p3,p+z1=p3:=⟨_,rfl⟩
    have hp3s:p3≤s.size:=by have:=ws_fit hps; rw [HZ1.out] at this; omega
    have y1:(p:Int)+(z1:Int)=(p3:Int):=by omega
    have M:=Hq (fun b hb=>more62 d ds1 B cap p3 s vals 0 wr h1.db b hb)
    have WE:=Hq (wsEnd63 d ds1 B cap s vals 0 _ wr (by omega) hcap h1.db h1.buf h1.gl.eof aU rfl)
    have HDP:=Hq (show (run (chkD dup) lo f' .val ((bytes s).drop p)).1=(run (chkD dup) lo f' .val ((bytes s).drop p3)).1.map (·+z1) by rw [run_drop,HZ1.out,List.drop_drop,hp3])
    have i0:(0:Int)≤(idx:Int):=Int.natCast_nonneg _
    have p0:(0:Int)≤(p:Int):=Int.natCast_nonneg _
    clear h1
    go_wp2_with fail
    refine W1.out.mono ?_
    rintro e w' ⟨rfl,rfl⟩
    go_wp2_with fail
    by_cases he3:p3=s.size
    ·have M1:=Hq (M.out true (by simpa using he3))
     have E:=Hq (show r=none by
      rw [HE.out]
      cases hv:run (chkD dup) lo f' .val ((bytes s).drop p) with
      |mk a b=>
      have h2:=HDP.out
      rw [hv,bytes_end (p:=p3) (by omega),run_nil] at h2
      rw [run_elems_no (show run (chkD dup) lo f' .val ((bytes s).drop p)=(none,b) by rw [hv]; exact congrArg (·,b) h2)]
      rfl)
     subst he3
     clear M hV
     refine M1.out.mono ?_
     rintro e w' ⟨rfl,rfl⟩
     go_wp2_with fail
     refine WE.out.mono ?_
     rintro e w' ⟨rfl,rfl⟩
     go_wp2_with fail
     go_ret2
     exact HS1.out.no E.out (by rfl) (Nat.le_refl _) (.inl ⟨_,HC.out.hU,rfl⟩)
    ·have hlt3:p3<s.size:=by omega
     have M1:=Hq (M.out false (by simpa using he3))
     have V:=hV f' (by omega) A base d F B cap k p3 dp s vals aU aI lo dup lab1 ds1 nsv1 wr HC.out HS1.out.hds hlt3 (by rw [← hp3,← List.drop_drop,← HZ1.out]; exact ws_zero _) (by omega) (by omega) (by omega)
     clear M he3 hV W1 hr1
     refine M1.out.mono ?_
     rintro e w' ⟨rfl,rfl⟩
     cases hv:run (chkD dup) lo f' .val ((bytes s).drop p3) with
     |mk ro oo=>
     rw [hv] at V
     cases ro with
     |none=>
      have V:=Hq (val_left V rfl)
      have E:=Hq (show r=none by
       rw [HE.out]
       cases hv2:run (chkD dup) lo f' .val ((bytes s).drop p) with
       |mk a b=>
       have h2:=HDP.out
       rw [hv2,hv] at h2
       rw [run_elems_no (show run (chkD dup) lo f' .val ((bytes s).drop p)=(none,b) by rw [hv2]; exact congrArg (·,b) h2)]
       rfl)
      clear hv M1 WE
      go_wp2_with fail
      refine V.out.mono ?_
      rintro e w3 ⟨n3,v3,rfl,hn3,⟨uu,xx,hvf⟩,lab3,ds3,nsv3,hfm,hds,hb4,herr⟩
      have S3:=Hq (show ST A base d F B cap k s vals (.iface 260 (.pointer (some aU))) (.iface 260 (.pointer (some aI))) lab ds w w3 lab3 ds3 nsv3 from ⟨HS1.out.fm.trans hfm,hds,HS1.out.b4.trans hb4⟩)
      have WR:=Hq (wrap153 w.heap.size (50000 * (s.size-p3)) idx lab3 v3 w3 (Nat.le_trans HS1.out.fm.fz.size hfm.fz.size) (by omega) (by omega) (herr.low HS1.out.fm.fz.size) (fun w1 he=>((hds.er he.labN (LabEq.refl _ _) hbase).g2.tab)))
      clear hfm hds hb4 herr V
      subst hvf
      go_wp2_with fail
      refine WR.out.mono ?_
      rintro e w4 ⟨v4,rfl,hpe,her⟩
      have RR:=Hq (And.intro hpe her)
      clear hpe her
      go_wp2_with fail
      go_ret2
      exact S3.out.err E.out (by rfl) hn3 RR.out.1 (by omega) RR.out.2 hbase
     |some j=>
      have V:=Hq (val_took V rfl)
      obtain ⟨p4,hp4⟩:∃ p4,p3+j=p4:=⟨_,rfl⟩
      have hj1:=run_take hv
      have hjl:p4≤s.size:=by have:=hj1.2; rw [List.length_drop,bytes_len] at this; omega
      have hj1:=hj1.1
      have HVP:=Hq (show ∃ b,run (chkD dup) lo f' .val ((bytes s).drop p)=(some (j+z1),b) by
       cases hv2:run (chkD dup) lo f' .val ((bytes s).drop p) with
       |mk a b=>
       have h2:=HDP.out
       rw [hv2,hv] at h2
       exact ⟨b,congrArg (·,b) h2⟩)
      have HPJ:=Hq (show ((bytes s).drop p).drop (j+z1)=(bytes s).drop p4 by rw [List.drop_drop]; congr 1; omega)
      clear hv M1 WE
      go_wp2_with fail
      refine V.out.mono ?_
      rintro e w3 ⟨rfl,lab3,ds3,nsv3,hfm,hds,hb4⟩
      rw [hp4]
      have S3:=Hq (show ST A base d F B cap k s vals (.iface 260 (.pointer (some aU))) (.iface 260 (.pointer (some aI))) lab ds w w3 lab3 ds3 nsv3 from ⟨HS1.out.fm.trans hfm,hds,HS1.out.b4.trans hb4⟩)
      obtain ⟨d1,d7,d10,_,_⟩:=hds.db.facts
      obtain ⟨z2,HZ2⟩:∃ z,Hid (ws ((bytes s).drop p4)=z):=⟨_,Hq rfl⟩
      have hr2:=rest_run (W:=w3) (B:=B) (cap:=cap) (q:=p4) (n:=s.size) hjl hcap
      have W2:=wsC B p4 cap s w3 (by omega) hjl hcap hds.buf
      rw [HZ2.out] at W2
      have W2:=Hq W2
      generalize rest B cap p4 s.size=u2 at hr2 W2
      obtain ⟨p5,hp5⟩:∃ p5,p4+z2=p5:=⟨_,rfl⟩
      have hp5s:p5≤s.size:=by have:=ws_fit hjl; rw [HZ2.out] at this; omega
      have y2:(p4:Int)+(z2:Int)=(p5:Int):=by omega
      have M:=Hq (fun b hb=>more62 d ds3 B cap p5 s vals 0 w3 hds.db b hb)
      have WE:=Hq (wsEnd63 d ds3 B cap s vals 0 _ w3 (by omega) hcap hds.db hds.buf hds.gl.eof aU rfl)
      have HDQ:=Hq (show ((((bytes s).drop p).drop (j+z1)).drop (ws (((bytes s).drop p).drop (j+z1)))).headD 0=((bytes s).drop p5).headD 0 by rw [HPJ.out,HZ2.out,List.drop_drop,hp5])
      have p40:(0:Int)≤(p4:Int):=Int.natCast_nonneg _
      clear hfm hds hb4 V
      go_wp2_with fail
      refine W2.out.mono ?_
      rintro e w' ⟨rfl,rfl⟩
      go_wp2_with fail
      by_cases he5:p5=s.size
      ·have M1:=Hq (M.out true (by simpa using he5))
       have E:=Hq (show r=none by
        obtain ⟨b,hb⟩:=HVP.out
        rw [HE.out,run_elems_else hb (by rw [HDQ.out,head_end (by omega)]; decide) (by rw [HDQ.out,head_end (by omega)]; decide)]
        rfl)
       subst he5
       clear M
       refine M1.out.mono ?_
       rintro e w' ⟨rfl,rfl⟩
       go_wp2_with fail
       refine WE.out.mono ?_
       rintro e w' ⟨rfl,rfl⟩
       go_wp2_with fail
       go_ret2
       exact S3.out.no E.out (by rfl) (Nat.le_refl _) (.inl ⟨_,HC.out.hU,rfl⟩)
      ·have hlt5:p5<s.size:=by omega
       have M1:=Hq (M.out false (by simpa using he5))
       have cp:=S3.out.hds.buf p5 hlt5
       have HB5:=head_byte hlt5
       obtain ⟨c,hcc⟩:∃ c:Int,(s[p5].toNat:Int)=c:=⟨_,rfl⟩
       rw [hcc] at cp HB5
       rw [HB5] at HDQ
       have p50:(0:Int)≤(p5:Int):=Int.natCast_nonneg _
       have p51:(p5:Int)<(s.size:Int):=by omega
       have CE:=fun wh=>charErr107 B p5 (cap-p5) s wh w3 S3.out.hds.gl.tabs hlt5 (by omega) S3.out.hds.buf
       have CE:=Hq CE
       have hqc5:p5<cap:=by omega
       clear M he5 hcc HB5 WE W2 hr2
       refine M1.out.mono ?_
       rintro e w' ⟨rfl,rfl⟩
       by_cases h44:c=44
       ·subst h44
        have E:=Hq (show r=(run (chkD dup) lo f' .elems ((bytes s).drop (p5+1))).1.map (·+(p5+1-q)) by
         obtain ⟨b,hb⟩:=HVP.out
         rw [HE.out,run_elems_more hb HDQ.out,HPJ.out,HZ2.out,List.drop_drop,show p+(j+z1+z2+1)=p5+1 by omega]
         show Option.map _ (Option.map _ _)=_
         rw [Option.map_map]
         congr 1
         funext x
         simp
         omega)
        clear CE HDQ
        go_wp2_with fail
        go_roundg f'
        case measure=>have:=HG.out; omega
        case rel=>exact ⟨p5+1,f',idx+1,lab3,ds3,nsv3,by go_num,rfl,by go_num,by omega,by omega,by omega,E,by omega,by omega,S3,Hq rfl⟩
       ·have t44:(c==44)=false:=by simpa using h44
        by_cases h93:c=93
        ·subst h93
         have E:=Hq (show r=some (p5+1-q) by
          obtain ⟨b,hb⟩:=HVP.out
          rw [HE.out,run_elems_end hb HDQ.out,HPJ.out,HZ2.out]
          show some (j+z1+z2+1+(p-q))=_
          congr 1
          omega)
         clear CE HDQ
         go_wp2_with fail
         go_ret2
         exact S3.out.yes E.out (by rw [show ((q+(p5+1-q):Nat):Int)=(p5:Int)+1 by omega]; rfl)
        ·have t93:(c==93)=false:=by simpa using h93
         have E:=Hq (show r=none by
          obtain ⟨b,hb⟩:=HVP.out
          rw [HE.out,run_elems_else hb (by rw [HDQ.out]; exact h93) (by rw [HDQ.out]; exact h44)]
          rfl)
         clear HDQ h93 h44
         go_wp2_with fail
         refine (CE.out _).mono ?_
         rintro e w4 ⟨b,rfl,hg⟩
         have R:=Hq hg
         clear hg
         go_wp2_with fail
         go_ret2
         exact (S3.out.gb0 R.out).no (n:=p5) E.out (by rfl) (by omega) (.inr ⟨b,rfl⟩)
end Go.Proofs.YtknaalohaagcdaaGreatDoor.Own
namespace Go.Proofs.YtknaalohaagcdaaGreatDoor.Own
open Go.RowKit JG
theorem check68{A:List Addr}{d B cap:Nat}{s:ByteArray}{vals l:Int}{aU aI aE aM:Addr}{ds:Array Value}{ao:Option Addr}{c:Nat}{nsv:Value}{w:World}(C:KC A s cap vals aU aI aE aM)(h:RT A d B cap s vals l aU aI aE aM ds ao c nsv w)(p:Nat)(hp:p≤s.size)(h9:ds[9]? = some (.int .i64 p))(dl nx:Int)(hdl:dl=58∨dl=44):
  Calls Tryz.prog 68 #[.pointer (some ⟨d,0,none⟩),.int .u8 dl,.int .u8 nx] w (SynE w):=by
 obtain ⟨c0,c1,_,_,_⟩:=h.top.facts h.db.blk
 obtain ⟨_,c7,_,_,_⟩:=h.db.facts
 have c9:w.cell? ⟨d,9,none⟩=some (.int .i64 p):=by rw [cell_of_row _ _ _ _ _ (0,0) h.db.blk]; exact h9
 have N:=Hq (delim67 ao c l nx h.l01 w)
 have HC:=Hq C
 have HR:=Hq h
 have HL:=Hq h.l01
 have e0:(0==dl)=false:=by rcases hdl with rfl|rfl<;>rfl
 have hcap:=C.hcap
 have hs:=C.hs
 obtain ⟨z,HZ⟩:∃ z,Hid (ws ((bytes s).drop p)=z):=⟨_,Hq rfl⟩
 obtain ⟨p2,hp2⟩:∃ p2,p+z=p2:=⟨_,rfl⟩
 have hp2s:p2≤s.size:=by have:=ws_fit hp; rw [HZ.out] at this; omega
 have x4:(p:Int)+(z:Int)=(p2:Int):=by omega
 have p0:(0:Int)≤(p:Int):=Int.natCast_nonneg _
 clear C h h9 hdl
 go_enter Tryz.func68,Tryz.ntmps68
 go_wp2_with fail
 refine N.out.mono ?_
 rintro e w1 ⟨rfl,hg1⟩
 have HR1:=Hq (HR.out.gb0 hg1)
 have HG1:=Hq hg1
 have k7:w1.cell? ⟨d,7,none⟩=some (.slice (some ⟨B,0,none⟩) s.size cap):=(World.cell?_of_block (w:=w) (a:=⟨d,7,none⟩) (hg1.block d HR.out.db.lt (by simp))).trans c7
 have k9:w1.cell? ⟨d,9,none⟩=some (.int .i64 p):=(World.cell?_of_block (w:=w) (a:=⟨d,9,none⟩) (hg1.block d HR.out.db.lt (by simp))).trans c9
 have hr:=rest_run (W:=w1) (B:=B) (cap:=cap) (q:=p) (n:=s.size) hp hcap
 have W1:=wsC B p cap s w1 (by omega) hp hcap HR1.out.bf
 rw [HZ.out] at W1
 have W1:=Hq W1
 generalize rest B cap p s.size=u at hr W1
 have hr2:=rest_run (W:=w1) (B:=B) (cap:=cap) (q:=p2) (n:=s.size) hp2s hcap
 have CE:=Hq (fun wh=>charErrR B p2 cap s wh w1 HR1.out.gl.tabs hp2s hcap HR1.out.bf)
 generalize rest B cap p2 s.size=u2 at hr2 CE
 clear hg1
 go_wp2_with fail
 refine W1.out.mono ?_
 rintro e w' ⟨rfl,rfl⟩
 go_wp2_with fail
 refine (CE.out _).mono ?_
 rintro e w2 ⟨b,rfl,hg2⟩
 have HG2:=Hq hg2
 have WR:=Hq (wrap_str HC.out (HR1.out.gb0 hg2) p2 hp2s 0 _ (.inr (.inr ⟨b,rfl⟩)))
 clear hg2
 go_wp2_with fail
 refine WR.out.mono ?_
 rintro e w3 ⟨b3,rfl,hg3⟩
 have HG3:=Hq hg3
 clear hg3
 go_wp2_with fail
 go_ret
 exact ⟨b3,rfl,(HG1.out.trans HG2.out).trans HG3.out⟩
theorem before66{A:List Addr}{d B cap:Nat}{s:ByteArray}{vals l:Int}{aU aI aE aM:Addr}{ds:Array Value}{ao:Option Addr}{c:Nat}{nsv:Value}{w:World}(C:KC A s cap vals aU aI aE aM)(h:RT A d B cap s vals l aU aI aE aM ds ao c nsv w)(p:Nat)(hp:p≤s.size)(h9:ds[9]? = some (.int .i64 p))(dl:Int)(hdl:dl=58∨dl=44)(v:Value):
  Calls Tryz.prog 66 #[.pointer (some ⟨d,0,none⟩),.int .u8 dl,v] w (SynE w):=by
 obtain ⟨c0,c1,_,_,_⟩:=h.top.facts h.db.blk
 have N:=Hq (delim67 ao c l 34 h.l01 w)
 have K:=Hq (fun (w1:World) (hg:w.grownBy w1 none)=>check68 C (h.gb0 hg) p hp h9 dl 34 hdl)
 have e0:(0 != dl)=true:=by rcases hdl with rfl|rfl<;>rfl
 clear C h h9 hdl
 go_enter Tryz.func66,Tryz.ntmps66
 go_wp2_with fail
 refine N.out.mono ?_
 rintro e w1 ⟨rfl,hg1⟩
 have K1:=Hq (K.out w1 hg1)
 have HG1:=Hq hg1
 clear hg1
 go_wp2_with fail
 refine K1.out.mono ?_
 rintro e w2 ⟨b,rfl,hg2⟩
 have HG2:=Hq hg2
 clear hg2
 go_wp2_with fail
 go_ret
 exact ⟨b,rfl,HG1.out.trans HG2.out⟩
end Go.Proofs.YtknaalohaagcdaaGreatDoor.Own
