import Derived.Test.YtknaalohaagcdaaGreatDoorG01
import Derived.Test.YtknaalohaagcdaaGreatDoorG36
set_option maxHeartbeats 400000000
set_option maxRecDepth 100000
namespace Go.Proofs.YtknaalohaagcdaaGreatDoor.Own
open Go.RowKit JG
theorem nameO_q{chk:List (List Int)→Bool × Bool}{lo:Bool}{names:List (List Int)}{xs:List Int}(h:quotedO lo xs=none):nameO chk lo names xs=(none,false):=by
 unfold nameO
 rw [h]
theorem nameO_d{chk:List (List Int)→Bool × Bool}{lo:Bool}{names:List (List Int)}{xs:List Int}{j:Nat}(h:quotedO lo xs=some j)(hd:(chk (names++[xs.take (j+1)])).1=true):∃ b,nameO chk lo names xs=(none,b):=by
 unfold nameO
 rw [h]
 simp only
 rw [if_pos hd]
 exact ⟨_,rfl⟩
theorem nameO_c{chk:List (List Int)→Bool × Bool}{lo:Bool}{names:List (List Int)}{xs:List Int}{j:Nat}(h:quotedO lo xs=some j)(hd:(chk (names++[xs.take (j+1)])).1=false)(hc:¬ ((xs.drop (j+1)).drop (ws (xs.drop (j+1)))).headD 0=58):∃ b,nameO chk lo names xs=(none,b):=by
 unfold nameO
 rw [h]
 simp only
 rw [if_neg (by rw [hd]; decide),if_neg hc]
 exact ⟨_,rfl⟩
theorem nameO_y{chk:List (List Int)→Bool × Bool}{lo:Bool}{names:List (List Int)}{xs:List Int}{j:Nat}(h:quotedO lo xs=some j)(hd:(chk (names++[xs.take (j+1)])).1=false)(hc:((xs.drop (j+1)).drop (ws (xs.drop (j+1)))).headD 0=58):∃ b,nameO chk lo names xs=(some (j+1+ws (xs.drop (j+1))+1),b):=by
 unfold nameO
 rw [h]
 simp only
 rw [if_neg (by rw [hd]; decide),if_pos hc]
 exact ⟨_,rfl⟩
theorem namesO_y{lo:Bool}{names:List (List Int)}{xs:List Int}{j:Nat}(h:quotedO lo xs=some j):namesO lo names xs=names++[xs.take (j+1)]:=by
 unfold namesO
 rw [h]
def ActD(dup:Bool)(w:World)(lab:Nat→Nat)(base A0 k:Nat)(names:List (List Int)):Prop:=dup=false→∃ v1 v2 mo,Act Tryz.prog w lab base A0 k (decs names) v1 v2 mo
theorem ActD.fz{dup:Bool}{w w':World}{lab lab':Nat→Nat}{base A0 k:Nat}{names:List (List Int)}{S:Nat→Prop}(h:ActD dup w lab base A0 k names)(hf:dup=false→Fz lab (k+1) S w w')(hS:∀ b,b<w.heap.size→S b→lab b=0)(hl:LabEq w lab lab'):ActD dup w' lab' base A0 k names:=fun e=>by
 obtain ⟨v1,v2,mo,hA⟩:=h e
 exact ⟨v1,v2,mo,hA.fz (hf e) (by omega) hS hl⟩
theorem ActD.gb0{dup:Bool}{w w':World}{lab:Nat→Nat}{base A0 k:Nat}{names:List (List Int)}(h:ActD dup w lab base A0 k names)(hg:w.grownBy w' none):ActD dup w' lab base A0 k names:=
 h.fz (S:=fun _=>False) (fun _=>Fz.of_gb hg (fun b e=>by cases e)) (fun _ _ h=>h.elim) (LabEq.refl _ _)
theorem ActD.gbF{dup:Bool}{w w':World}{lab:Nat→Nat}{base A0 k F:Nat}{names:List (List Int)}(h:ActD dup w lab base A0 k names)(hg:w.grownBy w' (some F))(hF:lab F=0):ActD dup w' lab base A0 k names:=
 h.fz (S:=fun b=>b=F) (fun _=>Fz.of_gb hg (fun _ e _=>(Option.some.inj e).symm)) (fun _ _ h=>by rw [h]; exact hF) (LabEq.refl _ _)
theorem wrapAt{A:List Addr}{w wX:World}{lab labX:Nat→Nat}{base d F B cap k kk:Nat}{s:ByteArray}{vals:Int}{eU eI:Value}{ds dsX:Array Value}{nsvX:Value}{lo:Bool}{pa j m:Nat}{v:Value}(h:OT A base d F B cap k kk s vals eU eI lab ds w wX labX dsX nsvX)(hb:base≤w.heap.size)(hq:quotedO lo ((bytes s).drop pa)=some j)(hn:pa+(j+1)≤s.size)(hs:s.size≤4096)(cp:Nat)(hcp:j+1≤cp)(hm:m≤250000000)(hv:ErrV A w.heap.size wX labX m v):
  Calls Tryz.prog 78 #[v,.slice (some ⟨B,pa,none⟩) (j+1) cp] wX fun e w'=>∃ v',e=.returned v'∧ErrV A w.heap.size w' (labN wX labX 0) (m+50000) v'∧OT A base d F B cap k kk s vals eU eI lab ds w w' (labN wX labX 0) dsX nsvX:=by
 obtain ⟨hl,hby⟩:=name_len hq hn
 have W:=wrap78 (A:=A) w.heap.size m labX v (.slice (some ⟨B,pa,none⟩) (j+1) cp) (decq (((bytes s).drop pa).take (j+1))).1 wX h.fm.fz.size (by omega) (by omega) hv (fun w1 he=>unqAt (h.hds.er he.labN (LabEq.refl _ _) hb) hq hn (by omega) cp hcp w1.heap.size 0 0 none [] (World.ownsRow_nil _ _ _ _) (Nat.le_refl _) (by omega) (fun g hg=>by cases hg))
 exact W.mono fun e w' ⟨v',he,hp,hE⟩=>⟨v',he,ErrV.more (.inr hp) (by omega),h.er hE hb⟩
theorem obj131_T(n:Nat)(hV:∀ n',n'<n→VAllI n')(A:List Addr)(base d F B cap k q depth:Nat)(s:ByteArray)(vals:Int)(aU aI:Addr)(lo:Bool)(lab:Nat→Nat)(ds:Array Value)(nsv:Value)(w:World)(C:Cst A s cap vals aU aI lo true)
  (h:DS A w lab base d F B cap k s vals 0 (.iface 260 (.pointer (some aU))) (.iface 260 (.pointer (some aI))) ds nsv) (hq:q<s.size) (hc:(s[q].toNat:Int)=123) (hdep:depth≤q+1) (hkq:k≤q) (hfu:2 * (s.size-(q+1))+1<n):
  Calls Tryz.prog 131 #[.pointer (some ⟨d,0,none⟩),.pointer (some ⟨F,0,none⟩),.int .i64 q,.int .i64 depth] w (ValQ A base d F B cap k s vals (.iface 260 (.pointer (some aU))) (.iface 260 (.pointer (some aI))) lab ds ((brO (chkD true) lo n 125 (.mems []) ((bytes s).drop (q+1))).1.map (·+1)) q (50000 * (s.size-q)) w):=by
 obtain ⟨r,HRr⟩:∃ r,Hid (r=(brO (chkD true) lo n 125 (.mems []) ((bytes s).drop (q+1))).1.map (·+1)):=⟨_,Hq rfl⟩
 rw [← HRr.out]
 have hs:=C.hs
 have hcap:=C.hcap
 have HC:=Hq C
 have hbase:=h.hb
 obtain ⟨_,_,_,_,c14⟩:=h.db.facts
 obtain ⟨pres,hpres⟩:=h.db.dc.pres
 have c13:w.cell? ⟨d,13,none⟩=some (.int .u64 pres):=by rw [cell_of_row _ _ _ _ _ (0,0) h.db.blk]; exact hpres
 have GT:=Hq (fun w=>get72 pres vals 2 true C.hdup w)
 have H0:=Hq h
 have HQ:=Hq hc
 clear h C hc hpres
 go_enter_defers Tryz.func131,Tryz.ntmps131
 go_wp2_with fail
 refine (GT.out _).mono ?_
 rintro e w1 ⟨rfl,hg1⟩
 have HOT:=Hq ((OT.start0 H0.out).gb0 hg1)
 have HAC:=Hq (show ActD true w1 lab base 0 k [] from fun e=>by cases e)
 obtain ⟨wX,hwX⟩:∃ x,x=w1:=⟨_,rfl⟩
 obtain ⟨A0,hA0⟩:∃ x:Nat,x=0:=⟨_,rfl⟩
 rw [← hA0] at HAC
 subst hwX
 clear hg1 hA0
 have cq:=HOT.out.hds.buf q hq
 rw [HQ.out] at cq
 obtain ⟨p,hp⟩:∃ p,q+1=p:=⟨_,rfl⟩
 have hps:p≤s.size:=by omega
 have x1':(q:Int)+1=(p:Int):=by omega
 obtain ⟨dp,hdp⟩:∃ dp,depth+1=dp:=⟨_,rfl⟩
 have x5:(depth:Int)+1=(dp:Int):=by omega
 have x2':¬ (depth:Int)=10001:=by omega
 have x3':((depth:Int)==10001)=false:=by simp; omega
 have q0:(0:Int)≤(q:Int):=Int.natCast_nonneg _
 have q1:(q:Int)<(s.size:Int):=by omega
 have t1:decide (s.size≤q)=false:=by simp; omega
 have t2:decide ((s.size:Int)≤(q:Int))=false:=by simp; omega
 clear c13 c14
 obtain ⟨_,b07,b010,_,_⟩:=HOT.out.hds.db.facts
 obtain ⟨z0,HZ0⟩:∃ z,Hid (ws ((bytes s).drop p)=z):=⟨_,Hq rfl⟩
 have hr0:=rest_run (W:=wX) (B:=B) (cap:=cap) (q:=p) (n:=s.size) (by omega) hcap
 have W0:=wsC B p cap s wX (by omega) (by omega) hcap HOT.out.hds.buf
 rw [HZ0.out] at W0
 have W0:=Hq W0
 generalize rest B cap p s.size=u0 at hr0 W0
 obtain ⟨p2,hp2⟩:∃ x,p+z0=x:=⟨_,rfl⟩
 have hp2s:p2≤s.size:=by have:=ws_fit (s:=s) (p:=p) (by omega); rw [HZ0.out] at this; omega
 have y0:(p:Int)+(z0:Int)=(p2:Int):=by omega
 have MM0:=Hq (fun b hb=>more62 d ds B cap p2 s vals 0 wX HOT.out.hds.db b hb)
 have WE0:=Hq (wsEnd63 d ds B cap s vals 0 _ wX (by omega) hcap HOT.out.hds.db HOT.out.hds.buf HOT.out.hds.gl.eof aU rfl)
 have p0:(0:Int)≤(p:Int):=Int.natCast_nonneg _
 go_wp2_with fail
 refine W0.out.mono ?_
 rintro e w' ⟨rfl,rfl⟩
 go_wp2_with fail
 by_cases he0:p2=s.size
 ·as_aux_lemma=>
  have M1:=Hq (MM0.out true (by simpa using he0))
  have E:=Hq (show r=none by
   rw [HRr.out]
   unfold brO
   have e0:((bytes s).drop (q+1)).drop (ws ((bytes s).drop (q+1)))=[]:=by rw [hp,HZ0.out,List.drop_drop,hp2]; exact bytes_end (by omega)
   rw [e0,if_neg (by decide)]
   cases n with
   |zero=>rfl
   |succ n=>
    rw [run_mems_no (nameO_q (by rfl))]
    rfl
  )
  clear MM0
  refine M1.out.mono ?_
  rintro e w' ⟨rfl,rfl⟩
  go_wp2_with fail
  refine WE0.out.mono ?_
  rintro e w' ⟨rfl,rfl⟩
  go_wp2_with fail
  (try simp only [Exit.inBlock,Exit.then])
  exact obj_no_T HOT.out (by omega) hbase E.out (by rfl) (by rfl) (by omega) (.inl (.inl ⟨_,HC.out.hU,rfl⟩))
 ·have hlt2:p2<s.size:=by omega
  have M1:=Hq (MM0.out false (by simpa using he0))
  have cp:=HOT.out.hds.buf p2 hlt2
  have HB2:=Hq (head_byte hlt2)
  obtain ⟨c,hcc⟩:∃ c:Int,(s[p2].toNat:Int)=c:=⟨_,rfl⟩
  rw [hcc] at cp HB2
  have p20:(0:Int)≤(p2:Int):=Int.natCast_nonneg _
  have p21:(p2:Int)<(s.size:Int):=by omega
  have HDD:=Hq (show ((bytes s).drop (q+1)).drop (ws ((bytes s).drop (q+1)))=(bytes s).drop p2 by rw [hp,HZ0.out,List.drop_drop,hp2])
  have HWZ:=Hq (show ws ((bytes s).drop p2)=0 by rw [← HDD.out]; exact ws_zero _)
  clear MM0 he0 hcc
  refine M1.out.mono ?_
  rintro e w' ⟨rfl,rfl⟩
  by_cases h125:c=125
  ·as_aux_lemma=>
   subst h125
   have E:=Hq (show r=some (z0+2) by
    rw [HRr.out]
    unfold brO
    rw [HDD.out,HB2.out,if_pos rfl,hp,HZ0.out]
    rfl)
   go_wp2_with fail
   (try simp only [Exit.inBlock,Exit.then])
   exact obj_yes_T HOT.out E.out (show Value.int .i64 ((p2:Int)+1)=.int .i64 ((q+(z0+2):Nat):Int) by congr 1; omega) (by rfl)
  ·have t125:(c==125)=false:=by simpa using h125
   have E0:=Hq (show r=(run (chkD true) lo n (.mems []) ((bytes s).drop (p2+ws ((bytes s).drop p2)))).1.map (·+(p2+ws ((bytes s).drop p2)-q)) by
    rw [HRr.out]
    unfold brO
    rw [HDD.out,HB2.out,if_neg h125,hp,HZ0.out,HWZ.out]
    show Option.map _ (Option.map _ _)=_
    rw [Option.map_map]
    congr 1
    funext x
    simp
    omega)
   clear h125
   go_wp2_with fail
   go_loopg [2,9] n (fun gk v2 v9 wr=>∃ (p f:Nat) (names:List (List Int)) (lab':Nat→Nat) (ds':Array Value) (nsv':Value),v2=.int .i64 p∧v9=.nilIface∧q+1≤p∧p≤s.size∧Hid ((decs names).flatten.length≤3 * p∧names.length≤p)∧Hid (r=(run (chkD true) lo f (.mems names) ((bytes s).drop (p+ws ((bytes s).drop p)))).1.map (·+(p+ws ((bytes s).drop p)-q)))∧f≤n∧2 * (s.size-p)+1<f∧Hid (OT A base d F B cap k k s vals (.iface 260 (.pointer (some aU))) (.iface 260 (.pointer (some aI))) lab ds w wr lab' ds' nsv')∧Hid (ActD true wr lab' base A0 k names)∧Hid (gk=f))
   case atStart=>exact ⟨p2,n,[],lab,ds,nsv,rfl,rfl,by omega,by omega,Hq (by simp [decs]),E0,Nat.le_refl _,by omega,HOT,HAC,Hq rfl⟩
   case round=>
    clear E0 HOT HAC M1 cp HB2 HDD HWZ hlt2 x1' x2' x3' x5 p20 p21 hp2s hp HZ0 W0 hr0 t125 t1 t2 b07 b010 cq WE0 HRr hps y0 p0 hp2
    obtain ⟨p,f,names,labR,dsR,nsR,rfl,rfl,hqp,hps,HNB,HE,hfn,hff,HOT,HAC,HG⟩:=hrel
    obtain ⟨f',rfl⟩:∃ f',f=f'+1:=⟨f-1,by omega⟩
    have V0:=Hq (hV f' (by omega))
    clear hV
    obtain ⟨_,b17,b110,_,_⟩:=HOT.out.hds.db.facts
    obtain ⟨z1,HZ1⟩:∃ z,Hid (ws ((bytes s).drop p)=z):=⟨_,Hq rfl⟩
    have hr1:=rest_run (W:=wr) (B:=B) (cap:=cap) (q:=p) (n:=s.size) (by omega) hcap
    have W1:=wsC B p cap s wr (by omega) (by omega) hcap HOT.out.hds.buf
    rw [HZ1.out] at W1
    have W1:=Hq W1
    generalize rest B cap p s.size=u1 at hr1 W1
    obtain ⟨p3,hp3⟩:∃ x,p+z1=x:=⟨_,rfl⟩
    have hp3s:p3≤s.size:=by have:=ws_fit (s:=s) (p:=p) (by omega); rw [HZ1.out] at this; omega
    have y1:(p:Int)+(z1:Int)=(p3:Int):=by omega
    have MM1:=Hq (fun b hb=>more62 d dsR B cap p3 s vals 0 wr HOT.out.hds.db b hb)
    have WE1:=Hq (wsEnd63 d dsR B cap s vals 0 _ wr (by omega) hcap HOT.out.hds.db HOT.out.hds.buf HOT.out.hds.gl.eof aU rfl)
    have p0:(0:Int)≤(p:Int):=Int.natCast_nonneg _
    go_wp2_with fail
    refine W1.out.mono ?_
    rintro e w' ⟨rfl,rfl⟩
    go_wp2_with fail
    rw [HZ1.out,hp3] at HE
    by_cases he1:p3=s.size
    ·as_aux_lemma=>
     have M1:=Hq (MM1.out true (by simpa using he1))
     have E:=Hq (show r=none by
      rw [HE.out,bytes_end (by omega),run_mems_no (nameO_q (by rfl))]
      rfl
     )
     clear MM1
     refine M1.out.mono ?_
     rintro e w' ⟨rfl,rfl⟩
     go_wp2_with fail
     refine WE1.out.mono ?_
     rintro e w' ⟨rfl,rfl⟩
     go_wp2_with fail
     (try simp only [Exit.inBlock,Exit.then])
     exact obj_no_T HOT.out (by omega) hbase E.out (by rfl) (by rfl) (by omega) (.inl (.inl ⟨_,HC.out.hU,rfl⟩))
    ·have hlt3:p3<s.size:=by omega
     have M1':=Hq (MM1.out false (by simpa using he1))
     clear MM1 he1 W1 hr1
     refine M1'.out.mono ?_
     rintro e w' ⟨rfl,rfl⟩
     have hqc:p3<cap:=by omega
     have p30:(0:Int)≤(p3:Int):=Int.natCast_nonneg _
     obtain ⟨F2,hF2⟩:∃ F2,wr.heap.size=F2:=⟨_,rfl⟩
     have HOA:=Hq (HOT.out.gb0 (World.grownBy_alloc wr (.cells #[.int .u64 0] 112) none))
     have HAA:=Hq (HAC.out.gb0 (World.grownBy_alloc wr (.cells #[.int .u64 0] 112) none))
     have HFL:=Hq (show Fl (wr.alloc (.cells #[.int .u64 0] 112)) F2 0 from ⟨by rw [← hF2]; exact heap_alloc_new wr _,by omega,by omega⟩)
     have HF2:=Hq (show base≤F2 from by rw [← hF2]; exact HOT.out.hds.hb)
     have SI:=Hq (simple93 B p3 (cap-p3) s (wr.alloc (.cells #[.int .u64 0] 112)) (by omega) (by omega) HOA.out.hds.buf HOA.out.hds.gl.esc)
     have SC:=Hq (show Calls Tryz.prog 94 #[.pointer (some ⟨d,0,none⟩),.pointer (some ⟨F2,0,none⟩),.int .i64 p3] (wr.alloc (.cells #[.int .u64 0] 112)) (StrD lo s p3 F2 (.iface 260 (.pointer (some aU))) (.iface 260 (.pointer (some aI))) (wr.alloc (.cells #[.int .u64 0] 112))) from by
      have hA:=HOA.out.hds
      have hb2:=HF2.out
      have hBb:=hA.bB
      have h18:=hA.b18
      have hdb:=hA.bd
      have hU:=hA.bA _ HC.out.hU
      have hI:=hA.bA _ HC.out.hI
      exact cstr94 F2 d dsR B cap p3 aU aI lo 0 s vals 0 _ (by omega) hlt3 hcap hA.db (by omega) ⟨hA.buf,hA.gl,hA.bl,by omega,by omega⟩ HFL.out HC.out.hlo HC.out.ne (hA.eb _ HC.out.hU) (hA.eb _ HC.out.hI) ⟨by omega,by omega⟩)
     subst hF2
     obtain ⟨_,a7,a10,_,_⟩:=HOA.out.hds.db.facts
     go_upto_if 140 with (go_at_call 93; refine SI.out.mono ?_; rintro e w' ⟨nn,rfl,rfl,hnn⟩)
     go_cut [2,9,10,13,14] from 141 to 173 (fun v2 v9 v10 v13 v14 wc=>∃ (j L p4:Nat) (fl2:Int),v2=.int .i64 p4∧v9=.nilIface∧v10=.int .i64 L∧Hid (L=j+1)∧Hid (p3+L=p4)∧p4≤s.size∧Hid (quotedO lo ((bytes s).drop p3)=some j)∧Hid (fl2 % 2=0→VerbL (((bytes s).drop p3).tail.take (j-1)))∧Hid (Fl wc wr.heap.size fl2)∧Hid (OT A base d F B cap k k s vals (.iface 260 (.pointer (some aU))) (.iface 260 (.pointer (some aI))) lab ds w wc labR dsR nsR)∧Hid (ActD true wc labR base A0 k names))
     case first=>
      as_aux_lemma=>
      have HNN:=Hq hnn
      clear hnn SI
      rcases HNN.out with rfl|⟨j,rfl,hj,hvb⟩
      ·go_wp2_with fail
       refine SC.out.mono ?_
       rintro e w3 (⟨j,fl',hj,rfl,hjs,hf,hvb,hg⟩|⟨hj,n',v,fl',rfl,hn',hv,hf,hg⟩)
       ·have hg2:wr.grownBy w3 none:=gb_since (World.grownBy_alloc wr _ none) hg (fun g e=>by rw [← Option.some.inj e]; exact Nat.le_refl _)
        have HO3:=Hq (HOT.out.gb0 hg2)
        have HA3:=Hq (HAC.out.gb0 hg2)
        obtain ⟨fl,hfl⟩:=HO3.out.hds.fl
        have J:=Hq (joinA F fl fl' w3 hfl hf.2)
        obtain ⟨_,e7,e10,_,_⟩:=HO3.out.hds.db.facts
        obtain ⟨eF,_⟩:=hf.facts
        have R:=Hq (And.intro hj (And.intro hvb hf))
        obtain ⟨p4,hp4⟩:∃ p4,p3+(j+1)=p4:=⟨_,rfl⟩
        rw [hp4] at hjs ⊢
        have s1:(p4:Int)-(p3:Int)=((j:Int)+1):=by omega
        clear hj hvb hf hg hg2
        go_wp2_with fail
        refine J.out.mono ?_
        rintro e w4 ⟨rfl,fl4,hf4,hg4⟩
        have HO4:=Hq (HO3.out.gbF hg4 hf4)
        have HA4:=Hq (HA3.out.gbF hg4 (HO3.out.hds.l0 F HO3.out.hds.bF))
        have HF4:=Hq (R.out.2.2.block (hg4.block _ R.out.2.2.lt (fun e=>by have:=HO3.out.hds.bF; have:=HF2.out; have:=Option.some.inj e; omega)))
        clear hf4 hg4
        go_wp2_with fail
        go_meet
        case rel=>exact ⟨j,j+1,p4,fl',by rfl,rfl,by go_num,Hq rfl,Hq hp4,hjs,Hq R.out.1,Hq R.out.2.1,HF4,HO4,HA4⟩
       ·have hg2:wr.grownBy w3 none:=gb_since (World.grownBy_alloc wr _ none) hg (fun g e=>by rw [← Option.some.inj e]; exact Nat.le_refl _)
        have HO3:=Hq (HOT.out.gb0 hg2)
        obtain ⟨fl,hfl⟩:=HO3.out.hds.fl
        have J:=Hq (joinA F fl fl' w3 hfl hf.2)
        obtain ⟨_,e7,e10,_,_⟩:=HO3.out.hds.db.facts
        obtain ⟨eF,_⟩:=hf.facts
        have R:=Hq (And.intro hj (And.intro hv hn'))
        have hwr:IntKind.i64.wrap ((n':Int)-(p3:Int))=(n':Int)-(p3:Int):=by rw [IntKind.wrap_i64]; omega
        have E:=Hq (show r=none by rw [HE.out,run_mems_no (nameO_q hj)]; rfl)
        have hvf:∃ u x,v=.iface u (.pointer (some x)):=by
         rcases hv with h1|h1|⟨b,h1⟩
         ·exact ⟨_,_,h1⟩
         ·exact ⟨_,_,h1⟩
         ·exact ⟨_,_,h1⟩
        obtain ⟨uu,xx,hvf⟩:=hvf
        subst hvf
        clear hj hv hf hg hg2
        go_wp2_with fail
        refine J.out.mono ?_
        rintro e w4 ⟨rfl,fl4,hf4,hg4⟩
        have HO4:=Hq (HO3.out.gbF hg4 hf4)
        clear hf4 hg4
        go_wp2_with fail
        have HBV:=Hq (show Bare A (.iface uu (.pointer (some xx))) by
         rcases R.out.2.1 with h1|h1|⟨b,h1⟩
         ·exact .inl ⟨_,HC.out.hU,h1⟩
         ·exact .inl ⟨_,HC.out.hI,h1⟩
         ·exact .inr ⟨b,h1⟩)
        (try simp only [Exit.inBlock,Exit.then])
        exact obj_no_T HO4.out (by omega) hbase E.out (by rfl) (by rfl) R.out.2.2 (.inl HBV.out)
      ·have R:=Hq (And.intro (hj lo) hvb)
       have hjl:=quotedO_fit (hj lo)
       rw [List.length_drop,bytes_len] at hjl
       obtain ⟨p4,hp4⟩:∃ p4,p3+(j+1)=p4:=⟨_,rfl⟩
       have s1:(p3:Int)+((j:Int)+1)=(p4:Int):=by omega
       have jz:((((j+1:Nat):Int))==0)=false:=by simp; omega
       clear hj hvb
       go_wp2_with fail
       go_meet
       case rel=>exact ⟨j,j+1,p4,0,by rfl,rfl,by go_num,Hq rfl,Hq hp4,by omega,Hq R.out.1,Hq (fun _=>R.out.2),HFL,HOA,HAA⟩
     case rest=>
      obtain ⟨j,L,p4,fl2,rfl,rfl,rfl,hLj,hp4,hp4s,HJ,HVB,HFF,HO4,HA4⟩:=hcut
      clear HOA HAA HFL SC hnn HOT HAC
      have s2:(p4:Int)-(L:Int)=(p3:Int):=by have:=hp4.out; omega
      have s3:p4-p3=L:=by have:=hp4.out; omega
      have p340:(p3:Int)≤(p4:Int):=by have:=hp4.out; omega
      have p4c:(p4:Int)≤(cap:Int):=by omega
      have p34n:p3≤p4:=by have:=hp4.out; omega
      have p4cn:p4≤cap:=by omega
      have p400:(0:Int)≤(p4:Int):=Int.natCast_nonneg _
      obtain ⟨_,d7,d10,_,d14⟩:=HO4.out.hds.db.facts
      obtain ⟨pres4,hpres4⟩:=HO4.out.hds.db.dc.pres
      have d13:wc.cell? ⟨d,13,none⟩=some (.int .u64 pres4):=by rw [cell_of_row _ _ _ _ _ (0,0) HO4.out.hds.db.blk]; exact hpres4
      have GT:=Hq (fun w=>get72 pres4 vals 2 true HC.out.hdup w)
      have HWR:=Hq (fun (m:Nat) (v:Value) (hm:m≤250000000) (wX:World) (labX:Nat→Nat) (dsX:Array Value) (nsvX:Value) (hO:OT A base d F B cap k k s vals (.iface 260 (.pointer (some aU))) (.iface 260 (.pointer (some aI))) lab ds w wX labX dsX nsvX) (hv:ErrV A w.heap.size wX labX m v)=>(show Calls Tryz.prog 78 #[v,.slice (some ⟨B,p3,none⟩) L (cap-p3)] wX fun e w'=>∃ v',e=.returned v'∧ErrV A w.heap.size w' (labN wX labX 0) (m+50000) v'∧OT A base d F B cap k k s vals (.iface 260 (.pointer (some aU))) (.iface 260 (.pointer (some aI))) lab ds w w' (labN wX labX 0) dsX nsvX from by
       have e:=hLj.out
       have e2:=hp4.out
       subst e
       exact wrapAt hO hbase HJ.out (by omega) hs (cap-p3) (by omega) hm hv))
      clear hpres4
      go_wp2_with fail
      refine (GT.out _).mono ?_
      rintro e w5 ⟨rfl,hg5⟩
      have HO5:=Hq (HO4.out.gb0 hg5)
      have HA5:=Hq (HA4.out.gb0 hg5)
      have HF5:=Hq (HFF.out.block (hg5.block _ HFF.out.lt (by simp)))
      clear hg5 HO4 HA4 HFF d7 d10 d13 d14 GT
      have HCH:=Hq (show (chkD true (names++[((bytes s).drop p3).take (j+1)])).1=false from rfl)
      have HO6:=HO5
      have HA6:=Hq (show ActD true w5 labR base A0 k (names++[((bytes s).drop p3).take (j+1)]) from fun e=>by cases e)
      obtain ⟨w6,hw6⟩:∃ x,x=w5:=⟨_,rfl⟩
      obtain ⟨lab6,hl6⟩:∃ x,x=labR:=⟨_,rfl⟩
      rw [← hl6] at HO6 HA6
      subst hw6
      clear HO5 HA5
      have HNB2:=Hq (show (decs (names++[((bytes s).drop p3).take (j+1)])).flatten.length≤3 * p4∧(names++[((bytes s).drop p3).take (j+1)]).length≤p4 by
       have e1:=hLj.out
       have e2:=hp4.out
       have h1:=(name_len HJ.out (by omega)).1
       have h2:=HNB.out
       refine ⟨?_,?_⟩
       ·rw [decs_snoc,List.flatten_append,List.length_append,List.flatten_singleton]
        omega
       ·rw [List.length_append,List.length_singleton]
        omega)
      have HJD:=Hq (show ((bytes s).drop p3).drop (j+1)=(bytes s).drop p4 by rw [List.drop_drop]; congr 1; have:=hLj.out; have:=hp4.out; omega)
      have HLP:=Hq (show p3+(j+1)=p4 by have:=hLj.out; have:=hp4.out; omega)
      clear HNB
      obtain ⟨_,b27,b210,_,_⟩:=HO6.out.hds.db.facts
      obtain ⟨z2,HZ2⟩:∃ z,Hid (ws ((bytes s).drop p4)=z):=⟨_,Hq rfl⟩
      have hr2:=rest_run (W:=w6) (B:=B) (cap:=cap) (q:=p4) (n:=s.size) (by omega) hcap
      have W2:=wsC B p4 cap s w6 (by omega) (by omega) hcap HO6.out.hds.buf
      rw [HZ2.out] at W2
      have W2:=Hq W2
      generalize rest B cap p4 s.size=u2 at hr2 W2
      obtain ⟨p5,hp5⟩:∃ x,p4+z2=x:=⟨_,rfl⟩
      have hp5s:p5≤s.size:=by have:=ws_fit (s:=s) (p:=p4) (by omega); rw [HZ2.out] at this; omega
      have y2:(p4:Int)+(z2:Int)=(p5:Int):=by omega
      have MM2:=Hq (fun b hb=>more62 d dsR B cap p5 s vals 0 w6 HO6.out.hds.db b hb)
      have WE2:=Hq (wsEnd63 d dsR B cap s vals 0 _ w6 (by omega) hcap HO6.out.hds.db HO6.out.hds.buf HO6.out.hds.gl.eof aU rfl)
      have p40:(0:Int)≤(p4:Int):=Int.natCast_nonneg _
      go_wp2_with fail
      refine W2.out.mono ?_
      rintro e w' ⟨rfl,rfl⟩
      go_wp2_with fail
      have HDH:=Hq (show (((((bytes s).drop p3).drop (j+1)).drop (ws (((bytes s).drop p3).drop (j+1)))).headD 0)=((bytes s).drop p5).headD 0 by rw [HJD.out,HZ2.out,List.drop_drop,hp5])
      by_cases he2:p5=s.size
      ·as_aux_lemma=>
       have M1:=Hq (MM2.out true (by simpa using he2))
       have E:=Hq (show r=none by
        obtain ⟨b,hb⟩:=nameO_c (chk:=chkD true) (names:=names) HJ.out HCH.out (by rw [HDH.out,head_end (by omega)]; decide)
        rw [HE.out,run_mems_no hb]
        rfl
       )
       clear MM2
       have WR:=Hq (HWR.out 0 (.iface 260 (.pointer (some aU))) (by omega) w6 lab6 dsR nsR HO6.out (.inl (.inl ⟨_,HC.out.hU,rfl⟩)))
       refine M1.out.mono ?_
       rintro e w' ⟨rfl,rfl⟩
       go_wp2_with fail
       refine WE2.out.mono ?_
       rintro e w' ⟨rfl,rfl⟩
       go_wp2_with fail
       refine WR.out.mono ?_
       rintro e w9 ⟨v9,rfl,herr,hot⟩
       have R9:=Hq (And.intro herr hot)
       clear herr hot
       go_wp2_with fail
       (try simp only [Exit.inBlock,Exit.then])
       exact obj_no_T R9.out.2 (by omega) hbase E.out (by rfl) (by rfl) (Nat.le_refl _) (R9.out.1.more (by omega))
      ·have hlt5:p5<s.size:=by omega
       have M1:=Hq (MM2.out false (by simpa using he2))
       have cp:=HO6.out.hds.buf p5 hlt5
       have HB5:=head_byte hlt5
       obtain ⟨c,hcc⟩:∃ c:Int,(s[p5].toNat:Int)=c:=⟨_,rfl⟩
       rw [hcc] at cp HB5
       rw [HB5] at HDH
       have p50:(0:Int)≤(p5:Int):=Int.natCast_nonneg _
       have p51:(p5:Int)<(s.size:Int):=by omega
       have hqc5:p5<cap:=by omega
       clear MM2 he2 hcc HB5 WE2 W2 hr2
       refine M1.out.mono ?_
       rintro e w' ⟨rfl,rfl⟩
       by_cases h58:c=58
       rotate_left
       ·as_aux_lemma=>
        have t58:(c != 58)=true:=by simpa using h58
        have E:=Hq (show r=none by
         obtain ⟨b,hb⟩:=nameO_c (chk:=chkD true) (names:=names) HJ.out HCH.out (by rw [HDH.out]; exact h58)
         rw [HE.out,run_mems_no hb]
         rfl)
        have CE:=Hq (fun wh=>charErr107 B p5 (cap-p5) s wh w6 HO6.out.hds.gl.tabs hlt5 (by omega) HO6.out.hds.buf)
        clear h58
        go_wp2_with fail
        refine (CE.out _).mono ?_
        rintro e w7 ⟨b,rfl,hg⟩
        have HO7:=Hq (HO6.out.gb0 hg)
        have WR:=Hq (HWR.out 0 (.iface 175 (.pointer (some ⟨b,0,none⟩))) (by omega) w7 lab6 dsR nsR HO7.out (.inl (.inr ⟨b,rfl⟩)))
        clear hg
        go_wp2_with fail
        refine WR.out.mono ?_
        rintro e w9 ⟨v9,rfl,herr,hot⟩
        have R9:=Hq (And.intro herr hot)
        clear herr hot
        go_wp2_with fail
        (try simp only [Exit.inBlock,Exit.then])
        exact obj_no_T R9.out.2 (by omega) hbase E.out (by rfl) (by rfl) (show p5≤s.size by omega) (R9.out.1.more (by omega))
       ·subst h58
        have NY:=Hq (show ∃ b,nameO (chkD true) lo names ((bytes s).drop p3)=(some (j+1+z2+1),b) by
         obtain ⟨b,hb⟩:=nameO_y (chk:=chkD true) (names:=names) HJ.out HCH.out HDH.out
         rw [HJD.out,HZ2.out] at hb
         exact ⟨b,hb⟩)
        obtain ⟨p6,hp6⟩:∃ p6,p5+1=p6:=⟨_,rfl⟩
        have y6:(p5:Int)+1=(p6:Int):=by omega
        have HJ6:=Hq (show ((bytes s).drop p3).drop (j+1+z2+1)=(bytes s).drop p6 by rw [List.drop_drop]; congr 1; have:=HLP.out; omega)
        clear HCH HDH HJD M1 b27 b210
        obtain ⟨_,b37,b310,_,_⟩:=HO6.out.hds.db.facts
        obtain ⟨z3,HZ3⟩:∃ z,Hid (ws ((bytes s).drop p6)=z):=⟨_,Hq rfl⟩
        have hr3:=rest_run (W:=w6) (B:=B) (cap:=cap) (q:=p6) (n:=s.size) (by omega) hcap
        have W3:=wsC B p6 cap s w6 (by omega) (by omega) hcap HO6.out.hds.buf
        rw [HZ3.out] at W3
        have W3:=Hq W3
        generalize rest B cap p6 s.size=u3 at hr3 W3
        obtain ⟨p7,hp7⟩:∃ x,p6+z3=x:=⟨_,rfl⟩
        have hp7s:p7≤s.size:=by have:=ws_fit (s:=s) (p:=p6) (by omega); rw [HZ3.out] at this; omega
        have y3:(p6:Int)+(z3:Int)=(p7:Int):=by omega
        have MM3:=Hq (fun b hb=>more62 d dsR B cap p7 s vals 0 w6 HO6.out.hds.db b hb)
        have WE3:=Hq (wsEnd63 d dsR B cap s vals 0 _ w6 (by omega) hcap HO6.out.hds.db HO6.out.hds.buf HO6.out.hds.gl.eof aU rfl)
        have p60:(0:Int)≤(p6:Int):=Int.natCast_nonneg _
        go_wp2_with fail
        refine W3.out.mono ?_
        rintro e w' ⟨rfl,rfl⟩
        go_wp2_with fail
        have HDP:=Hq (show (run (chkD true) lo f' .val ((bytes s).drop p6)).1=(run (chkD true) lo f' .val ((bytes s).drop p7)).1.map (·+z3) by rw [run_drop,HZ3.out,List.drop_drop,hp7])
        have HVN:=Hq (fun (hv:(run (chkD true) lo f' .val ((bytes s).drop p7)).1=none)=>(show r=none by
         obtain ⟨b,hb⟩:=NY.out
         cases hv2:run (chkD true) lo f' .val ((bytes s).drop p6) with
         |mk x y=>
         have h2:=HDP.out
         rw [hv2,hv] at h2
         rw [HE.out,run_mems_val hb (show run (chkD true) lo f' .val (((bytes s).drop p3).drop (j+1+z2+1))=(none,y) by rw [HJ6.out,hv2]; exact congrArg (·,y) h2)]
         rfl))
        by_cases he3:p7=s.size
        ·as_aux_lemma=>
         have M1:=Hq (MM3.out true (by simpa using he3))
         have E:=Hq (HVN.out (by rw [bytes_end (by omega)]; exact run_nil _))
         clear MM3
         have WR:=Hq (HWR.out 0 (.iface 260 (.pointer (some aU))) (by omega) w6 lab6 dsR nsR HO6.out (.inl (.inl ⟨_,HC.out.hU,rfl⟩)))
         refine M1.out.mono ?_
         rintro e w' ⟨rfl,rfl⟩
         go_wp2_with fail
         refine WE3.out.mono ?_
         rintro e w' ⟨rfl,rfl⟩
         go_wp2_with fail
         refine WR.out.mono ?_
         rintro e w9 ⟨v9,rfl,herr,hot⟩
         have R9:=Hq (And.intro herr hot)
         clear herr hot
         go_wp2_with fail
         (try simp only [Exit.inBlock,Exit.then])
         exact obj_no_T R9.out.2 (by omega) hbase E.out (by rfl) (by rfl) (Nat.le_refl _) (R9.out.1.more (by omega))
        ·have hlt7:p7<s.size:=by omega
         have M1:=Hq (MM3.out false (by simpa using he3))
         have V:=V0.out A base d F B cap k p7 dp s vals aU aI lo true lab6 dsR nsR w6 HC.out HO6.out.hds hlt7 (by rw [← hp7,← List.drop_drop,← HZ3.out]; exact ws_zero _) (by omega) (by omega) (by omega)
         clear MM3 he3 V0 W3 hr3
         refine M1.out.mono ?_
         rintro e w' ⟨rfl,rfl⟩
         cases hv:run (chkD true) lo f' .val ((bytes s).drop p7) with
         |mk ro oo=>
         rw [hv] at V
         cases ro with
         |none=>
          as_aux_lemma=>
          have V:=Hq (val_left V rfl)
          have E:=Hq (HVN.out (by rw [hv]))
          clear hv M1 WE3
          go_wp2_with fail
          refine V.out.mono ?_
          rintro e w8 ⟨n8,v8,rfl,hn8,⟨uu,xx,hvf⟩,lab8,ds8,nsv8,hfm,hds,hb4,herr⟩
          have hO8:=HO6.out.val (by omega) hfm hds hb4
          have WR:=Hq (HWR.out (50000 * (s.size-p7)) v8 (by omega) w8 lab8 ds8 nsv8 hO8 (herr.low HO6.out.fm.fz.size))
          clear hfm hds hb4 herr V hO8
          subst hvf
          go_wp2_with fail
          refine WR.out.mono ?_
          rintro e w9 ⟨v9,rfl,herr,hot⟩
          have R9:=Hq (And.intro herr hot)
          clear herr hot
          go_wp2_with fail
          (try simp only [Exit.inBlock,Exit.then])
          exact obj_no_T R9.out.2 (by omega) hbase E.out (by rfl) (by rfl) hn8 (R9.out.1.more (by omega))
         |some j2=>
          have V:=Hq (val_took V rfl)
          obtain ⟨p8,hp8⟩:∃ p8,p7+j2=p8:=⟨_,rfl⟩
          have hj1:=run_take hv
          have hjl:p8≤s.size:=by have:=hj1.2; rw [List.length_drop,bytes_len] at this; omega
          have hj1:=hj1.1
          have HVP:=Hq (show ∃ b,run (chkD true) lo f' .val (((bytes s).drop p3).drop (j+1+z2+1))=(some (j2+z3),b) by
           cases hv2:run (chkD true) lo f' .val ((bytes s).drop p6) with
           |mk x y=>
           have h2:=HDP.out
           rw [hv2,hv] at h2
           rw [HJ6.out,hv2]
           exact ⟨y,congrArg (·,y) h2⟩)
          have HPJ:=Hq (show ((bytes s).drop p3).drop (j+1+z2+1+(j2+z3))=(bytes s).drop p8 by rw [List.drop_drop]; congr 1; have:=HLP.out; omega)
          clear hv M1 WE3 HVN HDP
          go_wp2_with fail
          refine V.out.mono ?_
          rintro e w8 ⟨rfl,lab8,ds8,nsv8,hfm,hds,hb4⟩
          rw [hp8]
          have HO8:=Hq (HO6.out.val (by omega) hfm hds hb4)
          have HA8:=Hq (HA6.out.fz (w':=w8) (S:=DF d F) (fun e=>by cases e) HO6.out.hds.labz hfm.le)
          clear hfm hds hb4 V HO6 HA6
          obtain ⟨_,b47,b410,_,_⟩:=HO8.out.hds.db.facts
          obtain ⟨z4,HZ4⟩:∃ z,Hid (ws ((bytes s).drop p8)=z):=⟨_,Hq rfl⟩
          have hr4:=rest_run (W:=w8) (B:=B) (cap:=cap) (q:=p8) (n:=s.size) (by omega) hcap
          have W4:=wsC B p8 cap s w8 (by omega) (by omega) hcap HO8.out.hds.buf
          rw [HZ4.out] at W4
          have W4:=Hq W4
          generalize rest B cap p8 s.size=u4 at hr4 W4
          obtain ⟨p9,hp9⟩:∃ x,p8+z4=x:=⟨_,rfl⟩
          have hp9s:p9≤s.size:=by have:=ws_fit (s:=s) (p:=p8) (by omega); rw [HZ4.out] at this; omega
          have y4:(p8:Int)+(z4:Int)=(p9:Int):=by omega
          have MM4:=Hq (fun b hb=>more62 d ds8 B cap p9 s vals 0 w8 HO8.out.hds.db b hb)
          have WE4:=Hq (wsEnd63 d ds8 B cap s vals 0 _ w8 (by omega) hcap HO8.out.hds.db HO8.out.hds.buf HO8.out.hds.gl.eof aU rfl)
          have p80:(0:Int)≤(p8:Int):=Int.natCast_nonneg _
          go_wp2_with fail
          refine W4.out.mono ?_
          rintro e w' ⟨rfl,rfl⟩
          go_wp2_with fail
          have HDQ:=Hq (show ((((bytes s).drop p3).drop (j+1+z2+1+(j2+z3))).drop (ws (((bytes s).drop p3).drop (j+1+z2+1+(j2+z3))))).headD 0=((bytes s).drop p9).headD 0 by rw [HPJ.out,HZ4.out,List.drop_drop,hp9])
          by_cases he4:p9=s.size
          ·as_aux_lemma=>
           have M1:=Hq (MM4.out true (by simpa using he4))
           have E:=Hq (show r=none by
            obtain ⟨b,hb⟩:=NY.out
            obtain ⟨b2,hb2⟩:=HVP.out
            rw [HE.out,run_mems_else hb hb2 (by rw [HDQ.out,head_end (by omega)]; decide) (by rw [HDQ.out,head_end (by omega)]; decide)]
            rfl
           )
           clear MM4
           refine M1.out.mono ?_
           rintro e w' ⟨rfl,rfl⟩
           go_wp2_with fail
           refine WE4.out.mono ?_
           rintro e w' ⟨rfl,rfl⟩
           go_wp2_with fail
           (try simp only [Exit.inBlock,Exit.then])
           exact obj_no_T HO8.out (by omega) hbase E.out (by rfl) (by rfl) (by omega) (.inl (.inl ⟨_,HC.out.hU,rfl⟩))
          ·have hlt9:p9<s.size:=by omega
           have M1:=Hq (MM4.out false (by simpa using he4))
           have cp9:=HO8.out.hds.buf p9 hlt9
           have HB9:=head_byte hlt9
           obtain ⟨c9,hcc⟩:∃ c:Int,(s[p9].toNat:Int)=c:=⟨_,rfl⟩
           rw [hcc] at cp9 HB9
           rw [HB9] at HDQ
           have p90:(0:Int)≤(p9:Int):=Int.natCast_nonneg _
           have p91:(p9:Int)<(s.size:Int):=by omega
           have CE:=fun wh=>charErr107 B p9 (cap-p9) s wh w8 HO8.out.hds.gl.tabs hlt9 (by omega) HO8.out.hds.buf
           have CE:=Hq CE
           have hqc9:p9<cap:=by omega
           clear MM4 he4 hcc HB9 WE4 W4 hr4
           refine M1.out.mono ?_
           rintro e w' ⟨rfl,rfl⟩
           by_cases h44:c9=44
           ·as_aux_lemma=>
            subst h44
            have E:=Hq (show r=(run (chkD true) lo f' (.mems (names++[((bytes s).drop p3).take (j+1)])) ((bytes s).drop (p9+1+ws ((bytes s).drop (p9+1))))).1.map (·+(p9+1+ws ((bytes s).drop (p9+1))-q)) by
             obtain ⟨b,hb⟩:=NY.out
             obtain ⟨b2,hb2⟩:=HVP.out
             rw [HE.out,run_mems_more hb hb2 HDQ.out,namesO_y HJ.out,HPJ.out,HZ4.out,List.drop_drop,List.drop_drop,show p3+(j+1+z2+1+(j2+z3)+z4+1)=p9+1 by have:=HLP.out; omega]
             show Option.map _ (Option.map _ _)=_
             rw [Option.map_map]
             congr 1
             funext x
             have:=HLP.out
             simp
             omega)
            clear CE HDQ
            go_wp2_with fail
            go_roundg f'
            case measure=>have:=HG.out; omega
            case rel=>exact ⟨p9+1,f',_,lab8,ds8,nsv8,by go_num,rfl,by omega,by omega,Hq (by have:=HNB2.out; have:=HLP.out; omega),E,by omega,by omega,HO8,HA8,Hq rfl⟩
           ·have t44:(c9==44)=false:=by simpa using h44
            by_cases h125:c9=125
            ·as_aux_lemma=>
             subst h125
             have E:=Hq (show r=some (p9+1-q) by
              obtain ⟨b,hb⟩:=NY.out
              obtain ⟨b2,hb2⟩:=HVP.out
              rw [HE.out,run_mems_end hb hb2 HDQ.out,HPJ.out,HZ4.out]
              show some (j+1+z2+1+(j2+z3)+z4+1+(p3-q))=_
              have:=HLP.out
              congr 1
              omega)
             clear CE HDQ
             go_wp2_with fail
             (try simp only [Exit.inBlock,Exit.then])
             exact obj_yes_T HO8.out E.out (show Value.int .i64 ((p9:Int)+1)=.int .i64 ((q+(p9+1-q):Nat):Int) by congr 1; omega) (by rfl)
            ·as_aux_lemma=>
             have t125:(c9==125)=false:=by simpa using h125
             have E:=Hq (show r=none by
              obtain ⟨b,hb⟩:=NY.out
              obtain ⟨b2,hb2⟩:=HVP.out
              rw [HE.out,run_mems_else hb hb2 (by rw [HDQ.out]; exact h125) (by rw [HDQ.out]; exact h44)]
              rfl)
             clear HDQ h125 h44
             go_wp2_with fail
             refine (CE.out _).mono ?_
             rintro e w9 ⟨b,rfl,hg⟩
             have R:=Hq (HO8.out.gb0 hg)
             clear hg
             go_wp2_with fail
             (try simp only [Exit.inBlock,Exit.then])
             exact obj_no_T R.out (by omega) hbase E.out (by rfl) (by rfl) (show p9≤s.size by omega) (.inl (.inr ⟨b,rfl⟩))
end Go.Proofs.YtknaalohaagcdaaGreatDoor.Own
