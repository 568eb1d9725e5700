import Derived.Test.YtknaalohaagcdaaGreatDoorG01
import Derived.Test.YtknaalohaagcdaaGreatDoorG39
set_option maxHeartbeats 400000000
set_option maxRecDepth 100000
namespace Go.Proofs.YtknaalohaagcdaaGreatDoor.Own
open Go.RowKit JG
theorem slice3{W:World}{ao:Option Addr}{n cap a b:Nat}(hab:a≤b)(hb:b≤cap):∃ ao' n' c',(Instr.slice 47 (.slice ao n cap) (some (.int .i64 (a:Int))) (some (.int .i64 (b:Int))) (some (.int .i64 (b:Int)))).run Tryz.prog W=.ok (.slice ao' n' c') W:=by
 rw [run_slice_lhm (P:=Tryz.prog) W 47 _ n cap (by kernel_rfl) .i64 .i64 .i64 (a:Int) (b:Int) (b:Int) (by omega) (by omega) (by omega) (by omega)]
 have e:(sizeOf (Tryz.prog.elem 47)).run Tryz.prog W=.ok 1 W:=by kernel_rfl
 rw [e]
 simp only [Result.andThen_ok,Int.toNat_natCast]
 unfold sliced
 split<;>exact ⟨_,_,_,rfl⟩
theorem kind_of{chk:List (List Int)→Bool × Bool}{lo:Bool}{n j:Nat}{xs:List Int}{c:Int}(h:(run chk lo n .val xs).1=some j)(hw:ws xs=0)(hc:xs.headD 0=c):normK c=c∧(c=110∨c=116∨c=102∨c=34∨c=123∨c=91)∨normK c=48:=by
 cases n with
 |zero=>cases h
 |succ n=>
  by_cases h1:c=123
  ·left; subst h1; exact ⟨rfl,by simp⟩
  ·by_cases h2:c=91
   ·left; subst h2; exact ⟨rfl,by simp⟩
   ·rw [run_scalar (by rw [hw,List.drop_zero,hc]; exact h1) (by rw [hw,List.drop_zero,hc]; exact h2),hw] at h
    have h':scalarO lo xs=some j:=by simpa using h
    unfold scalarO at h'
    rw [hc] at h'
    by_cases a1:c=110
    ·left; subst a1; exact ⟨rfl,by simp⟩
    by_cases a2:c=116
    ·left; subst a2; exact ⟨rfl,by simp⟩
    by_cases a3:c=102
    ·left; subst a3; exact ⟨rfl,by simp⟩
    by_cases a4:c=34
    ·left; subst a4; exact ⟨rfl,by simp⟩
    rw [if_neg a1,if_neg a2,if_neg a3,if_neg a4] at h'
    by_cases a5:c=45∨(48≤c∧c≤57)
    ·right
     unfold normK
     rw [if_neg (by omega),if_pos a5]
    ·rw [if_neg a5] at h'
     cases h'
section
variable {A:List Addr} {b0 base d B cap F:Nat} {s:ByteArray} {vals l:Int} {aU aI aE aM:Addr} {p:Nat} {ds ds':Array Value} {ao:Option Addr} {c:Nat} {nsv nsv':Value} {lab lab':Nat→Nat} {w0 w w':World}
theorem RQ.ofDS(h:RQ A b0 base d B cap s vals 0 aU aI aE aM p ds none 0 nsv lab w0 w)(hl:∀ b,b<base→lab b=0)(hF:b0≤F)(hD:DS A w' lab' base d F B cap 0 s vals 0 (.iface 260 (.pointer (some aU))) (.iface 260 (.pointer (some aI))) ds' nsv')(hb4:But4 ds ds')(hf:Fm lab lab' 0 d F w w'):
  RQ A b0 base d B cap s vals 0 aU aI aE aM p ds' none 0 nsv' lab' w0 w':=by
 have b18:=hD.b18
 have d18:=hD.d18
 have f18:=hD.f18
 have lo:∀ i,i<18→w'.heap[i]? = w.heap[i]? := fun i hi=>hf.fz.keep i (by have:=h.hb; omega) (fun e=>by rcases e with e|e<;>omega) (.inl (hl i (by omega)))
 have ht:Top ds' none 0 0 nsv':=⟨(hb4 0 (by decide)).trans h.rt.top.stk,(hb4 1 (by decide)).trans h.rt.top.lst,(hb4 2 (by decide)).trans h.rt.top.offs,(hb4 3 (by decide)).trans h.rt.top.unq,hD.c4⟩
 obtain ⟨x8,h8⟩:=h.c8
 refine ⟨⟨hD.db,ht,hD.buf,hD.gl,hD.eb,hD.g2.nk,(World.cell?_of_block (w:=w) (a:=⟨0,0,none⟩) (lo 0 (by omega))).trans h.rt.cE,(World.cell?_of_block (w:=w) (a:=⟨5,0,none⟩) (lo 5 (by omega))).trans h.rt.cM,hD.bl,d18,hD.Bd,h.rt.Ad,.inl rfl⟩,
  (hb4 5 (by decide)).trans h.c5,⟨x8,(hb4 8 (by decide)).trans h8⟩,(hb4 9 (by decide)).trans h.c9,⟨rfl,.inl ⟨rfl,rfl⟩⟩,hD.ns,hD.l0 d hD.bd,hD.bd,hD.hb,h.b0b,h.b0d,h.kp.trans (Kp.fm hf hl h.hb h.b0b h.b0d hF),(fun g hg=>by cases hg),h.bB,h.bA,h.b18,hD.l0⟩
theorem RQ.ofLo{o:Option Nat}{ao':Option Addr}{c':Nat}{l':Int}(h:RQ A b0 base d B cap s vals l aU aI aE aM p ds ao c nsv lab w0 w)(hb:w'.heap[d]? = some (.cells ds' 109 (0,0)))(hst:ds'[0]? = some (.slice ao' 0 c'))(hls:ds'[1]? = some (.int .u64 l'))(hl':l'=0∨l'=1)(h01:But01 ds ds')(hLo:Lo d o w w')
  (ho:∀ g,o=some g→base≤g∧g<w.heap.size∧lab g=0) (hown:w'.ownsRow base 83 1 (.slice ao' 0 c') 0 []) (hol:∀ g,(Value.slice ao' 0 c').ownBlock=some g→labN w lab 0 g=0) (hz:ds'.size=24):
  RQ A b0 base d B cap s vals l' aU aI aE aM p ds' ao' c' nsv (labN w lab 0) w0 w':=by
 have hdw:d<w.heap.size:=h.rt.db.lt
 have keep:∀ b,b<w.heap.size→b<base→b≠d→w'.heap[b]? = w.heap[b]? := fun b h1 h2 h3=>hLo.keep b h1 h3 (fun e=>by have:=(ho b e.symm).1; omega)
 have hdb:DB w' d ds' B cap s vals l':=⟨hb,⟨hz,hls,(h01 7 (by decide) (by decide)).trans h.rt.db.dc.buf,(h01 10 (by decide) (by decide)).trans h.rt.db.dc.base,(h01 11 (by decide) (by decide)).trans h.rt.db.dc.rd,(h01 14 (by decide) (by decide)).trans h.rt.db.dc.vals,by obtain ⟨x,hx⟩:=h.rt.db.dc.pres; exact ⟨x,(h01 13 (by decide) (by decide)).trans hx⟩⟩⟩
 have ht:Top ds' ao' c' l' nsv:=⟨hst,hls,(h01 2 (by decide) (by decide)).trans h.rt.top.offs,(h01 3 (by decide) (by decide)).trans h.rt.top.unq,(h01 4 (by decide) (by decide)).trans h.rt.top.nss⟩
 obtain ⟨x8,h8⟩:=h.c8
 have her:Er 0 lab w w':=⟨hLo.os,hLo.tape,hLo.output,hLo.size,fun b hlt hx=>hLo.keep b hlt (fun e=>by rcases hx with h1|h1; omega; exact h1 (by rw [e]; exact h.ld)) (fun e=>by rcases hx with h1|h1; omega; exact h1 (ho b e.symm).2.2)⟩
 refine ⟨h.rt.kept hLo.size (fun b h1 h2 h3 => ?_) hdb ht hl',(h01 5 (by decide) (by decide)).trans h.c5,⟨x8,(h01 8 (by decide) (by decide)).trans h8⟩,(h01 9 (by decide) (by decide)).trans h.c9,hown,h.ns.er her (labN_eq _ _ _),by rw [labN_old hdw]; exact h.ld,h.db,Nat.le_trans h.hb hLo.size,h.b0b,h.b0d,h.kp.trans ⟨hLo.os,hLo.tape,hLo.output,hLo.size,fun b hb' => ?_⟩,hol,h.bB,h.bA,h.b18,fun b hb=>by rw [labN_old (Nat.lt_of_lt_of_le hb h.hb)]; exact h.l0 b hb⟩
 ·have h18:=h.b18
  have hB:=h.bB
  refine keep b h1 ?_ h2
  rcases h3 with h4|h4|⟨a,ha,h4⟩
  ·omega
  ·omega
  ·rw [h4]; exact h.bA a ha
 ·have:=h.b0b
  have:=h.b0d
  have:=h.hb
  exact keep b (by omega) (by omega) (by omega)
theorem RQ.pos(h:RQ A b0 base d B cap s vals l aU aI aE aM p ds ao c nsv lab w0 w)(p':Nat)(x:Int):
  RQ A b0 base d B cap s vals l aU aI aE aM p' ((ds.setIfInBounds 9 (.int .i64 p')).setIfInBounds 8 (.int .i64 x)) ao c nsv lab w0 ((w.setCell ⟨d,9,none⟩ (.int .i64 p')).setCell ⟨d,8,none⟩ (.int .i64 x)):=by
 have hdw:d<w.heap.size:=h.rt.db.lt
 have hg:w.grownBy ((w.setCell ⟨d,9,none⟩ (.int .i64 p')).setCell ⟨d,8,none⟩ (.int .i64 x)) (some d):=gb_setD.trans gb_setD
 have g:∀ i,i≠9→i≠8→((ds.setIfInBounds 9 (.int .i64 p')).setIfInBounds 8 (.int .i64 x))[i]? = ds[i]? := fun i h1 h2=>by rw [Array.getElem?_setIfInBounds_ne (by omega),Array.getElem?_setIfInBounds_ne (by omega)]
 have hz:=h.rt.db.dc.sz
 have hdc:=h.rt.db.dc
 have ht:=h.rt.top
 have keep:∀ b,b<w.heap.size→b≠d→((w.setCell ⟨d,9,none⟩ (.int .i64 p')).setCell ⟨d,8,none⟩ (.int .i64 x)).heap[b]? = w.heap[b]? := fun b h1 h2=>hg.block b h1 (fun e=>h2 (Option.some.inj e))
 have her:Er 0 lab w ((w.setCell ⟨d,9,none⟩ (.int .i64 p')).setCell ⟨d,8,none⟩ (.int .i64 x)):=Er.gb hg (fun b e=>⟨Nat.zero_le _,by rw [← Option.some.inj e]; exact h.ld⟩)
 refine ⟨h.rt.kept hg.size (fun b h1 h2 _=>keep b h1 h2) ⟨heap_set_cells (heap_set_cells h.rt.db.blk),⟨by simp [hz],(g 1 (by decide) (by decide)).trans hdc.last,(g 7 (by decide) (by decide)).trans hdc.buf,(g 10 (by decide) (by decide)).trans hdc.base,(g 11 (by decide) (by decide)).trans hdc.rd,(g 14 (by decide) (by decide)).trans hdc.vals,by obtain ⟨y,hy⟩:=hdc.pres; exact ⟨y,(g 13 (by decide) (by decide)).trans hy⟩⟩⟩
  ⟨(g 0 (by decide) (by decide)).trans ht.stk,(g 1 (by decide) (by decide)).trans ht.lst,(g 2 (by decide) (by decide)).trans ht.offs,(g 3 (by decide) (by decide)).trans ht.unq,(g 4 (by decide) (by decide)).trans ht.nss⟩ h.rt.l01,
  (g 5 (by decide) (by decide)).trans h.c5,⟨x,by simp [hz]⟩,?_,own_block h.own (fun q hq=>keep q (h.own.lt q hq).2 (fun e=>by have:=(h.own.lt q hq).1; have:=h.db; omega)),h.ns.er her (LabEq.refl _ _),h.ld,h.db,Nat.le_trans h.hb hg.size,h.b0b,h.b0d,h.kp.trans ⟨hg.os,hg.tape,hg.output,hg.size,fun b hb' => ?_⟩,h.ol,h.bB,h.bA,h.b18,h.l0⟩
 ·rw [Array.getElem?_setIfInBounds_ne (by decide)]
  simp [hz]
 ·have h1:=h.b0b
  have h2:=h.b0d
  have h3:=h.hb
  exact keep b (by omega) (by omega)
theorem RQ.one(h:RQ A b0 base d B cap s vals 0 aU aI aE aM p ds ao c nsv lab w0 w):RQ A b0 base d B cap s vals 1 aU aI aE aM p (ds.setIfInBounds 1 (.int .u64 1)) ao c nsv (labN w lab 0) w0 (w.setCell ⟨d,1,none⟩ (.int .u64 1)):=
 h.ofLo (o:=none) (heap_set_cells h.rt.db.blk) (by rw [Array.getElem?_setIfInBounds_ne (by decide)]; exact h.rt.top.stk) (setI_get h.rt.top.lst) (.inr rfl) (But01.set1 _ _) Lo.set (fun g e=>by cases e)
  (own_block h.own (fun q hq=>heap_set_other (fun e=>by have:=(h.own.lt q hq).1; have:=h.db; omega))) (fun g hg=>by rw [labN_old (h.own.lt g hg).2]; exact h.ol g hg) (by simp [h.rt.db.dc.sz])
theorem RQ.sm(h:RQ A b0 base d B cap s vals l aU aI aE aM p ds ao c nsv lab w0 w):SM w d base 0 c ao l [] ds:=⟨h.rt.db.blk,h.rt.top.stk,h.rt.top.lst,h.own⟩
theorem getE_size{a b:Array Value}(h:∀ i,i≠0→i≠1→b[i]? = a[i]?)(ha:a.size=24):b.size=24:=by
 have h1:=h 23 (by decide) (by decide)
 have h2:=h 24 (by decide) (by decide)
 rw [Array.getElem?_eq_none (by omega:a.size≤24)] at h2
 have h3:b.size≤24:=Array.getElem?_eq_none_iff.1 h2
 have h4:23<b.size:=by
  rw [Array.getElem?_eq_getElem (by omega:23<a.size)] at h1
  exact (Array.getElem?_eq_some_iff.1 h1).1
 omega
theorem RQ.pushPop{cx:Nat}{aox:Option Addr}{w2:World}{ds2:Array Value}{lz:Int}{zs:List Value}(h:RQ A b0 base d B cap s vals 0 aU aI aE aM p ds none 0 nsv lab w0 w)(hp:SM w' d base 1 cx aox lz zs ds'∧But01 ds ds'∧Lo d (Value.slice none 0 0).ownBlock w w'∧((Value.slice aox 1 cx).ownBlock=(Value.slice none 0 0).ownBlock∨∃ g,(Value.slice aox 1 cx).ownBlock=some g∧w.heap.size≤g))
  (hq:SM w2 d base 0 cx aox 1 [] ds2∧But01 ds' ds2∧Lo d none w' w2):RQ A b0 base d B cap s vals 1 aU aI aE aM p ds2 aox cx nsv (labN w lab 0) w0 w2:=by
 refine h.ofLo (o:=none) hq.1.blk hq.1.stk hq.1.lst (.inr rfl) (hp.2.1.trans hq.2.1) (hp.2.2.1.trans hq.2.2) (fun g e=>by cases e) hq.1.own (fun g hg => ?_) (getE_size (fun i hi hj=>(hp.2.1.trans hq.2.1) i hi hj) h.rt.db.dc.sz)
 have e:(Value.slice aox 1 cx).ownBlock=some g:=by
  cases aox with
  |none=>cases hg
  |some a=>exact hg
 rcases hp.2.2.2 with h1|⟨g',h1,h2⟩
 ·rw [h1] at e; cases e
 ·rw [h1] at e
  obtain rfl:=Option.some.inj e
  exact labN_new h2
end
theorem rv_none(A:List Addr)(b0 base d B cap F n:Nat)(s:ByteArray)(vals:Int)(aU aI aE aM:Addr)(lo dup:Bool)(ds:Array Value)(nsv:Value)(lab:Nat→Nat)(w0 w:World)(hV:VAllI n)(C:Cst A s cap vals aU aI lo dup)(K:KC A s cap vals aU aI aE aM)(h:RQ A b0 base d B cap s vals 0 aU aI aE aM 0 ds none 0 nsv lab w0 w)(hD:DS A w lab base d F B cap 0 s vals 0 (.iface 260 (.pointer (some aU))) (.iface 260 (.pointer (some aI))) ds nsv)(hF:b0≤F)(hn:2 * s.size<n)(hz:ws ((bytes s).drop 0)<s.size)(x:Int)(hb:(s[ws ((bytes s).drop 0)].toNat:Int)=x)(hx:¬ x=58∧¬ x=44)(hr:(run (chkD dup) lo n .val ((bytes s).drop (ws ((bytes s).drop 0)))).1=none):
  Calls Tryz.prog 49 #[.pointer (some ⟨d,0,none⟩),.pointer (some ⟨F,0,none⟩)] w (RvP A b0 base d B cap s vals aU aI aE aM none w0):=by
 have c5:w.cell? ⟨d,5,none⟩=some (.int .i64 0):=by rw [cell_of_row _ _ _ _ _ (0,0) h.rt.db.blk]; exact h.c5
 obtain ⟨_,_,_,c11,_⟩:=h.rt.db.facts
 have IV:=Hq (inval60 d w c11)
 have HQ:=Hq h
 have HK:=Hq K
 have hcap:=K.hcap
 have hs:=K.hs
 obtain ⟨z,HZ⟩:∃ z,Hid (ws ((bytes s).drop 0)=z):=⟨_,Hq rfl⟩
 have hzs:z≤s.size:=by have:=ws_fit (s:=s) (p:=0) (Nat.zero_le _); rw [HZ.out] at this; omega
 have z0:(0:Int)≤(z:Int):=Int.natCast_nonneg _
 have hzl:z<s.size:=by rw [← HZ.out]; exact hz
 have HBC:=Hq (show (s[z].toNat:Int)=x by simpa only [HZ.out] using hb)
 have HDW:=Hq hD
 have HC:=Hq C
 have HV:=Hq hV
 have HN:=Hq hn
 have HF:=Hq hF
 have x58:(x==58)=false:=by simpa using hx.1
 have x44:(x==44)=false:=by simpa using hx.2
 have HX0:=Hq (show 0≤x∧x≤255 by rw [← hb]; have:=s[ws ((bytes s).drop 0)].toNat_lt; omega)
 have HLB:=Hq hD.l0
 have HRN:=Hq (show (run (chkD dup) lo n .val ((bytes s).drop z)).1=none by rw [← HZ.out]; exact hr)
 clear hz hb hr hD C hV hn hF hx
 clear h K
 go_enter Tryz.func49,Tryz.ntmps49
 go_wp2_with fail
 refine IV.out.mono ?_
 rintro e w1 ⟨rfl,n1,hw1⟩
 have HQ1:=Hq (HQ.out.gb0 (show w.grownBy w1 none by rw [hw1]; exact gb_drewN (World.grownBy.refl _ _) n1))
 have HD1:=Hq (HDW.out.gb0 (show w.grownBy w1 none by rw [hw1]; exact gb_drewN (World.grownBy.refl _ _) n1))
 clear hw1 IV c5 c11 HQ HDW
 obtain ⟨k0,k1,_,_,_⟩:=HQ1.out.rt.top.facts HQ1.out.rt.db.blk
 obtain ⟨_,k7,k10,_,_⟩:=HQ1.out.rt.db.facts
 have k9:w1.cell? ⟨d,9,none⟩=some (.int .i64 0):=by rw [cell_of_row _ _ _ _ _ (0,0) HQ1.out.rt.db.blk]; exact HQ1.out.c9
 have hr:(Instr.slice 47 (.slice (some ⟨B,0,none⟩) s.size cap) (some (.int .i64 0)) none none).run Tryz.prog w1=.ok (rest B cap 0 s.size) w1:=rest_run (W:=w1) (B:=B) (cap:=cap) (q:=0) (n:=s.size) (Nat.zero_le _) hcap
 have W1:=wsC B 0 cap s w1 (by omega) (Nat.zero_le _) hcap HQ1.out.rt.bf
 rw [HZ.out] at W1
 have W1:=Hq W1
 generalize rest B cap 0 s.size=u at hr W1
 have M:=Hq (fun b hb=>more62 d ds B cap z s vals 0 w1 HQ1.out.rt.db b hb)
 go_wp2_with fail
 refine W1.out.mono ?_
 rintro e w' ⟨rfl,rfl⟩
 go_wp2_with fail
 have hlt:=hzl
 have M1:=Hq (M.out false (by simp; omega))
 have cp:=HQ1.out.rt.bf z hlt
 rw [HBC.out] at cp
 have z1:(z:Int)<(s.size:Int):=by omega
 have t1:decide (s.size≤z)=false:=by simp; omega
 have t2:decide ((s.size:Int)≤(z:Int))=false:=by simp; omega
 clear M W1 hr
 refine M1.out.mono ?_
 rintro e w' ⟨rfl,rfl⟩
 have KD:=Hq (kind59 x (normK x) HX0.out.1 HX0.out.2 rfl w1 HQ1.out.rt.nk)
 have DL:=Hq (delim67 none 0 0 (normK x) (.inl rfl) w1)
 obtain ⟨kx,HKX⟩:∃ kx,Hid (normK x=kx):=⟨_,Hq rfl⟩
 rw [HKX.out] at KD DL
 go_wp2_with fail
 refine KD.out.mono ?_
 rintro e w' ⟨rfl,rfl⟩
 go_wp2_with fail
 refine DL.out.mono ?_
 rintro e w2 ⟨rfl,hg2⟩
 have HQ2:=Hq (HQ1.out.gb0 hg2)
 have HD2:=Hq (HD1.out.gb0 hg2)
 have DP:=Hq (depth64 none 0 0 w2)
 clear hg2 DL KD HQ1 HD1 M1 k0 k1 k7 k9 k10 cp
 obtain ⟨m0,m1,_,_,_⟩:=HQ2.out.rt.top.facts HQ2.out.rt.db.blk
 obtain ⟨_,m7,m10,_,_⟩:=HQ2.out.rt.db.facts
 go_wp2_with fail
 refine DP.out.mono ?_
 rintro e w3 ⟨rfl,hg3⟩
 have HQ3:=Hq (HQ2.out.gb0 hg3)
 have HD3:=Hq (HD2.out.gb0 hg3)
 clear hg3 HQ2 HD2 DP m0 m1 m7 m10
 have V:=HV.out A base d F B cap 0 z 1 s vals aU aI lo dup lab ds nsv w3 HC.out HD3.out hlt (by rw [← HZ.out]; exact ws_zero _) (by omega) (by omega) (by have:=HN.out; omega)
 have V:=Hq (val_left V HRN.out)
 go_wp2_with fail
 refine V.out.mono ?_
 rintro e w4 ⟨n4,v4,rfl,hn4,⟨uu,xx,hvf⟩,lab4,ds4,nsv4,hfm,hds,hb4,herr⟩
 have HQ4:=Hq (HQ3.out.ofDS HLB.out HF.out hds hb4 hfm)
 have WR:=Hq (wrap_any HK.out HQ4.out.rt n4 hn4 1 v4 herr (by omega))
 have q10:=HQ4.out.rt.db.facts.2.2.1
 clear hfm hds hb4 herr V HQ3 HD3
 subst hvf
 go_wp2_with fail
 refine WR.out.mono ?_
 rintro e w5 ⟨t5,x5,rfl,hg5⟩
 have HQ5:=Hq (HQ4.out.gb0 hg5)
 clear hg5 WR HQ4
 go_wp2_with fail
 go_ret2
 exact ⟨_,_,_,_,_,.inr ⟨rfl,_,_,rfl,HQ5.out⟩⟩
theorem rv_some(A:List Addr)(b0 base d B cap F n:Nat)(s:ByteArray)(vals:Int)(aU aI aE aM:Addr)(lo dup:Bool)(ds:Array Value)(nsv:Value)(lab:Nat→Nat)(w0 w:World)(hV:VAllI n)(C:Cst A s cap vals aU aI lo dup)(K:KC A s cap vals aU aI aE aM)(h:RQ A b0 base d B cap s vals 0 aU aI aE aM 0 ds none 0 nsv lab w0 w)(hD:DS A w lab base d F B cap 0 s vals 0 (.iface 260 (.pointer (some aU))) (.iface 260 (.pointer (some aI))) ds nsv)(hF:b0≤F)(hn:2 * s.size<n)(hz:ws ((bytes s).drop 0)<s.size)(x:Int)(hb:(s[ws ((bytes s).drop 0)].toNat:Int)=x)(hx:¬ x=58∧¬ x=44)(j:Nat)(hr:(run (chkD dup) lo n .val ((bytes s).drop (ws ((bytes s).drop 0)))).1=some j):
  Calls Tryz.prog 49 #[.pointer (some ⟨d,0,none⟩),.pointer (some ⟨F,0,none⟩)] w (RvP A b0 base d B cap s vals aU aI aE aM (some (ws ((bytes s).drop 0)+j)) w0):=by
 obtain ⟨oo,HOO⟩:∃ oo,Hid (oo=some (ws ((bytes s).drop 0)+j)):=⟨_,Hq rfl⟩
 rw [← HOO.out]
 have c5:w.cell? ⟨d,5,none⟩=some (.int .i64 0):=by rw [cell_of_row _ _ _ _ _ (0,0) h.rt.db.blk]; exact h.c5
 obtain ⟨_,_,_,c11,_⟩:=h.rt.db.facts
 have IV:=Hq (inval60 d w c11)
 have HQ:=Hq h
 have HK:=Hq K
 have hcap:=K.hcap
 have hs:=K.hs
 obtain ⟨z,HZ⟩:∃ z,Hid (ws ((bytes s).drop 0)=z):=⟨_,Hq rfl⟩
 have hzs:z≤s.size:=by have:=ws_fit (s:=s) (p:=0) (Nat.zero_le _); rw [HZ.out] at this; omega
 have z0:(0:Int)≤(z:Int):=Int.natCast_nonneg _
 have hzl:z<s.size:=by rw [← HZ.out]; exact hz
 have HBC:=Hq (show (s[z].toNat:Int)=x by simpa only [HZ.out] using hb)
 have HDW:=Hq hD
 have HC:=Hq C
 have HV:=Hq hV
 have HN:=Hq hn
 have HF:=Hq hF
 have x58:(x==58)=false:=by simpa using hx.1
 have x44:(x==44)=false:=by simpa using hx.2
 have HX0:=Hq (show 0≤x∧x≤255 by rw [← hb]; have:=s[ws ((bytes s).drop 0)].toNat_lt; omega)
 have HLB:=Hq hD.l0
 have HRN:=Hq (show (run (chkD dup) lo n .val ((bytes s).drop z)).1=some j by rw [← HZ.out]; exact hr)
 have HO:=Hq (show oo=some (z+j) by rw [HOO.out,HZ.out])
 clear hz hb hr HOO hD C hV hn hF hx
 clear h K
 go_enter Tryz.func49,Tryz.ntmps49
 go_wp2_with fail
 refine IV.out.mono ?_
 rintro e w1 ⟨rfl,n1,hw1⟩
 have HQ1:=Hq (HQ.out.gb0 (show w.grownBy w1 none by rw [hw1]; exact gb_drewN (World.grownBy.refl _ _) n1))
 have HD1:=Hq (HDW.out.gb0 (show w.grownBy w1 none by rw [hw1]; exact gb_drewN (World.grownBy.refl _ _) n1))
 clear hw1 IV c5 c11 HQ HDW
 obtain ⟨k0,k1,_,_,_⟩:=HQ1.out.rt.top.facts HQ1.out.rt.db.blk
 obtain ⟨_,k7,k10,_,_⟩:=HQ1.out.rt.db.facts
 have k9:w1.cell? ⟨d,9,none⟩=some (.int .i64 0):=by rw [cell_of_row _ _ _ _ _ (0,0) HQ1.out.rt.db.blk]; exact HQ1.out.c9
 have hr:(Instr.slice 47 (.slice (some ⟨B,0,none⟩) s.size cap) (some (.int .i64 0)) none none).run Tryz.prog w1=.ok (rest B cap 0 s.size) w1:=rest_run (W:=w1) (B:=B) (cap:=cap) (q:=0) (n:=s.size) (Nat.zero_le _) hcap
 have W1:=wsC B 0 cap s w1 (by omega) (Nat.zero_le _) hcap HQ1.out.rt.bf
 rw [HZ.out] at W1
 have W1:=Hq W1
 generalize rest B cap 0 s.size=u at hr W1
 have M:=Hq (fun b hb=>more62 d ds B cap z s vals 0 w1 HQ1.out.rt.db b hb)
 go_wp2_with fail
 refine W1.out.mono ?_
 rintro e w' ⟨rfl,rfl⟩
 go_wp2_with fail
 have hlt:=hzl
 have M1:=Hq (M.out false (by simp; omega))
 have cp:=HQ1.out.rt.bf z hlt
 rw [HBC.out] at cp
 have z1:(z:Int)<(s.size:Int):=by omega
 have t1:decide (s.size≤z)=false:=by simp; omega
 have t2:decide ((s.size:Int)≤(z:Int))=false:=by simp; omega
 clear M W1 hr
 refine M1.out.mono ?_
 rintro e w' ⟨rfl,rfl⟩
 have KD:=Hq (kind59 x (normK x) HX0.out.1 HX0.out.2 rfl w1 HQ1.out.rt.nk)
 have DL:=Hq (delim67 none 0 0 (normK x) (.inl rfl) w1)
 obtain ⟨kx,HKX⟩:∃ kx,Hid (normK x=kx):=⟨_,Hq rfl⟩
 rw [HKX.out] at KD DL
 go_wp2_with fail
 refine KD.out.mono ?_
 rintro e w' ⟨rfl,rfl⟩
 go_wp2_with fail
 refine DL.out.mono ?_
 rintro e w2 ⟨rfl,hg2⟩
 have HQ2:=Hq (HQ1.out.gb0 hg2)
 have HD2:=Hq (HD1.out.gb0 hg2)
 have DP:=Hq (depth64 none 0 0 w2)
 clear hg2 DL KD HQ1 HD1 M1 k0 k1 k7 k9 k10 cp
 obtain ⟨m0,m1,_,_,_⟩:=HQ2.out.rt.top.facts HQ2.out.rt.db.blk
 obtain ⟨_,m7,m10,_,_⟩:=HQ2.out.rt.db.facts
 go_wp2_with fail
 refine DP.out.mono ?_
 rintro e w3 ⟨rfl,hg3⟩
 have HQ3:=Hq (HQ2.out.gb0 hg3)
 have HD3:=Hq (HD2.out.gb0 hg3)
 clear hg3 HQ2 HD2 DP m0 m1 m7 m10
 have V:=HV.out A base d F B cap 0 z 1 s vals aU aI lo dup lab ds nsv w3 HC.out HD3.out hlt (by rw [← HZ.out]; exact ws_zero _) (by omega) (by omega) (by have:=HN.out; omega)
 have V:=Hq (val_took V HRN.out)
 have HKK:=kind_of HRN.out (by rw [← HZ.out]; exact ws_zero _) (show ((bytes s).drop z).headD 0=x by rw [head_byte hlt]; exact HBC.out)
 rw [HKX.out] at HKK
 have hkk:kx=110∨kx=116∨kx=102∨kx=34∨kx=123∨kx=91∨kx=48:=by omega
 have HJ:=Hq (show z+j≤s.size by
  have h1:=HRN.out
  cases hv:run (chkD dup) lo n .val ((bytes s).drop z) with
  |mk a b=>
  rw [hv] at h1
  obtain rfl:a=some j:=h1
  have:=(run_take hv).2
  rw [List.length_drop,bytes_len] at this
  omega)
 obtain ⟨p4,hp4⟩:∃ p4,z+j=p4:=⟨_,rfl⟩
 have y1:(p4:Int)-(z:Int)=(j:Int):=by omega
 have y2:(p4:Int)-(j:Int)=(z:Int):=by omega
 have y3:(0:Int)≤(p4:Int):=Int.natCast_nonneg _
 have y4:(0:Int)≤(j:Int):=Int.natCast_nonneg _
 have hj4:=HJ.out
 rw [hp4] at V HJ HO hj4
 have hz4:z≤p4:=by omega
 have HP4:=Hq hp4
 clear hp4 HKK HKX
 go_wp2_with fail
 refine V.out.mono ?_
 rintro e w4 ⟨rfl,lab4,ds4,nsv4,hfm,hds,hb4⟩
 have HQ4:=Hq (HQ3.out.ofDS HLB.out HF.out hds hb4 hfm)
 have q10:=HQ4.out.rt.db.facts.2.2.1
 obtain ⟨_,q1,_,_,_⟩:=HQ4.out.rt.top.facts HQ4.out.rt.db.blk
 have qf1:w4.frozen? ⟨d,1,none⟩=false:=by unfold World.frozen?; simp only [HQ4.out.rt.db.blk]; simp
 clear hfm hds hb4 V HQ3 HD3
 rcases hkk with rfl|rfl|rfl|rfl|rfl|rfl|rfl
 ·have L:=Hq (lit70 d 0 (.inl rfl) w4 q1 qf1)
  go_wp2_with fail
  refine L.out.mono ?_
  rintro e w5 ⟨rfl,hw5⟩
  have HQ5:=Hq (show RQ A b0 base d B cap s vals 1 aU aI aE aM 0 (ds4.setIfInBounds 1 (.int .u64 1)) none 0 nsv4 (labN w4 lab4 0) w0 w5 by rw [hw5]; exact HQ4.out.one)
  clear hw5 HQ4 L q10 q1 qf1
  have c8:=HQ5.out.c8
  obtain ⟨x8,h8⟩:=c8
  obtain ⟨_,r7,_,_,_⟩:=HQ5.out.rt.db.facts
  have r8:w5.cell? ⟨d,8,none⟩=some (.int .i64 x8):=by rw [cell_of_row _ _ _ _ _ (0,0) HQ5.out.rt.db.blk]; exact h8
  have r9:w5.cell? ⟨d,9,none⟩=some (.int .i64 0):=by rw [cell_of_row _ _ _ _ _ (0,0) HQ5.out.rt.db.blk]; exact HQ5.out.c9
  have fz:∀ o,w5.frozen? ⟨d,o,none⟩=false:=fun o=>by unfold World.frozen?; simp only [HQ5.out.rt.db.blk]; simp
  have f8:=fz 8
  have f9:=fz 9
  obtain ⟨ao6,n6,c6,hsl⟩:=slice3 (W:=(w5.setCell ⟨d,9,none⟩ (.int .i64 p4)).setCell ⟨d,8,none⟩ (.int .i64 z)) (ao:=some ⟨B,0,none⟩) (n:=s.size) (cap:=cap) hz4 (Nat.le_trans hj4 hcap)
  have HQ6:=Hq (HQ5.out.pos p4 z)
  clear h8 fz HQ5
  go_wp2_with fail
  go_ret2
  exact ⟨_,_,_,_,_,.inl ⟨p4,_,_,_,HO.out,rfl,hj4,HQ6.out⟩⟩
 ·have L:=Hq (lit70 d 0 (.inl rfl) w4 q1 qf1)
  go_wp2_with fail
  refine L.out.mono ?_
  rintro e w5 ⟨rfl,hw5⟩
  have HQ5:=Hq (show RQ A b0 base d B cap s vals 1 aU aI aE aM 0 (ds4.setIfInBounds 1 (.int .u64 1)) none 0 nsv4 (labN w4 lab4 0) w0 w5 by rw [hw5]; exact HQ4.out.one)
  clear hw5 HQ4 L q10 q1 qf1
  have c8:=HQ5.out.c8
  obtain ⟨x8,h8⟩:=c8
  obtain ⟨_,r7,_,_,_⟩:=HQ5.out.rt.db.facts
  have r8:w5.cell? ⟨d,8,none⟩=some (.int .i64 x8):=by rw [cell_of_row _ _ _ _ _ (0,0) HQ5.out.rt.db.blk]; exact h8
  have r9:w5.cell? ⟨d,9,none⟩=some (.int .i64 0):=by rw [cell_of_row _ _ _ _ _ (0,0) HQ5.out.rt.db.blk]; exact HQ5.out.c9
  have fz:∀ o,w5.frozen? ⟨d,o,none⟩=false:=fun o=>by unfold World.frozen?; simp only [HQ5.out.rt.db.blk]; simp
  have f8:=fz 8
  have f9:=fz 9
  obtain ⟨ao6,n6,c6,hsl⟩:=slice3 (W:=(w5.setCell ⟨d,9,none⟩ (.int .i64 p4)).setCell ⟨d,8,none⟩ (.int .i64 z)) (ao:=some ⟨B,0,none⟩) (n:=s.size) (cap:=cap) hz4 (Nat.le_trans hj4 hcap)
  have HQ6:=Hq (HQ5.out.pos p4 z)
  clear h8 fz HQ5
  go_wp2_with fail
  go_ret2
  exact ⟨_,_,_,_,_,.inl ⟨p4,_,_,_,HO.out,rfl,hj4,HQ6.out⟩⟩
 ·have L:=Hq (lit70 d 0 (.inl rfl) w4 q1 qf1)
  go_wp2_with fail
  refine L.out.mono ?_
  rintro e w5 ⟨rfl,hw5⟩
  have HQ5:=Hq (show RQ A b0 base d B cap s vals 1 aU aI aE aM 0 (ds4.setIfInBounds 1 (.int .u64 1)) none 0 nsv4 (labN w4 lab4 0) w0 w5 by rw [hw5]; exact HQ4.out.one)
  clear hw5 HQ4 L q10 q1 qf1
  have c8:=HQ5.out.c8
  obtain ⟨x8,h8⟩:=c8
  obtain ⟨_,r7,_,_,_⟩:=HQ5.out.rt.db.facts
  have r8:w5.cell? ⟨d,8,none⟩=some (.int .i64 x8):=by rw [cell_of_row _ _ _ _ _ (0,0) HQ5.out.rt.db.blk]; exact h8
  have r9:w5.cell? ⟨d,9,none⟩=some (.int .i64 0):=by rw [cell_of_row _ _ _ _ _ (0,0) HQ5.out.rt.db.blk]; exact HQ5.out.c9
  have fz:∀ o,w5.frozen? ⟨d,o,none⟩=false:=fun o=>by unfold World.frozen?; simp only [HQ5.out.rt.db.blk]; simp
  have f8:=fz 8
  have f9:=fz 9
  obtain ⟨ao6,n6,c6,hsl⟩:=slice3 (W:=(w5.setCell ⟨d,9,none⟩ (.int .i64 p4)).setCell ⟨d,8,none⟩ (.int .i64 z)) (ao:=some ⟨B,0,none⟩) (n:=s.size) (cap:=cap) hz4 (Nat.le_trans hj4 hcap)
  have HQ6:=Hq (HQ5.out.pos p4 z)
  clear h8 fz HQ5
  go_wp2_with fail
  go_ret2
  exact ⟨_,_,_,_,_,.inl ⟨p4,_,_,_,HO.out,rfl,hj4,HQ6.out⟩⟩
 ·have L:=Hq (str80 d 0 (.inl rfl) w4 q1 qf1)
  have NM:=Hq (name71 0 (.inl rfl) w4)
  go_wp2_with fail
  refine NM.out.mono ?_
  rintro e w' ⟨rfl,rfl⟩
  go_wp2_with fail
  refine L.out.mono ?_
  rintro e w5 ⟨rfl,hw5⟩
  have HQ5:=Hq (show RQ A b0 base d B cap s vals 1 aU aI aE aM 0 (ds4.setIfInBounds 1 (.int .u64 1)) none 0 nsv4 (labN w4 lab4 0) w0 w5 by rw [hw5]; exact HQ4.out.one)
  clear hw5 HQ4 L q10 q1 qf1
  have c8:=HQ5.out.c8
  obtain ⟨x8,h8⟩:=c8
  obtain ⟨_,r7,_,_,_⟩:=HQ5.out.rt.db.facts
  have r8:w5.cell? ⟨d,8,none⟩=some (.int .i64 x8):=by rw [cell_of_row _ _ _ _ _ (0,0) HQ5.out.rt.db.blk]; exact h8
  have r9:w5.cell? ⟨d,9,none⟩=some (.int .i64 0):=by rw [cell_of_row _ _ _ _ _ (0,0) HQ5.out.rt.db.blk]; exact HQ5.out.c9
  have fz:∀ o,w5.frozen? ⟨d,o,none⟩=false:=fun o=>by unfold World.frozen?; simp only [HQ5.out.rt.db.blk]; simp
  have f8:=fz 8
  have f9:=fz 9
  obtain ⟨ao6,n6,c6,hsl⟩:=slice3 (W:=(w5.setCell ⟨d,9,none⟩ (.int .i64 p4)).setCell ⟨d,8,none⟩ (.int .i64 z)) (ao:=some ⟨B,0,none⟩) (n:=s.size) (cap:=cap) hz4 (Nat.le_trans hj4 hcap)
  have HQ6:=Hq (HQ5.out.pos p4 z)
  clear h8 fz HQ5
  go_wp2_with fail
  go_ret2
  exact ⟨_,_,_,_,_,.inl ⟨p4,_,_,_,HO.out,rfl,hj4,HQ6.out⟩⟩
 ·have P:=Hq (push82 d base 0 none 0 (.inl rfl) ds4 w4 HQ4.out.sm HQ4.out.hb HQ4.out.db)
  go_wp2_with fail
  refine P.out.mono ?_
  rintro e w4b ⟨rfl,aox,cx,dsx,hsm,hbx,hlo,hox⟩
  have HP:=Hq (And.intro hsm (And.intro hbx (And.intro hlo hox)))
  have Q:=Hq (pop83 d base cx aox 1 dsx w4b hsm (Nat.le_trans HQ4.out.hb hlo.size) HQ4.out.db)
  clear hsm hbx hlo hox P
  go_wp2_with fail
  refine Q.out.mono ?_
  rintro e w5 ⟨rfl,ds5,hq⟩
  have HQ5:=Hq (HQ4.out.pushPop HP.out hq)
  clear hq HQ4 HP Q q10 q1 qf1
  have c8:=HQ5.out.c8
  obtain ⟨x8,h8⟩:=c8
  obtain ⟨_,r7,_,_,_⟩:=HQ5.out.rt.db.facts
  have r8:w5.cell? ⟨d,8,none⟩=some (.int .i64 x8):=by rw [cell_of_row _ _ _ _ _ (0,0) HQ5.out.rt.db.blk]; exact h8
  have r9:w5.cell? ⟨d,9,none⟩=some (.int .i64 0):=by rw [cell_of_row _ _ _ _ _ (0,0) HQ5.out.rt.db.blk]; exact HQ5.out.c9
  have fz:∀ o,w5.frozen? ⟨d,o,none⟩=false:=fun o=>by unfold World.frozen?; simp only [HQ5.out.rt.db.blk]; simp
  have f8:=fz 8
  have f9:=fz 9
  obtain ⟨ao6,n6,c6,hsl⟩:=slice3 (W:=(w5.setCell ⟨d,9,none⟩ (.int .i64 p4)).setCell ⟨d,8,none⟩ (.int .i64 z)) (ao:=some ⟨B,0,none⟩) (n:=s.size) (cap:=cap) hz4 (Nat.le_trans hj4 hcap)
  have HQ6:=Hq (HQ5.out.pos p4 z)
  clear h8 fz HQ5
  go_wp2_with fail
  go_ret2
  exact ⟨_,_,_,_,_,.inl ⟨p4,_,_,_,HO.out,rfl,hj4,HQ6.out⟩⟩
 ·have P:=Hq (push84 d base 0 none 0 (.inl rfl) ds4 w4 HQ4.out.sm HQ4.out.hb HQ4.out.db)
  go_wp2_with fail
  refine P.out.mono ?_
  rintro e w4b ⟨rfl,aox,cx,dsx,hsm,hbx,hlo,hox⟩
  have HP:=Hq (And.intro hsm (And.intro hbx (And.intro hlo hox)))
  have Q:=Hq (pop85 d base cx aox 1 dsx w4b hsm (Nat.le_trans HQ4.out.hb hlo.size) HQ4.out.db)
  clear hsm hbx hlo hox P
  go_wp2_with fail
  refine Q.out.mono ?_
  rintro e w5 ⟨rfl,ds5,hq⟩
  have HQ5:=Hq (HQ4.out.pushPop HP.out hq)
  clear hq HQ4 HP Q q10 q1 qf1
  have c8:=HQ5.out.c8
  obtain ⟨x8,h8⟩:=c8
  obtain ⟨_,r7,_,_,_⟩:=HQ5.out.rt.db.facts
  have r8:w5.cell? ⟨d,8,none⟩=some (.int .i64 x8):=by rw [cell_of_row _ _ _ _ _ (0,0) HQ5.out.rt.db.blk]; exact h8
  have r9:w5.cell? ⟨d,9,none⟩=some (.int .i64 0):=by rw [cell_of_row _ _ _ _ _ (0,0) HQ5.out.rt.db.blk]; exact HQ5.out.c9
  have fz:∀ o,w5.frozen? ⟨d,o,none⟩=false:=fun o=>by unfold World.frozen?; simp only [HQ5.out.rt.db.blk]; simp
  have f8:=fz 8
  have f9:=fz 9
  obtain ⟨ao6,n6,c6,hsl⟩:=slice3 (W:=(w5.setCell ⟨d,9,none⟩ (.int .i64 p4)).setCell ⟨d,8,none⟩ (.int .i64 z)) (ao:=some ⟨B,0,none⟩) (n:=s.size) (cap:=cap) hz4 (Nat.le_trans hj4 hcap)
  have HQ6:=Hq (HQ5.out.pos p4 z)
  clear h8 fz HQ5
  go_wp2_with fail
  go_ret2
  exact ⟨_,_,_,_,_,.inl ⟨p4,_,_,_,HO.out,rfl,hj4,HQ6.out⟩⟩
 ·have L:=Hq (numb81 d 0 (.inl rfl) w4 q1 qf1)
  go_wp2_with fail
  refine L.out.mono ?_
  rintro e w5 ⟨rfl,hw5⟩
  have HQ5:=Hq (show RQ A b0 base d B cap s vals 1 aU aI aE aM 0 (ds4.setIfInBounds 1 (.int .u64 1)) none 0 nsv4 (labN w4 lab4 0) w0 w5 by rw [hw5]; exact HQ4.out.one)
  clear hw5 HQ4 L q10 q1 qf1
  have c8:=HQ5.out.c8
  obtain ⟨x8,h8⟩:=c8
  obtain ⟨_,r7,_,_,_⟩:=HQ5.out.rt.db.facts
  have r8:w5.cell? ⟨d,8,none⟩=some (.int .i64 x8):=by rw [cell_of_row _ _ _ _ _ (0,0) HQ5.out.rt.db.blk]; exact h8
  have r9:w5.cell? ⟨d,9,none⟩=some (.int .i64 0):=by rw [cell_of_row _ _ _ _ _ (0,0) HQ5.out.rt.db.blk]; exact HQ5.out.c9
  have fz:∀ o,w5.frozen? ⟨d,o,none⟩=false:=fun o=>by unfold World.frozen?; simp only [HQ5.out.rt.db.blk]; simp
  have f8:=fz 8
  have f9:=fz 9
  obtain ⟨ao6,n6,c6,hsl⟩:=slice3 (W:=(w5.setCell ⟨d,9,none⟩ (.int .i64 p4)).setCell ⟨d,8,none⟩ (.int .i64 z)) (ao:=some ⟨B,0,none⟩) (n:=s.size) (cap:=cap) hz4 (Nat.le_trans hj4 hcap)
  have HQ6:=Hq (HQ5.out.pos p4 z)
  clear h8 fz HQ5
  go_wp2_with fail
  go_ret2
  exact ⟨_,_,_,_,_,.inl ⟨p4,_,_,_,HO.out,rfl,hj4,HQ6.out⟩⟩
theorem run_delim{chk:List (List Int)→Bool × Bool}{lo:Bool}{n:Nat}{xs:List Int}{x:Int}(hw:ws xs=0)(hc:xs.headD 0=x)(hx:x=58∨x=44):(run chk lo n .val xs).1=none:=by
 cases h:(run chk lo n .val xs).1 with
 |none=>rfl
 |some j=>
  rcases kind_of h hw hc with ⟨_,h1⟩|h1
  ·omega
  ·rcases hx with rfl|rfl<;>cases h1
theorem rv49(A:List Addr)(b0 base d B cap F n:Nat)(s:ByteArray)(vals:Int)(aU aI aE aM:Addr)(lo dup:Bool)(ds:Array Value)(nsv:Value)(lab:Nat→Nat)(w0 w:World)(hV:VAllI n)(C:Cst A s cap vals aU aI lo dup)(K:KC A s cap vals aU aI aE aM)(h:RQ A b0 base d B cap s vals 0 aU aI aE aM 0 ds none 0 nsv lab w0 w)(hD:DS A w lab base d F B cap 0 s vals 0 (.iface 260 (.pointer (some aU))) (.iface 260 (.pointer (some aI))) ds nsv)(hF:b0≤F)(hn:2 * s.size<n):
  Calls Tryz.prog 49 #[.pointer (some ⟨d,0,none⟩),.pointer (some ⟨F,0,none⟩)] w (RvP A b0 base d B cap s vals aU aI aE aM (run (chkD dup) lo n .val (bytes s)).1 w0):=by
 have hle:ws ((bytes s).drop 0)≤s.size:=by have:=ws_fit (s:=s) (p:=0) (Nat.zero_le _); omega
 have e0:(bytes s).drop 0=bytes s:=List.drop_zero
 rw [run_drop,← e0]
 by_cases hz:ws ((bytes s).drop 0)=s.size
 ·have e1:((bytes s).drop 0).drop (ws ((bytes s).drop 0))=[]:=by rw [hz,e0]; exact bytes_end (Nat.le_refl _)
  rw [e1,run_nil]
  exact rv_end A b0 base d B cap F s vals aU aI aE aM ds none 0 nsv lab w0 w K h hz
 ·have hlt:ws ((bytes s).drop 0)<s.size:=by omega
  have e1:((bytes s).drop 0).drop (ws ((bytes s).drop 0))=(bytes s).drop (ws ((bytes s).drop 0)):=by rw [e0]
  by_cases hx:(s[ws ((bytes s).drop 0)].toNat:Int)=58∨(s[ws ((bytes s).drop 0)].toNat:Int)=44
  ·have h0:(run (chkD dup) lo n .val (((bytes s).drop 0).drop (ws ((bytes s).drop 0)))).1=none:=run_delim (ws_zero _) (by rw [e1]; exact head_byte hlt) hx
   rw [h0]
   exact rv_delim A b0 base d B cap F s vals aU aI aE aM ds none 0 nsv lab w0 w K h hlt _ hx rfl
  ·rw [e1]
   have hx':=not_or.1 hx
   cases hr:(run (chkD dup) lo n .val ((bytes s).drop (ws ((bytes s).drop 0)))).1 with
   |none=>exact rv_none A b0 base d B cap F n s vals aU aI aE aM lo dup ds nsv lab w0 w hV C K h hD hF hn hlt _ rfl hx' hr
   |some j=>
    have:=rv_some A b0 base d B cap F n s vals aU aI aE aM lo dup ds nsv lab w0 w hV C K h hD hF hn hlt _ rfl hx' j hr
    rw [Nat.add_comm] at this
    exact this
end Go.Proofs.YtknaalohaagcdaaGreatDoor.Own
