import Derived.Test.YtknaalohaagcdaaGreatDoorG01
import Derived.Test.YtknaalohaagcdaaGreatDoorG18
import Derived.Test.YtknaalohaagcdaaGreatDoorG23
import Derived.Test.YtknaalohaagcdaaGreatDoorG26
import Derived.LaidEql
import Derived.Stop.Asserts
set_option maxHeartbeats 400000000
set_option maxRecDepth 100000
namespace Go.Proofs.YtknaalohaagcdaaGreatDoor.Own
open Go.RowKit JG
theorem name_end{g m:Nat}{s:ByteArray}{p:Nat}{tw lo op:Bool}{k:Int}{tx:ByteArray}{ns ks:Value}{base:Nat}{nms:List ByteArray}{w w':World}{r:Option Nat × Bool}(hr:r=(none,false))(hN:Nd w m k tx ns ks)(hne:m≠g)(hg:w.grownBy w' (some g))(hf:Failed g s tw lo op p w'):
  NameP g m s p tw lo op k tx ns ks base nms r w (.returned (.bool false)) w':=by
 refine .inr ⟨by rw [hr],rfl,?_,⟨ns,hN.kept hg hne,.inl rfl⟩,Fr.of_gb hg (fun i hi _=>.inl (Option.some.inj hi).symm)⟩
 rw [hr]
 simpa using hf
theorem name_no(g m:Nat)(s:ByteArray)(p:Nat)(tw lo op:Bool)(k:Int)(tx:ByteArray)(ns ks:Value)(base:Nat)(nms:List ByteArray)(w:World)(hs:s.size≤4294967296)(h:R w g s p tw lo 0 op)(hN:Nd w m k tx ns ks)(hne:m≠g)(hj:quotedO lo ((bytes s).drop p)=none):
  Calls Tryz.prog 52 #[.pointer (some ⟨g,0,none⟩),.pointer (some ⟨m,0,none⟩)] w (NameP g m s p tw lo op k tx ns ks base nms (nameO (chkT tw) lo (nms.map bytes) ((bytes s).drop p)) w):=by
 have HRr:=Hq (nameO_none (chk:=chkT tw) (names:=nms.map bytes) hj)
 generalize nameO (chkT tw) lo (nms.map bytes) ((bytes s).drop p)=r at HRr
 obtain ⟨c,HC⟩:∃ c,Hid (((bytes s).drop p).headD 0=c):=⟨_,Hq rfl⟩
 have hcb:=headD_byte s p
 rw [HC.out] at hcb
 have S:=Hq (see_c g s p tw lo 0 op c HC.out w h)
 have W:=Hq (fun n=>calls_no (quoted55 g s p tw lo op (w.drewN n) (by omega) (h.drew n)) hj)
 have F:=Hq (fun n=>fail25 g s p tw lo op 3 (w.drewN n) (h.drew n))
 obtain ⟨c0,c1,c2,_,_,_,f1,_,_⟩:=h.facts
 have HN:=Hq hN
 have HB:=Hq hne
 clear h hN hj hne
 by_cases c34:c=34
 ·subst c34
  go_enter Tryz.func52,Tryz.ntmps52
  go_wp2_with fail
  refine S.out.mono ?_
  rintro e w' ⟨rfl,n,rfl⟩
  go_wp2_with fail
  refine (W.out n).mono ?_
  rintro e w1 ⟨rfl,hf,hg⟩
  have HZ:=Hq (And.intro hf ((gb_drewN (World.grownBy.refl w (some g)) n).trans hg))
  clear hf hg
  go_wp2_with fail
  go_ret
  exact name_end HRr.out HN.out HB.out HZ.out.2 HZ.out.1
 have t34:(c != 34)=true:=by simpa using c34
 by_cases st:c=123∨c=91∨c=45∨c=110∨c=116∨c=102
 ·rcases st with rfl|rfl|rfl|rfl|rfl|rfl
  all_goals
   clear t34 c34
   go_enter Tryz.func52,Tryz.ntmps52
   go_wp2_with fail
   refine S.out.mono ?_
   rintro e w' ⟨rfl,n,rfl⟩
   go_wp2_with fail
   refine (F.out n).mono ?_
   rintro e w1 ⟨rfl,hR,hg⟩
   have HZ:=Hq (And.intro hR ((gb_drewN (World.grownBy.refl w (some g)) n).trans hg))
   clear hR hg
   go_wp2_with fail
   go_ret
   exact name_end HRr.out HN.out HB.out HZ.out.2 ⟨p,3,by decide,Nat.le_refl _,HZ.out.1⟩
 have t1:(c==123)=false:=by simp; omega
 have t2:(c==91)=false:=by simp; omega
 have t3:(c==45)=false:=by simp; omega
 have t4:(c==110)=false:=by simp; omega
 have t5:(c==116)=false:=by simp; omega
 have t6:(c==102)=false:=by simp; omega
 clear st c34
 by_cases d1:48≤c
 ·have u1:decide (48≤c)=true:=by simpa using d1
  by_cases d2:c≤57
  ·have u2:decide (c≤57)=true:=by simpa using d2
   go_enter Tryz.func52,Tryz.ntmps52
   go_wp2_with fail
   refine S.out.mono ?_
   rintro e w' ⟨rfl,n,rfl⟩
   go_wp2_with fail
   refine (F.out n).mono ?_
   rintro e w1 ⟨rfl,hR,hg⟩
   have HZ:=Hq (And.intro hR ((gb_drewN (World.grownBy.refl w (some g)) n).trans hg))
   clear hR hg
   go_wp2_with fail
   go_ret
   exact name_end HRr.out HN.out HB.out HZ.out.2 ⟨p,3,by decide,Nat.le_refl _,HZ.out.1⟩
  ·have u2:decide (c≤57)=false:=by simpa using d2
   go_enter Tryz.func52,Tryz.ntmps52
   go_wp2_with fail
   refine S.out.mono ?_
   rintro e w' ⟨rfl,n,rfl⟩
   go_wp2_with fail
   refine (W.out n).mono ?_
   rintro e w1 ⟨rfl,hf,hg⟩
   have HZ:=Hq (And.intro hf ((gb_drewN (World.grownBy.refl w (some g)) n).trans hg))
   clear hf hg
   go_wp2_with fail
   go_ret
   exact name_end HRr.out HN.out HB.out HZ.out.2 HZ.out.1
 ·have u1:decide (48≤c)=false:=by simpa using d1
  go_enter Tryz.func52,Tryz.ntmps52
  go_wp2_with fail
  refine S.out.mono ?_
  rintro e w' ⟨rfl,n,rfl⟩
  go_wp2_with fail
  refine (W.out n).mono ?_
  rintro e w1 ⟨rfl,hf,hg⟩
  have HZ:=Hq (And.intro hf ((gb_drewN (World.grownBy.refl w (some g)) n).trans hg))
  clear hf hg
  go_wp2_with fail
  go_ret
  exact name_end HRr.out HN.out HB.out HZ.out.2 HZ.out.1
theorem name52(g m:Nat)(s:ByteArray)(p:Nat)(tw lo op:Bool)(k:Int)(tx:ByteArray)(ns ks:Value)(base:Nat)(nms:List ByteArray)(w:World)(hs:s.size≤4294967296)(h:R w g s p tw lo 0 op)(hN:Nd w m k tx ns ks)(hne:m≠g)(hgb:g<base)(hmb:m<base)(hbw:base≤w.heap.size)
  (hown:w.ownsRow base 9 1 ns nms.length (nms.map Value.string)) (hG:∀ x∈nms,Good x) (hln:nms.length≤s.size):
  Calls Tryz.prog 52 #[.pointer (some ⟨g,0,none⟩),.pointer (some ⟨m,0,none⟩)] w (NameP g m s p tw lo op k tx ns ks base nms (nameO (chkT tw) lo (nms.map bytes) ((bytes s).drop p)) w):=by
 cases hj:quotedO lo ((bytes s).drop p) with
 |none=>exact name_no g m s p tw lo op k tx ns ks base nms w hs h hN hne hj
 |some j=>exact name_read g m s p tw lo op k tx ns ks base nms w hs h hN hne hgb hmb hbw hown hG hln j hj
def NodeV(nd:Value):Prop:=∃ (k:Int) (tx:ByteArray) (a:Option Addr) (la ca:Nat) (b:Option Addr) (lb cb:Nat),nd=.agg #[.int .u8 k,.string tx,.slice a la ca,.slice b lb cb]
def NdS(w:World)(m:Nat):Prop:=∃ (k:Int) (tx:ByteArray) (a:Option Addr) (la ca:Nat) (b:Option Addr) (lb cb:Nat),Nd w m k tx (.slice a la ca) (.slice b lb cb)
def ValP(g:Nat)(s:ByteArray)(p:Nat)(tw lo op:Bool)(r:Option Nat × Bool)(w:World)(e:Ending)(w':World):Prop:=
 (∃ k nd,r.1=some k∧NodeV nd∧e=.returned (.tuple #[nd,.bool true])∧R w' g s (p+k) tw lo 0 (op || r.2)∧w.grownBy w' (some g))∨
 (∃ nd,r.1=none∧NodeV nd∧e=.returned (.tuple #[nd,.bool false])∧Failed g s tw lo (op || r.2) p w'∧w.grownBy w' (some g))
def SubP(g m:Nat)(s:ByteArray)(p:Nat)(tw lo op:Bool)(r:Option Nat × Bool)(w:World)(e:Ending)(w':World):Prop:=
 (∃ j,r.1=some j∧e=.returned (.bool true)∧R w' g s (p+j) tw lo 0 (op || r.2)∧NdS w' m∧Two g m w w')∨
 (r.1=none∧e=.returned (.bool false)∧Failed g s tw lo (op || r.2) p w'∧NdS w' m∧Two g m w w')
theorem val_yes{g:Nat}{s:ByteArray}{p:Nat}{tw lo op:Bool}{r:Option Nat × Bool}{w:World}{f:FuncId}{args:Array Value}(h:Calls Tryz.prog f args w (ValP g s p tw lo op r w)){k:Nat}{o:Bool}(hr:r=(some k,o)):
  Calls Tryz.prog f args w fun e w'=>∃ nd,NodeV nd∧e=.returned (.tuple #[nd,.bool true])∧R w' g s (p+k) tw lo 0 (op || o)∧w.grownBy w' (some g):=by
 subst hr
 refine h.mono fun e w' hd => ?_
 rcases hd with ⟨k',nd,h1,h2,h3,h4,h5⟩|⟨nd,h1,_⟩
 ·cases h1
  exact ⟨nd,h2,h3,h4,h5⟩
 ·cases h1
theorem val_no{g:Nat}{s:ByteArray}{p:Nat}{tw lo op:Bool}{r:Option Nat × Bool}{w:World}{f:FuncId}{args:Array Value}(h:Calls Tryz.prog f args w (ValP g s p tw lo op r w)){o:Bool}(hr:r=(none,o)):
  Calls Tryz.prog f args w fun e w'=>∃ nd,NodeV nd∧e=.returned (.tuple #[nd,.bool false])∧Failed g s tw lo (op || o) p w'∧w.grownBy w' (some g):=by
 subst hr
 refine h.mono fun e w' hd => ?_
 rcases hd with ⟨k',nd,h1,_⟩|⟨nd,h1,h2,h3,h4,h5⟩
 ·cases h1
 ·exact ⟨nd,h2,h3,h4,h5⟩
theorem sub_yes{g m:Nat}{s:ByteArray}{p:Nat}{tw lo op:Bool}{r:Option Nat × Bool}{w:World}{f:FuncId}{args:Array Value}(h:Calls Tryz.prog f args w (SubP g m s p tw lo op r w)){k:Nat}{o:Bool}(hr:r=(some k,o)):
  Calls Tryz.prog f args w fun e w'=>e=.returned (.bool true)∧R w' g s (p+k) tw lo 0 (op || o)∧NdS w' m∧Two g m w w':=by
 subst hr
 refine h.mono fun e w' hd => ?_
 rcases hd with ⟨k',h1,h2,h3,h4,h5⟩|⟨h1,_⟩
 ·cases h1
  exact ⟨h2,h3,h4,h5⟩
 ·cases h1
theorem sub_no{g m:Nat}{s:ByteArray}{p:Nat}{tw lo op:Bool}{r:Option Nat × Bool}{w:World}{f:FuncId}{args:Array Value}(h:Calls Tryz.prog f args w (SubP g m s p tw lo op r w)){o:Bool}(hr:r=(none,o)):
  Calls Tryz.prog f args w fun e w'=>e=.returned (.bool false)∧Failed g s tw lo (op || o) p w'∧NdS w' m∧Two g m w w':=by
 subst hr
 refine h.mono fun e w' hd => ?_
 rcases hd with ⟨k',h1,_⟩|⟨h1,h2,h3,h4,h5⟩
 ·cases h1
 ·exact ⟨h2,h3,h4,h5⟩
def VAll(n:Nat):Prop:=∀ (g:Nat) (s:ByteArray) (p:Nat) (tw lo op:Bool) (w:World),s.size≤4294967296→R w g s p tw lo 0 op→2 * (s.size-p)<n→Calls Tryz.prog 23 #[.pointer (some ⟨g,0,none⟩)] w (ValP g s p tw lo op (run (chkT tw) lo n .val ((bytes s).drop p)) w)
theorem info42:(Tryz.prog.info? 42).map (fun i=>(i.zero,i.size,i.bytes))=some (some (.agg #[.int .u8 0,.string ⟨#[]⟩,.slice none 0 0,.slice none 0 0]),4,72):=by kernel_rfl
def Kids(w:World)(base:Nat)(v:Value)(n:Nat):Prop:=∃ xs,w.ownsRow base 42 4 v n xs
theorem own_cnt{w:World}{base:Nat}{e:TypeId}{size:Nat}{v:Value}{n:Nat}{xs:List Value}(h:w.ownsRow base e size v n xs):∃ ao c,v=.slice ao n c:=by
 rcases h.2 with ⟨rfl,rfl⟩|⟨g,cap,cur,rfl,_⟩
 ·exact ⟨_,_,rfl⟩
 ·exact ⟨_,_,rfl⟩
theorem own_cell{w:World}{base:Nat}{e:TypeId}{size gg l c n:Nat}{xs:List Value}(h:w.ownsRow base e size (.slice (some ⟨gg,0,none⟩) l c) n xs)(j:Nat)(u:Value)(hu:xs[j]? = some u):w.cell? ⟨gg,j,none⟩=some u∧w.frozen? ⟨gg,j,none⟩=false:=by
 have h1:=h.cells (g:=gg) rfl j u hu
 have hadd:(⟨gg,0,none⟩:Addr).add j=⟨gg,j,none⟩:=by unfold Addr.add; split<;>simp_all
 rw [hadd] at h1
 refine ⟨h1,?_⟩
 rcases h.2 with ⟨hx,_⟩|⟨g,cap,cur,hv,_,hg,_⟩
 ·cases hx
 ·cases hv
  unfold World.frozen?
  simp only [hg]
  simp
theorem Kids.set{w:World}{base gg l c n:Nat}(h:Kids w base (.slice (some ⟨gg,0,none⟩) l c) n)(i:Nat)(v:Value):Kids (w.setCell ⟨gg,i,none⟩ v) base (.slice (some ⟨gg,0,none⟩) l c) n:=by
 obtain ⟨xs,h0,h1⟩:=h
 rcases h1 with ⟨hx,_⟩|⟨g,cap,cur,hv,hb,hg,hn,hm,hsz,htk⟩
 ·cases hx
 ·cases hv
  refine ⟨((cur.setIfInBounds i v).toList).take (l * 4),?_,.inr ⟨gg,c,cur.setIfInBounds i v,rfl,hb,heap_setCell_same _ _ _ _ _ _ hg,hn,hm,by simp [hsz],rfl⟩⟩
  simp [hsz]
  omega
structure KS(g m:Nat)(s:ByteArray)(q:Nat)(tw lo op:Bool)(k:Int)(tx:ByteArray)(ns:Value)(gg cap cnt:Nat)(ks:Value)(w0 w:World):Prop where
 r:R w g s q tw lo 0 op
 nd:Nd w m k tx ns ks
 kids:Kids w w0.heap.size (.slice (some ⟨gg,0,none⟩) cnt cap) cnt
 two:Two g m w0 w
 gne:g≠m
 glt:g<w0.heap.size
 mlt:m<w0.heap.size
theorem Kids.lt{w:World}{base gg l c n:Nat}(h:Kids w base (.slice (some ⟨gg,0,none⟩) l c) n):base≤gg∧gg<w.heap.size:=by
 obtain ⟨xs,h⟩:=h
 exact h.lt gg rfl
theorem Kids.block{w w':World}{base gg l c n:Nat}(h:Kids w base (.slice (some ⟨gg,0,none⟩) l c) n)(e:w'.heap[gg]? = w.heap[gg]?):Kids w' base (.slice (some ⟨gg,0,none⟩) l c) n:=by
 obtain ⟨xs,h⟩:=h
 exact ⟨xs,own_block h (fun k hk=>by have:=Option.some.inj hk; subst this; exact e)⟩
theorem KS.setg{g m:Nat}{s:ByteArray}{q:Nat}{tw lo op:Bool}{k:Int}{tx:ByteArray}{ns:Value}{gg cap cnt:Nat}{ks:Value}{w0 w:World}(h:KS g m s q tw lo op k tx ns gg cap cnt ks w0 w)(i:Nat)(v:Value):KS g m s q tw lo op k tx ns gg cap cnt ks w0 (w.setCell ⟨gg,i,none⟩ v):=by
 have hg:=h.kids.lt
 have hset:w.grownBy (w.setCell ⟨gg,i,none⟩ v) (some gg):=Go.Lib.grownBy_setCell _ _ _ _
 have:=h.glt
 have:=h.mlt
 exact ⟨h.r.kept hset (by omega),h.nd.kept hset (by omega),h.kids.set i v,⟨hset.os.trans h.two.os,hset.tape.trans h.two.tape,hset.output.trans h.two.output,Nat.le_trans h.two.size hset.size,fun j hj h1 h2=>(hset.block j (Nat.lt_of_lt_of_le hj h.two.size) (fun e=>by have:=Option.some.inj e; omega)).trans (h.two.block j hj h1 h2)⟩,h.gne,h.glt,h.mlt⟩
theorem KS.setm{g m:Nat}{s:ByteArray}{q:Nat}{tw lo op:Bool}{k:Int}{tx:ByteArray}{ns:Value}{gg cap cnt:Nat}{ks:Value}{w0 w:World}(h:KS g m s q tw lo op k tx ns gg cap cnt ks w0 w)(v:Value):KS g m s q tw lo op k tx ns gg cap cnt v w0 (w.setCell ⟨m,3,none⟩ v):=by
 have hg:=h.kids.lt
 have hset:w.grownBy (w.setCell ⟨m,3,none⟩ v) (some m):=Go.Lib.grownBy_setCell _ _ _ _
 have:=h.mlt
 exact ⟨h.r.kept hset h.gne,h.nd.setKids v,h.kids.block (hset.block gg hg.2 (fun e=>by have:=Option.some.inj e; omega)),h.two.trans (Two.right hset),h.gne,h.glt,h.mlt⟩
theorem KS.start{g m:Nat}{s:ByteArray}{q:Nat}{tw lo op:Bool}{k:Int}{tx:ByteArray}{ns ks:Value}{gg cap cnt:Nat}{xs:List Value}{w0 w3 W w4:World}(hgm:g≠m)(hg:g<w0.heap.size)(hm:m<w0.heap.size)(hR:R w3 g s q tw lo 0 op)(hN:Nd w3 m k tx ns ks)(ht:Two g m w0 w3)(hW:w3.grownBy W none)(hgrow:W.grownBy w4 ks.ownBlock)
  (hks:∀ q,ks.ownBlock=some q→w0.heap.size≤q) (hown:w4.ownsRow w0.heap.size 42 4 (.slice (some ⟨gg,0,none⟩) cnt cap) cnt xs):KS g m s q tw lo op k tx ns gg cap cnt ks w0 w4:=by
 have e1:∀ i,i<w3.heap.size→i<w0.heap.size→w4.heap[i]? = w3.heap[i]? := fun i hi hb=>(hgrow.block i (Nat.lt_of_lt_of_le hi hW.size) (fun e=>by have:=hks i e.symm; omega)).trans (hW.block i hi (by simp))
 exact ⟨hR.block (e1 g hR.lt hg),hN.block (e1 m hN.lt hm),⟨xs,hown⟩,⟨hgrow.os.trans (hW.os.trans ht.os),hgrow.tape.trans (hW.tape.trans ht.tape),hgrow.output.trans (hW.output.trans ht.output),Nat.le_trans ht.size (Nat.le_trans hW.size hgrow.size),fun i hi h1 h2=>(e1 i (Nat.lt_of_lt_of_le hi ht.size) hi).trans (ht.block i hi h1 h2)⟩,hgm,hg,hm⟩
theorem up_up(a b:Nat)(o o':Bool)(r:Option Nat × Bool):up a o (up b o' r)=up (b+a) (o || o') r:=by
 obtain ⟨x,y⟩:=r
 cases x<;>simp [up,Bool.or_assoc,Nat.add_assoc]
theorem array46(n:Nat)(hV:∀ n',n'<n→VAll n')(g m:Nat)(s:ByteArray)(p:Nat)(tw lo op:Bool)(k:Int)(tx:ByteArray)(w:World)(hs:s.size≤4294967296)(h:R w g s p tw lo 0 op)(hN:Nd w m k tx (.slice none 0 0) (.slice none 0 0))(hne:m≠g)(hf:2 * (s.size-p)+1<n):
  Calls Tryz.prog 46 #[.pointer (some ⟨g,0,none⟩),.pointer (some ⟨m,0,none⟩)] w (SubP g m s p tw lo op (brO (chkT tw) lo n 93 .elems ((bytes s).drop p)) w):=by
 obtain ⟨r,HRr⟩:∃ r,Hid (r=brO (chkT tw) lo n 93 .elems ((bytes s).drop p)):=⟨_,Hq rfl⟩
 rw [← HRr.out]
 have SP:=Hq (space24 g s p tw lo 0 op w (by omega) h.2 h)
 have hgw:=h.lt
 have hmw:=hN.lt
 have hps:=h.2
 obtain ⟨c,HC⟩:∃ c,Hid (((bytes s).drop (p+ws ((bytes s).drop p))).headD 0=c):=⟨_,Hq rfl⟩
 have HN:=Hq hN
 have HB:=Hq hne
 obtain ⟨i0,hi,hz0,hz1,hz2⟩:=info_parts info42
 have SEE:=Hq (fun w h=>see_c g s (p+ws ((bytes s).drop p)) tw lo 0 op c HC.out w h)
 clear h hN hne
 by_cases hc:c=93
 ·subst hc
  have hlt:p+ws ((bytes s).drop p)<s.size:=headD_lt HC.out (by omega)
  have E:=Hq (show r=(some (ws ((bytes s).drop p)+1),false) by
   rw [HRr.out]
   unfold brO
   rw [List.drop_drop,HC.out,if_pos rfl])
  go_enter Tryz.func46,Tryz.ntmps46
  go_wp2_with fail
  refine SP.out.mono ?_
  rintro e w1 ⟨rfl,hR,hg⟩
  have HR1:=Hq hR
  have HG1:=Hq hg
  clear hR hg
  go_wp2_with fail
  refine (SEE.out w1 HR1.out).mono ?_
  rintro e w2 ⟨rfl,nd0,rfl⟩
  have hR6:=HR1.out.drew nd0
  obtain ⟨_,c1,_,_,_,_,f1,_,_⟩:=hR6.facts
  have HR6:=Hq (hR6.setAt (p+ws ((bytes s).drop p)+1) (by omega))
  clear hR6
  go_wp2_with fail
  go_ret
  have hg4:=gb_set (gb_drewN HG1.out nd0) 1 (.int .i64 (p+ws ((bytes s).drop p)+1:Nat))
  refine .inl ⟨ws ((bytes s).drop p)+1,by rw [E.out],rfl,?_,⟨k,tx,none,0,0,none,0,0,HN.out.kept hg4 HB.out⟩,Two.left hg4⟩
  rw [E.out,Bool.or_false]
  exact HR6.out
 ·have t1:(c==93)=false:=by simpa using hc
  go_enter Tryz.func46,Tryz.ntmps46
  go_wp2_with fail
  refine SP.out.mono ?_
  rintro e w1 ⟨rfl,hR,hg⟩
  have HR1:=Hq hR
  have HG1:=Hq hg
  have hp1:=hR.2
  clear hR hg
  go_wp2_with fail
  refine (SEE.out w1 HR1.out).mono ?_
  rintro e w2 ⟨rfl,nd0,rfl⟩
  go_wp2_with fail
  go_loopg [] n (fun gk wr=>∃ (q f cnt:Nat) (o':Bool) (ks:Value),Hid (r=up (q-p) o' (run (chkT tw) lo f .elems ((bytes s).drop q)))∧p≤q∧q≤s.size∧f≤n∧2 * (s.size-q)+1<f∧Hid (R wr g s q tw lo 0 (op || o'))∧Hid (Nd wr m k tx (.slice none 0 0) ks)∧Hid (Kids wr w.heap.size ks cnt)∧cnt≤q∧Hid (Two g m w wr)∧Hid (gk=f))
  case atStart=>
   refine ⟨p+ws ((bytes s).drop p),n,0,false,.slice none 0 0,Hq ?_,by omega,hp1,Nat.le_refl _,by omega,Hq ?_,Hq ?_,Hq ⟨[],World.ownsRow_nil _ _ _ _⟩,Nat.zero_le _,Hq ?_,Hq rfl⟩
   ·rw [HRr.out]
    unfold brO
    rw [List.drop_drop,HC.out,if_neg hc,show p+ws ((bytes s).drop p)-p=ws ((bytes s).drop p) by omega]
   ·rw [Bool.or_false]
    exact HR1.out.drew _
   ·exact Nd.kept HN.out (gb_drewN HG1.out nd0) HB.out
   ·exact (Two.left HG1.out).drewN nd0
  case round=>
   obtain ⟨q,f,cnt,o',ks,HE,hpq,hqs,hfn,hff,HR,HNd,HK,hcnt,HT,HG⟩:=hrel
   obtain ⟨f',rfl⟩:∃ f',f=f'+1:=⟨f-1,by omega⟩
   have V:=hV f' (by omega) g s q tw lo (op || o') wr hs HR.out (by omega)
   cases hv:run (chkT tw) lo f' .val ((bytes s).drop q) with
   |mk ro oo=>
   cases ro with
   |none=>
    have VN:=Hq (val_no V hv)
    have E:=Hq (HE.out.trans (by rw [run_elems_no hv]))
    clear V hv
    go_wp2_with fail
    refine VN.out.mono ?_
    rintro e w3 ⟨nd,⟨k2,tx2,a2,la2,ca2,b2,lb2,cb2,rfl⟩,rfl,hfl,hg3⟩
    have HZ:=Hq (And.intro hfl hg3)
    clear hfl hg3
    go_wp2_with fail
    go_ret
    have hg4:wr.grownBy (w3.alloc (.cells #[.int .u8 k2,.string tx2,.slice a2 la2 ca2,.slice b2 lb2 cb2] 42)) (some g):=HZ.out.2.trans (World.grownBy_alloc w3 _ (some g))
    obtain ⟨kv,hown⟩:=HK.out
    obtain ⟨ao,cp,rfl⟩:=own_cnt hown
    refine .inr ⟨by rw [E.out]; rfl,rfl,?_,⟨k,tx,none,0,0,ao,cnt,cp,HNd.out.kept hg4 HB.out⟩,HT.out.trans (Two.left hg4)⟩
    rw [E.out]
    obtain ⟨q',fa,h1,h2,h3⟩:=HZ.out.1
    have e:=h3.block ((World.grownBy_alloc w3 (.cells #[.int .u8 k2,.string tx2,.slice a2 la2 ca2,.slice b2 lb2 cb2] 42) none).block g h3.lt (by simp))
    simp only [Bool.or_assoc] at e
    exact ⟨q',fa,h1,by omega,e⟩
   |some kk=>
    have VY:=Hq (val_yes V hv)
    have HVV:=Hq hv
    clear V hv
    go_wp2_with fail
    refine VY.out.mono ?_
    rintro e w3 ⟨nd,⟨k2,tx2,a2,la2,ca2,b2,lb2,cb2,rfl⟩,rfl,hR3,hg3⟩
    have HZ:=Hq (And.intro hR3 hg3)
    clear hR3 hg3
    obtain ⟨kv,hown⟩:=HK.out
    obtain ⟨ao,cp,rfl⟩:=own_cnt hown
    have hNd3:=HNd.out.kept HZ.out.2 HB.out
    have hwsz:=HT.out.size
    have own3:w3.ownsRow w.heap.size 42 4 (.slice ao cnt cp) cnt kv:=own_block hown (fun q hq=>HZ.out.2.block q (hown.lt q hq).2 (fun e=>by have:=(hown.lt q hq).1; have:=Option.some.inj e; omega))
    have lm:m<w3.heap.size:=Nat.lt_of_lt_of_le hmw (Nat.le_trans hwsz HZ.out.2.size)
    have hbase3:w.heap.size≤w3.heap.size:=Nat.le_trans hwsz HZ.out.2.size
    have hns:∀ q,(Value.slice ao cnt cp).ownBlock=some q→w.heap.size≤q∧q<w3.heap.size:=own3.lt
    have agm:(Value.slice ao cnt cp).ownBlock≠some m:=fun e=>by have:=hns m e; omega
    have i0c:(0:Int)≤(cnt:Int):=Int.natCast_nonneg _
    have i1c:(cnt:Int)<(cnt:Int)+1:=by omega
    obtain ⟨_,e3,_,fr3⟩:=hNd3.facts2
    have hkb:∀ o,(w3.alloc o).cell? ⟨m,3,none⟩=some (.slice ao cnt cp):=fun o=>(World.cell?_of_block (w:=w3) (a:=⟨m,3,none⟩) ((World.grownBy_alloc w3 o none).block m lm (by simp))).trans e3
    have hkf:∀ o,(w3.alloc o).frozen? ⟨m,3,none⟩=false:=fun o=>(World.frozen?_of_block (w:=w3) (a:=⟨m,3,none⟩) ((World.grownBy_alloc w3 o none).block m lm (by simp))).trans fr3
    have hnw:∀ o o',((w3.alloc o).alloc o').drew.heap[w3.heap.size+1]? = some o':=fun o o'=>by
     have h:=heap_alloc_new (w3.alloc o) o'
     rw [show (w3.alloc o).heap.size=w3.heap.size+1 by simp] at h
     exact h
    have hkv:kv.length=cnt * 4:=own3.1
    have hmm:∀ o o',((w3.alloc o).alloc o').drew.heap[m]? = w3.heap[m]? := fun o o'=>((World.grownBy_alloc (w3.alloc o) o' none).block m (by simp; omega) (by simp)).trans ((World.grownBy_alloc w3 o none).block m lm (by simp))
    go_wp2_with fail
    go_upto_region 8 with (fail)
    go_cut [] from 26 to 36 (fun wc=>Hid (∃ gg cap,KS g m s (q+kk) tw lo (op || o' || oo) k tx (.slice none 0 0) gg cap (cnt+1) (.slice (some ⟨gg,0,none⟩) (cnt+1) cap) w wc))
    case first=>
     go_region_law
      ((refine step_append_lies _ (by rfl) (.tmp 29) (.tmp 32) 40 (by rfl) w.heap.size 42 i0 _ 4 72 Tryz.underlying40 hi hz0 hz1 hz2 rfl (by omega) (.slice ao cnt cp) cnt kv (by rfl) (((own3.alloc _).alloc _).drew)
         ⟨w3.heap.size+1,0,none⟩ 1 1 [.int .u8 0,.string ⟨#[]⟩,.slice none 0 0,.slice none 0 0] (by rfl) (by rfl) (World.news_of_block (cs:=#[.int .u8 0,.string ⟨#[]⟩,.slice none 0 0,.slice none 0 0]) (t:=42) (fr:=(0,0)) (hnw _ _)) (by simp [Value.oneCell'])
         (by omega) (by simp only [maxLen]; omega) (by omega) (by simp; omega) (w3.heap.size+2) (by simp) ?_
        intro gg cap w4 hown4 hgrow hat hlt4
        have hb4:=hgrow.block m (by simp; omega) (fun e=>agm e.symm)
        have q1:w4.cell? ⟨m,3,none⟩=some (.slice ao cnt cp):=(World.cell?_of_block (w:=w3) (a:=⟨m,3,none⟩) (hb4.trans (hmm _ _))).trans e3
        have q2:w4.frozen? ⟨m,3,none⟩=false:=(World.frozen?_of_block (w:=w3) (a:=⟨m,3,none⟩) (hb4.trans (hmm _ _))).trans fr3
        have q3:=own_cell hown4 (cnt * 4) (.int .u8 0) (by rw [List.getElem?_append_right (by omega)]; simp [hkv])
        have q4:=own_cell hown4 (cnt * 4+1) (.string ⟨#[]⟩) (by rw [List.getElem?_append_right (by omega)]; simp [hkv])
        have q5:=own_cell hown4 (cnt * 4+2) (.slice none 0 0) (by rw [List.getElem?_append_right (by omega)]; simp [hkv])
        have q6:=own_cell hown4 (cnt * 4+3) (.slice none 0 0) (by rw [List.getElem?_append_right (by omega)]; simp [hkv])
        obtain ⟨q3,q3'⟩:=q3
        obtain ⟨q4,q4'⟩:=q4
        obtain ⟨q5,q5'⟩:=q5
        obtain ⟨q6,q6'⟩:=q6
        have q7:¬ gg=m:=fun e=>by have:=hown4.lt gg rfl; omega
        have q8:¬ m=gg:=fun e=>q7 e.symm))
     all_goals
      go_wp2_with fail
      go_meet
      have K0:=KS.start (Ne.symm HB.out) hgw hmw HZ.out.1 hNd3 (HT.out.trans (Two.left HZ.out.2)) (gb_drewN ((World.grownBy_alloc w3 _ none).trans (World.grownBy_alloc _ _ none)) 1) hgrow (fun q hq=>(hns q hq).1) hown4
      refine Hq ⟨gg,cap,?_⟩
      with_reducible
       first
        |exact ((((K0.setg _ _).setg _ _).setg _ _).setg _ _).setm _
        |exact ((((K0.setm _).setg _ _).setg _ _).setg _ _).setg _ _
    case rest=>
     obtain ⟨gg,cap,HS⟩:=hcut.out
     have HS:=Hq HS
     clear agm i0c i1c e3 fr3 hkb hkf hnw hkv hmm hns own3
     have hqk:=HS.out.r.2
     have SP2:=Hq (space24 g s (q+kk) tw lo 0 (op || o' || oo) wc (by omega) hqk HS.out.r)
     go_wp2_with fail
     refine SP2.out.mono ?_
     rintro e w5 ⟨rfl,hR5,hg5⟩
     obtain ⟨c',HC'⟩:∃ c',Hid (((bytes s).drop (q+kk+ws ((bytes s).drop (q+kk)))).headD 0=c'):=⟨_,Hq rfl⟩
     have SE:=Hq (see_c g s (q+kk+ws ((bytes s).drop (q+kk))) tw lo 0 (op || o' || oo) c' HC'.out w5 hR5)
     have H5:=Hq (And.intro hR5 hg5)
     have hsub:∀ w',w5.grownBy w' (some g)→NdS w' m∧Two g m w w':=fun w' hg=>⟨⟨k,tx,none,0,0,some ⟨gg,0,none⟩,cnt+1,cap,HS.out.nd.kept (H5.out.2.trans hg) HB.out⟩,HS.out.two.trans (Two.left (H5.out.2.trans hg))⟩
     have HSUB:=Hq hsub
     clear hR5 hg5 hsub
     go_wp2_with fail
     refine SE.out.mono ?_
     rintro e w6 ⟨rfl,nd6,rfl⟩
     have hdr:((bytes s).drop q).drop kk=(bytes s).drop (q+kk):=by rw [List.drop_drop]
     have hdr2:((bytes s).drop (q+kk)).drop (ws ((bytes s).drop (q+kk)))=(bytes s).drop (q+kk+ws ((bytes s).drop (q+kk))):=by rw [List.drop_drop]
     by_cases h93:c'=93
     ·have E:=Hq (show r=(some (kk+ws ((bytes s).drop (q+kk))+1+(q-p)),o' || oo) by
       rw [HE.out,run_elems_end HVV.out (by rw [hdr,hdr2,HC'.out]; exact h93),hdr]
       rfl)
      have hlt:q+kk+ws ((bytes s).drop (q+kk))<s.size:=headD_lt HC'.out (by omega)
      have hR6:=H5.out.1.drew nd6
      obtain ⟨_,c1,_,_,_,_,f1,_,_⟩:=hR6.facts
      have HR6:=Hq (hR6.setAt (q+kk+ws ((bytes s).drop (q+kk))+1) (by omega))
      subst h93
      clear hR6 hdr hdr2
      go_wp2_with fail
      go_ret
      refine .inl ⟨kk+ws ((bytes s).drop (q+kk))+1+(q-p),by rw [E.out],rfl,?_,HSUB.out _ (gb_set (gb_drewN (World.grownBy.refl _ _) nd6) _ _)⟩
      rw [E.out,show p+(kk+ws ((bytes s).drop (q+kk))+1+(q-p))=q+kk+ws ((bytes s).drop (q+kk))+1 by omega]
      have e:=HR6.out
      simp only [Bool.or_assoc] at e
      exact e
     ·have t9:(c'==93)=false:=by simpa using h93
      have ND:=need53 g s (q+kk+ws ((bytes s).drop (q+kk))) tw lo (op || o' || oo) 44 44 (w5.drewN nd6) (by omega) (H5.out.1.drew nd6)
      by_cases h44:c'=44
      ·have NY:=Hq (calls_yes ND (needs_head (by decide) (HC'.out.trans h44)))
       have E:=Hq (show r=up (q+kk+ws ((bytes s).drop (q+kk))+1-p) (o' || oo) (run (chkT tw) lo f' .elems ((bytes s).drop (q+kk+ws ((bytes s).drop (q+kk))+1))) by
        rw [HE.out,run_elems_more HVV.out (by rw [hdr,hdr2,HC'.out]; exact h44),hdr,List.drop_drop,up_up,show kk+ws ((bytes s).drop (q+kk))+1+(q-p)=q+kk+ws ((bytes s).drop (q+kk))+1-p by omega,show q+(kk+ws ((bytes s).drop (q+kk))+1)=q+kk+ws ((bytes s).drop (q+kk))+1 by omega])
       have hlt:q+kk+ws ((bytes s).drop (q+kk))<s.size:=headD_lt HC'.out (by omega)
       clear ND hdr hdr2
       go_wp2_with fail
       refine NY.out.mono ?_
       rintro e w7 ⟨rfl,hR7,hg7⟩
       have H7:=Hq (And.intro hR7 hg7)
       clear hR7 hg7
       go_wp2_with fail
       go_roundg f'
       case measure=>have:=HG.out; omega
       case rel=>
        have hg57:=(gb_drewN (World.grownBy.refl w5 (some g)) nd6).trans H7.out.2
        refine ⟨q+kk+ws ((bytes s).drop (q+kk))+1,f',cnt+1,o' || oo,.slice (some ⟨gg,0,none⟩) (cnt+1) cap,E,by omega,by omega,by omega,by omega,Hq ?_,Hq ?_,Hq ?_,by omega,Hq ?_,Hq rfl⟩
        ·have e:=H7.out.1
         simp only [Bool.or_assoc] at e
         exact e
        ·exact HS.out.nd.kept (H5.out.2.trans hg57) HB.out
        ·exact HS.out.kids.block ((hg57.block gg (Nat.lt_of_lt_of_le HS.out.kids.lt.2 H5.out.2.size) (fun e=>by have:=HS.out.kids.lt; have:=Option.some.inj e; omega)).trans (H5.out.2.block gg HS.out.kids.lt.2 (fun e=>by have:=HS.out.kids.lt; have:=Option.some.inj e; omega)))
        ·exact HS.out.two.trans (Two.left (H5.out.2.trans hg57))
      ·have NN:=Hq (calls_no ND (needs_nohead (by rw [HC'.out]; exact h44)))
       have E:=Hq (show r=(none,o' || oo) by
        rw [HE.out,run_elems_else HVV.out (by rw [hdr,hdr2,HC'.out]; exact h93) (by rw [hdr,hdr2,HC'.out]; exact h44)]
        rfl)
       clear ND hdr hdr2
       go_wp2_with fail
       refine NN.out.mono ?_
       rintro e w7 ⟨rfl,hf7,hg7⟩
       have H7:=Hq (And.intro hf7 hg7)
       clear hf7 hg7
       go_wp2_with fail
       go_ret
       refine .inr ⟨by rw [E.out],rfl,?_,HSUB.out _ ((gb_drewN (World.grownBy.refl w5 (some g)) nd6).trans H7.out.2)⟩
       rw [E.out]
       have e:=H7.out.1.mono (show p≤q+kk+ws ((bytes s).drop (q+kk)) by omega)
       simp only [Bool.or_assoc] at e
       exact e
theorem place215(d:Nat)(ds:Array Value)(ao:Option Addr)(c:Nat)(last wh:Int)(nsv bv:Value)(w:World)(hb:w.heap[d]? = some (.cells ds 109 (0,0)))(hT:Top ds ao c last nsv)(h7:ds[7]? = some bv):Calls Tryz.prog 215 #[.pointer (some ⟨d,0,none⟩),.slice none 0 0,.int .i64 wh] w fun e w'=>e=.returned (.slice none 0 0)∧w.grownBy w' none:=by
 obtain ⟨c0,c1,c2,c3,c4⟩:=hT.facts hb
 have c7:w.cell? ⟨d,7,none⟩=some bv:=by rw [cell_of_row _ _ _ _ _ (0,0) hb]; exact h7
 have CP:=Hq (fun w h=>copy146 d bv w h)
 have PL:=Hq (fun w=>place210 ao c last wh (.slice none 0 0) (.slice none 0 0) nsv w)
 clear hT h7 hb
 go_enter Tryz.func215,Tryz.ntmps215
 go_wp2_with fail
 go_region_held3 (fun w'=>w'.cell? ⟨d,7,none⟩=some bv∧w'.cell? ⟨d,2,none⟩=some (.slice none 0 0)) (go_keep)
  (first
   |(go_at_call 146; refine (CP.out _ (by simpa using c2)).mono ?_; rintro e w1 ⟨rfl,rfl⟩))
 go_wp2_with fail
 refine (PL.out _).mono ?_
 rintro e w2 ⟨rfl,hg⟩
 have R:=Hq (show w.grownBy w2 none from ⟨hg.os,hg.tape,hg.output,hg.size,hg.block⟩)
 clear hg
 go_wp2_with fail
 go_ret
 exact ⟨rfl,R.out⟩
theorem as260_162(v:Value)(w:World):(Instr.typeAssert (.iface 260 v) 62 162 true).run Tryz.prog w=.ok (.tuple #[.pointer none,.bool false]) w:=by kernel_rfl
theorem as175_162(v:Value)(w:World):(Instr.typeAssert (.iface 175 v) 62 162 true).run Tryz.prog w=.ok (.tuple #[.pointer none,.bool false]) w:=by kernel_rfl
theorem as166_162(v:Value)(w:World):(Instr.typeAssert (.iface 166 v) 62 162 true).run Tryz.prog w=.ok (.tuple #[.pointer none,.bool false]) w:=by kernel_rfl
theorem as121_121(v:Value)(w:World):(Instr.typeAssert (.iface 121 v) 161 121 true).run Tryz.prog w=.ok (.tuple #[v,.bool true]) w:=by kernel_rfl
theorem eqD2(t u:TypeId)(x y:Value)(w:World)(h:t≠u):(binOp .eql 62 (.iface t x) (.iface u y)).run Tryz.prog w=.ok (.bool false) w:=run_eql_iface_types (P:=Tryz.prog) t u x y Tryz.underlying62 h w
theorem conv172_nil(w:World):(convert 47 172 (.slice none 0 0)).run Tryz.prog w=.ok (.string (strOfNums [])) w:=run_convert_bytes_nil w 47 5 Tryz.underlying47 Tryz.underlying5 _ _ 172 Tryz.underlying172
theorem conv172{w:World}{base n cap:Nat}{ao:Option Addr}{ys:List Int}(ho:w.ownsRow base 5 1 (.slice ao n cap) n (ys.map (Value.int .u8))):(convert 47 172 (.slice ao n cap)).run Tryz.prog w=.ok (.string (strOfNums ys)) w:=by
 have hl:ys.length=n:=by have:=ho.1; simpa using this
 rcases ho.2 with ⟨h,h0⟩|⟨g,cap',cur,h,_,hg,hn,_,hsz,htk⟩
 ·simp only [Value.slice.injEq] at h
  obtain ⟨rfl,rfl,rfl⟩:=h
  have e:ys=[]:=List.eq_nil_of_length_eq_zero hl
  rw [e]
  exact conv172_nil w
 ·simp only [Value.slice.injEq,true_and] at h
  obtain ⟨rfl,rfl⟩:=h
  exact run_convert_bytes_arg w 47 5 Tryz.underlying47 Tryz.underlying5 g 0 n _ ys hl (fun i hi=>by
   rw [Nat.zero_add]
   exact (own_cell ho i (.int .u8 (ys.getD i 0)) (by rw [List.getElem?_map,List.getElem?_eq_getElem (by omega)]; simp [List.getD,show i<ys.length by omega])).1) 172 Tryz.underlying172
theorem slow164_nil(ao:Option Addr)(c:Nat)(w:World):Calls Tryz.prog 164 #[.slice ao 0 c] w fun e w'=>e=.returned (.tuple #[.int .i32 65533,.int .i64 0])∧w=w':=by
 go_enter Tryz.func164,Tryz.ntmps164
 go_wp2_with fail
 go_ret2
 exact ⟨rfl,rfl⟩
theorem dec142_nil(ao:Option Addr)(c:Nat)(w:World):Calls Tryz.prog 142 #[.slice ao 0 c] w fun e w'=>e=.returned (.tuple #[.int .i32 65533,.int .i64 0])∧w=w':=by
 have S:=Hq (fun w=>slow164_nil ao c w)
 go_enter Tryz.func142,Tryz.ntmps142
 go_wp2_with fail
 refine wp_loop_rounds 1 ?_
 rw [rounds_succ]
 go_wp2_with fail
 refine (S.out _).mono ?_
 rintro e w' ⟨rfl,rfl⟩
 go_wp2_with fail
 go_ret2
 exact ⟨rfl,rfl⟩
theorem charErr_nil(g q c:Nat)(wh:ByteArray)(w:World):Calls Tryz.prog 107 #[.slice (some ⟨g,q,none⟩) 0 c,.string wh] w (TextErr w):=by
 have D:=Hq (fun w=>dec142_nil (some ⟨g,q,none⟩) c w)
 have cv:=run_convert_bytes_arg (P:=Tryz.prog) w 47 5 Tryz.underlying47 Tryz.underlying5 g q 0 c [] rfl (fun i hi=>by omega) 9 Tryz.underlying9
 go_enter Tryz.func107,Tryz.ntmps107
 go_wp2_with fail
 refine (D.out _).mono ?_
 rintro e w' ⟨rfl,rfl⟩
 go_wp2_with fail
 go_ret
 exact ⟨_,rfl,World.grownBy_alloc _ _ none⟩
theorem charErrR(B p cap:Nat)(s wh:ByteArray)(w:World)(hT:Lib.Utf8Tabs 12 13 w)(hp:p≤s.size)(hcap:s.size≤cap)(hB:Bf w B s):Calls Tryz.prog 107 #[rest B cap p s.size,.string wh] w (TextErr w):=by
 by_cases h:p<s.size
 ·rw [rest_form h hcap]
  exact charErr107 B p (cap-p) s wh w hT h (by omega) hB
 ·have e:p=s.size:=by omega
  subst e
  unfold rest sliced
  rw [Nat.sub_self]
  by_cases h2:cap=s.size
  ·rw [if_pos h2]
   exact charErr_nil B 0 _ wh w
  ·rw [if_neg h2]
   have e2:(some (⟨B,0,none⟩:Addr)).map (·.add (s.size * 1))=some ⟨B,s.size,none⟩:=by
    simp [Addr.add]
    intro h3
    rw [h3]
    rfl
   rw [e2]
   exact charErr_nil B s.size _ wh w
end Go.Proofs.YtknaalohaagcdaaGreatDoor.Own
