import Derived.Test.YtknaalohaagcdaaGreatDoorG01
import Derived.Test.YtknaalohaagcdaaGreatDoorG23
import Derived.Test.YtknaalohaagcdaaGreatDoorG28
import Derived.Test.YtknaalohaagcdaaGreatDoorG33
import Derived.Test.YtknaalohaagcdaaGreatDoorG35
set_option maxHeartbeats 400000000
set_option maxRecDepth 100000
namespace Go.Proofs.YtknaalohaagcdaaGreatDoor.Own
open Go.RowKit JG
def Byt(xs:List Int):Prop:=∀ x∈xs,0≤x∧x≤255
theorem piece_byt{c:Int}{t:List Int}(h:Inner (c::t))(hb:Byt (c::t)):Byt (pieceD (c::t)).1:=by
 have hbrk:Byt brk:=by unfold brk; intro x hx; simp at hx; omega
 by_cases h92:c=92
 ·subst h92
  obtain ⟨_,_,h3⟩:=inner_piece h
  obtain ⟨d,u,rfl,hu⟩:=h3 rfl
  have e:pieceD (92::d::u)=escD (92::d::u):=by unfold pieceD; rw [if_pos (by rfl)]
  rw [e]
  unfold escD
  rw [show (92::d::u).tail.headD 0=d from rfl]
  have hd:=hb d (by simp)
  repeat' split
  all_goals first
   |exact hbrk
   |(intro x hx; simp at hx; omega; done)
   |skip
  ·rename_i h117 _
   exact encO_byte (hu h117) (by have:=hex4_lt u; subst h117; unfold unitAt; simp; omega)
  ·rename_i h117 hs hp
   refine encO_byte ?_ ?_<;>omega
 ·unfold pieceD
  rw [if_neg (show ¬ (c::t).headD 0=92 from h92)]
  split
  ·exact hbrk
  ·intro x hx
   exact hb x (List.mem_of_mem_take hx)
theorem dec_byt:∀ (m:Nat) (Y:List Int),Y.length≤m→Inner Y→Byt Y→Byt (dec 0 Y).1
 |_,[],_,_,_=>by intro x hx; simp [dec] at hx
 |0,c::t,h,_,_=>by simp at h
 |m+1,c::t,h,hin,hb=>by
  rw [dec_cons]
  have hp:=pieceD_pos (c::t)
  obtain ⟨_,h2,_⟩:=inner_piece hin
  intro x hx
  rcases List.mem_append.1 hx with hx|hx
  ·exact piece_byt hin hb x hx
  ·exact dec_byt m _ (by rw [List.length_drop]; omega) h2 (fun y hy=>hb y (List.mem_of_mem_drop hy)) x hx
theorem dec_le:∀ (m:Nat) (Y:List Int),Y.length≤m→Inner Y→(dec 0 Y).1.length≤3 * Y.length
 |_,[],_,_=>by simp [dec]
 |0,c::t,h,_=>by simp at h
 |m+1,c::t,h,hin=>by
  rw [dec_cons]
  have hp:=pieceD_pos (c::t)
  have hl:=pieceD_le (c::t)
  obtain ⟨h1,h2,_⟩:=inner_piece hin
  have:=dec_le m ((c::t).drop (pieceD (c::t)).2.1) (by rw [List.length_drop]; omega) h2
  rw [List.length_drop] at this
  simp only [List.length_append]
  omega
theorem bf_upto{w:World}{B n:Nat}{s:ByteArray}(h:Bf w B s)(hn:n≤s.size):Bf w B (s.extract 0 n)∧(s.extract 0 n).size=n:=by
 have hsz:(s.extract 0 n).size=n:=by simp; omega
 refine ⟨fun i hi => ?_,hsz⟩
 have hi2:i<s.size:=by omega
 have e:((s.extract 0 n)[i].toNat:Int)=(s[i].toNat:Int):=by
  have h1:=bytes_drop hi
  have h2:=bytes_drop hi2
  rw [bytes_extract,List.drop_zero,Nat.sub_zero,List.drop_take,h2,show n-i=(n-i-1)+1 by omega,List.take_succ_cons] at h1
  exact (List.cons.inj h1).1.symm
 rw [e]
 exact h i hi2
theorem name_lit{lo:Bool}{s:ByteArray}{pa j:Nat}(h:quotedO lo ((bytes s).drop pa)=some j)(hn:pa+(j+1)≤s.size):∃ Y,Lit (s.extract 0 (pa+(j+1))) pa (j+1) Y∧Inner Y∧decq (((bytes s).drop pa).take (j+1))=dec 0 Y∧Byt Y∧Y=((bytes s).drop pa).tail.take (j-1):=by
 have hsz:(s.extract 0 (pa+(j+1))).size=pa+(j+1):=by simp; omega
 have hx:(bytes (s.extract 0 (pa+(j+1)))).drop pa=((bytes s).drop pa).take (j+1):=by
  rw [bytes_extract,List.drop_zero,Nat.sub_zero,List.drop_take]
  congr 1
  omega
 obtain ⟨hj1,pre,rest,e,hl,_,hall⟩:=quotedO_loc h
 have hq:quotedO lo ((bytes (s.extract 0 (pa+(j+1)))).drop pa)=some j:=by
  rw [hx,e]
  have:=hall []
  have e2:(34::pre++34::rest).take (j+1)=34::pre++[34]:=by
   rw [show 34::pre++34::rest=(34::pre++[34])++rest by simp]
   exact List.take_left' (by simp at hl ⊢; omega)
  rw [e2]
  exact this
 obtain ⟨Y,hY1,hY2,hY3⟩:=Lit.of hq (by rw [hsz])
 rw [hx] at hY3
 have hYe:Y=((bytes s).drop pa).tail.take (j-1):=by
  have h1:=hY1.at_
  rw [hx] at h1
  have h2:=congrArg List.tail h1
  rw [e] at h2 ⊢
  have h3:(34::pre++34::rest).take (j+1)=34::pre++[34]:=by
   rw [show 34::pre++34::rest=(34::pre++[34])++rest by simp]
   exact List.take_left' (by simp at hl ⊢; omega)
  rw [h3] at h2
  have h4:pre++[34]=Y++[34]:=by simpa using h2
  have h5:pre=Y:=List.append_cancel_right h4
  subst h5
  have:(34::pre++34::rest).tail.take (j-1)=pre:=by
   show (pre++34::rest).take (j-1)=pre
   exact List.take_left' (by simp at hl; omega)
  exact this.symm
 refine ⟨Y,hY1,hY2,hY3,?_,hYe⟩
 rw [hYe]
 intro x hx
 exact bytes_byte s x (List.mem_of_mem_drop (List.mem_of_mem_tail (List.mem_of_mem_take hx)))
theorem verb77(x:Int)(b:Bool)(hx:0≤x∧x<4)(hb:decide (x % 2=0)=b)(w:World):Calls Tryz.prog 77 #[.int .u64 x] w fun e w'=>e=.returned (.bool b)∧w=w':=by
 subst hb
 rcases (show x=0∨x=1∨x=2∨x=3 by omega) with rfl|rfl|rfl|rfl
 all_goals
  go_enter Tryz.func77,Tryz.ntmps77
  go_wp2_with fail
  go_ret
  exact ⟨congrArg (fun b=>Ending.returned (.bool b)) (by decide),rfl⟩
theorem joinA(F:Nat)(fl x:Int)(w:World)(h:Fl w F fl)(hx:0≤x∧x<4):Calls Tryz.prog 152 #[.pointer (some ⟨F,0,none⟩),.int .u64 x] w fun e w'=>e=.returned (.tuple #[])∧∃ fl',Fl w' F fl'∧w.grownBy w' (some F):=by
 obtain ⟨c0,f0⟩:=h.facts
 have hb:∃ v,bits .or .u64 fl x=v∧0≤v∧v<4:=by
  obtain ⟨_,h0,h4⟩:=h
  rcases (show fl=0∨fl=1∨fl=2∨fl=3 by omega) with rfl|rfl|rfl|rfl<;>rcases (show x=0∨x=1∨x=2∨x=3 by omega) with rfl|rfl|rfl|rfl
  all_goals exact ⟨_,rfl,by decide,by decide⟩
 obtain ⟨v,hv,v0,v4⟩:=hb
 have H:=Hq h
 have HV:=Hq (And.intro v0 v4)
 clear h v0 v4 hx
 go_enter Tryz.func152,Tryz.ntmps152
 go_wp2_with fail
 go_end0
 refine ⟨rfl,v,⟨?_,HV.out.1,HV.out.2⟩,Go.Lib.grownBy_setCell _ _ _ _⟩
 rw [heap_setCell_same _ _ _ _ _ _ H.out.1]
 rfl
theorem pop103d(d A k cap:Nat)(u:FrameMode)(w:World)(hk:k<4294967296)(hcap:k+1≤cap)(hc:NsC w d (.slice (some ⟨A,0,none⟩) (k+1) cap)):
  CallsD Tryz.prog 103 #[.pointer (some ⟨d,4,none⟩)] u w fun e u' w'=>u'=u∧e=.returned (.tuple #[])∧∃ n,w'=(w.drewN n).setCell ⟨d,4,none⟩ (.slice (some ⟨A,0,none⟩) k cap):=by
 obtain ⟨c1,f1⟩:=hc
 have i0:(0:Int)≤(k:Int):=Int.natCast_nonneg _
 have i1:(k:Int)≤(cap:Int):=by omega
 have i2:k≤cap:=by omega
 go_enter_d Tryz.func103,Tryz.ntmps103
 go_wp2_with fail
 go_region
 all_goals go_end0
 all_goals exact ⟨rfl,_,rfl⟩
structure OT(A:List Addr)(base d F B cap k kk:Nat)(s:ByteArray)(vals:Int)(eU eI:Value)(lab:Nat→Nat)(ds:Array Value)(w wr:World)(lab':Nat→Nat)(ds':Array Value)(nsv':Value):Prop where
 fm:Fm lab lab' k d F w wr
 hds:DS A wr lab' base d F B cap kk s vals 0 eU eI ds' nsv'
 b4:But4 ds ds'
section
variable {A:List Addr} {w wr w3:World} {lab lab' lab2:Nat→Nat} {base d F B cap k kk:Nat} {s:ByteArray} {vals:Int} {eU eI:Value} {ds ds' ds2:Array Value} {nsv nsv' nsv2:Value} {o:Option Nat} {q m:Nat}
theorem OT.gb0(h:OT A base d F B cap k kk s vals eU eI lab ds w wr lab' ds' nsv')(hg:wr.grownBy w3 none):OT A base d F B cap k kk s vals eU eI lab ds w w3 lab' ds' nsv':=⟨h.fm.trans (Fm.gb0 hg),h.hds.gb0 hg,h.b4⟩
theorem OT.gbF{fl:Int}(h:OT A base d F B cap k kk s vals eU eI lab ds w wr lab' ds' nsv')(hg:wr.grownBy w3 (some F))(hf:Fl w3 F fl):OT A base d F B cap k kk s vals eU eI lab ds w w3 lab' ds' nsv':=⟨h.fm.trans (Fm.gbF hg),h.hds.gbF hg hf,h.b4⟩
theorem OT.er(h:OT A base d F B cap k kk s vals eU eI lab ds w wr lab' ds' nsv')(hE:Er w.heap.size (labN wr lab' 0) wr w3)(hb:base≤w.heap.size):OT A base d F B cap k kk s vals eU eI lab ds w w3 (labN wr lab' 0) ds' nsv':=
 ⟨h.fm.er hE.labN (labN_eq _ _ _) (Nat.le_refl _),h.hds.er hE.labN (labN_eq _ _ _) hb,h.b4⟩
theorem OT.fz(h:OT A base d F B cap k kk s vals eU eI lab ds w wr lab' ds' nsv')(hf:Fz lab' k (fun _=>False) wr w3)(hl:LabEq wr lab' lab2)(hn:∀ K nsv,NS wr lab' base K nsv→NS w3 lab2 base K nsv):OT A base d F B cap k kk s vals eU eI lab ds w w3 lab2 ds' nsv':=
 ⟨h.fm.trans (Fm.of_fz hf (fun _ _ h=>h.elim) hl),h.hds.fz hf hl (hn _ _ h.hds.ns),h.b4⟩
theorem OT.val(h:OT A base d F B cap k kk s vals eU eI lab ds w wr lab' ds' nsv')(hk:k≤kk)(hf:Fm lab' lab2 kk d F wr w3)(hd:DS A w3 lab2 base d F B cap kk s vals 0 eU eI ds2 nsv2)(hb4:But4 ds' ds2):OT A base d F B cap k kk s vals eU eI lab ds w w3 lab2 ds2 nsv2:=by
 have hf2:Fm lab' lab2 k d F wr w3:=by
  obtain ⟨i,rfl⟩:∃ i,kk=k+i:=⟨kk-k,by omega⟩
  clear hk hd h hb4
  induction i with
  |zero=>exact hf
  |succ i ih=>exact ih (Fm.down hf)
 exact ⟨h.fm.trans hf2,hd,h.b4.trans hb4⟩
theorem OT.start0(h:DS A w lab base d F B cap k s vals 0 eU eI ds nsv):OT A base d F B cap k k s vals eU eI lab ds w w lab ds nsv:=⟨Fm.refl _ _ _ _ _,h,But4.refl _⟩
theorem obj_yes_T{tmps:Array Value}{j:Nat}(h:OT A base d F B cap k k s vals eU eI lab ds w wr lab' ds' nsv')(ho:o=some j)(h8:tmps.getD 8 undef=.int .i64 (q+j:Nat))(h9:tmps.getD 9 undef=.nilIface):
  bodyPostD Tryz.prog Tryz.f131 (ValQ A base d F B cap k s vals eU eI lab ds o q m w) Exit.ret { tmps:=tmps,defers:=[] } wr:=
 ⟨_,results_tmp2 rfl _ _ _,lab',ds',nsv',h.fm,h.hds,h.b4,.inl ⟨j,ho,by rw [h8,h9]⟩⟩
theorem obj_no_T{tmps:Array Value}{n:Nat}{v:Value}(h:OT A base d F B cap k k s vals eU eI lab ds w wr lab' ds' nsv')(_hk:k<4294967296)(_hb:base≤w.heap.size)(ho:o=none)(h8:tmps.getD 8 undef=.int .i64 n)(h9:tmps.getD 9 undef=v)(hn:n≤s.size)(hv:ErrV A w.heap.size wr lab' m v):
  bodyPostD Tryz.prog Tryz.f131 (ValQ A base d F B cap k s vals eU eI lab ds o q m w) Exit.ret { tmps:=tmps,defers:=[] } wr:=
 ⟨_,results_tmp2 rfl _ _ _,lab',ds',nsv',h.fm,h.hds,h.b4,.inr ⟨ho,n,v,by rw [h8,h9],hn,hv⟩⟩
theorem OT.shut(h:OT A base d F B cap k (k+1) s vals eU eI lab ds w wr lab' ds' nsv'):∃ A' c,NsC wr d (.slice (some ⟨A',0,none⟩) (k+1) c)∧k+1≤c∧∀ n,(wr.grownBy (wr.drewN n) none∧(wr.drewN n).grownBy ((wr.drewN n).setCell ⟨d,4,none⟩ (.slice (some ⟨A',0,none⟩) k c)) (some d))∧
  OT A base d F B cap k k s vals eU eI lab ds w ((wr.drewN n).setCell ⟨d,4,none⟩ (.slice (some ⟨A',0,none⟩) k c)) lab' (ds'.setIfInBounds 4 (.slice (some ⟨A',0,none⟩) k c)) (.slice (some ⟨A',0,none⟩) k c):=by
 obtain ⟨A',c,cs,rfl,_,_,_,hc,_⟩:=h.hds.ns.form
 refine ⟨A',c,NsC.of_block h.hds.db.blk h.hds.c4,hc,fun n => ?_⟩
 have g1:wr.grownBy (wr.drewN n) none:=gb_drewN (World.grownBy.refl _ _) n
 have g2:(wr.drewN n).grownBy ((wr.drewN n).setCell ⟨d,4,none⟩ (.slice (some ⟨A',0,none⟩) k c)) (some d):=gb_setD
 exact ⟨⟨g1,g2⟩,(h.fm.trans (Fm.gb0 g1)).trans (Fm.gbd g2),h.hds.pop,h.b4.trans (But4.set _ _)⟩
theorem obj_yes_F{tmps:Array Value}{j:Nat}(h:OT A base d F B cap k (k+1) s vals eU eI lab ds w wr lab' ds' nsv')(hk:k<4294967296)(ho:o=some j)(h8:tmps.getD 8 undef=.int .i64 (q+j:Nat))(h9:tmps.getD 9 undef=.nilIface):
  bodyPostD Tryz.prog Tryz.f131 (ValQ A base d F B cap k s vals eU eI lab ds o q m w) Exit.ret { tmps:=tmps,defers:=[{ target:=.fn (.func 103) #[],args:=#[.pointer (some ⟨d,4,none⟩)] }] } wr:=by
 obtain ⟨A',c,hc,hkc,hall⟩:=h.shut
 refine leaves_cons (f:=103) (args:=#[.pointer (some ⟨d,4,none⟩)]) (by simp) (by simp [go_sem]) ?_
 refine (pop103d d A' k c .returning wr hk hkc hc).mono ?_
 rintro e u' w'' ⟨rfl,rfl,n,rfl⟩
 obtain ⟨_,ht⟩:=hall n
 exact ⟨_,results_tmp2 rfl _ _ _,lab',_,_,ht.fm,ht.hds,ht.b4,.inl ⟨j,ho,by rw [h8,h9]⟩⟩
theorem obj_no_F{tmps:Array Value}{n:Nat}{v:Value}(h:OT A base d F B cap k (k+1) s vals eU eI lab ds w wr lab' ds' nsv')(hk:k<4294967296)(hb:base≤w.heap.size)(ho:o=none)(h8:tmps.getD 8 undef=.int .i64 n)(h9:tmps.getD 9 undef=v)(hn:n≤s.size)(hv:ErrV A w.heap.size wr lab' m v):
  bodyPostD Tryz.prog Tryz.f131 (ValQ A base d F B cap k s vals eU eI lab ds o q m w) Exit.ret { tmps:=tmps,defers:=[{ target:=.fn (.func 103) #[],args:=#[.pointer (some ⟨d,4,none⟩)] }] } wr:=by
 obtain ⟨A',c,hc,hkc,hall⟩:=h.shut
 refine leaves_cons (f:=103) (args:=#[.pointer (some ⟨d,4,none⟩)]) (by simp) (by simp [go_sem]) ?_
 refine (pop103d d A' k c .returning wr hk hkc hc).mono ?_
 rintro e u' w'' ⟨rfl,rfl,n',rfl⟩
 obtain ⟨⟨g1,g2⟩,ht⟩:=hall n'
 exact ⟨_,results_tmp2 rfl _ _ _,lab',_,_,ht.fm,ht.hds,ht.b4,.inr ⟨ho,n,v,by rw [h8,h9],hn,(hv.gb g1 (fun b e=>by cases e)).gb g2 (fun b e=>by rw [← Option.some.inj e]; exact Nat.lt_of_lt_of_le h.hds.bd hb)⟩⟩
end
def decs(names:List (List Int)):List (List Int):=names.map fun x=>(decq x).1
theorem decs_snoc(names:List (List Int))(x:List Int):decs (names++[x])=decs names++[(decq x).1]:=by unfold decs; simp
theorem chk_names(names:List (List Int))(x:List Int):(chkD false (names++[x])).1=decide ((decq x).1∈decs names):=by
 show (chkI decq (names++[x])).1=_
 unfold chkI decs
 simp
theorem unqAt{A:List Addr}{w:World}{lab:Nat→Nat}{base d F B cap kk:Nat}{s:ByteArray}{vals:Int}{eU eI:Value}{ds:Array Value}{nsv:Value}{lo:Bool}{pa j:Nat}(h:DS A w lab base d F B cap kk s vals 0 eU eI ds nsv)(hq:quotedO lo ((bytes s).drop pa)=some j)(hn:pa+(j+1)≤s.size)(hs:s.size≤4294967296)(cp:Nat)(hcp:j+1≤cp)
  (b2 N c2:Nat) (ao2:Option Addr) (xs:List Value) (hown:w.ownsRow b2 5 1 (.slice ao2 N c2) N xs) (hb:b2≤w.heap.size) (hN:N≤4294967296) (hfar:∀ g,(Value.slice ao2 N c2).ownBlock=some g→base≤g):
  Calls Tryz.prog 154 #[.slice ao2 N c2,.slice (some ⟨B,pa,none⟩) (j+1) cp] w fun e w'=>∃ ao c ev,e=.returned (.tuple #[.slice ao (N+(decq (((bytes s).drop pa).take (j+1))).1.length) c,ev])∧Grew w w' b2 (.slice ao2 N c2) N xs (.slice ao (N+(decq (((bytes s).drop pa).take (j+1))).1.length) c) ((decq (((bytes s).drop pa).take (j+1))).1.map (Value.int .u8)):=by
 obtain ⟨Y,hl,hin,hd,_,_⟩:=name_lit hq hn
 obtain ⟨hbf,hsz⟩:=bf_upto h.buf hn
 have h18:=h.b18
 have hB:=h.bB
 exact unq154 B pa cp (j+1) b2 N c2 ao2 _ eU eI xs Y _ w (by omega) hl hin (by rw [hd]) hcp hown hb hN ⟨hbf,h.gl,h.bl,fun e=>by have:=hfar B e; omega,fun g hg=>by have:=hfar g hg; omega⟩
theorem name_len{lo:Bool}{s:ByteArray}{pa j:Nat}(hq:quotedO lo ((bytes s).drop pa)=some j)(hn:pa+(j+1)≤s.size):(decq (((bytes s).drop pa).take (j+1))).1.length≤3 * (j+1)∧Byt (decq (((bytes s).drop pa).take (j+1))).1:=by
 obtain ⟨Y,hl,hin,hd,hb,_⟩:=name_lit hq hn
 rw [hd]
 have:=dec_le Y.length Y (Nat.le_refl _) hin
 exact ⟨by have:=hl.len; omega,dec_byt Y.length Y (Nat.le_refl _) hin hb⟩
theorem insAt{A:List Addr}{w:World}{lab:Nat→Nat}{base d F B cap kk k:Nat}{s:ByteArray}{vals:Int}{eU eI:Value}{ds:Array Value}{nsv:Value}{lo:Bool}{pa j:Nat}(h:DS A w lab base d F B cap kk s vals 0 eU eI ds nsv)(hq:quotedO lo ((bytes s).drop pa)=some j)(hn:pa+(j+1)≤s.size)(hs:s.size≤4096)(cp:Nat)(hcp:j+1≤cp)
  (A0:Nat) (D:List (List Int)) (v1 v2:Value) (mo:Option Nat) (hA:Act Tryz.prog w lab base A0 k D v1 v2 mo) (hD:D.flatten.length≤65536) (hD2:D.length≤65536) (verb:Bool) (hv:verb=true→VerbL (((bytes s).drop pa).tail.take (j-1))):
  Calls Tryz.prog 76 #[.pointer (some ⟨A0,3 * k,none⟩),.slice (some ⟨B,pa,none⟩) (j+1) cp,.bool verb] w (InsP lab base A0 k D (decq (((bytes s).drop pa).take (j+1))).1 w):=by
 obtain ⟨Y,hl,hin,hd,hb,hYe⟩:=name_lit hq hn
 obtain ⟨hlen,hbyt⟩:=name_len hq hn
 obtain ⟨hj1,_⟩:=quotedO_loc hq
 obtain ⟨ao2,c2,rfl,_,_⟩:=form_of hA.r2
 have hL:=hl.len
 cases verb with
 |false=>
  refine quoted76 lab base A0 k B pa (j+1) cp D _ w ?_
  exact ins134 lab base A0 k D.flatten.length _ c2 ao2 w D D.flatten v1 _ mo _ true rfl rfl rfl hA h.hb hbyt (by omega) (by omega) (.inr ⟨rfl,unqAt h hq hn (by omega) cp hcp base _ c2 ao2 _ hA.r2 h.hb (by omega) (fun g hg=>(hA.r2.lt g hg).1)⟩)
 |true=>
  refine verbatim76 lab base A0 k B pa (j+1) cp D _ w (by omega) (by omega) hcp ?_
  have hde:(decq (((bytes s).drop pa).take (j+1))).1=Y:=by
   have:=(hv rfl).all
   rw [← hYe] at this
   rw [hd,this]
  have hYl:Y.length=j+1-2:=by omega
  rw [hde] at hbyt ⊢
  refine ins134 lab base A0 k D.flatten.length _ c2 ao2 w D D.flatten v1 _ mo Y false rfl rfl hYl hA h.hb hbyt (by omega) (by omega) (.inl ⟨rfl,_,_,rfl,fun i u hu => ?_⟩)
  have hi:=(List.getElem?_eq_some_iff.1 hu).1
  rw [List.length_map] at hi
  have hadd:(⟨B,pa+1,none⟩:Addr).add i=⟨B,pa+1+i,none⟩:=by unfold Addr.add; split<;>simp_all
  have hlt:pa+1+i<s.size:=by omega
  rw [hadd,h.buf _ hlt]
  have e1:Y[i]? = some (s[pa+1+i].toNat:Int):=by
   rw [hYe,List.getElem?_take,if_pos (by omega),List.tail_drop,List.getElem?_drop]
   have:=bytes_drop hlt
   have h2:=congrArg List.head? this
   rw [List.head?_drop,List.head?_cons] at h2
   exact h2
  rw [List.getElem?_map,e1] at hu
  exact hu
end Go.Proofs.YtknaalohaagcdaaGreatDoor.Own
