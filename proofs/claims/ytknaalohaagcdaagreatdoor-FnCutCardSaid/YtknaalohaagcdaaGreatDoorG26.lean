import Derived.Test.YtknaalohaagcdaaGreatDoorG01
import Derived.Test.YtknaalohaagcdaaGreatDoorG12
import Derived.Test.YtknaalohaagcdaaGreatDoorG23
import Derived.Test.YtknaalohaagcdaaGreatDoorG25
import Derived.LaidEql
import Derived.Stop.Asserts
import Derived.StillTailTactics
import Derived.Deep.RegionLaw
set_option maxHeartbeats 400000000
set_option maxRecDepth 100000
namespace Go.Proofs.YtknaalohaagcdaaGreatDoor.Own
open Go.RowKit
variable {A:List Addr}
theorem as260_166(v:Value)(w:World):(Instr.typeAssert (.iface 260 v) 62 166 true).run Tryz.prog w=.ok (.tuple #[.pointer none,.bool false]) w:=by kernel_rfl
theorem as175_166(v:Value)(w:World):(Instr.typeAssert (.iface 175 v) 62 166 true).run Tryz.prog w=.ok (.tuple #[.pointer none,.bool false]) w:=by kernel_rfl
theorem as166_166(v:Value)(w:World):(Instr.typeAssert (.iface 166 v) 62 166 true).run Tryz.prog w=.ok (.tuple #[v,.bool true]) w:=by kernel_rfl
theorem may135(qv:Value)(base:Nat)(r:List Int)(w:World)
  (hU:Calls Tryz.prog 154 #[.slice none 0 0,qv] w fun e w'=>∃ ao c ev,e=.returned (.tuple #[.slice ao (0+r.length) c,ev])∧Grew w w' base (.slice none 0 0) 0 [] (.slice ao (0+r.length) c) (r.map (Value.int .u8))):
  Calls Tryz.prog 135 #[qv,.bool false] w fun e w'=>∃ ao c,e=.returned (.slice ao r.length c)∧Grew w w' base (.slice none 0 0) 0 [] (.slice ao r.length c) (r.map (Value.int .u8)):=by
 have U:=Hq hU
 clear hU
 go_enter Tryz.func135,Tryz.ntmps135
 go_wp2_with fail
 refine U.out.mono ?_
 rintro e w' ⟨ao,c,ev,rfl,hg⟩
 rw [Nat.zero_add] at hg ⊢
 have G:=Hq hg
 clear hg
 go_wp2_with fail
 go_ret
 exact ⟨ao,c,rfl,G.out⟩
theorem Er.step{lo:Nat}{lab:Nat→Nat}{w wr w2:World}{r:Option Nat}(h:Er lo lab w wr)(hg:wr.grownBy w2 r)(hr:∀ b,r=some b→w.heap.size≤b∨(lo≤b∧lab b=0)):Er lo lab w w2:=
 ⟨hg.os.trans h.os,hg.tape.trans h.tape,hg.output.trans h.output,Nat.le_trans h.size hg.size,fun b hb hx=>(hg.block b (Nat.lt_of_lt_of_le hb h.size) (fun e=>by have:=hr b e.symm; omega)).trans (h.block b hb hx)⟩
def PM(A:List Addr)(lo m:Nat)(w:World)(lab:Nat→Nat)(w0:World)(pb:Nat)(ev:Value)(ao:Option Addr)(n c:Nat):Prop:=∃ ys:List Int,PB A lo w lab pb ev (.slice ao n c) n ys∧(ys=[]∨∃ t,ys=47::t)∧n≤m∧Er lo lab w0 w
theorem PB.cells{lo:Nat}{w:World}{lab:Nat→Nat}{pb:Nat}{ev rv:Value}{n:Nat}{ys:List Int}(h:PB A lo w lab pb ev rv n ys):w.cell? ⟨pb,0,none⟩=some ev∧w.cell? ⟨pb,1,none⟩=some rv∧w.frozen? ⟨pb,1,none⟩=false:=by
 refine ⟨by rw [cell_of_row _ _ _ _ _ (0,0) h.blk]; rfl,by rw [cell_of_row _ _ _ _ _ (0,0) h.blk]; rfl,?_⟩
 unfold World.frozen?
 simp only [h.blk]
 simp
theorem PM.row{lo m:Nat}{w wr:World}{lab:Nat→Nat}{pb:Nat}{ev:Value}{ao:Option Addr}{n c:Nat}(h:PM A lo m wr lab w pb ev ao n c):∃ X:List Value,wr.cell? ⟨pb,1,none⟩=some (.slice ao n c)∧wr.frozen? ⟨pb,1,none⟩=false∧Hid (wr.ownsRow lo 5 1 (.slice ao n c) n X)∧Hid (∃ ys:List Int,X=ys.map (Value.int .u8)∧PB A lo wr lab pb ev (.slice ao n c) n ys∧(ys=[]∨∃ t,ys=47::t)):=by
 obtain ⟨zs,hp,hz,hn,he⟩:=h
 exact ⟨_,hp.cells.2.1,hp.cells.2.2,Hq hp.row,Hq ⟨zs,rfl,hp,hz⟩⟩
theorem PM.base{lo m:Nat}{w wr:World}{lab:Nat→Nat}{pb:Nat}{ev:Value}{ao:Option Addr}{n c:Nat}(h:PM A lo m wr lab w pb ev ao n c)(hlo:lo≤w.heap.size):lo≤wr.heap.size:=by
 obtain ⟨zs,hp,hz,hn,he⟩:=h
 exact Nat.le_trans hlo he.size
def NameAt(w:World)(rv nv:Value)(r:List Int):Prop:=∃ b0,(∀ g,rv.ownBlock=some g→g<b0)∧w.ownsRow b0 5 1 nv r.length (r.map (Value.int .u8))
theorem PM.named{lo m:Nat}{w w2 wr:World}{lab:Nat→Nat}{pb:Nat}{ev nv:Value}{ao:Option Addr}{n c:Nat}{r:List Int}(h:PM A lo m wr lab w pb ev ao n c)(hg:Grew wr w2 wr.heap.size (.slice none 0 0) 0 [] nv (r.map (Value.int .u8))):PM A lo m w2 lab w pb ev ao n c∧NameAt w2 (.slice ao n c) nv r:=by
 obtain ⟨zs,hp,hz,hn,he⟩:=h
 have gb:wr.grownBy w2 none:=hg.gb
 refine ⟨⟨zs,⟨(gb.block pb hp.lt (by simp)).trans hp.blk,hp.bare,hp.hlo,hp.hlab,own_block hp.row (fun q hq=>gb.block q (hp.row.lt q hq).2 (by simp)),hp.lrow⟩,hz,hn,he.step gb (fun b e=>by cases e)⟩,wr.heap.size,fun g hg=>(hp.row.lt g hg).2,?_⟩
 have:=hg.own
 rw [List.length_map,Nat.zero_add,List.nil_append] at this
 exact this
theorem conv_all{w:World}{base n:Nat}{ao:Option Addr}{cap:Nat}{ys:List Int}(ho:w.ownsRow base 5 1 (.slice ao n cap) n (ys.map (Value.int .u8))):(convert 47 9 (.slice ao n cap)).run Tryz.prog w=.ok (.string (strOfNums ys)) w:=by
 have hl:ys.length=n:=by have:=ho.1; simpa using this
 have e:=conv_piece ho 0 n cap (Nat.zero_le _) (Nat.le_refl _) (by obtain ⟨_,_,h,h1,_⟩:=form_of ho; cases h; exact h1)
 rw [List.drop_zero,Nat.sub_zero,List.take_of_length_le (by omega)] at e
 have:sliced ao 0 n cap 1=.slice ao n cap:=by
  rcases ho.2 with ⟨h,_⟩|⟨g,c,cur,h,_⟩
  ·cases h
   rfl
  ·cases h
   simp [sliced,Addr.add]
 exact (congrArg (fun v=>(convert 47 9 v).run Tryz.prog w) this.symm).trans e
structure PS1(A:List Addr)(lo:Nat)(w w3:World)(lab:Nat→Nat)(pb:Nat)(ev rv vB:Value)(Z:List Value):Prop where
 blk:w3.heap[pb]? = some (.cells #[ev,rv] 170 (0,0))
 bare:Bare A ev
 hlo:lo≤pb
 hlab:lab pb=0
 ne:vB.ownBlock≠some pb
 lrow:∀ g,vB.ownBlock=some g→lo≤g∧lab g=0
 head:∃ t:List Int,Z=(47::t).map (Value.int .u8)
 er:Er lo lab w w3
 base:lo≤w3.heap.size
 new:∀ b,w.heap.size≤b→lab b=0
theorem PM.slash{lo m:Nat}{w w2 w3:World}{lab:Nat→Nat}{pb:Nat}{ev:Value}{ao aoB:Option Addr}{n c cB:Nat}{nv:Value}{r:List Int}{X:List Value}{o:Obj}(h:PM A lo m w2 lab w pb ev ao n c)(hN:NameAt w2 (.slice ao n c) nv r)(hlo:lo≤w.heap.size)(hnew:∀ b,w.heap.size≤b→lab b=0)
  (hX:∃ ys:List Int,X=ys.map (Value.int .u8)∧PB A lo w2 lab pb ev (.slice ao n c) n ys∧(ys=[]∨∃ t,ys=47::t))
  (q1:w3.ownsRow lo 5 1 (.slice aoB (n+1) cB) (n+1) (X++[.int .u8 47])) (q2:(w2.alloc o).grownBy w3 (Value.slice ao n c).ownBlock) (q3:SameRow (.slice ao n c) (.slice aoB (n+1) cB)∨(Value.slice aoB (n+1) cB).ownBlock=some (w2.heap.size+1)):
  PS1 A lo w w3 lab pb ev (.slice ao n c) (.slice aoB (n+1) cB) (X++[.int .u8 47])∧w3.ownsRow 0 5 1 nv r.length (r.map (Value.int .u8)):=by
 obtain ⟨_,_,_,_,he⟩:=h
 obtain ⟨ys,rfl,hp,hz⟩:=hX
 have g2:w2.grownBy w3 (Value.slice ao n c).ownBlock:=(World.grownBy_alloc w2 o _).trans q2
 have hsz:=he.size
 have hnew2:∀ g,(Value.slice aoB (n+1) cB).ownBlock=some g→(Value.slice ao n c).ownBlock=some g∨w2.heap.size<g:=fun g hg=>by
  rcases q3 with hs|hs
  ·rw [hs.own] at hg
   exact .inl hg
  ·rw [hs] at hg
   have:=Option.some.inj hg
   exact .inr (by omega)
 have hlt:=hp.lt
 refine ⟨⟨(g2.block pb hp.lt (fun e=>hp.ne e.symm)).trans hp.blk,hp.bare,hp.hlo,hp.hlab,fun e => ?_,fun g hg => ?_,?_,?_,?_,hnew⟩,?_⟩
 ·rcases hnew2 pb e with h|h
  ·exact hp.ne h
  ·omega
 ·rcases hnew2 g hg with h|h
  ·exact ⟨(hp.row.lt g h).1,hp.lrow g h⟩
  ·exact ⟨by omega,hnew g (by omega)⟩
 ·rcases hz with rfl|⟨t,rfl⟩
  ·exact ⟨[],rfl⟩
  ·exact ⟨t++[47],by simp⟩
 ·exact (he.step (World.grownBy_alloc w2 o none) (fun b e=>by cases e)).step q2 (fun b e=>.inr ⟨(hp.row.lt b e).1,hp.lrow b e⟩)
 ·exact Nat.le_trans hlo (Nat.le_trans hsz g2.size)
 ·obtain ⟨b0,h1,h2⟩:=hN
  exact ownsRow_low (own_block h2 (fun q hq=>g2.block q (h2.lt q hq).2 (fun e=>by have:=h1 q e.symm; have:=(h2.lt q hq).1; omega))) (Nat.zero_le _)
theorem PS1.ended{lo:Nat}{w w3 w4:World}{lab:Nat→Nat}{pb:Nat}{ev rv vB:Value}{Z:List Value}{aoC:Option Addr}{mC cC M:Nat}{zs:List Int}(h:PS1 A lo w w3 lab pb ev rv vB Z)(hpb:pb<w3.heap.size)
  (hown:w4.ownsRow lo 5 1 (.slice aoC mC cC) mC (Z++zs.map (Value.int .u8))) (hg:w3.grownBy w4 vB.ownBlock) (hrel:SameRow vB (.slice aoC mC cC)∨∃ g,(Value.slice aoC mC cC).ownBlock=some g∧w3.heap.size≤g):
  (w4.cell? ⟨pb,1,none⟩=some rv∧w4.frozen? ⟨pb,1,none⟩=false)∧(mC≤M→PE A lo (w4.setCell ⟨pb,1,none⟩ (.slice aoC mC cC)) lab M (.iface 166 (.pointer (some ⟨pb,0,none⟩)))∧Er lo lab w (w4.setCell ⟨pb,1,none⟩ (.slice aoC mC cC))):=by
 have hblk:=(hg.block pb hpb (fun e=>h.ne e.symm)).trans h.blk
 have her:=h.er.size
 refine ⟨⟨by rw [cell_of_row _ _ _ _ _ (0,0) hblk]; rfl,by unfold World.frozen?; simp only [hblk]; simp⟩,fun hM=>⟨?_,?_⟩⟩
 ·obtain ⟨t,rfl⟩:=h.head
  have hne:∀ g,(Value.slice aoC mC cC).ownBlock=some g→g≠pb∧lab g=0:=fun g hx=>by
   rcases hrel with hs|⟨g',hg',hl⟩
   ·rw [hs.own] at hx
    exact ⟨fun e=>h.ne (by rw [← e]; exact hx),(h.lrow g hx).2⟩
   ·rw [hg'] at hx
    have:=Option.some.inj hx
    exact ⟨by omega,h.new g (by omega)⟩
  refine ⟨pb,ev,_,mC,t++zs,rfl,⟨heap_set_cells hblk,h.bare,h.hlo,h.hlab,?_,fun g hx=>(hne g hx).2⟩,hM⟩
  have e:(47::t).map (Value.int .u8)++zs.map (Value.int .u8)=(47::(t++zs)).map (Value.int .u8):=by simp
  rw [e] at hown
  exact own_block hown (fun q hq=>heap_set_other (hne q hq).1)
 ·exact (h.er.step hg (fun b e=>.inr (h.lrow b e))).step gb_setD (fun b e=>.inr (by rw [← Option.some.inj e]; exact ⟨h.hlo,h.hlab⟩))
theorem wrap78(lo m:Nat)(lab:Nat→Nat)(v qv:Value)(r:List Int)(w:World)(hlo:lo≤w.heap.size)(hm:m≤2147483648)(hr:r.length≤268435456)(hv:ErrV A lo w lab m v)
  (hU:∀ w1,Er lo (labN w lab 0) w w1→Calls Tryz.prog 154 #[.slice none 0 0,qv] w1 fun e w'=>∃ ao c ev,e=.returned (.tuple #[.slice ao (0+r.length) c,ev])∧Grew w1 w' w1.heap.size (.slice none 0 0) 0 [] (.slice ao (0+r.length) c) (r.map (Value.int .u8))):
  Calls Tryz.prog 78 #[v,qv] w fun e w'=>∃ v',e=.returned v'∧PE A lo w' (labN w lab 0) (m+1+4 * r.length) v'∧Er lo (labN w lab 0) w w':=by
 obtain ⟨i5,hi,hz0,hz1,hz2⟩:=info_parts info5
 have HV:=Hq hv
 have U:=Hq (fun w1 h=>may135 qv w1.heap.size r w1 (hU w1 h))
 clear hU hv
 have new:∀ ev,Bare A ev→Hid (PM A lo m (w.alloc (.cells #[ev,.slice none 0 0] 170)) (labN w lab 0) w w.heap.size ev none 0 0):=fun ev hev=>
  Hq ⟨[],⟨heap_alloc_new w _,hev,hlo,labN_new (Nat.le_refl _),World.ownsRow_nil _ _ _ _,fun g hg=>by cases hg⟩,.inl rfl,Nat.zero_le _,(Er.refl _ _ _).step (World.grownBy_alloc w _ none) (fun b e=>by cases e)⟩
 rcases HV.out with (⟨a,haA,rfl⟩|⟨b,rfl⟩)|⟨pb,ev,rv,n,t,rfl,hp,hnm⟩
 ·have PMH:=new _ (.inl ⟨a,haA,rfl⟩)
  have AS:=as260_166 (.pointer (some a)) w
  go_enter Tryz.func78,Tryz.ntmps78
  go_wp2_with fail
  refine (U.out _ (by obtain ⟨_,_,_,_,h⟩:=PMH.out; exact h)).mono ?_
  rintro e w2 ⟨aoN,cN,rfl,hg2⟩
  obtain ⟨ev',ao',n',c',HP,HN⟩:∃ ev ao n c,Hid (PM A lo m w2 (labN w lab 0) w w.heap.size ev ao n c)∧Hid (NameAt w2 (.slice ao n c) (.slice aoN r.length cN) r):=⟨_,_,_,_,Hq (PMH.out.named hg2).1,Hq (PMH.out.named hg2).2⟩
  obtain ⟨X,p1,pf,OX,HX⟩:=HP.out.row
  have hn':n'≤m:=by obtain ⟨_,_,_,h,_⟩:=HP.out; exact h
  have hb2:=HP.out.base hlo
  have srcN:Src Tryz.prog 1 47 (.slice (some ⟨w2.heap.size,0,none⟩) 1 1) 1 [.int .u8 47] (w2.alloc (.cells #[.int .u8 47] 5)):=
   Src.ofSlice _ Tryz.underlying47 _ _ _ _ rfl (World.news_of_block (cs:=#[.int .u8 47]) (t:=5) (fr:=(0,0)) (heap_alloc_new w2 _)) (by simp [Value.oneCell'])
  clear hg2 PMH AS
  go_wp2_with (at_builtin; refine wpList_appS _ rfl _ _ 47 47 rfl lo 5 i5 _ 1 Tryz.underlying47 hi hz0 hz1 hz2 rfl _ _ _ rfl (OX.out.alloc _) _ _ _ rfl srcN ?c1 ?c2 ?c3 ?_)
  case c1=>simp only [maxLen]; omega
  case c2=>omega
  case c3=>simp; omega
  intro aoB cB w3 q1 q2 q3 q4
  have HP3:=Hq (HP.out.slash HN.out hlo (fun b hb=>labN_new hb) HX.out q1 q2 q3)
  have C:=Hq (esc136 lo (n'+1) cB aoB _ (.slice aoN r.length cN) (strOfNums r) w3 (by rw [strOfNums_size]; omega) (by omega) q1 HP3.out.1.base (conv_all HP3.out.2))
  clear q1 q2 q3 q4 srcN OX HX
  go_wp2_with fail
  refine C.out.mono ?_
  rintro e w4 ⟨aoC,mC,cC,zs,rfl,hown4,hm4,hgb4,hrel4⟩
  have HE:=Hq (HP3.out.1.ended (M:=m+1+4 * r.length) (Array.getElem?_eq_some_iff.1 HP3.out.1.blk).1 hown4 hgb4 hrel4)
  clear hown4 hgb4 hrel4
  obtain ⟨k1,k2⟩:=HE.out.1
  go_wp2_with fail
  go_ret
  exact ⟨_,rfl,HE.out.2 (by rw [strOfNums_size] at hm4; omega)⟩
 ·have PMH:=new _ (.inr ⟨b,rfl⟩)
  have AS:=as175_166 (.pointer (some ⟨b,0,none⟩)) w
  go_enter Tryz.func78,Tryz.ntmps78
  go_wp2_with fail
  refine (U.out _ (by obtain ⟨_,_,_,_,h⟩:=PMH.out; exact h)).mono ?_
  rintro e w2 ⟨aoN,cN,rfl,hg2⟩
  obtain ⟨ev',ao',n',c',HP,HN⟩:∃ ev ao n c,Hid (PM A lo m w2 (labN w lab 0) w w.heap.size ev ao n c)∧Hid (NameAt w2 (.slice ao n c) (.slice aoN r.length cN) r):=⟨_,_,_,_,Hq (PMH.out.named hg2).1,Hq (PMH.out.named hg2).2⟩
  obtain ⟨X,p1,pf,OX,HX⟩:=HP.out.row
  have hn':n'≤m:=by obtain ⟨_,_,_,h,_⟩:=HP.out; exact h
  have hb2:=HP.out.base hlo
  have srcN:Src Tryz.prog 1 47 (.slice (some ⟨w2.heap.size,0,none⟩) 1 1) 1 [.int .u8 47] (w2.alloc (.cells #[.int .u8 47] 5)):=
   Src.ofSlice _ Tryz.underlying47 _ _ _ _ rfl (World.news_of_block (cs:=#[.int .u8 47]) (t:=5) (fr:=(0,0)) (heap_alloc_new w2 _)) (by simp [Value.oneCell'])
  clear hg2 PMH AS
  go_wp2_with (at_builtin; refine wpList_appS _ rfl _ _ 47 47 rfl lo 5 i5 _ 1 Tryz.underlying47 hi hz0 hz1 hz2 rfl _ _ _ rfl (OX.out.alloc _) _ _ _ rfl srcN ?c1 ?c2 ?c3 ?_)
  case c1=>simp only [maxLen]; omega
  case c2=>omega
  case c3=>simp; omega
  intro aoB cB w3 q1 q2 q3 q4
  have HP3:=Hq (HP.out.slash HN.out hlo (fun b hb=>labN_new hb) HX.out q1 q2 q3)
  have C:=Hq (esc136 lo (n'+1) cB aoB _ (.slice aoN r.length cN) (strOfNums r) w3 (by rw [strOfNums_size]; omega) (by omega) q1 HP3.out.1.base (conv_all HP3.out.2))
  clear q1 q2 q3 q4 srcN OX HX
  go_wp2_with fail
  refine C.out.mono ?_
  rintro e w4 ⟨aoC,mC,cC,zs,rfl,hown4,hm4,hgb4,hrel4⟩
  have HE:=Hq (HP3.out.1.ended (M:=m+1+4 * r.length) (Array.getElem?_eq_some_iff.1 HP3.out.1.blk).1 hown4 hgb4 hrel4)
  clear hown4 hgb4 hrel4
  obtain ⟨k1,k2⟩:=HE.out.1
  go_wp2_with fail
  go_ret
  exact ⟨_,rfl,HE.out.2 (by rw [strOfNums_size] at hm4; omega)⟩
 ·obtain ⟨ao,c,rfl,_,_⟩:=form_of hp.row
  have PMH:=Hq (show PM A lo m w (labN w lab 0) w pb ev ao n c from ⟨_,⟨hp.blk,hp.bare,hp.hlo,(labN_old hp.lt).trans hp.hlab,hp.row,fun g hg=>(labN_old (hp.row.lt g hg).2).trans (hp.lrow g hg)⟩,.inr ⟨t,rfl⟩,hnm,Er.refl _ _ _⟩)
  clear hp hnm
  have AS:=as166_166 (.pointer (some ⟨pb,0,none⟩)) w
  go_enter Tryz.func78,Tryz.ntmps78
  go_wp2_with fail
  refine (U.out _ (by obtain ⟨_,_,_,_,h⟩:=PMH.out; exact h)).mono ?_
  rintro e w2 ⟨aoN,cN,rfl,hg2⟩
  obtain ⟨ev',ao',n',c',HP,HN⟩:∃ ev ao n c,Hid (PM A lo m w2 (labN w lab 0) w pb ev ao n c)∧Hid (NameAt w2 (.slice ao n c) (.slice aoN r.length cN) r):=⟨_,_,_,_,Hq (PMH.out.named hg2).1,Hq (PMH.out.named hg2).2⟩
  obtain ⟨X,p1,pf,OX,HX⟩:=HP.out.row
  have hn':n'≤m:=by obtain ⟨_,_,_,h,_⟩:=HP.out; exact h
  have hb2:=HP.out.base hlo
  have srcN:Src Tryz.prog 1 47 (.slice (some ⟨w2.heap.size,0,none⟩) 1 1) 1 [.int .u8 47] (w2.alloc (.cells #[.int .u8 47] 5)):=
   Src.ofSlice _ Tryz.underlying47 _ _ _ _ rfl (World.news_of_block (cs:=#[.int .u8 47]) (t:=5) (fr:=(0,0)) (heap_alloc_new w2 _)) (by simp [Value.oneCell'])
  clear hg2 PMH AS
  go_wp2_with (at_builtin; refine wpList_appS _ rfl _ _ 47 47 rfl lo 5 i5 _ 1 Tryz.underlying47 hi hz0 hz1 hz2 rfl _ _ _ rfl (OX.out.alloc _) _ _ _ rfl srcN ?c1 ?c2 ?c3 ?_)
  case c1=>simp only [maxLen]; omega
  case c2=>omega
  case c3=>simp; omega
  intro aoB cB w3 q1 q2 q3 q4
  have HP3:=Hq (HP.out.slash HN.out hlo (fun b hb=>labN_new hb) HX.out q1 q2 q3)
  have C:=Hq (esc136 lo (n'+1) cB aoB _ (.slice aoN r.length cN) (strOfNums r) w3 (by rw [strOfNums_size]; omega) (by omega) q1 HP3.out.1.base (conv_all HP3.out.2))
  clear q1 q2 q3 q4 srcN OX HX
  go_wp2_with fail
  refine C.out.mono ?_
  rintro e w4 ⟨aoC,mC,cC,zs,rfl,hown4,hm4,hgb4,hrel4⟩
  have HE:=Hq (HP3.out.1.ended (M:=m+1+4 * r.length) (Array.getElem?_eq_some_iff.1 HP3.out.1.blk).1 hown4 hgb4 hrel4)
  clear hown4 hgb4 hrel4
  obtain ⟨k1,k2⟩:=HE.out.1
  go_wp2_with fail
  go_ret
  exact ⟨_,rfl,HE.out.2 (by rw [strOfNums_size] at hm4; omega)⟩
end Go.Proofs.YtknaalohaagcdaaGreatDoor.Own
namespace Go.Proofs.YtknaalohaagcdaaGreatDoor.Own
open Go.RowKit JG
def NameP(g m:Nat)(s:ByteArray)(p:Nat)(tw lo op:Bool)(k:Int)(tx:ByteArray)(ns ks:Value)(base:Nat)(nms:List ByteArray)(r:Option Nat × Bool)(w:World)(e:Ending)(w':World):Prop:=
 (∃ j,r.1=some j∧e=.returned (.bool true)∧R w' g s (p+j) tw lo 0 (op || r.2)∧
  (∃ ns' nm,Nd w' m k tx ns' ks∧Good nm∧w'.ownsRow base 9 1 ns' (nms.length+1) ((nms++[nm]).map Value.string)∧(nms++[nm]).map bytes=namesO lo (nms.map bytes) ((bytes s).drop p))∧
  Fr (fun i=>i=g∨i=m∨some i=ns.ownBlock) w w')∨
 (r.1=none∧e=.returned (.bool false)∧Failed g s tw lo (op || r.2) p w'∧(∃ ns',Nd w' m k tx ns' ks∧(ns'=ns∨∃ ao l c,ns'=.slice ao l c))∧Fr (fun i=>i=g∨i=m∨some i=ns.ownBlock) w w')
theorem nameO_none{chk:List (List Int)→Bool × Bool}{lo:Bool}{names:List (List Int)}{xs:List Int}(h:quotedO lo xs=none):nameO chk lo names xs=(none,false):=by
 unfold nameO
 rw [h]
theorem nameO_twice{chk:List (List Int)→Bool × Bool}{lo:Bool}{names:List (List Int)}{xs:List Int}{j:Nat}(h:quotedO lo xs=some j)(h1:(chk (names++[xs.take (j+1)])).1=true):nameO chk lo names xs=(none,(chk (names++[xs.take (j+1)])).2):=by
 unfold nameO
 rw [h]
 simp only
 rw [if_pos h1]
theorem nameO_colon{chk:List (List Int)→Bool × Bool}{lo:Bool}{names:List (List Int)}{xs:List Int}{j:Nat}(h:quotedO lo xs=some j)(h1:(chk (names++[xs.take (j+1)])).1=false)(h2:((xs.drop (j+1)).drop (ws (xs.drop (j+1)))).headD 0=58):nameO chk lo names xs=(some (j+1+ws (xs.drop (j+1))+1),(chk (names++[xs.take (j+1)])).2):=by
 unfold nameO
 rw [h]
 simp only
 rw [if_neg (by rw [h1]; simp),if_pos h2]
theorem nameO_else{chk:List (List Int)→Bool × Bool}{lo:Bool}{names:List (List Int)}{xs:List Int}{j:Nat}(h:quotedO lo xs=some j)(h1:(chk (names++[xs.take (j+1)])).1=false)(h2:¬ ((xs.drop (j+1)).drop (ws (xs.drop (j+1)))).headD 0=58):nameO chk lo names xs=(none,(chk (names++[xs.take (j+1)])).2):=by
 unfold nameO
 rw [h]
 simp only
 rw [if_neg (by rw [h1]; simp),if_neg h2]
def NRel(g m:Nat)(s:ByteArray)(q:Nat)(tw lo op:Bool)(k:Int)(tx:ByteArray)(ns ks:Value)(base n:Nat)(xs:List Value)(w wc:World):Prop:=
 ∃ gg cap,Nd wc m k tx (.slice (some ⟨gg,0,none⟩) n cap) ks∧R wc g s q tw lo 0 op∧wc.ownsRow base 9 1 (.slice (some ⟨gg,0,none⟩) n cap) n xs∧gg≠g∧Fr (fun i=>i=g∨i=m∨some i=ns.ownBlock) w wc
theorem name_fin{g m:Nat}{s:ByteArray}{q:Nat}{tw lo op:Bool}{k:Int}{tx:ByteArray}{ns ks:Value}{base n gg cap:Nat}{xs:List Value}{w w1 W w2:World}(hne:m≠g)(hgb:g<base)(hmb:m<base)(H1:R w1 g s q tw lo 0 op)(N1:Nd w1 m k tx ns ks)
  (hw:w.grownBy w1 (some g)) (hW:w1.grownBy W none) (hgrow:W.grownBy w2 ns.ownBlock) (own2:w2.ownsRow base 9 1 (.slice (some ⟨gg,0,none⟩) n cap) n xs) (hns:∀ q,ns.ownBlock=some q→base≤q):
  NRel g m s q tw lo op k tx ns ks base n xs w (w2.setCell ⟨m,2,none⟩ (.slice (some ⟨gg,0,none⟩) n cap)):=by
 have hbg:∀ i,i<base→some i≠ns.ownBlock:=fun i hi e=>by have:=hns i e.symm; omega
 have e1:∀ i,i<w1.heap.size→i<base→w2.heap[i]? = w1.heap[i]? := fun i hi hb=>(hgrow.block i (Nat.lt_of_lt_of_le hi hW.size) (hbg i hb)).trans (hW.block i hi (by simp))
 have N2:=N1.block (e1 m N1.lt hmb)
 have R2:=H1.block (e1 g H1.lt hgb)
 have hset:w2.grownBy (w2.setCell ⟨m,2,none⟩ (.slice (some ⟨gg,0,none⟩) n cap)) (some m):=Go.Lib.grownBy_setCell _ _ _ _
 have hgg:=own2.lt gg rfl
 refine ⟨gg,cap,N2.setNames _,R2.kept hset (fun e=>hne e.symm),own_block own2 (fun i hi => ?_),by omega,?_⟩
 ·have:gg=i:=Option.some.inj hi
  subst this
  exact hset.block gg hgg.2 (fun e=>by have:=Option.some.inj e; omega)
 ·exact (((Fr.of_gb hw (fun i hi _=>.inl (Option.some.inj hi).symm)).trans (Fr.of_gb hW (fun i hi _=>by cases hi))).trans (Fr.of_gb hgrow (fun i hi _=>.inr (.inr hi.symm)))).trans (Fr.of_gb hset (fun i hi _=>.inr (.inl (Option.some.inj hi).symm)))
theorem name_read(g m:Nat)(s:ByteArray)(p:Nat)(tw lo op:Bool)(k:Int)(tx:ByteArray)(ns ks:Value)(base:Nat)(nms:List ByteArray)(w:World)(hs:s.size≤4294967296)(h:R w g s p tw lo 0 op)(hN:Nd w m k tx ns ks)(hne:m≠g)(hgb:g<base)(hmb:m<base)(hbw:base≤w.heap.size)
  (hown:w.ownsRow base 9 1 ns nms.length (nms.map Value.string)) (hG:∀ x∈nms,Good x) (hln:nms.length≤s.size) (j:Nat) (hj:quotedO lo ((bytes s).drop p)=some j):
  Calls Tryz.prog 52 #[.pointer (some ⟨g,0,none⟩),.pointer (some ⟨m,0,none⟩)] w (NameP g m s p tw lo op k tx ns ks base nms (nameO (chkT tw) lo (nms.map bytes) ((bytes s).drop p)) w):=by
 obtain ⟨r,HRr⟩:∃ r,Hid (r=nameO (chkT tw) lo (nms.map bytes) ((bytes s).drop p)):=⟨_,Hq rfl⟩
 rw [← HRr.out]
 have hc:((bytes s).drop p).headD 0=34:=by
  unfold quotedO at hj
  split at hj
  ·assumption
  ·cases hj
 have S:=Hq (see_c g s p tw lo 0 op 34 hc w h)
 have W:=Hq (fun n=>calls_yes (quoted55 g s p tw lo op (w.drewN n) (by omega) (h.drew n)) hj)
 obtain ⟨c0,c1,c2,_,_,_,f1,_,_⟩:=h.facts
 have H:=Hq h
 have HN:=Hq hN
 have HB:=Hq (And.intro hne (And.intro hgb (And.intro hmb hbw)))
 have HO:=Hq hown
 have HJ:=Hq hj
 have HGG:=Hq (And.intro hG hln)
 obtain ⟨i0,hi,hz0,hz1,hz2⟩:=info_parts info9
 clear h hN hc hj hne hown hG hgb hmb hbw hln
 go_enter Tryz.func52,Tryz.ntmps52
 go_wp2_with fail
 refine S.out.mono ?_
 rintro e w' ⟨rfl,n,rfl⟩
 go_wp2_with fail
 refine (W.out n).mono ?_
 rintro e w1 ⟨rfl,hR,hg⟩
 have HR:=Hq hR
 have HG:=Hq ((gb_drewN (World.grownBy.refl w (some g)) n).trans hg)
 have hN1:=HN.out.kept HG.out HB.out.1
 obtain ⟨e2,e3,fr2,fr3⟩:=hN1.facts2
 have HN1:=Hq hN1
 clear c0 c1 c2 f1
 obtain ⟨c0,c1,c2,_,_,_,f1,_,_⟩:=hR.facts
 have hb1:p+j≤s.size:=hR.2
 clear hR hg hN1
 have own1:w1.ownsRow base 9 1 ns nms.length (nms.map Value.string):=own_block HO.out (fun q hq=>HG.out.block q (HO.out.lt q hq).2 (fun e=>by have:=HO.out.lt q hq; have:=HB.out.2.1; have:=Option.some.inj e; omega))
 have hns:∀ q,ns.ownBlock=some q→base≤q∧q<w1.heap.size:=own1.lt
 have agm:ns.ownBlock≠some m:=fun e=>by have:=hns m e; have:=HB.out.2.2.1; omega
 have agg:ns.ownBlock≠some g:=fun e=>by have:=hns g e; have:=HB.out.2.1; omega
 have hbase1:base≤w1.heap.size:=Nat.le_trans HB.out.2.2.2 HG.out.size
 have hq:p+j<s.size:=by
  obtain ⟨_,pre,rest,h1,h2,_⟩:=quotedO_loc HJ.out
  have:=congrArg List.length h1
  rw [List.length_drop,bytes_len] at this
  simp at this h2
  omega
 have i0p:(0:Int)≤(p:Int):=Int.natCast_nonneg _
 have i1p:(p:Int)≤(p:Int)+(j:Int)+1:=by omega
 have i2p:(p:Int)+(j:Int)+1≤(s.size:Int):=by omega
 have iw:IntKind.i64.wrap ((p:Int)+(j:Int)+1)=(p:Int)+(j:Int)+1:=by rw [IntKind.wrap_i64]; omega
 have i3p:((p:Int)+(j:Int)+1).toNat=p+j+1:=by omega
 have hln:=HGG.out.2
 have lg:g<w1.heap.size:=World.block_lt_of_cell? w1 _ c0
 have lm:m<w1.heap.size:=World.block_lt_of_cell? w1 _ e2
 obtain ⟨y,hye⟩:∃ y,s.extract p (p+j+1)=y:=⟨_,rfl⟩
 have HYE:=Hq hye
 have hfa:∀ o,(w1.alloc o).frozen? ⟨m,2,none⟩=false:=fun o=>by
  rw [World.frozen?_of_block (w:=w1) (a:=⟨m,2,none⟩) ((World.grownBy_alloc w1 o none).block m lm (by simp))]
  exact fr2
 have hca:∀ o,(w1.alloc o).drew.cell? ⟨m,2,none⟩=some ns:=fun o=>(World.cell?_of_block (w:=w1) (a:=⟨m,2,none⟩) ((World.grownBy_alloc w1 o none).block m lm (by simp))).trans e2
 have hfb:∀ o,(w1.alloc o).drew.frozen? ⟨m,2,none⟩=false:=hfa
 go_upto_region 7 with (fail)
 go_cut [] from 52 to 71 (fun wc=>Hid (NRel g m s (p+j) tw lo op k tx ns ks base (nms.length+1) (nms.map Value.string++[.string y]) w wc))
 case first=>
  go_region_law
   ((refine step_append_lies _ (by rfl) (.tmp 56) (.tmp 68) 39 (by rfl) base 9 i0 _ 1 16 Tryz.underlying39 hi hz0 hz1 hz2 rfl (by omega) ns nms.length (nms.map Value.string) (by rfl) ((own1.alloc _).drew)
      ⟨w1.heap.size,0,none⟩ 1 1 [.string y] (by rfl) (by rfl) (World.news_of_block (cs:=#[.string y]) (t:=9) (fr:=(0,0)) (heap_alloc_new w1 _)) (by simp [Value.oneCell'])
      (by omega) (by simp only [maxLen]; omega) (by omega) (by simp; omega) (w1.heap.size+1) (by simp) ?_
     intro gg cap w2 hown2 hgrow hat hlt2
     have q1:w2.cell? ⟨m,2,none⟩=some ns:=(hgrow.cell_far ⟨m,2,none⟩ (by simp; omega) (Ne.symm agm)).trans (hca _)
     have q2:w2.frozen? ⟨m,2,none⟩=false:=(hgrow.frozen_far ⟨m,2,none⟩ (by simp; omega) (Ne.symm agm)).trans (hfb _)))
  all_goals go_wp2_with fail
  all_goals go_meet
  all_goals exact Hq (name_fin HB.out.1 HB.out.2.1 HB.out.2.2.1 HR.out HN1.out HG.out (gb_drewN (World.grownBy_alloc w1 _ none) 1) hgrow hown2 (fun q hq=>(hns q hq).1))
 case rest=>
  have HC:=hcut
  clear c0 c1 c2 f1 e2 e3 fr2 fr3 own1 hns agm agg hfa hca hfb
  obtain ⟨gg,cap,hN3,hR3,hO3,hgg,hF3⟩:=HC.out
  have hcp:=hO3.2
  have hy:bytes y=((bytes s).drop p).take (j+1):=by rw [← HYE.out,bytes_extract]; congr 1; omega
  have hGy:Good y:=by
   have h1:=inner_of HJ.out
   rw [← hy,bytes_len] at h1
   exact ⟨by omega,by have:=(quotedO_loc HJ.out).1; omega,h1.1⟩
  have hnames:(nms++[y]).map bytes=namesO lo (nms.map bytes) ((bytes s).drop p):=by
   unfold namesO
   rw [HJ.out,List.map_append,List.map_cons,List.map_nil,hy]
  have hnames2:(nms++[y]).map bytes=nms.map bytes++[((bytes s).drop p).take (j+1)]:=by
   rw [List.map_append,List.map_cons,List.map_nil,hy]
  have hcell:∀ i (h:i<(nms++[y]).length),wc.cell? ⟨gg,i,none⟩=some (.string (nms++[y])[i]):=fun i h=>by
   have e:=hO3.cells (g:=gg) rfl i (.string (nms++[y])[i]) (by
    rw [show nms.map Value.string++[Value.string y]=(nms++[y]).map Value.string by simp]
    rw [List.getElem?_map,List.getElem?_eq_getElem h]
    rfl)
   have hadd:(⟨gg,0,none⟩:Addr).add i=⟨gg,i,none⟩:=by unfold Addr.add; split<;>simp_all
   rwa [hadd] at e
  have hcap:nms.length+1≤cap:=by
   rcases hcp with ⟨h,_⟩|⟨_,_,_,h,_,_,h2,_⟩
   ·cases h
   ·cases h; exact h2
  have HK:=Hq (And.intro hN3 (And.intro hR3 (And.intro hO3 hF3)))
  have HL:=Hq (And.intro hGy (And.intro hnames hnames2))
  obtain ⟨c0,c1,c2,_,_,_,f1,_,_⟩:=hR3.facts
  obtain ⟨e2,_,_,_⟩:=hN3.facts2
  have hdd:∀ q,(bytes s).drop (p+q)=((bytes s).drop p).drop q:=fun q=>by rw [List.drop_drop]
  have fin_yes:∀ (o2:Bool) (w6:World),r=nameO (chkT tw) lo (nms.map bytes) ((bytes s).drop p)→(chkT tw (nms.map bytes++[((bytes s).drop p).take (j+1)])).1=false→(chkT tw (nms.map bytes++[((bytes s).drop p).take (j+1)])).2=o2→
    needs 58 58 ((bytes s).drop (p+j+1+ws ((bytes s).drop (p+j+1))))=some 1→wc.grownBy w6 (some g)→R w6 g s (p+j+1+ws ((bytes s).drop (p+j+1))+1) tw lo 0 (op || o2)→NameP g m s p tw lo op k tx ns ks base nms r w (.returned (.bool true)) w6:=by
   intro o2 w6 hr h1 h2 h3 hg6 hR6
   have h4:((((bytes s).drop p).drop (j+1)).drop (ws (((bytes s).drop p).drop (j+1)))).headD 0=58:=by
    rw [List.drop_drop (i:=j+1),List.drop_drop]
    by_cases hx:((bytes s).drop (p+(j+1+ws (((bytes s).drop (p+(j+1))))))).headD 0=58
    ·rw [show p+(j+1)+ws ((bytes s).drop (p+(j+1)))=p+(j+1+ws (((bytes s).drop (p+(j+1))))) by omega]
     exact hx
    ·exact absurd h3 (by rw [show p+j+1+ws ((bytes s).drop (p+j+1))=p+(j+1+ws ((bytes s).drop (p+(j+1)))) by rw [show p+j+1=p+(j+1) by omega]; omega,needs_nohead hx]; simp)
   have hr':=hr.trans (nameO_colon HJ.out h1 h4)
   refine .inl ⟨j+1+ws (((bytes s).drop p).drop (j+1))+1,by rw [hr'],rfl,?_,?_,?_⟩
   ·rw [hr',h2,List.drop_drop,show p+(j+1+ws ((bytes s).drop (p+(j+1)))+1)=p+j+1+ws ((bytes s).drop (p+j+1))+1 by rw [show p+j+1=p+(j+1) by omega]; omega]
    exact hR6
   ·refine ⟨_,y,HK.out.1.kept hg6 HB.out.1,HL.out.1,?_,HL.out.2.1⟩
    rw [show (nms++[y]).map Value.string=nms.map Value.string++[Value.string y] by simp]
    exact HK.out.2.2.1.kept hg6 (.inr (by simpa [Value.ownBlock] using hgg))
   ·exact HK.out.2.2.2.trans (Fr.of_gb hg6 (fun i hi _=>.inl (Option.some.inj hi).symm))
  have fin_no:∀ (o2:Bool) (w6:World) (q:Nat),r=(none,o2)→wc.grownBy w6 (some g)→p≤q→Failed g s tw lo (op || o2) q w6→NameP g m s p tw lo op k tx ns ks base nms r w (.returned (.bool false)) w6:=by
   intro o2 w6 q hr hg6 hq hf
   refine .inr ⟨by rw [hr],rfl,?_,⟨_,HK.out.1.kept hg6 HB.out.1,.inr ⟨_,_,_,rfl⟩⟩,HK.out.2.2.2.trans (Fr.of_gb hg6 (fun i hi _=>.inl (Option.some.inj hi).symm))⟩
   rw [hr]
   exact hf.mono hq
  clear hN3 hR3 hO3 hF3 hy hGy hnames hnames2 hcp
  have FY:=Hq fin_yes
  have FN:=Hq fin_no
  have HCL:=Hq hcell
  clear fin_yes fin_no hcell
  cases tw
  ·have hAg:=again110 g gg cap s (p+j) false lo op (nms++[y]) nms.length wc (by simp) (by omega) hcap (fun x hx=>by
    rcases List.mem_append.1 hx with hx|hx
    ·exact HGG.out.1 x hx
    ·rw [List.mem_singleton] at hx; rw [hx]; exact HL.out.1) HCL.out hgg HK.out.2.1
   rw [HL.out.2.2] at hAg
   obtain ⟨ck,HCK⟩:∃ ck,Hid (chkS decq (nms.map bytes++[((bytes s).drop p).take (j+1)])=ck):=⟨_,Hq rfl⟩
   rw [HCK.out] at hAg
   obtain ⟨tc,oc⟩:=ck
   have AG:=Hq hAg
   clear hAg
   cases tc
   ·have CK1:(chkT false (nms.map bytes++[((bytes s).drop p).take (j+1)])).1=false:=by rw [show chkT false=chkS decq from rfl,HCK.out]
    have CK2:(chkT false (nms.map bytes++[((bytes s).drop p).take (j+1)])).2=oc:=by rw [show chkT false=chkS decq from rfl,HCK.out]
    have HK1:=Hq (And.intro CK1 CK2)
    clear CK1 CK2
    go_wp2_with fail
    refine AG.out.mono ?_
    rintro e w4 ⟨rfl,hR4,hg4⟩
    clear c0 c1 c2 f1 e2
    have hp4:p+j+1≤s.size:=by omega
    have hR5:=hR4.setAt (p+j+1) hp4
    obtain ⟨_,c1,_,_,_,_,f1,_,_⟩:=hR4.facts
    have SP:=Hq (fun w h=>space24 g s (p+j+1) false lo 0 (op || oc) w (by omega) hp4 h)
    have HR5:=Hq hR5
    have HG4:=Hq (gb_set hg4 1 (.int .i64 (p+j+1:Nat)))
    clear hR5 hR4 hg4
    go_wp2_with fail
    refine (SP.out _ HR5.out).mono ?_
    rintro e w5 ⟨rfl,hR6,hg6⟩
    have ND:=need53 g s (p+j+1+ws ((bytes s).drop (p+j+1))) false lo (op || oc) 58 58 w5 (by omega) hR6
    have HG6:=Hq (HG4.out.trans hg6)
    clear hR6 hg6 c1 f1
    by_cases hcol:needs 58 58 ((bytes s).drop (p+j+1+ws ((bytes s).drop (p+j+1))))=some 1
    ·have NY:=Hq (calls_yes ND hcol)
     have HCOL:=Hq hcol
     clear ND hcol
     go_wp2_with fail
     refine NY.out.mono ?_
     rintro e w6 ⟨rfl,hR7,hg7⟩
     have HZ:=Hq (And.intro hR7 hg7)
     clear hR7 hg7
     go_wp2_with fail
     go_ret
     exact FY.out _ _ HRr.out HK1.out.1 HK1.out.2 HCOL.out (HG6.out.trans HZ.out.2) HZ.out.1
    ·have NN:=Hq (calls_no ND (needs_none hcol))
     have hx:¬ ((((bytes s).drop p).drop (j+1)).drop (ws (((bytes s).drop p).drop (j+1)))).headD 0=58:=by
      intro h4
      rw [List.drop_drop (i:=j+1),List.drop_drop] at h4
      exact hcol (needs_head (by decide) (by rw [show p+j+1=p+(j+1) by omega]; exact h4))
     have E:=Hq (show r=(none,oc) by rw [HRr.out,nameO_else HJ.out HK1.out.1 hx,HK1.out.2])
     clear ND hcol hx
     go_wp2_with fail
     refine NN.out.mono ?_
     rintro e w6 ⟨rfl,hf7,hg7⟩
     have HZ:=Hq (And.intro hf7 hg7)
     clear hf7 hg7
     go_wp2_with fail
     go_ret
     exact FN.out oc _ (p+j+1+ws ((bytes s).drop (p+j+1))) E.out (HG6.out.trans HZ.out.2) (by omega) HZ.out.1
   ·have E:=Hq (HRr.out.trans ((nameO_twice HJ.out (by rw [show chkT false=chkS decq from rfl,HCK.out])).trans (by rw [show chkT false=chkS decq from rfl,HCK.out])))
    go_wp2_with fail
    refine AG.out.mono ?_
    rintro e w4 ⟨rfl,hR4,hg4⟩
    have F:=Hq (fail25 g s (p+j) false lo (op || oc) 2 w4 hR4)
    have HG4:=Hq hg4
    clear hR4 hg4
    go_wp2_with fail
    refine F.out.mono ?_
    rintro e w5 ⟨rfl,hR5,hg5⟩
    have HG5:=Hq (And.intro hR5 hg5)
    clear hR5 hg5
    go_wp2_with fail
    go_ret
    exact FN.out oc _ (p+j) E.out (HG4.out.trans HG5.out.2) (by omega) ⟨p+j,2,by decide,Nat.le_refl _,HG5.out.1⟩
  ·have HK1:=Hq (show (chkT true (nms.map bytes++[((bytes s).drop p).take (j+1)]))=(false,false) from rfl)
   have hR4:=HK.out.2.1
   have hg4:=World.grownBy.refl wc (some g)
   clear c0 c1 f1
   have hp4:p+j+1≤s.size:=by omega
   have hR5:=hR4.setAt (p+j+1) hp4
   obtain ⟨_,c1,_,_,_,_,f1,_,_⟩:=hR4.facts
   have SP:=Hq (fun w h=>space24 g s (p+j+1) true lo 0 op w (by omega) hp4 h)
   have HR5:=Hq hR5
   have HG4:=Hq (gb_set hg4 1 (.int .i64 (p+j+1:Nat)))
   clear hR5 hR4 hg4
   go_wp2_with fail
   refine (SP.out _ HR5.out).mono ?_
   rintro e w5 ⟨rfl,hR6,hg6⟩
   have ND:=need53 g s (p+j+1+ws ((bytes s).drop (p+j+1))) true lo op 58 58 w5 (by omega) hR6
   have HG6:=Hq (HG4.out.trans hg6)
   clear hR6 hg6 c1 f1
   by_cases hcol:needs 58 58 ((bytes s).drop (p+j+1+ws ((bytes s).drop (p+j+1))))=some 1
   ·have NY:=Hq (calls_yes ND hcol)
    have HCOL:=Hq hcol
    clear ND hcol
    go_wp2_with fail
    refine NY.out.mono ?_
    rintro e w6 ⟨rfl,hR7,hg7⟩
    have HZ:=Hq (And.intro hR7 hg7)
    clear hR7 hg7
    go_wp2_with fail
    go_ret
    exact FY.out _ _ HRr.out (congrArg Prod.fst HK1.out) (congrArg Prod.snd HK1.out) HCOL.out (HG6.out.trans HZ.out.2) (by simpa using HZ.out.1)
   ·have NN:=Hq (calls_no ND (needs_none hcol))
    have hx:¬ ((((bytes s).drop p).drop (j+1)).drop (ws (((bytes s).drop p).drop (j+1)))).headD 0=58:=by
     intro h4
     rw [List.drop_drop (i:=j+1),List.drop_drop] at h4
     exact hcol (needs_head (by decide) (by rw [show p+j+1=p+(j+1) by omega]; exact h4))
    have E:=Hq (show r=(none,false) by rw [HRr.out,nameO_else HJ.out (congrArg Prod.fst HK1.out) hx,HK1.out])
    clear ND hcol hx
    go_wp2_with fail
    refine NN.out.mono ?_
    rintro e w6 ⟨rfl,hf7,hg7⟩
    have HZ:=Hq (And.intro hf7 hg7)
    clear hf7 hg7
    go_wp2_with fail
    go_ret
    exact FN.out false _ (p+j+1+ws ((bytes s).drop (p+j+1))) E.out (HG6.out.trans HZ.out.2) (by omega) (by simpa using HZ.out.1)
end Go.Proofs.YtknaalohaagcdaaGreatDoor.Own
