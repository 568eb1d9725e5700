import Derived.Test.YtknaalohaagcdaaGreatDoorG01
import Derived.Test.YtknaalohaagcdaaGreatDoorG18
import Derived.Test.YtknaalohaagcdaaGreatDoorG22
import Derived.Test.YtknaalohaagcdaaGreatDoorG27
import Derived.Test.YtknaalohaagcdaaGreatDoorG29
import Derived.Test.YtknaalohaagcdaaGreatDoorG30
import Derived.Deep.RegionLaw
set_option maxHeartbeats 400000000
set_option maxRecDepth 100000
namespace Go.Proofs.YtknaalohaagcdaaGreatDoor.Own
open Go.RowKit JG
theorem info83:(Tryz.prog.info? 83).map (fun i=>(i.zero,i.size,i.bytes))=some (some (.int .u64 0),1,8):=by kernel_rfl
structure Lo(d:Nat)(o:Option Nat)(w w':World):Prop where
 os:w'.os=w.os
 tape:w'.tape=w.tape
 output:w'.output=w.output
 size:w.heap.size≤w'.heap.size
 keep:∀ b,b<w.heap.size→b≠d→some b≠o→w'.heap[b]? = w.heap[b]?
theorem Lo.refl(d:Nat)(o:Option Nat)(w:World):Lo d o w w:=⟨rfl,rfl,rfl,Nat.le_refl _,fun _ _ _ _=>rfl⟩
theorem Lo.trans{d:Nat}{o:Option Nat}{a b c:World}(h:Lo d o a b)(h2:Lo d o b c):Lo d o a c:=⟨h2.os.trans h.os,h2.tape.trans h.tape,h2.output.trans h.output,Nat.le_trans h.size h2.size,fun i hi hd ho=>(h2.keep i (Nat.lt_of_lt_of_le hi h.size) hd ho).trans (h.keep i hi hd ho)⟩
theorem Lo.gb{d:Nat}{o:Option Nat}{w w':World}{r:Option Nat}(hg:w.grownBy w' r)(hr:r=none∨r=o):Lo d o w w':=
 ⟨hg.os,hg.tape,hg.output,hg.size,fun b hlt _ hne=>hg.block b hlt (fun e=>by rcases hr with h|h<;>rw [h] at e<;>first|exact hne e|cases e)⟩
theorem Lo.set{d i:Nat}{o:Option Nat}{v:Value}{w:World}:Lo d o w (w.setCell ⟨d,i,none⟩ v):=⟨rfl,rfl,rfl,by rw [set_size]; exact Nat.le_refl _,fun b _ hne _=>heap_set_other (fun e=>hne (by rw [e]))⟩
def But01(ds ds':Array Value):Prop:=∀ i,i≠0→i≠1→ds'[i]? = ds[i]?
theorem But01.trans{a b c:Array Value}(h:But01 a b)(h2:But01 b c):But01 a c:=fun i hi hj=>(h2 i hi hj).trans (h i hi hj)
theorem But01.set0(ds:Array Value)(v:Value):But01 ds (ds.setIfInBounds 0 v):=fun i hi _=>Array.getElem?_setIfInBounds_ne (by omega)
theorem But01.set1(ds:Array Value)(v:Value):But01 ds (ds.setIfInBounds 1 v):=fun i _ hi=>Array.getElem?_setIfInBounds_ne (by omega)
theorem setI_get{ds:Array Value}{i:Nat}{u v:Value}(h:ds[i]? = some u):(ds.setIfInBounds i v)[i]? = some v:=by
 have:=getE_lt h
 simp [this]
structure SM(w:World)(d base n c:Nat)(ao:Option Addr)(l:Int)(xs:List Value)(ds:Array Value):Prop where
 blk:w.heap[d]? = some (.cells ds 109 (0,0))
 stk:ds[0]? = some (.slice ao n c)
 lst:ds[1]? = some (.int .u64 l)
 own:w.ownsRow base 83 1 (.slice ao n c) n xs
theorem push_fin{d base c cB:Nat}{ao:Option Addr}{aoB:Option Addr}{l lz:Int}{xs:List Value}{ds:Array Value}{w w5 W:World}(h:SM w d base 0 c ao l [] ds)(hd:d<base)(_hbase:base≤w.heap.size)
  (hg:((w.setCell ⟨d,1,none⟩ (.int .u64 (l+1))).alloc (.cells #[.int .u64 (l+1)] 83)).drew.grownBy w5 (Value.slice ao 0 c).ownBlock) (hown:w5.ownsRow base 83 1 (.slice aoB 1 cB) 1 xs) (hW:w5.grownBy W none):
  SM ((W.setCell ⟨d,0,none⟩ (.slice aoB 1 cB)).setCell ⟨d,1,none⟩ (.int .u64 lz)) d base 1 cB aoB lz xs (((ds.setIfInBounds 1 (.int .u64 (l+1))).setIfInBounds 0 (.slice aoB 1 cB)).setIfInBounds 1 (.int .u64 lz))∧
  But01 ds (((ds.setIfInBounds 1 (.int .u64 (l+1))).setIfInBounds 0 (.slice aoB 1 cB)).setIfInBounds 1 (.int .u64 lz))∧Lo d (Value.slice ao 0 c).ownBlock w ((W.setCell ⟨d,0,none⟩ (.slice aoB 1 cB)).setCell ⟨d,1,none⟩ (.int .u64 lz)):=by
 have hsz:w.heap.size≤((w.setCell ⟨d,1,none⟩ (.int .u64 (l+1))).alloc (.cells #[.int .u64 (l+1)] 83)).drew.heap.size:=by
  simp [World.setCell]
 have g0:(w.setCell ⟨d,1,none⟩ (.int .u64 (l+1))).grownBy ((w.setCell ⟨d,1,none⟩ (.int .u64 (l+1))).alloc (.cells #[.int .u64 (l+1)] 83)).drew none:=gb_drewN (World.grownBy_alloc _ _ none) 1
 have hr:∀ b,(Value.slice ao 0 c).ownBlock=some b→base≤b:=fun b e=>(h.own.lt b e).1
 have hdl:d<w.heap.size:=(Array.getElem?_eq_some_iff.1 h.blk).1
 have b1:(w.setCell ⟨d,1,none⟩ (.int .u64 (l+1))).heap[d]? = some (.cells (ds.setIfInBounds 1 (.int .u64 (l+1))) 109 (0,0)):=heap_set_cells h.blk
 have b2:=(g0.block d (by rw [set_size]; exact hdl) (by simp)).trans b1
 have b3:=(hg.block d (by omega) (fun e=>by have:=hr d e.symm; omega)).trans b2
 have hd5:d<w5.heap.size:=(Array.getElem?_eq_some_iff.1 b3).1
 have b4:=(hW.block d hd5 (by simp)).trans b3
 have s0:=h.stk
 have l0:=getE_lt h.stk
 have l1:=getE_lt h.lst
 refine ⟨⟨heap_set_cells (heap_set_cells b4),?_,?_,?_⟩,((But01.set1 _ _).trans (But01.set0 _ _)).trans (But01.set1 _ _),?_⟩
 ·rw [Array.getElem?_setIfInBounds_ne (by decide)]
  exact setI_get (u:=.slice ao 0 c) (by rw [Array.getElem?_setIfInBounds_ne (by decide)]; exact s0)
 ·refine setI_get (u:=.int .u64 (l+1)) ?_
  rw [Array.getElem?_setIfInBounds_ne (by decide)]
  exact setI_get h.lst
 ·refine own_block hown (fun g hgb => ?_)
  have hgg:=hown.lt g hgb
  rw [heap_set_other (by simp; omega),heap_set_other (by simp; omega)]
  exact hW.block g hgg.2 (by simp)
 ·have q1:Lo d (Value.slice ao 0 c).ownBlock w (w.setCell ⟨d,1,none⟩ (.int .u64 (l+1))):=Lo.set
  have q2:=q1.trans (Lo.gb g0 (.inl rfl))
  have q3:=q2.trans (Lo.gb hg (.inr rfl))
  have q4:=q3.trans (Lo.gb hW (.inl rfl))
  exact (q4.trans Lo.set).trans Lo.set
theorem own_rel{v v':Value}{n m:Nat}(h:SameRow v v'∨v'.ownBlock=some m)(hm:n≤m):v'.ownBlock=v.ownBlock∨∃ g,v'.ownBlock=some g∧n≤g:=h.imp SameRow.own (fun e=>⟨m,e,hm⟩)
theorem push_end{d base c cB:Nat}{ao aoB:Option Addr}{lz:Int}{xs:List Value}{ds ds':Array Value}{w w':World}{e:Ending}(he:e=.returned .nilIface)(h:SM w' d base 1 cB aoB lz xs ds'∧But01 ds ds'∧Lo d (Value.slice ao 0 c).ownBlock w w')(ho:(Value.slice aoB 1 cB).ownBlock=(Value.slice ao 0 c).ownBlock∨∃ g,(Value.slice aoB 1 cB).ownBlock=some g∧w.heap.size≤g):
  e=.returned .nilIface∧∃ ao' c' ds',SM w' d base 1 c' ao' lz xs ds'∧But01 ds ds'∧Lo d (Value.slice ao 0 c).ownBlock w w'∧((Value.slice ao' 1 c').ownBlock=(Value.slice ao 0 c).ownBlock∨∃ g,(Value.slice ao' 1 c').ownBlock=some g∧w.heap.size≤g):=⟨he,_,_,_,h.1,h.2.1,h.2.2,ho⟩
theorem push82(d base c:Nat)(ao:Option Addr)(l:Int)(hl:l=0∨l=1)(ds:Array Value)(w:World)(h:SM w d base 0 c ao l [] ds)(hbase:base≤w.heap.size)(hd:d<base):
  Calls Tryz.prog 82 #[.pointer (some ⟨d,0,none⟩)] w fun e w'=>e=.returned .nilIface∧∃ ao' c' ds',SM w' d base 1 c' ao' 9223372036854775808 [.int .u64 (l+1)] ds'∧But01 ds ds'∧Lo d (Value.slice ao 0 c).ownBlock w w'∧((Value.slice ao' 1 c').ownBlock=(Value.slice ao 0 c).ownBlock∨∃ g,(Value.slice ao' 1 c').ownBlock=some g∧w.heap.size≤g):=by
 obtain ⟨i83,hi,hz0,hz1,hz2⟩:=info_parts info83
 have HS:=Hq h
 obtain ⟨hb,h0,h1,hown⟩:=h
 have c0:w.cell? ⟨d,0,none⟩=some (.slice ao 0 c):=by rw [cell_of_row _ _ _ _ _ (0,0) hb]; exact h0
 have c1:w.cell? ⟨d,1,none⟩=some (.int .u64 l):=by rw [cell_of_row _ _ _ _ _ (0,0) hb]; exact h1
 have fz:∀ o,w.frozen? ⟨d,o,none⟩=false:=fun o=>by unfold World.frozen?; simp only [hb]; simp
 have f0:=fz 0
 have f1:=fz 1
 have N:=Hq (fun w=>name71 l hl w)
 have V:=Hq (fun w=>valid73 l (hl.imp id .inl) w)
 have I:=Hq (incr133 d l (by omega) w c1 f1)
 have HB:=Hq hb
 have H0:=Hq h0
 have H1:=Hq h1
 clear hl fz hb h0 h1
 go_enter Tryz.func82,Tryz.ntmps82
 go_wp2_with fail
 refine (N.out _).mono ?_
 rintro e w' ⟨rfl,rfl⟩
 go_wp2_with fail
 refine (V.out _).mono ?_
 rintro e w' ⟨rfl,rfl⟩
 go_wp2_with fail
 refine I.out.mono ?_
 rintro e w' ⟨rfl,rfl⟩
 go_wp2_with fail
 have hlt:=HB.out
 have hdl:d<w.heap.size:=(Array.getElem?_eq_some_iff.1 hlt).1
 have own0:(w.setCell ⟨d,1,none⟩ (.int .u64 (l+1))).ownsRow base 83 1 (.slice ao 0 c) 0 []:=own_block hown (fun g hg=>heap_set_other (fun e=>by have:=(hown.lt g hg).1; omega))
 have hbl:((w.setCell ⟨d,1,none⟩ (.int .u64 (l+1))).alloc (.cells #[.int .u64 (l+1)] 83)).drew.heap[w.heap.size]? = some (.cells #[.int .u64 (l+1)] 83):=by
  have e:=heap_alloc_new (w.setCell ⟨d,1,none⟩ (.int .u64 (l+1))) (.cells #[.int .u64 (l+1)] 83)
  rw [set_size] at e
  exact e
 have srcN:Src Tryz.prog 1 82 (.slice (some ⟨w.heap.size,0,none⟩) 1 1) 1 [.int .u64 (l+1)] ((w.setCell ⟨d,1,none⟩ (.int .u64 (l+1))).alloc (.cells #[.int .u64 (l+1)] 83)).drew:=
  Src.ofSlice _ Tryz.underlying82 _ _ _ _ rfl (World.news_of_block hbl) (by simp [Value.oneCell'])
 have blk1:((w.setCell ⟨d,1,none⟩ (.int .u64 (l+1))).alloc (.cells #[.int .u64 (l+1)] 83)).drew.heap[d]? = some (.cells (ds.setIfInBounds 1 (.int .u64 (l+1))) 109 (0,0)):=
  ((World.grownBy_alloc (w.setCell ⟨d,1,none⟩ (.int .u64 (l+1))) _ none).block d (by rw [set_size]; exact hdl) (by simp)).trans (heap_set_cells hlt)
 have far:∀ w',((w.setCell ⟨d,1,none⟩ (.int .u64 (l+1))).alloc (.cells #[.int .u64 (l+1)] 83)).drew.grownBy w' (Value.slice ao 0 c).ownBlock→w'.heap[d]? = some (.cells (ds.setIfInBounds 1 (.int .u64 (l+1))) 109 (0,0)):=fun w' hg=>
  (hg.block d (by simp [World.setCell]; omega) (fun e=>by have:=(hown.lt d e.symm).1; omega)).trans blk1
 have e0:(ds.setIfInBounds 1 (.int .u64 (l+1)))[0]? = some (.slice ao 0 c):=by
  rw [Array.getElem?_setIfInBounds_ne (by decide)]; exact H0.out
 have e1:(ds.setIfInBounds 1 (.int .u64 (l+1)))[1]? = some (.int .u64 (l+1)):=setI_get H1.out
 have far0:∀ w',((w.setCell ⟨d,1,none⟩ (.int .u64 (l+1))).alloc (.cells #[.int .u64 (l+1)] 83)).drew.grownBy w' (Value.slice ao 0 c).ownBlock→w'.cell? ⟨d,0,none⟩=some (.slice ao 0 c)∧w'.frozen? ⟨d,0,none⟩=false∧w'.cell? ⟨d,1,none⟩=some (.int .u64 (l+1))∧w'.frozen? ⟨d,1,none⟩=false:=fun w' hg=>by
  have k:=far w' hg
  have kf:∀ o,w'.frozen? ⟨d,o,none⟩=false:=fun o=>by unfold World.frozen?; simp only [k]; simp
  exact ⟨(cell_of_row _ _ _ _ _ (0,0) k).trans e0,kf 0,(cell_of_row _ _ _ _ _ (0,0) k).trans e1,kf 1⟩
 have FAR0:=Hq far0
 clear far far0 e0 e1
 go_region_law
  ((refine step_appS _ (by rfl) (.tmp 11) (.tmp 16) 82 82 (by rfl) base 83 i83 _ 8 Tryz.underlying82 hi hz0 hz1 hz2 rfl (.slice ao 0 c) 0 [] (by rfl) ((own0.alloc _).drew) (.slice (some ⟨w.heap.size,0,none⟩) 1 1) 1 [.int .u64 (l+1)] (by rfl) srcN (by simp only [maxLen]; omega) (by omega) (by simp [World.setCell]; omega) ?_
    intro aoB cB w5 hown5 hgrow5 hrel5 hold5
    have q1:=(FAR0.out w5 hgrow5).1
    have q2:=(FAR0.out w5 hgrow5).2.1
    have q3:=(FAR0.out w5 hgrow5).2.2.1
    have q4:=(FAR0.out w5 hgrow5).2.2.2))
 all_goals go_wp2_with fail
 all_goals go_ret
 all_goals first|exact push_end (by rfl) (push_fin HS.out hd hbase hgrow5 hown5 (World.grownBy.refl _ _)) (own_rel hrel5 (by simp [World.setCell]))|exact push_end (by rfl) (push_fin HS.out hd hbase hgrow5 hown5 (gb_drewN (World.grownBy.refl _ _) _)) (own_rel hrel5 (by simp [World.setCell]))
theorem push84(d base c:Nat)(ao:Option Addr)(l:Int)(hl:l=0∨l=1)(ds:Array Value)(w:World)(h:SM w d base 0 c ao l [] ds)(hbase:base≤w.heap.size)(hd:d<base):
  Calls Tryz.prog 84 #[.pointer (some ⟨d,0,none⟩)] w fun e w'=>e=.returned .nilIface∧∃ ao' c' ds',SM w' d base 1 c' ao' 0 [.int .u64 (l+1)] ds'∧But01 ds ds'∧Lo d (Value.slice ao 0 c).ownBlock w w'∧((Value.slice ao' 1 c').ownBlock=(Value.slice ao 0 c).ownBlock∨∃ g,(Value.slice ao' 1 c').ownBlock=some g∧w.heap.size≤g):=by
 obtain ⟨i83,hi,hz0,hz1,hz2⟩:=info_parts info83
 have HS:=Hq h
 obtain ⟨hb,h0,h1,hown⟩:=h
 have c0:w.cell? ⟨d,0,none⟩=some (.slice ao 0 c):=by rw [cell_of_row _ _ _ _ _ (0,0) hb]; exact h0
 have c1:w.cell? ⟨d,1,none⟩=some (.int .u64 l):=by rw [cell_of_row _ _ _ _ _ (0,0) hb]; exact h1
 have fz:∀ o,w.frozen? ⟨d,o,none⟩=false:=fun o=>by unfold World.frozen?; simp only [hb]; simp
 have f0:=fz 0
 have f1:=fz 1
 have N:=Hq (fun w=>name71 l hl w)
 have V:=Hq (fun w=>valid73 l (hl.imp id .inl) w)
 have I:=Hq (incr133 d l (by omega) w c1 f1)
 have HB:=Hq hb
 have H0:=Hq h0
 have H1:=Hq h1
 clear hl fz hb h0 h1
 go_enter Tryz.func84,Tryz.ntmps84
 go_wp2_with fail
 refine (N.out _).mono ?_
 rintro e w' ⟨rfl,rfl⟩
 go_wp2_with fail
 refine (V.out _).mono ?_
 rintro e w' ⟨rfl,rfl⟩
 go_wp2_with fail
 refine I.out.mono ?_
 rintro e w' ⟨rfl,rfl⟩
 go_wp2_with fail
 have hlt:=HB.out
 have hdl:d<w.heap.size:=(Array.getElem?_eq_some_iff.1 hlt).1
 have own0:(w.setCell ⟨d,1,none⟩ (.int .u64 (l+1))).ownsRow base 83 1 (.slice ao 0 c) 0 []:=own_block hown (fun g hg=>heap_set_other (fun e=>by have:=(hown.lt g hg).1; omega))
 have hbl:((w.setCell ⟨d,1,none⟩ (.int .u64 (l+1))).alloc (.cells #[.int .u64 (l+1)] 83)).drew.heap[w.heap.size]? = some (.cells #[.int .u64 (l+1)] 83):=by
  have e:=heap_alloc_new (w.setCell ⟨d,1,none⟩ (.int .u64 (l+1))) (.cells #[.int .u64 (l+1)] 83)
  rw [set_size] at e
  exact e
 have srcN:Src Tryz.prog 1 82 (.slice (some ⟨w.heap.size,0,none⟩) 1 1) 1 [.int .u64 (l+1)] ((w.setCell ⟨d,1,none⟩ (.int .u64 (l+1))).alloc (.cells #[.int .u64 (l+1)] 83)).drew:=
  Src.ofSlice _ Tryz.underlying82 _ _ _ _ rfl (World.news_of_block hbl) (by simp [Value.oneCell'])
 have blk1:((w.setCell ⟨d,1,none⟩ (.int .u64 (l+1))).alloc (.cells #[.int .u64 (l+1)] 83)).drew.heap[d]? = some (.cells (ds.setIfInBounds 1 (.int .u64 (l+1))) 109 (0,0)):=
  ((World.grownBy_alloc (w.setCell ⟨d,1,none⟩ (.int .u64 (l+1))) _ none).block d (by rw [set_size]; exact hdl) (by simp)).trans (heap_set_cells hlt)
 have far:∀ w',((w.setCell ⟨d,1,none⟩ (.int .u64 (l+1))).alloc (.cells #[.int .u64 (l+1)] 83)).drew.grownBy w' (Value.slice ao 0 c).ownBlock→w'.heap[d]? = some (.cells (ds.setIfInBounds 1 (.int .u64 (l+1))) 109 (0,0)):=fun w' hg=>
  (hg.block d (by simp [World.setCell]; omega) (fun e=>by have:=(hown.lt d e.symm).1; omega)).trans blk1
 have e0:(ds.setIfInBounds 1 (.int .u64 (l+1)))[0]? = some (.slice ao 0 c):=by
  rw [Array.getElem?_setIfInBounds_ne (by decide)]; exact H0.out
 have e1:(ds.setIfInBounds 1 (.int .u64 (l+1)))[1]? = some (.int .u64 (l+1)):=setI_get H1.out
 have far0:∀ w',((w.setCell ⟨d,1,none⟩ (.int .u64 (l+1))).alloc (.cells #[.int .u64 (l+1)] 83)).drew.grownBy w' (Value.slice ao 0 c).ownBlock→w'.cell? ⟨d,0,none⟩=some (.slice ao 0 c)∧w'.frozen? ⟨d,0,none⟩=false∧w'.cell? ⟨d,1,none⟩=some (.int .u64 (l+1))∧w'.frozen? ⟨d,1,none⟩=false:=fun w' hg=>by
  have k:=far w' hg
  have kf:∀ o,w'.frozen? ⟨d,o,none⟩=false:=fun o=>by unfold World.frozen?; simp only [k]; simp
  exact ⟨(cell_of_row _ _ _ _ _ (0,0) k).trans e0,kf 0,(cell_of_row _ _ _ _ _ (0,0) k).trans e1,kf 1⟩
 have FAR0:=Hq far0
 clear far far0 e0 e1
 go_region_law
  ((refine step_appS _ (by rfl) (.tmp 11) (.tmp 16) 82 82 (by rfl) base 83 i83 _ 8 Tryz.underlying82 hi hz0 hz1 hz2 rfl (.slice ao 0 c) 0 [] (by rfl) ((own0.alloc _).drew) (.slice (some ⟨w.heap.size,0,none⟩) 1 1) 1 [.int .u64 (l+1)] (by rfl) srcN (by simp only [maxLen]; omega) (by omega) (by simp [World.setCell]; omega) ?_
    intro aoB cB w5 hown5 hgrow5 hrel5 hold5
    have q1:=(FAR0.out w5 hgrow5).1
    have q2:=(FAR0.out w5 hgrow5).2.1
    have q3:=(FAR0.out w5 hgrow5).2.2.1
    have q4:=(FAR0.out w5 hgrow5).2.2.2))
 all_goals go_wp2_with fail
 all_goals go_ret
 all_goals first|exact push_end (by rfl) (push_fin HS.out hd hbase hgrow5 hown5 (World.grownBy.refl _ _)) (own_rel hrel5 (by simp [World.setCell]))|exact push_end (by rfl) (push_fin HS.out hd hbase hgrow5 hown5 (gb_drewN (World.grownBy.refl _ _) _)) (own_rel hrel5 (by simp [World.setCell]))
theorem isObj127(l:Int)(hl:l=0∨l=1∨l=9223372036854775808)(w:World):Calls Tryz.prog 127 #[.int .u64 l] w fun e w'=>e=.returned (.bool (decide (l=9223372036854775808)))∧w=w':=by
 have e:(bits .and .u64 l 9223372036854775808==9223372036854775808)=decide (l=9223372036854775808):=by rcases hl with rfl|rfl|rfl<;>decide
 clear hl
 go_enter Tryz.func127,Tryz.ntmps127
 go_wp2_with fail
 go_ret
 exact ⟨by rw [← e]; rfl,rfl⟩
theorem isArr125(l:Int)(hl:l=0∨l=1)(w:World):Calls Tryz.prog 125 #[.int .u64 l] w fun e w'=>e=.returned (.bool true)∧w=w':=by
 have e:(bits .and .u64 l 9223372036854775808==0)=true:=by rcases hl with rfl|rfl<;>decide
 clear hl
 go_enter Tryz.func125,Tryz.ntmps125
 go_wp2_with fail
 go_ret
 exact ⟨by rfl,rfl⟩
theorem need137(w:World):Calls Tryz.prog 137 #[.int .u64 9223372036854775808] w fun e w'=>e=.returned (.bool false)∧w=w':=by
 go_enter Tryz.func137,Tryz.ntmps137
 go_wp2_with fail
 go_ret
 exact ⟨by rfl,rfl⟩
theorem pop_fin{d base c:Nat}{ao:Option Addr}{l x:Int}{ds:Array Value}{w W:World}(h:SM w d base 1 c ao l [.int .u64 x] ds)(_hbase:base≤w.heap.size)(hd:d<base)(hg:((w.setCell ⟨d,1,none⟩ (.int .u64 x)).setCell ⟨d,0,none⟩ (.slice ao 0 c)).grownBy W none):
  SM W d base 0 c ao x [] ((ds.setIfInBounds 1 (.int .u64 x)).setIfInBounds 0 (.slice ao 0 c))∧But01 ds ((ds.setIfInBounds 1 (.int .u64 x)).setIfInBounds 0 (.slice ao 0 c))∧Lo d none w W:=by
 have hdl:d<w.heap.size:=(Array.getElem?_eq_some_iff.1 h.blk).1
 have b2:((w.setCell ⟨d,1,none⟩ (.int .u64 x)).setCell ⟨d,0,none⟩ (.slice ao 0 c)).heap[d]? = some (.cells ((ds.setIfInBounds 1 (.int .u64 x)).setIfInBounds 0 (.slice ao 0 c)) 109 (0,0)):=heap_set_cells (heap_set_cells h.blk)
 have b3:=(hg.block d (by simp only [set_size]; omega) (by simp)).trans b2
 refine ⟨⟨b3,?_,?_,?_⟩,(But01.set1 _ _).trans (But01.set0 _ _),(Lo.set.trans Lo.set).trans (Lo.gb hg (.inl rfl))⟩
 ·exact setI_get (u:=.slice ao 1 c) (by rw [Array.getElem?_setIfInBounds_ne (by decide)]; exact h.stk)
 ·rw [Array.getElem?_setIfInBounds_ne (by decide)]
  exact setI_get h.lst
 ·have o2:W.ownsRow base 83 1 (.slice ao 1 c) 1 [.int .u64 x]:=own_block h.own (fun g hgb=>by
   have hgg:=h.own.lt g hgb
   rw [hg.block g (by simp only [set_size]; omega) (by simp),heap_set_other (by simp; omega),heap_set_other (by simp; omega)])
  refine ⟨rfl,?_⟩
  rcases o2.2 with ⟨hx,hn⟩|⟨g,cap,cur,hv,hb,hq,hc1,hc2,hc3,hc4⟩
  ·cases hn
  ·cases hv
   exact .inr ⟨_,_,cur,rfl,hb,hq,by omega,hc2,hc3,by simp⟩
theorem pop83(d base c:Nat)(ao:Option Addr)(x:Int)(ds:Array Value)(w:World)(h:SM w d base 1 c ao 9223372036854775808 [.int .u64 x] ds)(hbase:base≤w.heap.size)(hd:d<base):
  Calls Tryz.prog 83 #[.pointer (some ⟨d,0,none⟩)] w fun e w'=>e=.returned .nilIface∧∃ ds',SM w' d base 0 c ao x [] ds'∧But01 ds ds'∧Lo d none w w':=by
 have HS:=Hq h
 obtain ⟨hb,h0,h1,hown⟩:=h
 obtain ⟨g,rfl⟩:∃ g,ao=some ⟨g,0,none⟩:=by
  rcases hown.2 with ⟨hx,hn⟩|⟨g,cap,cur,hv,_⟩
  ·cases hn
  ·cases hv; exact ⟨g,rfl⟩
 have c0:w.cell? ⟨d,0,none⟩=some (.slice (some ⟨g,0,none⟩) 1 c):=by rw [cell_of_row _ _ _ _ _ (0,0) hb]; exact h0
 have c1:w.cell? ⟨d,1,none⟩=some (.int .u64 9223372036854775808):=by rw [cell_of_row _ _ _ _ _ (0,0) hb]; exact h1
 have fz:∀ o,w.frozen? ⟨d,o,none⟩=false:=fun o=>by unfold World.frozen?; simp only [hb]; simp
 have f0:=fz 0
 have f1:=fz 1
 obtain ⟨cg,fg⟩:=own_cell hown 0 (.int .u64 x) rfl
 have hgd:=hown.lt g rfl
 have hc:1≤c:=by
  rcases hown.2 with ⟨hx,hn⟩|⟨g,cap,cur,hv,_,_,hcc,_⟩
  ·cases hn
  ·cases hv; exact hcc
 have V:=Hq (fun w=>valid73 9223372036854775808 (by decide) w)
 have O:=Hq (fun w=>isObj127 9223372036854775808 (by decide) w)
 have N:=Hq (fun w=>need137 w)
 clear fz hb h0 h1 hown
 go_enter Tryz.func83,Tryz.ntmps83
 go_wp2_with fail
 refine (O.out _).mono ?_
 rintro e w' ⟨rfl,rfl⟩
 go_wp2_with fail
 refine (N.out _).mono ?_
 rintro e w' ⟨rfl,rfl⟩
 go_wp2_with fail
 refine (V.out _).mono ?_
 rintro e w' ⟨rfl,rfl⟩
 go_wp2_with fail
 go_region
 go_wp2_with fail
 go_region
 all_goals go_wp2_with fail
 all_goals go_ret
 all_goals exact ⟨by rfl,_,pop_fin HS.out hbase hd (gb_drewN (World.grownBy.refl _ _) 2)⟩
theorem pop85(d base c:Nat)(ao:Option Addr)(x:Int)(ds:Array Value)(w:World)(h:SM w d base 1 c ao 0 [.int .u64 x] ds)(hbase:base≤w.heap.size)(hd:d<base):
  Calls Tryz.prog 85 #[.pointer (some ⟨d,0,none⟩)] w fun e w'=>e=.returned .nilIface∧∃ ds',SM w' d base 0 c ao x [] ds'∧But01 ds ds'∧Lo d none w w':=by
 have HS:=Hq h
 obtain ⟨hb,h0,h1,hown⟩:=h
 obtain ⟨g,rfl⟩:∃ g,ao=some ⟨g,0,none⟩:=by
  rcases hown.2 with ⟨hx,hn⟩|⟨g,cap,cur,hv,_⟩
  ·cases hn
  ·cases hv; exact ⟨g,rfl⟩
 have c0:w.cell? ⟨d,0,none⟩=some (.slice (some ⟨g,0,none⟩) 1 c):=by rw [cell_of_row _ _ _ _ _ (0,0) hb]; exact h0
 have c1:w.cell? ⟨d,1,none⟩=some (.int .u64 0):=by rw [cell_of_row _ _ _ _ _ (0,0) hb]; exact h1
 have fz:∀ o,w.frozen? ⟨d,o,none⟩=false:=fun o=>by unfold World.frozen?; simp only [hb]; simp
 have f0:=fz 0
 have f1:=fz 1
 obtain ⟨cg,fg⟩:=own_cell hown 0 (.int .u64 x) rfl
 have hgd:=hown.lt g rfl
 have hc:1≤c:=by
  rcases hown.2 with ⟨hx,hn⟩|⟨g,cap,cur,hv,_,_,hcc,_⟩
  ·cases hn
  ·cases hv; exact hcc
 have V:=Hq (fun w=>valid73 0 (by decide) w)
 have O:=Hq (fun w=>isArr125 0 (by decide) w)
 clear fz hb h0 h1 hown
 go_enter Tryz.func85,Tryz.ntmps85
 go_wp2_with fail
 refine (O.out _).mono ?_
 rintro e w' ⟨rfl,rfl⟩
 go_wp2_with fail
 refine (V.out _).mono ?_
 rintro e w' ⟨rfl,rfl⟩
 go_wp2_with fail
 go_region
 go_wp2_with fail
 go_region
 all_goals go_wp2_with fail
 all_goals go_ret
 all_goals exact ⟨by rfl,_,pop_fin HS.out hbase hd (gb_drewN (World.grownBy.refl _ _) 2)⟩
theorem pop83_bad(d c:Nat)(ao:Option Addr)(l:Int)(hl:l=0∨l=1)(eM:Value)(w:World)(_c0:w.cell? ⟨d,0,none⟩=some (.slice ao 0 c))(c1:w.cell? ⟨d,1,none⟩=some (.int .u64 l))(cM:w.cell? ⟨5,0,none⟩=some eM):
  Calls Tryz.prog 83 #[.pointer (some ⟨d,0,none⟩)] w fun e w'=>e=.returned eM∧w=w':=by
 have O:=Hq (fun w=>isObj127 l (hl.imp id .inl) w)
 have e:decide (l=9223372036854775808)=false:=by simp; omega
 rw [e] at O
 clear e
 clear hl
 go_enter Tryz.func83,Tryz.ntmps83
 go_wp2_with fail
 refine (O.out _).mono ?_
 rintro e w' ⟨rfl,rfl⟩
 go_wp2_with fail
 go_ret
 exact ⟨rfl,rfl⟩
theorem pop85_bad(d c:Nat)(ao:Option Addr)(l:Int)(hl:l=0∨l=1)(eM:Value)(w:World)(c0:w.cell? ⟨d,0,none⟩=some (.slice ao 0 c))(c1:w.cell? ⟨d,1,none⟩=some (.int .u64 l))(cM:w.cell? ⟨5,0,none⟩=some eM):
  Calls Tryz.prog 85 #[.pointer (some ⟨d,0,none⟩)] w fun e w'=>e=.returned eM∧w=w':=by
 have O:=Hq (fun w=>isArr125 l hl w)
 clear hl
 go_enter Tryz.func85,Tryz.ntmps85
 go_wp2_with fail
 refine (O.out _).mono ?_
 rintro e w' ⟨rfl,rfl⟩
 go_wp2_with fail
 go_ret
 exact ⟨rfl,rfl⟩
structure KC(A:List Addr)(s:ByteArray)(cap:Nat)(vals:Int)(aU aI aE aM:Addr):Prop where
 hs:s.size≤4096
 hcap:s.size≤cap
 h0:bits .and .u64 vals 549755813888=0
 hU:aU∈A
 hI:aI∈A
 hE:aE∈A
 hM:aM∈A
 UI:aU≠aI
 UE:aU≠aE
 UM:aU≠aM
 IE:aI≠aE
 IM:aI≠aM
 ME:aM≠aE
structure RT(A:List Addr)(d B cap:Nat)(s:ByteArray)(vals l:Int)(aU aI aE aM:Addr)(ds:Array Value)(ao:Option Addr)(c:Nat)(nsv:Value)(w:World):Prop where
 db:DB w d ds B cap s vals l
 top:Top ds ao c l nsv
 bf:Bf w B s
 gl:Gl (.iface 260 (.pointer (some aU))) (.iface 260 (.pointer (some aI))) w
 eb:EB A w
 nk:∀ c:Nat,c<256→w.cell? ⟨4,c,none⟩=some (.int .u8 (normK c))
 cE:w.cell? ⟨0,0,none⟩=some (.iface 260 (.pointer (some aE)))
 cM:w.cell? ⟨5,0,none⟩=some (.iface 260 (.pointer (some aM)))
 bl:B<w.heap.size
 d18:18≤d
 Bd:B≠d
 Ad:∀ a∈A,a.block≠d
 l01:l=0∨l=1
section
variable {A:List Addr} {d B cap:Nat} {s:ByteArray} {vals l:Int} {aU aI aE aM:Addr} {ds:Array Value} {ao:Option Addr} {c:Nat} {nsv:Value} {w w':World}
theorem RT.kept{ds':Array Value}{l':Int}{ao':Option Addr}{c':Nat}{nsv':Value}(h:RT A d B cap s vals l aU aI aE aM ds ao c nsv w)(hsz:w.heap.size≤w'.heap.size)(hk:∀ b,b<w.heap.size→b≠d→b<18∨b=B∨(∃ a∈A,b=a.block)→w'.heap[b]? = w.heap[b]?)
  (hdb:DB w' d ds' B cap s vals l') (ht:Top ds' ao' c' l' nsv') (hl:l'=0∨l'=1):RT A d B cap s vals l' aU aI aE aM ds' ao' c' nsv' w':=by
 have d18:=h.d18
 have g18:=h.gl.size
 have lo:∀ i,i<18→w'.heap[i]? = w.heap[i]? := fun i hi=>hk i (by omega) (by omega) (.inl hi)
 refine ⟨hdb,ht,h.bf.kept (hk B h.bl h.Bd (.inr (.inl rfl))),h.gl.kept hsz lo,h.eb.kept (fun a ha => ?_),fun i hi=>(World.cell?_of_block (w:=w) (a:=⟨4,i,none⟩) (lo 4 (by omega))).trans (h.nk i hi),(World.cell?_of_block (w:=w) (a:=⟨0,0,none⟩) (lo 0 (by omega))).trans h.cE,
  (World.cell?_of_block (w:=w) (a:=⟨5,0,none⟩) (lo 5 (by omega))).trans h.cM,Nat.lt_of_lt_of_le h.bl hsz,d18,h.Bd,h.Ad,hl⟩
 obtain ⟨cc,t,e⟩:=h.eb a ha
 exact hk a.block (Array.getElem?_eq_some_iff.1 e).1 (h.Ad a ha) (.inr (.inr ⟨a,ha,rfl⟩))
theorem RT.gb0(h:RT A d B cap s vals l aU aI aE aM ds ao c nsv w)(hg:w.grownBy w' none):RT A d B cap s vals l aU aI aE aM ds ao c nsv w':=
 h.kept hg.size (fun b hb _ _=>hg.block b hb (by simp)) (h.db.block (hg.block d h.db.lt (by simp))) h.top h.l01
theorem RT.gbn{x:Nat}(h:RT A d B cap s vals l aU aI aE aM ds ao c nsv w)(hg:w.grownBy w' (some x))(hx:x≠d∧x≠B∧18≤x∧∀ a∈A,x≠a.block):RT A d B cap s vals l aU aI aE aM ds ao c nsv w':=by
 refine h.kept hg.size (fun b hb _ hq=>hg.block b hb (fun e => ?_)) (h.db.block (hg.block d h.db.lt (fun e=>hx.1 (Option.some.inj e).symm))) h.top h.l01
 obtain rfl:=Option.some.inj e
 rcases hq with h1|h1|⟨a,ha,h1⟩
 ·omega
 ·exact hx.2.1 h1
 ·exact hx.2.2.2 a ha h1
theorem wrap_str(C:KC A s cap vals aU aI aE aM)(h:RT A d B cap s vals l aU aI aE aM ds ao c nsv w)(q:Nat)(hq:q≤s.size)(wh:Int)(v:Value)(hv:v=.iface 260 (.pointer (some aU))∨v=.iface 260 (.pointer (some aI))∨∃ b,v=.iface 175 (.pointer (some ⟨b,0,none⟩))):
  Calls Tryz.prog 65 #[.iface 121 (.pointer (some ⟨d,0,none⟩)),v,.int .i64 q,.int .i64 wh] w (SynE w):=by
 rcases hv with rfl|rfl|⟨b,rfl⟩
 ·exact wrap65_BA A d ds ao c q B cap s vals l wh aE aM _ _ nsv w h.db h.top hq C.hs C.hcap h.bf h.gl h.eb C.hE C.hM h.cE h.cM C.h0 h.bl aU C.hU C.UM C.UE
 ·exact wrap65_BA A d ds ao c q B cap s vals l wh aE aM _ _ nsv w h.db h.top hq C.hs C.hcap h.bf h.gl h.eb C.hE C.hM h.cE h.cM C.h0 h.bl aI C.hI C.IM C.IE
 ·exact wrap65_BT A d ds ao c q B cap s vals l wh aE aM _ _ nsv w h.db h.top hq C.hs C.hcap h.bf h.gl h.eb C.hE C.hM h.cE h.cM C.h0 h.bl b
theorem wrap_mis(C:KC A s cap vals aU aI aE aM)(h:RT A d B cap s vals l aU aI aE aM ds ao c nsv w)(q:Nat)(hq:q≤s.size)(wh:Int):
  Calls Tryz.prog 65 #[.iface 121 (.pointer (some ⟨d,0,none⟩)),.iface 260 (.pointer (some aM)),.int .i64 q,.int .i64 wh] w (SynE w):=
 wrap65_BM A d ds ao c q B cap s vals l wh aE aM _ _ nsv w h.db h.top hq C.hs C.hcap h.bf h.gl h.eb C.hE C.hM h.cE h.cM C.h0 h.bl C.ME
end
theorem wrap65_E(d q:Nat)(wh:Int)(aE:Addr)(w:World)(cE:w.cell? ⟨0,0,none⟩=some (.iface 260 (.pointer (some aE)))):
  Calls Tryz.prog 65 #[.iface 121 (.pointer (some ⟨d,0,none⟩)),.iface 260 (.pointer (some aE)),.int .i64 q,.int .i64 wh] w fun e w'=>e=.returned (.iface 260 (.pointer (some aE)))∧w=w':=by
 have e1:=eqS aE w
 have a1:=as260_162 (.pointer (some aE)) w
 go_enter Tryz.func65,Tryz.ntmps65
 go_wp2_with fail
 go_ret
 exact ⟨rfl,rfl⟩
def SomeE(w:World)(e:Ending)(w':World):Prop:=∃ t x,e=.returned (.iface t x)∧w.grownBy w' none
theorem wrap_any{A:List Addr}{d B cap:Nat}{s:ByteArray}{vals l:Int}{aU aI aE aM:Addr}{ds:Array Value}{ao:Option Addr}{c:Nat}{nsv:Value}{w:World}(C:KC A s cap vals aU aI aE aM)(h:RT A d B cap s vals l aU aI aE aM ds ao c nsv w)(q:Nat)(hq:q≤s.size)(wh:Int)(v:Value){lo m:Nat}{lab:Nat→Nat}(hv:ErrV A lo w lab m v)(hm:m≤4294967296):
  Calls Tryz.prog 65 #[.iface 121 (.pointer (some ⟨d,0,none⟩)),v,.int .i64 q,.int .i64 wh] w (SomeE w):=by
 have syn:∀ e w',SynE w e w'→SomeE w e w':=fun e w' ⟨b,h1,h2⟩=>⟨_,_,h1,h2⟩
 rcases hv with (⟨a,ha,rfl⟩|⟨b,rfl⟩)|⟨pb,ev,rv,n,t,rfl,hp,hn⟩
 ·by_cases h1:a=aE
  ·subst h1
   exact (wrap65_E d q wh a w h.cE).mono fun e w' ⟨h1,h2⟩=>⟨_,_,h1,by rw [h2]; exact World.grownBy.refl _ _⟩
  ·by_cases h2:a=aM
   ·subst h2
    exact (wrap_mis C h q hq wh).mono syn
   ·exact (wrap65_BA A d ds ao c q B cap s vals l wh aE aM _ _ nsv w h.db h.top hq C.hs C.hcap h.bf h.gl h.eb C.hE C.hM h.cE h.cM C.h0 h.bl a ha h2 h1).mono syn
 ·exact (wrap_str C h q hq wh _ (.inr (.inr ⟨b,rfl⟩))).mono syn
 ·have hl:n=t.length+1:=by have:=hp.row.1; simp at this; omega
  obtain ⟨gg,c2,rfl⟩:∃ gg c2,rv=.slice (some ⟨gg,0,none⟩) n c2:=by
   rcases hp.row.2 with ⟨_,h0⟩|⟨g,cc,_,hv,_⟩
   ·omega
   ·exact ⟨g,cc,hv⟩
  have hrow:=ownsRow_low hp.row (Nat.zero_le _)
  have hn':n≤4294967296:=Nat.le_trans hn hm
  rcases hp.bare with ⟨a,ha,rfl⟩|⟨b,rfl⟩
  ·by_cases h2:a=aM
   ·subst h2
    exact (wrap65_PM A d ds ao c q B cap s vals l wh aE a _ _ nsv w pb gg n c2 t h.db h.top hq C.hs C.hcap h.bf h.gl h.eb C.hE C.hM h.cE h.cM C.h0 h.bl hp.blk hrow hn').mono syn
   ·exact (wrap65_PA A d ds ao c q B cap s vals l wh aE aM _ _ nsv w pb gg n c2 t h.db h.top hq C.hs C.hcap h.bf h.gl h.eb C.hE C.hM h.cE h.cM C.h0 h.bl a ha h2 hp.blk hrow hn').mono syn
  ·exact (wrap65_PT A d ds ao c q B cap s vals l wh aE aM _ _ nsv w pb gg n c2 t h.db h.top hq C.hs C.hcap h.bf h.gl h.eb C.hE C.hM h.cE h.cM C.h0 h.bl b hp.blk hrow hn').mono syn
end Go.Proofs.YtknaalohaagcdaaGreatDoor.Own
namespace Go.Proofs.YtknaalohaagcdaaGreatDoor.Own
open Go.RowKit JG
theorem obj137(l:Int)(hl:l=0∨l=1)(w:World):Calls Tryz.prog 137 #[.int .u64 l] w fun e w'=>e=.returned (.bool false)∧w=w':=by
 have e:(bits .and .u64 l 9223372036854775809==9223372036854775809)=false:=by rcases hl with rfl|rfl<;>decide
 clear hl
 go_enter Tryz.func137,Tryz.ntmps137
 go_wp2_with fail
 go_ret
 exact ⟨by rfl,rfl⟩
theorem colon128(l:Int)(hl:l=0∨l=1)(w:World):Calls Tryz.prog 128 #[.int .u64 l] w fun e w'=>e=.returned (.bool false)∧w=w':=by
 have O:=Hq (fun w=>obj137 l hl w)
 clear hl
 go_enter Tryz.func128,Tryz.ntmps128
 go_wp2_with fail
 refine (O.out _).mono ?_
 rintro e w' ⟨rfl,rfl⟩
 go_wp2_with fail
 go_ret
 exact ⟨rfl,rfl⟩
theorem len124(l:Int)(hl:l=0∨l=1)(w:World):Calls Tryz.prog 124 #[.int .u64 l] w fun e w'=>e=.returned (.int .i64 l)∧w=w':=by
 have e:bits .and .u64 l 2305843009213693951=l:=by rcases hl with rfl|rfl<;>decide
 have h0:0≤l:=by omega
 have h1:l≤1:=by omega
 clear hl
 go_enter Tryz.func124,Tryz.ntmps124
 go_wp2_with fail
 go_ret
 exact ⟨rfl,rfl⟩
theorem comma129(l nx:Int)(hl:l=0∨l=1)(w:World):Calls Tryz.prog 129 #[.int .u64 l,.int .u8 nx] w fun e w'=>(∃ b,e=.returned (.bool b))∧w=w':=by
 have O:=Hq (fun w=>obj137 l hl w)
 have LN:=Hq (fun w=>len124 l hl w)
 rcases hl with rfl|rfl
 ·go_enter Tryz.func129,Tryz.ntmps129
  go_wp2_with fail
  refine (O.out _).mono ?_
  rintro e w' ⟨rfl,rfl⟩
  go_wp2_with fail
  refine (LN.out _).mono ?_
  rintro e w' ⟨rfl,rfl⟩
  go_wp2_with fail
  go_ret
  exact ⟨⟨_,rfl⟩,rfl⟩
 ·by_cases h1:nx=125
  ·subst h1
   go_enter Tryz.func129,Tryz.ntmps129
   go_wp2_with fail
   refine (O.out _).mono ?_
   rintro e w' ⟨rfl,rfl⟩
   go_wp2_with fail
   refine (LN.out _).mono ?_
   rintro e w' ⟨rfl,rfl⟩
   go_wp2_with fail
   go_ret
   exact ⟨⟨_,rfl⟩,rfl⟩
  ·have t1:(nx != 125)=true:=by simpa using h1
   go_enter Tryz.func129,Tryz.ntmps129
   go_wp2_with fail
   refine (O.out _).mono ?_
   rintro e w' ⟨rfl,rfl⟩
   go_wp2_with fail
   refine (LN.out _).mono ?_
   rintro e w' ⟨rfl,rfl⟩
   go_wp2_with fail
   go_ret
   exact ⟨⟨_,rfl⟩,rfl⟩
theorem delim67(ao:Option Addr)(c:Nat)(l nx:Int)(hl:l=0∨l=1)(w:World):Calls Tryz.prog 67 #[.agg #[.slice ao 0 c,.int .u64 l],.int .u8 nx] w fun e w'=>e=.returned (.int .u8 0)∧w.grownBy w' none:=by
 have O:=Hq (fun w=>colon128 l hl w)
 have C:=Hq (fun w=>comma129 l nx hl w)
 clear hl
 go_enter Tryz.func67,Tryz.ntmps67
 go_wp2_with fail
 refine (O.out _).mono ?_
 rintro e w' ⟨rfl,rfl⟩
 go_wp2_with fail
 refine (C.out _).mono ?_
 rintro e w' ⟨⟨b,rfl⟩,rfl⟩
 cases b
 all_goals
  go_wp2_with fail
  go_ret
  exact ⟨rfl,World.grownBy_alloc w _ none⟩
end Go.Proofs.YtknaalohaagcdaaGreatDoor.Own
