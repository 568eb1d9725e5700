import Derived.Test.YtknaalohaagcdaaGreatDoorG01
import Derived.Test.YtknaalohaagcdaaGreatDoorG19
import Derived.Deep.AppendSrc
import Derived.Lib.AppendZeros
import Derived.Deep.AppendLies
import Derived.Laws.AppendOwn
import Derived.RegionTactic
import Derived.Below
set_option maxHeartbeats 400000000
set_option maxRecDepth 100000
namespace Go.Proofs.YtknaalohaagcdaaGreatDoor.Own
open Go.RowKit
theorem last75(A k cap:Nat)(w:World)(hk:k<4294967296):Calls Tryz.prog 75 #[.slice (some ⟨A,0,none⟩) (k+1) cap] w fun e w'=>e=.returned (.pointer (some ⟨A,3 * k,none⟩))∧w=w':=by
 have i0:(0:Int)≤(k:Int):=Int.natCast_nonneg _
 have i1:(k:Int)<(k:Int)+1:=by omega
 go_enter Tryz.func75,Tryz.ntmps75
 go_wp2_with fail
 go_ret
 exact ⟨by simp [Nat.mul_comm],rfl⟩
def NsC(w:World)(d:Nat)(v:Value):Prop:=w.cell? ⟨d,4,none⟩=some v∧w.frozen? ⟨d,4,none⟩=false
theorem info190:(Tryz.prog.info? 190).map (fun i=>(i.zero,i.size,i.bytes))=some (some (.agg #[Value.slice none 0 0,Value.slice none 0 0,Value.map none]),3,56):=by kernel_rfl
theorem zero_get(n i:Nat)(h:i<n * 3):(Builtin.zeroCells #[Value.slice none 0 0,Value.slice none 0 0,Value.map none] n)[i]? = some ((#[Value.slice none 0 0,Value.slice none 0 0,Value.map none]:Array Value)[i % 3]!):=by
 unfold Builtin.zeroCells
 rw [Array.getElem?_map,Array.getElem?_range]
 simp [h]
theorem NS.grow{w w':World}{lab:Nat→Nat}{base k A' c cap:Nat}{ao:Option Addr}{olds:List Value}(h:NS w lab base k (.slice ao k cap))(hfull:cap≤k)(hol:olds.length=3 * k)(hold:∀ j u,olds[j]? = some u→∀ a,ao=some a→w.cell? (a.add j)=some u)
  (hg:w.grownBy w' none) (hA:w'.heap[A']? = some (.cells ((olds++[Value.slice none 0 0,Value.slice none 0 0,Value.map none]).toArray++Builtin.zeroCells #[Value.slice none 0 0,Value.slice none 0 0,Value.map none] (c-(k+1))) 190 (0,0))) (hAw:w.heap.size≤A') (hb:base≤A') (hc:k+1≤c) (hcm:c≤maxLen):
  NS w' (fun b=>if b=A' then 1 else lab b) base (k+1) (.slice (some ⟨A',0,none⟩) (k+1) c)∧C3 w' A' k (.slice none 0 0) (.slice none 0 0) (.map none)∧LabEq w lab (fun b=>if b=A' then 1 else lab b):=by
 have hl:LabEq w lab (fun b=>if b=A' then 1 else lab b):=fun b hb=>if_neg (by omega)
 have hsz:((olds++[Value.slice none 0 0,Value.slice none 0 0,Value.map none]).toArray++Builtin.zeroCells #[Value.slice none 0 0,Value.slice none 0 0,Value.map none] (c-(k+1))).size=c * 3:=by
  simp [hol,Builtin.zeroCells]
  omega
 have hmid:∀ i,i<3→((olds++[Value.slice none 0 0,Value.slice none 0 0,Value.map none]).toArray++Builtin.zeroCells #[Value.slice none 0 0,Value.slice none 0 0,Value.map none] (c-(k+1)))[3 * k+i]? = ([Value.slice none 0 0,Value.slice none 0 0,Value.map none]:List Value)[i]? := fun i hi=>by
  rw [Array.getElem?_append_left (by simp [hol]; omega),List.getElem?_toArray,List.getElem?_append_right (by omega),hol]
  congr 1
  omega
 have hend:∀ i,3 * k+3≤i→i<c * 3→((olds++[Value.slice none 0 0,Value.slice none 0 0,Value.map none]).toArray++Builtin.zeroCells #[Value.slice none 0 0,Value.slice none 0 0,Value.map none] (c-(k+1)))[i]? = some ((#[Value.slice none 0 0,Value.slice none 0 0,Value.map none]:Array Value)[(i-(3 * k+3)) % 3]!):=fun i hi hi2=>by
  rw [Array.getElem?_append_right (by simp [hol]; omega)]
  have e:(olds++[Value.slice none 0 0,Value.slice none 0 0,Value.map none]).toArray.size=3 * k+3:=by simp [hol]
  rw [e,zero_get _ _ (by omega)]
 refine ⟨.inr ⟨A',c,_,rfl,hb,if_pos rfl,hA,hc,hcm,hsz,fun j hj => ?_⟩,⟨_,hA,by rw [show 3 * k=3 * k+0 from rfl,hmid 0 (by omega)]; rfl,by rw [hmid 1 (by omega)]; rfl,by rw [hmid 2 (by omega)]; rfl⟩,hl⟩
 have rn:∀ e,RowOk w' (fun b=>if b=A' then 1 else lab b) base (j+2) e (.slice none 0 0):=fun e=>RowOk.nil _ _ _ _ _
 rcases Nat.lt_trichotomy j k with hjk|rfl|hjk
 ·rcases h with ⟨_,h0⟩|⟨A,cap',cs,hv,hbA,hlA,hcs,hk,hcm',hcsz,hsl⟩
  ·omega
  ·simp only [Value.slice.injEq,true_and] at hv
   obtain ⟨rfl,rfl⟩:=hv
   obtain ⟨v1,v2,mo,e1,e2,e3,r1,r2⟩:=hsl j (by omega)
   have old:∀ i,i<3 * k→((olds++[Value.slice none 0 0,Value.slice none 0 0,Value.map none]).toArray++Builtin.zeroCells #[Value.slice none 0 0,Value.slice none 0 0,Value.map none] (c-(k+1)))[i]? = cs[i]? := fun i hi=>by
    rw [Array.getElem?_append_left (by simp [hol]; omega),List.getElem?_toArray,List.getElem?_append_left (by omega)]
    have hi':i<olds.length:=by omega
    have e:=hold i olds[i] (List.getElem?_eq_getElem hi') ⟨A,0,none⟩ rfl
    have hadd:(⟨A,0,none⟩:Addr).add i=⟨A,i,none⟩:=by unfold Addr.add; split<;>simp_all
    rw [hadd,cell_of_row _ _ _ _ _ (0,0) hcs] at e
    rw [List.getElem?_eq_getElem hi',e]
   have sh:∀ b,b<w.heap.size→lab b=j+2→∀ cs t,w.heap[b]? = some (.cells cs t (0,0))→∃ cs',w'.heap[b]? = some (.cells cs' t (0,0))∧cs'.size=cs.size:=fun b hb _ cs t hc=>⟨cs,(hg.block b hb (by simp)).trans hc,rfl⟩
   exact ⟨v1,v2,mo,by rw [old _ (by omega)]; exact e1,by rw [old _ (by omega)]; exact e2,by rw [old _ (by omega)]; exact e3,r1.of_shape hl sh,r2.of_shape hl sh⟩
 ·exact ⟨_,_,none,by rw [show 3 * j=3 * j+0 from rfl,hmid 0 (by omega)]; rfl,by rw [hmid 1 (by omega)]; rfl,by rw [hmid 2 (by omega)]; rfl,rn _,rn _⟩
 ·have m0:(3 * j-(3 * k+3)) % 3=0:=by omega
  have m1:(3 * j+1-(3 * k+3)) % 3=1:=by omega
  have m2:(3 * j+2-(3 * k+3)) % 3=2:=by omega
  exact ⟨_,_,none,by rw [hend _ (by omega) (by omega),m0]; rfl,by rw [hend _ (by omega) (by omega),m1]; rfl,by rw [hend _ (by omega) (by omega),m2]; rfl,rn _,rn _⟩
def PushP(lab:Nat→Nat)(base k d:Nat)(ds:Array Value)(S:Nat→Prop)(w:World)(e:Ending)(w':World):Prop:=
 e=.returned (.tuple #[])∧∃ lab' A cap x1 x2,w'.heap[d]? = some (.cells (ds.setIfInBounds 4 (.slice (some ⟨A,0,none⟩) (k+1) cap)) 109 (0,0))∧NS w' lab' base (k+1) (.slice (some ⟨A,0,none⟩) (k+1) cap)∧Act Tryz.prog w' lab' base A k [] x1 x2 none∧Fz lab k S w w'∧LabEq w lab lab'
theorem NsC.of_block{w:World}{d:Nat}{ds:Array Value}{v:Value}(h:w.heap[d]? = some (.cells ds 109 (0,0)))(hv:ds[4]? = some v):NsC w d v:=by
 refine ⟨by rw [cell_of_row _ _ _ _ _ (0,0) h]; exact hv,?_⟩
 unfold World.frozen?
 simp only [h]
 simp
theorem push_room(lab:Nat→Nat)(base k d A cap:Nat)(ds:Array Value)(S:Nat→Prop)(w:World)(hk:k<4294967296)(hd:w.heap[d]? = some (.cells ds 109 (0,0)))(hv:ds[4]? = some (.slice (some ⟨A,0,none⟩) k cap))(hSd:S d)(hld:lab d=0)(hbA:base≤A)
  (hN:NS w lab base k (.slice (some ⟨A,0,none⟩) k cap)) (hkc:k<cap):Calls Tryz.prog 99 #[.pointer (some ⟨d,4,none⟩)] w (PushP lab base k d ds S w):=by
 obtain ⟨c1,f1⟩:=NsC.of_block hd hv
 have i0:(0:Int)≤(k:Int):=Int.natCast_nonneg _
 have i1:(k:Int)+1≤(cap:Int):=by omega
 have i2:k+1≤cap:=by omega
 have i3:((k:Int)+1).toNat=k+1:=by omega
 have iw:IntKind.i64.wrap ((k:Int)+1)=(k:Int)+1:=by rw [IntKind.wrap_i64]; omega
 have t1:decide (k<cap)=true:=by simpa using hkc
 have t2:decide ((k:Int)<(cap:Int))=true:=by simp; omega
 have hdl:d<w.heap.size:=(Array.getElem?_eq_some_iff.1 hd).1
 have hlA:lab A=1:=by
  rcases hN with ⟨h,_⟩|⟨A',cap',cs,hv',_,hl,_⟩
  ·cases h
  ·simp only [Value.slice.injEq,Option.some.injEq,Addr.mk.injEq,and_true,true_and] at hv'
   rw [hv'.1]
   exact hl
 have hAd:d≠A:=fun e=>by subst e; omega
 have hset:∀ n v,w.grownBy ((w.drewN n).setCell ⟨d,4,none⟩ v) (some d):=fun n v=>gb_set (gb_drewN (World.grownBy.refl _ _) n) 4 v
 have hNW:∀ n,NS ((w.drewN n).setCell ⟨d,4,none⟩ (.slice (some ⟨A,0,none⟩) (k+1) cap)) lab base (k+1) (.slice (some ⟨A,0,none⟩) (k+1) cap):=fun n=>by
  have h:=hN.of_gb (hset n (.slice (some ⟨A,0,none⟩) (k+1) cap)) (fun b hb _=>by rw [← Option.some.inj hb]; exact hld) (LabEq.refl _ _)
  rcases h with ⟨h,_⟩|⟨A',cap',cs,hv',h1,h2,h3,_,h5,h6,h7⟩
  ·cases h
  ·simp only [Value.slice.injEq,Option.some.injEq,Addr.mk.injEq,and_true,true_and] at hv'
   obtain ⟨rfl,rfl⟩:=hv'
   exact .inr ⟨A,cap,cs,rfl,h1,h2,h3,hkc,h5,h6,h7⟩
 have hRS:∀ n,∃ v1 v2 mo,RS lab base A k (fun _=>False) ((w.drewN n).setCell ⟨d,4,none⟩ (.slice (some ⟨A,0,none⟩) (k+1) cap)) ((w.drewN n).setCell ⟨d,4,none⟩ (.slice (some ⟨A,0,none⟩) (k+1) cap)) v1 v2 (.map mo):=fun n=>by
  obtain ⟨A',cap',cs,hv',h1,h2,h3,h4,h5,h6,h7⟩:=(hNW n).form
  simp only [Value.slice.injEq,Option.some.injEq,Addr.mk.injEq,and_true,true_and] at hv'
  obtain ⟨rfl,rfl⟩:=hv'
  obtain ⟨v1,v2,mo,e1,e2,e3,r1,r2⟩:=h7 k (by omega)
  exact ⟨v1,v2,mo,⟨cs,h3,e1,e2,e3⟩,h2,r1,r2,Fz.refl _ _ _ _,fun K nsv hn=>hn⟩
 have HN:=Hq hNW
 have HR:=Hq hRS
 have HD:=Hq (And.intro hd (And.intro hSd (And.intro hld (And.intro hset (And.intro hdl hAd)))))
 have LS:=Hq (fun cap w=>last75 A k cap w hk)
 clear hN hd hv hSd hld hkc hRS hNW hset hdl hAd hlA
 go_enter Tryz.func99,Tryz.ntmps99
 go_wp2_with fail
 go_quiet (fail)
 go_wp2_with fail
 go_region
 all_goals go_wp2_with fail
 refine (LS.out _ _).mono ?_
 rintro e w' ⟨rfl,rfl⟩
 go_wp2_with fail
 obtain ⟨v1,v2,mo,hrs⟩:=HR.out (nq+1)
 refine (reset141 lab base A k (fun _=>False) _ v1 v2 mo hrs).mono ?_
 rintro e w2 ⟨rfl,x1,x2,hr2,h1,h2⟩
 have R2:=Hq (And.intro hr2 (And.intro h1 h2))
 clear hrs hr2 h1 h2
 go_wp2_with fail
 go_end0
 obtain ⟨hr2,h1,h2⟩:=R2.out
 obtain ⟨hd,hSd,hld,hset,hdl,hAd⟩:=HD.out
 have hs:=hset (nq+1) (.slice (some ⟨A,0,none⟩) (k+1) cap)
 refine ⟨rfl,lab,A,cap,x1,x2,?_,hr2.ns _ _ (HN.out _),hr2.act h1 h2 hbA,(Fz.of_gb hs (fun b hb _=>by rw [← Option.some.inj hb]; exact hSd)).trans (LabEq.refl _ _) (hr2.fz.wide (fun b _ h=>h.elim)),LabEq.refl _ _⟩
 rw [hr2.fz.keep d (Nat.lt_of_lt_of_le hdl hs.size) (fun h=>h) (.inl hld)]
 exact heap_set_cells (w:=w.drewN (nq+1)) hd
theorem grow_run(lab:Nat→Nat)(base k:Nat)(ao:Option Addr)(w:World)(hk:k<4294967296)(hN:NS w lab base k (.slice ao k k)):
  ∃ (olds:List Value) (c:Nat),olds.length=3 * k∧(∀ j u,olds[j]? = some u→∀ a,ao=some a→w.cell? (a.add j)=some u)∧k+1≤c∧c≤maxLen∧
  (Builtin.append_ #[90,90] 90 #[.slice ao k k,.slice (some ⟨w.heap.size,0,none⟩) 1 1]).run Tryz.prog (w.alloc (.cells #[.slice none 0 0,.slice none 0 0,.map none] 190))=.ok (.slice (some ⟨w.heap.size+1,0,none⟩) (k+1) c)
    ((w.alloc (.cells #[.slice none 0 0,.slice none 0 0,.map none] 190)).drew.alloc (.cells ((olds++[Value.slice none 0 0,Value.slice none 0 0,Value.map none]).toArray++Builtin.zeroCells #[Value.slice none 0 0,Value.slice none 0 0,Value.map none] (c-(k+1))) 190)):=by
 obtain ⟨i0,hi,hz,hsz,hby⟩:=info_parts info190
 obtain ⟨olds,hol,hold⟩:∃ olds:List Value,olds.length=3 * k∧∀ j u,olds[j]? = some u→∀ a,ao=some a→w.cell? (a.add j)=some u:=by
  rcases hN with ⟨h,h0⟩|⟨A',cap',cs,hv',_,_,hc,hk',_,hcs,_⟩
  ·exact ⟨[],by subst h0; rfl,fun j u hu=>by simp at hu⟩
  ·simp only [Value.slice.injEq,true_and] at hv'
   obtain ⟨rfl,rfl⟩:=hv'
   refine ⟨cs.toList,by rw [Array.length_toList,hcs]; omega,fun j u hu a ha => ?_⟩
   have:=Option.some.inj ha
   subst this
   have hadd:(⟨A',0,none⟩:Addr).add j=⟨A',j,none⟩:=by unfold Addr.add; split<;>simp_all
   rw [hadd,cell_of_row _ _ _ _ _ (0,0) hc]
   simpa using hu
 have hsrc:Src Tryz.prog i0.size 90 (.slice (some ⟨w.heap.size,0,none⟩) 1 1) 1 [Value.slice none 0 0,Value.slice none 0 0,Value.map none] (w.alloc (.cells #[.slice none 0 0,.slice none 0 0,.map none] 190)):=
  Src.ofSlice _ Tryz.underlying90 _ _ _ _ (by rw [hsz]; rfl) (World.news_of_block (cs:=#[.slice none 0 0,.slice none 0 0,.map none]) (t:=190) (fr:=(0,0)) (heap_alloc_new w _)) (by simp [Value.oneCell'])
 have hfc:(Builtin.firstCells i0.size k (.slice ao k k)).run Tryz.prog (w.alloc (.cells #[.slice none 0 0,.slice none 0 0,.map none] 190)).drew=.ok olds.toArray (w.alloc (.cells #[.slice none 0 0,.slice none 0 0,.map none] 190)).drew:=by
  cases ao with
  |none=>
   have h0:k=0:=by
    rcases hN with ⟨h,h0⟩|⟨A',cap',cs,hv',_⟩
    ·exact h0
    ·cases hv'
   subst h0
   have:olds=[]:=List.eq_nil_of_length_eq_zero (by omega)
   subst this
   exact run_firstCells_none _ _ _ _ _
  |some a=>
   refine run_firstCells_some _ _ _ _ _ _ _ (by rw [hsz]; omega) (fun j u hu => ?_)
   have e:=hold j u hu a rfl
   have hlt:=World.block_lt_of_cell? w _ e
   exact (World.cell?_of_block (w:=w) (a:=a.add j) ((World.grownBy_alloc w (.cells #[.slice none 0 0,.slice none 0 0,.map none] 190) none).block (a.add j).block hlt (by simp))).trans e
 have hr:=run_append_grow_src (P:=Tryz.prog) (w.alloc (.cells #[.slice none 0 0,.slice none 0 0,.map none] 190)) 90 90 90 190 i0 _ Tryz.underlying90 hi hz ao k k olds hfc _ 1 _ hsrc (by omega) (by omega) (growslice_fits (by omega) (by rw [hby]; omega))
 have hcge:=grownCap_ge (w.alloc (.cells #[.slice none 0 0,.slice none 0 0,.map none] 190)) (k+1) k 190
 have hcle:=grownCap_le_maxLen (w.alloc (.cells #[.slice none 0 0,.slice none 0 0,.map none] 190)) (k+1) k 190 (by unfold maxLen; omega)
 refine ⟨olds,_,hol,hold,hcge,hcle,?_⟩
 rw [hr]
 simp
 rfl
theorem push_grow(lab:Nat→Nat)(base k d:Nat)(ao:Option Addr)(ds:Array Value)(S:Nat→Prop)(w:World)(hk:k<4294967296)(hd:w.heap[d]? = some (.cells ds 109 (0,0)))(hv:ds[4]? = some (.slice ao k k))(hSd:S d)(hld:lab d=0)(hb:base≤w.heap.size)
  (hN:NS w lab base k (.slice ao k k)):Calls Tryz.prog 99 #[.pointer (some ⟨d,4,none⟩)] w (PushP lab base k d ds S w):=by
 obtain ⟨c1,f1⟩:=NsC.of_block hd hv
 have hdl:d<w.heap.size:=(Array.getElem?_eq_some_iff.1 hd).1
 have t1:decide (k<k)=false:=by simp
 have HN:=Hq hN
 have HG:=Hq (fun n=>grow_run lab base k ao (w.drewN n) hk hN)
 have HD:=Hq (And.intro hd (And.intro hSd (And.intro hld (And.intro hdl hb))))
 clear hN hd hv hSd hld hb
 go_enter Tryz.func99,Tryz.ntmps99
 go_wp2_with fail
 go_quiet (fail)
 obtain ⟨olds,c,hol,hold,hc,hcm,hrun⟩:=HG.out nq
 generalize hw3:(((w.drewN nq).alloc (Obj.cells #[Value.slice none 0 0,Value.slice none 0 0,Value.map none] 190)).drew.alloc _)=w3 at hrun
 have hg3:w.grownBy w3 none:=by
  rw [← hw3]
  exact (gb_drewN ((gb_drewN (World.grownBy.refl w none) nq).trans (World.grownBy_alloc _ _ none)) 1).trans (World.grownBy_alloc _ _ none)
 have hA3:w3.heap[w.heap.size+1]? = some (.cells ((olds++[Value.slice none 0 0,Value.slice none 0 0,Value.map none]).toArray++Builtin.zeroCells #[Value.slice none 0 0,Value.slice none 0 0,Value.map none] (c-(k+1))) 190 (0,0)):=by
  rw [← hw3]
  have h:=heap_alloc_new ((w.drewN nq).alloc (Obj.cells #[Value.slice none 0 0,Value.slice none 0 0,Value.map none] 190)).drew (.cells ((olds++[Value.slice none 0 0,Value.slice none 0 0,Value.map none]).toArray++Builtin.zeroCells #[Value.slice none 0 0,Value.slice none 0 0,Value.map none] (c-(k+1))) 190)
  rw [show ((w.drewN nq).alloc (Obj.cells #[Value.slice none 0 0,Value.slice none 0 0,Value.map none] 190)).drew.heap.size=w.heap.size+1 by simp] at h
  exact h
 have G:=HN.out.grow (A':=w.heap.size+1) (Nat.le_refl k) hol hold hg3 hA3 (by omega) (by have:=HD.out.2.2.2.2; omega) hc hcm
 have d1:w3.cell? ⟨d,4,none⟩=some (.slice ao k k):=(World.cell?_of_block (w:=w) (a:=⟨d,4,none⟩) (hg3.block d hdl (by simp))).trans c1
 have d2:w3.frozen? ⟨d,4,none⟩=false:=(World.frozen?_of_block (w:=w) (a:=⟨d,4,none⟩) (hg3.block d hdl (by simp))).trans f1
 have R:=Hq (And.intro G (And.intro hg3 hA3))
 have HR:=Hq hrun
 clear hol hold hc hcm hrun hw3 G hg3 hA3
 go_wp2_with (at_builtin; refine Lib.wpList_append_run _ rfl _ _ 90 90 (by rfl) _ _ (by rfl) (by rfl) _ _ HR.out ?_)
 go_end0
 obtain ⟨⟨g1,g2,g3⟩,hg3,hA3⟩:=R.out
 obtain ⟨hd,hSd,hld,hdl,hb⟩:=HD.out
 have hAd:d≠w.heap.size+1:=by omega
 have hset:w3.grownBy (w3.setCell ⟨d,4,none⟩ (.slice (some ⟨w.heap.size+1,0,none⟩) (k+1) c)) (some d):=gb_set (World.grownBy.refl _ _) 4 _
 have hl0:(fun b=>if b=w.heap.size+1 then 1 else lab b) d=0:=(if_neg hAd).trans hld
 refine ⟨rfl,_,w.heap.size+1,c,.slice none 0 0,.slice none 0 0,heap_set_cells ((hg3.block d hdl (by simp)).trans hd),g1.of_gb hset (fun b hb _=>by rw [← Option.some.inj hb]; exact hl0) (LabEq.refl _ _),?_,?_,g3⟩
 ·have hc:=g2.block (heap_set_other (A:=d) (o:=4) (u:=.slice (some ⟨w.heap.size+1,0,none⟩) (k+1) c) (Ne.symm hAd))
  exact ⟨hc,by omega,if_pos rfl,World.ownsRow_nil _ _ _ _,fun g hg=>(by cases hg),World.ownsRow_nil _ _ _ _,fun g hg=>(by cases hg),fun M hM=>(by cases hM),fun nm hn=>(by cases hn)⟩
 ·exact (Fz.of_gb hg3 (fun b hb=>by cases hb)).trans (LabEq.refl _ _) (Fz.of_gb hset (fun b hb _=>by rw [← Option.some.inj hb]; exact hSd))
theorem push99(lab:Nat→Nat)(base k d:Nat)(nsv:Value)(ds:Array Value)(S:Nat→Prop)(w:World)(hk:k<4294967296)(hd:w.heap[d]? = some (.cells ds 109 (0,0)))(hv:ds[4]? = some nsv)(hSd:S d)(hld:lab d=0)(hb:base≤w.heap.size)
  (hN:NS w lab base k nsv):Calls Tryz.prog 99 #[.pointer (some ⟨d,4,none⟩)] w (PushP lab base k d ds S w):=by
 rcases hN with ⟨rfl,rfl⟩|⟨A,cap,cs,rfl,hbA,hlA,hc,hkc,hcm,hcs,hsl⟩
 ·exact push_grow lab base 0 d none ds S w hk hd hv hSd hld hb (.inl ⟨rfl,rfl⟩)
 ·by_cases h:k<cap
  ·exact push_room lab base k d A cap ds S w hk hd hv hSd hld hbA (.inr ⟨A,cap,cs,rfl,hbA,hlA,hc,hkc,hcm,hcs,hsl⟩) h
  ·obtain rfl:cap=k:=by omega
   exact push_grow lab base cap d (some ⟨A,0,none⟩) ds S w hk hd hv hSd hld hb (.inr ⟨A,cap,cs,rfl,hbA,hlA,hc,hkc,hcm,hcs,hsl⟩)
end Go.Proofs.YtknaalohaagcdaaGreatDoor.Own
namespace Go.Proofs.YtknaalohaagcdaaGreatDoor.Own
def SameRow(v v':Value):Prop:=v'=v∨∃ g n n' cap,v=.slice (some ⟨g,0,none⟩) n cap∧v'=.slice (some ⟨g,0,none⟩) n' cap
theorem SameRow.refl(v:Value):SameRow v v:=.inl rfl
theorem SameRow.trans{a b c:Value}(h:SameRow a b)(h2:SameRow b c):SameRow a c:=by
 rcases h with rfl|⟨g,n,n',cap,rfl,rfl⟩
 ·exact h2
 ·rcases h2 with rfl|⟨g',m,m',cap',e,rfl⟩
  ·exact .inr ⟨g,n,n',cap,rfl,rfl⟩
  ·simp only [Value.slice.injEq,Option.some.injEq,Addr.mk.injEq,and_true] at e
   obtain ⟨rfl,rfl,rfl⟩:=e
   exact .inr ⟨_,_,_,_,rfl,rfl⟩
theorem SameRow.own{a b:Value}(h:SameRow a b):b.ownBlock=a.ownBlock:=by
 rcases h with rfl|⟨g,n,n',cap,rfl,rfl⟩<;>rfl
theorem SameRow.old{w w':World}{base:Nat}{e:TypeId}{v v':Value}{n n':Nat}{xs ys:List Value}(h:SameRow v v')(ho:w.ownsRow base e 1 v n xs)(ho':w'.ownsRow base e 1 v' n' (xs++ys)):w'.ownsRow base e 1 v n xs:=by
 have hl:=ho.1
 have hl':=ho'.1
 rw [List.length_append] at hl'
 rcases ho.2 with ⟨rfl,h0⟩|⟨g,cap,cur,rfl,hb,hg,hnc,hcm,hcs,htk⟩
 ·exact ⟨ho.1,.inl ⟨rfl,h0⟩⟩
 ·have hv:∃ m,v'=.slice (some ⟨g,0,none⟩) m cap:=by
   rcases h with h|⟨g',m,m',cap',e1,e2⟩
   ·exact ⟨n,h⟩
   ·simp only [Value.slice.injEq,Option.some.injEq,Addr.mk.injEq,and_true] at e1
    obtain ⟨rfl,rfl,rfl⟩:=e1
    exact ⟨m',e2⟩
  obtain ⟨m,rfl⟩:=hv
  rcases ho'.2 with ⟨h,_⟩|⟨g',cap',cur',hv',hb',hg',hnc',hcm',hcs',htk'⟩
  ·cases h
  ·simp only [Value.slice.injEq,Option.some.injEq,Addr.mk.injEq,and_true] at hv'
   obtain ⟨rfl,rfl,rfl⟩:=hv'
   refine ⟨ho.1,.inr ⟨g,cap,cur',rfl,hb,hg',hnc,hcm,hcs',?_⟩⟩
   have e1:(cur'.toList.take (m * 1)).take (n * 1)=xs:=by
    rw [htk',← hl]
    exact List.take_left
   rwa [List.take_take,Nat.min_eq_left (by omega)] at e1
theorem run_app{P:Program}(w:World)(base:Nat)(t tx ty e:TypeId)(i:TypeInfo)(z:Value)(bytes:Nat)(ht:P.underlying t=some (.slice e))(hi:P.info? e=some i)(hz:i.zero=some z)
  (hsize:i.size=1) (hby:i.bytes=bytes) (hzs:z.cells.size=1) (v:Value) (n:Nat) (xs:List Value) (hown:w.ownsRow base e 1 v n xs) (x:Value) (m:Nat) (news:List Value) (hs:Src P 1 tx x m news w)
  (h63:n+m≤maxLen) (hbytes:(n+m) * bytes≤140737488355328) (hbase:base≤w.heap.size):
  ∃ v' w',(Builtin.append_ #[t,tx] ty #[v,x]).run P w=.ok v' w'∧w'.ownsRow base e 1 v' (n+m) (xs++news)∧w.grownBy w' v.ownBlock∧(SameRow v v'∨v'.ownBlock=some w.heap.size)∧w'.ownsRow base e 1 v n xs:=by
 subst hby
 have hsmall:n+m≤9223372036854775807:=by simp only [maxLen] at h63; omega
 have hl:news.length=m * 1:=hs.newsLen
 have hlen:(xs++news).length=(n+m) * 1:=by rw [List.length_append,hown.1,hl,Nat.add_mul]
 have grown:∀ (old:Nat),old<n+m→∀ (row:Option Nat),
   (w.drew.alloc (.cells ((xs++news).toArray++Builtin.zeroCells z.cells (grownCap w (n+m) old e-(n+m))) e)).ownsRow base e 1
    (.slice (some ⟨w.heap.size,0,none⟩) (n+m) (grownCap w (n+m) old e)) (n+m) (xs++news)∧
   w.grownBy (w.drew.alloc (.cells ((xs++news).toArray++Builtin.zeroCells z.cells (grownCap w (n+m) old e-(n+m))) e)) row:=by
  intro old ho row
  have hge:=grownCap_ge w (n+m) old e
  have hcm:grownCap w (n+m) old e≤maxLen:=grownCap_le_maxLen w (n+m) old e h63
  refine ⟨⟨hlen,.inr ⟨w.heap.size,_,_,rfl,hbase,heap_alloc_new w.drew _,hge,hcm,?_,?_⟩⟩,⟨rfl,rfl,rfl,by simp,fun k hk _=>by first|exact heap_alloc_old w.drew _ hk|exact heap_alloc_old w.drew _ k hk⟩⟩
  ·simp only [Array.size_append,List.size_toArray,size_zeroCells,hzs,hlen]
   omega
  ·rw [Array.toList_append,← hlen]
   exact List.take_left
 rcases hown.2 with ⟨rfl,rfl⟩|⟨g,cap,cur,rfl,hbg,hg,hnc,hcm,hcs,htake⟩
 ·have hx:xs=[]:=List.eq_nil_of_length_eq_zero (by simpa using hown.1)
  subst hx
  by_cases hm:m=0
  ·subst hm
   have hn:news=[]:=List.eq_nil_of_length_eq_zero (by simpa using hl)
   subst hn
   refine ⟨.slice none 0 0,w,?_,World.ownsRow_nil w base e 1,⟨rfl,rfl,rfl,Nat.le_refl _,fun _ _ _=>rfl⟩,.inl (.inl rfl),World.ownsRow_nil _ _ _ _⟩
   have hc:=hs.cells
   rcases hs.kind with ⟨e',hk⟩|hk<;>simp [Builtin.append_,run_underlying ht,run_underlying hk,sizeOf,typeInfo,hi,hs.len,hsize,hc]
  ·have hr:=run_append_grow_src (P:=P) w t tx ty e i z ht hi hz none 0 0 [] (run_firstCells_none w.drew i.size 0 0 0) x m news (by rw [hsize]; exact hs) (by omega) (by omega) (growslice_fits (by omega) hbytes)
   have hgr:=grown 0 (by omega) (Value.ownBlock (.slice none 0 0))
   exact ⟨_,_,hr,hgr.1,hgr.2,.inr rfl,World.ownsRow_nil _ _ _ _⟩
 ·by_cases hroom:n+m≤cap
  ·have hfit:n * 1+news.length≤cur.size:=by rw [hl,hcs,← Nat.add_mul]; exact Nat.mul_le_mul_right _ hroom
   have hst:=run_storeCells_at P g (n * 1) e news 0 cur w hg (by simpa using hfit) hs.one
   simp only [Nat.add_zero] at hst
   have hr:(Builtin.append_ #[t,tx] ty #[.slice (some ⟨g,0,none⟩) n cap,x]).run P w=.ok (.slice (some ⟨g,0,none⟩) (n+m) cap) (w.setRow g (cur.toList.take (n * 1)++news++cur.toList.drop (n * 1+news.length)).toArray):=by
    simp only [Nat.mul_one] at hst ⊢
    rcases hs.kind with ⟨e',hk⟩|hk<;>simp [Builtin.append_,run_underlying ht,run_underlying hk,sizeOf,typeInfo,hi,hs.len,hroom,hsize,hs.cells,Addr.add_lit,hst]
   have hnew:(w.setRow g (cur.toList.take (n * 1)++news++cur.toList.drop (n * 1+news.length)).toArray).ownsRow base e 1 (.slice (some ⟨g,0,none⟩) (n+m) cap) (n+m) (xs++news):=by
    refine ⟨hlen,.inr ⟨g,cap,_,rfl,hbg,setRow_heap w g cur _ e _ hg,hroom,hcm,?_,?_⟩⟩
    ·simp only [List.size_toArray,List.length_append,List.length_take,List.length_drop,Array.length_toList]
     omega
    ·show ((List.take (n * 1) cur.toList++news++List.drop (n * 1+news.length) cur.toList)).take _=_
     rw [htake,← hlen]
     exact List.take_left
   have hsr:SameRow (.slice (some ⟨g,0,none⟩) n cap) (.slice (some ⟨g,0,none⟩) (n+m) cap):=.inr ⟨g,n,n+m,cap,rfl,rfl⟩
   exact ⟨_,_,hr,hnew,⟨rfl,rfl,rfl,by simp,fun k _ hk=>setRow_other w g k _ (fun e=>hk (by simp [Value.ownBlock,e]))⟩,.inl hsr,hsr.old hown hnew⟩
  ·have holds:∀ j u,xs[j]? = some u→w.drew.cell? ((⟨g,0,none⟩:Addr).add j)=some u:=hown.cells (g:=g) rfl
   have hr:=run_append_grow_src (P:=P) w t tx ty e i z ht hi hz (some ⟨g,0,none⟩) n cap xs (run_firstCells_some w.drew i.size n ⟨g,0,none⟩ n cap xs (by rw [hsize]; exact hown.1) holds) x m news (by rw [hsize]; exact hs) (by omega) (by omega) (growslice_fits (by omega) hbytes)
   have hgr:=grown cap (by omega) (Value.ownBlock (.slice (some ⟨g,0,none⟩) n cap))
   exact ⟨_,_,hr,hgr.1,hgr.2,.inr rfl,hown.kept (grown cap (by omega) none).2 (.inr (by simp [Value.ownBlock]))⟩
theorem wp_app{P:Program}(w:World){o:Oper}{a:Go.Act}{K:Go.Act→World→Prop}{Q:Exit→Go.Act→World→Prop}(s x:Operand)(t tx:TypeId)
  (ho:o.op=.call { callee:=.builtin .append,args:=#[s,x],argTypes:=#[t,tx] })
  (base:Nat) (e:TypeId) (i:TypeInfo) (z:Value) (bytes:Nat) (ht:P.underlying t=some (.slice e)) (hi:P.info? e=some i) (hz:i.zero=some z)
  (hsize:i.size=1) (hby:i.bytes=bytes) (hzs:z.cells.size=1) (v:Value) (n:Nat) (xs:List Value) (hs:a.eval s=v) (hown:w.ownsRow base e 1 v n xs) (xv:Value) (m:Nat) (news:List Value) (hx:a.eval x=xv) (hsrc:Src P 1 tx xv m news w)
  (h63:n+m≤maxLen) (hbytes:(n+m) * bytes≤140737488355328) (hbase:base≤w.heap.size)
  (h:∀ v' w',w'.ownsRow base e 1 v' (n+m) (xs++news)→w.grownBy w' v.ownBlock→(SameRow v v'∨v'.ownBlock=some w.heap.size)→w'.ownsRow base e 1 v n xs→K (a.put o.dst v') w'):o.wp P a w K Q:=by
 obtain ⟨v',w',hr,h2,h3,h4,h5⟩:=run_app (P:=P) w base t tx o.type e i z bytes ht hi hz hsize hby hzs v n xs hown xv m news hsrc h63 hbytes hbase
 unfold Oper.wp execOp
 simp only [ho,resolve,invoke,builtin,Sem.run_bind,Sem.run_pure,Result.andThen_ok,List.map_toArray,List.map_cons,List.map_nil,hs,hx,hr]
 exact h v' w' h2 h3 h4 h5
theorem wpList_app{P:Program}(w:World){ops:Array Oper}{rest:List Oper}{o:Oper}{a:Go.Act}{Q:Exit→Go.Act→World→Prop}(hgd:o.guard=none)(s x:Operand)(t tx:TypeId)
  (ho:o.op=.call { callee:=.builtin .append,args:=#[s,x],argTypes:=#[t,tx] })
  (base:Nat) (e:TypeId) (i:TypeInfo) (z:Value) (bytes:Nat) (ht:P.underlying t=some (.slice e)) (hi:P.info? e=some i) (hz:i.zero=some z)
  (hsize:i.size=1) (hby:i.bytes=bytes) (hzs:z.cells.size=1) (v:Value) (n:Nat) (xs:List Value) (hs:a.eval s=v) (hown:w.ownsRow base e 1 v n xs) (xv:Value) (m:Nat) (news:List Value) (hx:a.eval x=xv) (hsrc:Src P 1 tx xv m news w)
  (h63:n+m≤maxLen) (hbytes:(n+m) * bytes≤140737488355328) (hbase:base≤w.heap.size)
  (h:∀ v' w',w'.ownsRow base e 1 v' (n+m) (xs++news)→w.grownBy w' v.ownBlock→(SameRow v v'∨v'.ownBlock=some w.heap.size)→w'.ownsRow base e 1 v n xs→wpList P ops Q rest (a.put o.dst v') w'):wpList P ops Q (o::rest) a w:=
 wpList_plain hgd fun _ hK=>wp_app w s x t tx ho base e i z bytes ht hi hz hsize hby hzs v n xs hs hown xv m news hx hsrc h63 hbytes hbase fun v' w' h2 h3 h4 h5=>hK _ _ (h v' w' h2 h3 h4 h5)
theorem step_app{P:Program}(w:World){ops:Array Oper}{o:Oper}{a:Go.Act}{K:Go.Act→World→Prop}{Q:Exit→Go.Act→World→Prop}{E:Prop}(hgd:o.guard=none)(s x:Operand)(t tx:TypeId)
  (ho:o.op=.call { callee:=.builtin .append,args:=#[s,x],argTypes:=#[t,tx] })
  (base:Nat) (e:TypeId) (i:TypeInfo) (z:Value) (bytes:Nat) (ht:P.underlying t=some (.slice e)) (hi:P.info? e=some i) (hz:i.zero=some z)
  (hsize:i.size=1) (hby:i.bytes=bytes) (hzs:z.cells.size=1) (v:Value) (n:Nat) (xs:List Value) (hs:a.eval s=v) (hown:w.ownsRow base e 1 v n xs) (xv:Value) (m:Nat) (news:List Value) (hx:a.eval x=xv) (hsrc:Src P 1 tx xv m news w)
  (h63:n+m≤maxLen) (hbytes:(n+m) * bytes≤140737488355328) (hbase:base≤w.heap.size)
  (h:∀ v' w',w'.ownsRow base e 1 v' (n+m) (xs++news)→w.grownBy w' v.ownBlock→(SameRow v v'∨v'.ownBlock=some w.heap.size)→w'.ownsRow base e 1 v n xs→K (a.put o.dst v') w'):
  if Region.wanted o (yielded ops a.tmps)=true then Oper.wp P o a w K Q else E:=by
 have hw:Region.wanted o (yielded ops a.tmps)=true:=by simp [Region.wanted,hgd]
 rw [if_pos hw]
 exact wp_app w s x t tx ho base e i z bytes ht hi hz hsize hby hzs v n xs hs hown xv m news hx hsrc h63 hbytes hbase fun v' w' h2 h3 h4 h5=>h v' w' h2 h3 h4 h5
end Go.Proofs.YtknaalohaagcdaaGreatDoor.Own
