import Derived.Test.YtknaalohaagcdaaGreatDoorG01
import Derived.Below
import Derived.WalkKit
import Derived.Lib.Hide
import Derived.Laws.AppendOwn
import Derived.Maps.Own
import Derived.Maps.OwnSet
import Derived.Maps.AppendAt
set_option maxHeartbeats 400000000
set_option maxRecDepth 100000
namespace Go.Proofs.YtknaalohaagcdaaGreatDoor.Own
open Go.RowKit
def RowOk(w:World)(lab:Nat→Nat)(base l:Nat)(e:TypeId)(v:Value):Prop:=∃ n xs,w.ownsRow base e 1 v n xs∧∀ g,v.ownBlock=some g→lab g=l
structure Fz(lab:Nat→Nat)(k:Nat)(S:Nat→Prop)(w w':World):Prop where
 os:w'.os=w.os
 tape:w'.tape=w.tape
 output:w'.output=w.output
 size:w.heap.size≤w'.heap.size
 keep:∀ b,b<w.heap.size→¬ S b→lab b=0∨(2≤lab b∧lab b<k+2)→w'.heap[b]? = w.heap[b]?
 arr:∀ b,b<w.heap.size→¬ S b→lab b=1→∀ cs t,w.heap[b]? = some (.cells cs t (0,0))→∃ cs',w'.heap[b]? = some (.cells cs' t (0,0))∧cs'.size=cs.size∧∀ o,o<3 * k→cs'[o]? = cs[o]?
 row:∀ b,b<w.heap.size→¬ S b→2≤lab b→∀ cs t,w.heap[b]? = some (.cells cs t (0,0))→∃ cs',w'.heap[b]? = some (.cells cs' t (0,0))∧cs'.size=cs.size
theorem Fz.of_gb{lab:Nat→Nat}{k:Nat}{S:Nat→Prop}{w w':World}{r:Option Nat}(h:w.grownBy w' r)(hr:∀ b,r=some b→b<w.heap.size→S b):Fz lab k S w w':=by
 have hb:∀ b,b<w.heap.size→¬ S b→w'.heap[b]? = w.heap[b]? := fun b hlt hs=>h.block b hlt (fun e=>hs (hr b e.symm hlt))
 exact ⟨h.os,h.tape,h.output,h.size,fun b hlt hs _=>hb b hlt hs,fun b hlt hs _ cs t hc=>⟨cs,(hb b hlt hs).trans hc,rfl,fun _ _=>rfl⟩,fun b hlt hs _ cs t hc=>⟨cs,(hb b hlt hs).trans hc,rfl⟩⟩
theorem Fz.refl(lab:Nat→Nat)(k:Nat)(S:Nat→Prop)(w:World):Fz lab k S w w:=Fz.of_gb (World.grownBy.refl w none) (fun b h=>by cases h)
def LabEq(w:World)(lab lab':Nat→Nat):Prop:=∀ b,b<w.heap.size→lab' b=lab b
theorem LabEq.refl(w:World)(lab:Nat→Nat):LabEq w lab lab:=fun _ _=>rfl
theorem LabEq.trans{w w':World}{l1 l2 l3:Nat→Nat}(h:LabEq w l1 l2)(h2:LabEq w' l2 l3)(hs:w.heap.size≤w'.heap.size):LabEq w l1 l3:=fun b hb=>(h2 b (by omega)).trans (h b hb)
theorem Fz.trans{lab lab':Nat→Nat}{k:Nat}{S:Nat→Prop}{a b c:World}(h:Fz lab k S a b)(hl:LabEq a lab lab')(h2:Fz lab' k S b c):Fz lab k S a c:=by
 refine ⟨h2.os.trans h.os,h2.tape.trans h.tape,h2.output.trans h.output,Nat.le_trans h.size h2.size,fun i hi hs hx => ?_,fun i hi hs hx cs t hc => ?_,fun i hi hs hx cs t hc => ?_⟩
 ·exact (h2.keep i (Nat.lt_of_lt_of_le hi h.size) hs (by rw [hl i hi]; exact hx)).trans (h.keep i hi hs hx)
 ·obtain ⟨c1,e1,s1,o1⟩:=h.arr i hi hs hx cs t hc
  obtain ⟨c2,e2,s2,o2⟩:=h2.arr i (Nat.lt_of_lt_of_le hi h.size) hs (by rw [hl i hi]; exact hx) c1 t e1
  exact ⟨c2,e2,s2.trans s1,fun o ho=>(o2 o ho).trans (o1 o ho)⟩
 ·obtain ⟨c1,e1,s1⟩:=h.row i hi hs hx cs t hc
  obtain ⟨c2,e2,s2⟩:=h2.row i (Nat.lt_of_lt_of_le hi h.size) hs (by rw [hl i hi]; exact hx) c1 t e1
  exact ⟨c2,e2,s2.trans s1⟩
theorem Fz.down{lab:Nat→Nat}{k:Nat}{S:Nat→Prop}{w w':World}(h:Fz lab (k+1) S w w'):Fz lab k S w w':=
 ⟨h.os,h.tape,h.output,h.size,fun b hb hs hx=>h.keep b hb hs (by omega),fun b hb hs hx cs t hc=>by obtain ⟨c1,e1,s1,o1⟩:=h.arr b hb hs hx cs t hc; exact ⟨c1,e1,s1,fun o ho=>o1 o (by omega)⟩,h.row⟩
theorem Fz.wide{lab:Nat→Nat}{k:Nat}{S T:Nat→Prop}{w w':World}(h:Fz lab k S w w')(hst:∀ b,b<w.heap.size→S b→T b):Fz lab k T w w':=
 ⟨h.os,h.tape,h.output,h.size,fun b hb hs hx=>h.keep b hb (fun e=>hs (hst b hb e)) hx,fun b hb hs hx=>h.arr b hb (fun e=>hs (hst b hb e)) hx,fun b hb hs hx=>h.row b hb (fun e=>hs (hst b hb e)) hx⟩
theorem RowOk.of_shape{w w':World}{lab lab':Nat→Nat}{base l:Nat}{e:TypeId}{v:Value}(h:RowOk w lab base l e v)(hl:LabEq w lab lab')
  (hs:∀ b,b<w.heap.size→lab b=l→∀ cs t,w.heap[b]? = some (.cells cs t (0,0))→∃ cs',w'.heap[b]? = some (.cells cs' t (0,0))∧cs'.size=cs.size):RowOk w' lab' base l e v:=by
 obtain ⟨n,xs,ho,hlb⟩:=h
 rcases ho.2 with ⟨rfl,hn⟩|⟨g,cap,cur,rfl,hb,hg,hnc,hcm,hcs,htk⟩
 ·exact ⟨n,xs,⟨ho.1,.inl ⟨rfl,hn⟩⟩,fun g hg=>by cases hg⟩
 ·have hlt:g<w.heap.size:=(Array.getElem?_eq_some_iff.1 hg).1
  have hlg:lab g=l:=hlb g rfl
  obtain ⟨cs',e1,e2⟩:=hs g hlt hlg cur e hg
  refine ⟨n,cs'.toList.take (n * 1),⟨?_,.inr ⟨g,cap,cs',rfl,hb,e1,hnc,hcm,by rw [e2]; exact hcs,rfl⟩⟩,fun g' hg' => ?_⟩
  ·rw [List.length_take,Array.length_toList,e2,hcs]
   omega
  ·have:g=g':=Option.some.inj hg'
   subst this
   rw [hl g hlt]
   exact hlg
theorem RowOk.nil(w:World)(lab:Nat→Nat)(base l:Nat)(e:TypeId):RowOk w lab base l e (.slice none 0 0):=⟨0,[],World.ownsRow_nil w base e 1,fun g hg=>by cases hg⟩
theorem RowOk.fz{w w':World}{lab lab':Nat→Nat}{base j k:Nat}{S:Nat→Prop}{e:TypeId}{v:Value}(h:RowOk w lab base (j+2) e v)(hf:Fz lab k S w w')(hS:∀ b,b<w.heap.size→S b→lab b=0)(hl:LabEq w lab lab'):RowOk w' lab' base (j+2) e v:=
 h.of_shape hl (fun b hb hlb cs t hc=>hf.row b hb (fun hs=>by have:=hS b hb hs; omega) (by omega) cs t hc)
theorem own_fz{w w':World}{lab:Nat→Nat}{base j k n:Nat}{S:Nat→Prop}{e:TypeId}{v:Value}{xs:List Value}(h:w.ownsRow base e 1 v n xs)(hlb:∀ g,v.ownBlock=some g→lab g=j+2)(hf:Fz lab k S w w')(hjk:j<k)(hS:∀ b,b<w.heap.size→S b→lab b=0):w'.ownsRow base e 1 v n xs:=by
 refine ⟨h.1,?_⟩
 rcases h.2 with hn|⟨g,cap,cur,rfl,hb,hg,rest⟩
 ·exact .inl hn
 ·have hlt:g<w.heap.size:=(Array.getElem?_eq_some_iff.1 hg).1
  have hlg:lab g=j+2:=hlb g rfl
  exact .inr ⟨g,cap,cur,rfl,hb,(hf.keep g hlt (fun hs=>by have:=hS g hlt hs; omega) (.inr ⟨by omega,by omega⟩)).trans hg,rest⟩
def Slot(w:World)(lab:Nat→Nat)(base:Nat)(cs:Array Value)(j:Nat):Prop:=
 ∃ v1 v2 mo,cs[3 * j]? = some v1∧cs[3 * j+1]? = some v2∧cs[3 * j+2]? = some (.map mo)∧RowOk w lab base (j+2) 111 v1∧RowOk w lab base (j+2) 5 v2
def NS(w:World)(lab:Nat→Nat)(base k:Nat)(nsv:Value):Prop:=
 (nsv=.slice none 0 0∧k=0)∨
 ∃ A cap cs,nsv=.slice (some ⟨A,0,none⟩) k cap∧base≤A∧lab A=1∧w.heap[A]? = some (.cells cs 190 (0,0))∧k≤cap∧cap≤maxLen∧cs.size=cap * 3∧∀ j,j<cap→Slot w lab base cs j
theorem NS.of_gb{w w':World}{lab lab':Nat→Nat}{base k:Nat}{nsv:Value}{r:Option Nat}(h:NS w lab base k nsv)(hg:w.grownBy w' r)(hr:∀ b,r=some b→b<w.heap.size→lab b=0)(hl:LabEq w lab lab'):NS w' lab' base k nsv:=by
 rcases h with h|⟨A,cap,cs,rfl,hb,hlA,hA,hk,hcm,hcs,hsl⟩
 ·exact .inl h
 ·have hlt:A<w.heap.size:=(Array.getElem?_eq_some_iff.1 hA).1
  have hbl:∀ b,b<w.heap.size→lab b≠0→w'.heap[b]? = w.heap[b]? := fun b hb hx=>hg.block b hb (fun e=>hx (hr b e.symm hb))
  refine .inr ⟨A,cap,cs,rfl,hb,by rw [hl A hlt]; exact hlA,(hbl A hlt (by omega)).trans hA,hk,hcm,hcs,fun j hj => ?_⟩
  obtain ⟨v1,v2,mo,e1,e2,e3,r1,r2⟩:=hsl j hj
  have sh:∀ b,b<w.heap.size→lab b=j+2→∀ cs t,w.heap[b]? = some (.cells cs t (0,0))→∃ cs',w'.heap[b]? = some (.cells cs' t (0,0))∧cs'.size=cs.size:=fun b hb hx cs t hc=>⟨cs,(hbl b hb (by omega)).trans hc,rfl⟩
  exact ⟨v1,v2,mo,e1,e2,e3,r1.of_shape hl sh,r2.of_shape hl sh⟩
theorem NS.shp{w w':World}{lab lab':Nat→Nat}{base k:Nat}{nsv:Value}(h:NS w lab base k nsv)(hA:∀ b,b<w.heap.size→lab b=1→w'.heap[b]? = w.heap[b]?)
  (hs:∀ b,b<w.heap.size→2≤lab b→∀ cs t,w.heap[b]? = some (.cells cs t (0,0))→∃ cs',w'.heap[b]? = some (.cells cs' t (0,0))∧cs'.size=cs.size) (hl:LabEq w lab lab'):NS w' lab' base k nsv:=by
 rcases h with h|⟨A,cap,cs,rfl,hb,hlA,hc,hk,hcm,hcs,hsl⟩
 ·exact .inl h
 ·have hlt:A<w.heap.size:=(Array.getElem?_eq_some_iff.1 hc).1
  refine .inr ⟨A,cap,cs,rfl,hb,by rw [hl A hlt]; exact hlA,(hA A hlt hlA).trans hc,hk,hcm,hcs,fun j hj => ?_⟩
  obtain ⟨v1,v2,mo,e1,e2,e3,r1,r2⟩:=hsl j hj
  exact ⟨v1,v2,mo,e1,e2,e3,r1.of_shape hl (fun b hb hx cs t hc=>hs b hb (by omega) cs t hc),r2.of_shape hl (fun b hb hx cs t hc=>hs b hb (by omega) cs t hc)⟩
theorem app_shape{w w':World}{base n n':Nat}{e:TypeId}{v:Value}{xs xs':List Value}(hg:w.grownBy w' v.ownBlock)(ho:w.ownsRow base e 1 v n xs)(ho':w'.ownsRow base e 1 v n' xs'):
  ∀ b,b<w.heap.size→∀ cs t,w.heap[b]? = some (.cells cs t (0,0))→∃ cs',w'.heap[b]? = some (.cells cs' t (0,0))∧cs'.size=cs.size:=by
 intro b hb cs t hc
 by_cases hv:v.ownBlock=some b
 ·rcases ho.2 with ⟨rfl,_⟩|⟨g,cap,cur,rfl,_,hgg,_,_,hcs,_⟩
  ·cases hv
  ·obtain rfl:g=b:=Option.some.inj hv
   rcases ho'.2 with ⟨h,_⟩|⟨g',cap',cur',hv',_,hg',_,_,hcs',_⟩
   ·cases h
   ·simp only [Value.slice.injEq,Option.some.injEq,Addr.mk.injEq,and_true] at hv'
    obtain ⟨rfl,_,rfl⟩:=hv'
    rw [hgg] at hc
    simp only [Option.some.injEq,Obj.cells.injEq] at hc
    obtain ⟨rfl,rfl,_⟩:=hc
    exact ⟨cur',hg',by rw [hcs,hcs']⟩
 ·exact ⟨cs,(hg.block b hb (fun e=>hv e.symm)).trans hc,rfl⟩
theorem Fz.append{w w':World}{lab:Nat→Nat}{S:Nat→Prop}{base j k n n':Nat}{e:TypeId}{v:Value}{xs xs':List Value}(hg:w.grownBy w' v.ownBlock)(ho:w.ownsRow base e 1 v n xs)(ho':w'.ownsRow base e 1 v n' xs')(hlb:∀ g,v.ownBlock=some g→lab g=j+2)(hk:k≤j):Fz lab k S w w':=by
 have hne:∀ b,lab b≠j+2→some b≠v.ownBlock:=fun b hb e=>hb (hlb b e.symm)
 refine ⟨hg.os,hg.tape,hg.output,hg.size,fun b hb _ hx=>hg.block b hb (hne b (by omega)),fun b hb _ hx cs t hc=>⟨cs,(hg.block b hb (hne b (by omega))).trans hc,rfl,fun _ _=>rfl⟩,fun b hb _ _ cs t hc=>app_shape hg ho ho' b hb cs t hc⟩
theorem NS.append{w w':World}{lab lab':Nat→Nat}{base j k n n':Nat}{nsv:Value}{e:TypeId}{v:Value}{xs xs':List Value}(h:NS w lab base k nsv)(hg:w.grownBy w' v.ownBlock)(ho:w.ownsRow base e 1 v n xs)(ho':w'.ownsRow base e 1 v n' xs')(hlb:∀ g,v.ownBlock=some g→lab g=j+2)(hl:LabEq w lab lab'):NS w' lab' base k nsv:=
 h.shp (fun b hb hx=>hg.block b hb (fun e=>by have:=hlb b e.symm; omega)) (fun b hb _ cs t hc=>app_shape hg ho ho' b hb cs t hc) hl
theorem heap_set_other{w:World}{A o b:Nat}{u:Value}(h:b≠A):(w.setCell ⟨A,o,none⟩ u).heap[b]? = w.heap[b]? := RowKit.Below.heap_setCell _ _ _ _ h
theorem heap_set_cells{w:World}{A o:Nat}{u:Value}{cs:Array Value}{t:TypeId}(h:w.heap[A]? = some (.cells cs t (0,0))):(w.setCell ⟨A,o,none⟩ u).heap[A]? = some (.cells (cs.setIfInBounds o u) t (0,0)):=heap_setCell_same _ _ _ _ _ _ h
theorem set_size(w:World)(A o:Nat)(u:Value):(w.setCell ⟨A,o,none⟩ u).heap.size=w.heap.size:=by simp
theorem Fz.set{w:World}{lab:Nat→Nat}{S:Nat→Prop}{k A o:Nat}{u:Value}(hA:lab A=1)(ho:3 * k≤o):Fz lab k S w (w.setCell ⟨A,o,none⟩ u):=by
 refine ⟨rfl,rfl,rfl,by rw [set_size]; exact Nat.le_refl _,fun b hb _ hx=>heap_set_other (fun e=>by subst e; omega),fun b hb _ hx cs t hc => ?_,fun b hb _ hx cs t hc=>⟨cs,(heap_set_other (fun e=>by subst e; omega)).trans hc,rfl⟩⟩
 by_cases e:b=A
 ·subst e
  refine ⟨_,heap_set_cells hc,by simp,fun i hi => ?_⟩
  rw [Array.getElem?_setIfInBounds_ne (by omega)]
 ·exact ⟨cs,(heap_set_other e).trans hc,rfl,fun _ _=>rfl⟩
theorem RowOk.set{w:World}{lab:Nat→Nat}{base l A o:Nat}{e:TypeId}{u v:Value}(h:RowOk w lab base (l+2) e v)(hA:lab A=1):RowOk (w.setCell ⟨A,o,none⟩ u) lab base (l+2) e v:=
 h.of_shape (fun _ _=>rfl) (fun b hb hx cs t hc=>⟨cs,(heap_set_other (fun e=>by subst e; omega)).trans hc,rfl⟩)
theorem NS.set{w:World}{lab:Nat→Nat}{base k A j i:Nat}{nsv u:Value}(h:NS w lab base k nsv)(hA:lab A=1)
  (hi:(i=0∧RowOk w lab base (j+2) 111 u)∨(i=1∧RowOk w lab base (j+2) 5 u)∨(i=2∧∃ mo,u=.map mo)):NS (w.setCell ⟨A,3 * j+i,none⟩ u) lab base k nsv:=by
 rcases h with h|⟨A',cap,cs,rfl,hb,hlA,hc,hk,hcm,hcs,hsl⟩
 ·exact .inl h
 ·by_cases e:A'=A
  ·subst e
   refine .inr ⟨A',cap,_,rfl,hb,hlA,heap_set_cells hc,hk,hcm,by simp [hcs],fun q hq => ?_⟩
   obtain ⟨v1,v2,mo,e1,e2,e3,r1,r2⟩:=hsl q hq
   by_cases hqj:q=j
   ·subst hqj
    have hb0:3 * q<cs.size:=by omega
    have hb1:3 * q+1<cs.size:=by omega
    have hb2:3 * q+2<cs.size:=by omega
    rcases hi with ⟨rfl,hu⟩|⟨rfl,hu⟩|⟨rfl,mo',rfl⟩
    ·exact ⟨u,v2,mo,by simp [hb0],by rw [Array.getElem?_setIfInBounds_ne (by omega)]; exact e2,by rw [Array.getElem?_setIfInBounds_ne (by omega)]; exact e3,hu.set hA,r2.set hA⟩
    ·exact ⟨v1,u,mo,by rw [Array.getElem?_setIfInBounds_ne (by omega)]; exact e1,by simp [hb1],by rw [Array.getElem?_setIfInBounds_ne (by omega)]; exact e3,r1.set hA,hu.set hA⟩
    ·exact ⟨v1,v2,mo',by rw [Array.getElem?_setIfInBounds_ne (by omega)]; exact e1,by rw [Array.getElem?_setIfInBounds_ne (by omega)]; exact e2,by simp [hb2],r1.set hA,r2.set hA⟩
   ·exact ⟨v1,v2,mo,by rw [Array.getElem?_setIfInBounds_ne (by omega)]; exact e1,by rw [Array.getElem?_setIfInBounds_ne (by omega)]; exact e2,by rw [Array.getElem?_setIfInBounds_ne (by omega)]; exact e3,r1.set hA,r2.set hA⟩
  ·refine .inr ⟨A',cap,cs,rfl,hb,hlA,(heap_set_other e).trans hc,hk,hcm,hcs,fun q hq => ?_⟩
   obtain ⟨v1,v2,mo,e1,e2,e3,r1,r2⟩:=hsl q hq
   exact ⟨v1,v2,mo,e1,e2,e3,r1.set hA,r2.set hA⟩
theorem Fz.map{w w':World}{lab:Nat→Nat}{S:Nat→Prop}{k j M:Nat}(h:w.mapTurned w' M)(hM:lab M=j+2)(hk:k≤j):Fz lab k S w w':=by
 have hg:=h.grown
 have hne:∀ b,lab b≠j+2→w'.heap[b]? = w.heap[b]? := fun b hb=>by
  obtain ⟨es,clock,es',clock',hb',rfl⟩:=h
  exact ChangeMaps.heap_setBlock_other hb' _ (fun e=>hb (by rw [e]; exact hM))
 refine ⟨hg.os,hg.tape,hg.output,hg.size,fun b hb _ hx=>hne b (by omega),fun b hb _ hx cs t hc=>⟨cs,(hne b (by omega)).trans hc,rfl,fun _ _=>rfl⟩,fun b hb _ hx cs t hc => ?_⟩
 by_cases e:b=M
 ·subst e
  obtain ⟨es,clock,es',clock',hb',rfl⟩:=h
  rw [hb'] at hc
  cases hc
 ·exact ⟨cs,(hg.block b hb (fun e'=>e (Option.some.inj e'))).trans hc,rfl⟩
theorem NS.map{w w':World}{lab:Nat→Nat}{base k j M:Nat}{nsv:Value}(h:NS w lab base k nsv)(ht:w.mapTurned w' M)(hM:lab M=j+2):NS w' lab base k nsv:=by
 have F:Fz lab 0 (fun _=>False) w w':=Fz.map (j:=j) ht hM (Nat.zero_le _)
 refine h.shp (fun b hb hx => ?_) (fun b hb hx cs t hc=>F.row b hb (fun e=>e) hx cs t hc) (LabEq.refl _ _)
 exact ht.grown.block b hb (fun e=>by have:=Option.some.inj e; subst this; omega)
theorem NS.pop{w:World}{lab:Nat→Nat}{base k A cap:Nat}(h:NS w lab base (k+1) (.slice (some ⟨A,0,none⟩) (k+1) cap)):NS w lab base k (.slice (some ⟨A,0,none⟩) k cap):=by
 rcases h with ⟨_,h⟩|⟨A',cap',cs,hv,hb,hlA,hc,hk,hcm,hcs,hsl⟩
 ·omega
 ·simp only [Value.slice.injEq,Option.some.injEq,Addr.mk.injEq,and_true,true_and] at hv
  obtain ⟨rfl,rfl⟩:=hv
  exact .inr ⟨A,cap,cs,rfl,hb,hlA,hc,by omega,hcm,hcs,hsl⟩
theorem NS.form{w:World}{lab:Nat→Nat}{base k:Nat}{nsv:Value}(h:NS w lab base (k+1) nsv):∃ A cap cs,nsv=.slice (some ⟨A,0,none⟩) (k+1) cap∧base≤A∧lab A=1∧w.heap[A]? = some (.cells cs 190 (0,0))∧k+1≤cap∧cap≤maxLen∧cs.size=cap * 3∧∀ j,j<cap→Slot w lab base cs j:=by
 rcases h with ⟨_,h⟩|h
 ·omega
 ·exact h
def ends:Int→List (List Int)→List Int
 |_,[]=>[]
 |a,n::r=>(a+n.length)::ends (a+n.length) r
theorem ends_snoc:∀ (r:List (List Int)) (a:Int) (n:List Int),ends a (r++[n])=ends a r++[a+r.flatten.length+n.length]
 |[],a,n=>by simp [ends]
 |m::r,a,n=>by
  simp only [List.cons_append,ends,ends_snoc r,List.flatten_cons,List.length_append]
  congr 3
  omega
theorem ends_take:∀ (r:List (List Int)) (a:Int) (i:Nat),i<r.length→(ends a r)[i]? = some (a+((r.take (i+1)).flatten.length:Nat))
 |[],a,i,h=>by simp at h
 |n::r,a,0,h=>by simp [ends]
 |n::r,a,i+1,h=>by
  simp only [List.length_cons] at h
  simp only [ends,List.getElem?_cons_succ,ends_take r _ i (by omega),List.take_succ_cons,List.flatten_cons,List.length_append]
  congr 1
  omega
def keyL(nm:List Int):Lit:=.string (strOfNums nm).data.toList
def MapHas(P:Program)(w:World)(M:Nat)(names:List (List Int)):Prop:=∃ n,n≤names.length∧w.ownsMap P 9 (unitElem (H:=Unit)) M n (Maps.setOf (.agg []) (names.map keyL))
structure Act(P:Program)(w:World)(lab:Nat→Nat)(base A j:Nat)(names:List (List Int))(v1 v2:Value)(mo:Option Nat):Prop where
 blk:∃ cs,w.heap[A]? = some (.cells cs 190 (0,0))∧cs[3 * j]? = some v1∧cs[3 * j+1]? = some v2∧cs[3 * j+2]? = some (.map mo)
 bA:base≤A
 lA:lab A=1
 r1:w.ownsRow base 111 1 v1 names.length ((ends 0 names).map (Value.int .u64))
 l1:∀ g,v1.ownBlock=some g→lab g=j+2
 r2:w.ownsRow base 5 1 v2 names.flatten.length (names.flatten.map (Value.int .u8))
 l2:∀ g,v2.ownBlock=some g→lab g=j+2
 mp:∀ M,mo=some M→lab M=j+2∧MapHas P w M names
 by8:∀ nm∈names,∀ c∈nm,0≤c∧c≤255
theorem Act.lt{P:Program}{w:World}{lab:Nat→Nat}{base A j:Nat}{names:List (List Int)}{v1 v2:Value}{mo:Option Nat}(h:Act P w lab base A j names v1 v2 mo):A<w.heap.size:=by
 obtain ⟨cs,hc,_⟩:=h.blk
 exact (Array.getElem?_eq_some_iff.1 hc).1
theorem Act.fz{P:Program}{w w':World}{lab lab':Nat→Nat}{S:Nat→Prop}{base A j k:Nat}{names:List (List Int)}{v1 v2:Value}{mo:Option Nat}(h:Act P w lab base A j names v1 v2 mo)(hf:Fz lab k S w w')(hjk:j<k)(hS:∀ b,b<w.heap.size→S b→lab b=0)(hl:LabEq w lab lab'):Act P w' lab' base A j names v1 v2 mo:=by
 obtain ⟨cs,hc,e1,e2,e3⟩:=h.blk
 have hlA:=h.lA
 obtain ⟨cs',hc',hs',ho'⟩:=hf.arr A h.lt (fun hs=>by have:=hS A h.lt hs; omega) hlA cs _ hc
 refine ⟨⟨cs',hc',by rw [ho' _ (by omega)]; exact e1,by rw [ho' _ (by omega)]; exact e2,by rw [ho' _ (by omega)]; exact e3⟩,h.bA,by rw [hl A h.lt]; exact hlA,own_fz h.r1 h.l1 hf hjk hS,fun g hg=>by rw [hl g (h.r1.lt g hg).2]; exact h.l1 g hg,own_fz h.r2 h.l2 hf hjk hS,fun g hg=>by rw [hl g (h.r2.lt g hg).2]; exact h.l2 g hg,fun M hM => ?_,h.by8⟩
 obtain ⟨hlM,n,hn,hm⟩:=h.mp M hM
 have hlt:=hm.lt
 refine ⟨by rw [hl M hlt]; exact hlM,n,hn,?_⟩
 obtain ⟨es,clock,hb,rest⟩:=hm
 exact ⟨es,clock,(hf.keep M hlt (fun hs=>by have:=hS M hlt hs; omega) (.inr ⟨by omega,by omega⟩)).trans hb,rest⟩
end Go.Proofs.YtknaalohaagcdaaGreatDoor.Own
namespace Go.Proofs.YtknaalohaagcdaaGreatDoor.Own
open Go.RowKit
def C3(w:World)(A k:Nat)(x1 x2 x3:Value):Prop:=∃ cs,w.heap[A]? = some (.cells cs 190 (0,0))∧cs[3 * k]? = some x1∧cs[3 * k+1]? = some x2∧cs[3 * k+2]? = some x3
theorem C3.facts{w:World}{A k:Nat}{x1 x2 x3:Value}(h:C3 w A k x1 x2 x3):w.cell? ⟨A,3 * k,none⟩=some x1∧w.cell? ⟨A,3 * k+1,none⟩=some x2∧w.cell? ⟨A,3 * k+2,none⟩=some x3∧∀ o,w.frozen? ⟨A,o,none⟩=false:=by
 obtain ⟨cs,hc,e1,e2,e3⟩:=h
 refine ⟨by rw [cell_of_row _ _ _ _ _ (0,0) hc]; exact e1,by rw [cell_of_row _ _ _ _ _ (0,0) hc]; exact e2,by rw [cell_of_row _ _ _ _ _ (0,0) hc]; exact e3,fun o => ?_⟩
 unfold World.frozen?
 simp only [hc]
 simp
theorem C3.lt{w:World}{A k:Nat}{x1 x2 x3:Value}(h:C3 w A k x1 x2 x3):A<w.heap.size:=by
 obtain ⟨cs,hc,_⟩:=h
 exact (Array.getElem?_eq_some_iff.1 hc).1
theorem C3.block{w w':World}{A k:Nat}{x1 x2 x3:Value}(h:C3 w A k x1 x2 x3)(e:w'.heap[A]? = w.heap[A]?):C3 w' A k x1 x2 x3:=by
 obtain ⟨cs,hc,r⟩:=h
 exact ⟨cs,e.trans hc,r⟩
theorem getE_lt{cs:Array Value}{i:Nat}{v:Value}(h:cs[i]? = some v):i<cs.size:=(Array.getElem?_eq_some_iff.1 h).1
theorem C3.set0{w:World}{A k:Nat}{x1 x2 x3:Value}(h:C3 w A k x1 x2 x3)(u:Value):C3 (w.setCell ⟨A,3 * k,none⟩ u) A k u x2 x3:=by
 obtain ⟨cs,hc,e1,e2,e3⟩:=h
 have:=getE_lt e1
 exact ⟨_,heap_set_cells hc,by simp [this],by rw [Array.getElem?_setIfInBounds_ne (by omega)]; exact e2,by rw [Array.getElem?_setIfInBounds_ne (by omega)]; exact e3⟩
theorem C3.set1{w:World}{A k:Nat}{x1 x2 x3:Value}(h:C3 w A k x1 x2 x3)(u:Value):C3 (w.setCell ⟨A,3 * k+1,none⟩ u) A k x1 u x3:=by
 obtain ⟨cs,hc,e1,e2,e3⟩:=h
 have:=getE_lt e2
 exact ⟨_,heap_set_cells hc,by rw [Array.getElem?_setIfInBounds_ne (by omega)]; exact e1,by simp [this],by rw [Array.getElem?_setIfInBounds_ne (by omega)]; exact e3⟩
theorem C3.set2{w:World}{A k:Nat}{x1 x2 x3:Value}(h:C3 w A k x1 x2 x3)(u:Value):C3 (w.setCell ⟨A,3 * k+2,none⟩ u) A k x1 x2 u:=by
 obtain ⟨cs,hc,e1,e2,e3⟩:=h
 have:=getE_lt e3
 exact ⟨_,heap_set_cells hc,by rw [Array.getElem?_setIfInBounds_ne (by omega)]; exact e1,by rw [Array.getElem?_setIfInBounds_ne (by omega)]; exact e2,by simp [this]⟩
structure RS(lab:Nat→Nat)(base A k:Nat)(S:Nat→Prop)(w0 w:World)(x1 x2 x3:Value):Prop where
 c:C3 w A k x1 x2 x3
 lA:lab A=1
 r1:RowOk w lab base (k+2) 111 x1
 r2:RowOk w lab base (k+2) 5 x2
 fz:Fz lab k S w0 w
 ns:∀ K nsv,NS w0 lab base K nsv→NS w lab base K nsv
theorem RS.set0{lab:Nat→Nat}{base A k:Nat}{S:Nat→Prop}{w0 w:World}{x1 x2 x3:Value}(h:RS lab base A k S w0 w x1 x2 x3)(u:Value)(hu:RowOk w lab base (k+2) 111 u):RS lab base A k S w0 (w.setCell ⟨A,3 * k,none⟩ u) u x2 x3:=
 ⟨h.c.set0 u,h.lA,hu.set h.lA,h.r2.set h.lA,h.fz.trans (LabEq.refl _ _) (Fz.set h.lA (Nat.le_refl _)),fun K nsv hn=>(h.ns K nsv hn).set (i:=0) h.lA (.inl ⟨rfl,hu⟩)⟩
theorem RS.set1{lab:Nat→Nat}{base A k:Nat}{S:Nat→Prop}{w0 w:World}{x1 x2 x3:Value}(h:RS lab base A k S w0 w x1 x2 x3)(u:Value)(hu:RowOk w lab base (k+2) 5 u):RS lab base A k S w0 (w.setCell ⟨A,3 * k+1,none⟩ u) x1 u x3:=
 ⟨h.c.set1 u,h.lA,h.r1.set h.lA,hu.set h.lA,h.fz.trans (LabEq.refl _ _) (Fz.set h.lA (by omega)),fun K nsv hn=>(h.ns K nsv hn).set (i:=1) h.lA (.inr (.inl ⟨rfl,hu⟩))⟩
theorem RS.set2{lab:Nat→Nat}{base A k:Nat}{S:Nat→Prop}{w0 w:World}{x1 x2 x3:Value}(h:RS lab base A k S w0 w x1 x2 x3)(mo:Option Nat):RS lab base A k S w0 (w.setCell ⟨A,3 * k+2,none⟩ (.map mo)) x1 x2 (.map mo):=
 ⟨h.c.set2 _,h.lA,h.r1.set h.lA,h.r2.set h.lA,h.fz.trans (LabEq.refl _ _) (Fz.set h.lA (by omega)),fun K nsv hn=>(h.ns K nsv hn).set (i:=2) h.lA (.inr (.inr ⟨rfl,mo,rfl⟩))⟩
def Empty(v:Value):Prop:=v=.slice none 0 0∨∃ g cap,v=.slice (some ⟨g,0,none⟩) 0 cap
theorem RowOk.own0{w:World}{lab:Nat→Nat}{base l:Nat}{e:TypeId}{v:Value}(h:RowOk w lab base l e v)(he:Empty v):w.ownsRow base e 1 v 0 []:=by
 obtain ⟨n,xs,ho,_⟩:=h
 refine ⟨rfl,?_⟩
 rcases he with rfl|⟨g,cap,rfl⟩
 ·exact .inl ⟨rfl,rfl⟩
 ·rcases ho.2 with ⟨h,_⟩|⟨g',cap',cur,hv,hb,hg,hnc,hcm,hcs,_⟩
  ·cases h
  ·simp only [Value.slice.injEq,Option.some.injEq,Addr.mk.injEq,and_true] at hv
   obtain ⟨rfl,_,rfl⟩:=hv
   exact .inr ⟨g,cap,cur,rfl,hb,hg,Nat.zero_le _,hcm,hcs,by simp⟩
theorem RowOk.lab{w:World}{lab:Nat→Nat}{base l:Nat}{e:TypeId}{v:Value}(h:RowOk w lab base l e v):∀ g,v.ownBlock=some g→lab g=l:=by
 obtain ⟨_,_,_,h⟩:=h
 exact h
theorem RowOk.cut{w:World}{lab:Nat→Nat}{base l g n cap:Nat}{e:TypeId}(h:RowOk w lab base l e (.slice (some ⟨g,0,none⟩) n cap)):RowOk w lab base l e (.slice (some ⟨g,0,none⟩) 0 cap):=by
 obtain ⟨m,xs,ho,hl⟩:=h
 rcases ho.2 with ⟨h,_⟩|⟨g',cap',cur,hv,hb,hg,hnc,hcm,hcs,_⟩
 ·cases h
 ·simp only [Value.slice.injEq,Option.some.injEq,Addr.mk.injEq,and_true] at hv
  obtain ⟨rfl,rfl,rfl⟩:=hv
  exact ⟨0,[],⟨rfl,.inr ⟨g,cap,cur,rfl,hb,hg,Nat.zero_le _,hcm,hcs,by simp⟩⟩,fun q hq=>hl q hq⟩
theorem RowOk.form{w:World}{lab:Nat→Nat}{base l:Nat}{e:TypeId}{v:Value}(h:RowOk w lab base l e v):v=.slice none 0 0∨∃ g n cap,v=.slice (some ⟨g,0,none⟩) n cap∧n≤cap∧cap≤maxLen:=by
 obtain ⟨n,xs,ho,_⟩:=h
 rcases ho.2 with ⟨h,_⟩|⟨g,cap,_,hv,_,_,hnc,hcm,_⟩
 ·exact .inl h
 ·exact .inr ⟨g,n,cap,hv,hnc,hcm⟩
theorem RS.act{lab:Nat→Nat}{base A k:Nat}{S:Nat→Prop}{w0 w:World}{x1 x2:Value}(h:RS lab base A k S w0 w x1 x2 (.map none))(h1:Empty x1)(h2:Empty x2)(hA:base≤A):Act Tryz.prog w lab base A k [] x1 x2 none:=
 ⟨h.c,hA,h.lA,h.r1.own0 h1,h.r1.lab,h.r2.own0 h2,h.r2.lab,fun M hM=>(by cases hM),fun nm hn=>(by cases hn)⟩
def ResetP(lab:Nat→Nat)(base A k:Nat)(S:Nat→Prop)(w:World)(e:Ending)(w':World):Prop:=e=.returned (.tuple #[])∧∃ x1 x2,RS lab base A k S w w' x1 x2 (.map none)∧Empty x1∧Empty x2
theorem reset141(lab:Nat→Nat)(base A k:Nat)(S:Nat→Prop)(w:World)(v1 v2:Value)(mo:Option Nat)(h:RS lab base A k S w w v1 v2 (.map mo)):
  Calls Tryz.prog 141 #[.pointer (some ⟨A,3 * k,none⟩)] w (ResetP lab base A k S w):=by
 obtain ⟨c1,c2,c3,fr⟩:=h.c.facts
 have f1:=fr (3 * k)
 have f2:=fr (3 * k+1)
 have f3:=fr (3 * k+2)
 clear fr
 have H:=Hq h
 have nilE:Empty (.slice none 0 0):=.inl rfl
 have HN:=Hq (fun (w:World) (l:Nat) (e:TypeId)=>RowOk.nil w lab base l e)
 rcases h.r1.form with rfl|⟨g1,n1,cap1,rfl,hn1,hm1⟩
 ·rcases h.r2.form with rfl|⟨g2,n2,cap2,rfl,hn2,hm2⟩
  ·clear h
   go_enter Tryz.func141,Tryz.ntmps141
   go_wp2_with fail
   go_end0
   exact ⟨rfl,_,_,((H.out.set0 _ (HN.out _ _ _)).set1 _ (HN.out _ _ _)).set2 none,nilE,nilE⟩
  ·have r2:=Hq h.r2.cut
   unfold maxLen at hm2
   clear h
   go_enter Tryz.func141,Tryz.ntmps141
   go_wp2_with fail
   all_goals go_end0
   ·exact ⟨rfl,_,_,(((H.out.set0 _ (HN.out _ _ _)).set1 _ ((r2.out).set H.out.lA)).set2 none).set1 _ (HN.out _ _ _),nilE,nilE⟩
   ·exact ⟨rfl,_,_,((H.out.set0 _ (HN.out _ _ _)).set1 _ ((r2.out).set H.out.lA)).set2 none,nilE,.inr ⟨_,_,rfl⟩⟩
 ·have r1:=Hq h.r1.cut
  unfold maxLen at hm1
  rcases h.r2.form with rfl|⟨g2,n2,cap2,rfl,hn2,hm2⟩
  ·clear h
   go_enter Tryz.func141,Tryz.ntmps141
   go_wp2_with fail
   all_goals go_end0
   ·exact ⟨rfl,_,_,(((H.out.set0 _ r1.out).set1 _ (HN.out _ _ _)).set2 none).set0 _ (HN.out _ _ _),nilE,nilE⟩
   ·exact ⟨rfl,_,_,((H.out.set0 _ r1.out).set1 _ (HN.out _ _ _)).set2 none,.inr ⟨_,_,rfl⟩,nilE⟩
  ·have r2:=Hq h.r2.cut
   unfold maxLen at hm2
   clear h
   go_enter Tryz.func141,Tryz.ntmps141
   go_wp2_with fail
   all_goals go_end0
   ·exact ⟨rfl,_,_,((((H.out.set0 _ r1.out).set1 _ (r2.out.set H.out.lA)).set2 none).set0 _ (HN.out _ _ _)).set1 _ (HN.out _ _ _),nilE,nilE⟩
   ·exact ⟨rfl,_,_,(((H.out.set0 _ r1.out).set1 _ (r2.out.set H.out.lA)).set2 none).set0 _ (HN.out _ _ _),nilE,.inr ⟨_,_,rfl⟩⟩
   ·exact ⟨rfl,_,_,(((H.out.set0 _ r1.out).set1 _ (r2.out.set H.out.lA)).set2 none).set1 _ (HN.out _ _ _),.inr ⟨_,_,rfl⟩,nilE⟩
   ·exact ⟨rfl,_,_,((H.out.set0 _ r1.out).set1 _ (r2.out.set H.out.lA)).set2 none,.inr ⟨_,_,rfl⟩,.inr ⟨_,_,rfl⟩⟩
end Go.Proofs.YtknaalohaagcdaaGreatDoor.Own
