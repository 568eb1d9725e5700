import Derived.Test.YtknaalohaagcdaaGreatDoorG01
import Derived.Test.YtknaalohaagcdaaGreatDoorG11
import Derived.Test.YtknaalohaagcdaaGreatDoorG20
import Derived.Laws.BytesArg
import Derived.Laws.BitsLemmas
import Derived.BigQuiet
import Derived.Deep.RegionHeld3
set_option maxHeartbeats 400000000
set_option maxRecDepth 100000
namespace Go.Proofs.YtknaalohaagcdaaGreatDoor.Own
open Go.RowKit
def labN(w:World)(lab:Nat→Nat)(l:Nat):Nat→Nat:=fun b=>if b<w.heap.size then lab b else l
theorem labN_old{w:World}{lab:Nat→Nat}{l b:Nat}(h:b<w.heap.size):labN w lab l b=lab b:=if_pos h
theorem labN_new{w:World}{lab:Nat→Nat}{l b:Nat}(h:w.heap.size≤b):labN w lab l b=l:=if_neg (by omega)
theorem labN_eq(w:World)(lab:Nat→Nat)(l:Nat):LabEq w lab (labN w lab l):=fun _ hb=>labN_old hb
structure Grew(w w':World)(base:Nat)(v:Value)(n:Nat)(xs:List Value)(v':Value)(ys:List Value):Prop where
 own:w'.ownsRow base 5 1 v' (n+ys.length) (xs++ys)
 gb:w.grownBy w' v.ownBlock
 old:w'.ownsRow base 5 1 v n xs
 rel:SameRow v v'∨∃ g,v'.ownBlock=some g∧w.heap.size≤g
theorem own_ne{w:World}{b1 b2:Nat}{e1 e2:TypeId}{n1 n2:Nat}{v1 v2:Value}{x1 x2:List Value}(h1:w.ownsRow b1 e1 1 v1 n1 x1)(h2:w.ownsRow b2 e2 1 v2 n2 x2)(hne:e1≠e2):v1.ownBlock=none∨v1.ownBlock≠v2.ownBlock:=by
 rcases h1.2 with ⟨rfl,_⟩|⟨g,cap,cur,rfl,_,hg,_⟩
 ·exact .inl rfl
 ·right
  intro e
  rcases h2.2 with ⟨rfl,_⟩|⟨g',cap',cur',rfl,_,hg',_⟩
  ·cases e
  ·have:g=g':=Option.some.inj e
   subst this
   rw [hg] at hg'
   simp only [Option.some.injEq,Obj.cells.injEq] at hg'
   exact hne hg'.2.1
theorem map_ne{w:World}{P:Program}{M base n:Nat}{names:List (List Int)}{e:TypeId}{v:Value}{xs:List Value}(hm:MapHas P w M names)(h:w.ownsRow base e 1 v n xs):some M≠v.ownBlock:=by
 intro hv
 obtain ⟨_,_,es,clock,hb,_⟩:=hm
 rcases h.2 with ⟨rfl,_⟩|⟨g,cap,cur,rfl,_,hg,_⟩
 ·cases hv
 ·have:M=g:=Option.some.inj hv
  subst this
  rw [hg] at hb
  cases hb
theorem MapHas.block{P:Program}{w w':World}{M:Nat}{names:List (List Int)}(h:MapHas P w M names)(e:w'.heap[M]? = w.heap[M]?):MapHas P w' M names:=by
 obtain ⟨n,hn,es,clock,hb,rest⟩:=h
 exact ⟨n,hn,es,clock,e.trans hb,rest⟩
theorem MapHas.lt{P:Program}{w:World}{M:Nat}{names:List (List Int)}(h:MapHas P w M names):M<w.heap.size:=by
 obtain ⟨n,hn,es,clock,hb,rest⟩:=h
 exact (Array.getElem?_eq_some_iff.1 hb).1
structure IS(lab:Nat→Nat)(base A j:Nat)(w0 w:World)(names:List (List Int))(v1 v2:Value)(mo:Option Nat)(mn:List (List Int))(vA:Value)(all:List Int):Prop where
 c:C3 w A j v1 v2 (.map mo)
 bA:base≤A
 lA:lab A=1
 r1:w.ownsRow base 111 1 v1 names.length ((ends 0 names).map (Value.int .u64))
 l1:∀ g,v1.ownBlock=some g→lab g=j+2
 r2:w.ownsRow base 5 1 v2 names.flatten.length (names.flatten.map (Value.int .u8))
 l2:∀ g,v2.ownBlock=some g→lab g=j+2
 rA:w.ownsRow base 5 1 vA all.length (all.map (Value.int .u8))
 lvA:∀ g,vA.ownBlock=some g→lab g=j+2
 mp:∀ M,mo=some M→lab M=j+2∧MapHas Tryz.prog w M mn
 fz:Fz lab j (fun _=>False) w0 w
 ns:∀ K nsv,NS w0 lab base K nsv→NS w lab base K nsv
 new:∀ b,w0.heap.size≤b→lab b=j+2
theorem IS.of_gb{lab:Nat→Nat}{base A j:Nat}{w0 w w':World}{names:List (List Int)}{v1 v2:Value}{mo:Option Nat}{mn:List (List Int)}{vA:Value}{all:List Int}(h:IS lab base A j w0 w names v1 v2 mo mn vA all)(hg:w.grownBy w' none):IS lab base A j w0 w' names v1 v2 mo mn vA all:=
 ⟨h.c.block (hg.block A h.c.lt (by simp)),h.bA,h.lA,h.r1.kept hg (by cases v1.ownBlock<;>simp),h.l1,h.r2.kept hg (by cases v2.ownBlock<;>simp),h.l2,h.rA.kept hg (by cases vA.ownBlock<;>simp),h.lvA,
  fun M hM=>⟨(h.mp M hM).1,(h.mp M hM).2.block (hg.block M (h.mp M hM).2.lt (by simp))⟩,h.fz.trans (LabEq.refl _ _) (Fz.of_gb hg (fun b hb=>by cases hb)),fun K nsv hn=>(h.ns K nsv hn).of_gb hg (fun b hb=>by cases hb) (LabEq.refl _ _),h.new⟩
theorem IS.start{lab:Nat→Nat}{base A j:Nat}{w0 w1:World}{names:List (List Int)}{v1 v2:Value}{mo:Option Nat}{vA:Value}{dec:List Int}(h:Act Tryz.prog w0 lab base A j names v1 v2 mo)(hA:A<w0.heap.size)
  (hg:Grew w0 w1 base v2 names.flatten.length (names.flatten.map (Value.int .u8)) vA (dec.map (Value.int .u8))):IS (labN w0 lab (j+2)) base A j w0 w1 names v1 v2 mo names vA (names.flatten++dec):=by
 have hb:∀ b,b<w0.heap.size→lab b≠j+2→w1.heap[b]? = w0.heap[b]? := fun b hb hx=>hg.gb.block b hb (fun e=>hx (h.l2 b e.symm))
 have l2':∀ g,v2.ownBlock=some g→labN w0 lab (j+2) g=j+2:=fun g e=>(labN_old (h.r2.lt g e).2).trans (h.l2 g e)
 refine ⟨C3.block h.blk (hb A hA (by rw [h.lA]; omega)),h.bA,(labN_old hA).trans h.lA,h.r1.kept hg.gb (own_ne h.r1 h.r2 (by decide)),fun g e=>(labN_old (h.r1.lt g e).2).trans (h.l1 g e),hg.old,l2',?_,fun g e => ?_,fun M hM => ?_,Fz.append (j:=j) hg.gb h.r2 hg.old l2' (Nat.le_refl _),fun K nsv hn=>hn.append hg.gb h.r2 hg.old l2' (LabEq.refl _ _),fun b hb=>labN_new hb⟩
 ·have e:=hg.own
  rw [← List.map_append,List.length_map] at e
  rw [List.length_append]
  exact e
 ·rcases hg.rel with hs|⟨g',h1,h2⟩
  ·rw [hs.own] at e
   exact l2' g e
  ·rw [h1] at e
   obtain rfl:g'=g:=Option.some.inj e
   exact labN_new h2
 ·obtain ⟨h1,h2⟩:=h.mp M hM
  exact ⟨(labN_old h2.lt).trans h1,h2.block (hg.gb.block M h2.lt (map_ne h2 h.r2))⟩
theorem IS.mkmap{lab:Nat→Nat}{base A j:Nat}{w0 w:World}{names:List (List Int)}{v1 v2:Value}{mn:List (List Int)}{vA:Value}{all:List Int}(h:IS lab base A j w0 w names v1 v2 none mn vA all):
  IS lab base A j w0 ((w.alloc (.map #[] 0)).setCell ⟨A,3 * j+2,none⟩ (.map (some w.heap.size))) names v1 v2 (some w.heap.size) [] vA all:=by
 have h1:=h.of_gb (World.grownBy_alloc w (.map #[] 0) none)
 have hne:∀ b,lab b≠1→b≠A:=fun b hb e=>by subst e; exact hb h.lA
 have own:∀ (e:TypeId) (v:Value) (n:Nat) (xs:List Value),(w.alloc (.map #[] 0)).ownsRow base e 1 v n xs→(∀ g,v.ownBlock=some g→lab g=j+2)→((w.alloc (.map #[] 0)).setCell ⟨A,3 * j+2,none⟩ (.map (some w.heap.size))).ownsRow base e 1 v n xs:=fun e v n xs ho hl=>by
  refine ho.kept (Go.Lib.grownBy_setCell _ A (3 * j+2) _) ?_
  cases hv:v.ownBlock with
  |none=>exact .inl rfl
  |some g=>exact .inr (fun e=>by have:=Option.some.inj e; subst this; have:=hl _ hv; have:=h.lA; omega)
 have hsz:w0.heap.size≤w.heap.size:=h.fz.size
 refine ⟨h1.c.set2 _,h.bA,h.lA,own _ _ _ _ h1.r1 h.l1,h.l1,own _ _ _ _ h1.r2 h.l2,h.l2,own _ _ _ _ h1.rA h.lvA,h.lvA,fun M hM => ?_,h1.fz.trans (LabEq.refl _ _) (Fz.set h.lA (by omega)),fun K nsv hn=>(h1.ns K nsv hn).set (i:=2) h.lA (.inr (.inr ⟨rfl,_,rfl⟩)),h.new⟩
 obtain rfl:w.heap.size=M:=Option.some.inj hM
 refine ⟨h.new _ hsz,?_⟩
 have hm:MapHas Tryz.prog (w.alloc (.map #[] 0)) w.heap.size []:=⟨0,Nat.le_refl _,World.ownsMap_made w Tryz.prog 9 unitElem⟩
 exact hm.block (heap_set_other (hne _ (by rw [h.new _ hsz]; omega)))
theorem lawK:Maps.Keyed Tryz.prog 9:=Maps.string_keyed Tryz.underlying9
theorem IS.turned{lab:Nat→Nat}{base A j:Nat}{w0 w w':World}{names:List (List Int)}{v1 v2:Value}{M n:Nat}{mn:List (List Int)}{vA:Value}{all nm:List Int}(h:IS lab base A j w0 w names v1 v2 (some M) mn vA all)(ht:w.mapTurned w' M)(hn:n≤mn.length)
  (ho:w'.ownsMap Tryz.prog 9 (unitElem (H:=Unit)) M (n+1) ((Maps.setOf (.agg []) (mn.map keyL)).put (keyL nm) (.agg []))):IS lab base A j w0 w' names v1 v2 (some M) (mn++[nm]) vA all:=by
 obtain ⟨hlM,hm⟩:=h.mp M rfl
 have hg:=ht.grown
 have own:∀ (e:TypeId) (v:Value) (n:Nat) (xs:List Value),w.ownsRow base e 1 v n xs→w'.ownsRow base e 1 v n xs:=fun e v n xs ho=>ho.kept hg (.inr (Ne.symm (map_ne hm ho)))
 refine ⟨h.c.block (hg.block A h.c.lt (fun e=>by have:=Option.some.inj e; subst this; have:=h.lA; omega)),h.bA,h.lA,own _ _ _ _ h.r1,h.l1,own _ _ _ _ h.r2,h.l2,own _ _ _ _ h.rA,h.lvA,fun M' hM => ?_,h.fz.trans (LabEq.refl _ _) (Fz.map ht hlM (Nat.le_refl _)),fun K nsv hn=>(h.ns K nsv hn).map ht hlM,h.new⟩
 obtain rfl:M=M':=Option.some.inj hM
 refine ⟨hlM,n+1,by simp; omega,?_⟩
 rw [List.map_append,List.map_singleton,Maps.setOf_snoc]
 exact ho
def InsP(lab:Nat→Nat)(base A j:Nat)(names:List (List Int))(dec:List Int)(w:World)(e:Ending)(w':World):Prop:=
 ∃ lab',LabEq w lab lab'∧Fz lab j (fun _=>False) w w'∧(∀ K nsv,NS w lab base K nsv→NS w' lab' base K nsv)∧
  ((dec∈names∧e=.returned (.bool false))∨(¬ dec∈names∧e=.returned (.bool true)∧∃ v1 v2 mo,Act Tryz.prog w' lab' base A j (names++[dec]) v1 v2 mo))
theorem Fz.relab{lab lab':Nat→Nat}{k:Nat}{S:Nat→Prop}{w w':World}(h:Fz lab' k S w w')(hl:LabEq w lab lab'):Fz lab k S w w':=
 ⟨h.os,h.tape,h.output,h.size,fun b hb hs hx=>h.keep b hb hs (by rw [hl b hb]; exact hx),fun b hb hs hx=>h.arr b hb hs (by rw [hl b hb]; exact hx),fun b hb hs hx=>h.row b hb hs (by rw [hl b hb]; exact hx)⟩
theorem NS.relab{lab lab':Nat→Nat}{base k:Nat}{w:World}{nsv:Value}(h:NS w lab base k nsv)(hl:LabEq w lab lab'):NS w lab' base k nsv:=h.of_gb (World.grownBy.refl w none) (fun b hb=>by cases hb) hl
theorem IS.no{lab:Nat→Nat}{base A j:Nat}{w0 w:World}{names:List (List Int)}{v1 v2:Value}{mo:Option Nat}{mn:List (List Int)}{vA:Value}{all dec:List Int}(h:IS (labN w0 lab (j+2)) base A j w0 w names v1 v2 mo mn vA all)(hd:dec∈names):InsP lab base A j names dec w0 (.returned (.bool false)) w:=
 ⟨_,labN_eq w0 lab (j+2),h.fz.relab (labN_eq w0 lab (j+2)),fun K nsv hn=>h.ns K nsv (hn.relab (labN_eq _ _ _)),.inl ⟨hd,rfl⟩⟩
theorem IS.yes{lab:Nat→Nat}{base A j:Nat}{w0 w wb w3:World}{names:List (List Int)}{v1 v2:Value}{mo:Option Nat}{vA:Value}{dec:List Int}{v1':Value}(h:IS (labN w0 lab (j+2)) base A j w0 w names v1 v2 mo (names++[dec]) vA (names.flatten++dec))(hd:¬ dec∈names)(hby:∀ nm∈names++[dec],∀ c∈nm,0≤c∧c≤255)
  (hb:(w.setCell ⟨A,3 * j+1,none⟩ vA).grownBy wb none) (hg:wb.grownBy w3 v1.ownBlock) (ho:w3.ownsRow base 111 1 v1' (names.length+1) ((ends 0 (names++[dec])).map (Value.int .u64))) (hold:w3.ownsRow base 111 1 v1 names.length ((ends 0 names).map (Value.int .u64)))
  (hrel:SameRow v1 v1'∨v1'.ownBlock=some wb.heap.size):InsP lab base A j names dec w0 (.returned (.bool true)) (w3.setCell ⟨A,3 * j,none⟩ v1'):=by
 have hA1:(w.setCell ⟨A,3 * j+1,none⟩ vA).grownBy wb none:=hb
 have hs1:w.grownBy (w.setCell ⟨A,3 * j+1,none⟩ vA) (some A):=Go.Lib.grownBy_setCell _ A (3 * j+1) _
 have own1:∀ (e:TypeId) (v:Value) (n:Nat) (xs:List Value),w.ownsRow base e 1 v n xs→(∀ g,v.ownBlock=some g→labN w0 lab (j+2) g=j+2)→wb.ownsRow base e 1 v n xs:=fun e v n xs hov hl=>by
  refine (hov.kept hs1 ?_).kept hb (by cases v.ownBlock<;>simp)
  cases hv:v.ownBlock with
  |none=>exact .inl rfl
  |some g=>exact .inr (fun e=>by have:=Option.some.inj e; subst this; have:=hl _ hv; have:=h.lA; omega)
 have c1:C3 wb A j v1 vA (.map mo):=(h.c.set1 vA).block (hb.block A (by simpa using h.c.lt) (by simp))
 have r1b:=own1 _ _ _ _ h.r1 h.l1
 have rAb:=own1 _ _ _ _ h.rA h.lvA
 have hA3:w3.heap[A]? = wb.heap[A]? := hg.block A c1.lt (fun e=>by have:=h.l1 A e.symm; have:=h.lA; omega)
 have c3:C3 w3 A j v1 vA (.map mo):=c1.block hA3
 have rA3:w3.ownsRow base 5 1 vA (names.flatten++dec).length ((names.flatten++dec).map (Value.int .u8)):=rAb.kept hg (own_ne rAb r1b (by decide))
 have l1':∀ g,v1'.ownBlock=some g→labN w0 lab (j+2) g=j+2:=fun g e=>by
  rcases hrel with hs|hs
  ·rw [hs.own] at e
   exact h.l1 g e
  ·rw [hs] at e
   have:=Option.some.inj e
   subst this
   exact h.new _ (Nat.le_trans h.fz.size (Nat.le_trans hs1.size hb.size))
 have hs4:w3.grownBy (w3.setCell ⟨A,3 * j,none⟩ v1') (some A):=Go.Lib.grownBy_setCell _ A (3 * j) _
 have own4:∀ (e:TypeId) (v:Value) (n:Nat) (xs:List Value),w3.ownsRow base e 1 v n xs→(∀ g,v.ownBlock=some g→labN w0 lab (j+2) g=j+2)→(w3.setCell ⟨A,3 * j,none⟩ v1').ownsRow base e 1 v n xs:=fun e v n xs hov hl=>by
  refine hov.kept hs4 ?_
  cases hv:v.ownBlock with
  |none=>exact .inl rfl
  |some g=>exact .inr (fun e=>by have:=Option.some.inj e; subst this; have:=hl _ hv; have:=h.lA; omega)
 have R1:RowOk w3 (labN w0 lab (j+2)) base (j+2) 111 v1':=⟨_,_,ho,l1'⟩
 have RA:RowOk w (labN w0 lab (j+2)) base (j+2) 5 vA:=⟨_,_,h.rA,h.lvA⟩
 have F:Fz (labN w0 lab (j+2)) j (fun _=>False) w0 (w3.setCell ⟨A,3 * j,none⟩ v1'):=
  ((((h.fz.trans (LabEq.refl _ _) (Fz.set h.lA (by omega))).trans (LabEq.refl _ _) (Fz.of_gb hb (fun b hb=>by cases hb))).trans (LabEq.refl _ _) (Fz.append (j:=j) hg r1b hold h.l1 (Nat.le_refl _))).trans (LabEq.refl _ _) (Fz.set h.lA (Nat.le_refl _)))
 have N:∀ K nsv,NS w0 lab base K nsv→NS (w3.setCell ⟨A,3 * j,none⟩ v1') (labN w0 lab (j+2)) base K nsv:=fun K nsv hn=>
  (((((h.ns K nsv (hn.relab (labN_eq _ _ _))).set (i:=1) h.lA (.inr (.inl ⟨rfl,RA⟩))).of_gb hb (fun b hb=>by cases hb) (LabEq.refl _ _)).append hg r1b hold h.l1 (LabEq.refl _ _)).set (i:=0) h.lA (.inl ⟨rfl,R1⟩))
 refine ⟨_,labN_eq w0 lab (j+2),F.relab (labN_eq w0 lab (j+2)),N,.inr ⟨hd,rfl,v1',vA,mo,?_⟩⟩
 have hfl:(names++[dec]).flatten=names.flatten++dec:=by simp
 refine ⟨c3.set0 v1',h.bA,h.lA,?_,l1',?_,h.lvA,fun M hM => ?_,hby⟩
 ·have e:=own4 _ _ _ _ ho l1'
  rw [List.length_append]
  exact e
 ·rw [hfl]
  exact own4 _ _ _ _ rA3 h.lvA
 ·obtain ⟨h1,h2⟩:=h.mp M hM
  refine ⟨h1,?_⟩
  have hMA:M≠A:=fun e=>by subst e; have:=h.lA; omega
  have m1:MapHas Tryz.prog (w.setCell ⟨A,3 * j+1,none⟩ vA) M (names++[dec]):=h2.block (heap_set_other hMA)
  have m2:=m1.block (hb.block M m1.lt (by simp))
  have m3:=m2.block (hg.block M m2.lt (map_ne m2 r1b))
  exact m3.block (heap_set_other hMA)
end Go.Proofs.YtknaalohaagcdaaGreatDoor.Own
namespace Go.Proofs.YtknaalohaagcdaaGreatDoor.Own
open Go.RowKit
theorem conv_piece{w:World}{base n:Nat}{ao:Option Addr}{cap:Nat}{ys:List Int}(ho:w.ownsRow base 5 1 (.slice ao n cap) n (ys.map (Value.int .u8)))(a b c:Nat)(hab:a≤b)(hb:b≤n)(hc:b≤c):
  (convert 47 9 (sliced ao a b c 1)).run Tryz.prog w=.ok (.string (strOfNums ((ys.drop a).take (b-a)))) w:=by
 have hl:ys.length=n:=by have:=ho.1; simpa using this
 have hlen:((ys.drop a).take (b-a)).length=b-a:=by rw [List.length_take,List.length_drop]; omega
 rcases ho.2 with ⟨h,h0⟩|⟨g,cap',cur,h,_,hg,hn,_,hsz,htk⟩
 ·simp only [Value.slice.injEq] at h
  obtain ⟨rfl,_,_⟩:=h
  have e:(ys.drop a).take (b-a)=[]:=List.eq_nil_of_length_eq_zero (by omega)
  rw [e]
  unfold sliced
  have e2:(if c=a then none else (none:Option Addr).map (·.add (a * 1)))=none:=by split<;>rfl
  rw [e2]
  exact run_convert_bytes_nil w 47 5 Tryz.underlying47 Tryz.underlying5 _ _ 9 Tryz.underlying9
 ·simp only [Value.slice.injEq,true_and] at h
  obtain ⟨rfl,rfl⟩:=h
  by_cases hz:b-a=0
  ·have e:(ys.drop a).take (b-a)=[]:=by rw [hz]; rfl
   rw [e]
   unfold sliced
   rw [hz]
   have e2:∃ q,(if c=a then some (⟨g,0,none⟩:Addr) else (some (⟨g,0,none⟩:Addr)).map (·.add (a * 1)))=some ⟨g,q,none⟩:=by
    split
    ·exact ⟨0,rfl⟩
    ·exact ⟨a * 1,by simp [Addr.add]; exact fun h=>h.symm⟩
   obtain ⟨q,e2⟩:=e2
   rw [e2]
   exact run_convert_bytes_arg w 47 5 Tryz.underlying47 Tryz.underlying5 g q 0 _ [] rfl (fun i hi=>by omega) 9 Tryz.underlying9
  ·have e2:sliced (some (⟨g,0,none⟩:Addr)) a b c 1=.slice (some ⟨g,a,none⟩) (b-a) (c-a):=by
    unfold sliced
    rw [if_neg (by omega)]
    simp [Addr.add]
    exact fun h=>h.symm
   rw [e2]
   refine run_convert_bytes_arg w 47 5 Tryz.underlying47 Tryz.underlying5 g a (b-a) (c-a) _ hlen (fun i hi => ?_) 9 Tryz.underlying9
   rw [cell_of_row w g (a+i) cur 5 (0,0) hg]
   have e:(cur.toList.take (n * 1))[a+i]? = (ys.map (Value.int .u8))[a+i]? := by rw [htk]
   rw [List.getElem?_take,if_pos (by omega)] at e
   rw [← Array.getElem?_toList,e]
   have h1:a+i<ys.length:=by omega
   simp [List.getD,List.getElem?_eq_getElem h1,hi]
theorem slice_run{W:World}{ao:Option Addr}{n cap a b:Nat}{k1 k2:IntKind}(hab:a≤b)(hb:b≤cap):(Instr.slice 47 (.slice ao n cap) (some (.int k1 (a:Int))) (some (.int k2 (b:Int))) none).run Tryz.prog W=.ok (sliced ao a b cap 1) W:=by
 rw [run_slice_lh (P:=Tryz.prog) W 47 _ n cap (by kernel_rfl) k1 k2 (a:Int) (b:Int) (by omega) (by omega) (by omega)]
 have e:(sizeOf (Tryz.prog.elem 47)).run Tryz.prog W=.ok 1 W:=by kernel_rfl
 rw [e]
 simp only [Result.andThen_ok,Int.toNat_natCast]
theorem slice_from{W:World}{ao:Option Addr}{n cap a:Nat}{k1:IntKind}(ha:a≤n):(Instr.slice 47 (.slice ao n cap) (some (.int k1 (a:Int))) none none).run Tryz.prog W=.ok (sliced ao a n cap 1) W:=by
 rw [run_slice_l (P:=Tryz.prog) W 47 _ n cap (by kernel_rfl) k1 (a:Int) (by omega) (by omega)]
 have e:(sizeOf (Tryz.prog.elem 47)).run Tryz.prog W=.ok 1 W:=by kernel_rfl
 rw [e]
 simp only [Result.andThen_ok,Int.toNat_natCast]
theorem strOf_inj{a b:List Int}(ha:∀ c∈a,0≤c∧c≤255)(hb:∀ c∈b,0≤c∧c≤255)(h:strOfNums a=strOfNums b):a=b:=by
 rw [← bytes_strOf ha,← bytes_strOf hb,h]
end Go.Proofs.YtknaalohaagcdaaGreatDoor.Own
namespace Go.Proofs.YtknaalohaagcdaaGreatDoor.Own
open Go.RowKit
theorem form_of{w:World}{base:Nat}{e:TypeId}{v:Value}{n:Nat}{xs:List Value}(h:w.ownsRow base e 1 v n xs):∃ ao cap,v=.slice ao n cap∧n≤cap∧cap≤maxLen:=by
 rcases h.2 with ⟨rfl,rfl⟩|⟨g,cap,_,rfl,_,_,h1,h2,_⟩
 ·exact ⟨none,0,rfl,Nat.le_refl _,by unfold maxLen; omega⟩
 ·exact ⟨_,_,rfl,h1,h2⟩
theorem wpList_appS{P:Program}(w:World){ops:Array Oper}{rest:List Oper}{o:Oper}{a:Go.Act}{Q:Exit→Go.Act→World→Prop}(hgd:o.guard=none)(s x:Operand)(t tx:TypeId)
  (ho:o.op=.call { callee:=.builtin .append,args:=#[s,x],argTypes:=#[t,tx] })
  (base:Nat) (e:TypeId) (i:TypeInfo) (z:Value) (bytes:Nat) (ht:P.underlying t=some (.slice e)) (hi:P.info? e=some i) (hz:i.zero=some z)
  (hsize:i.size=1) (hby:i.bytes=bytes) (hzs:z.cells.size=1) (v:Value) (n:Nat) (xs:List Value) (hs:a.eval s=v) (hown:w.ownsRow base e 1 v n xs) (xv:Value) (m:Nat) (news:List Value) (hx:a.eval x=xv) (hsrc:Src P 1 tx xv m news w)
  (h63:n+m≤maxLen) (hbytes:(n+m) * bytes≤140737488355328) (hbase:base≤w.heap.size)
  (h:∀ ao cap w',w'.ownsRow base e 1 (.slice ao (n+m) cap) (n+m) (xs++news)→w.grownBy w' v.ownBlock→(SameRow v (.slice ao (n+m) cap)∨(Value.slice ao (n+m) cap).ownBlock=some w.heap.size)→w'.ownsRow base e 1 v n xs→wpList P ops Q rest (a.put o.dst (.slice ao (n+m) cap)) w'):wpList P ops Q (o::rest) a w:=
 wpList_app w hgd s x t tx ho base e i z bytes ht hi hz hsize hby hzs v n xs hs hown xv m news hx hsrc h63 hbytes hbase fun v' w' h1 h2 h3 h4=>by
  obtain ⟨ao,cap,rfl,_,_⟩:=form_of h1
  exact h ao cap w' h1 h2 h3 h4
def NameSrc(w:World)(base:Nat)(v2 nv:Value)(N m:Nat)(flat:List Int)(dec:List Int)(quoted:Bool):Prop:=
 (quoted=false∧∃ a c,nv=.slice (some a) m c∧∀ j u,(dec.map (Value.int .u8))[j]? = some u→w.cell? (a.add j)=some u)∨
 (quoted=true∧Calls Tryz.prog 154 #[v2,nv] w fun e w'=>∃ ao c ev,e=.returned (.tuple #[.slice ao (N+m) c,ev])∧Grew w w' base v2 N (flat.map (Value.int .u8)) (.slice ao (N+m) c) (dec.map (Value.int .u8)))
theorem len155(A j n c1:Nat)(ao:Option Addr)(w:World)(k1:w.cell? ⟨A,3 * j,none⟩=some (.slice ao n c1)):Calls Tryz.prog 155 #[.pointer (some ⟨A,3 * j,none⟩)] w fun e w'=>e=.returned (.int .i64 n)∧w=w':=by
 go_enter Tryz.func155,Tryz.ntmps155
 go_wp2_with fail
 go_ret
 exact ⟨rfl,rfl⟩
theorem take_split{names:List (List Int)}{i:Nat}(h:i<names.length):names.take (i+1)=names.take i++[names[i]]:=by rw [List.take_succ_eq_append_getElem h]
theorem flat_split{names:List (List Int)}{i:Nat}(h:i<names.length):names.flatten=(names.take i).flatten++(names[i]++(names.drop (i+1)).flatten):=by
 rw [← List.flatten_cons,← List.drop_eq_getElem_cons h,← List.flatten_append,List.take_append_drop]
theorem flat_take{names:List (List Int)}{i:Nat}(h:i<names.length):(names.take (i+1)).flatten.length=(names.take i).flatten.length+names[i].length:=by
 rw [take_split h,List.flatten_append,List.length_append,List.flatten_singleton]
theorem piece_at{names:List (List Int)}{i:Nat}(h:i<names.length):(names.flatten.drop (names.take i).flatten.length).take ((names.take (i+1)).flatten.length-(names.take i).flatten.length)=names[i]:=by
 rw [flat_take h,Nat.add_sub_cancel_left,flat_split h,List.drop_left,List.take_left]
theorem part_le(names:List (List Int))(i:Nat):(names.take i).flatten.length≤names.flatten.length:=by
 have e:names.flatten=(names.take i).flatten++(names.drop i).flatten:=by rw [← List.flatten_append,List.take_append_drop]
 rw [e,List.length_append]
 exact Nat.le_add_right _ _
theorem part_up{names:List (List Int)}{i:Nat}(h:i<names.length):(names.take i).flatten.length≤(names.take (i+1)).flatten.length:=by
 rw [flat_take h]
 exact Nat.le_add_right _ _
theorem IS.piece{lab:Nat→Nat}{base A j g1 c1 n N c2 i:Nat}{ao2:Option Addr}{w0 wr:World}{names:List (List Int)}{mo:Option Nat}{mn:List (List Int)}{vA:Value}{all flat:List Int}(h:IS lab base A j w0 wr names (.slice (some ⟨g1,0,none⟩) n c1) (.slice ao2 N c2) mo mn vA all)(_hn:names.length=n)(hfl:names.flatten=flat)(hN:flat.length=N)(hi:i<names.length):
  wr.cell? ⟨g1,i,none⟩=some (.int .u64 ((names.take (i+1)).flatten.length:Nat))∧∃ u,(∀ W,(Instr.slice 47 (.slice ao2 N c2) (some (.int .u64 ((names.take i).flatten.length:Nat))) (some (.int .u64 ((names.take (i+1)).flatten.length:Nat))) none).run Tryz.prog W=.ok u W)∧
   (∀ k,(convert 47 9 u).run Tryz.prog (wr.drewN k)=.ok (.string (strOfNums names[i])) (wr.drewN k)):=by
 constructor
 ·have e:=h.r1.cells (g:=g1) rfl i (.int .u64 ((names.take (i+1)).flatten.length:Nat)) (by
   rw [List.getElem?_map,ends_take names 0 i hi]
   simp)
  have hadd:(⟨g1,0,none⟩:Addr).add i=⟨g1,i,none⟩:=by unfold Addr.add; split<;>simp_all
  rwa [hadd] at e
 ·have r2:=h.r2
  rw [hfl,hN] at r2
  have hNc:N≤c2:=by
   obtain ⟨ao,c,e,h1,_⟩:=form_of r2
   simp only [Value.slice.injEq,true_and] at e
   omega
  have hle:=part_le names (i+1)
  rw [hfl,hN] at hle
  have hup:=part_up hi
  refine ⟨_,fun W=>slice_run hup (by omega),fun k => ?_⟩
  have c:=conv_piece (w:=wr.drewN k) r2 _ _ c2 hup hle (by omega)
  rw [c,← hfl,piece_at hi]
theorem IS.nomap{lab:Nat→Nat}{base A j:Nat}{w0 w:World}{names:List (List Int)}{v1 v2:Value}{mn mn':List (List Int)}{vA:Value}{all:List Int}(h:IS lab base A j w0 w names v1 v2 none mn vA all):IS lab base A j w0 w names v1 v2 none mn' vA all:=
 ⟨h.c,h.bA,h.lA,h.r1,h.l1,h.r2,h.l2,h.rA,h.lvA,fun M hM=>(by cases hM),h.fz,h.ns,h.new⟩
theorem has_names{names:List (List Int)}{dec:List Int}(hb:∀ nm∈names,∀ c∈nm,0≤c∧c≤255)(hd:∀ c∈dec,0≤c∧c≤255):Maps.has (Maps.setOf (DataW.agg (H:=Unit) []) (names.map keyL)) (keyL dec)=decide (dec∈names):=by
 rw [Maps.has_setOf _ _ _ (fun x hx=>by
  obtain ⟨nm,_,rfl⟩:=List.mem_map.1 hx
  exact trivial)]
 rw [Bool.eq_iff_iff]
 simp only [List.any_map,List.any_eq_true,Function.comp,decide_eq_true_eq]
 constructor
 ·rintro ⟨nm,h1,h2⟩
  have e:nm=dec:=strOf_inj (hb nm h1) hd (by
   have h3:=WideAt.sameKey_eq h2
   unfold keyL at h3
   simp only [Lit.string.injEq] at h3
   exact congrArg ByteArray.mk (Array.toList_inj.1 h3))
  rw [← e]
  exact h1
 ·intro h
  exact ⟨dec,h,by unfold keyL Lit.sameKey; simp⟩
theorem IS.conv{lab:Nat→Nat}{base A j N m cA:Nat}{aoA:Option Addr}{w0 wr:World}{names:List (List Int)}{v1 v2:Value}{mo:Option Nat}{mn:List (List Int)}{flat dec:List Int}(h:IS lab base A j w0 wr names v1 v2 mo mn (.slice aoA (N+m) cA) (flat++dec))(hN:flat.length=N)(hm:dec.length=m):
  ∀ k,(convert 47 9 (sliced aoA N (N+m) cA 1)).run Tryz.prog (wr.drewN k)=.ok (.string (strOfNums dec)) (wr.drewN k):=fun k=>by
 have hr:=h.rA
 rw [List.length_append,hN,hm] at hr
 have c:=conv_piece (w:=wr.drewN k) hr N (N+m) cA (by omega) (Nat.le_refl _) (by
  obtain ⟨ao,c,e,h1,_⟩:=form_of hr
  simp only [Value.slice.injEq,true_and] at e
  omega)
 have e1:(flat++dec).drop N=dec:=by rw [← hN]; exact List.drop_left
 have e2:((flat++dec).drop N).take (N+m-N)=dec:=by rw [e1,List.take_of_length_le (by omega)]
 rw [e2] at c
 exact c
theorem zero180(w:World):(zeroValue 180).run Tryz.prog w=.ok (.agg #[]) w:=by kernel_rfl
theorem keyL_key{nm:List Int}(h:nm.length≤4294967296):keyOf Tryz.prog 9 (.string (strOfNums nm))=some (keyL nm):=WideMaps.keyOf_string_mk Tryz.underlying9 (by rw [strOfNums_size]; unfold maxLen; omega)
end Go.Proofs.YtknaalohaagcdaaGreatDoor.Own
