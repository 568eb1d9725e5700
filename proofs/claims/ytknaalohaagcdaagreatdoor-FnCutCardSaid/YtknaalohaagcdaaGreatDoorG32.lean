import Derived.Test.YtknaalohaagcdaaGreatDoorG01
import Derived.Test.YtknaalohaagcdaaGreatDoorG26
import Derived.Lib.AppendIntMem
import Derived.Lib.ItoaMem
import Derived.Lib.ItoaWalk
set_option maxHeartbeats 400000000
set_option maxRecDepth 100000
namespace Go.Proofs.YtknaalohaagcdaaGreatDoor.Own
open Go.RowKit
variable {A:List Addr}
def AppP(k base n:Nat)(v0:Value)(xs:List Value)(w:World)(e:Ending)(w':World):Prop:=∃ ao' m' c' zs',e=.returned (.slice ao' m' c')∧w'.ownsRow base 5 1 (.slice ao' m' c') m' (xs++List.map (Value.int .u8) zs')∧m'≤n+k∧w.grownBy w' v0.ownBlock∧(SameRow v0 (.slice ao' m' c')∨∃ g,(Value.slice ao' m' c').ownBlock=some g∧w.heap.size≤g)
def decN(u:Nat):List Int:=(Lib.decDigits u).map fun b=>(b.toNat:Int)
theorem decN_cells(u:Nat):(decN u).map (Value.int .u8)=Lib.byteCells (Lib.decDigits u):=by
 unfold decN Lib.byteCells
 rw [List.map_map]
 rfl
theorem dec_len{u:Nat}(h1:1≤u)(h2:u<18446744073709551616):Lib.nDigits u≤20:=by
 have:=Lib.numDigits_eq u h1 h2
 split at this<;>omega
theorem uint_small(base n c u:Nat)(ao:Option Addr)(xs:List Value)(w:World)(hu:u<100)(hown:w.ownsRow base 5 1 (.slice ao n c) n xs)(hb:base≤w.heap.size)(hn:n≤34359738368):
  Calls Tryz.prog 177 #[.slice ao n c,.int .u64 u,.int .i64 10] w (AppP 20 base n (.slice ao n c) xs w):=by
 obtain ⟨i5,hi,hz0,hz1,hz2⟩:=info_parts info5
 have hlen:(Lib.decDigits u).length≤20:=by
  rw [Lib.decDigits_length]
  by_cases h10:u<10
  ·rw [Lib.nDigits_small h10]; omega
  ·rw [Lib.nDigits_big h10,Lib.nDigits_small (show u / 10<10 by omega)]; omega
 have S:=Hq (Tryz.internal_strconv_small u hu w)
 have HO:=Hq hown
 obtain ⟨y,hy⟩:∃ y:ByteArray,(⟨(Lib.decDigits u).toArray⟩:ByteArray)=y:=⟨_,rfl⟩
 have hsz:y.size=(Lib.decDigits u).length:=by rw [← hy]; simp [ByteArray.size]
 rw [hy] at S
 have t1:decide ((u:Int)<100)=true:=by simp; omega
 have hyl:y.size≤20:=by omega
 have src:=Src.ofString (P:=Tryz.prog) w Tryz.underlying9 y
 clear hown hlen hsz hy
 go_enter Tryz.func177,Tryz.ntmps177
 go_wp2_with fail
 refine S.out.mono ?_
 rintro e w' ⟨rfl,rfl⟩
 go_wp2_with (at_builtin; refine wpList_appS _ rfl _ _ 47 9 rfl base 5 i5 _ 1 Tryz.underlying47 hi hz0 hz1 hz2 rfl _ _ _ rfl HO.out _ _ _ rfl src ?d1 ?d2 hb ?_)
 case d1=>simp only [maxLen]; omega
 case d2=>omega
 intro aoC cC w7 q1 q2 q3 q4
 have Q:=Hq (And.intro q1 (And.intro q2 q3))
 clear q1 q2 q3 q4
 go_wp2_with fail
 go_ret
 refine ⟨aoC,n+y.size,cC,bytes y,rfl,?_,by omega,Q.out.2.1,Q.out.2.2.imp id (fun h=>⟨_,h,Nat.le_refl _⟩)⟩
 rw [show (bytes y).map (Value.int .u8)=byteCells y by unfold bytes byteCells; rw [List.map_map]; rfl]
 exact Q.out.1
theorem gb_append{w wr w2:World}{v:Value}(h:w.grownBy wr none)(h2:wr.grownBy w2 v.ownBlock):w.grownBy w2 v.ownBlock:=
 ⟨h2.os.trans h.os,h2.tape.trans h.tape,h2.output.trans h.output,Nat.le_trans h.size h2.size,fun i hi hx=>(h2.block i (Nat.lt_of_lt_of_le hi h.size) hx).trans (h.block i hi (by simp))⟩
theorem uint_big(base n c u:Nat)(ao:Option Addr)(xs:List Value)(w:World)(hu:100≤u)(hu64:u<18446744073709551616)(hown:w.ownsRow base 5 1 (.slice ao n c) n xs)(hb:base≤w.heap.size)(hn:n≤34359738368)(htab:Lib.TabIs Tryz.prog w "internal/strconv.uint64pow10" .u64 Lib.pow10Tab):
  Calls Tryz.prog 177 #[.slice ao n c,.int .u64 u,.int .i64 10] w (AppP 20 base n (.slice ao n c) xs w):=by
 obtain ⟨i5,hi,hz0,hz1,hz2⟩:=info_parts info5
 have hu1:1≤u:=by omega
 have hnd20:Lib.nDigits u≤20:=dec_len hu1 hu64
 have hal:Tryz.prog.arrayLen 247=24:=by simp [Program.arrayLen,Tryz.underlying247]
 have hsl:∀ W,(Instr.sliceAt 247 (.pointer (some ⟨w.heap.size,0,none⟩)) none (some (.int .i64 (Lib.nDigits u:Int))) none).run Tryz.prog W=.ok (.slice (some ⟨w.heap.size,0,none⟩) (Lib.nDigits u) 24) W:=fun W=>by
  rw [run_sliceAt_array_h W 247 ⟨w.heap.size,0,none⟩ (by simp [Program.arrayLen,Program.elem,Tryz.underlying247]) .i64 (Lib.nDigits u:Int) (by omega) (by rw [hal]; omega)]
  go_simp
 have hH0:=Lib.holds_zero0 w 247 (Lib.nDigits u) (by omega)
 have hfmt:=Tryz.internal_strconv_formatBase10 w.heap.size 0 24 u (Array.replicate (Lib.nDigits u) 0) (w.alloc (.cells Lib.zeros24 247)) hH0 (by rw [Array.size_replicate]; exact Lib.lt_pow_nDigits u) hu64 (by rw [Array.size_replicate]; omega)
 rw [Array.size_replicate] at hfmt
 have HH0:=Hq hH0
 have iu:(100:Int)≤(u:Int):=by omega
 have HO:=Hq hown
 have HT:=Hq htab
 have t1:decide ((u:Int)<100)=false:=by simp; omega
 clear hH0 hal hown htab
 go_enter Tryz.func177,Tryz.ntmps177
 go_wp2_with fail
 refine (Tryz.internal_strconv_numDigits u hu1 hu64 _ (Lib.tabIs_alloc HT.out _)).mono ?_
 rintro e w' ⟨rfl,rfl⟩
 go_wp2_with fail
 refine hfmt.mono ?_
 rintro e w' ⟨rfl,k,v',dk,rfl,hF⟩
 have hcells:∀ j u',(Lib.byteCells (Lib.decDigits u))[j]? = some u'→((Sort.putRow (fun (b:UInt8)=>Value.int .u8 (b.toNat:Int)) (w.alloc (.cells Lib.zeros24 247)) w.heap.size 0 dk).drewN k).cell? ((⟨w.heap.size,0,none⟩:Addr).add j)=some u':=by
  intro j u' hj
  have hjl:j<(Lib.decDigits u).length:=by
   have h5:=(List.getElem?_eq_some_iff.1 hj).1
   rwa [Lib.byteCells_length] at h5
  have e5:(Lib.byteCells (Lib.decDigits u))[j]? = some (Value.int .u8 ((Lib.decDigits u)[j].toNat:Int)):=by simp [Lib.byteCells,hjl]
  rw [e5] at hj
  cases hj
  rw [Lib.row_is_numeral hF j hjl,Lib.add_plain,World.cell?_drewN]
  exact Sort.cell?_putRow (fun (b:UInt8)=>Value.int .u8 (b.toNat:Int)) _ w.heap.size 0 _ dk HH0.out (by rw [hF.size,Array.size_replicate]) j (by rw [hF.size]; rw [Lib.decDigits_length] at hjl; exact hjl)
 obtain ⟨os,eo⟩:=Lib.fin_at w (.cells Lib.zeros24 247) dk k 0
 have hown2:((Sort.putRow (fun (b:UInt8)=>Value.int .u8 (b.toNat:Int)) (w.alloc (.cells Lib.zeros24 247)) w.heap.size 0 dk).drewN k).ownsRow base 5 1 (.slice ao n c) n xs:=by rw [eo]; exact Lib.ownsRow_grow HO.out k os
 have hnx2:Below w.heap.size w ((Sort.putRow (fun (b:UInt8)=>Value.int .u8 (b.toNat:Int)) (w.alloc (.cells Lib.zeros24 247)) w.heap.size 0 dk).drewN k):=by rw [eo]; exact Lib.below_grow w.heap.size w (Nat.le_refl _) k os
 generalize (Sort.putRow (fun (b:UInt8)=>Value.int .u8 (b.toNat:Int)) (w.alloc (.cells Lib.zeros24 247)) w.heap.size 0 dk).drewN k=W2 at hcells hown2 hnx2 ⊢
 have srcN:Src Tryz.prog 1 47 (.slice (some ⟨w.heap.size,0,none⟩) (Lib.nDigits u) 24) (Lib.nDigits u) (Lib.byteCells (Lib.decDigits u)) W2:=
  Src.ofSlice _ Tryz.underlying47 _ _ _ _ (by rw [Lib.byteCells_length,Lib.decDigits_length,Nat.mul_one]) hcells (by intro u' hu'; simp only [Lib.byteCells,List.mem_map] at hu'; obtain ⟨b,_,rfl⟩:=hu'; rfl)
 have G0:=Hq (below_gb hnx2)
 have hb2:base≤W2.heap.size:=Nat.le_trans hb G0.out.size
 have HO2:=Hq hown2
 clear eo HH0 hfmt hcells hown2 hnx2
 go_wp2_with (at_builtin; refine wpList_appS _ rfl _ _ 47 47 rfl base 5 i5 _ 1 Tryz.underlying47 hi hz0 hz1 hz2 rfl _ _ _ rfl HO2.out _ _ _ rfl srcN ?d1 ?d2 hb2 ?_)
 case d1=>simp only [maxLen]; omega
 case d2=>omega
 intro aoC cC w7 q1 q2 q3 q4
 have Q:=Hq (And.intro q1 (And.intro q2 q3))
 clear q1 q2 q3 q4
 go_wp2_with fail
 go_ret
 refine ⟨aoC,n+Lib.nDigits u,cC,decN u,rfl,?_,by omega,gb_append G0.out Q.out.2.1,Q.out.2.2.imp id (fun h=>⟨_,h,G0.out.size⟩)⟩
 rw [decN_cells]
 exact Q.out.1
theorem uint171(base n c u:Nat)(ao:Option Addr)(xs:List Value)(w:World)(hu64:u<18446744073709551616)(hown:w.ownsRow base 5 1 (.slice ao n c) n xs)(hb:base≤w.heap.size)(hn:n≤34359738368)(htab:Lib.TabIs Tryz.prog w "internal/strconv.uint64pow10" .u64 Lib.pow10Tab):
  Calls Tryz.prog 171 #[.slice ao n c,.int .u64 u,.int .i64 10] w (AppP 20 base n (.slice ao n c) xs w):=by
 have C:=Hq (show Calls Tryz.prog 177 #[.slice ao n c,.int .u64 u,.int .i64 10] w (AppP 20 base n (.slice ao n c) xs w) by
  by_cases h:u<100
  ·exact uint_small base n c u ao xs w h hown hb hn
  ·exact uint_big base n c u ao xs w (by omega) hu64 hown hb hn htab)
 clear hown htab
 go_enter Tryz.func171,Tryz.ntmps171
 go_wp2_with fail
 refine C.out.mono ?_
 rintro e w' ⟨ao',m',c',zs',rfl,h⟩
 have R:=Hq h
 clear h
 go_wp2_with fail
 go_ret
 exact ⟨ao',m',c',zs',rfl,R.out⟩
theorem wrap153(lo m idx:Nat)(lab:Nat→Nat)(v:Value)(w:World)(hlo:lo≤w.heap.size)(hm:m≤2147483648)(hidx:idx≤4294967296)(hv:ErrV A lo w lab m v)
  (hT:∀ w1,Er lo (labN w lab 0) w w1→Lib.TabIs Tryz.prog w1 "internal/strconv.uint64pow10" .u64 Lib.pow10Tab):
  Calls Tryz.prog 153 #[v,.int .i64 idx] w fun e w'=>∃ v',e=.returned v'∧PE A lo w' (labN w lab 0) (m+21) v'∧Er lo (labN w lab 0) w w':=by
 obtain ⟨i5,hi,hz0,hz1,hz2⟩:=info_parts info5
 have HV:=Hq hv
 have T:=Hq hT
 have hw64:IntKind.u64.wrap (idx:Int)=(idx:Int):=by rw [IntKind.wrap_u64]; omega
 clear hv hT
 have new:∀ ev,Bare A ev→Hid (PM A lo m (w.alloc (.cells #[ev,.slice none 0 0] 170)) (labN w lab 0) w w.heap.size ev none 0 0):=fun ev hev=>
  Hq ⟨[],⟨heap_alloc_new w _,hev,hlo,labN_new (Nat.le_refl _),World.ownsRow_nil _ _ _ _,fun g hg=>by cases hg⟩,.inl rfl,Nat.zero_le _,(Er.refl _ _ _).step (World.grownBy_alloc w _ none) (fun b e=>by cases e)⟩
 rcases HV.out with (⟨a,haA,rfl⟩|⟨b,rfl⟩)|⟨pb,ev,rv,n,t,rfl,hp,hnm⟩
 ·have PMH:=new _ (.inl ⟨a,haA,rfl⟩)
  have AS:=as260_166 (.pointer (some a)) w
  go_enter Tryz.func153,Tryz.ntmps153
  go_upto_region 4 with (fail)
  generalize w.alloc (Obj.cells #[Value.iface 260 (Value.pointer (some a)),Value.slice none 0 0] 170)=w2 at PMH ⊢
  obtain ⟨ev',ao',n',c',HP⟩:∃ ev ao n c,Hid (PM A lo m w2 (labN w lab 0) w w.heap.size ev ao n c):=⟨_,_,_,_,PMH⟩
  have HN:=Hq (show NameAt w2 (.slice ao' n' c') (.slice none 0 0) [] from ⟨w2.heap.size,fun g hg=>by obtain ⟨_,h,_⟩:=HP.out; exact (h.row.lt g hg).2,World.ownsRow_nil _ _ _ _⟩)
  obtain ⟨X,p1,pf,OX,HX⟩:=HP.out.row
  have hn':n'≤m:=by obtain ⟨_,_,_,h,_⟩:=HP.out; exact h
  have hb2:=HP.out.base hlo
  have srcN:Src Tryz.prog 1 47 (.slice (some ⟨w2.heap.size,0,none⟩) 1 1) 1 [.int .u8 47] (w2.alloc (.cells #[.int .u8 47] 5)):=
   Src.ofSlice _ Tryz.underlying47 _ _ _ _ rfl (World.news_of_block (cs:=#[.int .u8 47]) (t:=5) (fr:=(0,0)) (heap_alloc_new w2 _)) (by simp [Value.oneCell'])
  clear PMH
  go_wp2_with (at_builtin; refine wpList_appS _ rfl _ _ 47 47 rfl lo 5 i5 _ 1 Tryz.underlying47 hi hz0 hz1 hz2 rfl _ _ _ rfl (OX.out.alloc _) _ _ _ rfl srcN ?c1 ?c2 ?c3 ?_)
  case c1=>simp only [maxLen]; omega
  case c2=>omega
  case c3=>simp; omega
  intro aoB cB w3 q1 q2 q3 q4
  have HP3:=Hq (HP.out.slash HN.out hlo (fun b hb=>labN_new hb) HX.out q1 q2 q3)
  have C:=Hq (uint171 lo (n'+1) cB idx aoB _ w3 (by omega) q1 HP3.out.1.base (by omega) (T.out _ HP3.out.1.er))
  clear q1 q2 q3 q4 srcN OX HX
  go_wp2_with fail
  refine C.out.mono ?_
  rintro e w4 ⟨aoC,mC,cC,zs,rfl,hown4,hm4,hgb4,hrel4⟩
  have HE:=Hq (HP3.out.1.ended (M:=m+21) (Array.getElem?_eq_some_iff.1 HP3.out.1.blk).1 hown4 hgb4 hrel4)
  clear hown4 hgb4 hrel4
  obtain ⟨k1,k2⟩:=HE.out.1
  go_wp2_with fail
  go_ret
  exact ⟨_,rfl,HE.out.2 (by omega)⟩
 ·have PMH:=new _ (.inr ⟨b,rfl⟩)
  have AS:=as175_166 (.pointer (some ⟨b,0,none⟩)) w
  go_enter Tryz.func153,Tryz.ntmps153
  go_upto_region 4 with (fail)
  generalize w.alloc (Obj.cells #[Value.iface 175 (Value.pointer (some ⟨b,0,none⟩)),Value.slice none 0 0] 170)=w2 at PMH ⊢
  obtain ⟨ev',ao',n',c',HP⟩:∃ ev ao n c,Hid (PM A lo m w2 (labN w lab 0) w w.heap.size ev ao n c):=⟨_,_,_,_,PMH⟩
  have HN:=Hq (show NameAt w2 (.slice ao' n' c') (.slice none 0 0) [] from ⟨w2.heap.size,fun g hg=>by obtain ⟨_,h,_⟩:=HP.out; exact (h.row.lt g hg).2,World.ownsRow_nil _ _ _ _⟩)
  obtain ⟨X,p1,pf,OX,HX⟩:=HP.out.row
  have hn':n'≤m:=by obtain ⟨_,_,_,h,_⟩:=HP.out; exact h
  have hb2:=HP.out.base hlo
  have srcN:Src Tryz.prog 1 47 (.slice (some ⟨w2.heap.size,0,none⟩) 1 1) 1 [.int .u8 47] (w2.alloc (.cells #[.int .u8 47] 5)):=
   Src.ofSlice _ Tryz.underlying47 _ _ _ _ rfl (World.news_of_block (cs:=#[.int .u8 47]) (t:=5) (fr:=(0,0)) (heap_alloc_new w2 _)) (by simp [Value.oneCell'])
  clear PMH
  go_wp2_with (at_builtin; refine wpList_appS _ rfl _ _ 47 47 rfl lo 5 i5 _ 1 Tryz.underlying47 hi hz0 hz1 hz2 rfl _ _ _ rfl (OX.out.alloc _) _ _ _ rfl srcN ?c1 ?c2 ?c3 ?_)
  case c1=>simp only [maxLen]; omega
  case c2=>omega
  case c3=>simp; omega
  intro aoB cB w3 q1 q2 q3 q4
  have HP3:=Hq (HP.out.slash HN.out hlo (fun b hb=>labN_new hb) HX.out q1 q2 q3)
  have C:=Hq (uint171 lo (n'+1) cB idx aoB _ w3 (by omega) q1 HP3.out.1.base (by omega) (T.out _ HP3.out.1.er))
  clear q1 q2 q3 q4 srcN OX HX
  go_wp2_with fail
  refine C.out.mono ?_
  rintro e w4 ⟨aoC,mC,cC,zs,rfl,hown4,hm4,hgb4,hrel4⟩
  have HE:=Hq (HP3.out.1.ended (M:=m+21) (Array.getElem?_eq_some_iff.1 HP3.out.1.blk).1 hown4 hgb4 hrel4)
  clear hown4 hgb4 hrel4
  obtain ⟨k1,k2⟩:=HE.out.1
  go_wp2_with fail
  go_ret
  exact ⟨_,rfl,HE.out.2 (by omega)⟩
 ·obtain ⟨ao,c,rfl,_,_⟩:=form_of hp.row
  have PMH:=Hq (show PM A lo m w (labN w lab 0) w pb ev ao n c from ⟨_,⟨hp.blk,hp.bare,hp.hlo,(labN_old hp.lt).trans hp.hlab,hp.row,fun g hg=>(labN_old (hp.row.lt g hg).2).trans (hp.lrow g hg)⟩,.inr ⟨t,rfl⟩,hnm,Er.refl _ _ _⟩)
  clear hp hnm
  have AS:=as166_166 (.pointer (some ⟨pb,0,none⟩)) w
  obtain ⟨ev',ao',n',c',HP⟩:∃ ev ao n c,Hid (PM A lo m w (labN w lab 0) w pb ev ao n c):=⟨_,_,_,_,PMH⟩
  have HN:=Hq (show NameAt w (.slice ao' n' c') (.slice none 0 0) [] from ⟨(w).heap.size,fun g hg=>by obtain ⟨_,h,_⟩:=HP.out; exact (h.row.lt g hg).2,World.ownsRow_nil _ _ _ _⟩)
  obtain ⟨X,p1,pf,OX,HX⟩:=HP.out.row
  have hn':n'≤m:=by obtain ⟨_,_,_,h,_⟩:=HP.out; exact h
  have hb2:=HP.out.base hlo
  have srcN:Src Tryz.prog 1 47 (.slice (some ⟨(w).heap.size,0,none⟩) 1 1) 1 [.int .u8 47] ((w).alloc (.cells #[.int .u8 47] 5)):=
   Src.ofSlice _ Tryz.underlying47 _ _ _ _ rfl (World.news_of_block (cs:=#[.int .u8 47]) (t:=5) (fr:=(0,0)) (heap_alloc_new (w) _)) (by simp [Value.oneCell'])
  clear PMH
  go_enter Tryz.func153,Tryz.ntmps153
  go_wp2_with (at_builtin; refine wpList_appS _ rfl _ _ 47 47 rfl lo 5 i5 _ 1 Tryz.underlying47 hi hz0 hz1 hz2 rfl _ _ _ rfl (OX.out.alloc _) _ _ _ rfl srcN ?c1 ?c2 ?c3 ?_)
  case c1=>simp only [maxLen]; omega
  case c2=>omega
  case c3=>simp; omega
  intro aoB cB w3 q1 q2 q3 q4
  have HP3:=Hq (HP.out.slash HN.out hlo (fun b hb=>labN_new hb) HX.out q1 q2 q3)
  have C:=Hq (uint171 lo (n'+1) cB idx aoB _ w3 (by omega) q1 HP3.out.1.base (by omega) (T.out _ HP3.out.1.er))
  clear q1 q2 q3 q4 srcN OX HX
  go_wp2_with fail
  refine C.out.mono ?_
  rintro e w4 ⟨aoC,mC,cC,zs,rfl,hown4,hm4,hgb4,hrel4⟩
  have HE:=Hq (HP3.out.1.ended (M:=m+21) (Array.getElem?_eq_some_iff.1 HP3.out.1.blk).1 hown4 hgb4 hrel4)
  clear hown4 hgb4 hrel4
  obtain ⟨k1,k2⟩:=HE.out.1
  go_wp2_with fail
  go_ret
  exact ⟨_,rfl,HE.out.2 (by omega)⟩
end Go.Proofs.YtknaalohaagcdaaGreatDoor.Own
