import Derived.Test.YtknaalohaagcdaaGreatDoorG01
import Derived.Test.YtknaalohaagcdaaGreatDoorG22
import Derived.Test.YtknaalohaagcdaaGreatDoorG43
import Derived.Test.YtknaalohaagcdaaGreatDoorG44
import Derived.Test.YtknaalohaagcdaaGreatDoorG45
set_option maxHeartbeats 400000000
set_option maxRecDepth 100000
namespace Go.Proofs.YtknaalohaagcdaaGreatDoor.Own
open Go.RowKit JG
theorem info76:(Tryz.prog.info? 76).map (fun i=>(i.zero,i.size,i.bytes))=some (some .nilIface,1,16):=by kernel_rfl
def optL(v y n:Int):List Int:=if v=1 then [y] else if v=2 then [n] else []
structure OL(w:World)(base n c:Nat)(ao:Option Addr)(vs:List Value)(fs:List Int):Prop where
 own:w.ownsRow base 76 1 (.slice ao n c) n vs
 opts:OptsF vs fs
theorem OL.put{w w2:World}{base n c c2:Nat}{ao ao2:Option Addr}{vs:List Value}{fs:List Int}{v:Value}{y:Int}(h:OL w base n c ao vs fs)(hv:OptF v y)(h2:w2.ownsRow base 76 1 (.slice ao2 (n+1) c2) (n+1) (vs++[v])):OL w2 base (n+1) c2 ao2 (vs++[v]) (fs++[y]):=⟨h2,h.opts.snoc hv⟩
def AddP(base n c:Nat)(ao:Option Addr)(fs:List Int)(w:World)(fs':List Int)(e:Ending)(w':World):Prop:=∃ ao' n' c' vs',e=.returned (.slice ao' n' c')∧n'≤n+1∧OL w' base n' c' ao' vs' (fs++fs')∧w.grownBy w' (Value.slice ao n c).ownBlock
theorem add30_give(f:FuncId)(y x:Int)(b:Bool)(hx:(x=1∧b=true)∨(x=2∧b=false))(hy:y∈flagL)(base n c:Nat)(ao:Option Addr)(vs:List Value)(fs:List Int)(w:World)(hn:n≤100)(h:OL w base n c ao vs fs)(hb:base≤w.heap.size)
  (hf:∀ w,Calls Tryz.prog f #[.bool b] w fun e w'=>e=.returned (.iface 115 (.int .u64 y))∧w=w') (eg:∀ args w,(callFunc f args).run Tryz.prog w=.ok (.enter f args) w):
  Calls Tryz.prog 30 #[.slice ao n c,.int .i64 x,.func (.func f) #[] #[]] w (AddP base n c ao fs w [y]):=by
 obtain ⟨i76,hi,hz0,hz1,hz2⟩:=info_parts info76
 have HF:=Hq hf
 have HO:=Hq h
 have HY:=Hq (show OptF (.iface 115 (.int .u64 y)) y from .inl ⟨rfl,hy⟩)
 clear h hf hy
 have own0:=HO.out.own.alloc (.cells #[.iface 115 (.int .u64 y)] 76)
 have hbl:=heap_alloc_new w (.cells #[.iface 115 (.int .u64 y)] 76)
 have srcN:Src Tryz.prog 1 50 (.slice (some ⟨w.heap.size,0,none⟩) 1 1) 1 [.iface 115 (.int .u64 y)] (w.alloc (.cells #[.iface 115 (.int .u64 y)] 76)):=Src.ofSlice _ Tryz.underlying50 _ _ _ _ rfl (World.news_of_block hbl) (by simp [Value.oneCell'])
 have HS:=Hq srcN
 have HOW:=Hq own0
 have HG:=Hq (show w.grownBy (w.alloc (.cells #[.iface 115 (.int .u64 y)] 76)) (Value.slice ao n c).ownBlock from World.grownBy_alloc w _ _)
 have HB:=Hq (show base≤(w.alloc (.cells #[.iface 115 (.int .u64 y)] 76)).heap.size from Nat.le_trans hb HG.out.size)
 clear own0 hbl srcN
 rcases hx with ⟨rfl,rfl⟩|⟨rfl,rfl⟩
 all_goals
  go_enter Tryz.func30,Tryz.ntmps30
  go_wp2_with fail
  refine (HF.out _).mono ?_
  rintro e w' ⟨rfl,rfl⟩
  go_wp2_with (at_builtin; refine wpList_appS _ rfl _ _ 50 50 rfl base 76 i76 _ 16 Tryz.underlying50 hi hz0 hz1 hz2 rfl _ _ _ rfl HOW.out _ 1 [.iface 115 (.int .u64 y)] rfl HS.out ?d1 ?d2 HB.out ?_)
  case d1=>simp only [maxLen]; omega
  case d2=>omega
  intro aoB cB w5 q1 q2 q3 q4
  have R:=Hq (And.intro q1 q2)
  clear q1 q2 q3 q4
  go_wp2_with fail
  go_ret
  exact ⟨_,_,_,_,rfl,Nat.le_refl _,HO.out.put HY.out R.out.1,HG.out.trans R.out.2⟩
theorem add30_keep(f:FuncId)(x:Int)(hx:¬ x=1∧¬ x=2)(base n c:Nat)(ao:Option Addr)(vs:List Value)(fs:List Int)(w:World)(h:OL w base n c ao vs fs):Calls Tryz.prog 30 #[.slice ao n c,.int .i64 x,.func (.func f) #[] #[]] w (AddP base n c ao fs w []):=by
 have HO:=Hq h
 have e1:(x==1)=false:=by simpa using hx.1
 have e2:(x==2)=false:=by simpa using hx.2
 clear h hx
 go_enter Tryz.func30,Tryz.ntmps30
 go_wp2_with fail
 go_ret
 exact ⟨_,_,_,vs,rfl,Nat.le_succ _,by rw [List.append_nil]; exact HO.out,World.grownBy.refl _ _⟩
theorem add30(f:FuncId)(y n0 x:Int)(hy:y∈flagL)(hn0:n0∈flagL)(base n c:Nat)(ao:Option Addr)(vs:List Value)(fs:List Int)(w:World)(hn:n≤100)(h:OL w base n c ao vs fs)(hb:base≤w.heap.size)
  (hf:∀ b w,Calls Tryz.prog f #[.bool b] w fun e w'=>e=.returned (.iface 115 (.int .u64 (if b then y else n0)))∧w=w') (eg:∀ args w,(callFunc f args).run Tryz.prog w=.ok (.enter f args) w):
  Calls Tryz.prog 30 #[.slice ao n c,.int .i64 x,.func (.func f) #[] #[]] w (AddP base n c ao fs w (optL x y n0)):=by
 unfold optL
 by_cases h1:x=1
 ·rw [if_pos h1]
  exact add30_give f y x true (.inl ⟨h1,rfl⟩) hy base n c ao vs fs w hn h hb (hf true) eg
 ·rw [if_neg h1]
  by_cases h2:x=2
  ·rw [if_pos h2]
   exact add30_give f n0 x false (.inr ⟨h2,rfl⟩) hn0 base n c ao vs fs w hn h hb (hf false) eg
  ·rw [if_neg h2]
   exact add30_keep f x ⟨h1,h2⟩ base n c ao vs fs w h
structure LSt(w0:World)(bx:Array Value)(n c:Nat)(ao:Option Addr)(vs:List Value)(fs:List Int)(wr:World):Prop where
 ol:OL wr (w0.heap.size+1) n c ao vs fs
 blk:wr.heap[w0.heap.size]? = some (.cells bx 23 (0,0))
 gr:w0.grownBy wr none
theorem LSt.next{w0 wr w1:World}{bx:Array Value}{n n' c c':Nat}{ao ao':Option Addr}{vs vs':List Value}{fs fs':List Int}(h:LSt w0 bx n c ao vs fs wr)(ho:OL w1 (w0.heap.size+1) n' c' ao' vs' fs')(hg:wr.grownBy w1 (Value.slice ao n c).ownBlock):LSt w0 bx n' c' ao' vs' fs' w1:=by
 have hb:=(Array.getElem?_eq_some_iff.1 h.blk).1
 refine ⟨ho,(hg.block _ hb (fun e=>by have:=(h.ol.own.lt _ e.symm).1; omega)).trans h.blk,hg.os.trans h.gr.os,hg.tape.trans h.gr.tape,hg.output.trans h.gr.output,Nat.le_trans h.gr.size hg.size,fun i hi hx=>(hg.block i (by omega) (fun e=>by have:=(h.ol.own.lt _ e.symm).1; omega)).trans (h.gr.block i hi hx)⟩
theorem LSt.base{w0 wr:World}{bx:Array Value}{n c:Nat}{ao:Option Addr}{vs:List Value}{fs:List Int}(h:LSt w0 bx n c ao vs fs wr):w0.heap.size+1≤wr.heap.size:=(Array.getElem?_eq_some_iff.1 h.blk).1
def ListP(du iv:Int)(w:World)(e:Ending)(w':World):Prop:=∃ ao n c vs rest,e=.returned (.slice ao n c)∧n≤13∧OL w' (w.heap.size+1) n c ao vs (optL du 3 2++(optL iv 5 4++rest))∧(∀ f∈rest,f∈flagL∧¬ f∈[2,3,4,5])∧w.grownBy w' none
theorem OL.nil{w:World}{base g:Nat}(h:w.heap[g]? = some (.cells #[] 76 (0,0)))(hb:base≤g):OL w base 0 0 (some ⟨g,0,none⟩) [] []:=⟨⟨rfl,.inr ⟨g,0,#[],rfl,hb,h,Nat.le_refl _,by simp [maxLen],rfl,rfl⟩⟩,.nil⟩
theorem LSt.gb{w0 wr w1:World}{bx:Array Value}{n c:Nat}{ao:Option Addr}{vs:List Value}{fs:List Int}(h:LSt w0 bx n c ao vs fs wr)(hg:wr.grownBy w1 none):LSt w0 bx n c ao vs fs w1:=
 ⟨⟨own_block h.ol.own (fun q hq=>hg.block q (h.ol.own.lt q hq).2 (by simp)),h.ol.opts⟩,(hg.block _ (Array.getElem?_eq_some_iff.1 h.blk).1 (by simp)).trans h.blk,h.gr.trans hg⟩
theorem LSt.app{w0 wr w1:World}{bx:Array Value}{n c cB:Nat}{ao aoB:Option Addr}{vs:List Value}{fs:List Int}{v:Value}{y:Int}(h:LSt w0 bx n c ao vs fs wr)(hv:OptF v y)(ho:w1.ownsRow (w0.heap.size+1) 76 1 (.slice aoB (n+1) cB) (n+1) (vs++[v]))(hg:wr.grownBy w1 (Value.slice ao n c).ownBlock):LSt w0 bx (n+1) cB aoB (vs++[v]) (fs++[y]) w1:=h.next (h.ol.put hv ho) hg
theorem rest_ok{x y n:Int}(hy:y∈flagL∧¬ y∈[2,3,4,5])(hn:n∈flagL∧¬ n∈[2,3,4,5]):∀ f∈optL x y n,f∈flagL∧¬ f∈[2,3,4,5]:=by
 intro f hf
 unfold optL at hf
 split at hf
 ·obtain rfl:f=y:=by simpa using hf
  exact hy
 ·split at hf
  ·obtain rfl:f=n:=by simpa using hf
   exact hn
  ·cases hf
def Rst(l:List Int):Prop:=∀ f∈l,f∈flagL∧¬ f∈[2,3,4,5]
theorem Rst.app{a b:List Int}(ha:Rst a)(hb:Rst b):Rst (a++b):=fun f hf=>(List.mem_append.1 hf).elim (ha f) (hb f)
theorem Rst.nil:Rst []:=fun f hf=>by cases hf
theorem Rst.one{y:Int}(hy:y∈flagL∧¬ y∈[2,3,4,5]):Rst [y]:=fun f hf=>by
 obtain rfl:f=y:=by simpa using hf
 exact hy
theorem list_fin{du iv:Int}{w0 wr:World}{bx:Array Value}{n c:Nat}{ao:Option Addr}{vs:List Value}{fs r:List Int}(h:LSt w0 bx n c ao vs fs wr)(hn:n≤13)(hf:fs=optL du 3 2++(optL iv 5 4++r))(hr:Rst r):ListP du iv w0 (.returned (.slice ao n c)) wr:=
 ⟨ao,n,c,vs,r,rfl,hn,by rw [← hf]; exact h.ol,hr,h.gr⟩
theorem list21(du iv fl it ht js ml pr ro co cm:Int)(ind prx:Bool)(sI sP:ByteArray)(hI:Blk sI)(hP:Blk sP)(w:World):Calls Tryz.prog 21 #[.agg #[.int .i64 du,.int .i64 iv,.int .i64 fl,.int .i64 it,.int .i64 ht,.int .i64 js,.int .i64 ml,.int .i64 pr,.int .i64 ro,.int .i64 co,.int .i64 cm,.bool ind,.string sI,.bool prx,.string sP]] w (ListP du iv w):=by
 obtain ⟨i76,hi,hz0,hz1,hz2⟩:=info_parts info76
 have HL0:=Hq (show LSt w #[.int .i64 du,.int .i64 iv,.int .i64 fl,.int .i64 it,.int .i64 ht,.int .i64 js,.int .i64 ml,.int .i64 pr,.int .i64 ro,.int .i64 co,.int .i64 cm,.bool ind,.string sI,.bool prx,.string sP] 0 0 (some ⟨w.heap.size+1,0,none⟩) [] [] ((w.alloc (.cells #[.int .i64 du,.int .i64 iv,.int .i64 fl,.int .i64 it,.int .i64 ht,.int .i64 js,.int .i64 ml,.int .i64 pr,.int .i64 ro,.int .i64 co,.int .i64 cm,.bool ind,.string sI,.bool prx,.string sP] 23)).alloc (.cells #[] 76)) from
  ⟨OL.nil (by have:=heap_alloc_new (w.alloc (.cells #[.int .i64 du,.int .i64 iv,.int .i64 fl,.int .i64 it,.int .i64 ht,.int .i64 js,.int .i64 ml,.int .i64 pr,.int .i64 ro,.int .i64 co,.int .i64 cm,.bool ind,.string sI,.bool prx,.string sP] 23)) (.cells #[] 76); simpa using this) (Nat.le_refl _),(heap_alloc_old _ _ (by simp)).trans (heap_alloc_new w _),(World.grownBy_alloc w _ none).trans (World.grownBy_alloc _ _ none)⟩)
 have TI:=Hq (fun w=>indent42 sI hI w)
 have TP:=Hq (fun w=>prefix43 sP hP w)
 have A0:=Hq (add30 31 3 2 du (by decide) (by decide) _ _ _ _ _ _ _ (by decide) HL0.out.ol HL0.out.base opt31 (fun _ _=>by kernel_rfl))
 clear hI hP
 go_enter Tryz.func21,Tryz.ntmps21
 go_wp2_with fail
 refine A0.out.mono ?_
 rintro e w1 ⟨a1,n1,c1,vs1,rfl,hn1,ho1,hg1⟩
 have HL1:=Hq (HL0.out.next ho1 hg1)
 clear ho1 hg1 A0 HL0
 have k1:w1.cell? ⟨w.heap.size,1,none⟩=some (.int .i64 iv):=by rw [cell_of_row _ _ _ _ _ (0,0) HL1.out.blk]; rfl
 have A1:=Hq (add30 32 5 4 iv (by decide) (by decide) _ _ _ _ _ _ _ (by omega) HL1.out.ol HL1.out.base opt32 (fun _ _=>by kernel_rfl))
 go_wp2_with fail
 refine A1.out.mono ?_
 rintro e w2 ⟨a2,n2,c2,vs2,rfl,hn2,ho2,hg2⟩
 have HL2:=Hq (HL1.out.next ho2 hg2)
 clear ho2 hg2 A1 HL1 k1
 have k2:w2.cell? ⟨w.heap.size,2,none⟩=some (.int .i64 fl):=by rw [cell_of_row _ _ _ _ _ (0,0) HL2.out.blk]; rfl
 have A2:=Hq (add30 33 129 128 fl (by decide) (by decide) _ _ _ _ _ _ _ (by omega) HL2.out.ol HL2.out.base opt33 (fun _ _=>by kernel_rfl))
 go_wp2_with fail
 refine A2.out.mono ?_
 rintro e w3 ⟨a3,n3,c3,vs3,rfl,hn3,ho3,hg3⟩
 have HL3:=Hq (HL2.out.next ho3 hg3)
 clear ho3 hg3 A2 HL2 k2
 have k3:w3.cell? ⟨w.heap.size,3,none⟩=some (.int .i64 it):=by rw [cell_of_row _ _ _ _ _ (0,0) HL3.out.blk]; rfl
 have A3:=Hq (add30 34 65 64 it (by decide) (by decide) _ _ _ _ _ _ _ (by omega) HL3.out.ol HL3.out.base opt34 (fun _ _=>by kernel_rfl))
 go_wp2_with fail
 refine A3.out.mono ?_
 rintro e w4 ⟨a4,n4,c4,vs4,rfl,hn4,ho4,hg4⟩
 have HL4:=Hq (HL3.out.next ho4 hg4)
 clear ho4 hg4 A3 HL3 k3
 have k4:w4.cell? ⟨w.heap.size,4,none⟩=some (.int .i64 ht):=by rw [cell_of_row _ _ _ _ _ (0,0) HL4.out.blk]; rfl
 have A4:=Hq (add30 35 513 512 ht (by decide) (by decide) _ _ _ _ _ _ _ (by omega) HL4.out.ol HL4.out.base opt35 (fun _ _=>by kernel_rfl))
 go_wp2_with fail
 refine A4.out.mono ?_
 rintro e w5 ⟨a5,n5,c5,vs5,rfl,hn5,ho5,hg5⟩
 have HL5:=Hq (HL4.out.next ho5 hg5)
 clear ho5 hg5 A4 HL4 k4
 have k5:w5.cell? ⟨w.heap.size,5,none⟩=some (.int .i64 js):=by rw [cell_of_row _ _ _ _ _ (0,0) HL5.out.blk]; rfl
 have A5:=Hq (add30 36 1025 1024 js (by decide) (by decide) _ _ _ _ _ _ _ (by omega) HL5.out.ol HL5.out.base opt36 (fun _ _=>by kernel_rfl))
 go_wp2_with fail
 refine A5.out.mono ?_
 rintro e w6 ⟨a6,n6,c6,vs6,rfl,hn6,ho6,hg6⟩
 have HL6:=Hq (HL5.out.next ho6 hg6)
 clear ho6 hg6 A5 HL5 k5
 have k6:w6.cell? ⟨w.heap.size,6,none⟩=some (.int .i64 ml):=by rw [cell_of_row _ _ _ _ _ (0,0) HL6.out.blk]; rfl
 have A6:=Hq (add30 37 2049 2048 ml (by decide) (by decide) _ _ _ _ _ _ _ (by omega) HL6.out.ol HL6.out.base opt37 (fun _ _=>by kernel_rfl))
 go_wp2_with fail
 refine A6.out.mono ?_
 rintro e w7 ⟨a7,n7,c7,vs7,rfl,hn7,ho7,hg7⟩
 have HL7:=Hq (HL6.out.next ho7 hg7)
 clear ho7 hg7 A6 HL6 k6
 have k7:w7.cell? ⟨w.heap.size,7,none⟩=some (.int .i64 pr):=by rw [cell_of_row _ _ _ _ _ (0,0) HL7.out.blk]; rfl
 have A7:=Hq (add30 38 33 32 pr (by decide) (by decide) _ _ _ _ _ _ _ (by omega) HL7.out.ol HL7.out.base opt38 (fun _ _=>by kernel_rfl))
 go_wp2_with fail
 refine A7.out.mono ?_
 rintro e w8 ⟨a8,n8,c8,vs8,rfl,hn8,ho8,hg8⟩
 have HL8:=Hq (HL7.out.next ho8 hg8)
 clear ho8 hg8 A7 HL7 k7
 have k8:w8.cell? ⟨w.heap.size,8,none⟩=some (.int .i64 ro):=by rw [cell_of_row _ _ _ _ _ (0,0) HL8.out.blk]; rfl
 have A8:=Hq (add30 39 257 256 ro (by decide) (by decide) _ _ _ _ _ _ _ (by omega) HL8.out.ol HL8.out.base opt39 (fun _ _=>by kernel_rfl))
 go_wp2_with fail
 refine A8.out.mono ?_
 rintro e w9 ⟨a9,n9,c9,vs9,rfl,hn9,ho9,hg9⟩
 have HL9:=Hq (HL8.out.next ho9 hg9)
 clear ho9 hg9 A8 HL8 k8
 have k9:w9.cell? ⟨w.heap.size,9,none⟩=some (.int .i64 co):=by rw [cell_of_row _ _ _ _ _ (0,0) HL9.out.blk]; rfl
 have A9:=Hq (add30 40 4097 4096 co (by decide) (by decide) _ _ _ _ _ _ _ (by omega) HL9.out.ol HL9.out.base opt40 (fun _ _=>by kernel_rfl))
 go_wp2_with fail
 refine A9.out.mono ?_
 rintro e w10 ⟨a10,n10,c10,vs10,rfl,hn10,ho10,hg10⟩
 have HL10:=Hq (HL9.out.next ho10 hg10)
 clear ho10 hg10 A9 HL9 k9
 have k10:w10.cell? ⟨w.heap.size,10,none⟩=some (.int .i64 cm):=by rw [cell_of_row _ _ _ _ _ (0,0) HL10.out.blk]; rfl
 have A10:=Hq (add30 41 8193 8192 cm (by decide) (by decide) _ _ _ _ _ _ _ (by omega) HL10.out.ol HL10.out.base opt41 (fun _ _=>by kernel_rfl))
 go_wp2_with fail
 refine A10.out.mono ?_
 rintro e w11 ⟨a11,n11,c11,vs11,rfl,hn11,ho11,hg11⟩
 have HL11:=Hq (HL10.out.next ho11 hg11)
 clear ho11 hg11 A10 HL10 k10
 have q11:n11≤11:=by omega
 clear hn1 hn2 hn3 hn4 hn5 hn6 hn7 hn8 hn9 hn10 hn11
 have HR:=Hq (show Rst (optL fl 129 128++(optL it 65 64++(optL ht 513 512++(optL js 1025 1024++(optL ml 2049 2048++(optL pr 33 32++(optL ro 257 256++(optL co 4097 4096++optL cm 8193 8192)))))))) from Rst.app (rest_ok (by decide) (by decide)) (Rst.app (rest_ok (by decide) (by decide)) (Rst.app (rest_ok (by decide) (by decide)) (Rst.app (rest_ok (by decide) (by decide)) (Rst.app (rest_ok (by decide) (by decide)) (Rst.app (rest_ok (by decide) (by decide)) (Rst.app (rest_ok (by decide) (by decide)) (Rst.app (rest_ok (by decide) (by decide)) ((rest_ok (by decide) (by decide)))))))))))
 obtain ⟨r,HRR⟩:∃ r,Hid (r=(optL fl 129 128++(optL it 65 64++(optL ht 513 512++(optL js 1025 1024++(optL ml 2049 2048++(optL pr 33 32++(optL ro 257 256++(optL co 4097 4096++optL cm 8193 8192))))))))):=⟨_,Hq rfl⟩
 rw [← HRR.out] at HR
 have HL:=Hq (show LSt w #[.int .i64 du,.int .i64 iv,.int .i64 fl,.int .i64 it,.int .i64 ht,.int .i64 js,.int .i64 ml,.int .i64 pr,.int .i64 ro,.int .i64 co,.int .i64 cm,.bool ind,.string sI,.bool prx,.string sP] n11 c11 a11 vs11 (optL du 3 2++(optL iv 5 4++r)) w11 by
  have h:=HL11.out
  simp only [List.append_assoc,List.nil_append] at h
  rw [HRR.out]
  exact h)
 clear HL11 HRR
 obtain ⟨fs,HFS⟩:∃ fs,Hid (fs=optL du 3 2++(optL iv 5 4++r)):=⟨_,Hq rfl⟩
 rw [← HFS.out] at HL
 have kI:w11.cell? ⟨w.heap.size,11,none⟩=some (.bool ind):=by rw [cell_of_row _ _ _ _ _ (0,0) HL.out.blk]; rfl
 cases ind with
 |false=>
  have kP:w11.cell? ⟨w.heap.size,13,none⟩=some (.bool prx):=by rw [cell_of_row _ _ _ _ _ (0,0) HL.out.blk]; rfl
  cases prx with
  |false=>
   go_wp2_with fail
   go_ret
   exact list_fin HL.out (by omega) HFS.out HR.out
  |true=>
   have kS:w11.cell? ⟨w.heap.size,14,none⟩=some (.string sP):=by rw [cell_of_row _ _ _ _ _ (0,0) HL.out.blk]; rfl
   go_wp2_with fail
   refine (TP.out _).mono ?_
   rintro e ya ⟨rfl,hgy⟩
   have HBy:=Hq (HL.out.gb (hgy.trans (World.grownBy_alloc ya (.cells #[.iface 118 (.string sP)] 76) none)))
   have HVy:=Hq (show OptF (.iface 118 (.string sP)) 34817 from .inr (.inr ⟨_,rfl,rfl⟩))
   have HSRy:=Hq (show Src Tryz.prog 1 50 (.slice (some ⟨ya.heap.size,0,none⟩) 1 1) 1 [.iface 118 (.string sP)] (ya.alloc (.cells #[.iface 118 (.string sP)] 76)) from Src.ofSlice _ Tryz.underlying50 _ _ _ _ rfl (World.news_of_block (heap_alloc_new ya _)) (by simp [Value.oneCell']))
   clear hgy kS
   go_wp2_with (at_builtin; refine wpList_appS _ rfl _ _ 50 50 rfl (w.heap.size+1) 76 i76 _ 16 Tryz.underlying50 hi hz0 hz1 hz2 rfl _ _ _ rfl HBy.out.ol.own _ 1 [.iface 118 (.string sP)] rfl HSRy.out ?d1 ?d2 HBy.out.base ?_)
   case d1=>simp only [maxLen]; omega
   case d2=>omega
   intro aoy cy y q1 q2 q3 q4
   have HNy:=Hq (HBy.out.app HVy.out (by first|exact q1|(rw [List.append_assoc]; exact q1)) q2)
   clear q1 q2 q3 q4 HSRy HBy
   go_wp2_with fail
   go_ret
   exact list_fin HNy.out (by omega) (by rw [HFS.out,List.append_assoc,List.append_assoc]) (Rst.app HR.out (Rst.one (by decide)))
 |true=>
  have kS:w11.cell? ⟨w.heap.size,12,none⟩=some (.string sI):=by rw [cell_of_row _ _ _ _ _ (0,0) HL.out.blk]; rfl
  go_wp2_with fail
  refine (TI.out _).mono ?_
  rintro e xa ⟨rfl,hgx⟩
  have HBx:=Hq (HL.out.gb (hgx.trans (World.grownBy_alloc xa (.cells #[.iface 116 (.string sI)] 76) none)))
  have HVx:=Hq (show OptF (.iface 116 (.string sI)) 18433 from .inr (.inl ⟨_,rfl,rfl⟩))
  have HSRx:=Hq (show Src Tryz.prog 1 50 (.slice (some ⟨xa.heap.size,0,none⟩) 1 1) 1 [.iface 116 (.string sI)] (xa.alloc (.cells #[.iface 116 (.string sI)] 76)) from Src.ofSlice _ Tryz.underlying50 _ _ _ _ rfl (World.news_of_block (heap_alloc_new xa _)) (by simp [Value.oneCell']))
  clear hgx kS
  go_wp2_with (at_builtin; refine wpList_appS _ rfl _ _ 50 50 rfl (w.heap.size+1) 76 i76 _ 16 Tryz.underlying50 hi hz0 hz1 hz2 rfl _ _ _ rfl HBx.out.ol.own _ 1 [.iface 116 (.string sI)] rfl HSRx.out ?d1 ?d2 HBx.out.base ?_)
  case d1=>simp only [maxLen]; omega
  case d2=>omega
  intro aox cx x q1 q2 q3 q4
  have HNx:=Hq (HBx.out.app HVx.out (by first|exact q1|(rw [List.append_assoc]; exact q1)) q2)
  clear q1 q2 q3 q4 HSRx HBx
  have kP:x.cell? ⟨w.heap.size,13,none⟩=some (.bool prx):=by rw [cell_of_row _ _ _ _ _ (0,0) HNx.out.blk]; rfl
  cases prx with
  |false=>
   go_wp2_with fail
   go_ret
   exact list_fin HNx.out (by omega) (by rw [HFS.out,List.append_assoc,List.append_assoc]) (Rst.app HR.out (Rst.one (by decide)))
  |true=>
   have kS:x.cell? ⟨w.heap.size,14,none⟩=some (.string sP):=by rw [cell_of_row _ _ _ _ _ (0,0) HNx.out.blk]; rfl
   go_wp2_with fail
   refine (TP.out _).mono ?_
   rintro e ya ⟨rfl,hgy⟩
   have HBy:=Hq (HNx.out.gb (hgy.trans (World.grownBy_alloc ya (.cells #[.iface 118 (.string sP)] 76) none)))
   have HVy:=Hq (show OptF (.iface 118 (.string sP)) 34817 from .inr (.inr ⟨_,rfl,rfl⟩))
   have HSRy:=Hq (show Src Tryz.prog 1 50 (.slice (some ⟨ya.heap.size,0,none⟩) 1 1) 1 [.iface 118 (.string sP)] (ya.alloc (.cells #[.iface 118 (.string sP)] 76)) from Src.ofSlice _ Tryz.underlying50 _ _ _ _ rfl (World.news_of_block (heap_alloc_new ya _)) (by simp [Value.oneCell']))
   clear hgy kS
   go_wp2_with (at_builtin; refine wpList_appS _ rfl _ _ 50 50 rfl (w.heap.size+1) 76 i76 _ 16 Tryz.underlying50 hi hz0 hz1 hz2 rfl _ _ _ rfl HBy.out.ol.own _ 1 [.iface 118 (.string sP)] rfl HSRy.out ?d1 ?d2 HBy.out.base ?_)
   case d1=>simp only [maxLen]; omega
   case d2=>omega
   intro aoy cy y q1 q2 q3 q4
   have HNy:=Hq (HBy.out.app HVy.out (by first|exact q1|(rw [List.append_assoc]; exact q1)) q2)
   clear q1 q2 q3 q4 HSRy HBy
   go_wp2_with fail
   go_ret
   exact list_fin HNy.out (by omega) (by rw [HFS.out,List.append_assoc,List.append_assoc,List.append_assoc,List.append_assoc]) (Rst.app (Rst.app HR.out (Rst.one (by decide))) (Rst.one (by decide)))
theorem fold_from:∀ (fs:List Int) (n:Nat),n<65536→Rst fs→∃ m:Nat,m<65536∧fs.foldl pV n=m∧(0<m &&& 2↔0<n &&& 2)∧(0<m &&& 4↔0<n &&& 4)
 |[],n,hn,_=>⟨n,hn,rfl,Iff.rfl,Iff.rfl⟩
 |f::fs,n,hn,h=>by
  obtain ⟨hf,hx⟩:=h f (by simp)
  obtain ⟨m,hm,e,h2,h4⟩:=pV_fits hn hf
  obtain ⟨m',hm',e',h2',h4'⟩:=fold_from fs m hm (fun g hg=>h g (by simp [hg]))
  have n2:¬ f=2:=fun e=>hx (by simp [e])
  have n3:¬ f=3:=fun e=>hx (by simp [e])
  have n4:¬ f=4:=fun e=>hx (by simp [e])
  have n5:¬ f=5:=fun e=>hx (by simp [e])
  refine ⟨m',hm',by rw [List.foldl_cons,e]; exact e',?_,?_⟩
  ·rw [h2',h2]; simp [n2,n3]
  ·rw [h4',h4]; simp [n4,n5]
theorem fold_opt(x y n0:Int)(hy:y∈flagL)(hn0:n0∈flagL)(n:Nat)(hn:n<65536):∃ m:Nat,m<65536∧(optL x y n0).foldl pV n=m∧(0<m &&& 2↔if x=1 then (y=3∨(¬ y=2∧0<n &&& 2)) else if x=2 then (n0=3∨(¬ n0=2∧0<n &&& 2)) else 0<n &&& 2)∧(0<m &&& 4↔if x=1 then (y=5∨(¬ y=4∧0<n &&& 4)) else if x=2 then (n0=5∨(¬ n0=4∧0<n &&& 4)) else 0<n &&& 4):=by
 unfold optL
 by_cases h1:x=1
 ·simp only [if_pos h1]
  obtain ⟨m,hm,e,h2,h4⟩:=pV_fits hn hy
  exact ⟨m,hm,e,h2,h4⟩
 ·simp only [if_neg h1]
  by_cases h2:x=2
  ·simp only [if_pos h2]
   obtain ⟨m,hm,e,h2,h4⟩:=pV_fits hn hn0
   exact ⟨m,hm,e,h2,h4⟩
  ·simp only [if_neg h2]
   exact ⟨n,hn,rfl,Iff.rfl,Iff.rfl⟩
theorem fold_facts(du iv:Int){rest:List Int}(h:Rst rest):∃ m:Nat,m<65536∧foldV (optL du 3 2++(optL iv 5 4++rest))=m∧(0<m &&& 2↔du=1)∧(0<m &&& 4↔iv=1):=by
 obtain ⟨a,ha,ea,a2,a4⟩:=fold_opt du 3 2 (by decide) (by decide) 0 (by decide)
 obtain ⟨b,hb,eb,b2,b4⟩:=fold_opt iv 5 4 (by decide) (by decide) a ha
 obtain ⟨m,hm,em,m2,m4⟩:=fold_from rest b hb h
 have a2':0<a &&& 2↔du=1:=by rw [a2]; by_cases h1:du=1<;>simp [h1]
 have a4':¬ 0<a &&& 4:=by rw [a4]; by_cases h1:du=1<;>by_cases h2:du=2<;>simp [h1,h2]
 refine ⟨m,hm,?_,?_,?_⟩
 ·unfold foldV
  rw [List.foldl_append,List.foldl_append,show (optL du 3 2).foldl pV 0=a from ea,eb,em]
 ·rw [m2,b2,← a2']; by_cases h1:iv=1<;>by_cases h2:iv=2<;>simp [h1,h2]
 ·rw [m4,b4]; by_cases h1:iv=1<;>by_cases h2:iv=2<;>simp [h1,h2]<;>omega
theorem flag_facts(du iv:Int){rest:List Int}(h:Rst rest)(v:Int)(hv:v=foldV (optL du 3 2++(optL iv 5 4++rest))):decide (0<bits .and .u64 v 2)=decide (du=1)∧decide (0<bits .and .u64 v 4)=decide (iv=1)∧bits .and .u64 v 549755813888=0:=by
 obtain ⟨m,hm,e,h2,h4⟩:=fold_facts du iv h
 rw [hv,e]
 refine ⟨?_,?_,low_and hm⟩
 ·rw [show (2:Int)=((2:Nat):Int) from rfl,and_nat hm (by decide)]
  exact decide_eq_decide.2 (by rw [← h2]; omega)
 ·rw [show (4:Int)=((4:Nat):Int) from rfl,and_nat hm (by decide)]
  exact decide_eq_decide.2 (by rw [← h4]; omega)
theorem rt50(A:List Addr)(b0 base d B cap:Nat)(s:ByteArray)(vals l:Int)(aU aI aE aM:Addr)(p0:Nat)(hp0:p0≤s.size)(ds:Array Value)(ao:Option Addr)(c:Nat)(nsv:Value)(lab:Nat→Nat)(w0 w:World)(K:KC A s cap vals aU aI aE aM)(h:RQ A b0 base d B cap s vals l aU aI aE aM p0 ds ao c nsv lab w0 w)(hbg:base<w.heap.size)(hzq:∃ q,q+1=w.heap.size∧BZ q w)
  (hog:∀ q,(Value.slice ao 0 c).ownBlock=some q→q+1<w.heap.size) (hlg:∀ q,q=w.heap.size∨q+1=w.heap.size→lab q=0):
  Calls Tryz.prog 50 #[.pointer (some ⟨d,0,none⟩)] w (RtP b0 d w.heap.size (fun v=>if p0+ws ((bytes s).drop p0)=s.size then v=.iface 260 (.pointer (some aE)) else NoEnd v) w0):=by
 by_cases hz:p0+ws ((bytes s).drop p0)=s.size
 ·simp only [if_pos hz]
  exact rt_end A b0 base d B cap s vals l aU aI aE aM p0 hp0 ds ao c nsv lab w0 w K h hbg hzq hz
 ·simp only [if_neg hz]
  have hlt:p0+ws ((bytes s).drop p0)<s.size:=by have:=ws_fit hp0; omega
  obtain ⟨x,hx⟩:∃ x:Int,(s[p0+ws ((bytes s).drop p0)].toNat:Int)=x:=⟨_,rfl⟩
  by_cases h1:x=58∨x=44
  ·exact rt_delim A b0 base d B cap s vals l aU aI aE aM p0 hp0 ds ao c nsv lab w0 w K h hbg hzq hlt x hx h1
  have h1':=not_or.1 h1
  have nk:normK x=110∨normK x=102∨normK x=116∨normK x=34∨normK x=123∨normK x=125∨normK x=91∨normK x=93∨normK x=48∨normK x=0:=by
   unfold normK
   split
   ·omega
   ·split<;>simp
  rcases nk with k|k|k|k|k|k|k|k|k|k
  ·cases hw:wordAt [110,117,108,108] ((bytes s).drop (p0+ws ((bytes s).drop p0))) with
   |none=>exact rt_null_no A b0 base d B cap s vals l aU aI aE aM p0 hp0 ds ao c nsv lab w0 w K h hbg hzq hlt x hx h1' k hw
   |some j=>
    obtain rfl:j=4:=(wordAt_loc hw).1
    exact rt_null_yes A b0 base d B cap s vals l aU aI aE aM p0 hp0 ds ao c nsv lab w0 w K h hbg hzq hlt x hx h1' k hw
  ·cases hw:wordAt [102,97,108,115,101] ((bytes s).drop (p0+ws ((bytes s).drop p0))) with
   |none=>exact rt_false_no A b0 base d B cap s vals l aU aI aE aM p0 hp0 ds ao c nsv lab w0 w K h hbg hzq hlt x hx h1' k hw
   |some j=>
    obtain rfl:j=5:=(wordAt_loc hw).1
    exact rt_false_yes A b0 base d B cap s vals l aU aI aE aM p0 hp0 ds ao c nsv lab w0 w K h hbg hzq hlt x hx h1' k hw
  ·cases hw:wordAt [116,114,117,101] ((bytes s).drop (p0+ws ((bytes s).drop p0))) with
   |none=>exact rt_true_no A b0 base d B cap s vals l aU aI aE aM p0 hp0 ds ao c nsv lab w0 w K h hbg hzq hlt x hx h1' k hw
   |some j=>
    obtain rfl:j=4:=(wordAt_loc hw).1
    exact rt_true_yes A b0 base d B cap s vals l aU aI aE aM p0 hp0 ds ao c nsv lab w0 w K h hbg hzq hlt x hx h1' k hw
  ·exact rt_str A b0 base d B cap s vals l aU aI aE aM p0 hp0 ds ao c nsv lab w0 w K h hbg hzq hlt x hx h1' k
  ·exact rt_obj A b0 base d B cap s vals l aU aI aE aM p0 hp0 ds ao c nsv lab w0 w K h hbg hzq hlt x hx h1' k hog hlg
  ·exact rt_pop83 A b0 base d B cap s vals l aU aI aE aM p0 hp0 ds ao c nsv lab w0 w K h hbg hzq hlt x hx h1' k
  ·exact rt_arr A b0 base d B cap s vals l aU aI aE aM p0 hp0 ds ao c nsv lab w0 w K h hbg hzq hlt x hx h1' k hog hlg
  ·exact rt_pop85 A b0 base d B cap s vals l aU aI aE aM p0 hp0 ds ao c nsv lab w0 w K h hbg hzq hlt x hx h1' k
  ·exact rt_num A b0 base d B cap s vals l aU aI aE aM p0 hp0 ds ao c nsv lab w0 w K h hbg hzq hlt x hx h1' k
  ·exact rt_other A b0 base d B cap s vals l aU aI aE aM p0 hp0 ds ao c nsv lab w0 w K h hbg hzq hlt x hx h1' k
def RdP(b0 d:Nat)(P:Value→Prop)(w0:World)(e:Ending)(w':World):Prop:=∃ a b c v,e=.returned (.tuple #[.agg #[.pointer a,.string b,.int .u64 c],v])∧P v∧Kp b0 w0 w'∧DBk d w'
theorem rd29(A:List Addr)(b0 base d B cap:Nat)(s:ByteArray)(vals l:Int)(aU aI aE aM:Addr)(p0:Nat)(hp0:p0≤s.size)(ds:Array Value)(ao:Option Addr)(c:Nat)(nsv:Value)(lab:Nat→Nat)(w0 w:World)(K:KC A s cap vals aU aI aE aM)(h:RQ A b0 base d B cap s vals l aU aI aE aM p0 ds ao c nsv lab w0 w):
  Calls Tryz.prog 29 #[.pointer (some ⟨d,0,none⟩)] w (RdP b0 d (fun v=>if p0+ws ((bytes s).drop p0)=s.size then v=.iface 260 (.pointer (some aE)) else NoEnd v) w0):=by
 have hsz:(w.alloc (.cells #[.pointer none,.string ⟨#[]⟩,.int .u64 0] 70)).heap.size=w.heap.size+1:=by simp
 have T:=rt50 A b0 base d B cap s vals l aU aI aE aM p0 hp0 ds ao c nsv (labN w lab 0) w0 (w.alloc (.cells #[.pointer none,.string ⟨#[]⟩,.int .u64 0] 70)) K (h.relab.gb0 (World.grownBy_alloc w _ none)) (by rw [hsz]; have:=h.hb; omega) ⟨w.heap.size,hsz.symm,heap_alloc_new w _⟩
  (fun q hq=>by rw [hsz]; have:=(h.own.lt q hq).2; omega) (fun q hq=>by rw [hsz] at hq; exact labN_new (by omega))
 rw [hsz] at T
 obtain ⟨P,HP⟩:∃ P:Value→Prop,Hid (P=fun v=>if p0+ws ((bytes s).drop p0)=s.size then v=.iface 260 (.pointer (some aE)) else NoEnd v):=⟨_,Hq rfl⟩
 rw [← HP.out] at T ⊢
 have HT:=Hq T
 have HBD:=Hq (show b0≤w.heap.size∧d≠w.heap.size by have h1:=h.b0b; have h2:=h.hb; have h3:=h.db; exact ⟨by omega,by omega⟩)
 clear T h K hp0 hsz
 go_enter Tryz.func29,Tryz.ntmps29
 go_wp2_with fail
 refine HT.out.mono ?_
 rintro e w1 ⟨a,b,c',v,rfl,hv,hk,hd,q,hq,hz⟩
 obtain rfl:q=w.heap.size:=by omega
 have HR:=Hq (And.intro hv (And.intro hk hd))
 have HZ:=Hq hz
 obtain ⟨g0,g1,g2,gf0,gf1,gf2⟩:=HZ.out.facts
 clear hv hk hd hz HT
 go_wp2_with fail
 have hb:(((w1.setCell ⟨w.heap.size,0,none⟩ (.pointer a)).setCell ⟨w.heap.size,1,none⟩ (.string b)).setCell ⟨w.heap.size,2,none⟩ (.int .u64 c')).heap[w.heap.size]? = some (.cells #[.pointer a,.string b,.int .u64 c'] 70 (0,0)):=heap_set_cells (heap_set_cells (heap_set_cells HZ.out))
 obtain ⟨hv,hk,dd,hdd,hdz⟩:=HR.out
 have hne:=HBD.out.2
 refine bodyPost_ret (v:=.tuple #[.agg #[.pointer a,.string b,.int .u64 c'],v]) ?_ rfl ⟨a,b,c',v,rfl,hv,((hk.trans (Kp.set HBD.out.1)).trans (Kp.set HBD.out.1)).trans (Kp.set HBD.out.1),dd,?_,hdz⟩
 ·rw [results_cell_tmp Tryz.results29]
  simp only [Array.getD_eq_getD_getElem?]
  show ((asAddr (.pointer (some ⟨w.heap.size,0,none⟩))).run Tryz.prog _).andThen _=_
  simp only [asAddr,Sem.run_pure,Result.andThen_ok,run_loadVar_row _ w.heap.size 70 70 _ (0,0) _ hb Tryz.underlying70 rfl info70]
  rfl
 ·rw [heap_set_other hne,heap_set_other hne,heap_set_other hne]
  exact hdd
theorem rv28(A:List Addr)(b0 base d B cap n:Nat)(s:ByteArray)(vals:Int)(aU aI aE aM:Addr)(lo dup:Bool)(ds:Array Value)(nsv:Value)(lab:Nat→Nat)(w0 w:World)(hV:VAllI n)(C:Cst A s cap vals aU aI lo dup)(K:KC A s cap vals aU aI aE aM)(h:RQ A b0 base d B cap s vals 0 aU aI aE aM 0 ds none 0 nsv lab w0 (w.alloc (.cells #[.int .u64 0] 112)))(hD:DS A (w.alloc (.cells #[.int .u64 0] 112)) lab base d w.heap.size B cap 0 s vals 0 (.iface 260 (.pointer (some aU))) (.iface 260 (.pointer (some aI))) ds nsv)(hF:b0≤w.heap.size)(hn:2 * s.size<n):
  Calls Tryz.prog 28 #[.pointer (some ⟨d,0,none⟩)] w (RvP A b0 base d B cap s vals aU aI aE aM (run (chkD dup) lo n .val (bytes s)).1 w0):=by
 have T:=Hq (rv49 A b0 base d B cap w.heap.size n s vals aU aI aE aM lo dup ds nsv lab w0 _ hV C K h hD hF hn)
 clear hV C K h hD hF hn
 go_enter Tryz.func28,Tryz.ntmps28
 go_wp2_with fail
 refine T.out.mono ?_
 rintro e w1 ⟨ds1,ao1,c1,nsv1,lab1,hcase⟩
 rcases hcase with ⟨j,ao',n',c',hj,rfl,hjs,hq⟩|⟨ho,t,x,rfl,hq⟩
 ·have HR:=Hq (And.intro hj (And.intro hjs hq))
  clear hj hjs hq
  go_wp2_with fail
  go_ret2
  exact ⟨ds1,ao1,c1,nsv1,lab1,.inl ⟨j,ao',n',c',HR.out.1,rfl,HR.out.2.1,HR.out.2.2⟩⟩
 ·have HR:=Hq (And.intro ho hq)
  clear ho hq
  go_wp2_with fail
  go_ret2
  exact ⟨ds1,ao1,c1,nsv1,lab1,.inr ⟨HR.out.1,t,x,rfl,HR.out.2⟩⟩
theorem put27d(d:Nat)(v:Value)(u:FrameMode)(w:World)(c7:w.cell? ⟨d,7,none⟩=some v)(f7:w.frozen? ⟨d,7,none⟩=false):CallsD Tryz.prog 27 #[.pointer (some ⟨d,0,none⟩)] u w fun e u' w'=>u'=u∧e=.returned (.tuple #[])∧w.grownBy w' (some d):=by
 go_enter_d Tryz.func27,Tryz.ntmps27
 go_wp2_with fail
 go_end0
 exact ⟨rfl,gb_set1⟩
theorem valid_end{b0 d:Nat}{r:Bool}{tmps:Array Value}{w0 w:World}(hk:Kp b0 w0 w)(hd:DBk d w)(hb:b0≤d)(hw:b0≤w.heap.size)(h4:tmps.getD 4 undef=.bool r):
  bodyPostD Tryz.prog Tryz.f20 (fun e w'=>e=.returned (.bool r)∧Kp b0 w0 w') Exit.ret { tmps:=tmps,defers:=[{ target:=.fn (.func 27) #[],args:=#[.pointer (some ⟨d,0,none⟩)] }] } w:=by
 obtain ⟨ds,hds,hz⟩:=hd
 obtain ⟨v,hv⟩:∃ v,ds[7]? = some v:=⟨_,Array.getElem?_eq_getElem (by omega:7<ds.size)⟩
 have c7:w.cell? ⟨d,7,none⟩=some v:=by rw [cell_of_row _ _ _ _ _ (0,0) hds]; exact hv
 have f7:w.frozen? ⟨d,7,none⟩=false:=by unfold World.frozen?; simp only [hds]; simp
 refine leaves_cons (f:=27) (args:=#[.pointer (some ⟨d,0,none⟩)]) (by simp) (by simp [go_sem]) ?_
 refine (put27d d v .returning w c7 f7).mono ?_
 rintro e u' w'' ⟨rfl,rfl,hg⟩
 exact ⟨_,results_tmp rfl _ _ _,by rw [h4],hk.trans (Kp.gb hg hw (fun b e=>by rw [← Option.some.inj e]; exact hb))⟩
theorem valid_endA{b0 d:Nat}{r:Bool}{tmps:Array Value}{o:Obj}{w0 w:World}(hk:Kp b0 w0 w)(hd:DBk d w)(hb:b0≤d)(hw:b0≤w.heap.size)(h4:tmps.getD 4 undef=.bool r):
  bodyPostD Tryz.prog Tryz.f20 (fun e w'=>e=.returned (.bool r)∧Kp b0 w0 w') Exit.ret { tmps:=tmps,defers:=[{ target:=.fn (.func 27) #[],args:=#[.pointer (some ⟨d,0,none⟩)] }] } (w.alloc o):=by
 obtain ⟨dd,h1,h2⟩:=hd
 exact valid_end (hk.trans (Kp.gb0 (World.grownBy_alloc w o none) hw)) ⟨dd,(heap_alloc_old w o (Array.getElem?_eq_some_iff.1 h1).1).trans h1,h2⟩ hb (Nat.le_trans hw (World.grownBy_alloc w o none).size) h4
end Go.Proofs.YtknaalohaagcdaaGreatDoor.Own
