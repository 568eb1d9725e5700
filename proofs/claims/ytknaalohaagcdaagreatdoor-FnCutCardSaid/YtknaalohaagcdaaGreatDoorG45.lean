import Derived.Test.YtknaalohaagcdaaGreatDoorG01
import Derived.Test.YtknaalohaagcdaaGreatDoorG19
import Derived.Test.YtknaalohaagcdaaGreatDoorG27
import Derived.Laws.BitsLemmas
import Derived.Stop.Asserts
import Derived.Laws.RangeString
import Derived.Lib.OthersKept
set_option maxHeartbeats 400000000
set_option maxRecDepth 100000
namespace Go.Proofs.YtknaalohaagcdaaGreatDoor.Own
open Go.RowKit JG
theorem opt31(b:Bool)(w:World):Calls Tryz.prog 31 #[.bool b] w fun e w'=>e=.returned (.iface 115 (.int .u64 (if b then 3 else 2)))∧w=w':=by
 cases b<;>(go_enter Tryz.func31,Tryz.ntmps31; go_wp2_with fail; go_ret; exact ⟨rfl,rfl⟩)
theorem opt32(b:Bool)(w:World):Calls Tryz.prog 32 #[.bool b] w fun e w'=>e=.returned (.iface 115 (.int .u64 (if b then 5 else 4)))∧w=w':=by
 cases b<;>(go_enter Tryz.func32,Tryz.ntmps32; go_wp2_with fail; go_ret; exact ⟨rfl,rfl⟩)
theorem opt33(b:Bool)(w:World):Calls Tryz.prog 33 #[.bool b] w fun e w'=>e=.returned (.iface 115 (.int .u64 (if b then 129 else 128)))∧w=w':=by
 cases b<;>(go_enter Tryz.func33,Tryz.ntmps33; go_wp2_with fail; go_ret; exact ⟨rfl,rfl⟩)
theorem opt34(b:Bool)(w:World):Calls Tryz.prog 34 #[.bool b] w fun e w'=>e=.returned (.iface 115 (.int .u64 (if b then 65 else 64)))∧w=w':=by
 cases b<;>(go_enter Tryz.func34,Tryz.ntmps34; go_wp2_with fail; go_ret; exact ⟨rfl,rfl⟩)
theorem opt35(b:Bool)(w:World):Calls Tryz.prog 35 #[.bool b] w fun e w'=>e=.returned (.iface 115 (.int .u64 (if b then 513 else 512)))∧w=w':=by
 cases b<;>(go_enter Tryz.func35,Tryz.ntmps35; go_wp2_with fail; go_ret; exact ⟨rfl,rfl⟩)
theorem opt36(b:Bool)(w:World):Calls Tryz.prog 36 #[.bool b] w fun e w'=>e=.returned (.iface 115 (.int .u64 (if b then 1025 else 1024)))∧w=w':=by
 cases b<;>(go_enter Tryz.func36,Tryz.ntmps36; go_wp2_with fail; go_ret; exact ⟨rfl,rfl⟩)
theorem opt37(b:Bool)(w:World):Calls Tryz.prog 37 #[.bool b] w fun e w'=>e=.returned (.iface 115 (.int .u64 (if b then 2049 else 2048)))∧w=w':=by
 cases b<;>(go_enter Tryz.func37,Tryz.ntmps37; go_wp2_with fail; go_ret; exact ⟨rfl,rfl⟩)
theorem opt38(b:Bool)(w:World):Calls Tryz.prog 38 #[.bool b] w fun e w'=>e=.returned (.iface 115 (.int .u64 (if b then 33 else 32)))∧w=w':=by
 cases b<;>(go_enter Tryz.func38,Tryz.ntmps38; go_wp2_with fail; go_ret; exact ⟨rfl,rfl⟩)
theorem opt39(b:Bool)(w:World):Calls Tryz.prog 39 #[.bool b] w fun e w'=>e=.returned (.iface 115 (.int .u64 (if b then 257 else 256)))∧w=w':=by
 cases b<;>(go_enter Tryz.func39,Tryz.ntmps39; go_wp2_with fail; go_ret; exact ⟨rfl,rfl⟩)
theorem opt40(b:Bool)(w:World):Calls Tryz.prog 40 #[.bool b] w fun e w'=>e=.returned (.iface 115 (.int .u64 (if b then 4097 else 4096)))∧w=w':=by
 cases b<;>(go_enter Tryz.func40,Tryz.ntmps40; go_wp2_with fail; go_ret; exact ⟨rfl,rfl⟩)
theorem opt41(b:Bool)(w:World):Calls Tryz.prog 41 #[.bool b] w fun e w'=>e=.returned (.iface 115 (.int .u64 (if b then 8193 else 8192)))∧w=w':=by
 cases b<;>(go_enter Tryz.func41,Tryz.ntmps41; go_wp2_with fail; go_ret; exact ⟨rfl,rfl⟩)
def pV(v f:Int):Int:=bits .or .u64 (bits .and .u64 v (bits .xor .u64 IntKind.u64.max (bits .andNot .u64 f 1))) (IntKind.u64.wrap (bits .and .u64 f 1 * bits .andNot .u64 f 1))
theorem set117(g:Nat)(p v f:Int)(cs:Array Value)(t:TypeId)(w:World)(hb:w.heap[g]? = some (.cells cs t (0,0)))(h0:cs[0]? = some (.int .u64 p))(h1:cs[1]? = some (.int .u64 v)):
  Calls Tryz.prog 117 #[.pointer (some ⟨g,0,none⟩),.int .u64 f] w fun e w'=>e=.returned (.tuple #[])∧w.grownBy w' (some g)∧∃ p':Int,w'.heap[g]? = some (.cells ((cs.setIfInBounds 0 (.int .u64 p')).setIfInBounds 1 (.int .u64 (pV v f))) t (0,0)):=by
 have c0:w.cell? ⟨g,0,none⟩=some (.int .u64 p):=by rw [cell_of_row _ _ _ _ _ (0,0) hb]; exact h0
 have c1:w.cell? ⟨g,1,none⟩=some (.int .u64 v):=by rw [cell_of_row _ _ _ _ _ (0,0) hb]; exact h1
 have fz:∀ o,w.frozen? ⟨g,o,none⟩=false:=fun o=>by unfold World.frozen?; simp only [hb]; simp
 have f0:=fz 0
 have f1:=fz 1
 have HB:=Hq hb
 clear fz hb h0 h1
 go_enter Tryz.func117,Tryz.ntmps117
 go_wp2_with fail
 go_end0
 refine ⟨rfl,⟨rfl,rfl,rfl,?_,fun i _ hi => ?_⟩,bits .or .u64 p (bits .andNot .u64 f 1),?_⟩
 ·simp only [set_size]; exact Nat.le_refl _
 ·have hi':¬ i=g:=fun e=>hi (by rw [e])
  rw [heap_set_other hi',heap_set_other hi',heap_set_other hi']
 ·refine (heap_set_cells (heap_set_cells (heap_set_cells HB.out))).trans ?_
  rw [Array.setIfInBounds_setIfInBounds]
  rfl
def flagL:List Int:=[2,3,4,5,32,33,64,65,128,129,256,257,512,513,1024,1025,2048,2049,4096,4097,8192,8193,18433,34817]
theorem u64_wraps(n:Int)(h0:0≤n)(h1:n<2 ^ 64):IntKind.u64.wrap n=n:=by
 simp only [IntKind.wrap,IntKind.bits,IntKind.signed,Bool.false_and]
 rw [if_neg (by decide)]
 omega
theorem pV_nat(n:Nat)(hn:n<65536)(f:Int)(hf:f∈flagL):∃ c1 c2:Nat,pV n f=((n &&& c1 ||| c2:Nat):Int)∧c2<65536∧
  (c1 &&& 2=if f=2∨f=3 then 0 else 2)∧(c2 &&& 2=if f=3 then 2 else 0)∧(c1 &&& 4=if f=4∨f=5 then 0 else 4)∧(c2 &&& 4=if f=5 then 4 else 0):=by
 have key:∀ (f:Int) (c1 c2:Nat),bits .xor .u64 IntKind.u64.max (bits .andNot .u64 f 1)=(c1:Int)→IntKind.u64.wrap (bits .and .u64 f 1 * bits .andNot .u64 f 1)=(c2:Int)→c1<2 ^ 64→c2<65536→pV n f=((n &&& c1 ||| c2:Nat):Int):=by
  intro f c1 c2 h1 h2 h3 h4
  unfold pV
  rw [h1,h2,(bits_nat .u64 64 (by decide) u64_wraps n c1 (by omega) h3).1]
  exact (bits_nat .u64 64 (by decide) u64_wraps (n &&& c1) c2 (Nat.and_lt_two_pow _ h3) (by omega)).2
 have all:∀ f∈flagL,bits .xor .u64 IntKind.u64.max (bits .andNot .u64 f 1)=((2 ^ 64-1-(f.toNat / 2 * 2):Nat):Int)∧IntKind.u64.wrap (bits .and .u64 f 1 * bits .andNot .u64 f 1)=(((f.toNat % 2) * (f.toNat / 2 * 2):Nat):Int)∧(f.toNat % 2) * (f.toNat / 2 * 2)<65536∧
   ((2 ^ 64-1-(f.toNat / 2 * 2)) &&& 2=if f=2∨f=3 then 0 else 2)∧(((f.toNat % 2) * (f.toNat / 2 * 2)) &&& 2=if f=3 then 2 else 0)∧((2 ^ 64-1-(f.toNat / 2 * 2)) &&& 4=if f=4∨f=5 then 0 else 4)∧(((f.toNat % 2) * (f.toNat / 2 * 2)) &&& 4=if f=5 then 4 else 0):=by decide +kernel
 obtain ⟨a1,a2,a3,a4⟩:=all f hf
 exact ⟨_,_,key f _ _ a1 a2 (by omega) a3,a3,a4⟩
theorem pV_fits{n:Nat}(hn:n<65536){f:Int}(hf:f∈flagL):∃ m:Nat,m<65536∧pV n f=(m:Int)∧(0<m &&& 2↔(f=3∨(¬ f=2∧0<n &&& 2)))∧(0<m &&& 4↔(f=5∨(¬ f=4∧0<n &&& 4))):=by
 obtain ⟨c1,c2,h,h2,e1,e2,e3,e4⟩:=pV_nat n hn f hf
 refine ⟨_,?_,h,?_,?_⟩
 ·exact Nat.or_lt_two_pow (n:=16) (Nat.lt_of_le_of_lt Nat.and_le_left hn) h2
 ·rw [Nat.and_or_distrib_right,Nat.and_assoc,e1,e2]
  by_cases a:f=3
  ·simp [a]
  ·by_cases b:f=2
   ·simp [b]
   ·simp [a,b]
 ·rw [Nat.and_or_distrib_right,Nat.and_assoc,e3,e4]
  by_cases a:f=5
  ·simp [a]
  ·by_cases b:f=4
   ·simp [b]
   ·simp [a,b]
theorem low_and{m:Nat}(h:m<65536):bits .and .u64 m 549755813888=0:=by
 rw [show (549755813888:Int)=((549755813888:Nat):Int) from rfl,(bits_nat .u64 64 (by decide) u64_wraps m 549755813888 (by omega) (by decide)).1]
 have:m &&& 549755813888=0:=by
  apply Nat.eq_of_testBit_eq
  intro i
  rw [show (549755813888:Nat)=2 ^ 39 from rfl,Nat.testBit_and,Nat.testBit_two_pow]
  by_cases hi:39=i
  ·subst hi
   rw [Nat.testBit_lt_two_pow (by omega)]
   simp
  ·simp [hi]
 rw [this]
 rfl
theorem and_nat{m k:Nat}(h:m<65536)(hk:k<65536):bits .and .u64 m k=((m &&& k:Nat):Int):=(bits_nat .u64 64 (by decide) u64_wraps m k (by omega) (by omega)).1
theorem asF_115(v:Value)(w:World):(Instr.typeAssert (.iface 115 v) 76 115 true).run Tryz.prog w=.ok (.tuple #[v,.bool true]) w:=by kernel_rfl
theorem asI_115(v:Value)(w:World):(Instr.typeAssert (.iface 116 v) 76 115 true).run Tryz.prog w=.ok (.tuple #[.int .u64 0,.bool false]) w:=by kernel_rfl
theorem asP_115(v:Value)(w:World):(Instr.typeAssert (.iface 118 v) 76 115 true).run Tryz.prog w=.ok (.tuple #[.int .u64 0,.bool false]) w:=by kernel_rfl
theorem asI_152(v:Value)(w:World):(Instr.typeAssert (.iface 116 v) 76 152 true).run Tryz.prog w=.ok (.tuple #[.nilIface,.bool false]) w:=run_typeAssert_lacksB Tryz.underlying152 (by kernel_rfl) (by kernel_rfl) v 76 w
theorem asP_152(v:Value)(w:World):(Instr.typeAssert (.iface 118 v) 76 152 true).run Tryz.prog w=.ok (.tuple #[.nilIface,.bool false]) w:=run_typeAssert_lacksB Tryz.underlying152 (by kernel_rfl) (by kernel_rfl) v 76 w
theorem asI_116(v:Value)(w:World):(Instr.typeAssert (.iface 116 v) 76 116 true).run Tryz.prog w=.ok (.tuple #[v,.bool true]) w:=by kernel_rfl
theorem asP_116(v:Value)(w:World):(Instr.typeAssert (.iface 118 v) 76 116 true).run Tryz.prog w=.ok (.tuple #[.string ⟨#[]⟩,.bool false]) w:=by kernel_rfl
theorem asP_118(v:Value)(w:World):(Instr.typeAssert (.iface 118 v) 76 118 true).run Tryz.prog w=.ok (.tuple #[v,.bool true]) w:=by kernel_rfl
def OptF(v:Value)(f:Int):Prop:=(v=.iface 115 (.int .u64 f)∧f∈flagL)∨(∃ s,v=.iface 116 (.string s)∧f=18433)∨(∃ s,v=.iface 118 (.string s)∧f=34817)
inductive OptsF:List Value→List Int→Prop where
 |nil:OptsF [] []
 |snoc {vs:List Value} {fs:List Int} {v:Value} {f:Int}:OptsF vs fs→OptF v f→OptsF (vs++[v]) (fs++[f])
theorem OptsF.len{vs:List Value}{fs:List Int}(h:OptsF vs fs):vs.length=fs.length:=by
 induction h with
 |nil=>rfl
 |snoc _ _ ih=>simp [ih]
theorem OptsF.at{vs:List Value}{fs:List Int}(h:OptsF vs fs):∀ k,k<vs.length→∃ v f,vs[k]? = some v∧fs[k]? = some f∧OptF v f:=by
 induction h with
 |nil=>intro k hk; simp at hk
 |snoc h1 h2 ih=>
  rename_i vs fs v f
  intro k hk
  by_cases hl:k<vs.length
  ·obtain ⟨v',f',e1,e2,e3⟩:=ih k hl
   exact ⟨v',f',by rw [List.getElem?_append_left hl]; exact e1,by rw [List.getElem?_append_left (by rw [← h1.len]; exact hl)]; exact e2,e3⟩
  ·have:k=vs.length:=by simp at hk; omega
   subst this
   exact ⟨v,f,by simp,by simp [h1.len],h2⟩
def foldV(fs:List Int):Int:=fs.foldl pV 0
theorem foldV_snoc{fs:List Int}{k:Nat}{f:Int}(h:fs[k]? = some f):foldV (fs.take (k+1))=pV (foldV (fs.take k)) f:=by
 obtain ⟨hk,e⟩:=List.getElem?_eq_some_iff.1 h
 unfold foldV
 rw [List.take_succ_eq_append_getElem hk,List.foldl_append,e]
 rfl
def optC(p v:Int)(s2 s3:ByteArray):Array Value:=#[.int .u64 p,.int .u64 v,.string s2,.string s3,.int .i64 0,.int .i64 0,.nilIface,.nilIface,.string ⟨#[]⟩]
structure JB(g:Nat)(fs:List Int)(w wr:World):Prop where
 gr:w.grownBy wr (some g)
 blk:∃ p s2 s3,wr.heap[g]? = some (.cells (optC p (foldV fs) s2 s3) 104 (0,0))
theorem JB.set{g i:Nat}{fs fs':List Int}{v:Value}{p:Int}{s2 s3 s2' s3':ByteArray}{w wr:World}(h:w.grownBy wr (some g))(hb:wr.heap[g]? = some (.cells (optC p (foldV fs) s2 s3) 104 (0,0)))(hv:(optC p (foldV fs) s2 s3).setIfInBounds i v=optC p (foldV fs') s2' s3'):JB g fs' w (wr.setCell ⟨g,i,none⟩ v):=
 ⟨h.trans ⟨rfl,rfl,rfl,by rw [set_size]; exact Nat.le_refl _,fun b _ hb=>heap_set_other (fun e=>hb (by rw [e]))⟩,p,s2',s3',by rw [← hv]; exact heap_set_cells hb⟩
theorem join58(g base n c:Nat)(ao:Option Addr)(vs:List Value)(fs:List Int)(p0:Int)(t2 t3:ByteArray)(w:World)(hn:n≤4294967296)(hO:OptsF vs fs)(how:w.ownsRow base 76 1 (.slice ao n c) n vs)(hne:(Value.slice ao n c).ownBlock≠some g)(hb:w.heap[g]? = some (.cells (optC p0 0 t2 t3) 104 (0,0))):
  Calls Tryz.prog 58 #[.pointer (some ⟨g,0,none⟩),.slice ao n c] w fun e w'=>e=.returned (.tuple #[])∧JB g fs w w':=by
 have hl:vs.length=n:=by have:=how.1; omega
 have HOW:=Hq how
 have HO:=Hq hO
 have HJ:=Hq (show JB g (fs.take 0) w w from ⟨World.grownBy.refl _ _,p0,t2,t3,hb⟩)
 have HN:=Hq hne
 have HL:=Hq hl
 clear hO how hne hb hl
 go_enter Tryz.func58,Tryz.ntmps58
 go_wp2_with fail
 go_loopg [17] n (fun gk v17 wr=>∃ k:Nat,v17=.int .i64 k∧k≤n∧Hid (JB g (fs.take k) w wr)∧Hid (gk=n-k))
 case atStart=>exact ⟨0,rfl,by omega,HJ,Hq rfl⟩
 case round=>
  clear HJ
  obtain ⟨k,rfl,hk,HK,HG⟩:=hrel
  have k0:(0:Int)≤(k:Int):=Int.natCast_nonneg _
  by_cases hkn:k<n
  ·obtain ⟨x,f,hx,hf,hxf⟩:=HO.out.at k (by rw [HL.out]; exact hkn)
   obtain ⟨b2,rfl⟩:∃ b2,ao=some ⟨b2,0,none⟩:=by
    rcases HOW.out.2 with ⟨hx,hn⟩|⟨g2,cap,cur,hv,_⟩
    ·cases hx; omega
    ·cases hv; exact ⟨g2,rfl⟩
   have hne:b2≠g:=fun e=>HN.out (by rw [e]; rfl)
   have ow2:=own_block HOW.out (fun q hq=>HK.out.gr.block q (HOW.out.lt q hq).2 (fun e=>HN.out (by rw [hq,e])))
   have cx:=(own_cell ow2 k x hx).1
   obtain ⟨p,s2,s3,hb⟩:=HK.out.blk
   have HF:=Hq hf
   have k1:(k:Int)<(n:Int):=by omega
   rcases hxf with ⟨rfl,hfl⟩|⟨sI,rfl,rfl⟩|⟨sI,rfl,rfl⟩
   ·have S:=Hq (set117 g p _ f _ 104 wr hb rfl rfl)
    have a1:=fun w=>asF_115 (.int .u64 f) w
    clear hx hf ow2 hne hb hfl
    go_wp2_with fail
    refine S.out.mono ?_
    rintro e w1 ⟨rfl,hg1,p',hb1⟩
    have hb2:w1.heap[g]? = some (.cells (optC p' (foldV (fs.take (k+1))) s2 s3) 104 (0,0)):=by rw [foldV_snoc HF.out]; exact hb1
    have J1:=Hq (show JB g (fs.take (k+1)) w w1 from ⟨HK.out.gr.trans hg1,p',s2,s3,hb2⟩)
    clear hg1 hb1 hb2 S
    go_wp2_with fail
    go_roundg (n-(k+1))
    case measure=>have:=HG.out; omega
    case rel=>exact ⟨k+1,rfl,by omega,J1,Hq rfl⟩
   ·have S:=Hq (set117 g p _ 18433 _ 104 wr hb rfl rfl)
    have a1:=fun w=>asI_115 (.string sI) w
    have a2:=fun w=>asI_152 (.string sI) w
    have a3:=fun w=>asI_116 (.string sI) w
    clear hx hf ow2 hne hb
    go_wp2_with fail
    refine S.out.mono ?_
    rintro e w1 ⟨rfl,hg1,p',hb1⟩
    have hb2:w1.heap[g]? = some (.cells (optC p' (foldV (fs.take (k+1))) s2 s3) 104 (0,0)):=by rw [foldV_snoc HF.out]; exact hb1
    have J1:=Hq (show JB g (fs.take (k+1)) w w1 from ⟨HK.out.gr.trans hg1,p',s2,s3,hb2⟩)
    have cy:w1.cell? ⟨g,2,none⟩=some (.string s2):=by rw [cell_of_row _ _ _ _ _ (0,0) hb2]; rfl
    have fy:w1.frozen? ⟨g,2,none⟩=false:=by unfold World.frozen?; simp only [hb2]; simp
    have J2:=Hq (JB.set (fs':=fs.take (k+1)) (i:=2) (v:=.string sI) (s2':=sI) (s3':=s3) (HK.out.gr.trans hg1) hb2 rfl)
    clear J1
    clear hg1 hb1 hb2 S
    go_wp2_with fail
    go_roundg (n-(k+1))
    case measure=>have:=HG.out; omega
    case rel=>exact ⟨k+1,rfl,by omega,J2,Hq rfl⟩
   ·have S:=Hq (set117 g p _ 34817 _ 104 wr hb rfl rfl)
    have a1:=fun w=>asP_115 (.string sI) w
    have a2:=fun w=>asP_152 (.string sI) w
    have a3:=fun w=>asP_116 (.string sI) w
    have a4:=fun w=>asP_118 (.string sI) w
    clear hx hf ow2 hne hb
    go_wp2_with fail
    refine S.out.mono ?_
    rintro e w1 ⟨rfl,hg1,p',hb1⟩
    have hb2:w1.heap[g]? = some (.cells (optC p' (foldV (fs.take (k+1))) s2 s3) 104 (0,0)):=by rw [foldV_snoc HF.out]; exact hb1
    have J1:=Hq (show JB g (fs.take (k+1)) w w1 from ⟨HK.out.gr.trans hg1,p',s2,s3,hb2⟩)
    have cy:w1.cell? ⟨g,3,none⟩=some (.string s3):=by rw [cell_of_row _ _ _ _ _ (0,0) hb2]; rfl
    have fy:w1.frozen? ⟨g,3,none⟩=false:=by unfold World.frozen?; simp only [hb2]; simp
    have J2:=Hq (JB.set (fs':=fs.take (k+1)) (i:=3) (v:=.string sI) (s2':=s2) (s3':=sI) (HK.out.gr.trans hg1) hb2 rfl)
    clear J1
    clear hg1 hb1 hb2 S
    go_wp2_with fail
    go_roundg (n-(k+1))
    case measure=>have:=HG.out; omega
    case rel=>exact ⟨k+1,rfl,by omega,J2,Hq rfl⟩
  ·go_wp2_with fail
   go_end0
   have e:fs.take k=fs:=List.take_of_length_le (by have:=HO.out.len; have:=HL.out; omega)
   have:=HK.out
   rw [e] at this
   exact ⟨rfl,this⟩
def newD:Array Value:=#[.slice none 0 0,.int .u64 0,.slice none 0 0,.slice none 0 0,.slice none 0 0,.int .i64 0,.nilIface,.slice none 0 0,.int .i64 0,.int .i64 0,.int .i64 0,.nilIface,.string ⟨#[]⟩,.int .u64 0,.int .u64 0,.string ⟨#[]⟩,.string ⟨#[]⟩,.int .i64 0,.int .i64 0,.nilIface,.nilIface,.string ⟨#[]⟩,.pointer none,.bool false]
def ND(d:Nat)(w:World)(e:Ending)(w':World):Prop:=e=.returned (.tuple #[])∧w'.heap[d]? = some (.cells newD 109 (0,0))∧w.grownBy w' (some d)
theorem gb_set1{w:World}{d i:Nat}{v:Value}:w.grownBy (w.setCell ⟨d,i,none⟩ v) (some d):=⟨rfl,rfl,rfl,by rw [set_size]; exact Nat.le_refl _,fun b _ hb=>heap_set_other (fun e=>hb (by rw [e]))⟩
theorem reset114(d:Nat)(w:World)(hb:w.heap[d]? = some (.cells newD 109 (0,0))):Calls Tryz.prog 114 #[.pointer (some ⟨d,0,none⟩)] w (ND d w):=by
 have cz:∀ o,w.cell? ⟨d,o,none⟩=newD[o]? := fun o=>cell_of_row _ _ _ _ _ (0,0) hb
 have fz:∀ o,w.frozen? ⟨d,o,none⟩=false:=fun o=>by unfold World.frozen?; simp only [hb]; simp
 have c0:w.cell? ⟨d,0,none⟩=some (.slice none 0 0):=cz 0
 have f0:=fz 0
 have c1:w.cell? ⟨d,1,none⟩=some (.int .u64 0):=cz 1
 have f1:=fz 1
 have HB:=Hq hb
 clear cz fz hb
 go_enter Tryz.func114,Tryz.ntmps114
 go_wp2_with fail
 go_end0
 exact ⟨rfl,heap_set_cells (heap_set_cells HB.out),gb_set1.trans gb_set1⟩
theorem reset115(d:Nat)(w:World)(hb:w.heap[d]? = some (.cells newD 109 (0,0))):Calls Tryz.prog 115 #[.pointer (some ⟨d,2,none⟩)] w (ND d w):=by
 have cz:∀ o,w.cell? ⟨d,o,none⟩=newD[o]? := fun o=>cell_of_row _ _ _ _ _ (0,0) hb
 have fz:∀ o,w.frozen? ⟨d,o,none⟩=false:=fun o=>by unfold World.frozen?; simp only [hb]; simp
 have c2:w.cell? ⟨d,2,none⟩=some (.slice none 0 0):=cz 2
 have f2:=fz 2
 have c3:w.cell? ⟨d,3,none⟩=some (.slice none 0 0):=cz 3
 have f3:=fz 3
 have HB:=Hq hb
 clear cz fz hb
 go_enter Tryz.func115,Tryz.ntmps115
 go_wp2_with fail
 go_end0
 exact ⟨rfl,heap_set_cells (heap_set_cells HB.out),gb_set1.trans gb_set1⟩
theorem reset116(d:Nat)(w:World)(hb:w.heap[d]? = some (.cells newD 109 (0,0))):Calls Tryz.prog 116 #[.pointer (some ⟨d,4,none⟩)] w (ND d w):=by
 have cz:∀ o,w.cell? ⟨d,o,none⟩=newD[o]? := fun o=>cell_of_row _ _ _ _ _ (0,0) hb
 have fz:∀ o,w.frozen? ⟨d,o,none⟩=false:=fun o=>by unfold World.frozen?; simp only [hb]; simp
 have c4:w.cell? ⟨d,4,none⟩=some (.slice none 0 0):=cz 4
 have f4:=fz 4
 have HB:=Hq hb
 clear cz fz hb
 go_enter Tryz.func116,Tryz.ntmps116
 go_wp2_with fail
 go_end0
 exact ⟨rfl,heap_set_cells HB.out,gb_set1⟩
theorem reset57(d:Nat)(w:World)(hb:w.heap[d]? = some (.cells newD 109 (0,0))):Calls Tryz.prog 57 #[.pointer (some ⟨d,0,none⟩)] w (ND d w):=by
 have A:=Hq (reset114 d w hb)
 have B:=Hq (fun w h=>reset115 d w h)
 have C:=Hq (fun w h=>reset116 d w h)
 clear hb
 go_enter Tryz.func57,Tryz.ntmps57
 go_wp2_with fail
 refine A.out.mono ?_
 rintro e w1 ⟨rfl,hb1,hg1⟩
 have HG1:=Hq hg1
 have B1:=Hq (B.out w1 hb1)
 clear hb1 hg1
 go_wp2_with fail
 refine B1.out.mono ?_
 rintro e w2 ⟨rfl,hb2,hg2⟩
 have HG2:=Hq hg2
 have C1:=Hq (C.out w2 hb2)
 clear hb2 hg2
 go_wp2_with fail
 refine C1.out.mono ?_
 rintro e w3 ⟨rfl,hb3,hg3⟩
 have HG3:=Hq (And.intro hb3 hg3)
 clear hb3 hg3
 go_wp2_with fail
 go_end0
 exact ⟨rfl,HG3.out.1,(HG1.out.trans HG2.out).trans HG3.out.2⟩
def bufD(bo:Option Addr)(bn bc:Nat)(p v:Int)(s2 s3:ByteArray):Array Value:=#[.slice none 0 0,.int .u64 0,.slice none 0 0,.slice none 0 0,.slice none 0 0,.int .i64 0,.nilIface,.slice bo bn bc,.int .i64 0,.int .i64 0,.int .i64 0,.nilIface,.string ⟨#[]⟩,.int .u64 p,.int .u64 v,.string s2,.string s3,.int .i64 0,.int .i64 0,.nilIface,.nilIface,.string ⟨#[]⟩,.pointer none,.bool false]
theorem sets8(bo:Option Addr)(bn bc:Nat):(((((((newD.setIfInBounds 5 (.int .i64 0)).setIfInBounds 6 .nilIface).setIfInBounds 7 (.slice bo bn bc)).setIfInBounds 8 (.int .i64 0)).setIfInBounds 9 (.int .i64 0)).setIfInBounds 10 (.int .i64 0)).setIfInBounds 11 .nilIface).setIfInBounds 12 (.string ⟨#[]⟩)=bufD bo bn bc 0 0 ⟨#[]⟩ ⟨#[]⟩:=by kernel_rfl
theorem sets10(bo:Option Addr)(bn bc:Nat)(p v:Int)(s2 s3:ByteArray):(((((((((( bufD bo bn bc 0 0 ⟨#[]⟩ ⟨#[]⟩).setIfInBounds 13 (.int .u64 p)).setIfInBounds 14 (.int .u64 v)).setIfInBounds 15 (.string s2)).setIfInBounds 16 (.string s3)).setIfInBounds 17 (.int .i64 0)).setIfInBounds 18 (.int .i64 0)).setIfInBounds 19 .nilIface).setIfInBounds 20 .nilIface).setIfInBounds 21 (.string ⟨#[]⟩)).setIfInBounds 23 (.bool false)=bufD bo bn bc p v s2 s3:=by kernel_rfl
def BD(d:Nat)(bo:Option Addr)(bn bc:Nat)(fs:List Int)(w':World):Prop:=∃ p s2 s3,w'.heap[d]? = some (.cells (bufD bo bn bc p (foldV fs) s2 s3) 109 (0,0))
theorem reset48(d n c:Nat)(ao:Option Addr)(bo:Option Addr)(bn bc:Nat)(base:Nat)(vs:List Value)(fs:List Int)(w:World)(hn:n≤4294967296)(hO:OptsF vs fs)(how:w.ownsRow base 76 1 (.slice ao n c) n vs)(hne:(Value.slice ao n c).ownBlock≠some d)(hb:w.heap[d]? = some (.cells newD 109 (0,0))):
  Calls Tryz.prog 48 #[.pointer (some ⟨d,0,none⟩),.slice bo bn bc,.nilIface,.slice ao n c] w fun e w'=>e=.returned (.tuple #[])∧BD d bo bn bc fs w'∧w.grownBy w' (some d):=by
 have R:=Hq (reset57 d w hb)
 have HO:=Hq hO
 have HOW:=Hq how
 have HNE:=Hq hne
 have HN:=Hq hn
 clear hO how hne hb hn
 go_enter Tryz.func48,Tryz.ntmps48
 go_wp2_with fail
 refine R.out.mono ?_
 rintro e w1 ⟨rfl,hb1,hg1⟩
 have cz:∀ o,w1.cell? ⟨d,o,none⟩=newD[o]? := fun o=>cell_of_row _ _ _ _ _ (0,0) hb1
 have fz:∀ o,w1.frozen? ⟨d,o,none⟩=false:=fun o=>by unfold World.frozen?; simp only [hb1]; simp
 have c5:w1.cell? ⟨d,5,none⟩=some (.int .i64 0):=cz 5
 have f5:=fz 5
 have c6:w1.cell? ⟨d,6,none⟩=some (.nilIface):=cz 6
 have f6:=fz 6
 have c7:w1.cell? ⟨d,7,none⟩=some (.slice none 0 0):=cz 7
 have f7:=fz 7
 have c8:w1.cell? ⟨d,8,none⟩=some (.int .i64 0):=cz 8
 have f8:=fz 8
 have c9:w1.cell? ⟨d,9,none⟩=some (.int .i64 0):=cz 9
 have f9:=fz 9
 have c10:w1.cell? ⟨d,10,none⟩=some (.int .i64 0):=cz 10
 have f10:=fz 10
 have c11:w1.cell? ⟨d,11,none⟩=some (.nilIface):=cz 11
 have f11:=fz 11
 have c12:w1.cell? ⟨d,12,none⟩=some (.string ⟨#[]⟩):=cz 12
 have f12:=fz 12
 have HB1:=Hq (show ∃ w2,(((((((w1.setCell ⟨d,5,none⟩ (.int .i64 0)).setCell ⟨d,6,none⟩ .nilIface).setCell ⟨d,7,none⟩ (.slice bo bn bc)).setCell ⟨d,8,none⟩ (.int .i64 0)).setCell ⟨d,9,none⟩ (.int .i64 0)).setCell ⟨d,10,none⟩ (.int .i64 0)).setCell ⟨d,11,none⟩ .nilIface).setCell ⟨d,12,none⟩ (.string ⟨#[]⟩)=w2∧w2.heap.size=w1.heap.size∧w2.heap[d]? = some (.cells (bufD bo bn bc 0 0 ⟨#[]⟩ ⟨#[]⟩) 109 (0,0))∧w.grownBy w2 (some d) from
  ⟨_,rfl,by simp only [set_size],by rw [← sets8 bo bn bc]; exact heap_set_cells (heap_set_cells (heap_set_cells (heap_set_cells (heap_set_cells (heap_set_cells (heap_set_cells (heap_set_cells hb1))))))),hg1.trans (((((((gb_set1.trans gb_set1).trans gb_set1).trans gb_set1).trans gb_set1).trans gb_set1).trans gb_set1).trans gb_set1)⟩)
 clear cz fz hb1 hg1
 go_wp2_with fail
 obtain ⟨w2,e2,hsz,hb2,hg2⟩:=HB1.out
 rw [e2,← hsz]
 have hdl:d<w2.heap.size:=(Array.getElem?_eq_some_iff.1 hb2).1
 refine (join58 w2.heap.size base n c ao vs fs 0 ⟨#[]⟩ ⟨#[]⟩ _ HN.out HO.out ?how ?hne (heap_alloc_new w2 _)).mono ?_
 case how=>
  exact (own_block HOW.out (fun q hq=>hg2.block q (HOW.out.lt q hq).2 (fun e=>HNE.out (by rw [hq,e])))).alloc _
 case hne=>
  intro e
  have h1:=(HOW.out.lt _ e).2
  have h2:=hg2.size
  omega
 rintro e w3 ⟨rfl,hJ⟩
 have hs2:=hg2.size
 have hg3:w.grownBy w3 (some d):=⟨hJ.gr.os.trans hg2.os,hJ.gr.tape.trans hg2.tape,hJ.gr.output.trans hg2.output,Nat.le_trans hs2 (Nat.le_trans (by simp) hJ.gr.size),fun b hlt hd=>(hJ.gr.block b (by simp; omega) (by simp; omega)).trans ((heap_alloc_old w2 _ (by omega)).trans (hg2.block b hlt hd))⟩
 obtain ⟨p,s2,s3,hbg⟩:=hJ.blk
 have hb3:w3.heap[d]? = some (.cells (bufD bo bn bc 0 0 ⟨#[]⟩ ⟨#[]⟩) 109 (0,0)):=(hJ.gr.block d (by simp; omega) (by simp; omega)).trans ((heap_alloc_old w2 _ hdl).trans hb2)
 have kz:∀ o,w3.cell? ⟨w2.heap.size,o,none⟩=(optC p (foldV fs) s2 s3)[o]? := fun o=>cell_of_row _ _ _ _ _ (0,0) hbg
 have cz:∀ o,w3.cell? ⟨d,o,none⟩=(bufD bo bn bc 0 0 ⟨#[]⟩ ⟨#[]⟩)[o]? := fun o=>cell_of_row _ _ _ _ _ (0,0) hb3
 have fz:∀ o,w3.frozen? ⟨d,o,none⟩=false:=fun o=>by unfold World.frozen?; simp only [hb3]; simp
 have k0:w3.cell? ⟨w2.heap.size,0,none⟩=some (.int .u64 p):=kz 0
 have k1:w3.cell? ⟨w2.heap.size,1,none⟩=some (.int .u64 (foldV fs)):=kz 1
 have k2:w3.cell? ⟨w2.heap.size,2,none⟩=some (.string s2):=kz 2
 have k3:w3.cell? ⟨w2.heap.size,3,none⟩=some (.string s3):=kz 3
 have k4:w3.cell? ⟨w2.heap.size,4,none⟩=some (.int .i64 0):=kz 4
 have k5:w3.cell? ⟨w2.heap.size,5,none⟩=some (.int .i64 0):=kz 5
 have k6:w3.cell? ⟨w2.heap.size,6,none⟩=some .nilIface:=kz 6
 have k7:w3.cell? ⟨w2.heap.size,7,none⟩=some .nilIface:=kz 7
 have k8:w3.cell? ⟨w2.heap.size,8,none⟩=some (.string ⟨#[]⟩):=kz 8
 have c13:w3.cell? ⟨d,13,none⟩=some (.int .u64 0):=cz 13
 have f13:=fz 13
 have c14:w3.cell? ⟨d,14,none⟩=some (.int .u64 0):=cz 14
 have f14:=fz 14
 have c15:w3.cell? ⟨d,15,none⟩=some (.string ⟨#[]⟩):=cz 15
 have f15:=fz 15
 have c16:w3.cell? ⟨d,16,none⟩=some (.string ⟨#[]⟩):=cz 16
 have f16:=fz 16
 have c17:w3.cell? ⟨d,17,none⟩=some (.int .i64 0):=cz 17
 have f17:=fz 17
 have c18:w3.cell? ⟨d,18,none⟩=some (.int .i64 0):=cz 18
 have f18:=fz 18
 have c19:w3.cell? ⟨d,19,none⟩=some (.nilIface):=cz 19
 have f19:=fz 19
 have c20:w3.cell? ⟨d,20,none⟩=some (.nilIface):=cz 20
 have f20:=fz 20
 have c21:w3.cell? ⟨d,21,none⟩=some (.string ⟨#[]⟩):=cz 21
 have f21:=fz 21
 have c23:w3.cell? ⟨d,23,none⟩=some (.bool false):=cz 23
 have f23:=fz 23
 have HB3:=Hq (And.intro hb3 hg3)
 clear cz fz kz hs2 hb3 hbg hJ hg3 hb2 hg2 hdl c5 c6 c7 c8 c9 c10 c11 c12 f5 f6 f7 f8 f9 f10 f11 f12 e2 HB1 hsz
 go_wp2_with fail
 go_end0
 exact ⟨rfl,⟨p,s2,s3,by rw [← sets10 bo bn bc p _ s2 s3]; exact heap_set_cells (heap_set_cells (heap_set_cells (heap_set_cells (heap_set_cells (heap_set_cells (heap_set_cells (heap_set_cells (heap_set_cells (heap_set_cells HB3.out.1)))))))))⟩,HB3.out.2.trans (((((((((gb_set1.trans gb_set1).trans gb_set1).trans gb_set1).trans gb_set1).trans gb_set1).trans gb_set1).trans gb_set1).trans gb_set1).trans gb_set1)⟩
theorem get26(n c:Nat)(ao bo:Option Addr)(bn bc base:Nat)(vs:List Value)(fs:List Int)(w:World)(hn:n≤4294967296)(hO:OptsF vs fs)(how:w.ownsRow base 76 1 (.slice ao n c) n vs):
  Calls Tryz.prog 26 #[.slice bo bn bc,.slice ao n c] w fun e w'=>e=.returned (.pointer (some ⟨w.heap.size,0,none⟩))∧BD w.heap.size bo bn bc fs w'∧w.grownBy w' none:=by
 have R:=Hq (reset48 w.heap.size n c ao bo bn bc base vs fs (w.alloc (.cells newD 109)) hn hO (how.alloc _) (fun e=>by have:=(how.lt _ e).2; omega) (heap_alloc_new w _))
 have HA:=Hq (show w.grownBy (w.alloc (.cells newD 109)) none from World.grownBy_alloc w _ none)
 clear hn hO how
 unfold newD at R HA
 go_enter Tryz.func26,Tryz.ntmps26
 go_wp2_with fail
 refine R.out.mono ?_
 rintro e w1 ⟨rfl,hb,hg⟩
 have HB:=Hq (And.intro hb hg)
 clear hb hg R
 go_wp2_with fail
 go_ret
 obtain ⟨hb,hg⟩:=HB.out
 refine ⟨rfl,hb,hg.os.trans HA.out.os,hg.tape.trans HA.out.tape,hg.output.trans HA.out.output,Nat.le_trans HA.out.size hg.size,fun i hi hx=>(hg.block i (Nat.lt_of_lt_of_le hi HA.out.size) (fun e=>by have:=Option.some.inj e; omega)).trans (HA.out.block i hi hx)⟩
def Blk(s:ByteArray):Prop:=∀ (i:Nat) (h:i<s.size),s[i].toNat=32∨s[i].toNat=9
theorem inset143(c:Int)(hc:c=32∨c=9)(w:World):Calls Tryz.prog 143 #[.int .i32 c,.string ⟨#[32,9]⟩] w fun e w'=>e=.returned (.bool true)∧w.grownBy w' none:=by
 have n0:∀ ty,(Instr.next (.pointer (some ⟨w.heap.size,0,none⟩)) true ty).run Tryz.prog (w.iter ⟨#[32,9]⟩ 0)=.ok (.tuple #[.bool true,.int .i64 0,.int .i32 32]) (w.iter ⟨#[32,9]⟩ 1):=fun ty=>run_next_ascii (P:=Tryz.prog) w ⟨#[32,9]⟩ 0 ty (by decide) (by decide)
 have n1:∀ ty,(Instr.next (.pointer (some ⟨w.heap.size,0,none⟩)) true ty).run Tryz.prog (w.iter ⟨#[32,9]⟩ 1)=.ok (.tuple #[.bool true,.int .i64 1,.int .i32 9]) (w.iter ⟨#[32,9]⟩ 2):=fun ty=>run_next_ascii (P:=Tryz.prog) w ⟨#[32,9]⟩ 1 ty (by decide) (by decide)
 rcases hc with rfl|rfl
 ·go_enter Tryz.func143,Tryz.ntmps143
  go_wp2_with fail
  refine wp_loop_rounds 3 ?_
  rw [rounds_succ]
  go_wp2_with fail
  go_ret
  exact ⟨rfl,World.grownBy_alloc _ _ _⟩
 ·go_enter Tryz.func143,Tryz.ntmps143
  go_wp2_with fail
  refine wp_loop_rounds 3 ?_
  rw [rounds_succ]
  go_wp2_with fail
  rw [rounds_succ]
  go_wp2_with fail
  go_ret
  exact ⟨rfl,World.grownBy_alloc _ _ _⟩
structure ITr(s:ByteArray)(pos:Nat)(w wr:World):Prop where
 it:wr.heap[w.heap.size]? = some (.stringIter s pos)
 gr:w.grownBy wr none
theorem ITr.next{s:ByteArray}{pos:Nat}{w wr:World}(h:ITr s pos w wr)(p:Nat):ITr s p w (wr.iterAt w.heap.size s p):=by
 have hk:w.heap.size<wr.heap.size:=(Array.getElem?_eq_some_iff.1 h.it).1
 refine ⟨by simp [World.iterAt,hk],⟨h.gr.os,h.gr.tape,h.gr.output,by rw [Lib.iterAt_size]; exact h.gr.size,fun i hi hx=>(Lib.iterAt_other _ _ _ _ _ (by omega)).trans (h.gr.block i hi hx)⟩⟩
theorem ITr.gb{s:ByteArray}{pos:Nat}{w wr w1:World}(h:ITr s pos w wr)(hg:wr.grownBy w1 none):ITr s pos w w1:=
 ⟨(hg.block _ (Array.getElem?_eq_some_iff.1 h.it).1 (by simp)).trans h.it,h.gr.trans hg⟩
theorem left109(s:ByteArray)(hb:Blk s)(w:World):Calls Tryz.prog 109 #[.string s,.string ⟨#[32,9]⟩] w fun e w'=>e=.returned (.string ⟨#[]⟩)∧w.grownBy w' none:=by
 have I:=Hq (fun c hc w=>inset143 c hc w)
 have HB:=Hq hb
 have E0:=Hq (show ITr s 0 w (w.iter s 0) from ⟨World.iter_heap w s 0,World.grownBy_alloc w _ none⟩)
 clear hb
 go_enter Tryz.func109,Tryz.ntmps109
 go_wp2_with fail
 go_loopg [] s.size (fun gk wr=>∃ pos:Nat,pos≤s.size∧Hid (ITr s pos w wr)∧Hid (gk=s.size-pos))
 case atStart=>exact ⟨0,by omega,E0,Hq rfl⟩
 case round=>
  clear E0
  obtain ⟨pos,hps,HE,HG⟩:=hrel
  by_cases hp:pos<s.size
  ·have hc:=HB.out pos hp
   have hnx:=fun ty=>Lib.run_next_ascii_at (P:=Tryz.prog) wr w.heap.size s pos ty HE.out.it hp (by omega)
   obtain ⟨c,hcc⟩:∃ c:Int,(s[pos].toNat:Int)=c:=⟨_,rfl⟩
   rw [hcc] at hnx
   have C:=Hq (I.out c (by omega) (wr.iterAt w.heap.size s (pos+1)))
   have HE1:=Hq (HE.out.next (pos+1))
   generalize wr.iterAt w.heap.size s (pos+1)=w1 at hnx HE1 C
   clear hc hcc
   go_wp2_with fail
   refine C.out.mono ?_
   rintro e w2 ⟨rfl,hg⟩
   have HE2:=Hq (HE1.out.gb hg)
   clear hg
   go_wp2_with fail
   go_roundg (s.size-(pos+1))
   case measure=>have:=HG.out; omega
   case rel=>exact ⟨pos+1,by omega,HE2,Hq rfl⟩
  ·have hnx:∀ ty,(Instr.next (.pointer (some ⟨w.heap.size,0,none⟩)) true ty).run Tryz.prog wr=_:=fun ty=>Lib.run_next_end_at wr w.heap.size s pos ty HE.out.it hp
   go_wp2_with fail
   go_ret
   exact ⟨rfl,HE.out.gr⟩
theorem right108(w:World):Calls Tryz.prog 108 #[.string ⟨#[]⟩,.string ⟨#[32,9]⟩] w fun e w'=>e=.returned (.string ⟨#[]⟩)∧w.grownBy w' none:=by
 go_enter Tryz.func108,Tryz.ntmps108
 go_wp2_with fail
 refine wp_loop_rounds 1 ?_
 rw [rounds_succ]
 go_wp2_with fail
 go_ret
 exact ⟨rfl,World.grownBy.refl _ _⟩
theorem trim51(s:ByteArray)(hb:Blk s)(w:World):Calls Tryz.prog 51 #[.string s,.string ⟨#[32,9]⟩] w fun e w'=>e=.returned (.string ⟨#[]⟩)∧w.grownBy w' none:=by
 have L:=Hq (left109 s hb w)
 have R:=Hq (fun w=>right108 w)
 clear hb
 go_enter Tryz.func51,Tryz.ntmps51
 go_wp2_with fail
 refine L.out.mono ?_
 rintro e w1 ⟨rfl,hg⟩
 have HG:=Hq hg
 clear hg
 go_wp2_with fail
 refine (R.out _).mono ?_
 rintro e w2 ⟨rfl,hg⟩
 have HG2:=Hq hg
 clear hg
 go_wp2_with fail
 go_ret
 exact ⟨rfl,HG.out.trans HG2.out⟩
theorem prefix43(s:ByteArray)(hb:Blk s)(w:World):Calls Tryz.prog 43 #[.string s] w fun e w'=>e=.returned (.iface 118 (.string s))∧w.grownBy w' none:=by
 have T:=Hq (trim51 s hb w)
 clear hb
 go_enter Tryz.func43,Tryz.ntmps43
 go_wp2_with fail
 refine T.out.mono ?_
 rintro e w1 ⟨rfl,hg⟩
 have HG:=Hq hg
 clear hg
 go_wp2_with fail
 go_ret
 exact ⟨rfl,HG.out⟩
theorem ba_list{s:ByteArray}{l:List UInt8}(h:s.toList=l):s=⟨l.toArray⟩:=by
 obtain ⟨d⟩:=s
 have e:(⟨d⟩:ByteArray).toList=d.toList:=ByteArray.toList_eq _
 rw [e] at h
 rw [← h]
theorem indent42(s:ByteArray)(hb:Blk s)(w:World):Calls Tryz.prog 42 #[.string s] w fun e w'=>e=.returned (.iface 116 (.string s))∧w.grownBy w' none:=by
 have T:=Hq (trim51 s hb w)
 clear hb
 have fin:∀ l:List UInt8,s.toList=l→(l=[9]∨l=[32,32,32,32]∨l=[32,32,32]∨l=[32,32]∨l=[32]∨l=[])→Calls Tryz.prog 42 #[.string s] w fun e w'=>e=.returned (.iface 116 (.string s))∧w.grownBy w' none:=by
  intro l hl hc
  rw [ba_list hl]
  clear T hl
  rcases hc with rfl|rfl|rfl|rfl|rfl|rfl
  all_goals
   go_enter Tryz.func42,Tryz.ntmps42
   go_wp2_with fail
   go_ret
   exact ⟨rfl,World.grownBy.refl _ _⟩
 by_cases h1:s.toList=[9]
 ·exact fin _ h1 (by simp)
 by_cases h2:s.toList=[32,32,32,32]
 ·exact fin _ h2 (by simp)
 by_cases h3:s.toList=[32,32,32]
 ·exact fin _ h3 (by simp)
 by_cases h4:s.toList=[32,32]
 ·exact fin _ h4 (by simp)
 by_cases h5:s.toList=[32]
 ·exact fin _ h5 (by simp)
 by_cases h6:s.toList=[]
 ·exact fin _ h6 (by simp)
 have e1:(s.toList==[9])=false:=by simpa using h1
 have e2:(s.toList==[32,32,32,32])=false:=by simpa using h2
 have e3:(s.toList==[32,32,32])=false:=by simpa using h3
 have e4:(s.toList==[32,32])=false:=by simpa using h4
 have e5:(s.toList==[32])=false:=by simpa using h5
 have e6:(s.toList==[])=false:=by simpa using h6
 clear fin h1 h2 h3 h4 h5 h6
 go_enter Tryz.func42,Tryz.ntmps42
 go_wp2_with fail
 refine T.out.mono ?_
 rintro e w1 ⟨rfl,hg⟩
 have HG:=Hq hg
 clear hg
 go_wp2_with fail
 go_ret
 exact ⟨rfl,HG.out⟩
end Go.Proofs.YtknaalohaagcdaaGreatDoor.Own
