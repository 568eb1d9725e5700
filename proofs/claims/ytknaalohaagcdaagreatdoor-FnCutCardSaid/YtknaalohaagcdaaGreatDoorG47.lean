import Derived.Test.YtknaalohaagcdaaGreatDoorG01
import Derived.Test.YtknaalohaagcdaaGreatDoorG46
set_option maxHeartbeats 400000000
set_option maxRecDepth 100000
namespace Go.Proofs.YtknaalohaagcdaaGreatDoor.Own
open Go.RowKit JG
theorem fits1(g:Nat)(s:ByteArray)(w:World)(hs:s.size≤4294967296)(c0:w.cell? ⟨g,0,none⟩=some (.string s)):Calls Tryz.prog 12 #[.slice (some ⟨g,0,none⟩) 1 1] w fun e w'=>e=.returned (.bool (decide (s.size≤1000)))∧w=w':=by
 by_cases h:s.size≤1000
 ·have t:decide ((1000:Int)<(s.size:Int))=false:=by simp; omega
  rw [decide_eq_true h]
  go_enter Tryz.func12,Tryz.ntmps12
  go_wp2_with fail
  refine wp_loop_rounds 2 ?_
  rw [rounds_succ]
  go_wp2_with fail
  rw [rounds_succ]
  go_wp2_with fail
  go_ret
  exact ⟨rfl,rfl⟩
 ·have t:decide ((1000:Int)<(s.size:Int))=true:=by simp; omega
  rw [decide_eq_false h]
  go_enter Tryz.func12,Tryz.ntmps12
  go_wp2_with fail
  refine wp_loop_rounds 2 ?_
  rw [rounds_succ]
  go_wp2_with fail
  go_ret
  exact ⟨rfl,rfl⟩
structure LF(A:List Addr)(aU aI aE aM:Addr)(w:World):Prop where
 gl:Gl (.iface 260 (.pointer (some aU))) (.iface 260 (.pointer (some aI))) w
 g2:G2 A w
 eb:EB A w
 cE:w.cell? ⟨0,0,none⟩=some (.iface 260 (.pointer (some aE)))
 cM:w.cell? ⟨5,0,none⟩=some (.iface 260 (.pointer (some aM)))
 hU:aU∈A
 hI:aI∈A
 hE:aE∈A
 hM:aM∈A
 UI:aU≠aI
 UE:aU≠aE
 UM:aU≠aM
 IE:aI≠aE
 IM:aI≠aM
 ME:aM≠aE
theorem LF.gb0{A:List Addr}{aU aI aE aM:Addr}{w w':World}(h:LF A aU aI aE aM w)(hg:w.grownBy w' none):LF A aU aI aE aM w':=by
 have h18:=h.gl.size
 have lo:∀ i,i<18→w'.heap[i]? = w.heap[i]? := fun i hi=>hg.block i (by omega) (by simp)
 exact ⟨h.gl.kept hg.size lo,h.g2.kept lo,h.eb.kept (fun a ha=>by
  obtain ⟨c,t,e⟩:=h.eb a ha
  exact hg.block a.block (Array.getElem?_eq_some_iff.1 e).1 (by simp)),(World.cell?_of_block (w:=w) (a:=⟨0,0,none⟩) (lo 0 (by decide))).trans h.cE,(World.cell?_of_block (w:=w) (a:=⟨5,0,none⟩) (lo 5 (by decide))).trans h.cM,h.hU,h.hI,h.hE,h.hM,h.UI,h.UE,h.UM,h.IE,h.IM,h.ME⟩
def VldP(b0:Nat)(r:Bool)(w:World)(e:Ending)(w':World):Prop:=e=.returned (.bool r)∧Kp b0 w w'
theorem valid20(A:List Addr)(aU aI aE aM:Addr)(b0 B cap n c lb m:Nat)(ao:Option Addr)(s:ByteArray)(lo dup:Bool)(vs:List Value)(fs:List Int)(w:World)(hLF:LF A aU aI aE aM w)(hB:Bf w B s)(hBl:B<w.heap.size)(hs:s.size≤4096)(hcap:s.size≤cap)(hn:n≤100)(hO:OL w lb n c ao vs fs)
  (hdup:decide (0<bits .and .u64 (foldV fs) 2)=dup) (hlo:decide (0<bits .and .u64 (foldV fs) 4)=lo) (h549:bits .and .u64 (foldV fs) 549755813888=0) (hb0:b0≤w.heap.size) (h00:0<b0) (hm:2 * s.size<m):
  Calls Tryz.prog 20 #[.slice (some ⟨B,0,none⟩) s.size cap,.slice ao n c] w (VldP b0 (tkn (chkD dup) lo m (bytes s)) w):=by
 obtain ⟨d,hd⟩:∃ d,w.heap.size=d:=⟨_,rfl⟩
 have G:=Hq (get26 n c ao (some ⟨B,0,none⟩) s.size cap lb vs fs w (by omega) hO.opts hO.own)
 rw [hd] at G
 have K:=Hq (show KC A s cap (foldV fs) aU aI aE aM from ⟨hs,hcap,h549,hLF.hU,hLF.hI,hLF.hE,hLF.hM,hLF.UI,hLF.UE,hLF.UM,hLF.IE,hLF.IM,hLF.ME⟩)
 have C:=Hq (show Cst A s cap (foldV fs) aU aI lo dup from ⟨hs,hcap,hlo,hdup,hLF.hU,hLF.hI,hLF.UI⟩)
 have HL:=Hq hLF
 have HB:=Hq hB
 have HD:=Hq (show B<d∧b0≤d by omega)
 have HDE:=Hq hd
 have HM:=Hq hm
 have H00:=Hq h00
 have HB0w:=Hq hb0
 obtain ⟨r,HR⟩:∃ r,Hid (r=tkn (chkD dup) lo m (bytes s)):=⟨_,Hq rfl⟩
 rw [← HR.out]
 clear hLF hB hBl hs hcap hn hO hdup hlo h549 hb0 hm hd h00
 go_enter_defers Tryz.func20,Tryz.ntmps20
 go_wp2_with fail
 refine G.out.mono ?_
 rintro e w1 ⟨rfl,⟨p,s2,s3,hbd⟩,hg1⟩
 have hL1:=HL.out.gb0 hg1
 have hg2:w1.grownBy (w1.alloc (.cells #[.int .u64 0] 112)) none:=World.grownBy_alloc w1 _ none
 have hL2:=hL1.gb0 hg2
 have hd1:d<w1.heap.size:=(Array.getElem?_eq_some_iff.1 hbd).1
 have hdw:=HDE.out
 have hBd:=HD.out.1
 have hb0d:=HD.out.2
 have h18:=HL.out.gl.size
 have hsz:(w1.alloc (.cells #[.int .u64 0] 112)).heap.size=w1.heap.size+1:=by simp
 have hAd:∀ a∈A,a.block<d:=fun a ha=>by
  obtain ⟨cc,t,e⟩:=HL.out.eb a ha
  have:=(Array.getElem?_eq_some_iff.1 e).1
  omega
 have hdb:DB (w1.alloc (.cells #[.int .u64 0] 112)) d (bufD (some ⟨B,0,none⟩) s.size cap p (foldV fs) s2 s3) B cap s (foldV fs) 0:=⟨(hg2.block d hd1 (by simp)).trans hbd,⟨rfl,rfl,rfl,rfl,rfl,rfl,⟨p,rfl⟩⟩⟩
 have hbf:Bf (w1.alloc (.cells #[.int .u64 0] 112)) B s:=(HB.out.kept (hg1.block B (by omega) (by simp))).kept (hg2.block B (by omega) (by simp))
 have hDS:DS A (w1.alloc (.cells #[.int .u64 0] 112)) (fun _=>0) (w1.alloc (.cells #[.int .u64 0] 112)).heap.size d w1.heap.size B cap 0 s (foldV fs) 0 (.iface 260 (.pointer (some aU))) (.iface 260 (.pointer (some aI))) (bufD (some ⟨B,0,none⟩) s.size cap p (foldV fs) s2 s3) (.slice none 0 0):=
  ⟨hdb,rfl,.inl ⟨rfl,rfl⟩,⟨0,heap_alloc_new w1 _,by decide,by decide⟩,hbf,hL2.gl,hL2.g2,hL2.eb,fun _ _=>rfl,Nat.le_refl _,by omega,by omega,by omega,by omega,fun a ha=>by have:=hAd a ha; omega,by omega,by omega,by omega,by omega,by omega,fun a ha=>by have:=hAd a ha; omega⟩
 have hRQ:RQ A b0 (w1.alloc (.cells #[.int .u64 0] 112)).heap.size d B cap s (foldV fs) 0 aU aI aE aM 0 (bufD (some ⟨B,0,none⟩) s.size cap p (foldV fs) s2 s3) none 0 (.slice none 0 0) (fun _=>0) w (w1.alloc (.cells #[.int .u64 0] 112)):=
  ⟨⟨hdb,⟨rfl,rfl,rfl,rfl,rfl⟩,hbf,hL2.gl,hL2.eb,hL2.g2.nk,hL2.cE,hL2.cM,by omega,by omega,by omega,fun a ha=>by have:=hAd a ha; omega,.inl rfl⟩,rfl,⟨0,rfl⟩,rfl,⟨rfl,.inl ⟨rfl,rfl⟩⟩,.inl ⟨rfl,rfl⟩,rfl,by omega,Nat.le_refl _,by omega,by omega,
   (Kp.gb0 hg1 (by omega)).trans (Kp.gb0 hg2 (by omega)),(fun g hg=>by cases hg),by omega,fun a ha=>by have:=hAd a ha; omega,by omega,fun _ _=>rfl⟩
 have RV:=Hq (rv28 A b0 _ d B cap m s (foldV fs) aU aI aE aM lo dup _ _ (fun _=>0) w w1 (valAllI m) C.out K.out hRQ hDS (by omega) HM.out)
 have HS1:=Hq (show b0≤w1.heap.size by omega)
 clear hL1 hg2 hL2 hd1 hBd h18 hsz hAd hdb hbf hDS hRQ hbd hg1 G HB hb0d hdw
 go_wp2_with fail
 refine RV.out.mono ?_
 rintro e w2 ⟨ds2,ao2,c2,nsv2,lab2,hcase⟩
 rcases hcase with ⟨j,ao',n',c',hj,rfl,hjs,hq⟩|⟨ho,t,x,rfl,hq⟩
 ·have RD:=Hq (rd29 A b0 _ d B cap s (foldV fs) 1 aU aI aE aM j hjs ds2 ao2 c2 nsv2 lab2 w w2 K.out hq)
  have HS2:=Hq (show b0≤w2.heap.size from Nat.le_trans hq.b0b hq.hb)
  have HRV:=Hq (show r=decide (j+ws ((bytes s).drop j)=s.size) by rw [HR.out]; unfold tkn; rw [hj,bytes_len])
  have HQ2:=Hq hq
  clear hj hjs hq RV
  go_wp2_with fail
  refine RD.out.mono ?_
  rintro e w3 ⟨a,b,c3,v,rfl,hv,hk,hd3⟩
  have cE3:w3.cell? ⟨0,0,none⟩=some (.iface 260 (.pointer (some aE))):=(World.cell?_of_block (w:=w) (a:=⟨0,0,none⟩) (hk.keep 0 H00.out)).trans HL.out.cE
  have cE4:(w3.alloc (.cells #[.pointer a,.string b,.int .u64 c3] 70)).cell? ⟨0,0,none⟩=some (.iface 260 (.pointer (some aE))):=(World.cell?_of_block (w:=w3) (a:=⟨0,0,none⟩) (heap_alloc_old w3 _ (show 0<w3.heap.size by have:=HB0w.out; have:=H00.out; have:=hk.size; omega))).trans cE3
  have HK3:=Hq (And.intro hk hd3)
  have HSZ3:=Hq (show b0≤w3.heap.size from Nat.le_trans HB0w.out hk.size)
  clear hk hd3 RD
  by_cases hc:j+ws ((bytes s).drop j)=s.size
  ·rw [if_pos hc] at hv
   subst hv
   have E:=Hq (show r=true by rw [HRV.out]; exact decide_eq_true hc)
   have e1:=fun w=>eqS aE w
   clear hc
   go_wp2_with fail
   (try simp only [Exit.inBlock,Exit.then])
   rw [E.out]
   exact valid_endA HK3.out.1 HK3.out.2 HD.out.2 HSZ3.out rfl
  ·rw [if_neg hc] at hv
   have E:=Hq (show r=false by rw [HRV.out]; exact decide_eq_false hc)
   clear hc
   rcases hv with rfl|⟨b9,rfl⟩
   ·have e1:=fun w=>eqN (.pointer (some aE)) w
    go_wp2_with fail
    (try simp only [Exit.inBlock,Exit.then])
    rw [E.out]
    exact valid_endA HK3.out.1 HK3.out.2 HD.out.2 HSZ3.out rfl
   ·have e1:=fun w=>eqD2 179 260 (.pointer (some ⟨b9,0,none⟩)) (.pointer (some aE)) w (by decide)
    go_wp2_with fail
    (try simp only [Exit.inBlock,Exit.then])
    rw [E.out]
    exact valid_endA HK3.out.1 HK3.out.2 HD.out.2 HSZ3.out rfl
 ·have RD:=Hq (rd29 A b0 _ d B cap s (foldV fs) 0 aU aI aE aM 0 (Nat.zero_le _) ds2 ao2 c2 nsv2 lab2 w w2 K.out hq)
  have HRV:=Hq (show r=false by rw [HR.out]; unfold tkn; rw [ho])
  clear ho hq RV
  go_wp2_with fail
  refine RD.out.mono ?_
  rintro e w3 ⟨a,b,c3,v,rfl,hv,hk,hd3⟩
  have HK3:=Hq (And.intro hk hd3)
  have HSZ3:=Hq (show b0≤w3.heap.size from Nat.le_trans HB0w.out hk.size)
  have hvf:(∃ t y,v=.iface t y)∨v=.nilIface:=by
   split at hv
   ·exact .inl ⟨_,_,hv⟩
   ·rcases hv with h|⟨_,h⟩
    ·exact .inr h
    ·exact .inl ⟨_,_,h⟩
  clear hk hd3 RD hv
  rcases hvf with ⟨vt,vy,rfl⟩|rfl
  all_goals
   go_wp2_with fail
   (try simp only [Exit.inBlock,Exit.then])
   rw [HRV.out]
   exact valid_endA HK3.out.1 HK3.out.2 HD.out.2 HSZ3.out rfl
theorem valid11(A:List Addr)(aU aI aE aM:Addr)(m:Nat)(s:ByteArray)(du iv fl it ht js ml pr ro co cm:Int)(ind prx:Bool)(sI sP:ByteArray)(hI:Blk sI)(hP:Blk sP)(w:World)(hLF:LF A aU aI aE aM w)(hs:s.size≤4096)(hm:2 * s.size<m):
  Calls Tryz.prog 11 #[.string s,.agg #[.int .i64 du,.int .i64 iv,.int .i64 fl,.int .i64 it,.int .i64 ht,.int .i64 js,.int .i64 ml,.int .i64 pr,.int .i64 ro,.int .i64 co,.int .i64 cm,.bool ind,.string sI,.bool prx,.string sP]] w (VldP w.heap.size (tkn (chkD (decide (du=1))) (decide (iv=1)) m (bytes s)) w):=by
 obtain ⟨W1,hW1⟩:∃ W1,w.alloc (.cells #[.int .i64 du,.int .i64 iv,.int .i64 fl,.int .i64 it,.int .i64 ht,.int .i64 js,.int .i64 ml,.int .i64 pr,.int .i64 ro,.int .i64 co,.int .i64 cm,.bool ind,.string sI,.bool prx,.string sP] 23)=W1:=⟨_,rfl⟩
 have hg1:w.grownBy W1 none:=by rw [← hW1]; exact World.grownBy_alloc w _ none
 have hsz1:W1.heap.size=w.heap.size+1:=by rw [← hW1]; simp
 have hb1:W1.heap[w.heap.size]? = some (.cells #[.int .i64 du,.int .i64 iv,.int .i64 fl,.int .i64 it,.int .i64 ht,.int .i64 js,.int .i64 ml,.int .i64 pr,.int .i64 ro,.int .i64 co,.int .i64 cm,.bool ind,.string sI,.bool prx,.string sP] 23 (0,0)):=by rw [← hW1]; exact heap_alloc_new w _
 have HC:=Lib.run_convert_string_bytes (P:=Tryz.prog) W1 9 48 5 s Tryz.underlying9 Tryz.underlying48 Tryz.underlying5
 have hcp:=grownCap_ge W1 s.size 0 5
 have hbw:=below_gb (Lib.bytesWorld_below W1 5 s)
 have hbf:Bf (Lib.bytesWorld W1 5 s) W1.heap.size s:=fun i hi=>by
  rw [Lib.bytesWorld_cell W1 5 s i hi]
  congr 2
  simp [List.getD,hi]
  rfl
 have hszb:=Lib.bytesWorld_size W1 5 s
 generalize grownCap W1 s.size 0 5=cp at HC hcp
 generalize Lib.bytesWorld W1 5 s=W2 at HC hbw hbf hszb
 have hb2:=(hbw.block _ (Array.getElem?_eq_some_iff.1 hb1).1 (by simp)).trans hb1
 have L:=Hq (list21 du iv fl it ht js ml pr ro co cm ind prx sI sP hI hP W2)
 have HL:=Hq hLF
 have HG:=Hq (hg1.trans hbw)
 have HBF:=Hq (show Bf W2 (w.heap.size+1) s by rw [← hsz1]; exact hbf)
 rw [hsz1] at HC
 have HSZ:=Hq (show W2.heap.size=w.heap.size+2 by omega)
 have HS:=Hq (And.intro hs (And.intro hm hcp))
 obtain ⟨r,HR⟩:∃ r,Hid (r=tkn (chkD (decide (du=1))) (decide (iv=1)) m (bytes s)):=⟨_,Hq rfl⟩
 rw [← HR.out]
 have k0:W2.cell? ⟨w.heap.size,0,none⟩=some (.int .i64 du):=by rw [cell_of_row _ _ _ _ _ (0,0) hb2]; rfl
 have k1:W2.cell? ⟨w.heap.size,1,none⟩=some (.int .i64 iv):=by rw [cell_of_row _ _ _ _ _ (0,0) hb2]; rfl
 have k2:W2.cell? ⟨w.heap.size,2,none⟩=some (.int .i64 fl):=by rw [cell_of_row _ _ _ _ _ (0,0) hb2]; rfl
 have k3:W2.cell? ⟨w.heap.size,3,none⟩=some (.int .i64 it):=by rw [cell_of_row _ _ _ _ _ (0,0) hb2]; rfl
 have k4:W2.cell? ⟨w.heap.size,4,none⟩=some (.int .i64 ht):=by rw [cell_of_row _ _ _ _ _ (0,0) hb2]; rfl
 have k5:W2.cell? ⟨w.heap.size,5,none⟩=some (.int .i64 js):=by rw [cell_of_row _ _ _ _ _ (0,0) hb2]; rfl
 have k6:W2.cell? ⟨w.heap.size,6,none⟩=some (.int .i64 ml):=by rw [cell_of_row _ _ _ _ _ (0,0) hb2]; rfl
 have k7:W2.cell? ⟨w.heap.size,7,none⟩=some (.int .i64 pr):=by rw [cell_of_row _ _ _ _ _ (0,0) hb2]; rfl
 have k8:W2.cell? ⟨w.heap.size,8,none⟩=some (.int .i64 ro):=by rw [cell_of_row _ _ _ _ _ (0,0) hb2]; rfl
 have k9:W2.cell? ⟨w.heap.size,9,none⟩=some (.int .i64 co):=by rw [cell_of_row _ _ _ _ _ (0,0) hb2]; rfl
 have k10:W2.cell? ⟨w.heap.size,10,none⟩=some (.int .i64 cm):=by rw [cell_of_row _ _ _ _ _ (0,0) hb2]; rfl
 have k11:W2.cell? ⟨w.heap.size,11,none⟩=some (.bool ind):=by rw [cell_of_row _ _ _ _ _ (0,0) hb2]; rfl
 have k12:W2.cell? ⟨w.heap.size,12,none⟩=some (.string sI):=by rw [cell_of_row _ _ _ _ _ (0,0) hb2]; rfl
 have k13:W2.cell? ⟨w.heap.size,13,none⟩=some (.bool prx):=by rw [cell_of_row _ _ _ _ _ (0,0) hb2]; rfl
 have k14:W2.cell? ⟨w.heap.size,14,none⟩=some (.string sP):=by rw [cell_of_row _ _ _ _ _ (0,0) hb2]; rfl
 subst hW1
 clear hb1 hb2 hsz1 hszb hbw hbf hg1 hcp hLF hs hm hI hP
 go_enter Tryz.func11,Tryz.ntmps11
 go_wp2_with fail
 refine L.out.mono ?_
 rintro e W3 ⟨ao,n,c,vs,rest,rfl,hn,ho,hr,hg3⟩
 obtain ⟨hf2,hf4,hf5⟩:=flag_facts du iv hr _ rfl
 have hsz3:=hg3.size
 have hw2:=HSZ.out
 have V:=Hq (valid20 A aU aI aE aM w.heap.size (w.heap.size+1) cp n c _ m ao s (decide (iv=1)) (decide (du=1)) vs _ W3 ((HL.out.gb0 HG.out).gb0 hg3) (HBF.out.kept (hg3.block _ (by omega) (by simp))) (by omega) HS.out.1 HS.out.2.2 (by omega) ho hf2 hf4 hf5 (by omega) (by have:=HL.out.gl.size; omega) HS.out.2.1)
 rw [← HR.out] at V
 have HK:=Hq (show Kp w.heap.size w W3 from (Kp.gb0 HG.out (Nat.le_refl _)).trans (Kp.gb0 hg3 (by omega)))
 clear hn ho hr hg3 hf2 hf4 hf5 hsz3 hw2 L
 go_wp2_with fail
 refine V.out.mono ?_
 rintro e W4 ⟨rfl,hk⟩
 have HK4:=Hq hk
 clear hk
 go_wp2_with fail
 go_ret
 exact ⟨rfl,HK.out.trans HK4.out⟩
end Go.Proofs.YtknaalohaagcdaaGreatDoor.Own
