import Derived.Test.YtknaalohaagcdaaGreatDoorG01
import Derived.Test.YtknaalohaagcdaaGreatDoorG22
import Derived.Test.YtknaalohaagcdaaGreatDoorG31
import Derived.Lib.AtoiErrMem
set_option maxHeartbeats 400000000
set_option maxRecDepth 100000
namespace Go.Proofs.YtknaalohaagcdaaGreatDoor.Own
open Go.RowKit JG
def TokV(v:Value):Prop:=∃ p s n,v=.agg #[.pointer p,.string s,.int .u64 n]
theorem gb_setN{w W:World}{x i:Nat}{v:Value}(h:w.grownBy W none)(hx:w.heap.size≤x):w.grownBy (W.setCell ⟨x,i,none⟩ v) none:=
 ⟨h.os,h.tape,h.output,by rw [set_size]; exact h.size,fun b hb hn=>(heap_set_other (by omega)).trans (h.block b hb hn)⟩
theorem info70:(Tryz.prog.info? 70).map (·.size)=some 3:=by kernel_rfl
def TokP(w:World)(e:Ending)(w':World):Prop:=∃ v,e=.returned v∧TokV v∧w.grownBy w' none
theorem tok138(y:ByteArray)(w:World):Calls Tryz.prog 138 #[.string y] w (TokP w):=by
 have HC:=Lib.run_convert_string_bytes (P:=Tryz.prog) (w.alloc (.cells #[.pointer none,.string ⟨#[]⟩,.int .u64 0] 70)) 9 47 5 y Tryz.underlying9 Tryz.underlying47 Tryz.underlying5
 have hb:=Lib.bytesWorld_below (w.alloc (.cells #[.pointer none,.string ⟨#[]⟩,.int .u64 0] 70)) 5 y
 generalize grownCap (w.alloc (.cells #[.pointer none,.string ⟨#[]⟩,.int .u64 0] 70)) y.size 0 5=cp at HC
 generalize Lib.bytesWorld (w.alloc (.cells #[.pointer none,.string ⟨#[]⟩,.int .u64 0] 70)) 5 y=W1 at HC hb
 have hg:=below_gb hb
 have hbl:W1.heap[w.heap.size]? = some (.cells #[.pointer none,.string ⟨#[]⟩,.int .u64 0] 70 (0,0)):=(hg.block w.heap.size (by simp) (by simp)).trans (heap_alloc_new w _)
 have c0:W1.cell? ⟨w.heap.size,0,none⟩=some (.pointer none):=by rw [cell_of_row _ _ _ _ _ (0,0) hbl]; rfl
 have c1:W1.cell? ⟨w.heap.size,1,none⟩=some (.string ⟨#[]⟩):=by rw [cell_of_row _ _ _ _ _ (0,0) hbl]; rfl
 have c2:W1.cell? ⟨w.heap.size,2,none⟩=some (.int .u64 0):=by rw [cell_of_row _ _ _ _ _ (0,0) hbl]; rfl
 have fz:∀ o,W1.frozen? ⟨w.heap.size,o,none⟩=false:=fun o=>by unfold World.frozen?; simp only [hbl]; simp
 have f0:=fz 0
 have f1:=fz 1
 have f2:=fz 2
 have hlt:w.heap.size<W1.heap.size:=(Array.getElem?_eq_some_iff.1 hbl).1
 have HG:=Hq ((World.grownBy_alloc w (.cells #[.pointer none,.string ⟨#[]⟩,.int .u64 0] 70) none).trans hg)
 have HB:=Hq hbl
 clear hg hb hbl fz
 go_enter Tryz.func138,Tryz.ntmps138
 go_wp2_with fail
 exact bodyPost_ret (results_cell_row Tryz.results138 _ _ w.heap.size 70 #[.pointer (some ⟨W1.heap.size,0,none⟩),.string ⟨#[]⟩,.int .u64 0] (0,0) _ rfl ((heap_alloc_old _ _ (by simp only [set_size]; exact hlt)).trans (heap_set_cells (heap_set_cells (heap_set_cells HB.out)))) Tryz.underlying70 rfl info70) rfl
  ⟨_,rfl,⟨_,_,_,rfl⟩,(gb_setN (gb_setN (gb_setN HG.out (Nat.le_refl _)) (Nat.le_refl _)) (Nat.le_refl _)).trans (World.grownBy_alloc _ _ _)⟩
theorem tok88(w:World):Calls Tryz.prog 88 #[] w (TokP w):=by
 have T:=Hq (tok138 ⟨#[110,117,108,108]⟩ (w.alloc (.cells #[.pointer none,.string ⟨#[]⟩,.int .u64 0] 70)))
 go_enter Tryz.func88,Tryz.ntmps88
 go_wp2_with fail
 refine T.out.mono ?_
 rintro e W1 ⟨v,rfl,⟨p,s,n,rfl⟩,hg⟩
 have hbl:W1.heap[w.heap.size]? = some (.cells #[.pointer none,.string ⟨#[]⟩,.int .u64 0] 70 (0,0)):=(hg.block w.heap.size (by simp) (by simp)).trans (heap_alloc_new w _)
 have c0:W1.cell? ⟨w.heap.size,0,none⟩=some (.pointer none):=by rw [cell_of_row _ _ _ _ _ (0,0) hbl]; rfl
 have c1:W1.cell? ⟨w.heap.size,1,none⟩=some (.string ⟨#[]⟩):=by rw [cell_of_row _ _ _ _ _ (0,0) hbl]; rfl
 have c2:W1.cell? ⟨w.heap.size,2,none⟩=some (.int .u64 0):=by rw [cell_of_row _ _ _ _ _ (0,0) hbl]; rfl
 have fz:∀ o,W1.frozen? ⟨w.heap.size,o,none⟩=false:=fun o=>by unfold World.frozen?; simp only [hbl]; simp
 have f0:=fz 0
 have f1:=fz 1
 have f2:=fz 2
 have HG:=Hq ((World.grownBy_alloc w (.cells #[.pointer none,.string ⟨#[]⟩,.int .u64 0] 70) none).trans hg)
 have HB:=Hq hbl
 clear hg hbl fz
 go_wp2_with fail
 exact bodyPost_ret (results_cell_row Tryz.results88 _ _ w.heap.size 70 #[.pointer p,.string s,.int .u64 n] (0,0) _ rfl (heap_set_cells (heap_set_cells (heap_set_cells HB.out))) Tryz.underlying70 rfl info70) rfl
  ⟨_,rfl,⟨_,_,_,rfl⟩,gb_setN (gb_setN (gb_setN HG.out (Nat.le_refl _)) (Nat.le_refl _)) (Nat.le_refl _)⟩
theorem tok90(w:World):Calls Tryz.prog 90 #[] w (TokP w):=by
 have T:=Hq (tok138 ⟨#[102,97,108,115,101]⟩ (w.alloc (.cells #[.pointer none,.string ⟨#[]⟩,.int .u64 0] 70)))
 go_enter Tryz.func90,Tryz.ntmps90
 go_wp2_with fail
 refine T.out.mono ?_
 rintro e W1 ⟨v,rfl,⟨p,s,n,rfl⟩,hg⟩
 have hbl:W1.heap[w.heap.size]? = some (.cells #[.pointer none,.string ⟨#[]⟩,.int .u64 0] 70 (0,0)):=(hg.block w.heap.size (by simp) (by simp)).trans (heap_alloc_new w _)
 have c0:W1.cell? ⟨w.heap.size,0,none⟩=some (.pointer none):=by rw [cell_of_row _ _ _ _ _ (0,0) hbl]; rfl
 have c1:W1.cell? ⟨w.heap.size,1,none⟩=some (.string ⟨#[]⟩):=by rw [cell_of_row _ _ _ _ _ (0,0) hbl]; rfl
 have c2:W1.cell? ⟨w.heap.size,2,none⟩=some (.int .u64 0):=by rw [cell_of_row _ _ _ _ _ (0,0) hbl]; rfl
 have fz:∀ o,W1.frozen? ⟨w.heap.size,o,none⟩=false:=fun o=>by unfold World.frozen?; simp only [hbl]; simp
 have f0:=fz 0
 have f1:=fz 1
 have f2:=fz 2
 have HG:=Hq ((World.grownBy_alloc w (.cells #[.pointer none,.string ⟨#[]⟩,.int .u64 0] 70) none).trans hg)
 have HB:=Hq hbl
 clear hg hbl fz
 go_wp2_with fail
 exact bodyPost_ret (results_cell_row Tryz.results90 _ _ w.heap.size 70 #[.pointer p,.string s,.int .u64 n] (0,0) _ rfl (heap_set_cells (heap_set_cells (heap_set_cells HB.out))) Tryz.underlying70 rfl info70) rfl
  ⟨_,rfl,⟨_,_,_,rfl⟩,gb_setN (gb_setN (gb_setN HG.out (Nat.le_refl _)) (Nat.le_refl _)) (Nat.le_refl _)⟩
theorem tok92(w:World):Calls Tryz.prog 92 #[] w (TokP w):=by
 have T:=Hq (tok138 ⟨#[116,114,117,101]⟩ (w.alloc (.cells #[.pointer none,.string ⟨#[]⟩,.int .u64 0] 70)))
 go_enter Tryz.func92,Tryz.ntmps92
 go_wp2_with fail
 refine T.out.mono ?_
 rintro e W1 ⟨v,rfl,⟨p,s,n,rfl⟩,hg⟩
 have hbl:W1.heap[w.heap.size]? = some (.cells #[.pointer none,.string ⟨#[]⟩,.int .u64 0] 70 (0,0)):=(hg.block w.heap.size (by simp) (by simp)).trans (heap_alloc_new w _)
 have c0:W1.cell? ⟨w.heap.size,0,none⟩=some (.pointer none):=by rw [cell_of_row _ _ _ _ _ (0,0) hbl]; rfl
 have c1:W1.cell? ⟨w.heap.size,1,none⟩=some (.string ⟨#[]⟩):=by rw [cell_of_row _ _ _ _ _ (0,0) hbl]; rfl
 have c2:W1.cell? ⟨w.heap.size,2,none⟩=some (.int .u64 0):=by rw [cell_of_row _ _ _ _ _ (0,0) hbl]; rfl
 have fz:∀ o,W1.frozen? ⟨w.heap.size,o,none⟩=false:=fun o=>by unfold World.frozen?; simp only [hbl]; simp
 have f0:=fz 0
 have f1:=fz 1
 have f2:=fz 2
 have HG:=Hq ((World.grownBy_alloc w (.cells #[.pointer none,.string ⟨#[]⟩,.int .u64 0] 70) none).trans hg)
 have HB:=Hq hbl
 clear hg hbl fz
 go_wp2_with fail
 exact bodyPost_ret (results_cell_row Tryz.results92 _ _ w.heap.size 70 #[.pointer p,.string s,.int .u64 n] (0,0) _ rfl (heap_set_cells (heap_set_cells (heap_set_cells HB.out))) Tryz.underlying70 rfl info70) rfl
  ⟨_,rfl,⟨_,_,_,rfl⟩,gb_setN (gb_setN (gb_setN HG.out (Nat.le_refl _)) (Nat.le_refl _)) (Nat.le_refl _)⟩
theorem tok101(w:World):Calls Tryz.prog 101 #[] w (TokP w):=by
 have T:=Hq (tok138 ⟨#[123]⟩ (w.alloc (.cells #[.pointer none,.string ⟨#[]⟩,.int .u64 0] 70)))
 go_enter Tryz.func101,Tryz.ntmps101
 go_wp2_with fail
 refine T.out.mono ?_
 rintro e W1 ⟨v,rfl,⟨p,s,n,rfl⟩,hg⟩
 have hbl:W1.heap[w.heap.size]? = some (.cells #[.pointer none,.string ⟨#[]⟩,.int .u64 0] 70 (0,0)):=(hg.block w.heap.size (by simp) (by simp)).trans (heap_alloc_new w _)
 have c0:W1.cell? ⟨w.heap.size,0,none⟩=some (.pointer none):=by rw [cell_of_row _ _ _ _ _ (0,0) hbl]; rfl
 have c1:W1.cell? ⟨w.heap.size,1,none⟩=some (.string ⟨#[]⟩):=by rw [cell_of_row _ _ _ _ _ (0,0) hbl]; rfl
 have c2:W1.cell? ⟨w.heap.size,2,none⟩=some (.int .u64 0):=by rw [cell_of_row _ _ _ _ _ (0,0) hbl]; rfl
 have fz:∀ o,W1.frozen? ⟨w.heap.size,o,none⟩=false:=fun o=>by unfold World.frozen?; simp only [hbl]; simp
 have f0:=fz 0
 have f1:=fz 1
 have f2:=fz 2
 have HG:=Hq ((World.grownBy_alloc w (.cells #[.pointer none,.string ⟨#[]⟩,.int .u64 0] 70) none).trans hg)
 have HB:=Hq hbl
 clear hg hbl fz
 go_wp2_with fail
 exact bodyPost_ret (results_cell_row Tryz.results101 _ _ w.heap.size 70 #[.pointer p,.string s,.int .u64 n] (0,0) _ rfl (heap_set_cells (heap_set_cells (heap_set_cells HB.out))) Tryz.underlying70 rfl info70) rfl
  ⟨_,rfl,⟨_,_,_,rfl⟩,gb_setN (gb_setN (gb_setN HG.out (Nat.le_refl _)) (Nat.le_refl _)) (Nat.le_refl _)⟩
theorem tok105(w:World):Calls Tryz.prog 105 #[] w (TokP w):=by
 have T:=Hq (tok138 ⟨#[91]⟩ (w.alloc (.cells #[.pointer none,.string ⟨#[]⟩,.int .u64 0] 70)))
 go_enter Tryz.func105,Tryz.ntmps105
 go_wp2_with fail
 refine T.out.mono ?_
 rintro e W1 ⟨v,rfl,⟨p,s,n,rfl⟩,hg⟩
 have hbl:W1.heap[w.heap.size]? = some (.cells #[.pointer none,.string ⟨#[]⟩,.int .u64 0] 70 (0,0)):=(hg.block w.heap.size (by simp) (by simp)).trans (heap_alloc_new w _)
 have c0:W1.cell? ⟨w.heap.size,0,none⟩=some (.pointer none):=by rw [cell_of_row _ _ _ _ _ (0,0) hbl]; rfl
 have c1:W1.cell? ⟨w.heap.size,1,none⟩=some (.string ⟨#[]⟩):=by rw [cell_of_row _ _ _ _ _ (0,0) hbl]; rfl
 have c2:W1.cell? ⟨w.heap.size,2,none⟩=some (.int .u64 0):=by rw [cell_of_row _ _ _ _ _ (0,0) hbl]; rfl
 have fz:∀ o,W1.frozen? ⟨w.heap.size,o,none⟩=false:=fun o=>by unfold World.frozen?; simp only [hbl]; simp
 have f0:=fz 0
 have f1:=fz 1
 have f2:=fz 2
 have HG:=Hq ((World.grownBy_alloc w (.cells #[.pointer none,.string ⟨#[]⟩,.int .u64 0] 70) none).trans hg)
 have HB:=Hq hbl
 clear hg hbl fz
 go_wp2_with fail
 exact bodyPost_ret (results_cell_row Tryz.results105 _ _ w.heap.size 70 #[.pointer p,.string s,.int .u64 n] (0,0) _ rfl (heap_set_cells (heap_set_cells (heap_set_cells HB.out))) Tryz.underlying70 rfl info70) rfl
  ⟨_,rfl,⟨_,_,_,rfl⟩,gb_setN (gb_setN (gb_setN HG.out (Nat.le_refl _)) (Nat.le_refl _)) (Nat.le_refl _)⟩
theorem clear100(d:Nat)(p v f:Int)(w:World)(c0:w.cell? ⟨d,13,none⟩=some (.int .u64 p))(c1:w.cell? ⟨d,14,none⟩=some (.int .u64 v))(f0:w.frozen? ⟨d,13,none⟩=false)(f1:w.frozen? ⟨d,14,none⟩=false):
  Calls Tryz.prog 100 #[.pointer (some ⟨d,13,none⟩),.int .u64 f] w fun e w'=>e=.returned (.tuple #[])∧∃ a b,w'=(w.setCell ⟨d,13,none⟩ (.int .u64 a)).setCell ⟨d,14,none⟩ (.int .u64 b):=by
 go_enter Tryz.func100,Tryz.ntmps100
 go_wp2_with fail
 go_end0
 exact ⟨rfl,_,_,rfl⟩
theorem inval60(d:Nat)(w:World)(c11:w.cell? ⟨d,11,none⟩=some .nilIface):Calls Tryz.prog 60 #[.pointer (some ⟨d,5,none⟩)] w fun e w'=>e=.returned (.tuple #[])∧∃ n,w'=w.drewN n:=by
 go_enter Tryz.func60,Tryz.ntmps60
 go_wp2_with fail
 go_quiet (fail)
 go_wp2_with fail
 go_end0
 exact ⟨rfl,_,rfl⟩
theorem info3:(Tryz.prog.info? 3).map (fun i=>(i.zero,i.size,i.bytes))=some (some (.int .i64 0),1,8):=by kernel_rfl
theorem push98(d:Nat)(ds:Array Value)(w:World)(hb:w.heap[d]? = some (.cells ds 109 (0,0)))(h2:ds[2]? = some (.slice none 0 0)):Calls Tryz.prog 98 #[.pointer (some ⟨d,2,none⟩)] w fun e w'=>e=.returned (.tuple #[])∧w.grownBy w' (some d)∧∃ v,w'.heap[d]? = some (.cells (ds.setIfInBounds 2 v) 109 (0,0)):=by
 have c2:w.cell? ⟨d,2,none⟩=some (.slice none 0 0):=by rw [cell_of_row _ _ _ _ _ (0,0) hb]; exact h2
 have f2:w.frozen? ⟨d,2,none⟩=false:=by unfold World.frozen?; simp only [hb]; simp
 have hd:d<w.heap.size:=(Array.getElem?_eq_some_iff.1 hb).1
 have HBL:=Hq hb
 obtain ⟨i3,hi,hz0,hz1,hz2⟩:=info_parts info3
 have own0:(w.alloc (.cells #[.int .i64 (-9223372036854775808)] 3)).ownsRow w.heap.size 3 1 (.slice none 0 0) 0 []:=⟨rfl,.inl ⟨rfl,rfl⟩⟩
 have srcN:Src Tryz.prog 1 86 (.slice (some ⟨w.heap.size,0,none⟩) 1 1) 1 [.int .i64 (-9223372036854775808)] (w.alloc (.cells #[.int .i64 (-9223372036854775808)] 3)):=Src.ofSlice _ Tryz.underlying86 _ _ _ _ rfl (World.news_of_block (heap_alloc_new w _)) (by simp [Value.oneCell'])
 have HG:=Hq (World.grownBy_alloc w (.cells #[.int .i64 (-9223372036854775808)] 3) none)
 clear hb h2
 have hb:w.heap.size≤(w.alloc (.cells #[.int .i64 (-9223372036854775808)] 3)).heap.size:=HG.out.size
 have HD:=Hq hd
 clear hd
 go_enter Tryz.func98,Tryz.ntmps98
 go_wp2_with (at_builtin; refine wpList_appS _ rfl _ _ 86 86 rfl w.heap.size 3 i3 _ 8 Tryz.underlying86 hi hz0 hz1 hz2 rfl _ _ _ rfl own0 _ 1 [.int .i64 (-9223372036854775808)] rfl srcN ?d1 ?d2 hb ?_)
 case d1=>simp only [maxLen]; omega
 case d2=>omega
 intro aoB cB w5 q1 q2 q3 q4
 have hg5:w.grownBy w5 none:=HG.out.trans q2
 have c2':w5.cell? ⟨d,2,none⟩=some (.slice none 0 0):=(World.cell?_of_block (w:=w) (a:=⟨d,2,none⟩) (hg5.block d HD.out (by simp))).trans c2
 have f2':w5.frozen? ⟨d,2,none⟩=false:=by
  have:w5.frozen? ⟨d,2,none⟩=w.frozen? ⟨d,2,none⟩:=by unfold World.frozen?; simp only [hg5.block d HD.out (by simp)]
  rw [this]; exact f2
 have HG5:=Hq hg5
 have HB5:=Hq ((hg5.block d HD.out (by simp)).trans HBL.out)
 clear q1 q2 q3 q4 hg5
 go_wp2_with fail
 go_end0
 exact ⟨rfl,(gb_some HG5.out d).trans gb_setD,_,heap_set_cells HB5.out⟩
end Go.Proofs.YtknaalohaagcdaaGreatDoor.Own
