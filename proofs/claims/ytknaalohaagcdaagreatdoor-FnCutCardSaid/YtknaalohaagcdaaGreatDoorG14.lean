import Derived.Test.YtknaalohaagcdaaGreatDoorG01
import Derived.Test.YtknaalohaagcdaaGreatDoorG13
set_option maxHeartbeats 400000000
set_option maxRecDepth 100000
namespace Go.Proofs.YtknaalohaagcdaaGreatDoor.Own
open Go.RowKit JG
def FullP(xs:List Int)(w:World)(e:Ending)(w':World):Prop:=∃ b,e=.returned (.bool b)∧(b=false→∀ c∈xs,128≤c)∧w.grownBy w' none
theorem full_0(B p cap:Nat)(s:ByteArray)(w:World)(hT:Lib.Utf8Tabs 12 13 w)(hp:p<s.size)(hB:Bf w B s)(a:Nat)(ha:s[p].toNat=a)(h128:128≤a)(h255:a≤255)(hk:a≤193∨245≤a):
  Calls Tryz.prog 163 #[.slice (some ⟨B,p,none⟩) (s.size-p) cap] w (FullP ((bytes s).drop p) w):=by
 have c0:=hB p hp
 rw [ha] at c0
 have hBl:B<w.heap.size:=World.block_lt_of_cell? w _ c0
 have hB1:¬ B=w.heap.size:=by omega
 have hB2:¬ w.heap.size=B:=by omega
 have tb:=hT.1 a (by omega)
 have hf:Lib.firstT a=241:=by
  unfold Lib.firstT
  repeat' split
  all_goals first|rfl|omega
 rw [hf] at tb
 have bb:bits BinOp.and IntKind.u8 241 7=1:=by decide
 have i0:(0:Int)<((s.size-p:Nat):Int):=by omega
 have n0:(((s.size-p:Nat):Int)==0)=false:=by simp; omega
 have hda:(bytes s).drop p=((a:Nat):Int)::(bytes s).drop (p+1):=by rw [bytes_drop hp,ha]
 have HD:=Hq hda
 have HB:=Hq hB
 have HT:=Hq hT
 clear hda hB hT hf
 have t1:decide (1≤((s.size-p:Nat):Int))=true:=by simp; omega
 go_enter Tryz.func163,Tryz.ntmps163
 go_wp2_with fail
 go_ret
 exact ⟨true,rfl,(fun h=>by cases h),World.grownBy.refl _ _⟩
theorem full_1(B p cap:Nat)(s:ByteArray)(w:World)(hT:Lib.Utf8Tabs 12 13 w)(hp:p<s.size)(hB:Bf w B s)(a:Nat)(ha:s[p].toNat=a)(h128:128≤a)(h255:a≤255)(hk:194≤a∧a≤223):
  Calls Tryz.prog 163 #[.slice (some ⟨B,p,none⟩) (s.size-p) cap] w (FullP ((bytes s).drop p) w):=by
 have c0:=hB p hp
 rw [ha] at c0
 have hBl:B<w.heap.size:=World.block_lt_of_cell? w _ c0
 have hB1:¬ B=w.heap.size:=by omega
 have hB2:¬ w.heap.size=B:=by omega
 have tb:=hT.1 a (by omega)
 have hf:Lib.firstT a=2:=by
  unfold Lib.firstT
  repeat' split
  all_goals first|rfl|omega
 rw [hf] at tb
 have bb:bits BinOp.and IntKind.u8 2 7=2:=by decide
 have i0:(0:Int)<((s.size-p:Nat):Int):=by omega
 have n0:(((s.size-p:Nat):Int)==0)=false:=by simp; omega
 have hda:(bytes s).drop p=((a:Nat):Int)::(bytes s).drop (p+1):=by rw [bytes_drop hp,ha]
 have HD:=Hq hda
 have HB:=Hq hB
 have HT:=Hq hT
 clear hda hB hT hf
 by_cases hn:2≤s.size-p
 ·have t1:decide (2≤((s.size-p:Nat):Int))=true:=by simp; omega
  go_enter Tryz.func163,Tryz.ntmps163
  go_wp2_with fail
  go_ret
  exact ⟨true,rfl,(fun h=>by cases h),World.grownBy.refl _ _⟩
 have t1:decide (2≤((s.size-p:Nat):Int))=false:=by simp; omega
 have r0:w.cell? ⟨13,0,none⟩=some (.int .u8 128):=(HT.out.2 0 (by decide)).1
 have r1:w.cell? ⟨13,1,none⟩=some (.int .u8 191):=(HT.out.2 0 (by decide)).2
 have FR:=Hq (fun (o:Obj) (n:Nat)=>gb_drewN (World.grownBy_alloc w o none) n)
 by_cases h1:s.size-p=1
 ·have e:(bytes s).drop (p+1)=[]:=bytes_end (by omega)
  have ALL:=Hq (show ∀ c∈(bytes s).drop p,128≤c by rw [HD.out,e]; intro c hc; simp at hc; omega)
  rw [h1] at t1 n0 i0 ⊢
  clear e
  go_enter Tryz.func163,Tryz.ntmps163
  go_wp2_with fail
  go_quiet (fail)
  go_wp2_with fail
  go_ret
  exact ⟨false,rfl,(fun _=>ALL.out),FR.out _ _⟩
 exfalso
 omega
theorem full_2(B p cap:Nat)(s:ByteArray)(w:World)(hT:Lib.Utf8Tabs 12 13 w)(hp:p<s.size)(hB:Bf w B s)(a:Nat)(ha:s[p].toNat=a)(h128:128≤a)(h255:a≤255)(hk:a=224):
  Calls Tryz.prog 163 #[.slice (some ⟨B,p,none⟩) (s.size-p) cap] w (FullP ((bytes s).drop p) w):=by
 subst hk
 have c0:=hB p hp
 rw [ha] at c0
 have hBl:B<w.heap.size:=World.block_lt_of_cell? w _ c0
 have hB1:¬ B=w.heap.size:=by omega
 have hB2:¬ w.heap.size=B:=by omega
 have tb:=hT.1 224 (by omega)
 have hf:Lib.firstT 224=19:=by
  unfold Lib.firstT
  repeat' split
  all_goals first|rfl|omega
 rw [hf] at tb
 have bb:bits BinOp.and IntKind.u8 19 7=3:=by decide
 have i0:(0:Int)<((s.size-p:Nat):Int):=by omega
 have n0:(((s.size-p:Nat):Int)==0)=false:=by simp; omega
 have hda:(bytes s).drop p=((224:Nat):Int)::(bytes s).drop (p+1):=by rw [bytes_drop hp,ha]
 have HD:=Hq hda
 have HB:=Hq hB
 have HT:=Hq hT
 clear hda hB hT hf
 by_cases hn:3≤s.size-p
 ·have t1:decide (3≤((s.size-p:Nat):Int))=true:=by simp; omega
  go_enter Tryz.func163,Tryz.ntmps163
  go_wp2_with fail
  go_ret
  exact ⟨true,rfl,(fun h=>by cases h),World.grownBy.refl _ _⟩
 have t1:decide (3≤((s.size-p:Nat):Int))=false:=by simp; omega
 have r0:w.cell? ⟨13,2,none⟩=some (.int .u8 160):=(HT.out.2 1 (by decide)).1
 have r1:w.cell? ⟨13,3,none⟩=some (.int .u8 191):=(HT.out.2 1 (by decide)).2
 have FR:=Hq (fun (o:Obj) (n:Nat)=>gb_drewN (World.grownBy_alloc w o none) n)
 by_cases h1:s.size-p=1
 ·have e:(bytes s).drop (p+1)=[]:=bytes_end (by omega)
  have ALL:=Hq (show ∀ c∈(bytes s).drop p,128≤c by rw [HD.out,e]; intro c hc; simp at hc; omega)
  rw [h1] at t1 n0 i0 ⊢
  clear e
  go_enter Tryz.func163,Tryz.ntmps163
  go_wp2_with fail
  go_quiet (fail)
  go_wp2_with fail
  go_ret
  exact ⟨false,rfl,(fun _=>ALL.out),FR.out _ _⟩
 have hp1:p+1<s.size:=by omega
 have c1:=HB.out (p+1) hp1
 have hd1:=bytes_drop hp1
 have hl1:=s[p+1].toNat_lt
 have HD1:=Hq hd1
 generalize (s[p+1].toNat:Int)=b at c1 HD1
 clear hd1
 by_cases h2:s.size-p=2
 ·have e:(bytes s).drop (p+1+1)=[]:=bytes_end (by omega)
  rw [h2] at t1 n0 i0 ⊢
  by_cases k1:b<160
  ·have u1:decide (b<160)=true:=by simpa using k1
   clear e
   go_enter Tryz.func163,Tryz.ntmps163
   go_wp2_with fail
   go_quiet (fail)
   go_wp2_with fail
   go_ret
   exact ⟨true,rfl,(fun h=>by cases h),FR.out _ _⟩
  have u1:decide (b<160)=false:=by simpa using k1
  by_cases k2:191<b
  ·have u2:decide (191<b)=true:=by simpa using k2
   clear e
   go_enter Tryz.func163,Tryz.ntmps163
   go_wp2_with fail
   go_quiet (fail)
   go_wp2_with fail
   go_ret
   exact ⟨true,rfl,(fun h=>by cases h),FR.out _ _⟩
  have u2:decide (191<b)=false:=by simpa using k2
  have ALL:=Hq (show ∀ c∈(bytes s).drop p,128≤c by rw [HD.out,HD1.out,e]; intro c hc; simp at hc; omega)
  clear e
  go_enter Tryz.func163,Tryz.ntmps163
  go_wp2_with fail
  go_quiet (fail)
  go_wp2_with fail
  go_ret
  exact ⟨false,rfl,(fun _=>ALL.out),FR.out _ _⟩
 exfalso
 omega
theorem full_3(B p cap:Nat)(s:ByteArray)(w:World)(hT:Lib.Utf8Tabs 12 13 w)(hp:p<s.size)(hB:Bf w B s)(a:Nat)(ha:s[p].toNat=a)(h128:128≤a)(h255:a≤255)(hk:(225≤a∧a≤236)∨a=238∨a=239):
  Calls Tryz.prog 163 #[.slice (some ⟨B,p,none⟩) (s.size-p) cap] w (FullP ((bytes s).drop p) w):=by
 have c0:=hB p hp
 rw [ha] at c0
 have hBl:B<w.heap.size:=World.block_lt_of_cell? w _ c0
 have hB1:¬ B=w.heap.size:=by omega
 have hB2:¬ w.heap.size=B:=by omega
 have tb:=hT.1 a (by omega)
 have hf:Lib.firstT a=3:=by
  unfold Lib.firstT
  repeat' split
  all_goals first|rfl|omega
 rw [hf] at tb
 have bb:bits BinOp.and IntKind.u8 3 7=3:=by decide
 have i0:(0:Int)<((s.size-p:Nat):Int):=by omega
 have n0:(((s.size-p:Nat):Int)==0)=false:=by simp; omega
 have hda:(bytes s).drop p=((a:Nat):Int)::(bytes s).drop (p+1):=by rw [bytes_drop hp,ha]
 have HD:=Hq hda
 have HB:=Hq hB
 have HT:=Hq hT
 clear hda hB hT hf
 by_cases hn:3≤s.size-p
 ·have t1:decide (3≤((s.size-p:Nat):Int))=true:=by simp; omega
  go_enter Tryz.func163,Tryz.ntmps163
  go_wp2_with fail
  go_ret
  exact ⟨true,rfl,(fun h=>by cases h),World.grownBy.refl _ _⟩
 have t1:decide (3≤((s.size-p:Nat):Int))=false:=by simp; omega
 have r0:w.cell? ⟨13,0,none⟩=some (.int .u8 128):=(HT.out.2 0 (by decide)).1
 have r1:w.cell? ⟨13,1,none⟩=some (.int .u8 191):=(HT.out.2 0 (by decide)).2
 have FR:=Hq (fun (o:Obj) (n:Nat)=>gb_drewN (World.grownBy_alloc w o none) n)
 by_cases h1:s.size-p=1
 ·have e:(bytes s).drop (p+1)=[]:=bytes_end (by omega)
  have ALL:=Hq (show ∀ c∈(bytes s).drop p,128≤c by rw [HD.out,e]; intro c hc; simp at hc; omega)
  rw [h1] at t1 n0 i0 ⊢
  clear e
  go_enter Tryz.func163,Tryz.ntmps163
  go_wp2_with fail
  go_quiet (fail)
  go_wp2_with fail
  go_ret
  exact ⟨false,rfl,(fun _=>ALL.out),FR.out _ _⟩
 have hp1:p+1<s.size:=by omega
 have c1:=HB.out (p+1) hp1
 have hd1:=bytes_drop hp1
 have hl1:=s[p+1].toNat_lt
 have HD1:=Hq hd1
 generalize (s[p+1].toNat:Int)=b at c1 HD1
 clear hd1
 by_cases h2:s.size-p=2
 ·have e:(bytes s).drop (p+1+1)=[]:=bytes_end (by omega)
  rw [h2] at t1 n0 i0 ⊢
  by_cases k1:b<128
  ·have u1:decide (b<128)=true:=by simpa using k1
   clear e
   go_enter Tryz.func163,Tryz.ntmps163
   go_wp2_with fail
   go_quiet (fail)
   go_wp2_with fail
   go_ret
   exact ⟨true,rfl,(fun h=>by cases h),FR.out _ _⟩
  have u1:decide (b<128)=false:=by simpa using k1
  by_cases k2:191<b
  ·have u2:decide (191<b)=true:=by simpa using k2
   clear e
   go_enter Tryz.func163,Tryz.ntmps163
   go_wp2_with fail
   go_quiet (fail)
   go_wp2_with fail
   go_ret
   exact ⟨true,rfl,(fun h=>by cases h),FR.out _ _⟩
  have u2:decide (191<b)=false:=by simpa using k2
  have ALL:=Hq (show ∀ c∈(bytes s).drop p,128≤c by rw [HD.out,HD1.out,e]; intro c hc; simp at hc; omega)
  clear e
  go_enter Tryz.func163,Tryz.ntmps163
  go_wp2_with fail
  go_quiet (fail)
  go_wp2_with fail
  go_ret
  exact ⟨false,rfl,(fun _=>ALL.out),FR.out _ _⟩
 exfalso
 omega
theorem full_4(B p cap:Nat)(s:ByteArray)(w:World)(hT:Lib.Utf8Tabs 12 13 w)(hp:p<s.size)(hB:Bf w B s)(a:Nat)(ha:s[p].toNat=a)(h128:128≤a)(h255:a≤255)(hk:a=237):
  Calls Tryz.prog 163 #[.slice (some ⟨B,p,none⟩) (s.size-p) cap] w (FullP ((bytes s).drop p) w):=by
 subst hk
 have c0:=hB p hp
 rw [ha] at c0
 have hBl:B<w.heap.size:=World.block_lt_of_cell? w _ c0
 have hB1:¬ B=w.heap.size:=by omega
 have hB2:¬ w.heap.size=B:=by omega
 have tb:=hT.1 237 (by omega)
 have hf:Lib.firstT 237=35:=by
  unfold Lib.firstT
  repeat' split
  all_goals first|rfl|omega
 rw [hf] at tb
 have bb:bits BinOp.and IntKind.u8 35 7=3:=by decide
 have i0:(0:Int)<((s.size-p:Nat):Int):=by omega
 have n0:(((s.size-p:Nat):Int)==0)=false:=by simp; omega
 have hda:(bytes s).drop p=((237:Nat):Int)::(bytes s).drop (p+1):=by rw [bytes_drop hp,ha]
 have HD:=Hq hda
 have HB:=Hq hB
 have HT:=Hq hT
 clear hda hB hT hf
 by_cases hn:3≤s.size-p
 ·have t1:decide (3≤((s.size-p:Nat):Int))=true:=by simp; omega
  go_enter Tryz.func163,Tryz.ntmps163
  go_wp2_with fail
  go_ret
  exact ⟨true,rfl,(fun h=>by cases h),World.grownBy.refl _ _⟩
 have t1:decide (3≤((s.size-p:Nat):Int))=false:=by simp; omega
 have r0:w.cell? ⟨13,4,none⟩=some (.int .u8 128):=(HT.out.2 2 (by decide)).1
 have r1:w.cell? ⟨13,5,none⟩=some (.int .u8 159):=(HT.out.2 2 (by decide)).2
 have FR:=Hq (fun (o:Obj) (n:Nat)=>gb_drewN (World.grownBy_alloc w o none) n)
 by_cases h1:s.size-p=1
 ·have e:(bytes s).drop (p+1)=[]:=bytes_end (by omega)
  have ALL:=Hq (show ∀ c∈(bytes s).drop p,128≤c by rw [HD.out,e]; intro c hc; simp at hc; omega)
  rw [h1] at t1 n0 i0 ⊢
  clear e
  go_enter Tryz.func163,Tryz.ntmps163
  go_wp2_with fail
  go_quiet (fail)
  go_wp2_with fail
  go_ret
  exact ⟨false,rfl,(fun _=>ALL.out),FR.out _ _⟩
 have hp1:p+1<s.size:=by omega
 have c1:=HB.out (p+1) hp1
 have hd1:=bytes_drop hp1
 have hl1:=s[p+1].toNat_lt
 have HD1:=Hq hd1
 generalize (s[p+1].toNat:Int)=b at c1 HD1
 clear hd1
 by_cases h2:s.size-p=2
 ·have e:(bytes s).drop (p+1+1)=[]:=bytes_end (by omega)
  rw [h2] at t1 n0 i0 ⊢
  by_cases k1:b<128
  ·have u1:decide (b<128)=true:=by simpa using k1
   clear e
   go_enter Tryz.func163,Tryz.ntmps163
   go_wp2_with fail
   go_quiet (fail)
   go_wp2_with fail
   go_ret
   exact ⟨true,rfl,(fun h=>by cases h),FR.out _ _⟩
  have u1:decide (b<128)=false:=by simpa using k1
  by_cases k2:159<b
  ·have u2:decide (159<b)=true:=by simpa using k2
   clear e
   go_enter Tryz.func163,Tryz.ntmps163
   go_wp2_with fail
   go_quiet (fail)
   go_wp2_with fail
   go_ret
   exact ⟨true,rfl,(fun h=>by cases h),FR.out _ _⟩
  have u2:decide (159<b)=false:=by simpa using k2
  have ALL:=Hq (show ∀ c∈(bytes s).drop p,128≤c by rw [HD.out,HD1.out,e]; intro c hc; simp at hc; omega)
  clear e
  go_enter Tryz.func163,Tryz.ntmps163
  go_wp2_with fail
  go_quiet (fail)
  go_wp2_with fail
  go_ret
  exact ⟨false,rfl,(fun _=>ALL.out),FR.out _ _⟩
 exfalso
 omega
theorem full_5(B p cap:Nat)(s:ByteArray)(w:World)(hT:Lib.Utf8Tabs 12 13 w)(hp:p<s.size)(hB:Bf w B s)(a:Nat)(ha:s[p].toNat=a)(h128:128≤a)(h255:a≤255)(hk:a=240):
  Calls Tryz.prog 163 #[.slice (some ⟨B,p,none⟩) (s.size-p) cap] w (FullP ((bytes s).drop p) w):=by
 subst hk
 have c0:=hB p hp
 rw [ha] at c0
 have hBl:B<w.heap.size:=World.block_lt_of_cell? w _ c0
 have hB1:¬ B=w.heap.size:=by omega
 have hB2:¬ w.heap.size=B:=by omega
 have tb:=hT.1 240 (by omega)
 have hf:Lib.firstT 240=52:=by
  unfold Lib.firstT
  repeat' split
  all_goals first|rfl|omega
 rw [hf] at tb
 have bb:bits BinOp.and IntKind.u8 52 7=4:=by decide
 have i0:(0:Int)<((s.size-p:Nat):Int):=by omega
 have n0:(((s.size-p:Nat):Int)==0)=false:=by simp; omega
 have hda:(bytes s).drop p=((240:Nat):Int)::(bytes s).drop (p+1):=by rw [bytes_drop hp,ha]
 have HD:=Hq hda
 have HB:=Hq hB
 have HT:=Hq hT
 clear hda hB hT hf
 by_cases hn:4≤s.size-p
 ·have t1:decide (4≤((s.size-p:Nat):Int))=true:=by simp; omega
  go_enter Tryz.func163,Tryz.ntmps163
  go_wp2_with fail
  go_ret
  exact ⟨true,rfl,(fun h=>by cases h),World.grownBy.refl _ _⟩
 have t1:decide (4≤((s.size-p:Nat):Int))=false:=by simp; omega
 have r0:w.cell? ⟨13,6,none⟩=some (.int .u8 144):=(HT.out.2 3 (by decide)).1
 have r1:w.cell? ⟨13,7,none⟩=some (.int .u8 191):=(HT.out.2 3 (by decide)).2
 have FR:=Hq (fun (o:Obj) (n:Nat)=>gb_drewN (World.grownBy_alloc w o none) n)
 by_cases h1:s.size-p=1
 ·have e:(bytes s).drop (p+1)=[]:=bytes_end (by omega)
  have ALL:=Hq (show ∀ c∈(bytes s).drop p,128≤c by rw [HD.out,e]; intro c hc; simp at hc; omega)
  rw [h1] at t1 n0 i0 ⊢
  clear e
  go_enter Tryz.func163,Tryz.ntmps163
  go_wp2_with fail
  go_quiet (fail)
  go_wp2_with fail
  go_ret
  exact ⟨false,rfl,(fun _=>ALL.out),FR.out _ _⟩
 have hp1:p+1<s.size:=by omega
 have c1:=HB.out (p+1) hp1
 have hd1:=bytes_drop hp1
 have hl1:=s[p+1].toNat_lt
 have HD1:=Hq hd1
 generalize (s[p+1].toNat:Int)=b at c1 HD1
 clear hd1
 by_cases h2:s.size-p=2
 ·have e:(bytes s).drop (p+1+1)=[]:=bytes_end (by omega)
  rw [h2] at t1 n0 i0 ⊢
  by_cases k1:b<144
  ·have u1:decide (b<144)=true:=by simpa using k1
   clear e
   go_enter Tryz.func163,Tryz.ntmps163
   go_wp2_with fail
   go_quiet (fail)
   go_wp2_with fail
   go_ret
   exact ⟨true,rfl,(fun h=>by cases h),FR.out _ _⟩
  have u1:decide (b<144)=false:=by simpa using k1
  by_cases k2:191<b
  ·have u2:decide (191<b)=true:=by simpa using k2
   clear e
   go_enter Tryz.func163,Tryz.ntmps163
   go_wp2_with fail
   go_quiet (fail)
   go_wp2_with fail
   go_ret
   exact ⟨true,rfl,(fun h=>by cases h),FR.out _ _⟩
  have u2:decide (191<b)=false:=by simpa using k2
  have ALL:=Hq (show ∀ c∈(bytes s).drop p,128≤c by rw [HD.out,HD1.out,e]; intro c hc; simp at hc; omega)
  clear e
  go_enter Tryz.func163,Tryz.ntmps163
  go_wp2_with fail
  go_quiet (fail)
  go_wp2_with fail
  go_ret
  exact ⟨false,rfl,(fun _=>ALL.out),FR.out _ _⟩
 have h3:s.size-p=3:=by omega
 have hp2:p+1+1<s.size:=by omega
 have c2:=HB.out (p+2) hp2
 have hd2:=bytes_drop hp2
 have HD2:=Hq hd2
 generalize hcc:(s[p+1+1].toNat:Int)=d at HD2
 rw [show (s[p+2].toNat:Int)=d from hcc] at c2
 have e:(bytes s).drop (p+1+1+1)=[]:=bytes_end (by omega)
 clear hd2 hcc
 rw [h3] at t1 n0 i0 ⊢
 by_cases k1:b<144
 ·have u1:decide (b<144)=true:=by simpa using k1
  clear e
  go_enter Tryz.func163,Tryz.ntmps163
  go_wp2_with fail
  go_quiet (fail)
  go_wp2_with fail
  go_ret
  exact ⟨true,rfl,(fun h=>by cases h),FR.out _ _⟩
 have u1:decide (b<144)=false:=by simpa using k1
 by_cases k2:191<b
 ·have u2:decide (191<b)=true:=by simpa using k2
  clear e
  go_enter Tryz.func163,Tryz.ntmps163
  go_wp2_with fail
  go_quiet (fail)
  go_wp2_with fail
  go_ret
  exact ⟨true,rfl,(fun h=>by cases h),FR.out _ _⟩
 have u2:decide (191<b)=false:=by simpa using k2
 by_cases k3:d<128
 ·have u3:decide (d<128)=true:=by simpa using k3
  clear e
  go_enter Tryz.func163,Tryz.ntmps163
  go_wp2_with fail
  go_quiet (fail)
  go_wp2_with fail
  go_ret
  exact ⟨true,rfl,(fun h=>by cases h),FR.out _ _⟩
 have u3:decide (d<128)=false:=by simpa using k3
 by_cases k4:191<d
 ·have u4:decide (191<d)=true:=by simpa using k4
  clear e
  go_enter Tryz.func163,Tryz.ntmps163
  go_wp2_with fail
  go_quiet (fail)
  go_wp2_with fail
  go_ret
  exact ⟨true,rfl,(fun h=>by cases h),FR.out _ _⟩
 have u4:decide (191<d)=false:=by simpa using k4
 have ALL:=Hq (show ∀ c∈(bytes s).drop p,128≤c by rw [HD.out,HD1.out,HD2.out,e]; intro c hc; simp at hc; omega)
 clear e
 go_enter Tryz.func163,Tryz.ntmps163
 go_wp2_with fail
 go_quiet (fail)
 go_wp2_with fail
 go_ret
 exact ⟨false,rfl,(fun _=>ALL.out),FR.out _ _⟩
theorem full_6(B p cap:Nat)(s:ByteArray)(w:World)(hT:Lib.Utf8Tabs 12 13 w)(hp:p<s.size)(hB:Bf w B s)(a:Nat)(ha:s[p].toNat=a)(h128:128≤a)(h255:a≤255)(hk:241≤a∧a≤243):
  Calls Tryz.prog 163 #[.slice (some ⟨B,p,none⟩) (s.size-p) cap] w (FullP ((bytes s).drop p) w):=by
 have c0:=hB p hp
 rw [ha] at c0
 have hBl:B<w.heap.size:=World.block_lt_of_cell? w _ c0
 have hB1:¬ B=w.heap.size:=by omega
 have hB2:¬ w.heap.size=B:=by omega
 have tb:=hT.1 a (by omega)
 have hf:Lib.firstT a=4:=by
  unfold Lib.firstT
  repeat' split
  all_goals first|rfl|omega
 rw [hf] at tb
 have bb:bits BinOp.and IntKind.u8 4 7=4:=by decide
 have i0:(0:Int)<((s.size-p:Nat):Int):=by omega
 have n0:(((s.size-p:Nat):Int)==0)=false:=by simp; omega
 have hda:(bytes s).drop p=((a:Nat):Int)::(bytes s).drop (p+1):=by rw [bytes_drop hp,ha]
 have HD:=Hq hda
 have HB:=Hq hB
 have HT:=Hq hT
 clear hda hB hT hf
 by_cases hn:4≤s.size-p
 ·have t1:decide (4≤((s.size-p:Nat):Int))=true:=by simp; omega
  go_enter Tryz.func163,Tryz.ntmps163
  go_wp2_with fail
  go_ret
  exact ⟨true,rfl,(fun h=>by cases h),World.grownBy.refl _ _⟩
 have t1:decide (4≤((s.size-p:Nat):Int))=false:=by simp; omega
 have r0:w.cell? ⟨13,0,none⟩=some (.int .u8 128):=(HT.out.2 0 (by decide)).1
 have r1:w.cell? ⟨13,1,none⟩=some (.int .u8 191):=(HT.out.2 0 (by decide)).2
 have FR:=Hq (fun (o:Obj) (n:Nat)=>gb_drewN (World.grownBy_alloc w o none) n)
 by_cases h1:s.size-p=1
 ·have e:(bytes s).drop (p+1)=[]:=bytes_end (by omega)
  have ALL:=Hq (show ∀ c∈(bytes s).drop p,128≤c by rw [HD.out,e]; intro c hc; simp at hc; omega)
  rw [h1] at t1 n0 i0 ⊢
  clear e
  go_enter Tryz.func163,Tryz.ntmps163
  go_wp2_with fail
  go_quiet (fail)
  go_wp2_with fail
  go_ret
  exact ⟨false,rfl,(fun _=>ALL.out),FR.out _ _⟩
 have hp1:p+1<s.size:=by omega
 have c1:=HB.out (p+1) hp1
 have hd1:=bytes_drop hp1
 have hl1:=s[p+1].toNat_lt
 have HD1:=Hq hd1
 generalize (s[p+1].toNat:Int)=b at c1 HD1
 clear hd1
 by_cases h2:s.size-p=2
 ·have e:(bytes s).drop (p+1+1)=[]:=bytes_end (by omega)
  rw [h2] at t1 n0 i0 ⊢
  by_cases k1:b<128
  ·have u1:decide (b<128)=true:=by simpa using k1
   clear e
   go_enter Tryz.func163,Tryz.ntmps163
   go_wp2_with fail
   go_quiet (fail)
   go_wp2_with fail
   go_ret
   exact ⟨true,rfl,(fun h=>by cases h),FR.out _ _⟩
  have u1:decide (b<128)=false:=by simpa using k1
  by_cases k2:191<b
  ·have u2:decide (191<b)=true:=by simpa using k2
   clear e
   go_enter Tryz.func163,Tryz.ntmps163
   go_wp2_with fail
   go_quiet (fail)
   go_wp2_with fail
   go_ret
   exact ⟨true,rfl,(fun h=>by cases h),FR.out _ _⟩
  have u2:decide (191<b)=false:=by simpa using k2
  have ALL:=Hq (show ∀ c∈(bytes s).drop p,128≤c by rw [HD.out,HD1.out,e]; intro c hc; simp at hc; omega)
  clear e
  go_enter Tryz.func163,Tryz.ntmps163
  go_wp2_with fail
  go_quiet (fail)
  go_wp2_with fail
  go_ret
  exact ⟨false,rfl,(fun _=>ALL.out),FR.out _ _⟩
 have h3:s.size-p=3:=by omega
 have hp2:p+1+1<s.size:=by omega
 have c2:=HB.out (p+2) hp2
 have hd2:=bytes_drop hp2
 have HD2:=Hq hd2
 generalize hcc:(s[p+1+1].toNat:Int)=d at HD2
 rw [show (s[p+2].toNat:Int)=d from hcc] at c2
 have e:(bytes s).drop (p+1+1+1)=[]:=bytes_end (by omega)
 clear hd2 hcc
 rw [h3] at t1 n0 i0 ⊢
 by_cases k1:b<128
 ·have u1:decide (b<128)=true:=by simpa using k1
  clear e
  go_enter Tryz.func163,Tryz.ntmps163
  go_wp2_with fail
  go_quiet (fail)
  go_wp2_with fail
  go_ret
  exact ⟨true,rfl,(fun h=>by cases h),FR.out _ _⟩
 have u1:decide (b<128)=false:=by simpa using k1
 by_cases k2:191<b
 ·have u2:decide (191<b)=true:=by simpa using k2
  clear e
  go_enter Tryz.func163,Tryz.ntmps163
  go_wp2_with fail
  go_quiet (fail)
  go_wp2_with fail
  go_ret
  exact ⟨true,rfl,(fun h=>by cases h),FR.out _ _⟩
 have u2:decide (191<b)=false:=by simpa using k2
 by_cases k3:d<128
 ·have u3:decide (d<128)=true:=by simpa using k3
  clear e
  go_enter Tryz.func163,Tryz.ntmps163
  go_wp2_with fail
  go_quiet (fail)
  go_wp2_with fail
  go_ret
  exact ⟨true,rfl,(fun h=>by cases h),FR.out _ _⟩
 have u3:decide (d<128)=false:=by simpa using k3
 by_cases k4:191<d
 ·have u4:decide (191<d)=true:=by simpa using k4
  clear e
  go_enter Tryz.func163,Tryz.ntmps163
  go_wp2_with fail
  go_quiet (fail)
  go_wp2_with fail
  go_ret
  exact ⟨true,rfl,(fun h=>by cases h),FR.out _ _⟩
 have u4:decide (191<d)=false:=by simpa using k4
 have ALL:=Hq (show ∀ c∈(bytes s).drop p,128≤c by rw [HD.out,HD1.out,HD2.out,e]; intro c hc; simp at hc; omega)
 clear e
 go_enter Tryz.func163,Tryz.ntmps163
 go_wp2_with fail
 go_quiet (fail)
 go_wp2_with fail
 go_ret
 exact ⟨false,rfl,(fun _=>ALL.out),FR.out _ _⟩
theorem full_7(B p cap:Nat)(s:ByteArray)(w:World)(hT:Lib.Utf8Tabs 12 13 w)(hp:p<s.size)(hB:Bf w B s)(a:Nat)(ha:s[p].toNat=a)(h128:128≤a)(h255:a≤255)(hk:a=244):
  Calls Tryz.prog 163 #[.slice (some ⟨B,p,none⟩) (s.size-p) cap] w (FullP ((bytes s).drop p) w):=by
 subst hk
 have c0:=hB p hp
 rw [ha] at c0
 have hBl:B<w.heap.size:=World.block_lt_of_cell? w _ c0
 have hB1:¬ B=w.heap.size:=by omega
 have hB2:¬ w.heap.size=B:=by omega
 have tb:=hT.1 244 (by omega)
 have hf:Lib.firstT 244=68:=by
  unfold Lib.firstT
  repeat' split
  all_goals first|rfl|omega
 rw [hf] at tb
 have bb:bits BinOp.and IntKind.u8 68 7=4:=by decide
 have i0:(0:Int)<((s.size-p:Nat):Int):=by omega
 have n0:(((s.size-p:Nat):Int)==0)=false:=by simp; omega
 have hda:(bytes s).drop p=((244:Nat):Int)::(bytes s).drop (p+1):=by rw [bytes_drop hp,ha]
 have HD:=Hq hda
 have HB:=Hq hB
 have HT:=Hq hT
 clear hda hB hT hf
 by_cases hn:4≤s.size-p
 ·have t1:decide (4≤((s.size-p:Nat):Int))=true:=by simp; omega
  go_enter Tryz.func163,Tryz.ntmps163
  go_wp2_with fail
  go_ret
  exact ⟨true,rfl,(fun h=>by cases h),World.grownBy.refl _ _⟩
 have t1:decide (4≤((s.size-p:Nat):Int))=false:=by simp; omega
 have r0:w.cell? ⟨13,8,none⟩=some (.int .u8 128):=(HT.out.2 4 (by decide)).1
 have r1:w.cell? ⟨13,9,none⟩=some (.int .u8 143):=(HT.out.2 4 (by decide)).2
 have FR:=Hq (fun (o:Obj) (n:Nat)=>gb_drewN (World.grownBy_alloc w o none) n)
 by_cases h1:s.size-p=1
 ·have e:(bytes s).drop (p+1)=[]:=bytes_end (by omega)
  have ALL:=Hq (show ∀ c∈(bytes s).drop p,128≤c by rw [HD.out,e]; intro c hc; simp at hc; omega)
  rw [h1] at t1 n0 i0 ⊢
  clear e
  go_enter Tryz.func163,Tryz.ntmps163
  go_wp2_with fail
  go_quiet (fail)
  go_wp2_with fail
  go_ret
  exact ⟨false,rfl,(fun _=>ALL.out),FR.out _ _⟩
 have hp1:p+1<s.size:=by omega
 have c1:=HB.out (p+1) hp1
 have hd1:=bytes_drop hp1
 have hl1:=s[p+1].toNat_lt
 have HD1:=Hq hd1
 generalize (s[p+1].toNat:Int)=b at c1 HD1
 clear hd1
 by_cases h2:s.size-p=2
 ·have e:(bytes s).drop (p+1+1)=[]:=bytes_end (by omega)
  rw [h2] at t1 n0 i0 ⊢
  by_cases k1:b<128
  ·have u1:decide (b<128)=true:=by simpa using k1
   clear e
   go_enter Tryz.func163,Tryz.ntmps163
   go_wp2_with fail
   go_quiet (fail)
   go_wp2_with fail
   go_ret
   exact ⟨true,rfl,(fun h=>by cases h),FR.out _ _⟩
  have u1:decide (b<128)=false:=by simpa using k1
  by_cases k2:143<b
  ·have u2:decide (143<b)=true:=by simpa using k2
   clear e
   go_enter Tryz.func163,Tryz.ntmps163
   go_wp2_with fail
   go_quiet (fail)
   go_wp2_with fail
   go_ret
   exact ⟨true,rfl,(fun h=>by cases h),FR.out _ _⟩
  have u2:decide (143<b)=false:=by simpa using k2
  have ALL:=Hq (show ∀ c∈(bytes s).drop p,128≤c by rw [HD.out,HD1.out,e]; intro c hc; simp at hc; omega)
  clear e
  go_enter Tryz.func163,Tryz.ntmps163
  go_wp2_with fail
  go_quiet (fail)
  go_wp2_with fail
  go_ret
  exact ⟨false,rfl,(fun _=>ALL.out),FR.out _ _⟩
 have h3:s.size-p=3:=by omega
 have hp2:p+1+1<s.size:=by omega
 have c2:=HB.out (p+2) hp2
 have hd2:=bytes_drop hp2
 have HD2:=Hq hd2
 generalize hcc:(s[p+1+1].toNat:Int)=d at HD2
 rw [show (s[p+2].toNat:Int)=d from hcc] at c2
 have e:(bytes s).drop (p+1+1+1)=[]:=bytes_end (by omega)
 clear hd2 hcc
 rw [h3] at t1 n0 i0 ⊢
 by_cases k1:b<128
 ·have u1:decide (b<128)=true:=by simpa using k1
  clear e
  go_enter Tryz.func163,Tryz.ntmps163
  go_wp2_with fail
  go_quiet (fail)
  go_wp2_with fail
  go_ret
  exact ⟨true,rfl,(fun h=>by cases h),FR.out _ _⟩
 have u1:decide (b<128)=false:=by simpa using k1
 by_cases k2:143<b
 ·have u2:decide (143<b)=true:=by simpa using k2
  clear e
  go_enter Tryz.func163,Tryz.ntmps163
  go_wp2_with fail
  go_quiet (fail)
  go_wp2_with fail
  go_ret
  exact ⟨true,rfl,(fun h=>by cases h),FR.out _ _⟩
 have u2:decide (143<b)=false:=by simpa using k2
 by_cases k3:d<128
 ·have u3:decide (d<128)=true:=by simpa using k3
  clear e
  go_enter Tryz.func163,Tryz.ntmps163
  go_wp2_with fail
  go_quiet (fail)
  go_wp2_with fail
  go_ret
  exact ⟨true,rfl,(fun h=>by cases h),FR.out _ _⟩
 have u3:decide (d<128)=false:=by simpa using k3
 by_cases k4:191<d
 ·have u4:decide (191<d)=true:=by simpa using k4
  clear e
  go_enter Tryz.func163,Tryz.ntmps163
  go_wp2_with fail
  go_quiet (fail)
  go_wp2_with fail
  go_ret
  exact ⟨true,rfl,(fun h=>by cases h),FR.out _ _⟩
 have u4:decide (191<d)=false:=by simpa using k4
 have ALL:=Hq (show ∀ c∈(bytes s).drop p,128≤c by rw [HD.out,HD1.out,HD2.out,e]; intro c hc; simp at hc; omega)
 clear e
 go_enter Tryz.func163,Tryz.ntmps163
 go_wp2_with fail
 go_quiet (fail)
 go_wp2_with fail
 go_ret
 exact ⟨false,rfl,(fun _=>ALL.out),FR.out _ _⟩
theorem full163(B p cap:Nat)(s:ByteArray)(w:World)(hT:Lib.Utf8Tabs 12 13 w)(hp:p<s.size)(hB:Bf w B s)(h128:¬ (s[p].toNat:Int)<128):
  Calls Tryz.prog 163 #[.slice (some ⟨B,p,none⟩) (s.size-p) cap] w (FullP ((bytes s).drop p) w):=by
 have hl:=s[p].toNat_lt
 rcases (show (s[p].toNat≤193∨245≤s[p].toNat)∨(194≤s[p].toNat∧s[p].toNat≤223)∨(s[p].toNat=224)∨((225≤s[p].toNat∧s[p].toNat≤236)∨s[p].toNat=238∨s[p].toNat=239)∨(s[p].toNat=237)∨(s[p].toNat=240)∨(241≤s[p].toNat∧s[p].toNat≤243)∨(s[p].toNat=244) by omega) with h|h|h|h|h|h|h|h
 ·exact full_0 B p cap s w hT hp hB _ rfl (by omega) (by omega) h
 ·exact full_1 B p cap s w hT hp hB _ rfl (by omega) (by omega) h
 ·exact full_2 B p cap s w hT hp hB _ rfl (by omega) (by omega) h
 ·exact full_3 B p cap s w hT hp hB _ rfl (by omega) (by omega) h
 ·exact full_4 B p cap s w hT hp hB _ rfl (by omega) (by omega) h
 ·exact full_5 B p cap s w hT hp hB _ rfl (by omega) (by omega) h
 ·exact full_6 B p cap s w hT hp hB _ rfl (by omega) (by omega) h
 ·exact full_7 B p cap s w hT hp hB _ rfl (by omega) (by omega) h
def Fl(w:World)(F:Nat)(fl:Int):Prop:=w.heap[F]? = some (.cells #[.int .u64 fl] 112 (0,0))∧0≤fl∧fl<4
theorem Fl.facts{w:World}{F:Nat}{fl:Int}(h:Fl w F fl):w.cell? ⟨F,0,none⟩=some (.int .u64 fl)∧w.frozen? ⟨F,0,none⟩=false:=by
 refine ⟨cell_of_row _ _ 0 _ _ (0,0) h.1,?_⟩
 unfold World.frozen?
 simp only [h.1]
 simp
theorem Fl.block{w w':World}{F:Nat}{fl:Int}(h:Fl w F fl)(e:w'.heap[F]? = w.heap[F]?):Fl w' F fl:=⟨by rw [e]; exact h.1,h.2⟩
theorem Fl.lt{w:World}{F:Nat}{fl:Int}(h:Fl w F fl):F<w.heap.size:=(Array.getElem?_eq_some_iff.1 h.1).1
def Joined(F:Nat)(fl x:Int)(w:World)(e:Ending)(w':World):Prop:=∃ fl',e=.returned (.tuple #[])∧Fl w' F fl'∧(fl' % 2=0→fl % 2=0∧x=2)∧w.grownBy w' (some F)
theorem join152(F:Nat)(fl x:Int)(w:World)(h:Fl w F fl)(hx:x=1∨x=2∨x=3):Calls Tryz.prog 152 #[.pointer (some ⟨F,0,none⟩),.int .u64 x] w (Joined F fl x w):=by
 obtain ⟨c0,f0⟩:=h.facts
 have hb:∃ v,bits .or .u64 fl x=v∧0≤v∧v<4∧(v % 2=0→fl % 2=0∧x=2):=by
  obtain ⟨_,h0,h4⟩:=h
  rcases (show fl=0∨fl=1∨fl=2∨fl=3 by omega) with rfl|rfl|rfl|rfl<;>rcases hx with rfl|rfl|rfl
  all_goals exact ⟨_,rfl,by decide,by decide,by decide⟩
 obtain ⟨v,hv,v0,v4,hvx⟩:=hb
 have H:=Hq h
 have HV:=Hq (And.intro v0 (And.intro v4 hvx))
 clear h v0 v4 hvx hx
 go_enter Tryz.func152,Tryz.ntmps152
 go_wp2_with fail
 go_end0
 refine ⟨v,rfl,⟨?_,HV.out.1,HV.out.2.1⟩,HV.out.2.2,Go.Lib.grownBy_setCell _ _ _ _⟩
 rw [heap_setCell_same _ _ _ _ _ _ H.out.1]
 rfl
structure Gl(eU eI:Value)(w:World):Prop where
 tabs:Lib.Utf8Tabs 12 13 w
 esc:EscTab w
 eof:w.cell? ⟨1,0,none⟩=some eU
 inv:w.cell? ⟨11,0,none⟩=some eI
 size:18≤w.heap.size
theorem Gl.kept{eU eI:Value}{w w':World}(h:Gl eU eI w)(hs:w.heap.size≤w'.heap.size)(hb:∀ i,i<18→w'.heap[i]? = w.heap[i]?):Gl eU eI w':=by
 have hc:∀ b i,b<18→w'.cell? ⟨b,i,none⟩=w.cell? ⟨b,i,none⟩:=fun b i hlt=>World.cell?_of_block (w:=w) (a:=⟨b,i,none⟩) (hb b hlt)
 exact ⟨⟨fun c hc'=>(hc 12 c (by decide)).trans (h.tabs.1 c hc'),fun i hi=>⟨(hc 13 _ (by decide)).trans (h.tabs.2 i hi).1,(hc 13 _ (by decide)).trans (h.tabs.2 i hi).2⟩⟩,
  fun c hc'=>by obtain ⟨v,h1,h2⟩:=h.esc c hc'; exact ⟨v,(hc 9 c (by decide)).trans h1,h2⟩,(hc 1 0 (by decide)).trans h.eof,(hc 11 0 (by decide)).trans h.inv,Nat.le_trans h.size hs⟩
structure SW(B:Nat)(s:ByteArray)(eU eI:Value)(F:Nat)(w:World):Prop where
 buf:Bf w B s
 gl:Gl eU eI w
 bl:B<w.heap.size
 bf:B≠F
 f18:18≤F
theorem SW.kept{B:Nat}{s:ByteArray}{eU eI:Value}{F:Nat}{w w':World}(h:SW B s eU eI F w)(hg:w.grownBy w' (some F)):SW B s eU eI F w':=by
 have hf:=h.f18
 exact ⟨h.buf.kept (hg.block B h.bl (fun e=>h.bf (Option.some.inj e))),h.gl.kept hg.size (fun i hi=>hg.block i (by have:=h.gl.size; omega) (fun e=>by have:=Option.some.inj e; omega)),Nat.lt_of_lt_of_le h.bl hg.size,h.bf,h.f18⟩
theorem gb_some{w w':World}(h:w.grownBy w' none)(F:Nat):w.grownBy w' (some F):=⟨h.os,h.tape,h.output,h.size,fun i hi _=>h.block i hi (by simp)⟩
def StrErr(eU eI:Value)(v:Value):Prop:=v=eU∨v=eI∨∃ b,v=.iface 175 (.pointer (some ⟨b,0,none⟩))
def StrP(lo:Bool)(xs:List Int)(F:Nat)(eU eI:Value)(w:World)(e:Ending)(w':World):Prop:=
 (∃ (j:Nat) (fl':Int),quotedO lo xs=some j∧e=.returned (.tuple #[.int .i64 (j+1:Nat),.nilIface])∧Fl w' F fl'∧(fl' % 2=0→VerbL (xs.tail.take (j-1)))∧w.grownBy w' (some F))∨
 (quotedO lo xs=none∧∃ (n:Nat) (v:Value) (fl':Int),e=.returned (.tuple #[.int .i64 n,v])∧n≤xs.length∧StrErr eU eI v∧Fl w' F fl'∧w.grownBy w' (some F))
end Go.Proofs.YtknaalohaagcdaaGreatDoor.Own
