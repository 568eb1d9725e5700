import Derived.Test.YtknaalohaagcdaaGreatDoorG01
import Derived.Test.YtknaalohaagcdaaGreatDoorG02
import Derived.Test.YtknaalohaagcdaaGreatDoorG05
import Derived.Test.YtknaalohaagcdaaGreatDoorG09
set_option maxHeartbeats 400000000
set_option maxRecDepth 100000
namespace Go.Proofs.YtknaalohaagcdaaGreatDoor.Own
open Go.RowKit JG
def widthO(xs:List Int):Nat:=if xs.headD 0<128 then 1 else (runeO xs).getD 0
theorem gb_none{w w' w'':World}{g:Nat}(h:w.grownBy w' none)(h2:w'.grownBy w'' (some g))(hg:w.heap.size≤g):w.grownBy w'' none:=
 ⟨h2.os.trans h.os,h2.tape.trans h.tape,h2.output.trans h.output,Nat.le_trans h.size h2.size,fun i hi _=>(h2.block i (Nat.lt_of_lt_of_le hi h.size) (fun e=>by have:=Option.some.inj e; omega)).trans (h.block i hi (by simp))⟩
theorem width166(s:ByteArray)(q:Nat)(w:World)(hs:s.size≤140737488355328)(hq:q<s.size):
  Calls Tryz.prog 166 #[.string s,.int .i64 q] w fun e w'=>e=.returned (.int .i64 (widthO ((bytes s).drop q):Nat))∧w.grownBy w' none:=by
 unfold widthO
 have hh:((bytes s).drop q).headD 0=(s[q].toNat:Int):=by rw [bytes_drop hq]; rfl
 rw [hh]
 by_cases h1:(s[q].toNat:Int)<128
 ·rw [if_pos h1]
  have t1:decide ((s[q].toNat:Int)<128)=true:=by simpa using h1
  clear hh
  go_enter Tryz.func166,Tryz.ntmps166
  go_wp2_with fail
  go_ret
  exact ⟨rfl,World.grownBy.refl _ _⟩
 ·rw [if_neg h1]
  have t1:decide ((s[q].toNat:Int)<128)=false:=by simpa using h1
  have hR:R (w.alloc (.cells #[.string s,.int .i64 q,.bool false,.bool false,.int .i64 0,.bool false] 54)) w.heap.size s q false false 0 false:=⟨heap_alloc_new w _,by omega⟩
  have C:=rune112 w.heap.size s q false false false _ hs hR
  cases ho:runeO ((bytes s).drop q) with
  |none=>
   have C1:=Hq (calls_no C ho)
   clear C hh ho
   go_enter Tryz.func166,Tryz.ntmps166
   go_wp2_with fail
   refine (C1.out).mono ?_
   rintro e w' ⟨rfl,hf,hg⟩
   have HG:=Hq hg
   clear hf hg
   go_wp2_with fail
   go_ret
   exact ⟨rfl,gb_none (World.grownBy_alloc w _ none) HG.out (Nat.le_refl _)⟩
  |some k=>
   have C1:=Hq (calls_yes C ho)
   clear C hh ho
   go_enter Tryz.func166,Tryz.ntmps166
   go_wp2_with fail
   refine (C1.out).mono ?_
   rintro e w' ⟨rfl,hr,hg⟩
   have HG:=Hq hg
   obtain ⟨_,c1,_⟩:=hr.facts
   have hb:=hr.2
   clear hr hg
   go_wp2_with fail
   go_ret
   exact ⟨by simp; omega,gb_none (World.grownBy_alloc w _ none) HG.out (Nat.le_refl _)⟩
def hx:Nat→Int→List Int→Int
 |0,a,_=>a
 |k+1,a,xs=>if hexv (xs.headD 0)<0 then -1 else hx k (16 * a+hexv (xs.headD 0)) xs.tail
theorem hx_four{xs:List Int}(h:4≤xs.length):hx 4 0 xs=hex4 xs:=by
 match xs,h with
 |a::b::c::d::t,_=>
  show (if hexv a<0 then -1 else if hexv b<0 then -1 else if hexv c<0 then -1 else if hexv d<0 then -1 else _)=(if 0≤hexv a∧0≤hexv b∧0≤hexv c∧0≤hexv d then ((hexv a * 16+hexv b) * 16+hexv c) * 16+hexv d else -1)
  by_cases h1:hexv a<0
  ·rw [if_pos h1,if_neg (by omega)]
  rw [if_neg h1]
  by_cases h2:hexv b<0
  ·rw [if_pos h2,if_neg (by omega)]
  rw [if_neg h2]
  by_cases h3:hexv c<0
  ·rw [if_pos h3,if_neg (by omega)]
  rw [if_neg h3]
  by_cases h4:hexv d<0
  ·rw [if_pos h4,if_neg (by omega)]
  rw [if_neg h4,if_pos (by omega)]
  show 16 * (16 * (16 * (16 * 0+hexv a)+hexv b)+hexv c)+hexv d=_
  omega
theorem hexv_lt(c:Int):hexv c≤15:=by
 unfold hexv
 split
 ·omega
 split
 ·omega
 split
 ·omega
 ·omega
theorem hx_lt:∀ (k:Nat) (a:Int) (xs:List Int),0≤a→hx k a xs<(a+1) * 16 ^ k ∧ -1≤hx k a xs
 |0,a,xs,h=>by show a<(a+1) * 1 ∧ -1≤a; omega
 |k+1,a,xs,h=>by
  show (if hexv (xs.headD 0)<0 then -1 else hx k (16 * a+hexv (xs.headD 0)) xs.tail)<_ ∧ -1≤(if hexv (xs.headD 0)<0 then -1 else hx k (16 * a+hexv (xs.headD 0)) xs.tail)
  have hp:(0:Int)<16 ^ k:=Int.pow_pos (by decide)
  have e:(16:Int) ^ (k+1)=16 ^ k * 16:=Int.pow_succ 16 k
  split
  ·refine ⟨?_,by omega⟩
   have:0≤(a+1) * 16 ^ (k+1):=Int.mul_nonneg (by omega) (by rw [e]; omega)
   omega
  ·have h1:=hx_lt k (16 * a+hexv (xs.headD 0)) xs.tail (by omega)
   have h2:=hexv_lt (xs.headD 0)
   refine ⟨Int.lt_of_lt_of_le h1.1 ?_,h1.2⟩
   rw [e,← Int.mul_assoc,Int.mul_right_comm]
   exact Int.mul_le_mul_of_nonneg_right (by omega) (by omega)
def unitR(xs:List Int):Int × Bool:=if unitAt xs<0 then (0,false) else (unitAt xs,true)
theorem unitAt_short{xs:List Int}(h:xs.length<6):unitAt xs = -1:=by
 unfold unitAt
 split
 ·rename_i a b t
  split
  ·unfold hex4
   split
   ·rename_i c d e f u
    simp at h
    omega
   ·rfl
  ·rfl
 ·rfl
theorem unitAt_cons(a b:Int)(t:List Int):unitAt (a::b::t)=if a=92∧b=117 then hex4 t else -1:=rfl
theorem unitR_no{xs:List Int}(h:unitAt xs = -1):unitR xs=(0,false):=by
 unfold unitR
 rw [h,if_pos (by decide)]
theorem unitAt175(s:ByteArray)(q:Nat)(w:World)(hs:s.size≤140737488355328)(hq:q≤140737488355328):
  Calls Tryz.prog 175 #[.string s,.int .i64 q] w fun e w'=>e=.returned (.tuple #[.int .i64 (unitR ((bytes s).drop q)).1,.bool (unitR ((bytes s).drop q)).2])∧w'=w:=by
 by_cases h6:s.size<q+6
 ·rw [unitR_no (unitAt_short (by rw [List.length_drop,bytes_len]; omega))]
  have t1:decide ((s.size:Int)<(q:Int)+6)=true:=by simp; omega
  go_enter Tryz.func175,Tryz.ntmps175
  go_wp2_with fail
  go_ret2
  exact ⟨rfl,rfl⟩
 have t1:decide ((s.size:Int)<(q:Int)+6)=false:=by simp; omega
 have hq0:q<s.size:=by omega
 have hq1:q+1<s.size:=by omega
 have hdr:(bytes s).drop q=(s[q].toNat:Int)::(s[q+1].toNat:Int)::(bytes s).drop (q+2):=by rw [bytes_drop hq0,bytes_drop hq1]
 by_cases ha:(s[q].toNat:Int)=92
 ·by_cases hb:(s[q+1].toNat:Int)=117
  ·obtain ⟨r,HR⟩:∃ r,Hid (r=unitR ((bytes s).drop q)):=⟨_,Hq rfl⟩
   have HX:=Hq (show hx 4 0 ((bytes s).drop (q+2))=unitAt ((bytes s).drop q) by
    rw [hx_four (by rw [List.length_drop,bytes_len]; omega),hdr,unitAt_cons,if_pos ⟨ha,hb⟩])
   rw [← HR.out]
   have t2:((s[q].toNat:Int) != 92)=false:=by simp [ha]
   have t3:((s[q+1].toNat:Int) != 117)=false:=by simp [hb]
   clear hdr ha hb
   go_enter Tryz.func175,Tryz.ntmps175
   go_wp2_with fail
   go_loopg [6,7] 4 (fun gk v6 v7 wr=>∃ (j:Nat) (a:Int),v7=.int .i64 ((q:Int)+2+j)∧v6=.int .i64 a∧j≤4∧0≤a∧a<65536∧Hid (a<16 ^ j)∧Hid (gk=4-j)∧Hid (hx 4 0 ((bytes s).drop (q+2))=hx (4-j) a ((bytes s).drop (q+2+j)))∧wr=w)
   case atStart=>exact ⟨0,0,by simp,rfl,by omega,by omega,by omega,Hq (by decide),Hq rfl,Hq rfl,rfl⟩
   case round=>
    obtain ⟨j,a,rfl,rfl,hj,ha0,ha1,HA,HG,HE,rfl⟩:=hrel
    by_cases hlt:j<4
    ·have hqj:q+2+j<s.size:=by omega
     have t4:decide ((q:Int)+2+(j:Int)<(q:Int)+6)=true:=by simp; omega
     have i0:(0:Int)≤(q:Int)+2+(j:Int):=by omega
     have i1:(q:Int)+2+(j:Int)<(s.size:Int):=by omega
     have hch:=headD_byte s (q+2+j)
     have hdj:=bytes_drop hqj
     rw [hdj] at hch
     have C:=Hq (fun w=>hex168 (s[q+2+j].toNat:Int) hch.1 hch.2 w)
     have e1:hx (4-j) a ((bytes s).drop (q+2+j))=if hexv (s[q+2+j].toNat:Int)<0 then -1 else hx (4-(j+1)) (16 * a+hexv (s[q+2+j].toNat:Int)) ((bytes s).drop (q+2+(j+1))):=by
      rw [hdj,show 4-j=(4-(j+1))+1 by omega]
      rfl
     have hl:=hexv_lt (s[q+2+j].toNat:Int)
     generalize hexv (s[q+2+j].toNat:Int)=h at C e1 hl
     clear hch hdj
     by_cases hh:h<0
     ·have t5:decide (h<0)=true:=by simpa using hh
      have E:=Hq (HX.out.symm.trans (HE.out.trans (e1.trans (if_pos hh))))
      clear e1
      go_wp2_with fail
      refine (C.out _).mono ?_
      rintro e w' ⟨rfl,rfl⟩
      go_wp2_with fail
      go_ret2
      refine ⟨?_,rfl⟩
      rw [HR.out,unitR_no E.out]
      rfl
     ·have t5:decide (h<0)=false:=by simpa using hh
      have E:=Hq (HE.out.trans (e1.trans (if_neg hh)))
      clear e1
      go_wp2_with fail
      refine (C.out _).mono ?_
      rintro e w' ⟨rfl,rfl⟩
      go_wp2_with fail
      go_roundg (4-(j+1))
      case measure=>have:=HG.out; omega
      case rel=>
       refine ⟨j+1,16 * a+h,by go_num,rfl,by omega,by omega,?_,Hq ?_,Hq rfl,E,rfl⟩
       ·have:=HA.out
        have h3:(16:Int) ^ j≤16 ^ 3:=by
         rcases (show j=0∨j=1∨j=2∨j=3 by omega) with rfl|rfl|rfl|rfl<;>decide
        omega
       ·have:=HA.out
        rw [Int.pow_succ]
        omega
    ·obtain rfl:j=4:=by omega
     have t4:decide ((q:Int)+2+((4:Nat):Int)<(q:Int)+6)=false:=by simp; omega
     have E:=Hq (HX.out.symm.trans HE.out)
     go_wp2_with fail
     go_ret2
     refine ⟨?_,rfl⟩
     have e:unitAt ((bytes s).drop q)=a:=E.out
     rw [HR.out]
     unfold unitR
     rw [e,if_neg (by omega)]
     rfl
  ·rw [unitR_no (by rw [hdr,unitAt_cons]; exact if_neg (fun h=>hb h.2))]
   clear hdr
   have t2:((s[q].toNat:Int) != 92)=false:=by simp [ha]
   have t3:((s[q+1].toNat:Int) != 117)=true:=by simpa using hb
   go_enter Tryz.func175,Tryz.ntmps175
   go_wp2_with fail
   go_ret2
   exact ⟨rfl,rfl⟩
 ·rw [unitR_no (by rw [hdr,unitAt_cons]; exact if_neg (fun h=>ha h.1))]
  clear hdr
  have t2:((s[q].toNat:Int) != 92)=true:=by simpa using ha
  go_enter Tryz.func175,Tryz.ntmps175
  go_wp2_with fail
  go_ret2
  exact ⟨rfl,rfl⟩
def escD(xs:List Int):List Int × Nat × Bool:=
 if xs.tail.headD 0=98 then ([8],2,true)
 else if xs.tail.headD 0=102 then ([12],2,true)
 else if xs.tail.headD 0=110 then ([10],2,true)
 else if xs.tail.headD 0=114 then ([13],2,true)
 else if xs.tail.headD 0=116 then ([9],2,true)
 else if xs.tail.headD 0=117 then
  (if unitAt xs<55296∨57343<unitAt xs then (encO (unitAt xs),6,true)
  else if unitAt xs<56320∧56320≤unitAt (xs.drop 6)∧unitAt (xs.drop 6)≤57343 then (encO (65536+(unitAt xs-55296) * 1024+(unitAt (xs.drop 6)-56320)),12,true)
  else (brk,6,false))
 else ([xs.tail.headD 0],2,true)
def Told(r:List Int × Nat × Bool)(w:World)(e:Ending)(w':World):Prop:=∃ y:ByteArray,e=.returned (.tuple #[.string y,.int .i64 (r.2.1:Nat),.bool r.2.2])∧bytes y=r.1∧w.grownBy w' none
theorem hex4_lt(xs:List Int):hex4 xs<65536:=by
 by_cases h:4≤xs.length
 ·rw [← hx_four h]
  exact (hx_lt 4 0 xs (by omega)).1
 ·unfold hex4
  split
  ·simp at h
  ·omega
theorem unitAt_lt(xs:List Int):unitAt xs<65536:=by
 unfold unitAt
 split
 ·split
  ·exact hex4_lt _
  ·omega
 ·omega
theorem unitR_yes{xs:List Int}{v:Int}(h:unitAt xs=v)(h0:0≤v):unitR xs=(v,true):=by
 unfold unitR
 rw [h,if_neg (by omega)]
theorem bytes_extract(s:ByteArray)(a b:Nat):bytes (s.extract a b)=((bytes s).drop a).take (b-a):=by
 unfold bytes
 rw [ByteArray.data_extract,Array.toList_extract,List.extract_eq_take_drop,List.map_take,List.map_drop]
theorem escaped165(s:ByteArray)(q:Nat)(w:World)(hs:s.size≤4294967296)(hq:q+1<s.size)(hu:(s[q+1].toNat:Int)=117→0≤unitAt ((bytes s).drop q)):
  Calls Tryz.prog 165 #[.string s,.int .i64 q] w (Told (escD ((bytes s).drop q)) w):=by
 have hh:((bytes s).drop q).tail.headD 0=(s[q+1].toNat:Int):=by rw [bytes_drop (show q<s.size by omega),bytes_drop hq]; rfl
 obtain ⟨r,HR⟩:∃ r,Hid (r=escD ((bytes s).drop q)):=⟨_,Hq rfl⟩
 rw [← HR.out]
 have hr:=HR.out
 unfold escD at hr
 rw [hh] at hr
 by_cases h1:(s[q+1].toNat:Int)=98
 ·rw [if_pos h1] at hr
  have E:=Hq hr
  clear hr hh hu
  go_enter Tryz.func165,Tryz.ntmps165
  go_wp2_with fail
  go_ret3
  exact ⟨_,by rw [E.out]; rfl,by rw [E.out]; rfl,World.grownBy.refl _ _⟩
 rw [if_neg h1] at hr
 by_cases h2:(s[q+1].toNat:Int)=102
 ·rw [if_pos h2] at hr
  have E:=Hq hr
  clear hr hh hu
  go_enter Tryz.func165,Tryz.ntmps165
  go_wp2_with fail
  go_ret3
  exact ⟨_,by rw [E.out]; rfl,by rw [E.out]; rfl,World.grownBy.refl _ _⟩
 rw [if_neg h2] at hr
 by_cases h3:(s[q+1].toNat:Int)=110
 ·rw [if_pos h3] at hr
  have E:=Hq hr
  clear hr hh hu
  go_enter Tryz.func165,Tryz.ntmps165
  go_wp2_with fail
  go_ret3
  exact ⟨_,by rw [E.out]; rfl,by rw [E.out]; rfl,World.grownBy.refl _ _⟩
 rw [if_neg h3] at hr
 by_cases h4:(s[q+1].toNat:Int)=114
 ·rw [if_pos h4] at hr
  have E:=Hq hr
  clear hr hh hu
  go_enter Tryz.func165,Tryz.ntmps165
  go_wp2_with fail
  go_ret3
  exact ⟨_,by rw [E.out]; rfl,by rw [E.out]; rfl,World.grownBy.refl _ _⟩
 rw [if_neg h4] at hr
 by_cases h5:(s[q+1].toNat:Int)=116
 ·rw [if_pos h5] at hr
  have E:=Hq hr
  clear hr hh hu
  go_enter Tryz.func165,Tryz.ntmps165
  go_wp2_with fail
  go_ret3
  exact ⟨_,by rw [E.out]; rfl,by rw [E.out]; rfl,World.grownBy.refl _ _⟩
 rw [if_neg h5] at hr
 by_cases h6:(s[q+1].toNat:Int)=117
 ·rw [if_pos h6] at hr
  have hu:=hu h6
  have hlt:=unitAt_lt ((bytes s).drop q)
  have hlt2:=unitAt_lt (((bytes s).drop q).drop 6)
  have U1:=unitAt175 s q w (by omega) (by omega)
  have U2:=fun w=>unitAt175 s (q+6) w (by omega) (by omega)
  have e6:(bytes s).drop (q+6)=((bytes s).drop q).drop 6:=by rw [List.drop_drop]
  rw [e6] at U2
  generalize hx1:unitAt ((bytes s).drop q)=c at hr hu hlt
  rw [unitR_yes hx1 hu] at U1
  have U1:=Hq U1
  clear hx1
  by_cases k1:c<55296
  ·rw [if_pos (.inl k1)] at hr
   have t1:decide (c<55296)=true:=by simpa using k1
   have C:=Hq (encoded176 c w hu (by omega))
   have E:=Hq hr
   have HB:=Hq (bytes_strOf (encO_byte hu (show c≤1114111 by omega)))
   clear hr hh e6 U2
   go_enter Tryz.func165,Tryz.ntmps165
   go_wp2_with fail
   refine (U1.out).mono ?_
   rintro e w' ⟨rfl,rfl⟩
   go_wp2_with fail
   refine (C.out).mono ?_
   rintro e w' ⟨rfl,hg⟩
   have HG:=Hq hg
   clear hg
   go_wp2_with fail
   go_ret3
   exact ⟨_,by rw [E.out]; rfl,by rw [E.out]; exact HB.out,HG.out⟩
  by_cases k2:57343<c
  ·rw [if_pos (.inr k2)] at hr
   have t1:decide (c<55296)=false:=by simpa using k1
   have t2:decide (57343<c)=true:=by simpa using k2
   have C:=Hq (encoded176 c w hu (by omega))
   have E:=Hq hr
   have HB:=Hq (bytes_strOf (encO_byte hu (show c≤1114111 by omega)))
   clear hr hh e6 U2
   go_enter Tryz.func165,Tryz.ntmps165
   go_wp2_with fail
   refine (U1.out).mono ?_
   rintro e w' ⟨rfl,rfl⟩
   go_wp2_with fail
   refine (C.out).mono ?_
   rintro e w' ⟨rfl,hg⟩
   have HG:=Hq hg
   clear hg
   go_wp2_with fail
   go_ret3
   exact ⟨_,by rw [E.out]; rfl,by rw [E.out]; exact HB.out,HG.out⟩
  rw [if_neg (by omega)] at hr
  have t1:decide (c<55296)=false:=by simpa using k1
  have t2:decide (57343<c)=false:=by simpa using k2
  generalize hx2:unitAt (((bytes s).drop q).drop 6)=d at hr hlt2
  by_cases k3:c<56320∧56320≤d∧d≤57343
  ·rw [if_pos k3] at hr
   rw [unitR_yes hx2 (by omega)] at U2
   have U2:=Hq U2
   have t3:decide (c<56320)=true:=by simp; omega
   have t4:decide (56320≤d)=true:=by simp; omega
   have t5:decide (d≤57343)=true:=by simp; omega
   have C:=Hq (encoded176 (65536+(c-55296) * 1024+(d-56320)) w (by omega) (by omega))
   have E:=Hq hr
   have HB:=Hq (bytes_strOf (encO_byte (show 0≤65536+(c-55296) * 1024+(d-56320) by omega) (show 65536+(c-55296) * 1024+(d-56320)≤1114111 by omega)))
   clear hr hh e6 hx2
   go_enter Tryz.func165,Tryz.ntmps165
   go_wp2_with fail
   refine (U1.out).mono ?_
   rintro e w' ⟨rfl,rfl⟩
   go_wp2_with fail
   refine (U2.out _).mono ?_
   rintro e w' ⟨rfl,rfl⟩
   go_wp2_with fail
   refine (C.out).mono ?_
   rintro e w' ⟨rfl,hg⟩
   have HG:=Hq hg
   clear hg
   go_wp2_with fail
   go_ret3
   exact ⟨_,by rw [E.out]; rfl,by rw [E.out]; exact HB.out,HG.out⟩
  ·rw [if_neg k3] at hr
   have E:=Hq hr
   by_cases k4:c<56320
   ·have t3:decide (c<56320)=true:=by simpa using k4
    by_cases k5:0≤d
    ·rw [unitR_yes hx2 (by omega)] at U2
     have U2:=Hq U2
     by_cases k6:56320≤d
     ·have t4:decide (56320≤d)=true:=by simpa using k6
      have t5:decide (d≤57343)=false:=by simp; omega
      clear hr hh e6 hx2 k3
      go_enter Tryz.func165,Tryz.ntmps165
      go_wp2_with fail
      refine (U1.out).mono ?_
      rintro e w' ⟨rfl,rfl⟩
      go_wp2_with fail
      refine (U2.out _).mono ?_
      rintro e w' ⟨rfl,rfl⟩
      go_wp2_with fail
      go_ret3
      exact ⟨_,by rw [E.out]; rfl,by rw [E.out]; rfl,World.grownBy.refl _ _⟩
     ·have t4:decide (56320≤d)=false:=by simpa using k6
      clear hr hh e6 hx2 k3
      go_enter Tryz.func165,Tryz.ntmps165
      go_wp2_with fail
      refine (U1.out).mono ?_
      rintro e w' ⟨rfl,rfl⟩
      go_wp2_with fail
      refine (U2.out _).mono ?_
      rintro e w' ⟨rfl,rfl⟩
      go_wp2_with fail
      go_ret3
      exact ⟨_,by rw [E.out]; rfl,by rw [E.out]; rfl,World.grownBy.refl _ _⟩
    ·have e7:unitR (((bytes s).drop q).drop 6)=(0,false):=by unfold unitR; rw [hx2,if_pos (by omega)]
     rw [e7] at U2
     have U2:=Hq U2
     clear hr hh e6 hx2 k3 e7
     go_enter Tryz.func165,Tryz.ntmps165
     go_wp2_with fail
     refine (U1.out).mono ?_
     rintro e w' ⟨rfl,rfl⟩
     go_wp2_with fail
     refine (U2.out _).mono ?_
     rintro e w' ⟨rfl,rfl⟩
     go_wp2_with fail
     go_ret3
     exact ⟨_,by rw [E.out]; rfl,by rw [E.out]; rfl,World.grownBy.refl _ _⟩
   ·have t3:decide (c<56320)=false:=by simpa using k4
    have U2:=Hq U2
    clear hr hh e6 hx2 k3
    go_enter Tryz.func165,Tryz.ntmps165
    go_wp2_with fail
    refine (U1.out).mono ?_
    rintro e w' ⟨rfl,rfl⟩
    go_wp2_with fail
    refine (U2.out _).mono ?_
    rintro e w' ⟨rfl,rfl⟩
    go_wp2_with fail
    go_ret3
    exact ⟨_,by rw [E.out]; rfl,by rw [E.out]; rfl,World.grownBy.refl _ _⟩
 ·rw [if_neg h6] at hr
  have E:=Hq hr
  have t1:((s[q+1].toNat:Int)==98)=false:=by simpa using h1
  have t2:((s[q+1].toNat:Int)==102)=false:=by simpa using h2
  have t3:((s[q+1].toNat:Int)==110)=false:=by simpa using h3
  have t4:((s[q+1].toNat:Int)==114)=false:=by simpa using h4
  have t5:((s[q+1].toNat:Int)==116)=false:=by simpa using h5
  have t6:((s[q+1].toNat:Int)==117)=false:=by simpa using h6
  clear hr hh hu
  go_enter Tryz.func165,Tryz.ntmps165
  go_wp2_with fail
  go_ret3
  exact ⟨_,by rw [E.out]; rfl,by rw [E.out,bytes_extract,bytes_drop hq,show q+2-(q+1)=1 by omega]; rfl,World.grownBy.refl _ _⟩
def pieceD(xs:List Int):List Int × Nat × Bool:=
 if xs.headD 0=92 then escD xs
 else if widthO xs=0 then (brk,1,false)
 else (xs.take (widthO xs),widthO xs,true)
def dec:Nat→List Int→List Int × Bool
 |_,[]=>([],true)
 |k+1,_::t=>dec k t
 |0,c::t=>((pieceD (c::t)).1++(dec ((pieceD (c::t)).2.1-1) t).1,(pieceD (c::t)).2.2&&(dec ((pieceD (c::t)).2.1-1) t).2)
def decq(xs:List Int):List Int × Bool:=dec 0 xs.tail.dropLast
theorem dec_skip:∀ (k:Nat) (xs:List Int),dec k xs=dec 0 (xs.drop k)
 |0,xs=>by simp
 |k+1,[]=>by simp [dec]
 |k+1,_::t=>dec_skip k t
theorem escD_pos(xs:List Int):1≤(escD xs).2.1:=by
 unfold escD
 repeat (first|(split; (exact by simp))|(split; (split; (exact by simp)) ; (split; (exact by simp); (exact by simp)))|(exact by simp))
theorem pieceD_pos(xs:List Int):1≤(pieceD xs).2.1:=by
 unfold pieceD
 split
 ·exact escD_pos xs
 ·split
  ·simp
  ·show 1≤widthO xs
   omega
theorem dec_cons(c:Int)(t:List Int):dec 0 (c::t)=((pieceD (c::t)).1++(dec 0 ((c::t).drop (pieceD (c::t)).2.1)).1,(pieceD (c::t)).2.2&&(dec 0 ((c::t).drop (pieceD (c::t)).2.1)).2):=by
 have h:=pieceD_pos (c::t)
 have e:dec ((pieceD (c::t)).2.1-1) t=dec 0 ((c::t).drop (pieceD (c::t)).2.1):=by
  rw [dec_skip]
  obtain ⟨k,hk⟩:∃ k,(pieceD (c::t)).2.1=k+1:=⟨(pieceD (c::t)).2.1-1,by omega⟩
  rw [hk]
  rfl
 show ((pieceD (c::t)).1++(dec ((pieceD (c::t)).2.1-1) t).1,(pieceD (c::t)).2.2&&(dec ((pieceD (c::t)).2.1-1) t).2)=_
 rw [e]
def Inner(ys:List Int):Prop:=sq true 0 (ys++[34])=some ys.length
theorem hex4_ge{w:List Int}(h:0≤hex4 w):∃ a b c d u,w=a::b::c::d::u∧∀ v,chain c4 (a::b::c::d::v)=some 4:=by
 unfold hex4 at h
 split at h
 ·rename_i a b c d u
  split at h
  ·rename_i hh
   refine ⟨a,b,c,d,u,rfl,fun v => ?_⟩
   have k:∀ (x:Int) (t:List Int),0≤hexv x→hexO 0 15 (x::t)=some 1:=fun x t hx=>by
    unfold hexO
    have:=hexv_lt x
    exact if_neg (show ¬ (hexv x<0∨15<hexv x) by omega)
   unfold c4
   rw [chain_yes (k _ _ hh.1)]
   simp only [List.tail_cons]
   rw [chain_yes (k _ _ hh.2.1)]
   simp only [List.tail_cons]
   rw [chain_yes (k _ _ hh.2.2.1)]
   simp only [List.tail_cons]
   rw [chain_yes (k _ _ hh.2.2.2)]
   rfl
  ·omega
 ·omega
theorem chain_hex4{a b c d:Int}{v:List Int}(h:chain c4 (a::b::c::d::v)=some 4)(v':List Int):0≤hex4 (a::b::c::d::v'):=by
 have k:∀ (x:Int) (t:List Int) (r:List (Int × Int)) (n:Nat),chain ((0,15)::r) (x::t)=some n→0≤hexv x∧∃ m,chain r t=some m:=fun x t r n hx=>by
  by_cases hy:hexO 0 15 (x::t)=some 1
  ·rw [chain_yes hy] at hx
   refine ⟨?_,?_⟩
   ·unfold hexO at hy
    split at hy
    ·cases hy
    ·rename_i hz
     have hz:¬ (hexv x<0∨15<hexv x):=hz
     omega
   ·cases e:chain r t with
    |none=>rw [List.tail_cons,e] at hx; cases hx
    |some m=>exact ⟨m,rfl⟩
  ·rw [chain_no hy] at hx
   cases hx
 obtain ⟨h1,_,e1⟩:=k _ _ _ _ h
 obtain ⟨h2,_,e2⟩:=k _ _ _ _ e1
 obtain ⟨h3,_,e3⟩:=k _ _ _ _ e2
 obtain ⟨h4,_,e4⟩:=k _ _ _ _ e3
 show 0≤(if 0≤hexv a∧0≤hexv b∧0≤hexv c∧0≤hexv d then ((hexv a * 16+hexv b) * 16+hexv c) * 16+hexv d else -1)
 rw [if_pos ⟨h1,h2,h3,h4⟩]
 omega
theorem unitAt_ge{r:List Int}(h:0≤unitAt r):∃ w,r=92::117::w∧0≤hex4 w:=by
 unfold unitAt at h
 split at h
 ·rename_i x y z
  split at h
  ·rename_i hxy
   exact ⟨z,by rw [hxy.1,hxy.2],h⟩
  ·omega
 ·omega
theorem inner_adv{ys:List Int}{k:Nat}(h:Inner ys)(hk:k≤ys.length)(e:sq true 0 (ys++[34])=(sq true 0 ((ys++[34]).drop k)).map (·+k)):Inner (ys.drop k):=by
 unfold Inner at h ⊢
 rw [h,List.drop_append_of_le_length hk] at e
 cases e2:sq true 0 (ys.drop k++[34]) with
 |none=>rw [e2] at e; cases e
 |some i=>
  rw [e2] at e
  have e3:ys.length=i+k:=Option.some.inj e
  rw [List.length_drop,show i=ys.length-k by omega]
theorem inner_piece{c:Int}{t:List Int}(h:Inner (c::t)):(pieceD (c::t)).2.1≤(c::t).length∧Inner ((c::t).drop (pieceD (c::t)).2.1)∧(c=92→∃ d u,t=d::u∧(d=117→0≤unitAt (c::t))):=by
 have h0:=h
 unfold Inner at h0
 have hc:¬ c=34:=by
  intro hc
  have e:sq true 0 (c::t++[34])=some 0:=by
   show (if c=34 then some 0 else _)=_
   rw [if_pos hc]
  rw [e] at h0
  have:=Option.some.inj h0
  simp at this
 cases es:stp true (c::(t++[34])) with
 |none=>
  rw [List.cons_append,sq_cons hc,es] at h0
  cases h0
 |some k=>
  have hk:=(stp_loc es).1
  have e1:sq true 0 (c::t++[34])=(sq true 0 ((c::t++[34]).drop k)).map (·+k):=sq_gen hc es hk
  have hkl:k≤(c::t).length:=by
   rw [h0] at e1
   cases e2:sq true 0 ((c::t++[34]).drop k) with
   |none=>rw [e2] at e1; cases e1
   |some i=>
    rw [e2] at e1
    have:(c::t).length=i+k:=Option.some.inj e1
    omega
  have es':(if c=92 then (escO true (t++[34])).map (·+1) else if c<32 then none else if c<128∨true=true then some 1 else runeO (c::(t++[34])))=some k:=es
  by_cases h1:c=92
  ·subst h1
   rw [if_pos rfl] at es'
   cases he:escO true (t++[34]) with
   |none=>rw [he] at es'; cases es'
   |some j=>
    rw [he] at es'
    obtain rfl:j+1=k:=Option.some.inj es'
    have hp:pieceD (92::t)=escD (92::t):=by unfold pieceD; rw [if_pos (by rfl)]
    rw [hp]
    have hj:=(escO_loc he).1
    obtain ⟨d,u,rfl⟩:∃ d u,t=d::u:=by
     cases t with
     |nil=>simp at hkl; omega
     |cons d u=>exact ⟨d,u,rfl⟩
    have hd:(92::d::u).tail.headD 0=d:=rfl
    have hd2:(d::u++[34]).headD 0=d:=rfl
    unfold escO at he
    rw [hd2] at he
    by_cases hs:isSimple d
    ·rw [if_pos hs] at he
     obtain rfl:1=j:=Option.some.inj he
     have hm:(escD (92::d::u)).2.1=2:=by
      unfold escD
      rw [hd]
      have:¬ d=117:=by unfold isSimple at hs; omega
      rw [if_neg this]
      repeat (first|rfl|split)
     rw [hm]
     refine ⟨hkl,inner_adv h hkl e1,fun _=>⟨d,u,rfl,fun hx => ?_⟩⟩
     unfold isSimple at hs
     omega
    ·rw [if_neg hs] at he
     by_cases hu:d=117
     ·rw [if_pos hu] at he
      subst hu
      rw [List.cons_append,List.tail_cons] at he
      cases hq:unitH true (u++[34]) with
      |none=>rw [hq] at he; cases he
      |some n=>
       rw [hq] at he
       obtain ⟨rfl,a,b,c,d,rest,hu,_⟩:=unitH_loc hq
       simp only at he
       rw [show halfH true (u++[34])=false from rfl] at he
       simp only [Bool.false_eq_true,if_false] at he
       obtain rfl:1+4=j:=Option.some.inj he
       have hul:4≤u.length:=by simp at hkl; omega
       obtain ⟨a',b',c',d',rest',rfl⟩:∃ a b c d r,u=a::b::c::d::r:=by
        match u,hul with
        |a::b::c::d::r,_=>exact ⟨a,b,c,d,r,rfl⟩
       have hch:chain c4 (a'::b'::c'::d'::(rest'++[34]))=some 4:=by
        unfold unitH at hq
        rw [if_pos rfl] at hq
        exact hq
       have hx:0≤unitAt (92::117::a'::b'::c'::d'::rest'):=by
        show 0≤(if (92:Int)=92∧(117:Int)=117 then hex4 (a'::b'::c'::d'::rest') else -1)
        rw [if_pos ⟨rfl,rfl⟩]
        exact chain_hex4 hch rest'
       refine ⟨?_,?_,fun _=>⟨117,_,rfl,fun _=>hx⟩⟩
       ·unfold escD
        simp only [hd]
        simp only [if_pos,if_neg,show ¬ (117:Int)=98 by decide,show ¬ (117:Int)=102 by decide,show ¬ (117:Int)=110 by decide,show ¬ (117:Int)=114 by decide,show ¬ (117:Int)=116 by decide,not_false_eq_true]
        split
        ·simp
        ·split
         ·rename_i hh
          obtain ⟨w,hw⟩:=unitAt_ge (r:=rest') (by have:=hh.2.1; simp only [List.drop_succ_cons,List.drop_zero] at this; omega)
          obtain ⟨rfl,hw⟩:=hw
          obtain ⟨a2,b2,c2,d2,u2,rfl,_⟩:=hex4_ge hw
          simp
         ·simp
       ·unfold escD
        simp only [hd]
        simp only [if_pos,if_neg,show ¬ (117:Int)=98 by decide,show ¬ (117:Int)=102 by decide,show ¬ (117:Int)=110 by decide,show ¬ (117:Int)=114 by decide,show ¬ (117:Int)=116 by decide,not_false_eq_true]
        split
        ·exact inner_adv h hkl e1
        ·split
         ·rename_i hh
          obtain ⟨w,hw⟩:=unitAt_ge (r:=rest') (by have:=hh.2.1; simp only [List.drop_succ_cons,List.drop_zero] at this; omega)
          obtain ⟨rfl,hw⟩:=hw
          obtain ⟨a2,b2,c2,d2,u2,rfl,hc2⟩:=hex4_ge hw
          have h6:=inner_adv h hkl e1
          have e6:stp true (92::117::(a2::b2::c2::d2::(u2++[34])))=some 6:=stp_u_loose (by unfold unitH; rw [if_pos rfl]; exact hc2 _)
          have h12:=inner_adv (k:=6) h6 (by simp) (sq_gen (by decide) e6 (by omega))
          exact h12
         ·exact inner_adv h hkl e1
     ·rw [if_neg hu] at he
      cases he
  rw [if_neg h1] at es'
  by_cases h2:c<32
  ·rw [if_pos h2] at es'; cases es'
  rw [if_neg h2,if_pos (.inr rfl)] at es'
  obtain rfl:1=k:=Option.some.inj es'
  have hp:pieceD (c::t)=if widthO (c::t)=0 then (brk,1,false) else ((c::t).take (widthO (c::t)),widthO (c::t),true):=by
   unfold pieceD
   rw [if_neg (by exact h1)]
  refine ⟨?_,?_,fun hx=>absurd hx h1⟩
  all_goals rw [hp]
  ·split
   ·exact hkl
   ·show widthO (c::t)≤_
    unfold widthO
    split
    ·exact hkl
    ·cases hr:runeO (c::t) with
     |none=>simp
     |some n=>exact runeO_le (by simp) hr
  ·split
   ·exact inner_adv h hkl e1
   ·rename_i hw
    show Inner ((c::t).drop (widthO (c::t)))
    unfold widthO at hw ⊢
    split
    ·exact inner_adv h hkl e1
    ·rename_i hge
     have hge:¬ c<128:=hge
     cases hr:runeO (c::t) with
     |none=>rw [hr] at hw; simp at hw; exact absurd hw hge
     |some n=>
      show Inner ((c::t).drop n)
      refine inner_adv h (runeO_le (by simp) hr) ?_
      have key:∀ r:List (Int × Int),(∀ b∈r,128≤b.1)→(chainN r t).map (·+1)=some n→sq true 0 (c::t++[34])=(sq true 0 ((c::t++[34]).drop n)).map (·+n):=by
       intro r hb hcn
       cases e:chainN r t with
       |none=>rw [e] at hcn; cases hcn
       |some i=>
        rw [e] at hcn
        obtain rfl:i+1=n:=Option.some.inj hcn
        obtain ⟨_,pre,rest,hpr,hpl,hps⟩:=chainN_loc e
        have e2:chainN r (t++[34])=some i:=by rw [hpr,List.append_assoc]; exact hps _
        rw [e1]
        show (sq true 0 (t++[34])).map (·+1)=(sq true 0 ((t++[34]).drop i)).map (·+(i+1))
        rw [rune_bytes hb e2,map_add]
      unfold runeO at hr
      repeat (first|(split at hr; (exact key _ (by decide) hr))|(cases hr; done))
theorem inner_of{lo:Bool}{xs:List Int}{j:Nat}(h:quotedO lo xs=some j):Inner (xs.take (j+1)).tail.dropLast∧(xs.take (j+1)).length=j+1:=by
 have h':quotedO true xs=some j:=by
  cases lo
  ·exact quotedO_loose h
  ·exact h
 obtain ⟨h1,pre,rest,rfl,h2,h3,h4⟩:=quotedO_loc h'
 have e:(34::pre++34::rest).take (j+1)=34::pre++[34]:=by
  rw [List.take_append,h2,show j+1-j=1 by omega,List.take_of_length_le (by omega)]
  rfl
 rw [e]
 refine ⟨?_,by simp at h2 ⊢; omega⟩
 have e2:(34::pre++[34]).tail.dropLast=pre:=by simp
 rw [e2]
 unfold Inner
 obtain ⟨p2,r2,k1,k2,k3⟩:=sq_loc _ (Nat.le_refl _) h3
 have:pre=p2:=(List.append_inj k1 (by omega)).1
 rw [this,k3 [],k2]
end Go.Proofs.YtknaalohaagcdaaGreatDoor.Own
