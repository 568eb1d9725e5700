import Derived.Test.YtknaalohaagcdaaGreatDoorG01
import Derived.Test.YtknaalohaagcdaaGreatDoorG12
import Derived.Test.YtknaalohaagcdaaGreatDoorG13
import Derived.Test.YtknaalohaagcdaaGreatDoorG23
import Derived.Deep.AppendLies
set_option maxHeartbeats 400000000
set_option maxRecDepth 100000
namespace Go.Proofs.YtknaalohaagcdaaGreatDoor.Own
open Go.RowKit
theorem Grew.of_app{w:World}{o:Obj}{w':World}{base n:Nat}{v:Value}{xs:List Value}{v':Value}{ys:List Value}(h1:w'.ownsRow base 5 1 v' (n+ys.length) (xs++ys))(h2:(w.alloc o).grownBy w' v.ownBlock)(h3:SameRow v v'∨v'.ownBlock=some (w.heap.size+1))(h4:w'.ownsRow base 5 1 v n xs):Grew w w' base v n xs v' ys:=
 ⟨h1,(World.grownBy_alloc w o v.ownBlock).trans h2,h4,h3.imp id (fun h=>⟨_,h,by omega⟩)⟩
theorem rune_one(base:Nat)(ao:Option Addr)(c n:Nat)(xs:List Value)(r:Int)(h0:0≤r)(h1:r≤127)(w:World)(hown:w.ownsRow base 5 1 (.slice ao n c) n xs)(hlen:n+4≤140737488355328)(hBw:base≤w.heap.size):
  Calls Tryz.prog 156 #[.slice ao n c,.int .i32 r] w fun e w'=>∃ ao' c',e=.returned (.slice ao' (n+1) c')∧Grew w w' base (.slice ao n c) n xs (.slice ao' (n+1) c') [.int .u8 (r)]:=by
 obtain ⟨i0,hi,hz0,hz1,hz2⟩:=info_parts info5
 have srcN:Src Tryz.prog 1 47 (.slice (some ⟨w.heap.size,0,none⟩) 1 1) 1 [.int .u8 (r)] (w.alloc (.cells #[.int .u8 (r)] 5)):=
  Src.ofSlice _ Tryz.underlying47 _ _ _ _ rfl (World.news_of_block (cs:=#[.int .u8 (r)]) (t:=5) (fr:=(0,0)) (heap_alloc_new w _)) (by simp [Value.oneCell'])
 have HO:=Hq (And.intro hown (And.intro hlen hBw))
 clear hown
 go_enter Tryz.func156,Tryz.ntmps156
 go_wp2_with (at_builtin; refine wpList_appS _ rfl _ _ 47 47 rfl base 5 i0 _ 1 Tryz.underlying47 hi hz0 hz1 hz2 rfl _ _ _ rfl (HO.out.1.alloc _) _ _ _ rfl srcN ?c1 ?c2 ?c3 ?_)
 case c1=>simp only [maxLen]; omega
 case c2=>omega
 case c3=>have:=HO.out.2.2; simp; omega
 intro ao' c' w' q1 q2 q3 q4
 have G:=Hq (Grew.of_app (ys:=[.int .u8 (r)]) q1 q2 q3 q4)
 clear q1 q2 q3 q4 srcN
 go_wp2_with fail
 go_ret
 exact ⟨ao',c',rfl,G.out⟩
theorem rune_two(base:Nat)(ao:Option Addr)(c n:Nat)(xs:List Value)(r:Int)(h0:128≤r)(h1:r≤2047)(w:World)(hown:w.ownsRow base 5 1 (.slice ao n c) n xs)(hlen:n+4≤140737488355328)(hBw:base≤w.heap.size):
  Calls Tryz.prog 174 #[.slice ao n c,.int .i32 r] w fun e w'=>∃ ao' c',e=.returned (.slice ao' (n+2) c')∧Grew w w' base (.slice ao n c) n xs (.slice ao' (n+2) c') [.int .u8 (192+r / 64),.int .u8 (128+r % 64)]:=by
 obtain ⟨i0,hi,hz0,hz1,hz2⟩:=info_parts info5
 have srcN:Src Tryz.prog 1 47 (.slice (some ⟨w.heap.size,0,none⟩) 2 2) 2 [.int .u8 (192+r / 64),.int .u8 (128+r % 64)] (w.alloc (.cells #[.int .u8 (192+r / 64),.int .u8 (128+r % 64)] 5)):=
  Src.ofSlice _ Tryz.underlying47 _ _ _ _ rfl (World.news_of_block (cs:=#[.int .u8 (192+r / 64),.int .u8 (128+r % 64)]) (t:=5) (fr:=(0,0)) (heap_alloc_new w _)) (by simp [Value.oneCell'])
 have HO:=Hq (And.intro hown (And.intro hlen hBw))
 clear hown
 go_enter Tryz.func174,Tryz.ntmps174
 go_wp2_with (at_builtin; refine wpList_appS _ rfl _ _ 47 47 rfl base 5 i0 _ 1 Tryz.underlying47 hi hz0 hz1 hz2 rfl _ _ _ rfl (HO.out.1.alloc _) _ _ _ rfl srcN ?c1 ?c2 ?c3 ?_)
 case c1=>simp only [maxLen]; omega
 case c2=>omega
 case c3=>have:=HO.out.2.2; simp; omega
 intro ao' c' w' q1 q2 q3 q4
 have G:=Hq (Grew.of_app (ys:=[.int .u8 (192+r / 64),.int .u8 (128+r % 64)]) q1 q2 q3 q4)
 clear q1 q2 q3 q4 srcN
 go_wp2_with fail
 go_ret
 exact ⟨ao',c',rfl,G.out⟩
theorem rune_three_lo(base:Nat)(ao:Option Addr)(c n:Nat)(xs:List Value)(r:Int)(h0:2048≤r)(h1:r≤55295)(w:World)(hown:w.ownsRow base 5 1 (.slice ao n c) n xs)(hlen:n+4≤140737488355328)(hBw:base≤w.heap.size):
  Calls Tryz.prog 174 #[.slice ao n c,.int .i32 r] w fun e w'=>∃ ao' c',e=.returned (.slice ao' (n+3) c')∧Grew w w' base (.slice ao n c) n xs (.slice ao' (n+3) c') [.int .u8 (224+r / 4096),.int .u8 (128+r / 64 % 64),.int .u8 (128+r % 64)]:=by
 obtain ⟨i0,hi,hz0,hz1,hz2⟩:=info_parts info5
 have srcN:Src Tryz.prog 1 47 (.slice (some ⟨w.heap.size,0,none⟩) 3 3) 3 [.int .u8 (224+r / 4096),.int .u8 (128+r / 64 % 64),.int .u8 (128+r % 64)] (w.alloc (.cells #[.int .u8 (224+r / 4096),.int .u8 (128+r / 64 % 64),.int .u8 (128+r % 64)] 5)):=
  Src.ofSlice _ Tryz.underlying47 _ _ _ _ rfl (World.news_of_block (cs:=#[.int .u8 (224+r / 4096),.int .u8 (128+r / 64 % 64),.int .u8 (128+r % 64)]) (t:=5) (fr:=(0,0)) (heap_alloc_new w _)) (by simp [Value.oneCell'])
 have HO:=Hq (And.intro hown (And.intro hlen hBw))
 clear hown
 go_enter Tryz.func174,Tryz.ntmps174
 go_wp2_with (at_builtin; refine wpList_appS _ rfl _ _ 47 47 rfl base 5 i0 _ 1 Tryz.underlying47 hi hz0 hz1 hz2 rfl _ _ _ rfl (HO.out.1.alloc _) _ _ _ rfl srcN ?c1 ?c2 ?c3 ?_)
 case c1=>simp only [maxLen]; omega
 case c2=>omega
 case c3=>have:=HO.out.2.2; simp; omega
 intro ao' c' w' q1 q2 q3 q4
 have G:=Hq (Grew.of_app (ys:=[.int .u8 (224+r / 4096),.int .u8 (128+r / 64 % 64),.int .u8 (128+r % 64)]) q1 q2 q3 q4)
 clear q1 q2 q3 q4 srcN
 go_wp2_with fail
 go_ret
 exact ⟨ao',c',rfl,G.out⟩
theorem rune_three_hi(base:Nat)(ao:Option Addr)(c n:Nat)(xs:List Value)(r:Int)(h0:57344≤r)(h1:r≤65535)(w:World)(hown:w.ownsRow base 5 1 (.slice ao n c) n xs)(hlen:n+4≤140737488355328)(hBw:base≤w.heap.size):
  Calls Tryz.prog 174 #[.slice ao n c,.int .i32 r] w fun e w'=>∃ ao' c',e=.returned (.slice ao' (n+3) c')∧Grew w w' base (.slice ao n c) n xs (.slice ao' (n+3) c') [.int .u8 (224+r / 4096),.int .u8 (128+r / 64 % 64),.int .u8 (128+r % 64)]:=by
 obtain ⟨i0,hi,hz0,hz1,hz2⟩:=info_parts info5
 have srcN:Src Tryz.prog 1 47 (.slice (some ⟨w.heap.size,0,none⟩) 3 3) 3 [.int .u8 (224+r / 4096),.int .u8 (128+r / 64 % 64),.int .u8 (128+r % 64)] (w.alloc (.cells #[.int .u8 (224+r / 4096),.int .u8 (128+r / 64 % 64),.int .u8 (128+r % 64)] 5)):=
  Src.ofSlice _ Tryz.underlying47 _ _ _ _ rfl (World.news_of_block (cs:=#[.int .u8 (224+r / 4096),.int .u8 (128+r / 64 % 64),.int .u8 (128+r % 64)]) (t:=5) (fr:=(0,0)) (heap_alloc_new w _)) (by simp [Value.oneCell'])
 have HO:=Hq (And.intro hown (And.intro hlen hBw))
 clear hown
 go_enter Tryz.func174,Tryz.ntmps174
 go_wp2_with (at_builtin; refine wpList_appS _ rfl _ _ 47 47 rfl base 5 i0 _ 1 Tryz.underlying47 hi hz0 hz1 hz2 rfl _ _ _ rfl (HO.out.1.alloc _) _ _ _ rfl srcN ?c1 ?c2 ?c3 ?_)
 case c1=>simp only [maxLen]; omega
 case c2=>omega
 case c3=>have:=HO.out.2.2; simp; omega
 intro ao' c' w' q1 q2 q3 q4
 have G:=Hq (Grew.of_app (ys:=[.int .u8 (224+r / 4096),.int .u8 (128+r / 64 % 64),.int .u8 (128+r % 64)]) q1 q2 q3 q4)
 clear q1 q2 q3 q4 srcN
 go_wp2_with fail
 go_ret
 exact ⟨ao',c',rfl,G.out⟩
theorem rune_four(base:Nat)(ao:Option Addr)(c n:Nat)(xs:List Value)(r:Int)(h0:65536≤r)(h1:r≤1114111)(w:World)(hown:w.ownsRow base 5 1 (.slice ao n c) n xs)(hlen:n+4≤140737488355328)(hBw:base≤w.heap.size):
  Calls Tryz.prog 174 #[.slice ao n c,.int .i32 r] w fun e w'=>∃ ao' c',e=.returned (.slice ao' (n+4) c')∧Grew w w' base (.slice ao n c) n xs (.slice ao' (n+4) c') [.int .u8 (240+r / 262144),.int .u8 (128+r / 4096 % 64),.int .u8 (128+r / 64 % 64),.int .u8 (128+r % 64)]:=by
 obtain ⟨i0,hi,hz0,hz1,hz2⟩:=info_parts info5
 have srcN:Src Tryz.prog 1 47 (.slice (some ⟨w.heap.size,0,none⟩) 4 4) 4 [.int .u8 (240+r / 262144),.int .u8 (128+r / 4096 % 64),.int .u8 (128+r / 64 % 64),.int .u8 (128+r % 64)] (w.alloc (.cells #[.int .u8 (240+r / 262144),.int .u8 (128+r / 4096 % 64),.int .u8 (128+r / 64 % 64),.int .u8 (128+r % 64)] 5)):=
  Src.ofSlice _ Tryz.underlying47 _ _ _ _ rfl (World.news_of_block (cs:=#[.int .u8 (240+r / 262144),.int .u8 (128+r / 4096 % 64),.int .u8 (128+r / 64 % 64),.int .u8 (128+r % 64)]) (t:=5) (fr:=(0,0)) (heap_alloc_new w _)) (by simp [Value.oneCell'])
 have HO:=Hq (And.intro hown (And.intro hlen hBw))
 clear hown
 go_enter Tryz.func174,Tryz.ntmps174
 go_wp2_with (at_builtin; refine wpList_appS _ rfl _ _ 47 47 rfl base 5 i0 _ 1 Tryz.underlying47 hi hz0 hz1 hz2 rfl _ _ _ rfl (HO.out.1.alloc _) _ _ _ rfl srcN ?c1 ?c2 ?c3 ?_)
 case c1=>simp only [maxLen]; omega
 case c2=>omega
 case c3=>have:=HO.out.2.2; simp; omega
 intro ao' c' w' q1 q2 q3 q4
 have G:=Hq (Grew.of_app (ys:=[.int .u8 (240+r / 262144),.int .u8 (128+r / 4096 % 64),.int .u8 (128+r / 64 % 64),.int .u8 (128+r % 64)]) q1 q2 q3 q4)
 clear q1 q2 q3 q4 srcN
 go_wp2_with fail
 go_ret
 exact ⟨ao',c',rfl,G.out⟩
theorem encO_two{r:Int}(h0:128≤r)(h1:r≤2047):encO r=[192+r / 64,128+r % 64]:=by unfold encO; rw [if_neg (by omega),if_pos (by omega)]
theorem encO_three{r:Int}(h:(2048≤r∧r≤55295)∨(57344≤r∧r≤65535)):encO r=[224+r / 4096,128+r / 64 % 64,128+r % 64]:=by unfold encO; rw [if_neg (by omega),if_neg (by omega),if_neg (by omega),if_pos (by omega)]
theorem encO_four{r:Int}(h:65536≤r):encO r=[240+r / 262144,128+r / 4096 % 64,128+r / 64 % 64,128+r % 64]:=by unfold encO; rw [if_neg (by omega),if_neg (by omega),if_neg (by omega),if_neg (by omega)]
theorem rune174(base:Nat)(ao:Option Addr)(c n:Nat)(xs:List Value)(r:Int)(h0:128≤r)(h1:r≤1114111)(h2:r<55296∨57343<r)(w:World)(hown:w.ownsRow base 5 1 (.slice ao n c) n xs)(hlen:n+4≤140737488355328)(hBw:base≤w.heap.size):
  Calls Tryz.prog 174 #[.slice ao n c,.int .i32 r] w fun e w'=>∃ ao' c',e=.returned (.slice ao' (n+(encO r).length) c')∧Grew w w' base (.slice ao n c) n xs (.slice ao' (n+(encO r).length) c') ((encO r).map (Value.int .u8)):=by
 by_cases a:r≤2047
 ·rw [encO_two h0 a]
  exact rune_two base ao c n xs r h0 a w hown hlen hBw
 by_cases b:r≤55295
 ·rw [encO_three (.inl ⟨by omega,b⟩)]
  exact rune_three_lo base ao c n xs r (by omega) b w hown hlen hBw
 by_cases d:r≤65535
 ·rw [encO_three (.inr ⟨by omega,d⟩)]
  exact rune_three_hi base ao c n xs r (by omega) d w hown hlen hBw
 ·rw [encO_four (by omega)]
  exact rune_four base ao c n xs r (by omega) h1 w hown hlen hBw
theorem rune156(base:Nat)(ao:Option Addr)(c n:Nat)(xs:List Value)(r:Int)(h0:0≤r)(h1:r≤1114111)(h2:r<55296∨57343<r)(w:World)(hown:w.ownsRow base 5 1 (.slice ao n c) n xs)(hlen:n+4≤140737488355328)(hBw:base≤w.heap.size):
  Calls Tryz.prog 156 #[.slice ao n c,.int .i32 r] w fun e w'=>∃ ao' c',e=.returned (.slice ao' (n+(encO r).length) c')∧Grew w w' base (.slice ao n c) n xs (.slice ao' (n+(encO r).length) c') ((encO r).map (Value.int .u8)):=by
 by_cases a:r≤127
 ·have e:encO r=[r]:=by unfold encO; rw [if_pos (by omega)]
  rw [e]
  exact rune_one base ao c n xs r h0 a w hown hlen hBw
 ·have C:=Hq (rune174 base ao c n xs r (by omega) h1 h2 w hown hlen hBw)
  generalize (encO r).length=k at C ⊢
  generalize (encO r).map (Value.int .u8)=ys at C ⊢
  have a2:127<r:=by omega
  clear hown a
  go_enter Tryz.func156,Tryz.ntmps156
  go_wp2_with fail
  refine C.out.mono ?_
  rintro e w' ⟨ao',c',rfl,hg⟩
  have G:=Hq hg
  clear hg
  go_wp2_with fail
  go_ret
  exact ⟨ao',c',rfl,G.out⟩
end Go.Proofs.YtknaalohaagcdaaGreatDoor.Own
namespace Go.Proofs.YtknaalohaagcdaaGreatDoor.Own
open Go.RowKit JG
theorem Grew.none{w w':World}{base n:Nat}{v:Value}{xs:List Value}(h:w.ownsRow base 5 1 v n xs)(hg:w.grownBy w' none):Grew w w' base v n xs v []:=
 ⟨by simpa using h.kept hg (by cases v.ownBlock<;>simp),⟨hg.os,hg.tape,hg.output,hg.size,fun i hi _=>hg.block i hi (by simp)⟩,h.kept hg (by cases v.ownBlock<;>simp),.inl (.inl rfl)⟩
theorem grow172(base:Nat)(ao:Option Addr)(c n m:Nat)(xs:List Value)(w:World)(hown:w.ownsRow base 5 1 (.slice ao n c) n xs)(hb:base≤w.heap.size)(hm:n+m≤4611686018427387904)(hbig:n+m≤140737488355328):
  Calls Tryz.prog 172 #[.slice ao n c,.int .i64 m] w fun e w'=>∃ ao' c',e=.returned (.slice ao' n c')∧Grew w w' base (.slice ao n c) n xs (.slice ao' n c') []:=by
 obtain ⟨ao0,c0,he,hnc,hcm⟩:=form_of hown
 simp only [Value.slice.injEq,true_and] at he
 obtain ⟨rfl,rfl⟩:=he
 have hcm':c≤9223372036854775807:=by unfold maxLen at hcm; omega
 by_cases hroom:n+m≤c
 ·refine (Tryz.slices_Grow_room ao n c m w hnc hcm' (by omega) hroom).mono ?_
  rintro e w' ⟨rfl,rfl⟩
  exact ⟨ao,c,rfl,Grew.none hown (World.grownBy.refl _ none)⟩
 ·obtain ⟨i0,hi,hz0,hz1,hz2⟩:=info_parts info5
  have hge:=grownCap_ge w (n+m) c 5
  have hcl:grownCap w (n+m) c 5≤maxLen:=grownCap_le_maxLen w (n+m) c 5 (by unfold maxLen; omega)
  have hw:∀ cs:List Value,cs.length=c→cs.take n=xs→(w.drew.alloc (.cells (cs.toArray++Builtin.zeroCells (Value.int .u8 0).cells (n+m-c)++Builtin.zeroCells (Value.int .u8 0).cells (grownCap w (n+m) c 5-(n+m))) 5)).ownsRow base 5 1 (.slice (some ⟨w.heap.size,0,none⟩) n (grownCap w (n+m) c 5)) n xs:=by
   intro cs h1 h2
   refine ⟨hown.1,.inr ⟨w.heap.size,_,_,rfl,hb,heap_alloc_new w.drew _,by omega,hcl,?_,?_⟩⟩
   ·simp only [Array.size_append,List.size_toArray,size_zeroCells,h1,show (Value.int IntKind.u8 0).cells.size=1 from rfl]
    omega
   ·rw [Array.toList_append,Array.toList_append,List.append_assoc,Nat.mul_one,List.take_append_of_le_length (by rw [h1]; exact hnc)]
    exact h2
  have hgr:∀ (o:Obj) (r:Option Nat),w.grownBy (w.drew.alloc o) r:=fun o r=>⟨rfl,rfl,rfl,by simp,fun k hk _=>RowKit.Below.heap_alloc w.drew _ k hk⟩
  have fin:∀ cs:List Value,cs.length=c→cs.take n=xs→(ao=none→c=0)→(∀ a,ao=some a→∀ j v,cs[j]? = some v→w.cell? (a.add j)=some v)→
    Calls Tryz.prog 172 #[.slice ao n c,.int .i64 m] w fun e w'=>∃ ao' c',e=.returned (.slice ao' n c')∧Grew w w' base (.slice ao n c) n xs (.slice ao' n c') []:=by
   intro cs h1 h2 h3 h4
   refine (Tryz.slices_Grow_grow i0 (.int .u8 0) hi hz0 (by omega) ao n c m cs w hnc (by omega) (by rw [hz2]; omega) hm (by rw [hz1,h1,Nat.mul_one]) h3 h4).mono ?_
   rintro e w' ⟨rfl,rfl⟩
   refine ⟨_,_,rfl,by simpa using hw cs h1 h2,hgr _ _,hown.kept (hgr _ none) (by cases (Value.slice ao n c).ownBlock<;>simp),.inr ⟨_,rfl,Nat.le_refl _⟩⟩
  rcases hown.2 with ⟨h1,h2⟩|⟨g,cap,cur,h1,hbg,hg,_,_,hcs,htk⟩
  ·simp only [Value.slice.injEq] at h1
   obtain ⟨rfl,rfl,rfl⟩:=h1
   have hx:xs=[]:=List.eq_nil_of_length_eq_zero (by simpa using hown.1)
   exact fin [] rfl (by simp [hx]) (fun _=>rfl) (fun a ha=>by cases ha)
  ·simp only [Value.slice.injEq,true_and] at h1
   obtain ⟨rfl,rfl⟩:=h1
   refine fin cur.toList (by rw [Array.length_toList,hcs,Nat.mul_one]) (by rw [Nat.mul_one] at htk; exact htk) (fun h=>by cases h) (fun a ha j v hv => ?_)
   obtain rfl:=Option.some.inj ha
   have hadd:(⟨g,0,none⟩:Addr).add j=⟨g,j,none⟩:=by unfold Addr.add; split<;>simp_all
   rw [hadd]
   exact cell_of_row _ _ j _ _ (0,0) (by rw [hg]) |>.trans (by simpa using hv)
def plainQ(c:Int):Bool:=decide (32≤c)&&decide (c<128) && !decide (c=92) && !decide (c=34)
theorem noEsc173(c:Int)(b:Bool)(h:plainQ c=b)(w:World):Calls Tryz.prog 173 #[.int .u8 c] w fun e w'=>e=.returned (.bool b)∧w=w':=by
 subst h
 unfold plainQ
 by_cases h1:c<128
 ·by_cases h2:32≤c
  ·by_cases h3:c=92
   ·subst h3
    go_enter Tryz.func173,Tryz.ntmps173
    go_wp2_with fail
    go_ret
    exact ⟨rfl,rfl⟩
   ·by_cases h4:c=34
    ·subst h4
     go_enter Tryz.func173,Tryz.ntmps173
     go_wp2_with fail
     go_ret
     exact ⟨rfl,rfl⟩
    ·go_enter Tryz.func173,Tryz.ntmps173
     go_wp2_with fail
     go_ret
     exact ⟨by simp [h1,h2,bne,h3,h4],rfl⟩
  ·go_enter Tryz.func173,Tryz.ntmps173
   go_wp2_with fail
   go_ret
   exact ⟨by simp; omega,rfl⟩
 ·go_enter Tryz.func173,Tryz.ntmps173
  go_wp2_with fail
  go_ret
  exact ⟨by simp; omega,rfl⟩
theorem prefix158_no(B q cap n m:Nat)(s:ByteArray)(low:Bool)(w:World)(hq:q+n≤s.size)(hB:Bf w B s)(hmn:m<n)(hm6:m<6)(h34:w.cell? ⟨B,q+m,none⟩=some (.int .u8 34)):
  Calls Tryz.prog 158 #[.slice (some ⟨B,q,none⟩) n cap,.bool low] w fun e w'=>e=.returned (.bool false)∧w=w':=by
 have HB:=Hq hB
 have H34:=Hq h34
 clear hB h34
 go_enter Tryz.func158,Tryz.ntmps158
 go_wp2_with fail
 go_loopg [9] n (fun gk v9 wr=>∃ (i:Nat),v9=.int .i64 i∧i≤m∧Hid (gk=n-i)∧w=wr)
 case atStart=>exact ⟨0,rfl,by omega,Hq rfl,rfl⟩
 case round=>
  obtain ⟨i,rfl,hi,HG,rfl⟩:=hrel
  by_cases hlt:i<n
  ·have t4:decide (i<n)=true:=by simpa using hlt
   have i0:(0:Int)≤(i:Int):=Int.natCast_nonneg _
   have i1:(i:Int)<(n:Int):=by omega
   have hc:=HB.out (q+i) (by omega)
   have hcm:i<m∨(s[q+i].toNat:Int)=34:=by
    by_cases hx:i<m
    ·exact .inl hx
    ·obtain rfl:m=i:=by omega
     have e:=H34.out
     rw [hc] at e
     simp only [Option.some.injEq,Value.int.injEq,true_and] at e
     exact .inr e
   generalize (s[q+i].toNat:Int)=c at hc hcm
   have HGm:=Hq (show n-(i+1)<gk by have:=HG.out; omega)
   rcases (show i=0∨i=1∨i=2∨i=3∨(4≤i∧i<6) by omega) with rfl|rfl|rfl|rfl|h4
   ·rw [Nat.add_zero] at hc
    by_cases hc0:c=92
    ·subst hc0
     cases low
     all_goals
      go_wp2_with fail
      go_roundg (n-(0+1))
      case measure=>exact HGm.out
      case rel=>exact ⟨0+1,by go_num,by omega,Hq rfl,rfl⟩
    ·have u:(c != 92)=true:=by simpa using hc0
     cases low
     all_goals
      go_wp2_with fail
      go_ret
      exact ⟨rfl,rfl⟩
   ·by_cases hc0:c=117
    ·subst hc0
     cases low
     all_goals
      go_wp2_with fail
      go_roundg (n-(1+1))
      case measure=>exact HGm.out
      case rel=>exact ⟨1+1,by go_num,by omega,Hq rfl,rfl⟩
    ·have u:(c != 117)=true:=by simpa using hc0
     cases low
     all_goals
      go_wp2_with fail
      go_ret
      exact ⟨rfl,rfl⟩
   ·cases low
    ·skip
     rcases (show (48≤c∧c≤57)∨(97≤c∧c≤102)∨(65≤c∧c≤70)∨(c<48)∨(57<c∧c<65)∨(70<c∧c<97)∨(102<c) by omega) with hcl|hcl|hcl|hcl|hcl|hcl|hcl
     ·skip
      have u0:(decide (48≤c))=true:=by simp; omega
      have u1:(decide (c≤57))=true:=by simp; omega
      go_wp2_with fail
      go_roundg (n-(2+1))
      case measure=>exact HGm.out
      case rel=>exact ⟨2+1,by go_num,by omega,Hq rfl,rfl⟩
     ·skip
      have u0:(decide (48≤c))=true:=by simp; omega
      have u1:(decide (c≤57))=false:=by simp; omega
      have u2:(decide (97≤c))=true:=by simp; omega
      have u3:(decide (c≤102))=true:=by simp; omega
      go_wp2_with fail
      go_roundg (n-(2+1))
      case measure=>exact HGm.out
      case rel=>exact ⟨2+1,by go_num,by omega,Hq rfl,rfl⟩
     ·skip
      have u0:(decide (48≤c))=true:=by simp; omega
      have u1:(decide (c≤57))=false:=by simp; omega
      have u2:(decide (97≤c))=false:=by simp; omega
      have u3:(decide (65≤c))=true:=by simp; omega
      have u4:(decide (c≤70))=true:=by simp; omega
      go_wp2_with fail
      go_roundg (n-(2+1))
      case measure=>exact HGm.out
      case rel=>exact ⟨2+1,by go_num,by omega,Hq rfl,rfl⟩
     ·skip
      have u0:(decide (48≤c))=false:=by simp; omega
      have u1:(decide (97≤c))=false:=by simp; omega
      have u2:(decide (65≤c))=false:=by simp; omega
      go_wp2_with fail
      go_ret
      exact ⟨rfl,rfl⟩
     ·skip
      have u0:(decide (48≤c))=true:=by simp; omega
      have u1:(decide (c≤57))=false:=by simp; omega
      have u2:(decide (97≤c))=false:=by simp; omega
      have u3:(decide (65≤c))=false:=by simp; omega
      go_wp2_with fail
      go_ret
      exact ⟨rfl,rfl⟩
     ·skip
      have u0:(decide (48≤c))=true:=by simp; omega
      have u1:(decide (c≤57))=false:=by simp; omega
      have u2:(decide (97≤c))=false:=by simp; omega
      have u3:(decide (65≤c))=true:=by simp; omega
      have u4:(decide (c≤70))=false:=by simp; omega
      go_wp2_with fail
      go_ret
      exact ⟨rfl,rfl⟩
     ·skip
      have u0:(decide (48≤c))=true:=by simp; omega
      have u1:(decide (c≤57))=false:=by simp; omega
      have u2:(decide (97≤c))=true:=by simp; omega
      have u3:(decide (c≤102))=false:=by simp; omega
      have u4:(decide (65≤c))=true:=by simp; omega
      have u5:(decide (c≤70))=false:=by simp; omega
      go_wp2_with fail
      go_ret
      exact ⟨rfl,rfl⟩
    ·by_cases hc0:c=100
     ·subst hc0
      go_wp2_with fail
      go_roundg (n-(2+1))
      case measure=>exact HGm.out
      case rel=>exact ⟨2+1,by go_num,by omega,Hq rfl,rfl⟩
     by_cases hc1:c=68
     ·subst hc1
      go_wp2_with fail
      go_roundg (n-(2+1))
      case measure=>exact HGm.out
      case rel=>exact ⟨2+1,by go_num,by omega,Hq rfl,rfl⟩
     ·have u:(c != 100)=true:=by simpa using hc0
      have v:(c != 68)=true:=by simpa using hc1
      go_wp2_with fail
      go_ret
      exact ⟨rfl,rfl⟩
   ·cases low
    ·skip
     rcases (show (48≤c∧c≤57)∨(97≤c∧c≤102)∨(65≤c∧c≤70)∨(c<48)∨(57<c∧c<65)∨(70<c∧c<97)∨(102<c) by omega) with hcl|hcl|hcl|hcl|hcl|hcl|hcl
     ·skip
      have u0:(decide (48≤c))=true:=by simp; omega
      have u1:(decide (c≤57))=true:=by simp; omega
      go_wp2_with fail
      go_roundg (n-(3+1))
      case measure=>exact HGm.out
      case rel=>exact ⟨3+1,by go_num,by omega,Hq rfl,rfl⟩
     ·skip
      have u0:(decide (48≤c))=true:=by simp; omega
      have u1:(decide (c≤57))=false:=by simp; omega
      have u2:(decide (97≤c))=true:=by simp; omega
      have u3:(decide (c≤102))=true:=by simp; omega
      go_wp2_with fail
      go_roundg (n-(3+1))
      case measure=>exact HGm.out
      case rel=>exact ⟨3+1,by go_num,by omega,Hq rfl,rfl⟩
     ·skip
      have u0:(decide (48≤c))=true:=by simp; omega
      have u1:(decide (c≤57))=false:=by simp; omega
      have u2:(decide (97≤c))=false:=by simp; omega
      have u3:(decide (65≤c))=true:=by simp; omega
      have u4:(decide (c≤70))=true:=by simp; omega
      go_wp2_with fail
      go_roundg (n-(3+1))
      case measure=>exact HGm.out
      case rel=>exact ⟨3+1,by go_num,by omega,Hq rfl,rfl⟩
     ·skip
      have u0:(decide (48≤c))=false:=by simp; omega
      have u1:(decide (97≤c))=false:=by simp; omega
      have u2:(decide (65≤c))=false:=by simp; omega
      go_wp2_with fail
      go_ret
      exact ⟨rfl,rfl⟩
     ·skip
      have u0:(decide (48≤c))=true:=by simp; omega
      have u1:(decide (c≤57))=false:=by simp; omega
      have u2:(decide (97≤c))=false:=by simp; omega
      have u3:(decide (65≤c))=false:=by simp; omega
      go_wp2_with fail
      go_ret
      exact ⟨rfl,rfl⟩
     ·skip
      have u0:(decide (48≤c))=true:=by simp; omega
      have u1:(decide (c≤57))=false:=by simp; omega
      have u2:(decide (97≤c))=false:=by simp; omega
      have u3:(decide (65≤c))=true:=by simp; omega
      have u4:(decide (c≤70))=false:=by simp; omega
      go_wp2_with fail
      go_ret
      exact ⟨rfl,rfl⟩
     ·skip
      have u0:(decide (48≤c))=true:=by simp; omega
      have u1:(decide (c≤57))=false:=by simp; omega
      have u2:(decide (97≤c))=true:=by simp; omega
      have u3:(decide (c≤102))=false:=by simp; omega
      have u4:(decide (65≤c))=true:=by simp; omega
      have u5:(decide (c≤70))=false:=by simp; omega
      go_wp2_with fail
      go_ret
      exact ⟨rfl,rfl⟩
    ·skip
     rcases (show (99≤c∧c≤102)∨(67≤c∧c≤70)∨(c<67)∨(70<c∧c<99)∨(102<c) by omega) with hcl|hcl|hcl|hcl|hcl
     ·skip
      have u0:(decide (99≤c))=true:=by simp; omega
      have u1:(decide (c≤102))=true:=by simp; omega
      have u2:(decide (48≤c))=true:=by simp; omega
      have u3:(decide (c≤57))=false:=by simp; omega
      have u4:(decide (97≤c))=true:=by simp; omega
      go_wp2_with fail
      go_roundg (n-(3+1))
      case measure=>exact HGm.out
      case rel=>exact ⟨3+1,by go_num,by omega,Hq rfl,rfl⟩
     ·skip
      have u0:(decide (99≤c))=false:=by simp; omega
      have u1:(decide (67≤c))=true:=by simp; omega
      have u2:(decide (c≤70))=true:=by simp; omega
      have u3:(decide (48≤c))=true:=by simp; omega
      have u4:(decide (c≤57))=false:=by simp; omega
      have u5:(decide (97≤c))=false:=by simp; omega
      have u6:(decide (65≤c))=true:=by simp; omega
      go_wp2_with fail
      go_roundg (n-(3+1))
      case measure=>exact HGm.out
      case rel=>exact ⟨3+1,by go_num,by omega,Hq rfl,rfl⟩
     ·skip
      have u0:(decide (99≤c))=false:=by simp; omega
      have u1:(decide (67≤c))=false:=by simp; omega
      go_wp2_with fail
      go_ret
      exact ⟨rfl,rfl⟩
     ·skip
      have u0:(decide (99≤c))=false:=by simp; omega
      have u1:(decide (67≤c))=true:=by simp; omega
      have u2:(decide (c≤70))=false:=by simp; omega
      go_wp2_with fail
      go_ret
      exact ⟨rfl,rfl⟩
     ·skip
      have u0:(decide (99≤c))=true:=by simp; omega
      have u1:(decide (c≤102))=false:=by simp; omega
      have u2:(decide (67≤c))=true:=by simp; omega
      have u3:(decide (c≤70))=false:=by simp; omega
      go_wp2_with fail
      go_ret
      exact ⟨rfl,rfl⟩
   ·have e0:((i:Int)==0)=false:=by simp; omega
    have e1:((i:Int)==1)=false:=by simp; omega
    have e2:((i:Int)==2)=false:=by simp; omega
    have e3:((i:Int)==3)=false:=by simp; omega
    have e4:decide (2≤(i:Int))=true:=by simp; omega
    have e5:decide ((i:Int)<6)=true:=by simp; omega
    cases low
    all_goals
     rcases (show (48≤c∧c≤57)∨(97≤c∧c≤102)∨(65≤c∧c≤70)∨(c<48)∨(57<c∧c<65)∨(70<c∧c<97)∨(102<c) by omega) with hcl|hcl|hcl|hcl|hcl|hcl|hcl
     ·skip
      have u0:(decide (48≤c))=true:=by simp; omega
      have u1:(decide (c≤57))=true:=by simp; omega
      go_wp2_with fail
      go_roundg (n-(i+1))
      case measure=>exact HGm.out
      case rel=>exact ⟨i+1,by go_num,by omega,Hq rfl,rfl⟩
     ·skip
      have u0:(decide (48≤c))=true:=by simp; omega
      have u1:(decide (c≤57))=false:=by simp; omega
      have u2:(decide (97≤c))=true:=by simp; omega
      have u3:(decide (c≤102))=true:=by simp; omega
      go_wp2_with fail
      go_roundg (n-(i+1))
      case measure=>exact HGm.out
      case rel=>exact ⟨i+1,by go_num,by omega,Hq rfl,rfl⟩
     ·skip
      have u0:(decide (48≤c))=true:=by simp; omega
      have u1:(decide (c≤57))=false:=by simp; omega
      have u2:(decide (97≤c))=false:=by simp; omega
      have u3:(decide (65≤c))=true:=by simp; omega
      have u4:(decide (c≤70))=true:=by simp; omega
      go_wp2_with fail
      go_roundg (n-(i+1))
      case measure=>exact HGm.out
      case rel=>exact ⟨i+1,by go_num,by omega,Hq rfl,rfl⟩
     ·skip
      have u0:(decide (48≤c))=false:=by simp; omega
      have u1:(decide (97≤c))=false:=by simp; omega
      have u2:(decide (65≤c))=false:=by simp; omega
      go_wp2_with fail
      go_ret
      exact ⟨rfl,rfl⟩
     ·skip
      have u0:(decide (48≤c))=true:=by simp; omega
      have u1:(decide (c≤57))=false:=by simp; omega
      have u2:(decide (97≤c))=false:=by simp; omega
      have u3:(decide (65≤c))=false:=by simp; omega
      go_wp2_with fail
      go_ret
      exact ⟨rfl,rfl⟩
     ·skip
      have u0:(decide (48≤c))=true:=by simp; omega
      have u1:(decide (c≤57))=false:=by simp; omega
      have u2:(decide (97≤c))=false:=by simp; omega
      have u3:(decide (65≤c))=true:=by simp; omega
      have u4:(decide (c≤70))=false:=by simp; omega
      go_wp2_with fail
      go_ret
      exact ⟨rfl,rfl⟩
     ·skip
      have u0:(decide (48≤c))=true:=by simp; omega
      have u1:(decide (c≤57))=false:=by simp; omega
      have u2:(decide (97≤c))=true:=by simp; omega
      have u3:(decide (c≤102))=false:=by simp; omega
      have u4:(decide (65≤c))=true:=by simp; omega
      have u5:(decide (c≤70))=false:=by simp; omega
      go_wp2_with fail
      go_ret
      exact ⟨rfl,rfl⟩
  ·exact absurd hmn (by omega)
end Go.Proofs.YtknaalohaagcdaaGreatDoor.Own
