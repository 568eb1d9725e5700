import Derived.Test.YtknaalohaagcdaaGreatDoorG01
import Derived.Test.YtknaalohaagcdaaGreatDoorG06
import Derived.Test.YtknaalohaagcdaaGreatDoorG10
import Derived.Lib.AppendStr
set_option maxHeartbeats 400000000
set_option maxRecDepth 100000
namespace Go.Proofs.YtknaalohaagcdaaGreatDoor.Own
open Go.RowKit JG
theorem strCells_bytes(y:ByteArray):Lib.strCells y=(bytes y).map (Value.int .u8):=by
 unfold Lib.strCells bytes
 rw [List.map_map]
 rfl
theorem conv_own{w:World}{base n:Nat}{v:Value}{acc:List Int}(h:w.ownsRow base 5 1 v n (acc.map (Value.int .u8))):(convert 47 9 v).run Tryz.prog w=.ok (.string (strOfNums acc)) w:=by
 have hl:acc.length=n:=by have:=h.1; simpa using this
 rcases h.2 with ⟨rfl,h0⟩|⟨g,cap,cur,rfl,_,hg,hn,_,hsz,htk⟩
 ·have:acc=[]:=List.eq_nil_of_length_eq_zero (by omega)
  subst this
  exact run_convert_bytes_nil w 47 5 Tryz.underlying47 Tryz.underlying5 0 0 9 Tryz.underlying9
 ·refine run_convert_bytes_arg w 47 5 Tryz.underlying47 Tryz.underlying5 g 0 n cap acc hl (fun i hi => ?_) 9 Tryz.underlying9
  rw [Nat.zero_add,cell_of_row w g i cur 5 (0,0) hg]
  have e:(cur.toList.take (n * 1))[i]? = (acc.map (Value.int .u8))[i]? := by rw [htk]
  rw [List.getElem?_take,if_pos (by omega)] at e
  rw [← Array.getElem?_toList,e]
  simp [List.getD,hl,hi]
theorem info5:(Tryz.prog.info? 5).map (fun i=>(i.zero,i.size,i.bytes))=some (some (.int .u8 0),1,1):=by kernel_rfl
theorem pieceD_le(xs:List Int):(pieceD xs).1.length≤3 * (pieceD xs).2.1:=by
 have he:∀ c,(encO c).length≤4:=fun c=>by
  unfold encO brk
  repeat (first|(split; (exact by simp))|(exact by simp))
 unfold pieceD
 split
 ·unfold escD
  have h1:=he (unitAt xs)
  have h2:=he (65536+(unitAt xs-55296) * 1024+(unitAt (xs.drop 6)-56320))
  by_cases k1:xs.tail.headD 0=98
  ·rw [if_pos k1]; simp
  by_cases k2:xs.tail.headD 0=102
  ·rw [if_neg k1,if_pos k2]; simp
  by_cases k3:xs.tail.headD 0=110
  ·rw [if_neg k1,if_neg k2,if_pos k3]; simp
  by_cases k4:xs.tail.headD 0=114
  ·rw [if_neg k1,if_neg k2,if_neg k3,if_pos k4]; simp
  by_cases k5:xs.tail.headD 0=116
  ·rw [if_neg k1,if_neg k2,if_neg k3,if_neg k4,if_pos k5]; simp
  by_cases k6:xs.tail.headD 0=117
  ·rw [if_neg k1,if_neg k2,if_neg k3,if_neg k4,if_neg k5,if_pos k6]
   split
   ·show (encO _).length≤18
    omega
   ·split
    ·show (encO _).length≤36
     omega
    ·simp [brk]
  ·rw [if_neg k1,if_neg k2,if_neg k3,if_neg k4,if_neg k5,if_neg k6]; simp
 ·split
  ·simp [brk]
  ·show (xs.take (widthO xs)).length≤3 * widthO xs
   rw [List.length_take]
   omega
theorem inner_bytes(x:ByteArray):bytes (x.extract 1 (x.size-1))=(bytes x).tail.dropLast:=by
 rw [bytes_extract,List.dropLast_eq_take,List.length_tail,bytes_len,← List.drop_one]
theorem bytes_byte(y:ByteArray):∀ c∈bytes y,0≤c∧c≤255:=by
 intro c hc
 unfold bytes at hc
 obtain ⟨b,_,rfl⟩:=List.mem_map.1 hc
 have:=b.toNat_lt
 omega
theorem gb_none'{w w' w'':World}(h:w.grownBy w' none)(h2:w'.grownBy w'' none):w.grownBy w'' none:=h.trans h2
theorem gb_own{w w1 w2:World}{v:Value}(h:w.grownBy w1 none)(h2:w1.grownBy w2 v.ownBlock)(hv:∀ k,v.ownBlock=some k→w.heap.size≤k):w.grownBy w2 none:=by
 cases e:v.ownBlock with
 |none=>rw [e] at h2; exact h.trans h2
 |some k=>rw [e] at h2; exact gb_none h h2 (hv k e)
theorem decode144(x:ByteArray)(w:World)(hs:x.size≤4294967296)(hx:2≤x.size)(hin:Inner (bytes x).tail.dropLast):
  Calls Tryz.prog 144 #[.string x] w fun e w'=>∃ y:ByteArray,e=.returned (.tuple #[.string y,.bool (decq (bytes x)).2])∧bytes y=(decq (bytes x)).1∧w.grownBy w' none:=by
 unfold decq
 rw [← inner_bytes x] at hin ⊢
 have hsz:(x.extract 1 (x.size-1)).size=x.size-2:=by simp; omega
 obtain ⟨i0,hi,hz0,hz1,hz2⟩:=info_parts info5
 generalize hse:x.extract 1 (x.size-1)=s at hin hsz ⊢
 obtain ⟨r,HR⟩:∃ r,Hid (r=dec 0 (bytes s)):=⟨_,Hq rfl⟩
 rw [← HR.out]
 have hss:s.size≤4294967296:=by omega
 clear hsz
 go_enter Tryz.func144,Tryz.ntmps144
 go_wp2_with fail
 go_loopg [5,6,7] s.size (fun gk v5 v6 v7 wr=>∃ (q:Nat) (acc:List Int) (cl:Bool) (v:Value),v7=.int .i64 q∧v6=.bool cl∧v=v5∧q≤s.size∧Hid (Inner ((bytes s).drop q))∧Hid (wr.ownsRow w.heap.size 5 1 v acc.length (acc.map (Value.int .u8)))∧Hid (acc.length≤3 * q)∧
  Hid (∀ c∈acc,0≤c∧c≤255)∧Hid (r=(acc++(dec 0 ((bytes s).drop q)).1,cl&&(dec 0 ((bytes s).drop q)).2))∧Hid (gk=s.size-q)∧Hid (w.grownBy wr none))
 case atStart=>exact ⟨0,[],true,_,rfl,rfl,rfl,Nat.zero_le _,Hq hin,Hq (World.ownsRow_made w #[] 0 (Nat.le_refl _) (by decide) rfl),Hq (by simp),Hq (by simp),Hq (by rw [HR.out]; simp),Hq rfl,Hq (World.grownBy_alloc w _ none)⟩
 case round=>
  obtain ⟨q,acc,cl,v,rfl,rfl,rfl,hq,HI,HO,HL,HA,HE,HG,HB⟩:=hrel
  by_cases hlt:q<s.size
  ·have t0:decide (q<s.size)=true:=by simpa using hlt
   have hd:=bytes_drop hlt
   have hin2:=HI.out
   rw [hd] at hin2
   obtain ⟨hp1,hp2,hp3⟩:=inner_piece hin2
   have hdc:=dec_cons (s[q].toNat:Int) ((bytes s).drop (q+1))
   rw [← hd] at hp1 hp2 hp3 hdc
   rw [List.length_drop,bytes_len] at hp1
   rw [List.drop_drop] at hp2 hdc
   have hpl:=pieceD_le ((bytes s).drop q)
   have hpos:=pieceD_pos ((bytes s).drop q)
   have hu:pieceD ((bytes s).drop q)=if (s[q].toNat:Int)=92 then escD ((bytes s).drop q) else if widthO ((bytes s).drop q)=0 then (brk,1,false) else (((bytes s).drop q).take (widthO ((bytes s).drop q)),widthO ((bytes s).drop q),true):=by
    unfold pieceD
    rw [show ((bytes s).drop q).headD 0=(s[q].toNat:Int) by rw [hd]; rfl]
   by_cases h92:(s[q].toNat:Int)=92
   ·rw [if_pos h92] at hu
    obtain ⟨d,u,hdu,hun⟩:=hp3 h92
    have hq1:q+1<s.size:=by
     have:=congrArg List.length hdu
     rw [List.length_drop,bytes_len] at this
     simp at this
     omega
    have C:=Hq (fun w=>escaped165 s q w hss hq1 (fun h=>hun (by rw [bytes_drop hq1] at hdu; rw [← (List.cons.inj hdu).1]; exact h)))
    rw [hu] at hp1 hp2 hdc hpl hpos
    generalize escD ((bytes s).drop q)=pr at C hp1 hp2 hdc hpl hpos
    obtain ⟨pc,m,ok⟩:=pr
    have F:=Hq (And.intro hp1 (And.intro hp2 (And.intro hdc (And.intro hpl hpos))))
    have hqm:q+m≤s.size:=by have:m≤s.size-q:=hp1; omega
    clear hp1 hp2 hp3 hdc hpl hpos hu hin2 hd hdu hun
    go_wp2_with fail
    refine (C.out _).mono ?_
    rintro e w1 ⟨y,rfl,hy,hg⟩
    have HY:=Hq (And.intro hy hg)
    clear hy hg
    have own1:=HO.out.kept HY.out.2 (by cases v.ownBlock<;>simp)
    have hsz:y.size=pc.length:=by rw [← bytes_len,HY.out.1]
    have hlt1:=own1.lt
    have L:=Hq (And.intro hsz hlt1)
    clear hsz hlt1
    go_wp2_with (at_builtin; refine Lib.wpList_append_own_string _ rfl _ _ 47 9 (by rfl) w.heap.size 5 i0 Tryz.underlying47 Tryz.underlying9 hi hz0 hz1 hz2 v acc.length (acc.map (Value.int .u8)) (by rfl) own1 y (by rfl) ?c1 ?c2 ?c3 ?_)
    case c1=>have:=L.out.1; have:=HL.out; have:=F.out.1; have:=F.out.2.2.2.1; simp only [maxLen]; omega
    case c2=>have:=L.out.1; have:=HL.out; have:=F.out.1; have:=F.out.2.2.2.1; omega
    case c3=>have:=HB.out.size; have:=HY.out.2.size; omega
    intro v2 w2 hown2 hgr2 _
    have O2:=Hq (And.intro hown2 hgr2)
    clear hown2 hgr2 own1
    have fin:∀ b:Bool,(cl&&ok)=b→Hid (r=((acc++pc)++(dec 0 ((bytes s).drop (q+m))).1,b&&(dec 0 ((bytes s).drop (q+m))).2)):=fun b hb=>Hq (by
     rw [HE.out,F.out.2.2.1,← hb]
     simp only [List.append_assoc,Bool.and_assoc])
    cases cl<;>cases ok
    all_goals
     have E:=fin _ rfl
     clear fin
     go_wp2_with fail
     go_roundg (s.size-(q+m))
     case measure=>have:=HG.out; have:=F.out.2.2.2.2; have:=F.out.1; omega
     case rel=>
      have e1:=F.out.1
      have e2:=F.out.2.2.2.1
      refine ⟨q+m,acc++pc,_,v2,by go_num,rfl,rfl,by omega,Hq F.out.2.1,Hq ?_,Hq ?_,Hq ?_,E,Hq rfl,Hq ?_⟩
      ·have h:=O2.out.1
       rw [strCells_bytes,HY.out.1,L.out.1,← List.map_append] at h
       rw [List.length_append]
       exact h
      ·have:=HL.out
       rw [List.length_append]
       omega
      ·intro c hc
       rcases List.mem_append.1 hc with hc|hc
       ·exact HA.out c hc
       ·rw [← HY.out.1] at hc
        exact bytes_byte y c hc
      ·exact gb_own (gb_none' HB.out HY.out.2) O2.out.2 (fun k hk=>(L.out.2 k hk).1)
   ·rw [if_neg h92] at hu
    have t1:((s[q].toNat:Int)==92)=false:=by simpa using h92
    have C:=width166 s q
    generalize hn:widthO ((bytes s).drop q)=n at C hu
    have C:=Hq (fun w=>C w (by omega) hlt)
    rw [hu] at hp1 hp2 hdc hpl hpos
    by_cases h0:n=0
    ·rw [if_pos h0] at hp1 hp2 hdc hpl hpos
     have F:=Hq (And.intro hp1 (And.intro hp2 hdc))
     subst h0
     clear hp1 hp2 hp3 hdc hpl hpos hu hin2 hd hn
     go_wp2_with fail
     refine (C.out _).mono ?_
     rintro e w1 ⟨rfl,hg⟩
     have HY:=Hq hg
     clear hg
     have own1:=HO.out.kept HY.out (by cases v.ownBlock<;>simp)
     have L:=Hq own1.lt
     go_wp2_with (at_builtin; refine Lib.wpList_append_own_string _ rfl _ _ 47 9 (by rfl) w.heap.size 5 i0 Tryz.underlying47 Tryz.underlying9 hi hz0 hz1 hz2 v acc.length (acc.map (Value.int .u8)) (by rfl) own1 ⟨#[239,191,189]⟩ (by rfl) ?c1 ?c2 ?c3 ?_)
     case c1=>have:=HL.out; have:(⟨#[239,191,189]⟩:ByteArray).size=3:=rfl; simp only [maxLen]; omega
     case c2=>have:=HL.out; have:(⟨#[239,191,189]⟩:ByteArray).size=3:=rfl; omega
     case c3=>have:=HB.out.size; have:=HY.out.size; omega
     intro v2 w2 hown2 hgr2 _
     have O2:=Hq (And.intro hown2 hgr2)
     clear hown2 hgr2 own1
     go_wp2_with fail
     go_roundg (s.size-(q+1))
     case measure=>have:=HG.out; omega
     case rel=>
      refine ⟨q+1,acc++brk,false,v2,by go_num,rfl,rfl,by omega,Hq F.out.2.1,Hq ?_,Hq ?_,Hq ?_,Hq ?_,Hq rfl,Hq ?_⟩
      ·have h:=O2.out.1
       rw [strCells_bytes,show bytes ⟨#[239,191,189]⟩=brk from rfl,← List.map_append] at h
       rw [List.length_append]
       exact h
      ·have:=HL.out
       rw [List.length_append,show brk.length=3 from rfl]
       omega
      ·intro c hc
       rcases List.mem_append.1 hc with hc|hc
       ·exact HA.out c hc
       ·exact bytes_byte ⟨#[239,191,189]⟩ c hc
      ·rw [HE.out,F.out.2.2]
       simp
      ·exact gb_own (gb_none' HB.out HY.out) O2.out.2 (fun k hk=>(L.out k hk).1)
    ·rw [if_neg h0] at hp1 hp2 hdc hpl hpos
     have F:=Hq (And.intro hp1 (And.intro hp2 hdc))
     have hqn:q+n≤s.size:=by have:n≤s.size-q:=hp1; omega
     have h0':((n:Int)==0)=false:=by simpa using h0
     have hy:bytes (s.extract q (q+n))=((bytes s).drop q).take n:=by rw [bytes_extract]; congr 1; omega
     have hysz:(s.extract q (q+n)).size=n:=by simp; omega
     have hsl:∀ W,(Instr.slice 9 (.string s) (some (.int .i64 (q:Int))) (some (.int .i64 ((q:Int)+(n:Int)))) none).run Tryz.prog W=.ok (.string (s.extract q (q+n))) W:=fun W=>by
      have e:=run_slice_string (P:=Tryz.prog) W 9 s .i64 .i64 (q:Int) ((q:Int)+(n:Int)) Tryz.underlying9 (by omega) (by omega) (by omega)
      rw [e,Int.toNat_natCast,show ((q:Int)+(n:Int)).toNat=q+n by omega]
     generalize s.extract q (q+n)=y at hy hysz hsl
     have HY0:=Hq (And.intro hy hysz)
     clear hp1 hp2 hp3 hdc hpl hpos hu hin2 hd hn hy hysz h0
     go_wp2_with fail
     refine (C.out _).mono ?_
     rintro e w1 ⟨rfl,hg⟩
     have HY:=Hq hg
     clear hg
     have own1:=HO.out.kept HY.out (by cases v.ownBlock<;>simp)
     have L:=Hq own1.lt
     go_wp2_with (at_builtin; refine Lib.wpList_append_own_string _ rfl _ _ 47 9 (by rfl) w.heap.size 5 i0 Tryz.underlying47 Tryz.underlying9 hi hz0 hz1 hz2 v acc.length (acc.map (Value.int .u8)) (by rfl) own1 y (by rfl) ?c1 ?c2 ?c3 ?_)
     case c1=>have:=HL.out; have:=HY0.out.2; simp only [maxLen]; omega
     case c2=>have:=HL.out; have:=HY0.out.2; omega
     case c3=>have:=HB.out.size; have:=HY.out.size; omega
     intro v2 w2 hown2 hgr2 _
     have O2:=Hq (And.intro hown2 hgr2)
     clear hown2 hgr2 own1
     go_wp2_with fail
     go_roundg (s.size-(q+n))
     case measure=>
      have:=HG.out
      have:¬ n=0:=by intro h; subst h; simp at h0'
      omega
     case rel=>
      refine ⟨q+n,acc++((bytes s).drop q).take n,cl,v2,by go_num,rfl,rfl,by omega,Hq F.out.2.1,Hq ?_,Hq ?_,Hq ?_,Hq ?_,Hq rfl,Hq ?_⟩
      ·have h:=O2.out.1
       rw [strCells_bytes,← List.map_append,HY0.out.1] at h
       rw [List.length_append,← HY0.out.1,bytes_len]
       rw [← HY0.out.1] at h
       exact h
      ·have:=HL.out
       have:=HY0.out.2
       rw [List.length_append,← HY0.out.1,bytes_len]
       omega
      ·intro c hc
       rcases List.mem_append.1 hc with hc|hc
       ·exact HA.out c hc
       ·rw [← HY0.out.1] at hc
        exact bytes_byte y c hc
      ·rw [HE.out,F.out.2.2]
       simp
      ·exact gb_own (gb_none' HB.out HY.out) O2.out.2 (fun k hk=>(L.out k hk).1)
  ·have t0:decide (q<s.size)=false:=by simpa using hlt
   have hst:=conv_own HO.out
   have e0:(bytes s).drop q=[]:=bytes_end (by omega)
   have HE2:=Hq (show r=(acc,cl) by rw [HE.out,e0]; simp [dec])
   clear e0
   go_wp2_with fail
   go_ret2
   refine ⟨strOfNums acc,by rw [HE2.out]; rfl,by rw [HE2.out]; exact bytes_strOf HA.out,HB.out⟩
theorem bytes_inj{a b:ByteArray}(h:bytes a=bytes b):a=b:=by
 unfold bytes at h
 have:a.data.toList=b.data.toList:=by
  have key:∀ (l m:List UInt8),l.map (fun b=>(b.toNat:Int))=m.map (fun b=>(b.toNat:Int))→l=m:=by
   intro l
   induction l with
   |nil=>intro m hm; cases m with
    |nil=>rfl
    |cons _ _=>cases hm
   |cons x l ih=>intro m hm; cases m with
    |nil=>cases hm
    |cons y m=>
     rw [List.map_cons,List.map_cons] at hm
     have h1:=(List.cons.inj hm).1
     have h2:=ih m (List.cons.inj hm).2
     rw [h2,show x=y from UInt8.toNat_inj.1 (by omega)]
  exact key _ _ h
 have h2:=Array.toList_inj.1 this
 cases a
 cases b
 simp at h2
 rw [h2]
theorem toList_ne{a b:ByteArray}(h:¬ a=b):(a.toList==b.toList)=false:=by
 rw [ByteArray.toList_eq,ByteArray.toList_eq]
 simp only [beq_eq_false_iff_ne,ne_eq]
 intro e
 refine h (bytes_inj ?_)
 unfold bytes
 rw [e]
def Good(x:ByteArray):Prop:=x.size≤4294967296∧2≤x.size∧Inner (bytes x).tail.dropLast
theorem loopS_cons(dq:List Int→List Int × Bool)(l:List Int)(c:Bool)(nm:List Int)(r:List (List Int)):loopS dq l c (nm::r)=if (dq nm).1=l then (if c&&(dq nm).2 then (true,false) else ((loopS dq l c r).1,true)) else loopS dq l c r:=rfl
theorem again110(g b cap:Nat)(s:ByteArray)(p:Nat)(tw lo op:Bool)(nms:List ByteArray)(n:Nat)(w:World)(hl:nms.length=n+1)(hn:n≤4294967296)(hcap:n+1≤cap)(hG:∀ x∈nms,Good x)(hc:∀ i (h:i<nms.length),w.cell? ⟨b,i,none⟩=some (.string nms[i]))(hbg:b≠g)(h:R w g s p tw lo 0 op):
  Calls Tryz.prog 110 #[.pointer (some ⟨g,0,none⟩),.slice (some ⟨b,0,none⟩) (n+1) cap] w fun e w'=>e=.returned (.bool (chkS decq (nms.map bytes)).1)∧R w' g s p tw lo 0 (op || (chkS decq (nms.map bytes)).2)∧w.grownBy w' (some g):=by
 have hlast:(nms.map bytes).getLastD []=bytes (nms[n]'(by omega)):=by
  rw [List.getLastD_eq_getLast?,List.getLast?_eq_getElem?]
  simp [hl]
 have hinit:(nms.map bytes).dropLast=(nms.take n).map bytes:=by
  rw [List.dropLast_eq_take,List.length_map,hl,List.map_take]
  rfl
 obtain ⟨r,HRr⟩:∃ r,Hid (r=chkS decq (nms.map bytes)):=⟨_,Hq rfl⟩
 rw [← HRr.out]
 have hr:=HRr.out
 unfold chkS at hr
 rw [hlast,hinit] at hr
 have cn:=hc n (by omega)
 have D:=fun w i (hi:i<nms.length)=>decode144 nms[i] w (hG _ (List.getElem_mem hi)).1 (hG _ (List.getElem_mem hi)).2.1 (hG _ (List.getElem_mem hi)).2.2
 have DN:=Hq (D w n (by omega))
 generalize decq (bytes (nms[n]'(by omega)))=dl at DN hr
 obtain ⟨ll,lc⟩:=dl
 have H:=Hq h
 have HC:=Hq hc
 have HD:=Hq D
 have E0:=Hq hr
 clear h hc D hr hlast hinit
 have hcap2:n≤cap:=by omega
 go_enter Tryz.func110,Tryz.ntmps110
 go_wp2_with fail
 refine (DN.out).mono ?_
 rintro e w1 ⟨y,rfl,hy,hg⟩
 have HY:=Hq (And.intro hy hg)
 clear hy hg cn
 have hb0:b<w.heap.size:=World.block_lt_of_cell? w _ (HC.out 0 (by omega))
 go_wp2_with fail
 go_loopg [27] n (fun gk v27 wr=>∃ (i:Nat) (acc:Bool),v27=.int .i64 i∧i≤n∧Hid (R wr g s p tw lo 0 (op || acc))∧Hid (r=((loopS decq ll lc (((nms.take n).map bytes).drop i)).1,acc || (loopS decq ll lc (((nms.take n).map bytes).drop i)).2))∧Hid (w.grownBy wr (some g))∧Hid (gk=n-i))
 case atStart=>
  have hgg:w.grownBy w1 (some g):=⟨HY.out.2.os,HY.out.2.tape,HY.out.2.output,HY.out.2.size,fun i hi _=>HY.out.2.block i hi (by simp)⟩
  refine ⟨0,false,rfl,Nat.zero_le _,Hq ?_,Hq ?_,Hq hgg,Hq rfl⟩
  ·rw [Bool.or_false]
   refine ⟨?_,H.out.2⟩
   rw [HY.out.2.block g (Array.getElem?_eq_some_iff.1 H.out.1).1 (by simp)]
   exact H.out.1
  ·rw [E0.out]
   simp
 case round=>
  obtain ⟨i,acc,rfl,hi,HR,HE,HB,HG⟩:=hrel
  by_cases hlt:i<n
  ·have t0:decide (i<n)=true:=by simpa using hlt
   have ci:wr.cell? ⟨b,i,none⟩=some (.string (nms[i]'(by omega))):=HB.out.cell (HC.out i (by omega)) (by simpa using hbg)
   have D:=HD.out wr i (by omega)
   have hd:((nms.take n).map bytes).drop i=bytes (nms[i]'(by omega))::((nms.take n).map bytes).drop (i+1):=by
    rw [List.drop_eq_getElem_cons (by simp; omega)]
    congr 1
    simp
   have he:=HE.out
   rw [hd,loopS_cons] at he
   generalize decq (bytes (nms[i]'(by omega)))=di at D he
   obtain ⟨dt,dg⟩:=di
   have HE2:=Hq he
   have D2:=Hq D
   obtain ⟨_,_,_,_,_,c5,_,_,f5⟩:=HR.out.facts
   clear he D hd
   go_wp2_with fail
   refine (D2.out).mono ?_
   rintro e w2 ⟨y2,rfl,hy2,hg2⟩
   have HY2:=Hq (And.intro hy2 hg2)
   clear hy2 hg2 ci
   by_cases hne:y2=y
   ·have t1:(y2.toList==y.toList)=true:=by rw [hne]; simp
    have hdl:dt=ll:=by rw [← HY2.out.1,← HY.out.1,hne]
    have hgg:w.grownBy w2 (some g):=HB.out.trans ⟨HY2.out.2.os,HY2.out.2.tape,HY2.out.2.output,HY2.out.2.size,fun i hi _=>HY2.out.2.block i hi (by simp)⟩
    have hR2:R w2 g s p tw lo 0 (op || acc):=⟨by rw [HY2.out.2.block g (Array.getElem?_eq_some_iff.1 HR.out.1).1 (by simp)]; exact HR.out.1,H.out.2⟩
    have c5':=hR2.facts.2.2.2.2.2.1
    have f5':=hR2.facts.2.2.2.2.2.2.2.2
    have S:=Hq (And.intro hgg hR2)
    clear hgg hR2 c5 f5
    by_cases hcl:(lc&&dg)=true
    ·have e:=HE2.out
     rw [if_pos hdl,if_pos hcl] at e
     have E3:=Hq e
     obtain ⟨rfl,rfl⟩:lc=true∧dg=true:=by simpa using hcl
     clear e hcl
     go_wp2_with fail
     go_ret
     rw [E3.out]
     exact ⟨rfl,by simpa using S.out.2,S.out.1⟩
    ·have e:=HE2.out
     rw [if_pos hdl,if_neg hcl] at e
     have E3:=Hq e
     cases lc<;>cases dg
     case true.true=>exact absurd rfl hcl
     all_goals
      clear e hcl
      go_wp2_with fail
      go_roundg (n-(i+1))
      case measure=>have:=HG.out; omega
      case rel=>exact ⟨i+1,true,by go_num,by omega,Hq (by rw [Bool.or_true]; exact S.out.2.setOpen true),Hq (by rw [E3.out]; simp),Hq (gb_set S.out.1 _ _),Hq rfl⟩
   ·have t1:(y2.toList==y.toList)=false:=toList_ne hne
    have hdl:¬ dt=ll:=fun h=>hne (bytes_inj (by rw [HY2.out.1,HY.out.1]; exact h))
    go_wp2_with fail
    go_roundg (n-(i+1))
    case measure=>have:=HG.out; omega
    case rel=>
     have hgg:w.grownBy w2 (some g):=HB.out.trans ⟨HY2.out.2.os,HY2.out.2.tape,HY2.out.2.output,HY2.out.2.size,fun i hi _=>HY2.out.2.block i hi (by simp)⟩
     refine ⟨i+1,acc,by go_num,by omega,Hq ?_,Hq ?_,Hq hgg,Hq rfl⟩
     ·refine ⟨?_,H.out.2⟩
      rw [HY2.out.2.block g (Array.getElem?_eq_some_iff.1 HR.out.1).1 (by simp)]
      exact HR.out.1
     ·rw [HE2.out,if_neg hdl]
  ·obtain rfl:i=n:=by omega
   have t0:decide (i<i)=false:=by simp
   go_wp2_with fail
   go_ret
   have e:=HE.out
   rw [List.drop_of_length_le (by simp; omega),show loopS decq ll lc []=(false,false) from rfl] at e
   rw [e]
   exact ⟨rfl,by simpa using HR.out,HB.out⟩
def Bf(w:World)(B:Nat)(s:ByteArray):Prop:=∀ i (h:i<s.size),w.cell? ⟨B,i,none⟩=some (.int .u8 (s[i].toNat:Int))
theorem Bf.kept{w w':World}{B:Nat}{s:ByteArray}(h:Bf w B s)(e:w'.heap[B]? = w.heap[B]?):Bf w' B s:=fun i hi=>(World.cell?_of_block (w:=w) (a:=⟨B,i,none⟩) e).trans (h i hi)
theorem ws61_nil(ao:Option Addr)(cap:Nat)(w:World):Calls Tryz.prog 61 #[.slice ao 0 cap] w fun e w'=>e=.returned (.int .i64 0)∧w'=w:=by
 go_enter Tryz.func61,Tryz.ntmps61
 go_wp2_with fail
 go_loopg [2] 1 (fun gk v2 wr=>v2=.int .i64 0∧wr=w∧gk=1)
 case atStart=>exact ⟨rfl,rfl,rfl⟩
 case round=>
  obtain ⟨rfl,rfl,hk⟩:=hrel
  go_wp2_with fail
  go_ret
  exact ⟨rfl,rfl⟩
theorem ws61(B p cap:Nat)(s:ByteArray)(w:World)(hs:s.size≤4294967296)(hp:p≤s.size)(hB:Bf w B s):
  Calls Tryz.prog 61 #[.slice (some ⟨B,p,none⟩) (s.size-p) cap] w fun e w'=>e=.returned (.int .i64 (ws ((bytes s).drop p):Nat))∧w'=w:=by
 have HB:=Hq hB
 clear hB
 go_enter Tryz.func61,Tryz.ntmps61
 go_wp2_with fail
 go_loopg [2] (s.size-p) (fun gk v2 wr=>∃ i,v2=.int .i64 (i:Nat)∧p+i≤s.size∧Hid (ws ((bytes s).drop p)=i+ws ((bytes s).drop (p+i)))∧Hid (gk=s.size-(p+i))∧wr=w)
 case atStart=>exact ⟨0,rfl,hp,Hq (by simp),Hq rfl,rfl⟩
 case round=>
  obtain ⟨i,rfl,hi,HE,HG,rfl⟩:=hrel
  have i0:(0:Int)≤(i:Int):=Int.natCast_nonneg _
  by_cases hlt:p+i<s.size
  ·have i1:(i:Int)<((s.size-p:Nat):Int):=by omega
   have t0:decide (i<s.size-p)=true:=by simp; omega
   have hc:=HB.out (p+i) hlt
   have hd:=bytes_drop hlt
   by_cases hw:isWs (s[p+i].toNat:Int)=true
   ·have E:=Hq (HE.out.trans (by rw [hd,ws_yes hw,show p+(i+1)=p+i+1 by omega]; omega:_=(i+1)+ws ((bytes s).drop (p+(i+1)))))
    have hw':=hw
    unfold isWs at hw'
    generalize (s[p+i].toNat:Int)=c at hc hw'
    clear hw hd
    have go:c=32∨c=9∨c=13∨c=10:=by simp at hw'; omega
    clear hw'
    rcases go with rfl|rfl|rfl|rfl
    all_goals
     go_wp2_with fail
     go_roundg (s.size-(p+(i+1)))
     case measure=>have:=HG.out; omega
     case rel=>exact ⟨i+1,by go_num,by omega,E,Hq rfl,rfl⟩
   ·have hw:=by simpa using hw
    have E:=Hq (HE.out.trans (by rw [hd,ws_no hw]:_=i+0))
    unfold isWs at hw
    generalize (s[p+i].toNat:Int)=c at hc hw
    clear hd
    have t1:(c==32)=false:=by simp at hw ⊢; omega
    have t2:(c==9)=false:=by simp at hw ⊢; omega
    have t3:(c==13)=false:=by simp at hw ⊢; omega
    have t4:(c==10)=false:=by simp at hw ⊢; omega
    clear hw
    go_wp2_with fail
    go_ret
    exact ⟨by rw [E.out]; rfl,rfl⟩
  ·have t0:decide (i<s.size-p)=false:=by simp; omega
   have z:(bytes s).drop (p+i)=[]:=bytes_end (by omega)
   have E:=Hq (HE.out.trans (by rw [z]; rfl:_=i+0))
   clear z
   go_wp2_with fail
   go_ret
   exact ⟨by rw [E.out]; rfl,rfl⟩
theorem word_take:∀ (L xs:List Int),wordAt L xs=if xs.take L.length=L then some L.length else none
 |[],xs=>by simp [wordAt]
 |_::_,[]=>by simp [wordAt]
 |a::L,c::t=>by
  rw [word_cons,word_take L t]
  by_cases h:c=a
  ·subst h
   by_cases h2:t.take L.length=L
   ·rw [if_pos rfl,if_pos h2,if_pos (by simp [h2])]
    rfl
   ·rw [if_pos rfl,if_neg h2,if_neg (by simpa using h2)]
    rfl
  ·rw [if_neg h,if_neg (by simp [h])]
theorem conv_head{w:World}{B p cap n:Nat}{s:ByteArray}(hB:Bf w B s)(hp:p+n≤s.size):(convert 47 9 (.slice (some ⟨B,p,none⟩) n cap)).run Tryz.prog w=.ok (.string (s.extract p (p+n))) w:=by
 have hy:bytes (s.extract p (p+n))=((bytes s).drop p).take n:=by rw [bytes_extract]; congr 1; omega
 have hl:(((bytes s).drop p).take n).length=n:=by rw [List.length_take,List.length_drop,bytes_len]; omega
 have e:=run_convert_bytes_arg (P:=Tryz.prog) w 47 5 Tryz.underlying47 Tryz.underlying5 B p n cap (((bytes s).drop p).take n) hl (fun i hi=>by
  rw [hB (p+i) (by omega)]
  congr 2
  simp [List.getD,hi]
  unfold bytes
  rw [List.getElem?_map]
  have:s.data.toList[p+i]? = some (s[p+i]'(by omega)):=by
   rw [List.getElem?_eq_getElem (by have:s.data.toList.length=s.size:=(by simp); omega)]
   rfl
  rw [this]
  rfl) 9 Tryz.underlying9
 have h2:strOfNums (((bytes s).drop p).take n)=s.extract p (p+n):=bytes_inj ((bytes_strOf (fun c hc=>by rw [← hy] at hc; exact bytes_byte _ c hc)).trans hy.symm)
 rw [h2] at e
 exact e
theorem null86(B p cap:Nat)(s:ByteArray)(w:World)(hs:s.size≤4294967296)(hp:p≤s.size)(hcap:s.size-p≤cap)(hB:Bf w B s):
  Calls Tryz.prog 86 #[.slice (some ⟨B,p,none⟩) (s.size-p) cap] w fun e w'=>e=.returned (.int .i64 ((wordAt [110,117,108,108] ((bytes s).drop p)).getD 0:Nat))∧w'=w:=by
 rw [word_take]
 by_cases hn:p+4≤s.size
 ·have t0:decide (4≤((s.size-p:Nat):Int))=true:=by simp; omega
  have hst:=conv_head (cap:=cap) (n:=4) hB hn
  have hy:bytes (s.extract p (p+4))=((bytes s).drop p).take 4:=by rw [bytes_extract]; congr 1; omega
  have hcap2:4≤cap:=by omega
  rw [show ([110,117,108,108]:List Int).length=4 from rfl,← hy]
  generalize s.extract p (p+4)=y at hst
  by_cases he:y=⟨#[110,117,108,108]⟩
  ·have t1:(y.toList==[110,117,108,108])=true:=by rw [he,ByteArray.toList_eq]; rfl
   rw [if_pos (by rw [he]; rfl)]
   clear hy he
   go_enter Tryz.func86,Tryz.ntmps86
   go_wp2_with fail
   go_ret
   exact ⟨rfl,rfl⟩
  ·have t1:(y.toList==[110,117,108,108])=false:=by
    have h:=toList_ne he
    rwa [ByteArray.toList_eq (⟨#[110,117,108,108]⟩:ByteArray)] at h
   rw [if_neg (fun h=>he (bytes_inj (h.trans (by rfl))))]
   clear hy he
   go_enter Tryz.func86,Tryz.ntmps86
   go_wp2_with fail
   go_ret
   exact ⟨rfl,rfl⟩
 ·have t0:decide (4≤((s.size-p:Nat):Int))=false:=by simp; omega
  rw [if_neg (fun h=>by
   have:=congrArg List.length h
   rw [List.length_take,List.length_drop,bytes_len] at this
   simp at this
   omega)]
  go_enter Tryz.func86,Tryz.ntmps86
  go_wp2_with fail
  go_ret
  exact ⟨rfl,rfl⟩
theorem false89(B p cap:Nat)(s:ByteArray)(w:World)(hs:s.size≤4294967296)(hp:p≤s.size)(hcap:s.size-p≤cap)(hB:Bf w B s):
  Calls Tryz.prog 89 #[.slice (some ⟨B,p,none⟩) (s.size-p) cap] w fun e w'=>e=.returned (.int .i64 ((wordAt [102,97,108,115,101] ((bytes s).drop p)).getD 0:Nat))∧w'=w:=by
 rw [word_take]
 by_cases hn:p+5≤s.size
 ·have t0:decide (5≤((s.size-p:Nat):Int))=true:=by simp; omega
  have hst:=conv_head (cap:=cap) (n:=5) hB hn
  have hy:bytes (s.extract p (p+5))=((bytes s).drop p).take 5:=by rw [bytes_extract]; congr 1; omega
  have hcap2:5≤cap:=by omega
  rw [show ([102,97,108,115,101]:List Int).length=5 from rfl,← hy]
  generalize s.extract p (p+5)=y at hst
  by_cases he:y=⟨#[102,97,108,115,101]⟩
  ·have t1:(y.toList==[102,97,108,115,101])=true:=by rw [he,ByteArray.toList_eq]; rfl
   rw [if_pos (by rw [he]; rfl)]
   clear hy he
   go_enter Tryz.func89,Tryz.ntmps89
   go_wp2_with fail
   go_ret
   exact ⟨rfl,rfl⟩
  ·have t1:(y.toList==[102,97,108,115,101])=false:=by
    have h:=toList_ne he
    rwa [ByteArray.toList_eq (⟨#[102,97,108,115,101]⟩:ByteArray)] at h
   rw [if_neg (fun h=>he (bytes_inj (h.trans (by rfl))))]
   clear hy he
   go_enter Tryz.func89,Tryz.ntmps89
   go_wp2_with fail
   go_ret
   exact ⟨rfl,rfl⟩
 ·have t0:decide (5≤((s.size-p:Nat):Int))=false:=by simp; omega
  rw [if_neg (fun h=>by
   have:=congrArg List.length h
   rw [List.length_take,List.length_drop,bytes_len] at this
   simp at this
   omega)]
  go_enter Tryz.func89,Tryz.ntmps89
  go_wp2_with fail
  go_ret
  exact ⟨rfl,rfl⟩
theorem true91(B p cap:Nat)(s:ByteArray)(w:World)(hs:s.size≤4294967296)(hp:p≤s.size)(hcap:s.size-p≤cap)(hB:Bf w B s):
  Calls Tryz.prog 91 #[.slice (some ⟨B,p,none⟩) (s.size-p) cap] w fun e w'=>e=.returned (.int .i64 ((wordAt [116,114,117,101] ((bytes s).drop p)).getD 0:Nat))∧w'=w:=by
 rw [word_take]
 by_cases hn:p+4≤s.size
 ·have t0:decide (4≤((s.size-p:Nat):Int))=true:=by simp; omega
  have hst:=conv_head (cap:=cap) (n:=4) hB hn
  have hy:bytes (s.extract p (p+4))=((bytes s).drop p).take 4:=by rw [bytes_extract]; congr 1; omega
  have hcap2:4≤cap:=by omega
  rw [show ([116,114,117,101]:List Int).length=4 from rfl,← hy]
  generalize s.extract p (p+4)=y at hst
  by_cases he:y=⟨#[116,114,117,101]⟩
  ·have t1:(y.toList==[116,114,117,101])=true:=by rw [he,ByteArray.toList_eq]; rfl
   rw [if_pos (by rw [he]; rfl)]
   clear hy he
   go_enter Tryz.func91,Tryz.ntmps91
   go_wp2_with fail
   go_ret
   exact ⟨rfl,rfl⟩
  ·have t1:(y.toList==[116,114,117,101])=false:=by
    have h:=toList_ne he
    rwa [ByteArray.toList_eq (⟨#[116,114,117,101]⟩:ByteArray)] at h
   rw [if_neg (fun h=>he (bytes_inj (h.trans (by rfl))))]
   clear hy he
   go_enter Tryz.func91,Tryz.ntmps91
   go_wp2_with fail
   go_ret
   exact ⟨rfl,rfl⟩
 ·have t0:decide (4≤((s.size-p:Nat):Int))=false:=by simp; omega
  rw [if_neg (fun h=>by
   have:=congrArg List.length h
   rw [List.length_take,List.length_drop,bytes_len] at this
   simp at this
   omega)]
  go_enter Tryz.func91,Tryz.ntmps91
  go_wp2_with fail
  go_ret
  exact ⟨rfl,rfl⟩
end Go.Proofs.YtknaalohaagcdaaGreatDoor.Own
