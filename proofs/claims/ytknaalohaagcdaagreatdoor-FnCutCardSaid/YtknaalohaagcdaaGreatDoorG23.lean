import Derived.Test.YtknaalohaagcdaaGreatDoorG01
import Derived.Test.YtknaalohaagcdaaGreatDoorG18
import Derived.Test.YtknaalohaagcdaaGreatDoorG22
import Derived.Lib.LaidTab
import Derived.Lib.ItoaMem
set_option maxHeartbeats 400000000
set_option maxRecDepth 100000
namespace Go.Proofs.YtknaalohaagcdaaGreatDoor.Own
open Go.RowKit
theorem ins_nil(lab:Nat→Nat)(base A j N m c2:Nat)(ao2:Option Addr)(w:World)(names:List (List Int))(flat:List Int)(nv:Value)(mo:Option Nat)(dec:List Int)(quoted:Bool)(hn:names.length=0)(hfl:names.flatten=flat)(hNN:flat.length=N)(hm:dec.length=m)
  (hA:Act Tryz.prog w lab base A j names (.slice none 0 0) (.slice ao2 N c2) mo) (hb:base≤w.heap.size)
  (hdb:∀ c∈dec,0≤c∧c≤255) (hNm:N+m≤4294967296) (hS:NameSrc w base (.slice ao2 N c2) nv N m flat dec quoted):
  Calls Tryz.prog 134 #[.pointer (some ⟨A,3 * j,none⟩),nv,.bool quoted] w (InsP lab base A j names dec w):=by
 obtain ⟨k1,k2,k3,_⟩:=(show C3 w A j _ _ _ from hA.blk).facts
 have r2:w.ownsRow base 5 1 (.slice ao2 N c2) N (flat.map (Value.int .u8)):=by have h:=hA.r2; rw [hfl,hNN] at h; exact h
 have R2:=Hq r2
 have HA:=Hq hA
 have HS:=Hq hS
 have HB:=Hq (And.intro hb hdb)
 have HE:=Hq (And.intro hn (And.intro hfl (And.intro hNN hm)))
 obtain ⟨i0,hi,hz0,hz1,hz2⟩:=info_parts info5
 clear hA hS hb hdb r2 hn hfl hNN hm
 go_enter Tryz.func134,Tryz.ntmps134
 go_upto_if 17 with (fail)
 go_cut [7] from 17 to 33 (fun v7 wc=>∃ aoA cA,v7=.slice aoA (N+m) cA∧Hid (Grew w wc base (.slice ao2 N c2) N (flat.map (Value.int .u8)) (.slice aoA (N+m) cA) (dec.map (Value.int .u8))))
 case first=>as_aux_lemma=>
  rcases HS.out with ⟨rfl,a,c,rfl,hcell⟩|⟨rfl,hcall⟩
  ·have HC:=Hq hcell
   clear hcell
   have hsrc:Src Tryz.prog 1 47 (.slice (some a) m c) m (dec.map (Value.int .u8)) w:=Src.ofSlice _ Tryz.underlying47 _ _ _ _ (by rw [List.length_map,HE.out.2.2.2]; omega) HC.out (by simp [Value.oneCell'])
   go_wp2_with (at_builtin; refine wpList_appS _ rfl _ _ 47 47 rfl base 5 i0 _ 1 Tryz.underlying47 hi hz0 hz1 hz2 rfl _ _ _ rfl R2.out _ _ _ rfl hsrc ?c1 ?c2 HB.out.1 ?_)
   case c1=>simp only [maxLen]; omega
   case c2=>omega
   intro aoA cA w' h1 h2 h3 h4
   have G:=Hq (show Grew w w' base (.slice ao2 N c2) N (flat.map (Value.int .u8)) (.slice aoA (N+m) cA) (dec.map (Value.int .u8)) from ⟨by rw [List.length_map,HE.out.2.2.2]; exact h1,h2,h4,h3.imp id (fun h=>⟨_,h,Nat.le_refl _⟩)⟩)
   clear h1 h2 h3 h4
   go_wp2_with fail
   go_meet
   case rel=>exact ⟨aoA,cA,rfl,G⟩
  ·have HC:=Hq hcall
   clear hcall
   go_wp2_with fail
   refine HC.out.mono ?_
   rintro e w' ⟨aoA,cA,ev,rfl,hg⟩
   have G:=Hq hg
   clear hg
   go_wp2_with fail
   go_meet
   case rel=>exact ⟨aoA,cA,rfl,G⟩
 case rest=>
  obtain ⟨aoA,cA,rfl,HG⟩:=hcut
  have hIS:=IS.start HA.out HA.out.lt (by rw [HE.out.2.1,HE.out.2.2.1]; exact HG.out)
  rw [HE.out.2.1] at hIS
  have HI:=Hq hIS
  obtain ⟨l1,l2,l3,_⟩:=hIS.c.facts
  clear hIS k1 k2 k3
  have hNA:N≤N+m:=by omega
  have hsf:=slice_from (W:=wc) (ao:=aoA) (n:=N+m) (cap:=cA) (a:=N) (k1:=.i64) hNA
  obtain ⟨u,hu⟩:∃ u,u=sliced aoA N (N+m) cA 1:=⟨_,rfl⟩
  rw [← hu] at hsf
  have HU:=Hq hu
  clear hu hNA
  have qE:∀ (W:World) (r:Option Nat),(binOp .eql 188 (.map r) (.map none)).run Tryz.prog W=.ok (.bool r.isNone) W:=fun W r=>run_eql_map_nil W 188 9 180 r Tryz.underlying188
  go_upto_region 6 with (fail)
  go_cut [57] from 40 to 58 (fun v57 wc'=>∃ b:Bool,v57=.bool b∧Hid (b=true→mo=none)∧wc=wc')
  case first=>as_aux_lemma=>
   cases mo with
   |some M=>
    have q:=qE wc (some M)
    simp only [Option.isNone_some] at q
    go_wp2_with fail
    go_meet
    case rel=>exact ⟨false,rfl,Hq (by simp),rfl⟩
   |none=>
    have q:=qE wc none
    simp only [Option.isNone_none] at q
    have LN:=Hq (len155 A j 0 0 none wc l1)
    by_cases h1k:1024<N
    ·have t3:decide (1024<N)=true:=by simpa using h1k
     have t4:decide ((1024:Int)<(N:Int))=true:=by simp; omega
     go_wp2_with fail
     refine LN.out.mono ?_
     rintro e w' ⟨rfl,rfl⟩
     go_wp2_with fail
     go_meet
     case rel=>exact ⟨true,rfl,Hq (by simp),rfl⟩
    ·have t3:decide (1024<N)=false:=by simpa using h1k
     have t4:decide ((1024:Int)<(N:Int))=false:=by simp; omega
     go_wp2_with fail
     refine LN.out.mono ?_
     rintro e w' ⟨rfl,rfl⟩
     go_wp2_with fail
     go_meet
     case rel=>exact ⟨false,rfl,Hq (by simp),rfl⟩
  case rest=>
   obtain ⟨b,rfl,HBN,rfl⟩:=hcut
   go_upto_if 57 with (fail)
   go_cut [8,10,11] from 58 to 87 (fun v8 v10 v11 w2=>∃ mo2,Hid (IS (labN w lab (j+2)) base A j w w2 names (.slice none 0 0) (.slice ao2 N c2) mo2 names (.slice aoA (N+m) cA) (flat++dec)))
   case first=>
    cases b
    ·go_wp2_with fail
     go_meet
     case rel=>exact ⟨mo,HI⟩
    ·have hmo:=HBN.out rfl
     subst hmo
     have hmm:(Instr.makeMap 188 none).run Tryz.prog wc=.ok (.map (some wc.heap.size)) (wc.alloc (.map #[] 0)):=rfl
     have hAl:=HI.out.c.lt
     have hI2:=HI.out.mkmap
     rw [World.setCell_alloc_past _ _ _ _ hAl] at hI2
     have HI2:=Hq hI2
     clear hI2
     have fz3:(wc.alloc (.map #[] 0)).frozen? ⟨A,3 * j+2,none⟩=false:=(World.frozen?_of_block (w:=wc) (a:=⟨A,3 * j+2,none⟩) ((World.grownBy_alloc wc (.map #[] 0) none).block A hAl (by simp))).trans (HI.out.c.facts.2.2.2 _)
     have ce3:(wc.alloc (.map #[] 0)).cell? ⟨A,3 * j+2,none⟩=some (.map none):=(World.cell?_of_block (w:=wc) (a:=⟨A,3 * j+2,none⟩) ((World.grownBy_alloc wc (.map #[] 0) none).block A hAl (by simp))).trans l3
     go_upto_region 7 with (fail)
     go_cut [] from 58 to 62 (fun w2=>∃ M,Hid (IS (labN w lab (j+2)) base A j w w2 names (.slice none 0 0) (.slice ao2 N c2) (some M) [] (.slice aoA (N+m) cA) (flat++dec)))
     case first=>as_aux_lemma=>
      go_wp2_with fail
      go_meet
      case rel=>exact ⟨_,HI2⟩
     case rest=>
      obtain ⟨M,HI3⟩:=hcut
      obtain ⟨m1,m2,m3,_⟩:=HI3.out.c.facts
      clear hmm ce3 fz3 HI2 l1 l2 l3 hsf
      go_wp2_with fail
      go_loopg [8,67] 0 (fun gk v8 v67 wr=>∃ i a:Nat,v67=.int .i64 i∧v8=.int .u64 a∧i≤0∧Hid (a=(names.take i).flatten.length)∧Hid (IS (labN w lab (j+2)) base A j w wr names (.slice none 0 0) (.slice ao2 N c2) (some M) (names.take i) (.slice aoA (N+m) cA) (flat++dec))∧Hid (gk=0-i))
      case atStart=>exact ⟨0,0,rfl,rfl,Nat.zero_le _,Hq (by simp),HI3,Hq rfl⟩
      case round=>
       clear m1 m2 m3 HI3
       obtain ⟨i,a,rfl,rfl,hi',HAA,HIr,HGk⟩:=hrel
       obtain ⟨m1,m2,m3,_⟩:=HIr.out.c.facts
       have x0:(0:Int)≤(i:Int):=Int.natCast_nonneg _
       have t1:decide ((i:Int)<0)=false:=by simp
       have hin:¬ i<0:=by omega
       have Z:=Hq (show IS (labN w lab (j+2)) base A j w wr names (.slice none 0 0) (.slice ao2 N c2) (some M) names (.slice aoA (N+m) cA) (flat++dec) by
        have h:=HIr.out
        rwa [List.take_of_length_le (by rw [HE.out.1]; omega)] at h)
       go_wp2_with fail
       go_meet
       case rel=>exact ⟨some M,Z⟩
   case rest=>
    obtain ⟨mo2,HI5⟩:=hcut
    clear l1 l2 l3 hsf HI HBN
    obtain ⟨l1,l2,l3,_⟩:=HI5.out.c.facts
    have hcu:∀ k,(convert 47 9 u).run Tryz.prog (wc.drewN k)=.ok (.string (strOfNums dec)) (wc.drewN k):=by
     rw [HU.out]
     exact HI5.out.conv HE.out.2.2.1 HE.out.2.2.2
    go_upto_if 91 with (fail)
    go_cut [12,14,15,16] from 92 to 132 (fun v12 v14 v15 v16 w3=>∃ mo3,Hid (IS (labN w lab (j+2)) base A j w w3 names (.slice none 0 0) (.slice ao2 N c2) mo3 (names++[dec]) (.slice aoA (N+m) cA) (flat++dec))∧Hid (¬ dec∈names))
    case first=>as_aux_lemma=>
     cases mo2 with
     |none=>
      simp only [Option.isNone_none] at *
      go_wp2_with fail
      go_loopg [12,97] 0 (fun gk v12 v97 wr=>∃ i a nd:Nat,v97=.int .i64 i∧v12=.int .u64 a∧i≤0∧Hid (a=(names.take i).flatten.length)∧Hid (∀ x∈names.take i,x≠dec)∧Hid (gk=0-i)∧wr=wc.drewN nd)
      case atStart=>exact ⟨0,0,0,rfl,rfl,Nat.zero_le _,Hq (by simp),Hq (by simp),Hq rfl,rfl⟩
      case round=>
       obtain ⟨i,a,nd,rfl,rfl,hi',HAA,HNO,HGk,rfl⟩:=hrel
       have x0:(0:Int)≤(i:Int):=Int.natCast_nonneg _
       have t1:decide ((i:Int)<0)=false:=by simp
       have hin:¬ i<0:=by omega
       have NO2:=Hq (show ¬ dec∈names from fun h=>by
        have h2:=HNO.out
        rw [List.take_of_length_le (by rw [HE.out.1]; omega)] at h2
        exact h2 dec h rfl)
       have Z:=Hq ((HI5.out.of_gb (gb_drewN (World.grownBy.refl wc none) nd)).nomap (mn':=names++[dec]))
       go_wp2_with fail
       go_meet
       case rel=>exact ⟨none,Z,NO2⟩
     |some M=>
      simp only [Option.isNone_some] at *
      have hdl:dec.length≤4294967296:=by rw [HE.out.2.2.2]; omega
      have hhas:Maps.has (Maps.setOf (DataW.agg (H:=Unit) []) (names.map keyL)) (keyL dec)=decide (dec∈names):=has_names HA.out.by8 HB.out.2
      have look:∀ W,MapHas Tryz.prog W M names→(Instr.lookup 188 (.map (some M)) (.string (strOfNums dec)) true).run Tryz.prog W=.ok (.tuple #[.agg #[],.bool (decide (dec∈names))]) W:=fun W hm=>by
       obtain ⟨cnt,hcnt,hown⟩:=hm
       obtain ⟨vv,ps,hlk,hvv⟩:=World.ownsMap.look_ok (w:=W) hown lawK Tryz.underlying188 (zero180 _) (unitElem_mk (H:=Unit)) (keyL_key hdl)
       obtain ⟨rfl,_⟩:=unitElem_inv hvv
       rw [hhas] at hlk
       exact hlk
      have hIA:=HI5.out.of_gb (World.grownBy_alloc wc (.cells #[] 180) none)
      have hlk0:=look wc.drew (HI5.out.mp M rfl).2
      have hlk1:=look (wc.alloc (.cells #[] 180)).drew (hIA.mp M rfl).2
      have hcu0:(convert 47 9 u).run Tryz.prog wc.drew=.ok (.string (strOfNums dec)) wc.drew:=hcu 1
      have hcu1:(convert 47 9 u).run Tryz.prog (wc.alloc (.cells #[] 180)).drew=.ok (.string (strOfNums dec)) (wc.alloc (.cells #[] 180)).drew:=by rw [HU.out]; exact hIA.conv HE.out.2.2.1 HE.out.2.2.2 1
      have HIA:=Hq hIA
      have HM:=Hq hdl
      have lA1:(wc.alloc (.cells #[] 180)).cell? ⟨A,3 * j+2,none⟩=some (.map (some M)):=hIA.c.facts.2.2.1
      clear hhas look hIA hdl
      go_upto_region 25 with (fail)
      go_cut [15,16] from 114 to 124 (fun v15 v16 w3=>v16=.bool (decide (dec∈names))∧Hid (IS (labN w lab (j+2)) base A j w w3 names (.slice none 0 0) (.slice ao2 N c2) (some M) names (.slice aoA (N+m) cA) (flat++dec))∧Hid (∀ k,(convert 47 9 u).run Tryz.prog (w3.drewN k)=.ok (.string (strOfNums dec)) (w3.drewN k)))
      case first=>as_aux_lemma=>
       obtain ⟨y,hy⟩:∃ y,y=strOfNums dec:=⟨_,rfl⟩
       obtain ⟨bb,hbb⟩:∃ bb,bb=decide (dec∈names):=⟨_,rfl⟩
       rw [← hy] at hcu0 hcu1 hlk0 hlk1
       rw [← hbb] at hlk0 hlk1
       have HBB:=Hq hbb
       clear hy hbb hcu
       go_region
       all_goals go_wp2_with fail
       all_goals go_meet
       all_goals exact ⟨by rw [HBB.out],Hq (HIA.out.of_gb (gb_drewN (World.grownBy.refl _ none) 1)),Hq fun k=>by rw [HU.out]; exact (HIA.out.of_gb (gb_drewN (World.grownBy.refl _ none) 1)).conv HE.out.2.2.1 HE.out.2.2.2 k⟩
      case rest=>
       obtain ⟨rfl,HI6,HCV⟩:=hcut
       clear hlk0 hlk1 hcu0 hcu1 lA1 HIA l1 l2 l3 HI5 hcu
       obtain ⟨l1,l2,l3,_⟩:=HI6.out.c.facts
       by_cases hd:dec∈names
       ·have tt:decide (dec∈names)=true:=by simpa using hd
        have HD:=Hq hd
        rw [tt]
        clear hd tt
        go_wp2_with fail
        go_ret
        exact HI6.out.no HD.out
       ·have tt:decide (dec∈names)=false:=by simpa using hd
        have HD:=Hq hd
        rw [tt]
        clear hd tt
        obtain ⟨hlM,cnt,hcnt,hown⟩:=HI6.out.mp M rfl
        have hcl:cnt<maxLen:=by
         have:=HE.out.1
         unfold maxLen
         omega
        obtain ⟨w4,hup,hown3,hturn3⟩:=World.ownsMap.store (w:=wc.drew) hown lawK Tryz.underlying188 hcl (keyL_key HM.out) (unitElem_mk (H:=Unit))
        have ht1:wc.drew.mapTurned w4 M:=hturn3
        have HI7:=Hq ((HI6.out.of_gb (gb_drewN (World.grownBy.refl wc none) 1)).turned ht1 hcnt hown3)
        have hcv0:(convert 47 9 u).run Tryz.prog wc.drew=.ok (.string (strOfNums dec)) wc.drew:=HCV.out 1
        have hcv1:=HCV.out
        generalize strOfNums dec=y at hcv1 hcv0 hup
        clear hlM hcnt hcl hown hown3 hturn3 ht1
        go_wp2_with fail
        go_region
        all_goals go_wp2_with fail
        all_goals go_meet
        all_goals exact ⟨some M,HI7,HD⟩
    case rest=>
     obtain ⟨mo3,HI8,HND⟩:=hcut
     clear l1 l2 l3 hcu HI5
     obtain ⟨l1,l2,l3,lf⟩:=HI8.out.c.facts
     obtain ⟨i1,hi1,hz10,hz11,hz12⟩:=info_parts info111
     have own1:(wc.setCell ⟨A,3 * j+1,none⟩ (.slice aoA (N+m) cA)).ownsRow base 111 1 (.slice none 0 0) 0 ((ends 0 names).map (Value.int .u64)):=HI8.out.row1 HE.out.1
     have hbw:base≤wc.heap.size:=Nat.le_trans HB.out.1 HI8.out.fz.size
     go_upto_region 30 with (fail)
     have hw64:IntKind.u64.wrap ((N:Int)+(m:Int))=(N:Int)+(m:Int):=by rw [IntKind.wrap_u64]; omega
     have hbl:((wc.setCell ⟨A,3 * j+1,none⟩ (.slice aoA (N+m) cA)).alloc (.cells #[.int .u64 ((N:Int)+(m:Int))] 111)).drew.heap[wc.heap.size]? = some (.cells #[.int .u64 ((N:Int)+(m:Int))] 111):=by
      have e:=heap_alloc_new (wc.setCell ⟨A,3 * j+1,none⟩ (.slice aoA (N+m) cA)) (.cells #[.int .u64 ((N:Int)+(m:Int))] 111)
      rw [show (wc.setCell ⟨A,3 * j+1,none⟩ (.slice aoA (N+m) cA)).heap.size=wc.heap.size by simp [World.setCell]] at e
      exact e
     have srcN:Src Tryz.prog 1 187 (.slice (some ⟨wc.heap.size,0,none⟩) 1 1) 1 [.int .u64 ((N:Int)+(m:Int))] ((wc.setCell ⟨A,3 * j+1,none⟩ (.slice aoA (N+m) cA)).alloc (.cells #[.int .u64 ((N:Int)+(m:Int))] 111)).drew:=
      Src.ofSlice _ Tryz.underlying187 _ _ _ _ rfl (World.news_of_block hbl) (by simp [Value.oneCell'])
     have hlA:=HI8.out.c.lt
     have cAl:C3 ((wc.setCell ⟨A,3 * j+1,none⟩ (.slice aoA (N+m) cA)).alloc (.cells #[.int .u64 ((N:Int)+(m:Int))] 111)).drew A j (.slice none 0 0) (.slice aoA (N+m) cA) (.map mo3):=
      (HI8.out.c.set1 (.slice aoA (N+m) cA)).block ((World.grownBy_alloc _ _ none).block A (by simpa [World.setCell] using hlA) (by simp))
     have far:∀ w',((wc.setCell ⟨A,3 * j+1,none⟩ (.slice aoA (N+m) cA)).alloc (.cells #[.int .u64 ((N:Int)+(m:Int))] 111)).drew.grownBy w' (Value.slice none 0 0).ownBlock→w'.cell? ⟨A,3 * j,none⟩=some (.slice none 0 0)∧w'.frozen? ⟨A,3 * j,none⟩=false:=fun w' hg=>by
      have c:=(cAl.block (hg.block A cAl.lt (by simp [Value.ownBlock]))).facts
      exact ⟨c.1,c.2.2.2 _⟩
     go_region_law
      ((refine step_appS _ (by rfl) (.tmp 140) (.tmp 147) 187 187 (by rfl) base 111 i1 _ 8 Tryz.underlying187 hi1 hz10 hz11 hz12 rfl (.slice none 0 0) 0 ((ends 0 names).map (Value.int .u64)) (by rfl) ((own1.alloc _).drew) (.slice (some ⟨wc.heap.size,0,none⟩) 1 1) 1 [.int .u64 ((N:Int)+(m:Int))] (by rfl) srcN (by simp only [maxLen]; omega) (by omega) (by simp; omega) ?_
        intro aoB cB w5 hown5 hgrow5 hrel5 hold5
        have q1:=(far w5 hgrow5).1
        have q2:=(far w5 hgrow5).2))
     all_goals go_wp2_with fail
     all_goals go_ret
     all_goals exact HI8.out.yesN HE.out.1 HE.out.2.1 HE.out.2.2.1 HE.out.2.2.2 HND.out HA.out.by8 HB.out.2 (gb_drewN (World.grownBy_alloc _ _ none) 1) hgrow5 hown5 hold5 hrel5
theorem ins134(lab:Nat→Nat)(base A j N m c2:Nat)(ao2:Option Addr)(w:World)(names:List (List Int))(flat:List Int)(v1 nv:Value)(mo:Option Nat)(dec:List Int)(quoted:Bool)(hfl:names.flatten=flat)(hNN:flat.length=N)(hm:dec.length=m)
  (hA:Act Tryz.prog w lab base A j names v1 (.slice ao2 N c2) mo) (hb:base≤w.heap.size)
  (hdb:∀ c∈dec,0≤c∧c≤255) (hNm:N+m≤4294967296) (hn4:names.length≤4294967296) (hS:NameSrc w base (.slice ao2 N c2) nv N m flat dec quoted):
  Calls Tryz.prog 134 #[.pointer (some ⟨A,3 * j,none⟩),nv,.bool quoted] w (InsP lab base A j names dec w):=by
 rcases hA.r1.2 with ⟨rfl,hx⟩|⟨g,cap,_,rfl,_⟩
 ·refine ins_nil lab base A j N m c2 ao2 w names flat nv mo dec quoted hx hfl hNN hm hA hb hdb hNm hS
 ·exact ins_core lab base A j g cap names.length N m c2 ao2 w names flat nv mo dec quoted rfl hfl hNN hm hA hb hdb hNm hn4 hS
end Go.Proofs.YtknaalohaagcdaaGreatDoor.Own
namespace Go.Proofs.YtknaalohaagcdaaGreatDoor.Own
open Go.RowKit
theorem InsP.ret{lab:Nat→Nat}{base A j:Nat}{names:List (List Int)}{dec:List Int}{w w':World}{e:Ending}(h:InsP lab base A j names dec w e w'):∃ b,e=.returned (.bool b):=by
 obtain ⟨_,_,_,_,⟨_,h⟩|⟨_,h,_⟩⟩:=h
 ·exact ⟨_,h⟩
 ·exact ⟨_,h⟩
theorem quoted76(lab:Nat→Nat)(base A j B q L cap:Nat)(names:List (List Int))(dec:List Int)(w:World)(hI:Calls Tryz.prog 134 #[.pointer (some ⟨A,3 * j,none⟩),.slice (some ⟨B,q,none⟩) L cap,.bool true] w (InsP lab base A j names dec w)):
  Calls Tryz.prog 76 #[.pointer (some ⟨A,3 * j,none⟩),.slice (some ⟨B,q,none⟩) L cap,.bool false] w (InsP lab base A j names dec w):=by
 have HI:=Hq hI
 clear hI
 go_enter Tryz.func76,Tryz.ntmps76
 go_wp2_with fail
 refine HI.out.mono ?_
 intro e w' h
 obtain ⟨b,rfl⟩:=h.ret
 have H:=Hq h
 clear h
 go_wp2_with fail
 go_ret
 exact H.out
theorem verbatim76(lab:Nat→Nat)(base A j B q L cap:Nat)(names:List (List Int))(dec:List Int)(w:World)(hL:2≤L)(hL4:L≤4294967296)(hcap:L≤cap)(hI:Calls Tryz.prog 134 #[.pointer (some ⟨A,3 * j,none⟩),.slice (some ⟨B,q+1,none⟩) (L-2) (cap-1),.bool false] w (InsP lab base A j names dec w)):
  Calls Tryz.prog 76 #[.pointer (some ⟨A,3 * j,none⟩),.slice (some ⟨B,q,none⟩) L cap,.bool true] w (InsP lab base A j names dec w):=by
 have HI:=Hq hI
 clear hI
 obtain ⟨m,rfl⟩:∃ m,L=m+2:=⟨L-2,by omega⟩
 rw [Nat.add_sub_cancel] at HI
 have c1:¬ cap=1:=by omega
 have c2:m+1≤cap:=by omega
 have hw:IntKind.i64.wrap ((m:Int)+1)=(m:Int)+1:=by rw [IntKind.wrap_i64]; omega
 go_enter Tryz.func76,Tryz.ntmps76
 go_wp2_with fail
 refine HI.out.mono ?_
 intro e w' h
 obtain ⟨b,rfl⟩:=h.ret
 have H:=Hq h
 clear h
 go_wp2_with fail
 go_ret
 exact H.out
end Go.Proofs.YtknaalohaagcdaaGreatDoor.Own
namespace Go.Proofs.YtknaalohaagcdaaGreatDoor.Own
open Go.RowKit JG
def DF(d F:Nat):Nat→Prop:=fun b=>b=d∨b=F
def normK(c:Int):Int:=if c=110∨c=102∨c=116∨c=34∨c=123∨c=125∨c=91∨c=93 then c else if c=45∨(48≤c∧c≤57) then 48 else 0
structure G2(A:List Addr)(w:World):Prop where
 nk:∀ c:Nat,c<256→w.cell? ⟨4,c,none⟩=some (.int .u8 (normK c))
 tab:Lib.TabIs Tryz.prog w "internal/strconv.uint64pow10" .u64 Lib.pow10Tab
 snt:∀ g∈[0,2,3,5,6,7,8],∃ a∈A,w.cell? ⟨g,0,none⟩=some (.iface 260 (.pointer (some a)))
theorem tab_block{w w':World}(h:Lib.TabIs Tryz.prog w "internal/strconv.uint64pow10" .u64 Lib.pow10Tab)(e:w'.heap[15]? = w.heap[15]?):Lib.TabIs Tryz.prog w' "internal/strconv.uint64pow10" .u64 Lib.pow10Tab:=by
 have hg:Tryz.prog.globalNamed "internal/strconv.uint64pow10" = some 15:=by kernel_rfl
 unfold Lib.TabIs World.var? at h ⊢
 rw [hg] at h ⊢
 simp only [Option.bind_some] at h ⊢
 rw [e]
 exact h
theorem G2.kept{A:List Addr}{w w':World}(h:G2 A w)(hb:∀ i,i<18→w'.heap[i]? = w.heap[i]?):G2 A w':=
 ⟨fun c hc=>(World.cell?_of_block (w:=w) (a:=⟨4,c,none⟩) (hb 4 (by omega))).trans (h.nk c hc),tab_block h.tab (hb 15 (by omega)),fun g hg=>by
  obtain ⟨a,ha,e⟩:=h.snt g hg
  exact ⟨a,ha,(World.cell?_of_block (w:=w) (a:=⟨g,0,none⟩) (hb g (by simp at hg; omega))).trans e⟩⟩
def EB(A:List Addr)(w:World):Prop:=∀ a∈A,∃ c t,w.heap[a.block]? = some (.cells c t (0,0))
structure DS(A:List Addr)(w:World)(lab:Nat→Nat)(base d F B cap k:Nat)(s:ByteArray)(vals last:Int)(eU eI:Value)(ds:Array Value)(nsv:Value):Prop where
 db:DB w d ds B cap s vals last
 c4:ds[4]? = some nsv
 ns:NS w lab base k nsv
 fl:∃ fl,Fl w F fl
 buf:Bf w B s
 gl:Gl eU eI w
 g2:G2 A w
 eb:EB A w
 l0:∀ b,b<base→lab b=0
 hb:base≤w.heap.size
 bd:d<base
 bF:F<base
 bB:B<base
 b18:18≤base
 bA:∀ a∈A,a.block<base
 dF:d≠F
 Bd:B≠d
 BF:B≠F
 d18:18≤d
 f18:18≤F
 Ad:∀ a∈A,a.block≠d∧a.block≠F
section
variable {A:List Addr} {w w':World} {lab lab':Nat→Nat} {base d F B cap k:Nat} {s:ByteArray} {vals last:Int} {eU eI:Value} {ds:Array Value} {nsv:Value}
theorem DS.labz(h:DS A w lab base d F B cap k s vals last eU eI ds nsv):∀ b,b<w.heap.size→DF d F b→lab b=0:=fun b _ hs=>by
 rcases hs with rfl|rfl
 ·exact h.l0 _ h.bd
 ·exact h.l0 _ h.bF
theorem DS.bl(h:DS A w lab base d F B cap k s vals last eU eI ds nsv):B<w.heap.size:=Nat.lt_of_lt_of_le h.bB h.hb
theorem DS.sw(h:DS A w lab base d F B cap k s vals last eU eI ds nsv):SW B s eU eI F w:=⟨h.buf,h.gl,h.bl,h.BF,h.f18⟩
theorem EB.kept(h:EB A w)(hk:∀ a∈A,w'.heap[a.block]? = w.heap[a.block]?):EB A w':=fun a ha=>by
 obtain ⟨c,t,e⟩:=h a ha
 exact ⟨c,t,(hk a ha).trans e⟩
theorem DS.kept{ds':Array Value}{k':Nat}{nsv':Value}(h:DS A w lab base d F B cap k s vals last eU eI ds nsv)(hsz:w.heap.size≤w'.heap.size)(hk:∀ b,b<base→b≠d→b≠F→w'.heap[b]? = w.heap[b]?)(hdb:DB w' d ds' B cap s vals last)(hc4:ds'[4]? = some nsv')(hf:∃ fl,Fl w' F fl)
  (hn:NS w' lab' base k' nsv') (hl:LabEq w lab lab'):DS A w' lab' base d F B cap k' s vals last eU eI ds' nsv':=by
 have hb:=h.hb
 have b18:=h.b18
 have d18:=h.d18
 have f18:=h.f18
 exact ⟨hdb,hc4,hn,hf,h.buf.kept (hk B h.bB h.Bd h.BF),h.gl.kept hsz (fun i hi=>hk i (by omega) (by omega) (by omega)),h.g2.kept (fun i hi=>hk i (by omega) (by omega) (by omega)),h.eb.kept (fun a ha=>hk _ (h.bA a ha) (h.Ad a ha).1 (h.Ad a ha).2),
  fun b hb'=>(hl b (by omega)).trans (h.l0 b hb'),Nat.le_trans hb hsz,h.bd,h.bF,h.bB,h.b18,h.bA,h.dF,h.Bd,h.BF,h.d18,h.f18,h.Ad⟩
theorem DS.gb{r:Option Nat}(h:DS A w lab base d F B cap k s vals last eU eI ds nsv)(hg:w.grownBy w' r)(hr:∀ b,r=some b→b<w.heap.size→lab b=0∧base≤b):DS A w' lab base d F B cap k s vals last eU eI ds nsv:=by
 obtain ⟨fl,hfl⟩:=h.fl
 have hb:=h.hb
 have keep:∀ b,b<base→w'.heap[b]? = w.heap[b]? := fun b hlt=>hg.block b (by omega) (fun e=>by have:=(hr b e.symm (by omega)).2; omega)
 exact h.kept hg.size (fun b hlt _ _=>keep b hlt) (h.db.block (keep d h.bd)) h.c4 ⟨fl,hfl.block (keep F h.bF)⟩ (h.ns.of_gb hg (fun b e hb=>(hr b e hb).1) (LabEq.refl _ _)) (LabEq.refl _ _)
theorem DS.gb0(h:DS A w lab base d F B cap k s vals last eU eI ds nsv)(hg:w.grownBy w' none):DS A w' lab base d F B cap k s vals last eU eI ds nsv:=
 h.gb hg (fun b e=>by cases e)
theorem DS.gbF{fl:Int}(h:DS A w lab base d F B cap k s vals last eU eI ds nsv)(hg:w.grownBy w' (some F))(hf:Fl w' F fl):DS A w' lab base d F B cap k s vals last eU eI ds nsv:=by
 have hb:=h.hb
 have keep:∀ b,b<base→b≠F→w'.heap[b]? = w.heap[b]? := fun b hlt hne=>hg.block b (by omega) (fun e=>hne (Option.some.inj e))
 exact h.kept hg.size (fun b hlt _ hne=>keep b hlt hne) (h.db.block (keep d h.bd h.dF)) h.c4 ⟨fl,hf⟩ (h.ns.of_gb hg (fun b e _=>by rw [← Option.some.inj e]; exact h.l0 _ h.bF) (LabEq.refl _ _)) (LabEq.refl _ _)
theorem DS.relab(h:DS A w lab base d F B cap k s vals last eU eI ds nsv)(hl:LabEq w lab lab'):DS A w lab' base d F B cap k s vals last eU eI ds nsv:=
 h.kept (Nat.le_refl _) (fun _ _ _ _=>rfl) h.db h.c4 h.fl (h.ns.relab hl) hl
theorem DS.fz{j:Nat}(h:DS A w lab base d F B cap k s vals last eU eI ds nsv)(hf:Fz lab j (fun _=>False) w w')(hl:LabEq w lab lab')(hn:NS w' lab' base k nsv):DS A w' lab' base d F B cap k s vals last eU eI ds nsv:=by
 obtain ⟨fl,hfl⟩:=h.fl
 have hb:=h.hb
 have keep:∀ b,b<base→w'.heap[b]? = w.heap[b]? := fun b hlt=>hf.keep b (by omega) (fun e=>e) (.inl (h.l0 b hlt))
 exact h.kept hf.size (fun b hlt _ _=>keep b hlt) (h.db.block (keep d h.bd)) h.c4 ⟨fl,hfl.block (keep F h.bF)⟩ hn hl
def But4(ds ds':Array Value):Prop:=∀ i,i≠4→ds'[i]? = ds[i]?
theorem But4.refl(ds:Array Value):But4 ds ds:=fun _ _=>rfl
theorem But4.trans{a b c:Array Value}(h:But4 a b)(h2:But4 b c):But4 a c:=fun i hi=>(h2 i hi).trans (h i hi)
theorem But4.set(ds:Array Value)(v:Value):But4 ds (ds.setIfInBounds 4 v):=fun i hi=>Array.getElem?_setIfInBounds_ne (by omega)
theorem set4_get{u v:Value}(h:ds[4]? = some u):(ds.setIfInBounds 4 v)[4]? = some v:=by
 have:=getE_lt h
 simp [this]
theorem DS.push{nsv':Value}(h:DS A w lab base d F B cap k s vals last eU eI ds nsv)
  (hd:w'.heap[d]? = some (.cells (ds.setIfInBounds 4 nsv') 109 (0,0))) (hn:NS w' lab' base (k+1) nsv') (hf:Fz lab k (fun b=>b=d) w w') (hl:LabEq w lab lab'):DS A w' lab' base d F B cap (k+1) s vals last eU eI (ds.setIfInBounds 4 nsv') nsv':=by
 obtain ⟨fl,hfl⟩:=h.fl
 have hb:=h.hb
 have keep:∀ b,b<base→b≠d→w'.heap[b]? = w.heap[b]? := fun b hlt hne=>hf.keep b (by omega) hne (.inl (h.l0 b hlt))
 exact h.kept hf.size (fun b hlt hne _=>keep b hlt hne) ⟨hd,h.db.dc.set4 _⟩ (set4_get h.c4) ⟨fl,hfl.block (keep F h.bF (fun e=>h.dF e.symm))⟩ hn hl
theorem gb_setD{i:Nat}{v:Value}:w.grownBy (w.setCell ⟨d,i,none⟩ v) (some d):=⟨rfl,rfl,rfl,by rw [set_size]; exact Nat.le_refl _,fun b _ hb=>heap_set_other (fun e=>hb (by rw [e]))⟩
theorem DS.pop{A' c n:Nat}(h:DS A w lab base d F B cap (k+1) s vals last eU eI ds (.slice (some ⟨A',0,none⟩) (k+1) c)):
  DS A ((w.drewN n).setCell ⟨d,4,none⟩ (.slice (some ⟨A',0,none⟩) k c)) lab base d F B cap k s vals last eU eI (ds.setIfInBounds 4 (.slice (some ⟨A',0,none⟩) k c)) (.slice (some ⟨A',0,none⟩) k c):=by
 have g1:w.grownBy (w.drewN n) none:=gb_drewN (World.grownBy.refl _ _) n
 have h1:=h.gb0 g1
 have g2:(w.drewN n).grownBy ((w.drewN n).setCell ⟨d,4,none⟩ (.slice (some ⟨A',0,none⟩) k c)) (some d):=gb_setD
 obtain ⟨fl,hfl⟩:=h1.fl
 have hb:=h1.hb
 have keep:∀ b,b<base→b≠d→((w.drewN n).setCell ⟨d,4,none⟩ (.slice (some ⟨A',0,none⟩) k c)).heap[b]? = (w.drewN n).heap[b]? := fun b hlt hne=>g2.block b (by omega) (fun e=>hne (Option.some.inj e))
 exact h1.kept g2.size (fun b hlt hne _=>keep b hlt hne) ⟨heap_set_cells h1.db.blk,h1.db.dc.set4 _⟩ (set4_get h1.c4) ⟨fl,hfl.block (keep F h1.bF (fun e=>h1.dF e.symm))⟩ ((NS.pop h1.ns).of_gb g2 (fun b e _=>by rw [← Option.some.inj e]; exact h1.l0 _ h1.bd) (LabEq.refl _ _)) (LabEq.refl _ _)
end
structure Fm(lab lab':Nat→Nat)(k d F:Nat)(w w':World):Prop where
 fz:Fz lab k (DF d F) w w'
 le:LabEq w lab lab'
theorem Fm.refl(lab:Nat→Nat)(k d F:Nat)(w:World):Fm lab lab k d F w w:=⟨Fz.refl _ _ _ _,LabEq.refl _ _⟩
theorem Fm.trans{l1 l2 l3:Nat→Nat}{k d F:Nat}{a b c:World}(h:Fm l1 l2 k d F a b)(h2:Fm l2 l3 k d F b c):Fm l1 l3 k d F a c:=⟨h.fz.trans h.le h2.fz,h.le.trans h2.le h.fz.size⟩
theorem Fm.down{l1 l2:Nat→Nat}{k d F:Nat}{a b:World}(h:Fm l1 l2 (k+1) d F a b):Fm l1 l2 k d F a b:=⟨h.fz.down,h.le⟩
theorem Fm.gb0{lab:Nat→Nat}{k d F:Nat}{w w':World}(hg:w.grownBy w' none):Fm lab lab k d F w w':=⟨Fz.of_gb hg (fun b e=>by cases e),LabEq.refl _ _⟩
theorem Fm.gbF{lab:Nat→Nat}{k d F:Nat}{w w':World}(hg:w.grownBy w' (some F)):Fm lab lab k d F w w':=⟨Fz.of_gb hg (fun _ e _=>.inr (Option.some.inj e).symm),LabEq.refl _ _⟩
theorem Fm.gbd{lab:Nat→Nat}{k d F:Nat}{w w':World}(hg:w.grownBy w' (some d)):Fm lab lab k d F w w':=⟨Fz.of_gb hg (fun _ e _=>.inl (Option.some.inj e).symm),LabEq.refl _ _⟩
theorem Fz.new{lab:Nat→Nat}{k:Nat}{S:Nat→Prop}{w w1 w2:World}{r:Option Nat}(h:Fz lab k S w w1)(hg:w1.grownBy w2 r)(hr:∀ b,r=some b→w.heap.size≤b):Fz lab k S w w2:=by
 have hb:∀ b,b<w.heap.size→w2.heap[b]? = w1.heap[b]? := fun b hb=>hg.block b (Nat.lt_of_lt_of_le hb h.size) (fun e=>by have:=hr b e.symm; omega)
 refine ⟨hg.os.trans h.os,hg.tape.trans h.tape,hg.output.trans h.output,Nat.le_trans h.size hg.size,fun b hlt hs hl=>(hb b hlt).trans (h.keep b hlt hs hl),fun b hlt hs hl cs t hc => ?_,fun b hlt hs hl cs t hc => ?_⟩
 ·obtain ⟨cs',h1,h2⟩:=h.arr b hlt hs hl cs t hc
  exact ⟨cs',(hb b hlt).trans h1,h2⟩
 ·obtain ⟨cs',h1,h2⟩:=h.row b hlt hs hl cs t hc
  exact ⟨cs',(hb b hlt).trans h1,h2⟩
theorem Fm.new{l1 l2:Nat→Nat}{k d F:Nat}{w w1 w2:World}{r:Option Nat}(h:Fm l1 l2 k d F w w1)(hg:w1.grownBy w2 r)(hr:∀ b,r=some b→w.heap.size≤b):Fm l1 l2 k d F w w2:=⟨h.fz.new hg hr,h.le⟩
theorem Fm.relab{l1 l2 l3:Nat→Nat}{k d F:Nat}{w w1:World}(h:Fm l1 l2 k d F w w1)(hl:LabEq w1 l2 l3):Fm l1 l3 k d F w w1:=⟨h.fz,h.le.trans hl h.fz.size⟩
theorem Fm.of_fz{lab lab':Nat→Nat}{k d F:Nat}{S:Nat→Prop}{w w':World}(hf:Fz lab k S w w')(hS:∀ b,b<w.heap.size→S b→DF d F b)(hl:LabEq w lab lab'):Fm lab lab' k d F w w':=⟨hf.wide hS,hl⟩
end Go.Proofs.YtknaalohaagcdaaGreatDoor.Own
namespace Go.Proofs.YtknaalohaagcdaaGreatDoor.Own
open Go.RowKit JG
variable {A:List Addr}
def Bare(A:List Addr)(v:Value):Prop:=(∃ a∈A,v=.iface 260 (.pointer (some a)))∨∃ b,v=.iface 175 (.pointer (some ⟨b,0,none⟩))
structure Er(lo:Nat)(lab:Nat→Nat)(w w':World):Prop where
 os:w'.os=w.os
 tape:w'.tape=w.tape
 output:w'.output=w.output
 size:w.heap.size≤w'.heap.size
 block:∀ b,b<w.heap.size→b<lo∨lab b≠0→w'.heap[b]? = w.heap[b]?
theorem Er.gb{lo:Nat}{lab:Nat→Nat}{w w':World}{r:Option Nat}(h:w.grownBy w' r)(hr:∀ b,r=some b→lo≤b∧lab b=0):Er lo lab w w':=
 ⟨h.os,h.tape,h.output,h.size,fun b hb hx=>h.block b hb (fun e=>by have:=hr b e.symm; omega)⟩
theorem Er.refl(lo:Nat)(lab:Nat→Nat)(w:World):Er lo lab w w:=Er.gb (World.grownBy.refl w none) (fun b e=>by cases e)
theorem Er.trans{lo:Nat}{lab:Nat→Nat}{a b c:World}(h:Er lo lab a b)(h2:Er lo lab b c):Er lo lab a c:=
 ⟨h2.os.trans h.os,h2.tape.trans h.tape,h2.output.trans h.output,Nat.le_trans h.size h2.size,fun i hi hx=>(h2.block i (Nat.lt_of_lt_of_le hi h.size) hx).trans (h.block i hi hx)⟩
theorem Er.labN{lo:Nat}{lab:Nat→Nat}{w w':World}(h:Er lo (labN w lab 0) w w'):Er lo lab w w':=
 ⟨h.os,h.tape,h.output,h.size,fun b hb hx=>h.block b hb (by rw [labN_old hb]; exact hx)⟩
theorem NS.er{lo:Nat}{w w':World}{lab lab':Nat→Nat}{base k:Nat}{nsv:Value}(h:NS w lab base k nsv)(he:Er lo lab w w')(hl:LabEq w lab lab'):NS w' lab' base k nsv:=
 h.shp (fun b hb hx=>he.block b hb (.inr (by omega))) (fun b hb hx cs t hc=>⟨cs,(he.block b hb (.inr (by omega))).trans hc,rfl⟩) hl
theorem DS.er{lo:Nat}{w w':World}{lab lab':Nat→Nat}{base d F B cap k:Nat}{s:ByteArray}{vals last:Int}{eU eI:Value}{ds:Array Value}{nsv:Value}(h:DS A w lab base d F B cap k s vals last eU eI ds nsv)(he:Er lo lab w w')(hl:LabEq w lab lab')(hlo:base≤lo):DS A w' lab' base d F B cap k s vals last eU eI ds nsv:=by
 obtain ⟨fl,hfl⟩:=h.fl
 have hb:=h.hb
 have keep:∀ b,b<base→w'.heap[b]? = w.heap[b]? := fun b hlt=>he.block b (by omega) (.inl (by omega))
 exact h.kept he.size (fun b hlt _ _=>keep b hlt) (h.db.block (keep d h.bd)) h.c4 ⟨fl,hfl.block (keep F h.bF)⟩ (h.ns.er he hl) hl
theorem Fm.er{lo:Nat}{l1 l2 l3:Nat→Nat}{k d F:Nat}{w w1 w2:World}(h:Fm l1 l2 k d F w w1)(he:Er lo l2 w1 w2)(hl:LabEq w1 l2 l3)(hlo:w.heap.size≤lo):Fm l1 l3 k d F w w2:=by
 have hb:∀ b,b<w.heap.size→w2.heap[b]? = w1.heap[b]? := fun b hb=>he.block b (Nat.lt_of_lt_of_le hb h.fz.size) (.inl (by omega))
 refine ⟨⟨he.os.trans h.fz.os,he.tape.trans h.fz.tape,he.output.trans h.fz.output,Nat.le_trans h.fz.size he.size,fun b hlt hs hl=>(hb b hlt).trans (h.fz.keep b hlt hs hl),fun b hlt hs hl cs t hc => ?_,fun b hlt hs hl cs t hc => ?_⟩,h.le.trans hl h.fz.size⟩
 ·obtain ⟨cs',h1,h2⟩:=h.fz.arr b hlt hs hl cs t hc
  exact ⟨cs',(hb b hlt).trans h1,h2⟩
 ·obtain ⟨cs',h1,h2⟩:=h.fz.row b hlt hs hl cs t hc
  exact ⟨cs',(hb b hlt).trans h1,h2⟩
structure PB(A:List Addr)(lo:Nat)(w:World)(lab:Nat→Nat)(pb:Nat)(ev rv:Value)(n:Nat)(ys:List Int):Prop where
 blk:w.heap[pb]? = some (.cells #[ev,rv] 170 (0,0))
 bare:Bare A ev
 hlo:lo≤pb
 hlab:lab pb=0
 row:w.ownsRow lo 5 1 rv n (ys.map (Value.int .u8))
 lrow:∀ g,rv.ownBlock=some g→lab g=0
def PE(A:List Addr)(lo:Nat)(w:World)(lab:Nat→Nat)(m:Nat)(v:Value):Prop:=∃ pb ev rv n t,v=.iface 166 (.pointer (some ⟨pb,0,none⟩))∧PB A lo w lab pb ev rv n (47::t)∧n≤m
def ErrV(A:List Addr)(lo:Nat)(w:World)(lab:Nat→Nat)(m:Nat)(v:Value):Prop:=Bare A v∨PE A lo w lab m v
theorem PB.lt{lo:Nat}{w:World}{lab:Nat→Nat}{pb:Nat}{ev rv:Value}{n:Nat}{ys:List Int}(h:PB A lo w lab pb ev rv n ys):pb<w.heap.size:=(Array.getElem?_eq_some_iff.1 h.blk).1
theorem PB.ne{lo:Nat}{w:World}{lab:Nat→Nat}{pb:Nat}{ev rv:Value}{n:Nat}{ys:List Int}(h:PB A lo w lab pb ev rv n ys):rv.ownBlock≠some pb:=by
 intro e
 rcases h.row.2 with ⟨rfl,_⟩|⟨g,c,cur,rfl,_,hg,_⟩
 ·cases e
 ·have e:g=pb:=Option.some.inj e
  subst e
  have:=h.blk
  rw [hg] at this
  cases this
theorem ownsRow_low{w:World}{b1 b2:Nat}{e:TypeId}{v:Value}{n:Nat}{xs:List Value}(h:w.ownsRow b1 e 1 v n xs)(hb:b2≤b1):w.ownsRow b2 e 1 v n xs:=by
 refine ⟨h.1,?_⟩
 rcases h.2 with hn|⟨g,c,cur,rfl,hg,rest⟩
 ·exact .inl hn
 ·exact .inr ⟨g,c,cur,rfl,Nat.le_trans hb hg,rest⟩
theorem ErrV.low{lo lo2:Nat}{w:World}{lab:Nat→Nat}{m:Nat}{v:Value}(h:ErrV A lo w lab m v)(hl:lo2≤lo):ErrV A lo2 w lab m v:=by
 rcases h with h|⟨pb,ev,rv,n,t,rfl,h,hm⟩
 ·exact .inl h
 ·exact .inr ⟨pb,ev,rv,n,t,rfl,⟨h.blk,h.bare,Nat.le_trans hl h.hlo,h.hlab,ownsRow_low h.row hl,h.lrow⟩,hm⟩
theorem ErrV.more{lo:Nat}{w:World}{lab:Nat→Nat}{m m2:Nat}{v:Value}(h:ErrV A lo w lab m v)(hm:m≤m2):ErrV A lo w lab m2 v:=by
 rcases h with h|⟨pb,ev,rv,n,t,rfl,h,hn⟩
 ·exact .inl h
 ·exact .inr ⟨pb,ev,rv,n,t,rfl,h,Nat.le_trans hn hm⟩
theorem PB.gb{lo:Nat}{w w':World}{lab:Nat→Nat}{pb:Nat}{ev rv:Value}{n:Nat}{ys:List Int}{r:Option Nat}(h:PB A lo w lab pb ev rv n ys)(hg:w.grownBy w' r)(hr:∀ b,r=some b→b<lo):PB A lo w' lab pb ev rv n ys:=by
 have hlo:=h.hlo
 refine ⟨(hg.block pb h.lt (fun e=>by have:=hr pb e.symm; omega)).trans h.blk,h.bare,h.hlo,h.hlab,?_,h.lrow⟩
 exact own_block h.row (fun q hq=>hg.block q (h.row.lt q hq).2 (fun e=>by have:=hr q e.symm; have:=(h.row.lt q hq).1; omega))
theorem ErrV.gb{lo:Nat}{w w':World}{lab:Nat→Nat}{m:Nat}{v:Value}{r:Option Nat}(h:ErrV A lo w lab m v)(hg:w.grownBy w' r)(hr:∀ b,r=some b→b<lo):ErrV A lo w' lab m v:=by
 rcases h with h|⟨pb,ev,rv,n,t,rfl,h,hm⟩
 ·exact .inl h
 ·exact .inr ⟨pb,ev,rv,n,t,rfl,h.gb hg hr,hm⟩
end Go.Proofs.YtknaalohaagcdaaGreatDoor.Own
