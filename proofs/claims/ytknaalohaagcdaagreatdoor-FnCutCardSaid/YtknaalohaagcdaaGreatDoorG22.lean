import Derived.Test.YtknaalohaagcdaaGreatDoorG01
import Derived.Test.YtknaalohaagcdaaGreatDoorG21
import Derived.Deep.RegionLaw
set_option maxHeartbeats 400000000
set_option maxRecDepth 100000
namespace Go.Proofs.YtknaalohaagcdaaGreatDoor.Own
open Go.RowKit
theorem step_appS{P:Program}(w:World){ops:Array Oper}{o:Oper}{a:Go.Act}{K:Go.Act→World→Prop}{Q:Exit→Go.Act→World→Prop}{E:Prop}(hgd:o.guard=none)(s x:Operand)(t tx:TypeId)
  (ho:o.op=.call { callee:=.builtin .append,args:=#[s,x],argTypes:=#[t,tx] })
  (base:Nat) (e:TypeId) (i:TypeInfo) (z:Value) (bytes:Nat) (ht:P.underlying t=some (.slice e)) (hi:P.info? e=some i) (hz:i.zero=some z)
  (hsize:i.size=1) (hby:i.bytes=bytes) (hzs:z.cells.size=1) (v:Value) (n:Nat) (xs:List Value) (hs:a.eval s=v) (hown:w.ownsRow base e 1 v n xs) (xv:Value) (m:Nat) (news:List Value) (hx:a.eval x=xv) (hsrc:Src P 1 tx xv m news w)
  (h63:n+m≤maxLen) (hbytes:(n+m) * bytes≤140737488355328) (hbase:base≤w.heap.size)
  (h:∀ ao cap w',w'.ownsRow base e 1 (.slice ao (n+m) cap) (n+m) (xs++news)→w.grownBy w' v.ownBlock→(SameRow v (.slice ao (n+m) cap)∨(Value.slice ao (n+m) cap).ownBlock=some w.heap.size)→w'.ownsRow base e 1 v n xs→K (a.put o.dst (.slice ao (n+m) cap)) w'):
  if Region.wanted o (yielded ops a.tmps)=true then Oper.wp P o a w K Q else E:=
 step_app w hgd s x t tx ho base e i z bytes ht hi hz hsize hby hzs v n xs hs hown xv m news hx hsrc h63 hbytes hbase fun v' w' h1 h2 h3 h4=>by
  obtain ⟨ao,cap,rfl,_,_⟩:=form_of h1
  exact h ao cap w' h1 h2 h3 h4
theorem IS.yesN{lab:Nat→Nat}{base A j n N m:Nat}{w0 w wb w3:World}{names:List (List Int)}{v1 v2:Value}{mo:Option Nat}{vA:Value}{flat dec:List Int}{v1':Value}(h:IS (labN w0 lab (j+2)) base A j w0 w names v1 v2 mo (names++[dec]) vA (flat++dec))(hn:names.length=n)(hfl:names.flatten=flat)(hN:flat.length=N)(hm:dec.length=m)(hd:¬ dec∈names)(hby:∀ nm∈names,∀ c∈nm,0≤c∧c≤255)(hdb:∀ c∈dec,0≤c∧c≤255)
  (hb:(w.setCell ⟨A,3 * j+1,none⟩ vA).grownBy wb none) (hg:wb.grownBy w3 v1.ownBlock) (ho:w3.ownsRow base 111 1 v1' (n+1) ((ends 0 names).map (Value.int .u64)++[.int .u64 ((N:Int)+(m:Int))])) (hold:w3.ownsRow base 111 1 v1 n ((ends 0 names).map (Value.int .u64)))
  (hrel:SameRow v1 v1'∨v1'.ownBlock=some wb.heap.size):InsP lab base A j names dec w0 (.returned (.bool true)) (w3.setCell ⟨A,3 * j,none⟩ v1'):=by
 subst hn hN hm hfl
 refine IS.yes h hd (fun nm hx => ?_) hb hg ?_ hold hrel
 ·rcases List.mem_append.1 hx with hx|hx
  ·exact hby nm hx
  ·rw [List.mem_singleton] at hx
   rw [hx]
   exact hdb
 ·rw [ends_snoc,List.map_append,List.map_singleton,Int.zero_add]
  exact ho
theorem info111:(Tryz.prog.info? 111).map (fun i=>(i.zero,i.size,i.bytes))=some (some (.int .u64 0),1,8):=by kernel_rfl
theorem IS.row1{lab:Nat→Nat}{base A j n:Nat}{w0 w:World}{names:List (List Int)}{v1 v2:Value}{mo:Option Nat}{mn:List (List Int)}{vA va:Value}{all:List Int}(h:IS lab base A j w0 w names v1 v2 mo mn vA all)(hn:names.length=n):(w.setCell ⟨A,3 * j+1,none⟩ va).ownsRow base 111 1 v1 n ((ends 0 names).map (Value.int .u64)):=by
 subst hn
 refine h.r1.kept (Go.Lib.grownBy_setCell _ A (3 * j+1) _) ?_
 cases hv:v1.ownBlock with
 |none=>exact .inl rfl
 |some g=>exact .inr (fun e=>by have:=Option.some.inj e; subst this; have:=h.l1 _ hv; have:=h.lA; omega)
theorem ins_core(lab:Nat→Nat)(base A j g1 c1 n N m c2:Nat)(ao2:Option Addr)(w:World)(names:List (List Int))(flat:List Int)(nv:Value)(mo:Option Nat)(dec:List Int)(quoted:Bool)(hn:names.length=n)(hfl:names.flatten=flat)(hNN:flat.length=N)(hm:dec.length=m)
  (hA:Act Tryz.prog w lab base A j names (.slice (some ⟨g1,0,none⟩) n c1) (.slice ao2 N c2) mo) (hb:base≤w.heap.size)
  (hdb:∀ c∈dec,0≤c∧c≤255) (hNm:N+m≤4294967296) (hn4:n≤4294967296) (hS:NameSrc w base (.slice ao2 N c2) nv N m flat dec quoted):
  Calls Tryz.prog 134 #[.pointer (some ⟨A,3 * j,none⟩),nv,.bool quoted] w (InsP lab base A j names dec w):=by
 obtain ⟨k1,k2,k3,_⟩:=(show C3 w A j _ _ _ from hA.blk).facts
 have r2:w.ownsRow base 5 1 (.slice ao2 N c2) N (flat.map (Value.int .u8)):=by have h:=hA.r2; rw [hfl,hNN] at h; exact h
 have R2:=Hq r2
 have HA:=Hq hA
 have HS:=Hq hS
 have HB:=Hq (And.intro hb hdb)
 have HE:=Hq (And.intro hn (And.intro hfl (And.intro hNN hm)))
 obtain ⟨i0,hi,hz0,hz1,hz2⟩:=info_parts info5
 clear hA hS hb hdb r2 hn hfl hNN hm
 go_enter Tryz.func134,Tryz.ntmps134
 go_upto_if 17 with (fail)
 go_cut [7] from 17 to 33 (fun v7 wc=>∃ aoA cA,v7=.slice aoA (N+m) cA∧Hid (Grew w wc base (.slice ao2 N c2) N (flat.map (Value.int .u8)) (.slice aoA (N+m) cA) (dec.map (Value.int .u8))))
 case first=>as_aux_lemma=>
  rcases HS.out with ⟨rfl,a,c,rfl,hcell⟩|⟨rfl,hcall⟩
  ·have HC:=Hq hcell
   clear hcell
   have hsrc:Src Tryz.prog 1 47 (.slice (some a) m c) m (dec.map (Value.int .u8)) w:=Src.ofSlice _ Tryz.underlying47 _ _ _ _ (by rw [List.length_map,HE.out.2.2.2]; omega) HC.out (by simp [Value.oneCell'])
   go_wp2_with (at_builtin; refine wpList_appS _ rfl _ _ 47 47 rfl base 5 i0 _ 1 Tryz.underlying47 hi hz0 hz1 hz2 rfl _ _ _ rfl R2.out _ _ _ rfl hsrc ?c1 ?c2 HB.out.1 ?_)
   case c1=>simp only [maxLen]; omega
   case c2=>omega
   intro aoA cA w' h1 h2 h3 h4
   have G:=Hq (show Grew w w' base (.slice ao2 N c2) N (flat.map (Value.int .u8)) (.slice aoA (N+m) cA) (dec.map (Value.int .u8)) from ⟨by rw [List.length_map,HE.out.2.2.2]; exact h1,h2,h4,h3.imp id (fun h=>⟨_,h,Nat.le_refl _⟩)⟩)
   clear h1 h2 h3 h4
   go_wp2_with fail
   go_meet
   case rel=>exact ⟨aoA,cA,rfl,G⟩
  ·have HC:=Hq hcall
   clear hcall
   go_wp2_with fail
   refine HC.out.mono ?_
   rintro e w' ⟨aoA,cA,ev,rfl,hg⟩
   have G:=Hq hg
   clear hg
   go_wp2_with fail
   go_meet
   case rel=>exact ⟨aoA,cA,rfl,G⟩
 case rest=>
  obtain ⟨aoA,cA,rfl,HG⟩:=hcut
  have hIS:=IS.start HA.out HA.out.lt (by rw [HE.out.2.1,HE.out.2.2.1]; exact HG.out)
  rw [HE.out.2.1] at hIS
  have HI:=Hq hIS
  obtain ⟨l1,l2,l3,_⟩:=hIS.c.facts
  clear hIS k1 k2 k3
  have hNA:N≤N+m:=by omega
  have hsf:=slice_from (W:=wc) (ao:=aoA) (n:=N+m) (cap:=cA) (a:=N) (k1:=.i64) hNA
  obtain ⟨u,hu⟩:∃ u,u=sliced aoA N (N+m) cA 1:=⟨_,rfl⟩
  rw [← hu] at hsf
  have HU:=Hq hu
  clear hu hNA
  have qE:∀ (W:World) (r:Option Nat),(binOp .eql 188 (.map r) (.map none)).run Tryz.prog W=.ok (.bool r.isNone) W:=fun W r=>run_eql_map_nil W 188 9 180 r Tryz.underlying188
  go_upto_region 6 with (fail)
  go_cut [57] from 40 to 58 (fun v57 wc'=>∃ b:Bool,v57=.bool b∧Hid (b=true→mo=none)∧wc=wc')
  case first=>as_aux_lemma=>
   cases mo with
   |some M=>
    have q:=qE wc (some M)
    simp only [Option.isNone_some] at q
    go_wp2_with fail
    go_meet
    case rel=>exact ⟨false,rfl,Hq (by simp),rfl⟩
   |none=>
    have q:=qE wc none
    simp only [Option.isNone_none] at q
    have LN:=Hq (len155 A j n c1 (some ⟨g1,0,none⟩) wc l1)
    by_cases h64:64<n
    ·have t1:decide (64<n)=true:=by simpa using h64
     have t2:decide ((64:Int)<(n:Int))=true:=by simp; omega
     go_wp2_with fail
     refine LN.out.mono ?_
     rintro e w' ⟨rfl,rfl⟩
     go_wp2_with fail
     go_meet
     case rel=>exact ⟨true,rfl,Hq (by simp),rfl⟩
    ·have t1:decide (64<n)=false:=by simpa using h64
     have t2:decide ((64:Int)<(n:Int))=false:=by simp; omega
     by_cases h1k:1024<N
     ·have t3:decide (1024<N)=true:=by simpa using h1k
      have t4:decide ((1024:Int)<(N:Int))=true:=by simp; omega
      go_wp2_with fail
      refine LN.out.mono ?_
      rintro e w' ⟨rfl,rfl⟩
      go_wp2_with fail
      go_meet
      case rel=>exact ⟨true,rfl,Hq (by simp),rfl⟩
     ·have t3:decide (1024<N)=false:=by simpa using h1k
      have t4:decide ((1024:Int)<(N:Int))=false:=by simp; omega
      go_wp2_with fail
      refine LN.out.mono ?_
      rintro e w' ⟨rfl,rfl⟩
      go_wp2_with fail
      go_meet
      case rel=>exact ⟨false,rfl,Hq (by simp),rfl⟩
  case rest=>
   obtain ⟨b,rfl,HBN,rfl⟩:=hcut
   go_upto_if 57 with (fail)
   go_cut [8,10,11] from 58 to 87 (fun v8 v10 v11 w2=>∃ mo2,Hid (IS (labN w lab (j+2)) base A j w w2 names (.slice (some ⟨g1,0,none⟩) n c1) (.slice ao2 N c2) mo2 names (.slice aoA (N+m) cA) (flat++dec)))
   case first=>
    cases b
    ·go_wp2_with fail
     go_meet
     case rel=>exact ⟨mo,HI⟩
    ·have hmo:=HBN.out rfl
     subst hmo
     have hmm:(Instr.makeMap 188 none).run Tryz.prog wc=.ok (.map (some wc.heap.size)) (wc.alloc (.map #[] 0)):=rfl
     have hAl:=HI.out.c.lt
     have hI2:=HI.out.mkmap
     rw [World.setCell_alloc_past _ _ _ _ hAl] at hI2
     have HI2:=Hq hI2
     clear hI2
     have fz3:(wc.alloc (.map #[] 0)).frozen? ⟨A,3 * j+2,none⟩=false:=(World.frozen?_of_block (w:=wc) (a:=⟨A,3 * j+2,none⟩) ((World.grownBy_alloc wc (.map #[] 0) none).block A hAl (by simp))).trans (HI.out.c.facts.2.2.2 _)
     have ce3:(wc.alloc (.map #[] 0)).cell? ⟨A,3 * j+2,none⟩=some (.map none):=(World.cell?_of_block (w:=wc) (a:=⟨A,3 * j+2,none⟩) ((World.grownBy_alloc wc (.map #[] 0) none).block A hAl (by simp))).trans l3
     go_upto_region 7 with (fail)
     go_cut [] from 58 to 62 (fun w2=>∃ M,Hid (IS (labN w lab (j+2)) base A j w w2 names (.slice (some ⟨g1,0,none⟩) n c1) (.slice ao2 N c2) (some M) [] (.slice aoA (N+m) cA) (flat++dec)))
     case first=>as_aux_lemma=>
      go_wp2_with fail
      go_meet
      case rel=>exact ⟨_,HI2⟩
     case rest=>
      obtain ⟨M,HI3⟩:=hcut
      obtain ⟨m1,m2,m3,_⟩:=HI3.out.c.facts
      clear hmm ce3 fz3 HI2 l1 l2 l3 hsf
      go_wp2_with fail
      go_loopg [8,67] n (fun gk v8 v67 wr=>∃ i a:Nat,v67=.int .i64 i∧v8=.int .u64 a∧i≤n∧Hid (a=(names.take i).flatten.length)∧Hid (IS (labN w lab (j+2)) base A j w wr names (.slice (some ⟨g1,0,none⟩) n c1) (.slice ao2 N c2) (some M) (names.take i) (.slice aoA (N+m) cA) (flat++dec))∧Hid (gk=n-i))
      case atStart=>exact ⟨0,0,rfl,rfl,Nat.zero_le _,Hq (by simp),HI3,Hq rfl⟩
      case round=>
       clear m1 m2 m3 HI3
       obtain ⟨i,a,rfl,rfl,hi',HAA,HIr,HGk⟩:=hrel
       obtain ⟨m1,m2,m3,_⟩:=HIr.out.c.facts
       have x0:(0:Int)≤(i:Int):=Int.natCast_nonneg _
       by_cases hin:i<n
       ·have t1:decide (i<n)=true:=by simpa using hin
        have x1:(i:Int)<(n:Int):=by omega
        have hil:i<names.length:=by rw [HE.out.1]; exact hin
        obtain ⟨ec,u2,hsl,hcv⟩:=HIr.out.piece HE.out.1 HE.out.2.1 HE.out.2.2.1 hil
        have hay:=HAA.out
        rw [← hay] at hsl
        obtain ⟨e2,he2⟩:∃ e2:Nat,e2=(names.take (i+1)).flatten.length:=⟨_,rfl⟩
        rw [← he2] at ec hsl
        have HE2:=Hq he2
        have hlen:names[i].length≤4294967296:=by
         have h1:=part_le names (i+1)
         rw [flat_take hil,HE.out.2.1,HE.out.2.2.1] at h1
         omega
        obtain ⟨hlM,cnt,hcnt,hown⟩:=HIr.out.mp M rfl
        have hcl:cnt<maxLen:=by
         rw [List.length_take] at hcnt
         unfold maxLen
         omega
        obtain ⟨w3,hup,hown3,hturn3⟩:=World.ownsMap.store (w:=wr.drew) hown lawK Tryz.underlying188 hcl (keyL_key hlen) (unitElem_mk (H:=Unit))
        have ht1:wr.drew.mapTurned w3 M:=hturn3
        have HI4:=Hq (show IS (labN w lab (j+2)) base A j w w3 names (.slice (some ⟨g1,0,none⟩) n c1) (.slice ao2 N c2) (some M) (names.take (i+1)) (.slice aoA (N+m) cA) (flat++dec) by
         rw [take_split hil]
         exact (HIr.out.of_gb (gb_drewN (World.grownBy.refl wr none) 1)).turned ht1 hcnt hown3)
        have hcv1:=hcv 1
        have hcv0:(convert 47 9 u2).run Tryz.prog wr.drew=.ok (.string (strOfNums names[i])) wr.drew:=hcv 1
        generalize strOfNums names[i]=y at hcv hcv1 hcv0 hup
        clear he2 hlM hcnt hcl hown hown3 hturn3 ht1 hay hcv hcv1 hlen
        go_wp2_with fail
        go_region
        all_goals
         go_wp2_with fail
         go_roundg (n-(i+1))
         case measure=>have:=HGk.out; omega
         case rel=>exact ⟨i+1,e2,by go_num,rfl,by omega,HE2,HI4,Hq rfl⟩
       ·have t1:decide (i<n)=false:=by simpa using hin
        have Z:=Hq (show IS (labN w lab (j+2)) base A j w wr names (.slice (some ⟨g1,0,none⟩) n c1) (.slice ao2 N c2) (some M) names (.slice aoA (N+m) cA) (flat++dec) by
         have h:=HIr.out
         rwa [List.take_of_length_le (by rw [HE.out.1]; omega)] at h)
        go_wp2_with fail
        go_meet
        case rel=>exact ⟨some M,Z⟩
   case rest=>
    obtain ⟨mo2,HI5⟩:=hcut
    clear l1 l2 l3 hsf HI HBN
    obtain ⟨l1,l2,l3,_⟩:=HI5.out.c.facts
    have hcu:∀ k,(convert 47 9 u).run Tryz.prog (wc.drewN k)=.ok (.string (strOfNums dec)) (wc.drewN k):=by
     rw [HU.out]
     exact HI5.out.conv HE.out.2.2.1 HE.out.2.2.2
    go_upto_if 91 with (fail)
    go_cut [12,14,15,16] from 92 to 132 (fun v12 v14 v15 v16 w3=>∃ mo3,Hid (IS (labN w lab (j+2)) base A j w w3 names (.slice (some ⟨g1,0,none⟩) n c1) (.slice ao2 N c2) mo3 (names++[dec]) (.slice aoA (N+m) cA) (flat++dec))∧Hid (¬ dec∈names))
    case first=>as_aux_lemma=>
     cases mo2 with
     |none=>
      simp only [Option.isNone_none] at *
      go_wp2_with fail
      go_loopg [12,97] n (fun gk v12 v97 wr=>∃ i a nd:Nat,v97=.int .i64 i∧v12=.int .u64 a∧i≤n∧Hid (a=(names.take i).flatten.length)∧Hid (∀ x∈names.take i,x≠dec)∧Hid (gk=n-i)∧wr=wc.drewN nd)
      case atStart=>exact ⟨0,0,0,rfl,rfl,Nat.zero_le _,Hq (by simp),Hq (by simp),Hq rfl,rfl⟩
      case round=>
       obtain ⟨i,a,nd,rfl,rfl,hi',HAA,HNO,HGk,rfl⟩:=hrel
       have x0:(0:Int)≤(i:Int):=Int.natCast_nonneg _
       by_cases hin:i<n
       ·have t1:decide (i<n)=true:=by simpa using hin
        have x1:(i:Int)<(n:Int):=by omega
        have hil:i<names.length:=by rw [HE.out.1]; exact hin
        obtain ⟨ec,u2,hsl,hcv⟩:=HI5.out.piece HE.out.1 HE.out.2.1 HE.out.2.2.1 hil
        have hay:=HAA.out
        rw [← hay] at hsl
        obtain ⟨e2,he2⟩:∃ e2:Nat,e2=(names.take (i+1)).flatten.length:=⟨_,rfl⟩
        rw [← he2] at ec hsl
        have HE2:=Hq he2
        clear he2 hay
        by_cases hd:names[i]=dec
        ·have HD:=Hq (show dec∈names by rw [← hd]; exact List.getElem_mem hil)
         rw [hd] at hcv
         generalize strOfNums dec=y at hcv hcu
         clear hd
         go_wp2_with fail
         go_quiet (fail)
         go_wp2_with fail
         go_ret
         exact (HI5.out.of_gb (gb_drewN (gb_drewN (World.grownBy.refl wc none) _) _)).no HD.out
        ·have hne:¬ strOfNums names[i]=strOfNums dec:=fun e=>hd (strOf_inj (HA.out.by8 _ (List.getElem_mem hil)) HB.out.2 e)
         have tne:=toList_ne hne
         have NO2:=Hq (show ∀ x∈names.take (i+1),x≠dec by
          intro x hx
          rw [take_split hil] at hx
          rcases List.mem_append.1 hx with hx|hx
          ·exact HNO.out x hx
          ·rw [List.mem_singleton] at hx
           rw [hx]
           exact hd)
         clear hne hd
         generalize strOfNums dec=y at hcu tne
         generalize strOfNums names[i]=y2 at hcv tne
         go_wp2_with fail
         go_quiet (fail)
         go_wp2_with fail
         go_roundg (n-(i+1))
         case measure=>have:=HGk.out; omega
         case rel=>exact ⟨i+1,e2,_,by go_num,rfl,by omega,HE2,NO2,Hq rfl,rfl⟩
       ·have t1:decide (i<n)=false:=by simpa using hin
        have NO2:=Hq (show ¬ dec∈names from fun h=>by
         have h2:=HNO.out
         rw [List.take_of_length_le (by rw [HE.out.1]; omega)] at h2
         exact h2 dec h rfl)
        have Z:=Hq ((HI5.out.of_gb (gb_drewN (World.grownBy.refl wc none) nd)).nomap (mn':=names++[dec]))
        go_wp2_with fail
        go_meet
        case rel=>exact ⟨none,Z,NO2⟩
     |some M=>
      simp only [Option.isNone_some] at *
      have hdl:dec.length≤4294967296:=by rw [HE.out.2.2.2]; omega
      have hhas:Maps.has (Maps.setOf (DataW.agg (H:=Unit) []) (names.map keyL)) (keyL dec)=decide (dec∈names):=has_names HA.out.by8 HB.out.2
      have look:∀ W,MapHas Tryz.prog W M names→(Instr.lookup 188 (.map (some M)) (.string (strOfNums dec)) true).run Tryz.prog W=.ok (.tuple #[.agg #[],.bool (decide (dec∈names))]) W:=fun W hm=>by
       obtain ⟨cnt,hcnt,hown⟩:=hm
       obtain ⟨vv,ps,hlk,hvv⟩:=World.ownsMap.look_ok (w:=W) hown lawK Tryz.underlying188 (zero180 _) (unitElem_mk (H:=Unit)) (keyL_key hdl)
       obtain ⟨rfl,_⟩:=unitElem_inv hvv
       rw [hhas] at hlk
       exact hlk
      have hIA:=HI5.out.of_gb (World.grownBy_alloc wc (.cells #[] 180) none)
      have hlk0:=look wc.drew (HI5.out.mp M rfl).2
      have hlk1:=look (wc.alloc (.cells #[] 180)).drew (hIA.mp M rfl).2
      have hcu0:(convert 47 9 u).run Tryz.prog wc.drew=.ok (.string (strOfNums dec)) wc.drew:=hcu 1
      have hcu1:(convert 47 9 u).run Tryz.prog (wc.alloc (.cells #[] 180)).drew=.ok (.string (strOfNums dec)) (wc.alloc (.cells #[] 180)).drew:=by rw [HU.out]; exact hIA.conv HE.out.2.2.1 HE.out.2.2.2 1
      have HIA:=Hq hIA
      have HM:=Hq hdl
      have lA1:(wc.alloc (.cells #[] 180)).cell? ⟨A,3 * j+2,none⟩=some (.map (some M)):=hIA.c.facts.2.2.1
      clear hhas look hIA hdl
      go_upto_region 25 with (fail)
      go_cut [15,16] from 114 to 124 (fun v15 v16 w3=>v16=.bool (decide (dec∈names))∧Hid (IS (labN w lab (j+2)) base A j w w3 names (.slice (some ⟨g1,0,none⟩) n c1) (.slice ao2 N c2) (some M) names (.slice aoA (N+m) cA) (flat++dec))∧Hid (∀ k,(convert 47 9 u).run Tryz.prog (w3.drewN k)=.ok (.string (strOfNums dec)) (w3.drewN k)))
      case first=>as_aux_lemma=>
       obtain ⟨y,hy⟩:∃ y,y=strOfNums dec:=⟨_,rfl⟩
       obtain ⟨bb,hbb⟩:∃ bb,bb=decide (dec∈names):=⟨_,rfl⟩
       rw [← hy] at hcu0 hcu1 hlk0 hlk1
       rw [← hbb] at hlk0 hlk1
       have HBB:=Hq hbb
       clear hy hbb hcu
       go_region
       all_goals go_wp2_with fail
       all_goals go_meet
       all_goals exact ⟨by rw [HBB.out],Hq (HIA.out.of_gb (gb_drewN (World.grownBy.refl _ none) 1)),Hq fun k=>by rw [HU.out]; exact (HIA.out.of_gb (gb_drewN (World.grownBy.refl _ none) 1)).conv HE.out.2.2.1 HE.out.2.2.2 k⟩
      case rest=>
       obtain ⟨rfl,HI6,HCV⟩:=hcut
       clear hlk0 hlk1 hcu0 hcu1 lA1 HIA l1 l2 l3 HI5 hcu
       obtain ⟨l1,l2,l3,_⟩:=HI6.out.c.facts
       by_cases hd:dec∈names
       ·have tt:decide (dec∈names)=true:=by simpa using hd
        have HD:=Hq hd
        rw [tt]
        clear hd tt
        go_wp2_with fail
        go_ret
        exact HI6.out.no HD.out
       ·have tt:decide (dec∈names)=false:=by simpa using hd
        have HD:=Hq hd
        rw [tt]
        clear hd tt
        obtain ⟨hlM,cnt,hcnt,hown⟩:=HI6.out.mp M rfl
        have hcl:cnt<maxLen:=by
         have:=HE.out.1
         unfold maxLen
         omega
        obtain ⟨w4,hup,hown3,hturn3⟩:=World.ownsMap.store (w:=wc.drew) hown lawK Tryz.underlying188 hcl (keyL_key HM.out) (unitElem_mk (H:=Unit))
        have ht1:wc.drew.mapTurned w4 M:=hturn3
        have HI7:=Hq ((HI6.out.of_gb (gb_drewN (World.grownBy.refl wc none) 1)).turned ht1 hcnt hown3)
        have hcv0:(convert 47 9 u).run Tryz.prog wc.drew=.ok (.string (strOfNums dec)) wc.drew:=HCV.out 1
        have hcv1:=HCV.out
        generalize strOfNums dec=y at hcv1 hcv0 hup
        clear hlM hcnt hcl hown hown3 hturn3 ht1
        go_wp2_with fail
        go_region
        all_goals go_wp2_with fail
        all_goals go_meet
        all_goals exact ⟨some M,HI7,HD⟩
    case rest=>
     obtain ⟨mo3,HI8,HND⟩:=hcut
     clear l1 l2 l3 hcu HI5
     obtain ⟨l1,l2,l3,lf⟩:=HI8.out.c.facts
     obtain ⟨i1,hi1,hz10,hz11,hz12⟩:=info_parts info111
     have own1:(wc.setCell ⟨A,3 * j+1,none⟩ (.slice aoA (N+m) cA)).ownsRow base 111 1 (.slice (some ⟨g1,0,none⟩) n c1) n ((ends 0 names).map (Value.int .u64)):=HI8.out.row1 HE.out.1
     have hbw:base≤wc.heap.size:=Nat.le_trans HB.out.1 HI8.out.fz.size
     go_upto_region 30 with (fail)
     have hw64:IntKind.u64.wrap ((N:Int)+(m:Int))=(N:Int)+(m:Int):=by rw [IntKind.wrap_u64]; omega
     have hbl:((wc.setCell ⟨A,3 * j+1,none⟩ (.slice aoA (N+m) cA)).alloc (.cells #[.int .u64 ((N:Int)+(m:Int))] 111)).drew.heap[wc.heap.size]? = some (.cells #[.int .u64 ((N:Int)+(m:Int))] 111):=by
      have e:=heap_alloc_new (wc.setCell ⟨A,3 * j+1,none⟩ (.slice aoA (N+m) cA)) (.cells #[.int .u64 ((N:Int)+(m:Int))] 111)
      rw [show (wc.setCell ⟨A,3 * j+1,none⟩ (.slice aoA (N+m) cA)).heap.size=wc.heap.size by simp [World.setCell]] at e
      exact e
     have srcN:Src Tryz.prog 1 187 (.slice (some ⟨wc.heap.size,0,none⟩) 1 1) 1 [.int .u64 ((N:Int)+(m:Int))] ((wc.setCell ⟨A,3 * j+1,none⟩ (.slice aoA (N+m) cA)).alloc (.cells #[.int .u64 ((N:Int)+(m:Int))] 111)).drew:=
      Src.ofSlice _ Tryz.underlying187 _ _ _ _ rfl (World.news_of_block hbl) (by simp [Value.oneCell'])
     have hlA:=HI8.out.c.lt
     have cAl:C3 ((wc.setCell ⟨A,3 * j+1,none⟩ (.slice aoA (N+m) cA)).alloc (.cells #[.int .u64 ((N:Int)+(m:Int))] 111)).drew A j (.slice (some ⟨g1,0,none⟩) n c1) (.slice aoA (N+m) cA) (.map mo3):=
      (HI8.out.c.set1 (.slice aoA (N+m) cA)).block ((World.grownBy_alloc _ _ none).block A (by simpa [World.setCell] using hlA) (by simp))
     have hgA:g1≠A:=fun e=>by
      have h1:=HI8.out.l1 g1 rfl
      rw [e,HI8.out.lA] at h1
      omega
     have far:∀ w',((wc.setCell ⟨A,3 * j+1,none⟩ (.slice aoA (N+m) cA)).alloc (.cells #[.int .u64 ((N:Int)+(m:Int))] 111)).drew.grownBy w' (Value.slice (some ⟨g1,0,none⟩) n c1).ownBlock→w'.cell? ⟨A,3 * j,none⟩=some (.slice (some ⟨g1,0,none⟩) n c1)∧w'.frozen? ⟨A,3 * j,none⟩=false:=fun w' hg=>by
      have c:=(cAl.block (hg.block A cAl.lt (by simpa [Value.ownBlock] using Ne.symm hgA))).facts
      exact ⟨c.1,c.2.2.2 _⟩
     go_region_law
      ((refine step_appS _ (by rfl) (.tmp 140) (.tmp 147) 187 187 (by rfl) base 111 i1 _ 8 Tryz.underlying187 hi1 hz10 hz11 hz12 rfl (.slice (some ⟨g1,0,none⟩) n c1) n ((ends 0 names).map (Value.int .u64)) (by rfl) ((own1.alloc _).drew) (.slice (some ⟨wc.heap.size,0,none⟩) 1 1) 1 [.int .u64 ((N:Int)+(m:Int))] (by rfl) srcN (by simp only [maxLen]; omega) (by omega) (by simp; omega) ?_
        intro aoB cB w5 hown5 hgrow5 hrel5 hold5
        have q1:=(far w5 hgrow5).1
        have q2:=(far w5 hgrow5).2))
     all_goals go_wp2_with fail
     all_goals go_ret
     all_goals exact HI8.out.yesN HE.out.1 HE.out.2.1 HE.out.2.2.1 HE.out.2.2.2 HND.out HA.out.by8 HB.out.2 (gb_drewN (World.grownBy_alloc _ _ none) 1) hgrow5 hown5 hold5 hrel5
end Go.Proofs.YtknaalohaagcdaaGreatDoor.Own
