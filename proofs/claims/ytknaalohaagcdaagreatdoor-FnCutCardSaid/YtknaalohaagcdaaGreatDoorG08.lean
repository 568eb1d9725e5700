import Derived.Test.YtknaalohaagcdaaGreatDoorG01
import Derived.Test.YtknaalohaagcdaaGreatDoorG06
import Derived.Test.YtknaalohaagcdaaGreatDoorG07
set_option maxHeartbeats 400000000
set_option maxRecDepth 100000
namespace Go.Proofs.YtknaalohaagcdaaGreatDoor.Own
open Go.RowKit JG
theorem scalar_quoted(g m:Nat)(s:ByteArray)(p:Nat)(tw lo op:Bool)(k0:Int)(tx:ByteArray)(ns ks:Value)(w:World)(hs:s.size≤140737488355328)(h:R w g s p tw lo 0 op)(hN:Nd w m k0 tx ns ks)(hne:m≠g)(hc:((bytes s).drop p).headD 0=34)(j:Nat)(hj:quotedO lo ((bytes s).drop p)=some j)(hj2:needs 34 34 ((bytes s).drop (p+j))=some 1):
  Calls Tryz.prog 47 #[.pointer (some ⟨g,0,none⟩),.pointer (some ⟨m,0,none⟩)] w fun e w'=>e=.returned (.bool true)∧R w' g s (p+j+1) tw lo 0 op∧(∃ tx',Nd w' m k0 tx' ns ks)∧Two g m w w':=by
 have S:=Hq (see_c g s p tw lo 0 op 34 hc w h)
 have W:=Hq (fun n=>calls_yes (quoted55 g s p tw lo op (w.drewN n) hs (h.drew n)) hj)
 obtain ⟨c0,c1,_,_,_,_,_,_,_⟩:=h.facts
 have HN:=Hq hN
 have HP:=Hq h.2
 have HNE:=Hq hne
 have W2:=Hq (fun w1 (h1:R w1 g s (p+j) tw lo 0 op)=>calls_yes (need53 g s (p+j) tw lo op 34 34 w1 hs h1) hj2)
 clear h hN hc hj hj2 hne
 go_enter Tryz.func47,Tryz.ntmps47
 go_wp2_with fail
 refine S.out.mono ?_
 rintro e w' ⟨rfl,n,rfl⟩
 clear c0 c1
 go_wp2_with fail
 refine (W.out n).mono ?_
 rintro e w0 ⟨rfl,hR0,hg0⟩
 go_wp2_with fail
 refine (W2.out _ hR0).mono ?_
 rintro e w1 ⟨rfl,hR,hg1⟩
 have hg:=hg0.trans hg1
 clear hR0 hg0 hg1
 have HR:=Hq hR
 have HG:=Hq hg
 have hN1:=HN.out.kept ((gb_drewN (World.grownBy.refl w (some g)) n).trans hg) HNE.out
 obtain ⟨c0,c1,_,_,_,_,_,_,_⟩:=hR.facts
 obtain ⟨d0,d1,e0,e1⟩:=hN1.facts
 have hb1:p+j+1≤s.size:=hR.2
 have HN1:=Hq hN1
 clear hR hg hN1
 have hsl:∀ W,(Instr.slice 9 (.string s) (some (.int .i64 (p:Int))) (some (.int .i64 ((p:Int)+(j:Int)+1))) none).run Tryz.prog W=.ok (.string (s.extract p (p+j+1))) W:=fun W=>by
  have e:=run_slice_string (P:=Tryz.prog) W 9 s .i64 .i64 (p:Int) ((p:Int)+(j:Int)+1) Tryz.underlying9 (by omega) (by omega) (by omega)
  rw [e,Int.toNat_natCast,show ((p:Int)+(j:Int)+1).toNat=p+j+1 by omega]
 go_wp2_with fail
 go_still_tail 13,(by kernel_rfl)
 go_wp2_with fail
 go_ret
 have hG2:Two g m w (w1.drewN 1):=(Two.left ((gb_drewN (World.grownBy.refl w (some g)) n).trans HG.out)).drewN 1
 have hset:(w1.drewN 1).grownBy ((w1.drewN 1).setCell ⟨m,1,none⟩ (.string (s.extract p (p+j+1)))) (some m):=Go.Lib.grownBy_setCell _ _ _ _
 exact ⟨rfl,R.kept (HR.out.drew 1) hset (fun e=>HNE.out e.symm),⟨_,Nd.setText (w:=w1.drewN 1) HN1.out _⟩,hG2.trans (Two.right hset)⟩
theorem scalar_quoted_no(g m:Nat)(s:ByteArray)(p:Nat)(tw lo op:Bool)(k0:Int)(tx:ByteArray)(ns ks:Value)(w:World)(hs:s.size≤140737488355328)(h:R w g s p tw lo 0 op)(hN:Nd w m k0 tx ns ks)(hne:m≠g)(hc:((bytes s).drop p).headD 0=34)(hj:quotedO lo ((bytes s).drop p)=none):
  Calls Tryz.prog 47 #[.pointer (some ⟨g,0,none⟩),.pointer (some ⟨m,0,none⟩)] w fun e w'=>e=.returned (.bool false)∧Failed g s tw lo op p w'∧(∃ tx',Nd w' m k0 tx' ns ks)∧Two g m w w':=by
 have S:=Hq (see_c g s p tw lo 0 op 34 hc w h)
 have W:=Hq (fun n=>calls_no (quoted55 g s p tw lo op (w.drewN n) hs (h.drew n)) hj)
 obtain ⟨c0,c1,_,_,_,_,_,_,_⟩:=h.facts
 have HN:=Hq hN
 have HP:=Hq h.2
 have HNE:=Hq hne
 clear h hN hc hj hne
 go_enter Tryz.func47,Tryz.ntmps47
 go_wp2_with fail
 refine S.out.mono ?_
 rintro e w' ⟨rfl,n,rfl⟩
 clear c0 c1
 go_wp2_with fail
 refine (W.out n).mono ?_
 rintro e w1 ⟨rfl,⟨q,fa,hfa,hpq,hR⟩,hg⟩
 have HR:=Hq hR
 have HG:=Hq hg
 have hN1:=HN.out.kept ((gb_drewN (World.grownBy.refl w (some g)) n).trans hg) HNE.out
 obtain ⟨c0,c1,_,_,_,_,_,_,_⟩:=hR.facts
 obtain ⟨d0,d1,e0,e1⟩:=hN1.facts
 have hb1:q≤s.size:=hR.2
 have HN1:=Hq hN1
 clear hR hg hN1
 have hsl:∀ W,(Instr.slice 9 (.string s) (some (.int .i64 (p:Int))) (some (.int .i64 (q:Int))) none).run Tryz.prog W=.ok (.string (s.extract p q)) W:=fun W=>by
  have e:=run_slice_string (P:=Tryz.prog) W 9 s .i64 .i64 (p:Int) (q:Int) Tryz.underlying9 (by omega) (by omega) (by omega)
  rw [e,Int.toNat_natCast,Int.toNat_natCast]
 go_wp2_with fail
 go_still_tail 13,(by kernel_rfl)
 go_wp2_with fail
 go_ret
 have hG2:Two g m w (w1.drewN 1):=(Two.left ((gb_drewN (World.grownBy.refl w (some g)) n).trans HG.out)).drewN 1
 have hset:(w1.drewN 1).grownBy ((w1.drewN 1).setCell ⟨m,1,none⟩ (.string (s.extract p q))) (some m):=Go.Lib.grownBy_setCell _ _ _ _
 exact ⟨rfl,⟨q,fa,hfa,hpq,R.kept (HR.out.drew 1) hset (fun e=>HNE.out e.symm)⟩,⟨_,Nd.setText (w:=w1.drewN 1) HN1.out _⟩,hG2.trans (Two.right hset)⟩
theorem scalar_else(g m:Nat)(s:ByteArray)(p:Nat)(tw lo op:Bool)(k0:Int)(tx:ByteArray)(ns ks:Value)(w:World)(h:R w g s p tw lo 0 op)(hN:Nd w m k0 tx ns ks)(hne:m≠g)(c:Int)(hc:((bytes s).drop p).headD 0=c)
  (n0:¬ c=110) (n1:¬ c=116) (n2:¬ c=102) (n3:¬ c=34) (n4:¬ c=45) (m0:¬ c=48) (m1:¬ c=49) (m2:¬ c=50) (m3:¬ c=51) (m4:¬ c=52) (m5:¬ c=53) (m6:¬ c=54) (m7:¬ c=55) (m8:¬ c=56) (m9:¬ c=57):
  Calls Tryz.prog 47 #[.pointer (some ⟨g,0,none⟩),.pointer (some ⟨m,0,none⟩)] w fun e w'=>e=.returned (.bool false)∧Failed g s tw lo op p w'∧(∃ tx',Nd w' m k0 tx' ns ks)∧Two g m w w':=by
 have S:=Hq (see_c g s p tw lo 0 op c hc w h)
 have F:=Hq (fun n=>fail25 g s p tw lo op 4 (w.drewN n) (h.drew n))
 obtain ⟨c0,c1,_,_,_,_,_,_,_⟩:=h.facts
 have HN:=Hq hN
 have HNE:=Hq hne
 clear h hN hc hne
 go_enter Tryz.func47,Tryz.ntmps47
 go_wp2_with fail
 refine S.out.mono ?_
 rintro e w' ⟨rfl,n,rfl⟩
 clear c0 c1
 go_wp2_with fail
 refine (F.out n).mono ?_
 rintro e w1 ⟨rfl,hR,hg⟩
 have hg':=(gb_drewN (World.grownBy.refl w (some g)) n).trans hg
 have HR:=Hq hR
 have HG:=Hq hg'
 clear hR hg hg'
 go_wp2_with fail
 go_ret
 exact ⟨rfl,⟨p,4,by decide,Nat.le_refl p,HR.out⟩,⟨_,HN.out.kept HG.out HNE.out⟩,Two.left HG.out⟩
def scalarO(lo:Bool)(xs:List Int):Option Nat:=
 if xs.headD 0=110 then wordAt [110,117,108,108] xs
 else if xs.headD 0=116 then wordAt [116,114,117,101] xs
 else if xs.headD 0=102 then wordAt [102,97,108,115,101] xs
 else if xs.headD 0=34 then (quotedO lo xs).map (·+1)
 else if xs.headD 0=45∨(48≤xs.headD 0∧xs.headD 0≤57) then num xs
 else none
theorem sq_end(lo:Bool):∀ (xs:List Int) (k n:Nat),sq lo k xs=some n→(xs.drop n).headD 0=34
 |[],k,n,h=>by cases k<;>cases h
 |c::t,k+1,n,h=>by
  have h':(sq lo k t).map (·+1)=some n:=h
  cases e:sq lo k t with
  |none=>rw [e] at h'; cases h'
  |some m=>
   rw [e] at h'
   obtain rfl:m+1=n:=Option.some.inj h'
   exact sq_end lo t k m e
 |c::t,0,n,h=>by
  by_cases hc:c=34
  ·have h':(if c=34 then some 0 else _)=some n:=h
   rw [if_pos hc] at h'
   obtain rfl:0=n:=Option.some.inj h'
   exact hc
  ·rw [sq_cons hc] at h
   cases es:stp lo (c::t) with
   |none=>rw [es] at h; cases h
   |some q=>
    rw [es] at h
    have h':(sq lo (q-1) t).map (·+1)=some n:=h
    cases e:sq lo (q-1) t with
    |none=>rw [e] at h'; cases h'
    |some m=>
     rw [e] at h'
     obtain rfl:m+1=n:=Option.some.inj h'
     exact sq_end lo t (q-1) m e
theorem quotedO_end{lo:Bool}{xs:List Int}{j:Nat}(h:quotedO lo xs=some j):(xs.drop j).headD 0=34:=by
 unfold quotedO at h
 split at h
 ·cases e:sq lo 0 xs.tail with
  |none=>rw [e] at h; cases h
  |some m=>
   rw [e] at h
   obtain rfl:m+1=j:=Option.some.inj h
   cases xs with
   |nil=>cases e
   |cons c t=>exact sq_end lo t 0 m e
 ·cases h
theorem needs_head{a:Int}{xs:List Int}(ha:¬ a=0)(h:xs.headD 0=a):needs a a xs=some 1:=by
 cases xs with
 |nil=>exact absurd h.symm ha
 |cons c t=>
  have h':c=a:=h
  subst h'
  rw [needs_cons,if_pos ⟨Int.le_refl _,Int.le_refl _⟩]
theorem needs_nohead{a:Int}{xs:List Int}(h:¬ xs.headD 0=a):needs a a xs=none:=by
 cases xs with
 |nil=>rfl
 |cons c t=>
  have h':¬ c=a:=h
  rw [needs_cons,if_neg (fun hc=>h' (Int.le_antisymm hc.2 hc.1))]
theorem scalar47_yes(g m:Nat)(s:ByteArray)(p:Nat)(tw lo op:Bool)(k0:Int)(tx:ByteArray)(ns ks:Value)(w:World)(hs:s.size≤140737488355328)(h:R w g s p tw lo 0 op)(hN:Nd w m k0 tx ns ks)(hne:m≠g)(j:Nat)(hj:scalarO lo ((bytes s).drop p)=some j):
  Calls Tryz.prog 47 #[.pointer (some ⟨g,0,none⟩),.pointer (some ⟨m,0,none⟩)] w fun e w'=>e=.returned (.bool true)∧R w' g s (p+j) tw lo 0 op∧(∃ k' tx',Nd w' m k' tx' ns ks)∧Two g m w w':=by
 have wk:∀ {k':Int} {q:Nat},Calls Tryz.prog 47 #[.pointer (some ⟨g,0,none⟩),.pointer (some ⟨m,0,none⟩)] w (fun e w'=>e=.returned (.bool true)∧R w' g s q tw lo 0 op∧(∃ tx',Nd w' m k' tx' ns ks)∧Two g m w w')→q=p+j→
   Calls Tryz.prog 47 #[.pointer (some ⟨g,0,none⟩),.pointer (some ⟨m,0,none⟩)] w fun e w'=>e=.returned (.bool true)∧R w' g s (p+j) tw lo 0 op∧(∃ k' tx',Nd w' m k' tx' ns ks)∧Two g m w w':=by
  intro k' q hk hq
  subst hq
  exact hk.mono fun e w' ⟨h1,h2,⟨tx',h3⟩,h4⟩=>⟨h1,h2,⟨k',tx',h3⟩,h4⟩
 unfold scalarO at hj
 split at hj
 ·exact wk (scalar_word g m s p tw lo op k0 tx ns ks w hs h hN hne ‹_› j hj) rfl
 split at hj
 ·exact wk (scalar_true g m s p tw lo op k0 tx ns ks w hs h hN hne ‹_› j hj) rfl
 split at hj
 ·exact wk (scalar_false g m s p tw lo op k0 tx ns ks w hs h hN hne ‹_› j hj) rfl
 split at hj
 ·cases e:quotedO lo ((bytes s).drop p) with
  |none=>rw [e] at hj; cases hj
  |some i=>
   rw [e] at hj
   obtain rfl:i+1=j:=Option.some.inj hj
   have he:=quotedO_end e
   rw [List.drop_drop] at he
   exact wk (scalar_quoted g m s p tw lo op k0 tx ns ks w hs h hN hne ‹_› i e (needs_head (by decide) he)) (by omega)
 split at hj
 ·rename_i hd
  generalize hc:((bytes s).drop p).headD 0=c at hd
  obtain rfl|rfl|rfl|rfl|rfl|rfl|rfl|rfl|rfl|rfl|rfl:c=45∨c=48∨c=49∨c=50∨c=51∨c=52∨c=53∨c=54∨c=55∨c=56∨c=57:=by omega
  ·exact wk (scalar_num45 g m s p tw lo op k0 tx ns ks w hs h hN hne hc j hj) rfl
  ·exact wk (scalar_num48 g m s p tw lo op k0 tx ns ks w hs h hN hne hc j hj) rfl
  ·exact wk (scalar_num49 g m s p tw lo op k0 tx ns ks w hs h hN hne hc j hj) rfl
  ·exact wk (scalar_num50 g m s p tw lo op k0 tx ns ks w hs h hN hne hc j hj) rfl
  ·exact wk (scalar_num51 g m s p tw lo op k0 tx ns ks w hs h hN hne hc j hj) rfl
  ·exact wk (scalar_num52 g m s p tw lo op k0 tx ns ks w hs h hN hne hc j hj) rfl
  ·exact wk (scalar_num53 g m s p tw lo op k0 tx ns ks w hs h hN hne hc j hj) rfl
  ·exact wk (scalar_num54 g m s p tw lo op k0 tx ns ks w hs h hN hne hc j hj) rfl
  ·exact wk (scalar_num55 g m s p tw lo op k0 tx ns ks w hs h hN hne hc j hj) rfl
  ·exact wk (scalar_num56 g m s p tw lo op k0 tx ns ks w hs h hN hne hc j hj) rfl
  ·exact wk (scalar_num57 g m s p tw lo op k0 tx ns ks w hs h hN hne hc j hj) rfl
 ·cases hj
theorem scalar47_no(g m:Nat)(s:ByteArray)(p:Nat)(tw lo op:Bool)(k0:Int)(tx:ByteArray)(ns ks:Value)(w:World)(hs:s.size≤140737488355328)(h:R w g s p tw lo 0 op)(hN:Nd w m k0 tx ns ks)(hne:m≠g)(hj:scalarO lo ((bytes s).drop p)=none):
  Calls Tryz.prog 47 #[.pointer (some ⟨g,0,none⟩),.pointer (some ⟨m,0,none⟩)] w fun e w'=>e=.returned (.bool false)∧Failed g s tw lo op p w'∧(∃ k' tx',Nd w' m k' tx' ns ks)∧Two g m w w':=by
 have wk:∀ {k':Int},Calls Tryz.prog 47 #[.pointer (some ⟨g,0,none⟩),.pointer (some ⟨m,0,none⟩)] w (fun e w'=>e=.returned (.bool false)∧Failed g s tw lo op p w'∧(∃ tx',Nd w' m k' tx' ns ks)∧Two g m w w')→
   Calls Tryz.prog 47 #[.pointer (some ⟨g,0,none⟩),.pointer (some ⟨m,0,none⟩)] w fun e w'=>e=.returned (.bool false)∧Failed g s tw lo op p w'∧(∃ k' tx',Nd w' m k' tx' ns ks)∧Two g m w w':=by
  intro k' hk
  exact hk.mono fun e w' ⟨h1,h2,⟨tx',h3⟩,h4⟩=>⟨h1,h2,⟨k',tx',h3⟩,h4⟩
 unfold scalarO at hj
 split at hj
 ·exact wk (scalar_word_no g m s p tw lo op k0 tx ns ks w hs h hN hne ‹_› hj)
 rename_i n0
 split at hj
 ·exact wk (scalar_true_no g m s p tw lo op k0 tx ns ks w hs h hN hne ‹_› hj)
 rename_i n1
 split at hj
 ·exact wk (scalar_false_no g m s p tw lo op k0 tx ns ks w hs h hN hne ‹_› hj)
 rename_i n2
 split at hj
 ·cases e:quotedO lo ((bytes s).drop p) with
  |none=>exact wk (scalar_quoted_no g m s p tw lo op k0 tx ns ks w hs h hN hne ‹_› e)
  |some i=>rw [e] at hj; cases hj
 rename_i n3
 split at hj
 ·rename_i hd
  generalize hc:((bytes s).drop p).headD 0=c at hd
  obtain rfl|rfl|rfl|rfl|rfl|rfl|rfl|rfl|rfl|rfl|rfl:c=45∨c=48∨c=49∨c=50∨c=51∨c=52∨c=53∨c=54∨c=55∨c=56∨c=57:=by omega
  ·exact wk (scalar_num45_no g m s p tw lo op k0 tx ns ks w hs h hN hne hc hj)
  ·exact wk (scalar_num48_no g m s p tw lo op k0 tx ns ks w hs h hN hne hc hj)
  ·exact wk (scalar_num49_no g m s p tw lo op k0 tx ns ks w hs h hN hne hc hj)
  ·exact wk (scalar_num50_no g m s p tw lo op k0 tx ns ks w hs h hN hne hc hj)
  ·exact wk (scalar_num51_no g m s p tw lo op k0 tx ns ks w hs h hN hne hc hj)
  ·exact wk (scalar_num52_no g m s p tw lo op k0 tx ns ks w hs h hN hne hc hj)
  ·exact wk (scalar_num53_no g m s p tw lo op k0 tx ns ks w hs h hN hne hc hj)
  ·exact wk (scalar_num54_no g m s p tw lo op k0 tx ns ks w hs h hN hne hc hj)
  ·exact wk (scalar_num55_no g m s p tw lo op k0 tx ns ks w hs h hN hne hc hj)
  ·exact wk (scalar_num56_no g m s p tw lo op k0 tx ns ks w hs h hN hne hc hj)
  ·exact wk (scalar_num57_no g m s p tw lo op k0 tx ns ks w hs h hN hne hc hj)
 ·rename_i n4
  exact wk (scalar_else g m s p tw lo op k0 tx ns ks w h hN hne _ rfl n0 n1 n2 n3 (by omega) (by omega) (by omega) (by omega) (by omega) (by omega) (by omega) (by omega) (by omega) (by omega) (by omega))
inductive Mode where
 |val
 |elems
 |mems (names:List (List Int))
def up(k:Nat)(o:Bool)(r:Option Nat × Bool):Option Nat × Bool:=(r.1.map (·+k),o || r.2)
def nameO(chk:List (List Int)→Bool × Bool)(lo:Bool)(names:List (List Int))(xs:List Int):Option Nat × Bool:=
 match quotedO lo xs with
 |none=>(none,false)
 |some j=>
  if (chk (names++[xs.take (j+1)])).1 then (none,(chk (names++[xs.take (j+1)])).2)
  else if ((xs.drop (j+1)).drop (ws (xs.drop (j+1)))).headD 0=58 then (some (j+1+ws (xs.drop (j+1))+1),(chk (names++[xs.take (j+1)])).2)
  else (none,(chk (names++[xs.take (j+1)])).2)
def namesO(lo:Bool)(names:List (List Int))(xs:List Int):List (List Int):=
 match quotedO lo xs with
 |none=>names
 |some j=>names++[xs.take (j+1)]
def run(chk:List (List Int)→Bool × Bool)(lo:Bool):Nat→Mode→List Int→Option Nat × Bool
 |0,_,_=>(none,false)
 |n+1,.val,xs=>
  if (xs.drop (ws xs)).headD 0=123 then
   up (ws xs+1) false
    (if ((xs.drop (ws xs+1)).drop (ws (xs.drop (ws xs+1)))).headD 0=125 then (some (ws (xs.drop (ws xs+1))+1),false)
    else up (ws (xs.drop (ws xs+1))) false (run chk lo n (.mems []) ((xs.drop (ws xs+1)).drop (ws (xs.drop (ws xs+1))))))
  else if (xs.drop (ws xs)).headD 0=91 then
   up (ws xs+1) false
    (if ((xs.drop (ws xs+1)).drop (ws (xs.drop (ws xs+1)))).headD 0=93 then (some (ws (xs.drop (ws xs+1))+1),false)
    else up (ws (xs.drop (ws xs+1))) false (run chk lo n .elems ((xs.drop (ws xs+1)).drop (ws (xs.drop (ws xs+1))))))
  else ((scalarO lo (xs.drop (ws xs))).map (·+ws xs),false)
 |n+1,.elems,xs=>
  match run chk lo n .val xs with
  |(none,o)=>(none,o)
  |(some k,o)=>
   if ((xs.drop k).drop (ws (xs.drop k))).headD 0=93 then (some (k+ws (xs.drop k)+1),o)
   else if ((xs.drop k).drop (ws (xs.drop k))).headD 0=44 then up (k+ws (xs.drop k)+1) o (run chk lo n .elems (xs.drop (k+ws (xs.drop k)+1)))
   else (none,o)
 |n+1,.mems names,xs=>
  match nameO chk lo names xs with
  |(none,o)=>(none,o)
  |(some j,o1)=>
   match run chk lo n .val (xs.drop j) with
   |(none,o)=>(none,o1 || o)
   |(some k,o)=>
    if ((xs.drop (j+k)).drop (ws (xs.drop (j+k)))).headD 0=125 then (some (j+k+ws (xs.drop (j+k))+1),o1 || o)
    else if ((xs.drop (j+k)).drop (ws (xs.drop (j+k)))).headD 0=44 then
     up (j+k+ws (xs.drop (j+k))+1+ws (xs.drop (j+k+ws (xs.drop (j+k))+1))) (o1 || o)
      (run chk lo n (.mems (namesO lo names xs)) ((xs.drop (j+k+ws (xs.drop (j+k))+1)).drop (ws (xs.drop (j+k+ws (xs.drop (j+k))+1)))))
    else (none,o1 || o)
def objO(chk:List (List Int)→Bool × Bool)(lo:Bool)(n:Nat)(xs:List Int):Option Nat × Bool:=
 if (xs.drop (ws xs)).headD 0=125 then (some (ws xs+1),false) else up (ws xs) false (run chk lo n (.mems []) (xs.drop (ws xs)))
def arrO(chk:List (List Int)→Bool × Bool)(lo:Bool)(n:Nat)(xs:List Int):Option Nat × Bool:=
 if (xs.drop (ws xs)).headD 0=93 then (some (ws xs+1),false) else up (ws xs) false (run chk lo n .elems (xs.drop (ws xs)))
theorem run_obj{chk:List (List Int)→Bool × Bool}{lo:Bool}{n:Nat}{xs:List Int}(h:(xs.drop (ws xs)).headD 0=123):run chk lo (n+1) .val xs=up (ws xs+1) false (objO chk lo n (xs.drop (ws xs+1))):=by
 show (if _ then _ else _)=_
 rw [if_pos h]
 rfl
theorem run_arr{chk:List (List Int)→Bool × Bool}{lo:Bool}{n:Nat}{xs:List Int}(h:(xs.drop (ws xs)).headD 0=91):run chk lo (n+1) .val xs=up (ws xs+1) false (arrO chk lo n (xs.drop (ws xs+1))):=by
 show (if _ then _ else if _ then _ else _)=_
 rw [if_neg (by rw [h]; decide),if_pos h]
 rfl
theorem run_scalar{chk:List (List Int)→Bool × Bool}{lo:Bool}{n:Nat}{xs:List Int}(h1:¬ (xs.drop (ws xs)).headD 0=123)(h2:¬ (xs.drop (ws xs)).headD 0=91):run chk lo (n+1) .val xs=((scalarO lo (xs.drop (ws xs))).map (·+ws xs),false):=by
 show (if _ then _ else if _ then _ else _)=_
 rw [if_neg h1,if_neg h2]
end Go.Proofs.YtknaalohaagcdaaGreatDoor.Own
