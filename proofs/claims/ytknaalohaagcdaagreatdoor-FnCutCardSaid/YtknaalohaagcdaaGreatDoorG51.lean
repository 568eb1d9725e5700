import Derived.Test.YtknaalohaagcdaaGreatDoorG50
import Derived.Test.YtknaalohaagcdaaGreatDoorCards
import Derived.Test.YtknaalohaagcdaaGreatDoorTie
import Derived.OpenVars
import Derived.OpenShut
import Derived.SevenTiedAt
import Derived.Stop.Joined
import Derived.Deep.DeepHandedRow
import Derived.Lib.SmallJoins
import Derived.ChangeMaps5
set_option maxHeartbeats 400000000
set_option maxRecDepth 100000
namespace Go.Proofs.YtknaalohaagcdaaGreatDoor.Own
open Go.RowKit JG
theorem ws_eq_len:∀ {xs:List Int},ws xs=xs.length↔∀ c∈xs,isWs c=true
 |[]=>by simp [ws]
 |c::t=>by
  by_cases hc:isWs c=true
  ·have e:ws (c::t)=ws t+1:=by show (if isWs c then _ else _)=_; rw [if_pos hc]
   rw [e]
   simp [hc,ws_eq_len (xs:=t)]
  ·have e:ws (c::t)=0:=by show (if isWs c then _ else _)=_; rw [if_neg hc]
   rw [e]
   constructor
   ·intro h; simp at h
   ·intro h; exact absurd (h c (by simp)) hc
theorem scalarO_loose{xs:List Int}{j:Nat}(h:scalarO false xs=some j):scalarO true xs=some j:=by
 unfold scalarO at h ⊢
 split at h
 ·rename_i hc; rw [if_pos hc]; exact h
 rename_i h1
 rw [if_neg h1]
 split at h
 ·rename_i hc; rw [if_pos hc]; exact h
 rename_i h2
 rw [if_neg h2]
 split at h
 ·rename_i hc; rw [if_pos hc]; exact h
 rename_i h3
 rw [if_neg h3]
 split at h
 ·rename_i hc
  rw [if_pos hc]
  cases e:quotedO false xs with
  |none=>rw [e] at h; cases h
  |some i=>rw [e] at h; rw [quotedO_loose e]; exact h
 ·rename_i hc; rw [if_neg hc]; exact h
theorem nameO_loose{chk:List (List Int)→Bool × Bool}{names names':List (List Int)}{xs:List Int}{k:Nat}{o:Bool}(h:nameO chk false names xs=(some k,o)):nameO noChk true names' xs=(some k,false):=by
 unfold nameO at h ⊢
 cases hq:quotedO false xs with
 |none=>rw [hq] at h; cases (Prod.mk.inj h).1
 |some j=>
  rw [hq] at h
  rw [quotedO_loose hq]
  simp only at h ⊢
  split at h
  ·cases (Prod.mk.inj h).1
  ·rw [if_neg (by unfold noChk; simp)]
   split at h
   ·rename_i hc
    rw [if_pos hc]
    rw [(Prod.mk.inj h).1]
    rfl
   ·cases (Prod.mk.inj h).1
theorem run_loose{chk:List (List Int)→Bool × Bool}:∀ (n:Nat) (m m':Mode) (xs:List Int) (k:Nat) (o:Bool),(m=m'∨∃ a b,m=.mems a∧m'=.mems b)→run chk false n m xs=(some k,o)→run noChk true n m' xs=(some k,false)
 |0,_,_,_,_,_,_,h=>by cases (Prod.mk.inj h).1
 |n+1,.val,m',xs,k,o,hm,h=>by
  obtain rfl:.val=m':=by rcases hm with rfl|⟨_,_,h,_⟩; rfl; cases h
  by_cases c1:(xs.drop (ws xs)).headD 0=123
  ·rw [run_obj c1] at h ⊢
   obtain ⟨j,hj,rfl,rfl⟩:=up_some h
   have:objO noChk true n (xs.drop (ws xs+1))=(some j,false):=by
    unfold objO at hj ⊢
    split at hj
    ·rw [if_pos ‹_›]
     rw [show ws (xs.drop (ws xs+1))+1=j from Option.some.inj (Prod.mk.inj hj).1]
    ·rw [if_neg ‹_›]
     obtain ⟨i,hi,rfl,_⟩:=up_some hj
     rw [run_loose n _ (.mems []) _ _ _ (.inl rfl) hi]
     rfl
   rw [this]
   rfl
  by_cases c2:(xs.drop (ws xs)).headD 0=91
  ·rw [run_arr c2] at h ⊢
   obtain ⟨j,hj,rfl,rfl⟩:=up_some h
   have:arrO noChk true n (xs.drop (ws xs+1))=(some j,false):=by
    unfold arrO at hj ⊢
    split at hj
    ·rw [if_pos ‹_›]
     rw [show ws (xs.drop (ws xs+1))+1=j from Option.some.inj (Prod.mk.inj hj).1]
    ·rw [if_neg ‹_›]
     obtain ⟨i,hi,rfl,_⟩:=up_some hj
     rw [run_loose n _ .elems _ _ _ (.inl rfl) hi]
     rfl
   rw [this]
   rfl
  rw [run_scalar c1 c2] at h ⊢
  cases hs:scalarO false (xs.drop (ws xs)) with
  |none=>rw [hs] at h; cases (Prod.mk.inj h).1
  |some i=>
   rw [hs] at h
   rw [scalarO_loose hs]
   rw [← (Prod.mk.inj h).1]
 |n+1,.elems,m',xs,k,o,hm,h=>by
  obtain rfl:.elems=m':=by rcases hm with rfl|⟨_,_,h,_⟩; rfl; cases h
  cases hv:run chk false n .val xs with
  |mk a o1=>
  cases a with
  |none=>rw [run_elems_no hv] at h; cases (Prod.mk.inj h).1
  |some j=>
   have e:=run_loose n .val .val xs j o1 (.inl rfl) hv
   by_cases c1:((xs.drop j).drop (ws (xs.drop j))).headD 0=93
   ·rw [run_elems_end hv c1] at h
    rw [run_elems_end e c1,← (Prod.mk.inj h).1]
   by_cases c2:((xs.drop j).drop (ws (xs.drop j))).headD 0=44
   ·rw [run_elems_more hv c2] at h
    obtain ⟨i,hi,rfl,rfl⟩:=up_some h
    rw [run_elems_more e c2,run_loose n _ .elems _ _ _ (.inl rfl) hi]
    rfl
   ·rw [run_elems_else hv c1 c2] at h
    cases (Prod.mk.inj h).1
 |n+1,.mems a,m',xs,k,o,hm,h=>by
  obtain ⟨b,rfl⟩:∃ b,m'=.mems b:=by
   rcases hm with rfl|⟨_,b,_,h⟩
   ·exact ⟨a,rfl⟩
   ·exact ⟨b,h⟩
  cases hn:nameO chk false a xs with
  |mk q o1=>
  cases q with
  |none=>rw [run_mems_no hn] at h; cases (Prod.mk.inj h).1
  |some j=>
   have en:=nameO_loose (names':=b) hn
   cases hv:run chk false n .val (xs.drop j) with
   |mk q o2=>
   cases q with
   |none=>rw [run_mems_val hn hv] at h; cases (Prod.mk.inj h).1
   |some i=>
    have e:=run_loose n .val .val _ i o2 (.inl rfl) hv
    by_cases c1:((xs.drop (j+i)).drop (ws (xs.drop (j+i)))).headD 0=125
    ·rw [run_mems_end hn hv c1] at h
     rw [run_mems_end en e c1,← (Prod.mk.inj h).1]
     rfl
    by_cases c2:((xs.drop (j+i)).drop (ws (xs.drop (j+i)))).headD 0=44
    ·rw [run_mems_more hn hv c2] at h
     obtain ⟨r,hr,rfl,rfl⟩:=up_some h
     rw [run_mems_more en e c2,run_loose n _ (.mems (namesO true b xs)) _ _ _ (.inr ⟨_,_,rfl,rfl⟩) hr]
     rfl
    ·rw [run_mems_else hn hv c1 c2] at h
     cases (Prod.mk.inj h).1
theorem cut_no{chk:List (List Int)→Bool × Bool}{n:Nat}{xs:List Int}{k m:Nat}{o:Bool}(h:run chk false n .val xs=(some k,o))(hw:isWs (xs.headD 0)=false)(hn:¬ numHead (xs.headD 0))(hm:m<k):tkn noChk true n (xs.take m)=false:=by
 unfold tkn
 cases e:run noChk true n .val (xs.take m) with
 |mk q b=>
 cases q with
 |none=>rfl
 |some j=>
  exfalso
  have ⟨h1,h2⟩:=run_take e
  obtain ⟨g1,_,pre,rest,g2,g3,g4⟩:=run_loc n .val _ j b e
  have hk:=(run_take h).2
  rw [List.length_take] at h2
  have hx:xs=pre++(rest++xs.drop m):=by rw [← List.append_assoc,← g2,List.take_append_drop]
  have hh:(xs.take m).headD 0=xs.headD 0:=by
   cases xs with
   |nil=>simp
   |cons c t=>
    obtain ⟨i,rfl⟩:∃ i,m=i+1:=⟨m-1,by omega⟩
    rfl
  have hws:ws (xs.take m)=0:=by
   cases hc:xs.take m with
   |nil=>rfl
   |cons c t=>
    rw [hc] at hh
    show (if isWs c then _ else 0)=0
    rw [if_neg (by rw [show c=xs.headD 0 from hh,hw]; simp)]
  have e2:=g4 (rest++xs.drop m) (fun hnum=>by
   rw [hws,List.drop_zero,hh] at hnum
   exact absurd hnum hn)
  rw [← hx,run_loose n .val .val xs k o (.inl rfl) h] at e2
  have:=Option.some.inj (Prod.mk.inj e2).1
  omega
theorem tkn_said{tw lo:Bool}{n:Nat}{xs:List Int}(h:(run (chkT tw) lo n .val xs).2=false):tkn (chkT tw) lo n xs=tkn (chkD tw) lo n xs:=by
 cases tw with
 |true=>rfl
 |false=>
  have e:run (chkT false) lo n .val xs=run (chkD false) lo n .val xs:=run_agree (fun ns hx=>chk_agree hx) n .val xs h
  unfold tkn
  rw [e]
def LawP(w:World)(e:Ending)(w':World):Prop:=e=.returned (.bool true)∧Below w.heap.size w w'
theorem Kp.below{w w':World}(h:Kp w.heap.size w w'):Below w.heap.size w w':=⟨h.os,h.tape,h.output,h.size,fun i hi=>h.keep i hi⟩
theorem LF.kp{A:List Addr}{aU aI aE aM:Addr}{w w':World}(h:LF A aU aI aE aM w)(hk:Kp w.heap.size w w'):LF A aU aI aE aM w':=by
 have h18:=h.gl.size
 have lo:∀ i,i<18→w'.heap[i]? = w.heap[i]? := fun i hi=>hk.keep i (by omega)
 exact ⟨h.gl.kept hk.size lo,h.g2.kept lo,h.eb.kept (fun a ha=>by
  obtain ⟨c,t,e⟩:=h.eb a ha
  exact hk.keep a.block (Array.getElem?_eq_some_iff.1 e).1),(World.cell?_of_block (w:=w) (a:=⟨0,0,none⟩) (lo 0 (by decide))).trans h.cE,(World.cell?_of_block (w:=w) (a:=⟨5,0,none⟩) (lo 5 (by decide))).trans h.cM,h.hU,h.hI,h.hE,h.hM,h.UI,h.UE,h.UM,h.IE,h.IM,h.ME⟩
theorem gb_drewN0(w:World)(n:Nat):w.grownBy (w.drewN n) none:=gb_drewN (World.grownBy.refl w none) n
theorem every13(s u:ByteArray)(hs:s.size≤4294967296)(hu:u.size≤4294967296)(w:World):Calls Tryz.prog 13 #[.string s,.string u] w fun e w'=>∃ b,e=.returned (.bool b)∧(b=true→∀ (i:Nat) (h:i<s.size),∃ (k:Nat) (hk:k<u.size),s[i]=u[k])∧w.grownBy w' none:=by
 go_enter Tryz.func13,Tryz.ntmps13
 go_wp2_with fail
 go_loopg [10] s.size (fun gk v10 wr=>∃ i:Nat,v10=.int .i64 i∧i≤s.size∧Hid (∀ (j:Nat) (h:j<s.size),j<i→∃ (k:Nat) (hk:k<u.size),s[j]=u[k])∧Hid (gk=s.size-i)∧Hid (w.grownBy wr none))
 case atStart=>exact ⟨0,rfl,by omega,Hq (fun i _ h=>by omega),Hq rfl,Hq (World.grownBy.refl w none)⟩
 case round=>
  obtain ⟨i,rfl,hi,HB,HG,HW⟩:=hrel
  have i0:(0:Int)≤(i:Int):=Int.natCast_nonneg _
  by_cases his:i<s.size
  ·have i1:(i:Int)<(s.size:Int):=by omega
   go_wp2_with fail
   go_loopg [6,15] u.size (fun gk v6 v15 wr=>∃ (f:Bool) (k:Nat),v6=.bool f∧v15=.int .i64 k∧k≤u.size∧Hid (f=true→∃ (j:Nat) (hj:j<u.size),s[i]=u[j])∧Hid (gk=u.size-k)∧Hid (w.grownBy wr none))
   case atStart=>exact ⟨false,0,rfl,rfl,by omega,Hq (fun h=>by cases h),Hq rfl,HW⟩
   case round=>
    obtain ⟨f,k,rfl,rfl,hk,HF,HG2,HW2⟩:=hrel
    have k0:(0:Int)≤(k:Int):=Int.natCast_nonneg _
    by_cases hku:k<u.size
    ·have k1:(k:Int)<(u.size:Int):=by omega
     cases f with
     |true=>
      go_wp2_with fail
      go_quiet (fail)
      go_wp2_with fail
      go_roundg (u.size-(k+1))
      case measure=>have:=HG2.out; omega
      case rel=>exact ⟨true,k+1,rfl,by simp,by omega,Hq (fun _=>HF.out (by trivial)),Hq rfl,Hq (HW2.out.trans (gb_drewN0 _ _))⟩
     |false=>
      by_cases hb:s[i]=u[k]
      ·have t:((s[i].toNat:Int)==(u[k].toNat:Int))=true:=by rw [hb]; simp
       have HX:=Hq hb
       clear hb
       go_wp2_with fail
       go_quiet (fail)
       go_wp2_with fail
       go_roundg (u.size-(k+1))
       case measure=>have:=HG2.out; omega
       case rel=>exact ⟨true,k+1,rfl,by simp,by omega,Hq (fun _=>⟨k,hku,HX.out⟩),Hq rfl,Hq (HW2.out.trans (gb_drewN0 _ _))⟩
      ·have t:((s[i].toNat:Int)==(u[k].toNat:Int))=false:=by simp; intro h; exact hb (UInt8.toNat_inj.1 (by omega))
       clear hb
       go_wp2_with fail
       go_quiet (fail)
       go_wp2_with fail
       go_roundg (u.size-(k+1))
       case measure=>have:=HG2.out; omega
       case rel=>exact ⟨false,k+1,rfl,by simp,by omega,Hq (fun h=>by cases h),Hq rfl,Hq (HW2.out.trans (gb_drewN0 _ _))⟩
    ·cases f with
     |true=>
      go_wp2_with fail
      go_roundg (s.size-(i+1))
      case measure=>have:=HG.out; omega
      case rel=>exact ⟨i+1,by simp,by omega,Hq (fun j h hj=>if e:j=i then by subst e; exact HF.out (by trivial) else HB.out j h (by omega)),Hq rfl,HW2⟩
     |false=>
      go_wp2_with fail
      go_ret
      exact ⟨_,rfl,fun h=>(by cases h),HW2.out⟩
  ·go_wp2_with fail
   go_ret
   exact ⟨_,rfl,fun _ j h=>HB.out j h (by omega),HW.out⟩
theorem trailing14(s:ByteArray)(hs:s.size≤4294967296)(w:World):Calls Tryz.prog 14 #[.string s] w fun e w'=>∃ (n:Nat) (r:ByteArray),e=.returned (.string r)∧n≤s.size∧r.size=s.size-n∧(∀ (i:Nat) (h:i<s.size),n≤i→isWs (s[i].toNat:Int)=true)∧(∀ h:n-1<s.size,1≤n→isWs (s[n-1].toNat:Int)=false)∧w=w':=by
 go_enter Tryz.func14,Tryz.ntmps14
 go_wp2_with fail
 go_loopg [3] s.size (fun gk v3 wr=>∃ n:Nat,v3=.int .i64 n∧n≤s.size∧Hid (∀ (i:Nat) (h:i<s.size),n≤i→isWs (s[i].toNat:Int)=true)∧Hid (gk=n)∧w=wr)
 case atStart=>exact ⟨s.size,rfl,by omega,Hq (fun i h h2=>by omega),Hq rfl,rfl⟩
 case round=>
  obtain ⟨n,rfl,hn,HB,HG,rfl⟩:=hrel
  have n0:(0:Int)≤(n:Int):=Int.natCast_nonneg _
  by_cases h0:0<n
  ·obtain ⟨m,rfl⟩:∃ m,n=m+1:=⟨n-1,by omega⟩
   have hm:m<s.size:=by omega
   go_wp2_with fail
   refine (isSpace22 _ _).mono ?_
   rintro e w' ⟨rfl,rfl⟩
   cases hb:isWs (s[m].toNat:Int) with
   |false=>
    have HX:=Hq hb
    clear hb
    go_wp2_with fail
    go_ret
    exact ⟨m+1,_,rfl,by omega,by simp [ByteArray.size_extract],HB.out,fun _ _=>HX.out,rfl⟩
   |true=>
    have HX:=Hq hb
    clear hb
    go_wp2_with fail
    go_roundg m
    case measure=>have:=HG.out; omega
    case rel=>exact ⟨m,by simp,by omega,Hq (fun i h hi=>if e:i=m then by subst e; exact HX.out else HB.out i h (by omega)),Hq rfl,rfl⟩
  ·obtain rfl:n=0:=by omega
   go_wp2_with fail
   go_ret
   exact ⟨0,_,rfl,by omega,by simp,HB.out,fun _ h=>by omega,rfl⟩
theorem info23b:(Tryz.prog.info? 23).map (·.size)=some 15:=by kernel_rfl
theorem allowed15(w:World):Calls Tryz.prog 15 #[.bool true,.bool true] w fun e w'=>e=.returned (.agg #[.int .i64 1,.int .i64 1,.int .i64 0,.int .i64 0,.int .i64 0,.int .i64 0,.int .i64 0,.int .i64 0,.int .i64 0,.int .i64 0,.int .i64 0,.bool false,.string ⟨#[]⟩,.bool false,.string ⟨#[]⟩])∧w.grownBy w' none:=by
 go_enter Tryz.func15,Tryz.ntmps15
 go_wp2_with fail
 exact bodyPost_ret (results_cell_row Tryz.results15 _ _ w.heap.size 23 #[.int .i64 1,.int .i64 1,.int .i64 0,.int .i64 0,.int .i64 0,.int .i64 0,.int .i64 0,.int .i64 0,.int .i64 0,.int .i64 0,.int .i64 0,.bool false,.string ⟨#[]⟩,.bool false,.string ⟨#[]⟩] (0,0) _ rfl (heap_alloc2_old w _ _) Tryz.underlying23 rfl info23b) rfl ⟨rfl,(World.grownBy_alloc w _ none).trans (World.grownBy_alloc _ _ none)⟩
theorem piece_run{c:Int}{t:List Int}{k:Nat}(h1:¬ c<128)(hr:runeO (c::t)=some k):(pieceD (c::t)).2=(k,true):=by
 have hw:widthO (c::t)=k:=by unfold widthO; rw [if_neg (by exact h1),hr]; rfl
 have:=runeO_pos hr
 unfold pieceD
 rw [if_neg (show ¬ (c::t).headD 0=92 from (show ¬ c=92 by omega)),hw,if_neg (by omega)]
theorem stp_piece{c:Int}{t:List Int}{q:Nat}(h:stp false (c::t)=some q):(pieceD (c::t)).2=(q,true):=by
 by_cases h92:c=92
 ·subst h92
  cases t with
  |nil=>
   have e:stp false [92]=(escO false []).map (·+1):=rfl
   rw [e] at h
   unfold escO at h
   rw [if_neg (by unfold isSimple; simp),if_neg (by simp)] at h
   cases h
  |cons d u=>
   by_cases hd:d=117
   ·subst hd
    have h4:4≤u.length:=by
     rcases Nat.lt_or_ge u.length 4 with hh|hh
     ·rw [stp_u_none (unitH_short hh)] at h; cases h
     ·exact hh
    have h0:0≤hex4 u:=by
     rcases Int.lt_or_le (hex4 u) 0 with hh|hh
     ·rw [stp_u_none (unitH_bad h4 hh)] at h; cases h
     ·exact hh
    by_cases hr:hex4 u<55296∨57343<hex4 u
    ·rw [stp_u_six h0 (.inr hr)] at h
     cases h
     rw [piece_u hr]
    ·obtain ⟨l1,t2,l2,l3,l4⟩:hex4 u<56320∧∃ t2,u.drop 4=92::117::t2∧56320≤hex4 t2∧hex4 t2<57344:=by
      refine Classical.byContradiction fun hn => ?_
      rw [stp_u_lone (by omega) (by omega) hn] at h
      cases h
     rw [stp_u_twelve (by omega) l1 l2 l3 l4] at h
     cases h
     have hu:unitAt (u.drop 4)=hex4 t2:=by
      rw [l2]
      show (if (92:Int)=92∧(117:Int)=117 then hex4 t2 else -1)=_
      rw [if_pos ⟨rfl,rfl⟩]
     rw [piece_half hr,if_pos ⟨l1,by omega,by omega⟩]
   ·have e:stp false (92::d::u)=(escO false (d::u)).map (·+1):=rfl
    rw [e] at h
    unfold escO at h
    by_cases hs:isSimple d
    ·rw [if_pos (show isSimple ((d::u).headD 0) from hs)] at h
     cases h
     obtain ⟨x,hx⟩:∃ x,(d=98∧x=8)∨(d=102∧x=12)∨(d=110∧x=10)∨(d=114∧x=13)∨(d=116∧x=9)∨((d=34∨d=92∨d=47)∧x=d):=by
      unfold isSimple at hs
      rcases hs with rfl|rfl|rfl|rfl|rfl|rfl|rfl|rfl
      ·exact ⟨34,by simp⟩
      ·exact ⟨92,by simp⟩
      ·exact ⟨47,by simp⟩
      ·exact ⟨8,by simp⟩
      ·exact ⟨12,by simp⟩
      ·exact ⟨10,by simp⟩
      ·exact ⟨13,by simp⟩
      ·exact ⟨9,by simp⟩
     rw [piece_esc hx]
    ·rw [if_neg (show ¬ isSimple ((d::u).headD 0) from hs),if_neg (show ¬ (d::u).headD 0=117 from hd)] at h
     cases h
 ·have e:stp false (c::t)=if c<32 then none else if c<128∨false=true then some 1 else runeO (c::t):=if_neg h92
  rw [e] at h
  by_cases h32:c<32
  ·rw [if_pos h32] at h; cases h
  rw [if_neg h32] at h
  by_cases h128:c<128
  ·rw [if_pos (.inl h128)] at h
   cases h
   rw [piece_one h128 h92]
  ·rw [if_neg (fun hh=>hh.elim h128 (fun x=>by cases x))] at h
   exact piece_run h128 h
theorem dec_clean:∀ (m:Nat) (pre:List Int),pre.length≤m→sq false 0 (pre++[34])=some pre.length→(dec 0 pre).2=true
 |_,[],_,_=>rfl
 |0,_::_,hm,_=>by simp at hm
 |m+1,c::t,hm,h=>by
  by_cases hc:c=34
  ·have h':(if c=34 then some 0 else _)=some (t.length+1):=h
   rw [if_pos hc] at h'
   cases h'
  ·rw [List.cons_append,sq_cons hc] at h
   cases es:stp false (c::(t++[34])) with
   |none=>rw [es] at h; cases h
   |some q=>
    rw [es] at h
    have h':(sq false (q-1) (t++[34])).map (·+1)=some (t.length+1):=h
    rw [sq_skip,map_add] at h'
    obtain ⟨g1,p,r,g2,g3,g4⟩:=stp_loc es
    have hr:(t++[34]).drop (q-1)=r:=by
     rw [show List.drop (q-1) (t++[34])=List.drop q (c::(t++[34])) by obtain ⟨k,rfl⟩:∃ k,q=k+1:=⟨q-1,by omega⟩; simp,g2,drop_app g3]
    cases e:sq false 0 ((t++[34]).drop (q-1)) with
    |none=>rw [e] at h'; cases h'
    |some i=>
     rw [e] at h'
     have hi:i+(q-1+1)=t.length+1:=Option.some.inj h'
     have hle:q≤t.length+1:=by omega
     have hd:(t++[34]).drop (q-1)=(c::t).drop q++[34]:=by
      obtain ⟨k,rfl⟩:∃ k,q=k+1:=⟨q-1,by omega⟩
      simp only [List.drop_succ_cons,Nat.add_sub_cancel]
      rw [List.drop_append_of_le_length (by omega)]
     have hst:stp false (c::t)=some q:=by
      have hp:c::t=p++(c::t).drop q:=by
       have h1:(c::(t++[34])).take q=p:=by rw [g2,← g3]; simp
       have h2:(c::(t++[34])).take q=(c::t).take q:=by
        rw [← List.cons_append,List.take_append_of_le_length (by simp; omega)]
       rw [← h1,h2,List.take_append_drop]
      rw [hp]
      exact g4 _
     have hpc:=stp_piece hst
     rw [dec_cons,hpc]
     simp only [Bool.true_and]
     refine dec_clean m _ ?_ ?_
     ·simp only [List.length_drop,List.length_cons] at hm ⊢; omega
     ·rw [← hd,e]
      congr 1
      simp only [List.length_drop,List.length_cons]
      omega
theorem name_clean{xs:List Int}{j:Nat}(h:quotedO false xs=some j):(decq (xs.take (j+1))).2=true:=by
 obtain ⟨g1,pre,rest,rfl,g3,g4,_⟩:=quotedO_loc h
 have e:(34::pre++34::rest).take (j+1)=34::pre++[34]:=by
  have h1:34::pre++34::rest=(34::pre++[34])++rest:=by simp
  rw [h1,List.take_left' (by simp at g3 ⊢; omega)]
 rw [e]
 unfold decq
 rw [show List.dropLast (List.tail (34::pre++[34]))=pre by simp]
 obtain ⟨p2,r2,k1,k2,k3⟩:=sq_loc _ (Nat.le_refl _) g4
 have:p2=pre:=by
  have:=congrArg (List.take pre.length) k1
  rw [List.take_left' rfl,List.take_left' k2] at this
  exact this.symm
 subst this
 exact dec_clean _ _ (Nat.le_refl _) (k3 [])
def Clean(ns:List (List Int)):Prop:=∀ nm∈ns,(decq nm).2=true
theorem loopS_clean{last:List Int}:∀ {r:List (List Int)},Clean r→(loopS decq last true r).2=false
 |[],_=>rfl
 |nm::r,h=>by
  unfold loopS
  rw [h nm (by simp)]
  split
  ·rfl
  ·exact loopS_clean (fun x hx=>h x (by simp [hx]))
theorem chkS_clean{ns:List (List Int)}{x:List Int}(h:Clean ns)(hx:(decq x).2=true):(chkS decq (ns++[x])).2=false:=by
 unfold chkS
 rw [show List.getLastD (ns++[x]) []=x by simp,show List.dropLast (ns++[x])=ns by simp,hx]
 exact loopS_clean h
theorem nameO_clean{ns:List (List Int)}{xs:List Int}(h:Clean ns):(nameO (chkS decq) false ns xs).2=false:=by
 unfold nameO
 cases hq:quotedO false xs with
 |none=>rfl
 |some j=>
  simp only
  have e:=chkS_clean h (name_clean hq)
  split
  ·exact e
  ·split<;>exact e
theorem namesO_clean{ns:List (List Int)}{xs:List Int}(h:Clean ns):Clean (namesO false ns xs):=by
 unfold namesO
 cases hq:quotedO false xs with
 |none=>exact h
 |some j=>
  intro nm hm
  rcases List.mem_append.1 hm with hm|hm
  ·exact h nm hm
  ·rw [List.mem_singleton.1 hm]; exact name_clean hq
def MClean:Mode→Prop
 |.mems ns=>Clean ns
 |_=>True
theorem run_clean:∀ (n:Nat) (m:Mode) (xs:List Int),MClean m→(run (chkS decq) false n m xs).2=false
 |0,_,_,_=>rfl
 |n+1,.val,xs,_=>by
  by_cases c1:(xs.drop (ws xs)).headD 0=123
  ·rw [run_obj c1]
   unfold up objO
   show (false || _)=false
   rw [Bool.false_or]
   split
   ·rfl
   ·show (false || _)=false
    rw [Bool.false_or]
    exact run_clean n (.mems []) _ (fun _ h=>by cases h)
  by_cases c2:(xs.drop (ws xs)).headD 0=91
  ·rw [run_arr c2]
   unfold up arrO
   show (false || _)=false
   rw [Bool.false_or]
   split
   ·rfl
   ·show (false || _)=false
    rw [Bool.false_or]
    exact run_clean n .elems _ trivial
  rw [run_scalar c1 c2]
 |n+1,.elems,xs,_=>by
  cases hv:run (chkS decq) false n .val xs with
  |mk a o1=>
  have ih:o1=false:=by have:=run_clean n .val xs trivial; rw [hv] at this; exact this
  cases a with
  |none=>rw [run_elems_no hv]; exact ih
  |some j=>
   by_cases c1:((xs.drop j).drop (ws (xs.drop j))).headD 0=93
   ·rw [run_elems_end hv c1]; exact ih
   by_cases c2:((xs.drop j).drop (ws (xs.drop j))).headD 0=44
   ·rw [run_elems_more hv c2]
    show (o1 || _)=false
    rw [ih,Bool.false_or]
    exact run_clean n .elems _ trivial
   ·rw [run_elems_else hv c1 c2]; exact ih
 |n+1,.mems a,xs,hm=>by
  have hm':Clean a:=hm
  cases hn:nameO (chkS decq) false a xs with
  |mk q o1=>
  have i1:o1=false:=by have:=nameO_clean (xs:=xs) hm'; rw [hn] at this; exact this
  cases q with
  |none=>rw [run_mems_no hn]; exact i1
  |some j=>
   cases hv:run (chkS decq) false n .val (xs.drop j) with
   |mk q o2=>
   have i2:o2=false:=by have:=run_clean n .val (xs.drop j) trivial; rw [hv] at this; exact this
   have i3:(o1 || o2)=false:=by rw [i1,i2]; rfl
   cases q with
   |none=>rw [run_mems_val hn hv]; exact i3
   |some i=>
    by_cases c1:((xs.drop (j+i)).drop (ws (xs.drop (j+i)))).headD 0=125
    ·rw [run_mems_end hn hv c1]; exact i3
    by_cases c2:((xs.drop (j+i)).drop (ws (xs.drop (j+i)))).headD 0=44
    ·rw [run_mems_more hn hv c2]
     show ((o1 || o2) || _)=false
     rw [i3,Bool.false_or]
     exact run_clean n (.mems (namesO false a xs)) _ (namesO_clean hm')
    ·rw [run_mems_else hn hv c1 c2]; exact i3
def six6:ByteArray:=⟨#[91,123,34,110,116,102]⟩
theorem six6_get{k:Nat}(hk:k<six6.size):six6[k]=91∨six6[k]=123∨six6[k]=34∨six6[k]=110∨six6[k]=116∨six6[k]=102:=by
 have h6:six6.size=6:=rfl
 match k,hk with
 |0,_=>exact .inl rfl
 |1,_=>exact .inr (.inl rfl)
 |2,_=>exact .inr (.inr (.inl rfl))
 |3,_=>exact .inr (.inr (.inr (.inl rfl)))
 |4,_=>exact .inr (.inr (.inr (.inr (.inl rfl))))
 |5,_=>exact .inr (.inr (.inr (.inr (.inr rfl))))
 |k+6,h=>rw [h6] at h; omega
theorem bytes_cut(s:ByteArray)(j:Nat):bytes (s.extract 0 j)=(bytes s).take j:=by
 rw [bytes_extract]
 simp
theorem cut_facts{s:ByteArray}{N n:Nat}(h:tkn (chkT false) false N (bytes s)=true)(hE:∀ (i:Nat) (h:i<(s.extract 0 1).size),∃ (k:Nat) (hk:k<six6.size),(s.extract 0 1)[i]=six6[k])
  (hn:n≤s.size) (h2:∀ (i:Nat) (h:i<s.size),n≤i→isWs (s[i].toNat:Int)=true) (h3:∀ h:n-1<s.size,1≤n→isWs (s[n-1].toNat:Int)=false):
  1≤n∧tkn (chkD false) false N (bytes s)=true∧∀ j,j<n→tkn (chkD true) true N (bytes (s.extract 0 j))=false:=by
 have hc:(run (chkT false) false N .val (bytes s)).2=false:=run_clean N .val _ trivial
 have h1:tkn (chkD false) false N (bytes s)=true:=by rw [← tkn_said hc]; exact h
 cases e:run (chkT false) false N .val (bytes s) with
 |mk q o=>
 unfold tkn at h
 rw [e] at h
 cases q with
 |none=>cases h
 |some k=>
  have hk:k+ws ((bytes s).drop k)=(bytes s).length:=by simpa using h
  have ht:=run_take e
  rw [bytes_len] at ht hk
  have hs:0<s.size:=by omega
  obtain ⟨i,hi,he⟩:=hE 0 (by rw [ByteArray.size_extract]; omega)
  have he2:s[0]=six6[i]:=by
   rw [← he]
   simp [ByteArray.getElem_extract]
  have hb:(bytes s).headD 0=(s[0].toNat:Int):=by
   have:=bytes_drop hs
   rw [List.drop_zero] at this
   rw [this]
   rfl
  have hv:(s[0].toNat:Int)=91∨(s[0].toNat:Int)=123∨(s[0].toNat:Int)=34∨(s[0].toNat:Int)=110∨(s[0].toNat:Int)=116∨(s[0].toNat:Int)=102:=by
   rw [he2]
   rcases six6_get hi with x|x|x|x|x|x<;>rw [x]<;>simp
  have hw:isWs ((bytes s).headD 0)=false:=by
   rw [hb]
   rcases hv with x|x|x|x|x|x<;>rw [x]<;>rfl
  have hnh:¬ numHead ((bytes s).headD 0):=by
   rw [hb]
   unfold numHead
   omega
  have n1:1≤n:=by
   rcases Nat.lt_or_ge 0 n with x|x
   ·exact x
   ·have:=h2 0 hs (by omega)
    rw [hb,this] at hw
    cases hw
  have nk:n≤k:=by
   refine Classical.byContradiction fun hx => ?_
   have hall:∀ c∈(bytes s).drop k,isWs c=true:=ws_eq_len.1 (by rw [List.length_drop,bytes_len]; omega)
   have hlt:n-1<s.size:=by omega
   have hm:(s[n-1].toNat:Int)∈(bytes s).drop k:=by
    have e3:=bytes_drop hlt
    have e4:(bytes s).drop (n-1)=((bytes s).drop k).drop (n-1-k):=by rw [List.drop_drop]; congr 1; omega
    have:(s[n-1].toNat:Int)∈(bytes s).drop (n-1):=by rw [e3]; simp
    rw [e4] at this
    exact List.mem_of_mem_drop this
   have:=hall _ hm
   rw [h3 hlt n1] at this
   cases this
  exact ⟨n1,h1,fun j hj=>by
   rw [bytes_cut]
   exact cut_no e hw hnh (by omega)⟩
def JJ(A:List Addr)(aU aI aE aM:Addr)(w0 w:World):Prop:=LF A aU aI aE aM w∧Kp w0.heap.size w0 w
theorem JJ.gb{A:List Addr}{aU aI aE aM:Addr}{w0 w w':World}(h:JJ A aU aI aE aM w0 w)(hg:w.grownBy w' none):JJ A aU aI aE aM w0 w':=⟨h.1.gb0 hg,h.2.trans (Kp.gb0 hg h.2.size)⟩
theorem JJ.drew{A:List Addr}{aU aI aE aM:Addr}{w0 w:World}(h:JJ A aU aI aE aM w0 w):JJ A aU aI aE aM w0 w.drew:=h.gb (gb_drewN0 w 1)
theorem JJ.drewN{A:List Addr}{aU aI aE aM:Addr}{w0 w:World}(h:JJ A aU aI aE aM w0 w)(n:Nat):JJ A aU aI aE aM w0 (w.drewN n):=h.gb (gb_drewN0 w n)
theorem blk0:Blk ⟨#[]⟩:=fun i h=>absurd h (by simp [ByteArray.size])
theorem jj_valid{A:List Addr}{aU aI aE aM:Addr}(w0:World)(m:Nat)(x:ByteArray)(du iv:Int)(r:Bool)(hs:x.size≤4096)(hm:2 * x.size<m)(hr:tkn (chkD (decide (du=1))) (decide (iv=1)) m (bytes x)=r)(w:World)(h:JJ A aU aI aE aM w0 w):
  Calls Tryz.prog 11 #[.string x,.agg #[.int .i64 du,.int .i64 iv,.int .i64 0,.int .i64 0,.int .i64 0,.int .i64 0,.int .i64 0,.int .i64 0,.int .i64 0,.int .i64 0,.int .i64 0,.bool false,.string ⟨#[]⟩,.bool false,.string ⟨#[]⟩]] w fun e w'=>e=.returned (.bool r)∧JJ A aU aI aE aM w0 w':=
 (valid11 A aU aI aE aM m x du iv 0 0 0 0 0 0 0 0 0 false false ⟨#[]⟩ ⟨#[]⟩ blk0 blk0 w h.1 hs hm).mono fun _ _ hh=>⟨hr▸hh.1,h.1.kp hh.2,h.2.trans ⟨hh.2.os,hh.2.tape,hh.2.output,hh.2.size,fun b hb=>hh.2.keep b (Nat.lt_of_lt_of_le hb h.2.size)⟩⟩
theorem jj_allowed{A:List Addr}{aU aI aE aM:Addr}(w0 w:World)(h:JJ A aU aI aE aM w0 w):Calls Tryz.prog 15 #[.bool true,.bool true] w fun e w'=>e=.returned (.agg #[.int .i64 1,.int .i64 1,.int .i64 0,.int .i64 0,.int .i64 0,.int .i64 0,.int .i64 0,.int .i64 0,.int .i64 0,.int .i64 0,.int .i64 0,.bool false,.string ⟨#[]⟩,.bool false,.string ⟨#[]⟩])∧JJ A aU aI aE aM w0 w':=
 (allowed15 w).mono fun _ _ hh=>⟨hh.1,h.gb hh.2⟩
theorem law4(A:List Addr)(aU aI aE aM:Addr)(s:ByteArray)(m:Int)(hmw:(Lit.int .i64 m).wf=true)(w:World)(hLF:LF A aU aI aE aM w):Calls Tryz.prog 4 #[.string s,.int .i64 m] w (LawP w):=by
 have HJ0:Hid (JJ A aU aI aE aM w w):=Hq ⟨hLF,Kp.refl _ _⟩
 clear hLF
 by_cases z0:s.size≤2147483647
 rotate_left
 ·have t0:decide ((2147483647:Int)<(s.size:Int))=true:=by simp; omega
  clear z0
  go_enter Tryz.func4,Tryz.ntmps4
  go_wp2_with fail
  go_ret
  exact ⟨rfl,HJ0.out.2.below⟩
 have t0:decide ((2147483647:Int)<(s.size:Int))=false:=by simp; omega
 have HS:=Hq z0
 clear z0
 obtain ⟨N,HN⟩:∃ N,Hid (N=4294967296):=⟨_,Hq rfl⟩
 have TK:=Hq (fun w=>taken8 s false false N w (by have:=HS.out; omega) (by have:=HS.out; have:=HN.out; omega))
 obtain ⟨tk,HTK⟩:∃ tk,Hid (tkn (chkT false) false N (bytes s)=tk):=⟨_,Hq rfl⟩
 obtain ⟨op,HOP⟩:∃ op,Hid ((!(run (chkT false) false N .val (bytes s)).2)=op):=⟨_,Hq rfl⟩
 rw [HTK.out,HOP.out] at TK
 clear HOP
 go_enter Tryz.func4,Tryz.ntmps4
 go_wp2_with fail
 refine (TK.out _).mono ?_
 rintro e w1 ⟨rfl,hg⟩
 have HJ1:=Hq (HJ0.out.gb hg)
 have HGA:=Hq (World.grownBy_alloc w1 (.cells #[.string s] 9) none)
 have FT:=Hq (fits1 w1.heap.size s (w1.alloc (.cells #[.string s] 9)) (by have:=HS.out; omega) (by rw [cell_of_row _ _ _ _ _ (0,0) (heap_alloc_new w1 _)]; rfl))
 obtain ⟨b3,HB3⟩:∃ b3,Hid (decide (s.size≤1000)=b3):=⟨_,Hq rfl⟩
 rw [HB3.out] at FT
 clear hg TK
 go_wp2_with fail
 refine FT.out.mono ?_
 rintro e w2 ⟨rfl,rfl⟩
 have HJ2:=Hq (HJ1.out.gb HGA.out)
 obtain ⟨W3,hW3⟩:∃ W3,w1.alloc (.cells #[.string s] 9)=W3:=⟨_,rfl⟩
 rw [hW3] at HJ2 ⊢
 clear hW3 FT HGA
 cases b3 with
 |false=>
  go_wp2_with fail
  go_ret
  exact ⟨rfl,HJ2.out.2.below⟩
 |true=>
  cases tk with
  |false=>
   go_wp2_with fail
   go_ret
   exact ⟨rfl,HJ2.out.2.below⟩
  |true=>
   have hs1:1≤s.size:=by
    have h:=HTK.out
    refine Classical.byContradiction fun hx => ?_
    cases e:run (chkT false) false N .val (bytes s) with
    |mk q o=>
    unfold tkn at h
    rw [e] at h
    cases q with
    |none=>cases h
    |some k=>
     have:=run_take e
     rw [bytes_len] at this
     omega
   have EV:=Hq (fun w=>every13 (s.extract 0 1) six6 (by rw [ByteArray.size_extract]; omega) (by decide) w)
   go_wp2_with fail
   refine (EV.out _).mono ?_
   rintro e w3 ⟨b4,rfl,hb4,hg⟩
   have HJ3:=Hq (HJ2.out.gb hg)
   have HE:=Hq hb4
   clear hg hb4 EV
   cases b4 with
   |false=>
    go_wp2_with fail
    go_ret
    exact ⟨rfl,HJ3.out.2.below⟩
   |true=>
    by_cases hm:m<0
    ·have t1:decide (m<0)=true:=by simpa using hm
     go_wp2_with fail
     go_ret
     exact ⟨rfl,HJ3.out.2.below⟩
    have t1:decide (m<0)=false:=by simpa using hm
    have TR:=Hq (fun w=>trailing14 s (by have:=HS.out; omega) w)
    obtain ⟨mm,rfl⟩:=Int.eq_ofNat_of_zero_le (show 0≤m by omega)
    have HMW:=Hq hmw
    clear hm hmw
    go_wp2_with fail
    refine (TR.out _).mono ?_
    rintro e w4 ⟨n,r,rfl,hn,hr,h2,h3,rfl⟩
    have hz:s.size≤1000:=by have:=HB3.out; simpa using this
    obtain ⟨n1,c1,c2⟩:=cut_facts HTK.out (HE.out (by trivial)) hn h2 h3
    have hw:(s.size:Int)-(r.size:Int)=(n:Int):=by omega
    obtain ⟨j,hj⟩:∃ j,mm % n=j:=⟨_,rfl⟩
    have hjn:j<n:=by rw [← hj]; exact Nat.mod_lt _ (by omega)
    have hzj:(s.extract 0 j).size≤1000:=by rw [ByteArray.size_extract]; omega
    have V1:=Hq (fun wx (h:JJ A aU aI aE aM w wx)=>jj_valid w N s 0 0 true (by omega) (by have:=HN.out; omega) c1 wx h)
    have V2:=Hq (fun wx (h:JJ A aU aI aE aM w wx)=>jj_valid w N (s.extract 0 j) 1 1 false (by omega) (by have:=HN.out; omega) (c2 j hjn) wx h)
    have AL:=Hq (fun wx (h:JJ A aU aI aE aM w wx)=>jj_allowed w wx h)
    have HJJ:=Hq (And.intro hj hjn)
    have hn0:(0:Int)<(n:Int):=by omega
    have j0:(0:Int)≤(j:Int):=Int.natCast_nonneg _
    have hjs:j≤s.size:=by omega
    have hmod:Int.tmod (mm:Int) (n:Int)=(j:Int):=by rw [← hj]; rfl
    have hmod2:(mm:Int) % (n:Int)=(j:Int):=by rw [← hj]; rfl
    have hnn:n≤1000:=by omega
    have hnn2:(n:Int)≤1000:=by omega
    have hn2:¬ n=0:=by omega
    have hn3:¬ (n:Int)=0:=by omega
    have hmod3:mm % n=j:=hj
    clear c1 c2 h2 h3 hr hj hjn hzj TR hz n1
    go_wp2_with fail
    go_region_with (first|(go_at_call 15; refine (AL.out _ ?_).mono ?_; (repeat (first|assumption|exact HJ3.out|apply JJ.drewN|apply JJ.drew)); rintro e wa ⟨rfl,ja⟩)|(go_at_call 11; refine (V1.out _ ?_).mono ?_; (repeat (first|assumption|exact HJ3.out|apply JJ.drewN|apply JJ.drew)); rintro e wb ⟨rfl,jb⟩)|(go_at_call 11; refine (V2.out _ ?_).mono ?_; (repeat (first|assumption|exact HJ3.out|apply JJ.drewN|apply JJ.drew)); rintro e wd ⟨rfl,jd⟩))
    all_goals
     go_wp2_with fail
     go_ret
     refine ⟨rfl,(show JJ A aU aI aE aM w _ from ?_).2.below⟩
     repeat (first|assumption|apply JJ.drewN|apply JJ.drew)
end Go.Proofs.YtknaalohaagcdaaGreatDoor.Own
namespace Go.Proofs.YtknaalohaagcdaaGreatDoor.Own
open Go.ChangeShapes Go.WideShapes Go.ChangeAt Go.RowKit Go.ChangeMaps
theorem own:ownKnob Tryz.prog.godebug=none:=by kernel_rfl
theorem laidOut:laidOutB Tryz.prog=true:=by kernel_rfl
theorem trodVars_len{H:Type}{enc:TypeId × Value→H}{P:Program}{W:World}{sp:Nat→Bool}:∀ {ns:List String} {gs:List (DataW H)} {ps:List MemPlace},DataW.TrodVars enc P W sp ns gs ps→gs.length=ns.length
 |[],[],_,_=>rfl
 |[],_::_,_,h=>h.elim
 |_::_,[],_,h=>h.elim
 |_::ns,_::ds,_,h=>by
  obtain ⟨_,_,_,_,_,q,_,_,_,_,hs,_⟩:=h
  simp [trodVars_len hs]
namespace Valid
end Valid
end Go.Proofs.YtknaalohaagcdaaGreatDoor.Own
