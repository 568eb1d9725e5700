import Derived.Test.YtknaalohaagcdaaGreatDoorG01
import Derived.Test.YtknaalohaagcdaaGreatDoorG25
set_option maxHeartbeats 400000000
set_option maxRecDepth 100000
namespace Go.Proofs.YtknaalohaagcdaaGreatDoor.Own
open Go.RowKit JG
theorem piece_one{c:Int}{t:List Int}(h1:c<128)(h2:¬ c=92):pieceD (c::t)=((c::t).take 1,1,true):=by
 have hw:widthO (c::t)=1:=by unfold widthO; rw [if_pos (by exact h1)]
 unfold pieceD
 rw [if_neg (by exact h2),hw,if_neg (by decide)]
theorem piece_rune{c:Int}{t:List Int}{k:Nat}(h1:¬ c<128)(hr:runeO (c::t)=some k)(hk:2≤k):pieceD (c::t)=((c::t).take k,k,true):=by
 have hw:widthO (c::t)=k:=by unfold widthO; rw [if_neg (by exact h1),hr]; rfl
 unfold pieceD
 rw [if_neg (show ¬ (c::t).headD 0=92 from (show ¬ c=92 by omega)),hw,if_neg (by omega)]
theorem piece_bad{c:Int}{t:List Int}(h1:¬ c<128)(hr:runeO (c::t)=none):pieceD (c::t)=(brk,1,false):=by
 have hw:widthO (c::t)=0:=by unfold widthO; rw [if_neg (by exact h1),hr]; rfl
 unfold pieceD
 rw [if_neg (show ¬ (c::t).headD 0=92 from (show ¬ c=92 by omega)),if_pos hw]
theorem inner_esc{d:Int}{u:List Int}(h:Inner (92::d::u)):isSimple d∨d=117:=by
 unfold Inner at h
 by_cases h1:isSimple d
 ·exact .inl h1
 by_cases h2:d=117
 ·exact .inr h2
 exfalso
 have he:escO true (d::u++[34])=none:=by
  unfold escO
  have hd:(d::u++[34]).headD 0=d:=rfl
  rw [hd,if_neg h1,if_neg h2]
 have es:stp true (92::(d::u++[34]))=none:=by
  show (if (92:Int)=92 then (escO true (d::u++[34])).map (·+1) else if (92:Int)<32 then none else if (92:Int)<128∨true=true then some 1 else runeO (92::(d::u++[34])))=none
  rw [if_pos rfl,he]
  rfl
 rw [List.cons_append,sq_cons (by decide),es] at h
 cases h
theorem piece_esc{d x:Int}{u:List Int}(h:(d=98∧x=8)∨(d=102∧x=12)∨(d=110∧x=10)∨(d=114∧x=13)∨(d=116∧x=9)∨((d=34∨d=92∨d=47)∧x=d)):pieceD (92::d::u)=([x],2,true):=by
 have e:pieceD (92::d::u)=escD (92::d::u):=by unfold pieceD; rw [if_pos (by rfl)]
 rw [e]
 unfold escD
 rw [show (92::d::u).tail.headD 0=d from rfl]
 rcases h with ⟨rfl,rfl⟩|⟨rfl,rfl⟩|⟨rfl,rfl⟩|⟨rfl,rfl⟩|⟨rfl,rfl⟩|⟨rfl|rfl|rfl,rfl⟩<;>rfl
theorem drop6{a b:Int}{u:List Int}:(a::b::u).drop 6=u.drop 4:=by
 show (u.drop 4)=_
 rfl
theorem piece_u{u:List Int}(h:hex4 u<55296∨57343<hex4 u):pieceD (92::117::u)=(encO (hex4 u),6,true):=by
 have e:pieceD (92::117::u)=escD (92::117::u):=by unfold pieceD; rw [if_pos (by rfl)]
 have hu:unitAt (92::117::u)=hex4 u:=by
  show (if (92:Int)=92∧(117:Int)=117 then hex4 u else -1)=hex4 u
  rw [if_pos ⟨rfl,rfl⟩]
 rw [e]
 unfold escD
 rw [show (92::117::u).tail.headD 0=117 from rfl,hu]
 simp only [show ¬ (117:Int)=98 by decide,show ¬ (117:Int)=102 by decide,show ¬ (117:Int)=110 by decide,show ¬ (117:Int)=114 by decide,show ¬ (117:Int)=116 by decide,if_false,if_true]
 rw [if_pos h]
theorem piece_half{u:List Int}(h:¬ (hex4 u<55296∨57343<hex4 u)):pieceD (92::117::u)=if hex4 u<56320∧56320≤unitAt (u.drop 4)∧unitAt (u.drop 4)≤57343 then (encO (65536+(hex4 u-55296) * 1024+(unitAt (u.drop 4)-56320)),12,true) else (brk,6,false):=by
 have e:pieceD (92::117::u)=escD (92::117::u):=by unfold pieceD; rw [if_pos (by rfl)]
 have hu:unitAt (92::117::u)=hex4 u:=by
  show (if (92:Int)=92∧(117:Int)=117 then hex4 u else -1)=hex4 u
  rw [if_pos ⟨rfl,rfl⟩]
 rw [e]
 unfold escD
 rw [show (92::117::u).tail.headD 0=117 from rfl,hu,drop6]
 simp only [show ¬ (117:Int)=98 by decide,show ¬ (117:Int)=102 by decide,show ¬ (117:Int)=110 by decide,show ¬ (117:Int)=114 by decide,show ¬ (117:Int)=116 by decide,if_false,if_true]
 rw [if_neg h]
theorem hex4_q{u v:List Int}(h:4≤u.length):hex4 (u++v)=hex4 u:=by
 match u,h with
 |a::b::c::d::t,_=>rfl
theorem hex4_len{u:List Int}(h:0≤hex4 u):4≤u.length:=by
 obtain ⟨a,b,c,d,t,rfl,_⟩:=hex4_ge h
 simp
theorem unitAt_q(u:List Int):unitAt (u++[34])=unitAt u:=by
 match u with
 |[]=>rfl
 |[a]=>
  show (if a=92∧(34:Int)=117 then _ else _)=_
  rw [if_neg (by omega)]
  rfl
 |a::b::t=>
  show (if a=92∧b=117 then hex4 (t++[34]) else -1)=(if a=92∧b=117 then hex4 t else -1)
  by_cases h:4≤t.length
  ·rw [hex4_q h]
  ·have h34:hexv 34<0:=by decide
   have e:hex4 (t++[34]) = -1∧hex4 t = -1:=by
    match t,h with
    |[],_=>exact ⟨rfl,rfl⟩
    |[x],_=>exact ⟨rfl,rfl⟩
    |[x,y],_=>exact ⟨rfl,rfl⟩
    |[x,y,z],_=>
     refine ⟨?_,rfl⟩
     show (if 0≤hexv x∧0≤hexv y∧0≤hexv z∧0≤hexv 34 then _ else -1) = -1
     rw [if_neg (by omega)]
    |x::y::z::q::t,h=>simp at h
   rw [e.1,e.2]
theorem plainQ_on{c:Int}(h1:¬ c=34)(h2:¬ c<32)(h3:c<128)(h4:¬ c=92):plainQ c=true:=by
 unfold plainQ
 simp
 omega
theorem plainQ_off{c:Int}(h:c=92∨¬ c<128):plainQ c=false:=by
 unfold plainQ
 simp
 omega
theorem fullQ(B p cap:Nat)(s:ByteArray)(w:World)(hT:Lib.Utf8Tabs 12 13 w)(hp:p<s.size)(hB:Bf w B s)(h128:¬ (s[p].toNat:Int)<128)(h34:(34:Int)∈(bytes s).drop p):
  Calls Tryz.prog 163 #[.slice (some ⟨B,p,none⟩) (s.size-p) cap] w fun e w'=>e=.returned (.bool true)∧w.grownBy w' none:=
 (full163 B p cap s w hT hp hB h128).mono fun e w' ⟨b,h1,h2,h3⟩=>by
  cases b with
  |true=>exact ⟨h1,h3⟩
  |false=>exact absurd (h2 rfl 34 h34) (by decide)
theorem US.app{B base N M k:Nat}{s:ByteArray}{eU eI v0 v v2:Value}{w wr w2:World}{xs X Z:List Value}{acc zs:List Int}(h:US B s eU eI base N v0 xs w wr v M acc)(hX:X=xs++acc.map (Value.int .u8))(hZ:Z=zs.map (Value.int .u8))(hk:zs.length=k)(h1:w2.ownsRow base 5 1 v2 (M+k) (X++Z))(h2:wr.grownBy w2 v.ownBlock)(h3:SameRow v v2∨v2.ownBlock=some wr.heap.size)(h4:w2.ownsRow base 5 1 v M X):US B s eU eI base N v0 xs w w2 v2 (M+k) (acc++zs):=
 h.put hk ⟨by rw [List.length_map,hk,← hX,← hZ]; exact h1,h2,by rw [← hX]; exact h4,h3.imp id (fun h=>⟨_,h,Nat.le_refl _⟩)⟩
theorem US.appN{B base N M k:Nat}{s:ByteArray}{eU eI v0 v v2:Value}{w wr w2:World}{o:Obj}{xs X Z:List Value}{acc zs:List Int}(h:US B s eU eI base N v0 xs w wr v M acc)(hX:X=xs++acc.map (Value.int .u8))(hZ:Z=zs.map (Value.int .u8))(hk:zs.length=k)(h1:w2.ownsRow base 5 1 v2 (M+k) (X++Z))(h2:(wr.alloc o).grownBy w2 v.ownBlock)(h3:SameRow v v2∨v2.ownBlock=some (wr.heap.size+1))(h4:w2.ownsRow base 5 1 v M X):US B s eU eI base N v0 xs w w2 v2 (M+k) (acc++zs):=
 h.put hk (by rw [← hX,← hZ]; exact Grew.of_app (by rw [hZ,List.length_map,hk,← hZ]; exact h1) h2 h3 h4)
theorem US.finish{B base N M c:Nat}{s:ByteArray}{eU eI v0 ev:Value}{ao:Option Addr}{w wr:World}{xs:List Value}{acc r:List Int}(h:US B s eU eI base N v0 xs w wr (.slice ao M c) M acc)(hr:r=acc):∃ ao' c' ev',(Ending.returned (.tuple #[.slice ao M c,ev]))=.returned (.tuple #[.slice ao' (N+r.length) c',ev'])∧Grew w wr base v0 N xs (.slice ao' (N+r.length) c') (r.map (Value.int .u8)):=by
 subst hr
 have g:=h.gr
 have e:=h.hM
 subst e
 exact ⟨ao,c,ev,rfl,g⟩
theorem US.row{B base N M:Nat}{s:ByteArray}{eU eI v0 v:Value}{w wr:World}{xs:List Value}{acc:List Int}(h:US B s eU eI base N v0 xs w wr v M acc):∃ X:List Value,Hid (wr.ownsRow base 5 1 v M X)∧Hid (X=xs++acc.map (Value.int .u8)):=⟨_,Hq h.now,Hq rfl⟩
theorem UP.pend{Y acc r:List Int}{n i:Nat}(h:UP Y n i acc r){s:ByteArray}{p L B:Nat}{W:World}(hl:Lit s p L Y)(hB:Bf W B s):∃ (pd:List Int) (Z:List Value),Hid (∀ cp,Src Tryz.prog 1 47 (.slice (Option.some ⟨B,p+i,none⟩) (n-i) cp) (n-i) Z W)∧Hid (Z=pd.map (Value.int .u8))∧Hid (pd=(Y.drop (i-1)).take (n-i))∧Hid (pd.length=n-i):=by
 have h1:=h.i1
 have h2:=h.le
 have h3:=h.top
 exact ⟨_,_,Hq fun cp=>src_pend hl hB h1 h2 h3,Hq rfl,Hq rfl,Hq (by rw [List.length_take,List.length_drop]; omega)⟩
theorem unq154(B p cap L base N c2:Nat)(ao2:Option Addr)(s:ByteArray)(eU eI:Value)(xs:List Value)(Y r:List Int)(w:World)(hs:s.size≤4294967296)(hl:Lit s p L Y)(hin:Inner Y)(hr:(dec 0 Y).1=r)(hcap:L≤cap)
  (hown:w.ownsRow base 5 1 (.slice ao2 N c2) N xs) (hb:base≤w.heap.size) (hN:N≤4294967296) (hW:Uw B s eU eI w (.slice ao2 N c2)):
  Calls Tryz.prog 154 #[.slice ao2 N c2,.slice (some ⟨B,p,none⟩) L cap] w fun e w'=>∃ ao c ev,e=.returned (.tuple #[.slice ao (N+r.length) c,ev])∧Grew w w' base (.slice ao2 N c2) N xs (.slice ao (N+r.length) c) (r.map (Value.int .u8)):=by
 obtain ⟨i0,hi,hz0,hz1,hz2⟩:=info_parts info5
 have hlen:=hl.len
 have hsz:=hl.size
 have hL4:L≤4294967296:=by omega
 have hL2:2≤L:=by omega
 have GR:=Hq (grow172 base ao2 c2 N L xs w hown hb (by omega) (by omega))
 have P0:=Hq (show UP Y 1 1 [] r by rw [← hr]; exact UP.start hin)
 have HL:=Hq hl
 have HLEN:=Hq (And.intro hlen hsz)
 have HS:=Hq hs
 have U0:=Hq (And.intro hown (And.intro hb hW))
 have hp0:p<s.size:=by omega
 have c34:w.cell? ⟨B,p,none⟩=some (.int .u8 34):=by
  rw [hW.buf p hp0]
  have e:=bytes_drop hp0
  rw [hl.at_] at e
  rw [← (List.cons.inj e).1]
 clear hl hin hr hown hb hW hs hlen hsz
 have tz:((L:Int)==0)=false:=by simp; omega
 have lpos:(0:Int)<(L:Int):=by omega
 go_enter Tryz.func154,Tryz.ntmps154
 go_wp2_with fail
 refine GR.out.mono ?_
 rintro e w1 ⟨ao1,c1,rfl,hg⟩
 have S0:=Hq (show US B s eU eI base N (.slice ao2 N c2) xs w w1 (.slice ao1 N c1) N [] from ⟨U0.out.1,U0.out.2.1,hg,U0.out.2.2.grew hg,by simp⟩)
 have c34':w1.cell? ⟨B,p,none⟩=some (.int .u8 34):=(World.cell?_of_block (a:=⟨B,p,none⟩) (hg.gb.block B U0.out.2.2.bl (fun e=>U0.out.2.2.ne e.symm))).trans c34
 clear hg GR
 go_wp2_with fail
 clear c34 c34' tz lpos hp0 U0
 go_loopg [0,5,6,7] (L-1) (fun gk v0 v5 v6 v7 wr=>∃ (n i M cA:Nat) (aoA:Option Addr) (acc:List Int),v0=.slice aoA M cA∧v6=.int .i64 i∧v7=.int .i64 n∧1≤i∧i≤n∧n+1≤L∧Hid (UP Y n i acc r)∧Hid (US B s eU eI base N (.slice ao2 N c2) xs w wr (.slice aoA M cA) M acc)∧Hid (gk=L-n))
 case atStart=>exact ⟨1,1,N,c1,ao1,[],rfl,rfl,rfl,Nat.le_refl _,Nat.le_refl _,by omega,P0,S0,Hq rfl⟩
 case round=>
  clear P0 S0
  obtain ⟨n,i,M,cA,aoA,acc,rfl,rfl,rfl,hi1,hin,hnL,HP,HU,HG⟩:=hrel
  have nz0:(0:Int)≤(n:Int):=Int.natCast_nonneg _
  have t1:decide (n<L)=true:=by simp; omega
  go_wp2_with fail
  go_loopg [7] (L-n) (fun gk2 v7 wr2=>∃ n2:Nat,v7=.int .i64 n2∧n≤n2∧n2+1≤L∧Hid (UP Y n2 i acc r)∧Hid (gk2=L-n2)∧wr=wr2)
  case atStart=>exact ⟨n,rfl,Nat.le_refl _,hnL,HP,Hq rfl,rfl⟩
  case round=>
   clear t1 nz0
   obtain ⟨n2,rfl,hn2,hn2L,HP2,HG2,rfl⟩:=hrel
   have j0:(0:Int)≤(n2:Int):=Int.natCast_nonneg _
   have t2:decide (n2<L)=true:=by simp; omega
   have j1:(n2:Int)<(L:Int):=by omega
   have hltb:p+n2<s.size:=by have:=HLEN.out; omega
   have cn:=HU.out.uw.buf (p+n2) hltb
   have hdn:=bytes_drop hltb
   have hM:M≤17179869184:=by have:=HU.out.hM; have:=HP2.out.len; omega
   obtain ⟨c,hcc⟩:∃ c:Int,(s[p+n2].toNat:Int)=c:=⟨_,rfl⟩
   have hcb:=s[p+n2].toNat_lt
   have hcb:0≤c∧c≤255:=by omega
   have hd0:=HL.out.drop (n:=n2) (by omega) (by have:=HLEN.out; omega)
   rw [hcc] at hdn cn
   rw [hdn] at hd0
   have HCC:=Hq hcc
   clear hcc
   by_cases hlast:n2=L-1
   ·as_aux_lemma=>
    have hc34:c=34:=by
     rw [show Y.drop (n2-1)=[] from List.drop_of_length_le (by have:=HLEN.out; omega),List.nil_append] at hd0
     exact (List.cons.inj hd0).1
    subst hc34
    have N1:=Hq (noEsc173 34 false rfl)
    have t3:decide ((n2:Int)+1<(L:Int))=false:=by simp; omega
    have t4:decide (n2+1<L)=false:=by simp; omega
    obtain ⟨X,OX,HX⟩:=HU.out.row
    obtain ⟨pd,Z,SP,HZ,HPD,HK⟩:=HP2.out.pend HL.out HU.out.uw.buf
    have hi2:i≤n2:=by omega
    have hic:i<cap:=by omega
    have hnc:n2≤cap:=by omega
    have FIN:=Hq (show r=acc++pd by rw [HPD.out]; exact HP2.out.done (by have:=HLEN.out; omega))
    clear hd0 HCC hdn hcb hlast
    go_wp2_with fail
    refine (N1.out _).mono ?_
    rintro e w' ⟨rfl,rfl⟩
    go_wp2_with (at_builtin; refine wpList_appS _ rfl _ _ 47 47 rfl base 5 i0 _ 1 Tryz.underlying47 hi hz0 hz1 hz2 rfl _ _ _ rfl OX.out _ _ _ rfl (SP.out _) ?c1 ?c2 HU.out.base ?_)
    case c1=>simp only [maxLen]; omega
    case c2=>omega
    intro aoB cB w5 q1 q2 q3 q4
    have HU2:=Hq (HU.out.app HX.out HZ.out HK.out q1 q2 q3 q4)
    clear q1 q2 q3 q4
    go_wp2_with fail
    go_ret2
    exact HU2.out.finish FIN.out
   ·have hnY:n2≤Y.length:=by have:=HLEN.out; omega
    obtain ⟨c',t,hct⟩:=HP2.out.some hnY
    rw [hct] at hd0
    obtain ⟨hcc',htt⟩:=List.cons.inj hd0
    have htt:(bytes s).drop (p+n2+1)=t++[34]:=htt
    subst hcc'
    have hih:=HP2.out.inn
    rw [hct] at hih
    obtain ⟨h34,h32⟩:=inner_head hih
    obtain ⟨_,_,hesc⟩:=inner_piece hih
    have HCT:=Hq (And.intro hct (And.intro hdn htt))
    clear hct hdn htt hd0
    have hnL2:n2+2≤L:=by have:=HLEN.out; omega
    by_cases hA:c<128∧¬ c=92
    ·as_aux_lemma=>
     have N1:=Hq (noEsc173 c true (plainQ_on h34 h32 hA.1 hA.2))
     have P1:=Hq (HP2.out.verb hnY (by rw [HCT.out.1]; exact piece_one hA.1 hA.2))
     clear hA h34 h32 hesc hcb hlast
     go_wp2_with fail
     refine (N1.out _).mono ?_
     rintro e w' ⟨rfl,rfl⟩
     go_wp2_with fail
     go_roundg (L-(n2+1))
     case measure=>have:=HG2.out; omega
     case rel=>exact ⟨n2+1,by go_num,by omega,by omega,P1,Hq rfl,rfl⟩
    ·have hB:c=92∨¬ c<128:=by omega
     have N1:=Hq (noEsc173 c false (plainQ_off hB))
     have t34:(c==34)=false:=by simpa using h34
     have D:=decode142 B (p+n2) (cap-n2) s wr HU.out.uw.gl.tabs hltb HU.out.uw.buf
     rw [show s.size-(p+n2)=L-n2 by have:=HLEN.out; omega] at D
     have D:=Hq D
     have hn2c:n2<cap:=by omega
     have HBB:=Hq hB
     clear hA h34 hlast hB
     go_wp2_with fail
     refine (N1.out _).mono ?_
     rintro e w' ⟨rfl,rfl⟩
     go_wp2_with fail
     refine D.out.mono ?_
     rintro e w1 ⟨rr,k,rfl,hd,hb⟩
     rw [HCT.out.2.1] at hd
     have HU1:=Hq (HU.out.below (below_gb hb))
     clear hb D N1 cn
     rcases (show (c<128∧rr=c∧k=1)∨(¬ c<128∧runeO (c::(bytes s).drop (p+n2+1))=some k∧2≤k)∨(¬ c<128∧runeO (c::(bytes s).drop (p+n2+1))=none∧rr=65533∧k=1) from hd) with ⟨h128,hrc,rfl⟩|⟨h128,hr,hk2⟩|⟨h128,hr,rfl,rfl⟩
     ·have hc92:c=92:=by
       rcases HBB.out with h|h
       ·exact h
       ·exact absurd h128 (by omega)
      subst hc92
      subst hrc
      obtain ⟨d,u,rfl,hun⟩:=hesc rfl
      have hin2:=HP2.out.inn
      rw [HCT.out.1] at hin2
      have hde:=inner_esc hin2
      have hY2:n2+3≤L:=by
       have e:=congrArg List.length HCT.out.1
       rw [List.length_drop] at e
       simp at e
       have:=HLEN.out
       omega
      obtain ⟨X,OX,HX⟩:=HU1.out.row
      obtain ⟨pd,Z,SP,HZ,HPD,HK⟩:=HP2.out.pend HL.out HU1.out.uw.buf
      have PF:=Hq (show UP Y n2 n2 (acc++pd) r by rw [HPD.out]; exact HP2.out.flush)
      have hq1:p+(n2+1)<s.size:=by have:=HLEN.out; omega
      have hcd:(s[p+(n2+1)].toNat:Int)=d:=by
       have e:=bytes_drop hq1
       have e0:(bytes s).drop (p+(n2+1))=d::(u++[34]):=by rw [show p+(n2+1)=p+n2+1 by omega]; exact HCT.out.2.2
       rw [e0] at e
       exact (List.cons.inj e).1.symm
      have HCD:=Hq hcd
      have hic:i<cap:=by omega
      have hi2:i≤n2:=by omega
      have hnc:n2≤cap:=by omega
      have t5:decide ((L:Int)<(n2:Int)+2)=false:=by simp; omega
      have t6:decide (L<n2+2)=false:=by simp; omega
      have i0':(0:Int)≤(n2:Int)+1:=by omega
      have i1':(n2:Int)+1<(L:Int):=by omega
      have iw:((n2:Int)+1).toNat=n2+1:=by omega
      have HUN:=Hq hun
      clear hd h128 h32 hesc hin2 hcd hun hcb
      go_wp2_with (at_builtin; refine wpList_appS _ rfl _ _ 47 47 rfl base 5 i0 _ 1 Tryz.underlying47 hi hz0 hz1 hz2 rfl _ _ _ rfl OX.out _ _ _ rfl (SP.out _) ?c1 ?c2 HU1.out.base ?_)
      case c1=>simp only [maxLen]; omega
      case c2=>omega
      intro aoB cB w5 q1 q2 q3 q4
      have HU2:=Hq (HU1.out.app HX.out HZ.out HK.out q1 q2 q3 q4)
      have cd:=HU2.out.uw.buf (p+(n2+1)) hq1
      rw [HCD.out] at cd
      clear q1 q2 q3 q4 SP OX
      obtain ⟨X2,OX2,HX2⟩:=HU2.out.row
      have srcN:=Hq (fun x:Int=>(Src.ofSlice _ Tryz.underlying47 _ _ _ _ rfl (World.news_of_block (cs:=#[.int .u8 x]) (t:=5) (fr:=(0,0)) (heap_alloc_new w5 _)) (by simp [Value.oneCell']):Src Tryz.prog 1 47 (.slice (some ⟨w5.heap.size,0,none⟩) 1 1) 1 [.int .u8 x] (w5.alloc (.cells #[.int .u8 x] 5))))
      rcases (show d=34∨d=92∨d=47∨d=98∨d=102∨d=110∨d=114∨d=116∨d=117 by unfold isSimple at hde; omega) with rfl|rfl|rfl|rfl|rfl|rfl|rfl|rfl|rfl
      rotate_right
      ·as_aux_lemma=>
       have hu0:0≤hex4 u:=by
        have h:=HUN.out rfl
        unfold unitAt at h
        simpa using h
       have hul:4≤u.length:=hex4_len hu0
       have HUL:=Hq (show u.length+n2+3=L by
        have e:=congrArg List.length HCT.out.1
        rw [List.length_drop] at e
        simp at e
        have:=HLEN.out
        omega)
       have hL7:n2+7≤L:=by have:=HUL.out; omega
       obtain ⟨hv,hhv⟩:∃ hv,hex4 u=hv:=⟨_,rfl⟩
       have hvl:hv<65536:=by rw [← hhv]; exact hex4_lt u
       rw [hhv] at hu0
       have HSU:=Hq (show (bytes s).drop (p+(n2+2))=u++[34] by
        rw [show p+(n2+2)=(p+n2+1)+1 by omega,← List.drop_drop,HCT.out.2.2]
        rfl)
       have H1:=Hq (hexW B (p+(n2+2)) (cap-(n2+2)) s w5 hv true (by have:=HLEN.out; omega) HU2.out.uw.buf (by rw [HSU.out,hex4_q hul,hhv]; exact if_neg (by omega)))
       have HHV:=Hq hhv
       have t7:decide ((L:Int)<(n2:Int)+6)=false:=by simp; omega
       have t7':decide (L<n2+6)=false:=by simp; omega
       clear hde hhv
       go_wp2_with fail
       refine H1.out.mono ?_
       rintro e w' ⟨rfl,rfl⟩
       obtain ⟨b,hb⟩:∃ b,(decide (55296≤hv)&&decide (hv<57344))=b:=⟨_,rfl⟩
       have SU:=Hq (surrW hv b w5 hb)
       have HBB2:=Hq hb
       clear hb
       go_upto_if 229 with (go_at_call 161; refine SU.out.mono ?_; rintro e w' ⟨rfl,rfl⟩)
       go_cut [5,7,14] from 230 to 300 (fun v5 v7 v14 wc=>∃ (rr:Int) (k:Nat) (ok:Bool),v7=.int .i64 (n2+k:Nat)∧v14=.int .i32 rr∧1≤k∧0≤rr∧rr≤1114111∧(rr<55296∨57343<rr)∧Hid (pieceD (Y.drop (n2-1))=(encO rr,k,ok))∧Hid (w5.grownBy wc none))
       case first=>
        as_aux_lemma=>
        cases b
        ·have hns:hv<55296∨57343<hv:=by have:=HBB2.out; simp at this; omega
         go_wp2_with fail
         go_meet
         case rel=>exact ⟨hv,6,true,by go_num,rfl,by omega,hu0,by omega,hns,Hq (by rw [HCT.out.1]; have h:=piece_u (u:=u) (by rw [HHV.out]; exact hns); rw [HHV.out] at h; exact h),Hq (World.grownBy.refl _ _)⟩
        ·have hsu:55296≤hv∧hv≤57343:=by have:=HBB2.out; simp at this; omega
         have HPH:=Hq (show pieceD (Y.drop (n2-1))=if hv<56320∧56320≤unitAt (u.drop 4)∧unitAt (u.drop 4)≤57343 then (encO (65536+(hv-55296) * 1024+(unitAt (u.drop 4)-56320)),12,true) else (brk,6,false) by
          rw [HCT.out.1,piece_half (by rw [HHV.out]; omega),HHV.out])
         have FIN:=Hq (fun (wc:World) (hg:w5.grownBy wc none) (hno:¬ (hv<56320∧56320≤unitAt (u.drop 4)∧unitAt (u.drop 4)≤57343))=>(show ∃ (rr:Int) (k:Nat) (ok:Bool),Value.int .i64 ((n2:Int)+6)=.int .i64 (n2+k:Nat)∧Value.int .i32 65533=.int .i32 rr∧1≤k∧0≤rr∧rr≤1114111∧(rr<55296∨57343<rr)∧Hid (pieceD (Y.drop (n2-1))=(encO rr,k,ok))∧Hid (w5.grownBy wc none) from
          ⟨65533,6,false,by go_num,rfl,by omega,by omega,by omega,by omega,Hq (by rw [HPH.out,if_neg hno]; rfl),Hq hg⟩))
         by_cases h12:n2+12≤L
         ·have t8:decide ((L:Int)<(n2:Int)+6+6)=false:=by simp; omega
          have t9:decide (L<n2+6+6)=false:=by simp; omega
          have hul9:9≤u.length:=by have:=HUL.out; omega
          have k00:(0:Int)≤(n2:Int)+6:=by omega
          have k01:(n2:Int)+6<(L:Int):=by omega
          have k0:(0:Int)≤(n2:Int)+6+1:=by omega
          have k1:(n2:Int)+6+1<(L:Int):=by omega
          have kw0:((n2:Int)+6).toNat=n2+6:=by omega
          have kw1:((n2:Int)+6+1).toNat=n2+6+1:=by omega
          have hcn:¬ cap=n2:=by omega
          have hsl:∀ W,(Instr.slice 47 (.slice (some ⟨B,p,none⟩) L cap) (some (.int .i64 (n2:Int))) (some (.int .i64 ((n2:Int)+6+6))) none).run Tryz.prog W=.ok (.slice (some ⟨B,p+n2,none⟩) 12 (cap-n2)) W:=fun W=>by
           have e:=slice_run (W:=W) (ao:=some ⟨B,p,none⟩) (n:=L) (cap:=cap) (a:=n2) (b:=n2+12) (k1:=.i64) (k2:=.i64) (by omega) (by omega)
           rw [show ((n2+12:Nat):Int)=(n2:Int)+6+6 by omega] at e
           rw [e]
           have e2:sliced (some ⟨B,p,none⟩) n2 (n2+12) cap 1=.slice (some ⟨B,p+n2,none⟩) 12 (cap-n2):=by
            unfold sliced
            simp [hcn,Addr.add,show ¬ n2=0 by omega]
           rw [e2]
          obtain ⟨x,y,t,hxy⟩:∃ x y t,u.drop 4=x::y::t:=by
           cases e:u.drop 4 with
           |nil=>have:=congrArg List.length e; rw [List.length_drop] at this; simp at this; omega
           |cons a r=>
            cases r with
            |nil=>have:=congrArg List.length e; rw [List.length_drop] at this; simp at this; omega
            |cons b t=>exact ⟨a,b,t,rfl⟩
          have HXY:=Hq hxy
          clear hxy
          have HD8:=Hq (show (bytes s).drop (p+(n2+6))=x::y::(t++[34]) by
           rw [show p+(n2+6)=p+(n2+2)+4 by omega,← List.drop_drop,HSU.out,List.drop_append_of_le_length (by omega),HXY.out]
           rfl)
          have hqx:p+(n2+6)<s.size:=by have:=HLEN.out; omega
          have hqy:p+(n2+6+1)<s.size:=by have:=HLEN.out; omega
          have cx:=HU2.out.uw.buf (p+(n2+6)) hqx
          have cy:=HU2.out.uw.buf (p+(n2+6+1)) hqy
          have ex:(s[p+(n2+6)].toNat:Int)=x:=by
           have e:=HD8.out
           rw [bytes_drop hqx] at e
           exact (List.cons.inj e).1
          have ey:(s[p+(n2+6+1)].toNat:Int)=y:=by
           have e:=HD8.out
           rw [bytes_drop hqx] at e
           have e:=(List.cons.inj e).2
           rw [show p+(n2+6)+1=p+(n2+6+1) by omega,bytes_drop hqy] at e
           exact (List.cons.inj e).1
          rw [ex] at cx
          rw [ey] at cy
          clear ex ey
          obtain ⟨h2,HH2⟩:∃ h2,Hid (hex4 (t++[34])=h2):=⟨_,Hq rfl⟩
          have HT8:=Hq (show (bytes s).drop (p+(n2+6+2))=t++[34] by
           rw [show p+(n2+6+2)=p+(n2+6)+2 by omega,← List.drop_drop,HD8.out]
           rfl)
          have HUA:=Hq (show unitAt (u.drop 4)=if x=92∧y=117 then h2 else -1 by
           rw [← unitAt_q,HXY.out,← HH2.out]
           rfl)
          have H2:=fun v ok h=>hexW B (p+(n2+6+2)) (cap-(n2+6+2)) s w5 v ok (by have:=HLEN.out; omega) HU2.out.uw.buf h
          have ER:=Hq (escErr159 B (p+n2) 12 (cap-n2) s w5 (by have:=HLEN.out; omega) HU2.out.uw.buf)
          have hvl2:h2<65536:=by rw [← HH2.out]; exact hex4_lt _
          by_cases hneg:h2<0
          ·have H2:=Hq (H2 0 false (by rw [HT8.out,HH2.out]; exact if_pos hneg))
           have F2:=Hq (fun wc hg=>FIN.out wc hg (by rw [HUA.out]; split<;>omega))
           clear HBB2 FIN hneg
           by_cases hx:x=92
           ·subst hx
            by_cases hy:y=117
            ·subst hy
             go_wp2_with fail
             refine H2.out.mono ?_
             rintro e w' ⟨rfl,rfl⟩
             go_wp2_with fail
             refine ER.out.mono ?_
             rintro e wE ⟨b,rfl,hg⟩
             have F3:=Hq (F2.out _ hg)
             clear hg
             go_wp2_with fail
             go_meet
             case rel=>exact F3.out
            ·have u2:(y != 117)=true:=by simpa using hy
             go_wp2_with fail
             refine H2.out.mono ?_
             rintro e w' ⟨rfl,rfl⟩
             go_wp2_with fail
             refine ER.out.mono ?_
             rintro e wE ⟨b,rfl,hg⟩
             have F3:=Hq (F2.out _ hg)
             clear hg
             go_wp2_with fail
             go_meet
             case rel=>exact F3.out
           ·have u1:(x != 92)=true:=by simpa using hx
            go_wp2_with fail
            refine H2.out.mono ?_
            rintro e w' ⟨rfl,rfl⟩
            go_wp2_with fail
            refine ER.out.mono ?_
            rintro e wE ⟨b,rfl,hg⟩
            have F3:=Hq (F2.out _ hg)
            clear hg
            go_wp2_with fail
            go_meet
            case rel=>exact F3.out
          ·have H2:=Hq (H2 h2 true (by rw [HT8.out,HH2.out]; exact if_neg hneg))
           have h20:0≤h2:=by omega
           by_cases hx:x=92
           ·subst hx
            by_cases hy:y=117
            ·subst hy
             have HU3:=Hq (show unitAt (u.drop 4)=h2 by rw [HUA.out,if_pos ⟨rfl,rfl⟩])
             by_cases hgood:hv<56320∧56320≤h2∧h2≤57343
             ·have PW:=Hq (pairW hv h2 (65536+(hv-55296) * 1024+(h2-56320)) w5 (by unfold pairO; rw [if_pos (by omega)]))
              have u3:((65536+(hv-55296) * 1024+(h2-56320):Int)==65533)=false:=by simp; omega
              have F3:=Hq (show pieceD (Y.drop (n2-1))=(encO (65536+(hv-55296) * 1024+(h2-56320)),12,true) by rw [HPH.out,HU3.out,if_pos hgood])
              have hrb:65536≤65536+(hv-55296) * 1024+(h2-56320)∧65536+(hv-55296) * 1024+(h2-56320)≤1114111:=by omega
              generalize 65536+(hv-55296) * 1024+(h2-56320)=rr at PW u3 F3 hrb
              clear HBB2 FIN hneg hgood ER
              go_wp2_with fail
              refine H2.out.mono ?_
              rintro e w' ⟨rfl,rfl⟩
              go_wp2_with fail
              refine PW.out.mono ?_
              rintro e w' ⟨rfl,rfl⟩
              go_wp2_with fail
              go_meet
              case rel=>exact ⟨rr,12,true,by go_num,rfl,by omega,by omega,by omega,by omega,F3,Hq (World.grownBy.refl _ _)⟩
             ·have PW:=Hq (pairW hv h2 65533 w5 (by unfold pairO; rw [if_neg (by omega)]))
              have F2:=Hq (fun wc hg=>FIN.out wc hg (by rw [HU3.out]; exact hgood))
              clear HBB2 FIN hneg hgood
              go_wp2_with fail
              refine H2.out.mono ?_
              rintro e w' ⟨rfl,rfl⟩
              go_wp2_with fail
              refine PW.out.mono ?_
              rintro e w' ⟨rfl,rfl⟩
              go_wp2_with fail
              refine ER.out.mono ?_
              rintro e wE ⟨b,rfl,hg⟩
              have F3:=Hq (F2.out _ hg)
              clear hg
              go_wp2_with fail
              go_meet
              case rel=>exact F3.out
            ·have u2:(y != 117)=true:=by simpa using hy
             have F2:=Hq (fun wc hg=>FIN.out wc hg (by rw [HUA.out,if_neg (by omega)]; omega))
             clear HBB2 FIN hneg hy
             go_wp2_with fail
             refine H2.out.mono ?_
             rintro e w' ⟨rfl,rfl⟩
             go_wp2_with fail
             refine ER.out.mono ?_
             rintro e wE ⟨b,rfl,hg⟩
             have F3:=Hq (F2.out _ hg)
             clear hg
             go_wp2_with fail
             go_meet
             case rel=>exact F3.out
           ·have u1:(x != 92)=true:=by simpa using hx
            have F2:=Hq (fun wc hg=>FIN.out wc hg (by rw [HUA.out,if_neg (by omega)]; omega))
            clear HBB2 FIN hneg hx
            go_wp2_with fail
            refine H2.out.mono ?_
            rintro e w' ⟨rfl,rfl⟩
            go_wp2_with fail
            refine ER.out.mono ?_
            rintro e wE ⟨b,rfl,hg⟩
            have F3:=Hq (F2.out _ hg)
            clear hg
            go_wp2_with fail
            go_meet
            case rel=>exact F3.out
         ·have t8:decide ((L:Int)<(n2:Int)+6+6)=true:=by simp; omega
          have t9:decide (L<n2+6+6)=true:=by simp; omega
          have hpos:p+(n2+6)+(L-1-(n2+6))=p+(L-1):=by omega
          have hl34:p+(L-1)<s.size:=by have:=HLEN.out; omega
          have c34:w5.cell? ⟨B,p+(n2+6)+(L-1-(n2+6)),none⟩=some (.int .u8 34):=by
           rw [hpos,HU2.out.uw.buf (p+(L-1)) hl34]
           have e:=HL.out.drop (n:=L-1) (by omega) (by have:=HLEN.out; omega)
           rw [show Y.drop (L-1-1)=[] from List.drop_of_length_le (by have:=HLEN.out; omega),List.nil_append,bytes_drop hl34] at e
           rw [(List.cons.inj e).1]
          have PN:=Hq (prefix158_no B (p+(n2+6)) (cap-(n2+6)) (L-(n2+6)) (L-1-(n2+6)) s true w5 (by have:=HLEN.out; omega) HU2.out.uw.buf (by omega) (by omega) c34)
          have ER:=Hq (escErr159 B (p+n2) (L-n2) (cap-n2) s w5 (by have:=HLEN.out; omega) HU2.out.uw.buf)
          have F2:=Hq (fun wc hg=>FIN.out wc hg (by rw [unitAt_short (by rw [List.length_drop]; have:=HUL.out; omega)]; omega))
          have hn6:n2+6<cap:=by omega
          have hn6L:n2+6≤L:=by omega
          clear HBB2 FIN c34 hpos
          go_wp2_with fail
          refine PN.out.mono ?_
          rintro e w' ⟨rfl,rfl⟩
          go_wp2_with fail
          refine ER.out.mono ?_
          rintro e wE ⟨b,rfl,hg⟩
          have F3:=Hq (F2.out _ hg)
          clear hg
          go_wp2_with fail
          go_meet
          case rel=>exact F3.out
       case rest=>
        obtain ⟨rr,k,ok,rfl,rfl,hk1,hr0,hr1,hr2,HP,HG5⟩:=hcut
        have HU3:=Hq (HU2.out.below HG5.out)
        have P1:=Hq (PF.out.put hnY HP.out)
        have hMb:M+(n2-i)+4≤140737488355328:=by omega
        have RN:=Hq (rune156 base aoB cB (M+(n2-i)) _ rr hr0 hr1 hr2 wc HU3.out.now hMb HU3.out.base)
        have htop:n2+k+1≤L:=by have:=P1.out.top; have:=HLEN.out; omega
        clear H1 OX2 HX2
        go_wp2_with fail
        refine RN.out.mono ?_
        rintro e w7 ⟨aoC,cC,rfl,hg⟩
        have HU4:=Hq (HU3.out.put rfl hg)
        clear hg RN
        go_wp2_with fail
        go_roundg (L-(n2+k))
        case measure=>have:=HG.out; omega
        case rel=>exact ⟨n2+k,n2+k,_,cC,aoC,_,rfl,by go_num,by go_num,by omega,by omega,htop,P1,HU4,Hq rfl⟩
      all_goals
       as_aux_lemma=>
       have P1f:=fun x h=>PF.out.put hnY (show pieceD (Y.drop (n2-1))=([x],2,true) by rw [HCT.out.1]; exact piece_esc h)
       have P1:=Hq (P1f _ (by first|exact .inl ⟨rfl,rfl⟩|exact .inr (.inl ⟨rfl,rfl⟩)|exact .inr (.inr (.inl ⟨rfl,rfl⟩))|exact .inr (.inr (.inr (.inl ⟨rfl,rfl⟩)))|exact .inr (.inr (.inr (.inr (.inl ⟨rfl,rfl⟩))))|exact .inr (.inr (.inr (.inr (.inr ⟨by decide,rfl⟩))))))
       clear hde P1f
       go_wp2_with (at_builtin; refine wpList_appS _ rfl _ _ 47 47 rfl base 5 i0 _ 1 Tryz.underlying47 hi hz0 hz1 hz2 rfl _ _ _ rfl (OX2.out.alloc _) _ _ _ rfl (srcN.out _) ?e1 ?e2 ?e3 ?_)
       case e1=>simp only [maxLen]; omega
       case e2=>omega
       case e3=>have:=HU2.out.base; simp; omega
       intro aoC cC w7 q1 q2 q3 q4
       have HU3:=Hq (HU2.out.appN (zs:=[_]) HX2.out rfl rfl q1 q2 q3 q4)
       clear q1 q2 q3 q4 OX2
       go_wp2_with fail
       go_roundg (L-(n2+2))
       case measure=>have:=HG.out; omega
       case rel=>exact ⟨n2+2,n2+2,_,cC,aoC,_,rfl,by go_num,by go_num,by omega,by omega,by omega,P1,HU3,Hq rfl⟩
     ·as_aux_lemma=>
      rw [HCT.out.2.2,runeO_q] at hr
      have P1:=Hq (HP2.out.verb hnY (by rw [HCT.out.1]; exact piece_rune h128 hr hk2))
      have htop:n2+k+1≤L:=by have:=P1.out.top; have:=HLEN.out; omega
      have tk:decide ((1:Int)<(k:Int))=true:=by simp; omega
      have tk2:decide (1<k)=true:=by simp; omega
      clear hd hr h128 h32 hesc
      go_wp2_with fail
      go_roundg (L-(n2+k))
      case measure=>have:=HG.out; omega
      case rel=>exact ⟨n2+k,i,M,cA,aoA,acc,rfl,rfl,by go_num,hi1,by omega,htop,P1,HU1,Hq rfl⟩
     ·as_aux_lemma=>
      rw [HCT.out.2.2,runeO_q] at hr
      obtain ⟨X,OX,HX⟩:=HU1.out.row
      obtain ⟨pd,Z,SP,HZ,HPD,HK⟩:=HP2.out.pend HL.out HU1.out.uw.buf
      have P1:=Hq (show UP Y (n2+1) (n2+1) (acc++pd++brk) r by
       have h:=HP2.out.flush
       rw [← HPD.out] at h
       exact h.put hnY (by rw [HCT.out.1]; exact piece_bad h128 hr))
      have M34:=Hq (show (34:Int)∈(bytes s).drop (p+n2) by rw [HCT.out.2.1,HCT.out.2.2]; simp)
      have H128:=Hq (show ¬ (s[p+n2].toNat:Int)<128 by rw [HCC.out]; exact h128)
      have hic:i<cap:=by omega
      have hi2:i≤n2:=by omega
      have hnc:n2≤cap:=by omega
      clear hd hr h128 h32 hesc
      go_wp2_with (at_builtin; refine wpList_appS _ rfl _ _ 47 47 rfl base 5 i0 _ 1 Tryz.underlying47 hi hz0 hz1 hz2 rfl _ _ _ rfl OX.out _ _ _ rfl (SP.out _) ?c1 ?c2 HU1.out.base ?_)
      case c1=>simp only [maxLen]; omega
      case c2=>omega
      intro aoB cB w5 q1 q2 q3 q4
      have HU2:=Hq (HU1.out.app HX.out HZ.out HK.out q1 q2 q3 q4)
      clear q1 q2 q3 q4 SP OX
      have FQ:=fullQ B (p+n2) (cap-n2) s w5 HU2.out.uw.gl.tabs hltb HU2.out.uw.buf (by have:=H128.out; omega) M34.out
      rw [show s.size-(p+n2)=L-n2 by have:=HLEN.out; omega] at FQ
      have FQ:=Hq FQ
      go_wp2_with fail
      refine FQ.out.mono ?_
      rintro e w6 ⟨rfl,hb6⟩
      have HU3:=Hq (HU2.out.below hb6)
      clear hb6 FQ
      obtain ⟨X3,OX3,HX3⟩:=HU3.out.row
      go_wp2_with (at_builtin; refine wpList_appS _ rfl _ _ 47 9 rfl base 5 i0 _ 1 Tryz.underlying47 hi hz0 hz1 hz2 rfl _ _ _ rfl OX3.out _ 3 [.int .u8 239,.int .u8 191,.int .u8 189] rfl (Src.ofString w6 Tryz.underlying9 _) ?d1 ?d2 HU3.out.base ?_)
      case d1=>simp only [maxLen]; omega
      case d2=>omega
      intro aoC cC w7 q1 q2 q3 q4
      have HU4:=Hq (HU3.out.app (zs:=brk) HX3.out rfl rfl q1 q2 q3 q4)
      have ci:=HU4.out.uw.gl.inv
      clear q1 q2 q3 q4 OX3
      go_wp2_with fail
      go_roundg (L-(n2+1))
      case measure=>have:=HG.out; omega
      case rel=>exact ⟨n2+1,n2+1,_,cC,aoC,_,rfl,by go_num,by go_num,by omega,by omega,by omega,P1,HU4,Hq rfl⟩
end Go.Proofs.YtknaalohaagcdaaGreatDoor.Own
