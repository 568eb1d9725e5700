import Derived.Test.YtknaalohaagcdaaGreatDoorG01
import Derived.Test.YtknaalohaagcdaaGreatDoorG08
set_option maxHeartbeats 400000000
set_option maxRecDepth 100000
namespace Go.Proofs.YtknaalohaagcdaaGreatDoor.Own
open Go.RowKit JG
theorem head_ne{xs:List Int}{c:Int}(hc:¬ c=0)(h:xs.headD 0=c):∃ t,xs=c::t:=by
 cases xs with
 |nil=>exact absurd h.symm hc
 |cons d t=>exact ⟨t,by rw [show d=c from h]⟩
theorem needs_loc{l m:Int}{xs:List Int}(h:needs l m xs=some 1):∃ c t,xs=c::t∧∀ ys,needs l m (c::ys)=some 1:=by
 cases xs with
 |nil=>cases h
 |cons c t=>exact ⟨c,t,rfl,fun ys=>h⟩
theorem hexO_loc{l m:Int}{xs:List Int}(hl:0≤l)(h:hexO l m xs=some 1):∃ c t,xs=c::t∧∀ ys,hexO l m (c::ys)=some 1:=by
 cases xs with
 |nil=>have:=hexO_ne hl h; simp at this
 |cons c t=>exact ⟨c,t,rfl,fun ys=>h⟩
theorem chain_loc:∀ {r:List (Int × Int)} {xs:List Int} {n:Nat},(∀ b∈r,0≤b.1)→chain r xs=some n→n=r.length∧∃ pre rest,xs=pre++rest∧pre.length=n∧∀ ys,chain r (pre++ys)=some n
 |[],xs,n,_,h=>by
  have:0=n:=Option.some.inj h
  exact ⟨this.symm,[],xs,rfl,this,fun ys=>by rw [← this]; rfl⟩
 |(l,m)::r,xs,n,hb,h=>by
  by_cases hx:hexO l m xs=some 1
  ·rw [chain_yes hx] at h
   obtain ⟨c,t,rfl,hc⟩:=hexO_loc (hb (l,m) (by simp)) hx
   cases he:chain r t with
   |none=>rw [List.tail_cons,he] at h; cases h
   |some k=>
    rw [List.tail_cons,he] at h
    obtain rfl:k+1=n:=Option.some.inj h
    obtain ⟨h1,pre,rest,rfl,h2,h3⟩:=chain_loc (fun b hb'=>hb b (by simp [hb'])) he
    refine ⟨by simp [h1],c::pre,rest,rfl,by simp [h2],fun ys => ?_⟩
    rw [List.cons_append,chain_yes (hc _),List.tail_cons,h3]
    rfl
  ·rw [chain_no hx] at h
   cases h
theorem chainN_loc:∀ {r:List (Int × Int)} {xs:List Int} {n:Nat},chainN r xs=some n→n=r.length∧∃ pre rest,xs=pre++rest∧pre.length=n∧∀ ys,chainN r (pre++ys)=some n
 |[],xs,n,h=>by
  have:0=n:=Option.some.inj h
  exact ⟨this.symm,[],xs,rfl,this,fun ys=>by rw [← this]; rfl⟩
 |(l,m)::r,xs,n,h=>by
  by_cases hx:needs l m xs=some 1
  ·rw [chainN_yes hx] at h
   obtain ⟨c,t,rfl,hc⟩:=needs_loc hx
   cases he:chainN r t with
   |none=>rw [List.tail_cons,he] at h; cases h
   |some k=>
    rw [List.tail_cons,he] at h
    obtain rfl:k+1=n:=Option.some.inj h
    obtain ⟨h1,pre,rest,rfl,h2,h3⟩:=chainN_loc he
    refine ⟨by simp [h1],c::pre,rest,rfl,by simp [h2],fun ys => ?_⟩
    rw [List.cons_append,chainN_yes (hc _),List.tail_cons,h3]
    rfl
  ·rw [chainN_no hx] at h
   cases h
theorem len4{pre:List Int}(h:pre.length=4):∃ a b c d,pre=[a,b,c,d]:=by
 match pre,h with
 |[a,b,c,d],_=>exact ⟨a,b,c,d,rfl⟩
theorem unitH_loc{lo:Bool}{xs:List Int}{n:Nat}(h:unitH lo xs=some n):n=4∧∃ a b c d rest,xs=a::b::c::d::rest∧∀ ys,unitH lo (a::b::c::d::ys)=some n∧halfH lo (a::b::c::d::ys)=halfH lo xs:=by
 have key:∀ r:List (Int × Int),(∀ b∈r,0≤b.1)→r.length=4→chain r xs=some n→(∀ a b c d ys,xs.headD 0=a→unitH lo (a::b::c::d::ys)=chain r (a::b::c::d::ys))→
   n=4∧∃ a b c d rest,xs=a::b::c::d::rest∧∀ ys,unitH lo (a::b::c::d::ys)=some n∧halfH lo (a::b::c::d::ys)=halfH lo xs:=by
  intro r hb hr hc hu
  obtain ⟨h1,pre,rest,rfl,h2,h3⟩:=chain_loc hb hc
  obtain ⟨a,b,c,d,rfl⟩:=len4 (by omega:pre.length=4)
  exact ⟨by omega,a,b,c,d,rest,rfl,fun ys=>⟨by rw [hu a b c d ys rfl]; exact h3 ys,rfl⟩⟩
 unfold unitH at h
 split at h
 ·refine key c4 (by decide) rfl h (fun a b c d ys _ => ?_)
  unfold unitH
  rw [if_pos ‹_›]
 ·split at h
  ·refine key c13 (by decide) rfl h (fun a b c d ys ha => ?_)
   unfold unitH
   rw [if_neg ‹_›,if_pos (by rw [← ha] at *; assumption)]
  ·refine key c4 (by decide) rfl h (fun a b c d ys ha => ?_)
   unfold unitH
   rw [if_neg ‹_›,if_neg (by rw [← ha] at *; assumption)]
theorem unitL_loc{lo:Bool}{xs:List Int}{n:Nat}(h:unitL lo xs=some n):n=4∧∃ pre rest,xs=pre++rest∧pre.length=n∧∀ ys,unitL lo (pre++ys)=some n:=by
 unfold unitL at h
 unfold unitL
 split at h
 ·obtain ⟨h1,h2⟩:=chain_loc (by decide) h
  exact ⟨h1,by simp only [if_pos ‹lo=true›]; exact h2⟩
 ·obtain ⟨h1,h2⟩:=chain_loc (by decide) h
  exact ⟨h1,by simp only [if_neg ‹¬ lo=true›]; exact h2⟩
def Loc(f:List Int→Option Nat)(xs:List Int)(n:Nat):Prop:=∃ pre rest,xs=pre++rest∧pre.length=n∧∀ ys,f (pre++ys)=some n
theorem escO_loc{lo:Bool}{xs:List Int}{n:Nat}(h:escO lo xs=some n):1≤n∧Loc (escO lo) xs n:=by
 unfold escO at h
 split at h
 ·rename_i hs
  obtain rfl:1=n:=Option.some.inj h
  cases xs with
  |nil=>exact absurd hs (by unfold isSimple; simp)
  |cons c t=>
   refine ⟨Nat.le_refl _,[c],t,rfl,rfl,fun ys => ?_⟩
   unfold escO
   rw [if_pos (by exact hs)]
 ·rename_i hs
  split at h
  ·rename_i hu
   obtain ⟨t,rfl⟩:=head_ne (by decide) hu
   rw [List.tail_cons] at h
   cases hk:unitH lo t with
   |none=>rw [hk] at h; cases h
   |some k=>
    rw [hk] at h
    obtain ⟨rfl,a,b,c,d,rest,rfl,h2⟩:=unitH_loc hk
    simp only at h
    split at h
    ·rename_i hh
     split at h
     ·rename_i hn
      obtain ⟨hn1,hn2⟩:=hn
      simp only [List.drop_succ_cons,List.drop_zero] at hn1 hn2 h
      obtain ⟨e1,t1,rfl,g1⟩:=needs_loc hn1
      simp only [List.drop_succ_cons,List.drop_zero] at hn2 h
      obtain ⟨e2,t2,rfl,g2⟩:=needs_loc hn2
      simp only [List.drop_succ_cons,List.drop_zero] at h
      cases hv:unitL lo t2 with
      |none=>rw [hv] at h; cases h
      |some v=>
       rw [hv] at h
       obtain rfl:v+(3+4)=n:=Option.some.inj h
       obtain ⟨rfl,pre,rest,rfl,h3,h4⟩:=unitL_loc hv
       refine ⟨by omega,117::a::b::c::d::e1::e2::pre,rest,rfl,by simp [h3],fun ys => ?_⟩
       unfold escO
       rw [if_neg (by exact hs),if_pos (by rfl)]
       simp only [List.cons_append,List.tail_cons]
       rw [(h2 _).1,(h2 _).2,hh]
       simp only [List.drop_succ_cons,List.drop_zero,if_true]
       rw [if_pos ⟨g1 _,g2 _⟩,h4]
       rfl
     ·cases h
    ·rename_i hh
     obtain rfl:1+4=n:=Option.some.inj h
     refine ⟨by omega,[117,a,b,c,d],rest,rfl,rfl,fun ys => ?_⟩
     unfold escO
     rw [if_neg (by exact hs),if_pos (by rfl)]
     simp only [List.cons_append,List.nil_append,List.tail_cons]
     rw [(h2 _).1,(h2 _).2]
     simp only
     rw [if_neg hh]
  ·cases h
theorem rune_loc{xs:List Int}{n:Nat}(h:runeO xs=some n):1≤n∧Loc runeO xs n:=by
 have key:∀ r:List (Int × Int),¬ xs.headD 0=0→(∀ ys,runeO (xs.headD 0::ys)=(chainN r ys).map (·+1))→(chainN r xs.tail).map (·+1)=some n→1≤n∧Loc runeO xs n:=by
  intro r h0 hr hc
  obtain ⟨t,ht⟩:=head_ne (c:=xs.headD 0) h0 rfl
  cases he:chainN r xs.tail with
  |none=>rw [he] at hc; cases hc
  |some k=>
   rw [he] at hc
   obtain rfl:k+1=n:=Option.some.inj hc
   obtain ⟨h1,pre,rest,h2,h3,h4⟩:=chainN_loc he
   refine ⟨by omega,xs.headD 0::pre,rest,?_,by simp [h3],fun ys => ?_⟩
   ·rw [List.cons_append,← h2]
    conv=>lhs; rw [ht]
    conv=>rhs; rw [ht]
    simp
   ·rw [List.cons_append,hr,h4]
    rfl
 unfold runeO at h
 by_cases h1:194≤xs.headD 0∧xs.headD 0≤223
 ·rw [if_pos h1] at h
  exact key _ (by omega) (fun ys=>by unfold runeO; rw [if_pos (by exact h1)]; rfl) h
 rw [if_neg h1] at h
 by_cases h2:xs.headD 0=224
 ·rw [if_pos h2] at h
  exact key _ (by omega) (fun ys=>by unfold runeO; rw [if_neg (by exact h1),if_pos (by exact h2)]; rfl) h
 rw [if_neg h2] at h
 by_cases h3:xs.headD 0=237
 ·rw [if_pos h3] at h
  exact key _ (by omega) (fun ys=>by unfold runeO; rw [if_neg (by exact h1),if_neg (by exact h2),if_pos (by exact h3)]; rfl) h
 rw [if_neg h3] at h
 by_cases h4:224≤xs.headD 0∧xs.headD 0≤239
 ·rw [if_pos h4] at h
  exact key _ (by omega) (fun ys=>by unfold runeO; rw [if_neg (by exact h1),if_neg (by exact h2),if_neg (by exact h3),if_pos (by exact h4)]; rfl) h
 rw [if_neg h4] at h
 by_cases h5:xs.headD 0=240
 ·rw [if_pos h5] at h
  exact key _ (by omega) (fun ys=>by unfold runeO; rw [if_neg (by exact h1),if_neg (by exact h2),if_neg (by exact h3),if_neg (by exact h4),if_pos (by exact h5)]; rfl) h
 rw [if_neg h5] at h
 by_cases h6:xs.headD 0=244
 ·rw [if_pos h6] at h
  exact key _ (by omega) (fun ys=>by unfold runeO; rw [if_neg (by exact h1),if_neg (by exact h2),if_neg (by exact h3),if_neg (by exact h4),if_neg (by exact h5),if_pos (by exact h6)]; rfl) h
 rw [if_neg h6] at h
 by_cases h7:240≤xs.headD 0∧xs.headD 0≤244
 ·rw [if_pos h7] at h
  exact key _ (by omega) (fun ys=>by unfold runeO; rw [if_neg (by exact h1),if_neg (by exact h2),if_neg (by exact h3),if_neg (by exact h4),if_neg (by exact h5),if_neg (by exact h6),if_pos (by exact h7)]; rfl) h
 rw [if_neg h7] at h
 cases h
theorem stp_loc{lo:Bool}{xs:List Int}{n:Nat}(h:stp lo xs=some n):1≤n∧Loc (stp lo) xs n:=by
 cases xs with
 |nil=>cases h
 |cons c t=>
  have h':(if c=92 then (escO lo t).map (·+1) else if c<32 then none else if c<128∨lo=true then some 1 else runeO (c::t))=some n:=h
  by_cases h1:c=92
  ·rw [if_pos h1] at h'
   cases he:escO lo t with
   |none=>rw [he] at h'; cases h'
   |some k=>
    rw [he] at h'
    obtain rfl:k+1=n:=Option.some.inj h'
    obtain ⟨_,pre,rest,rfl,g2,g3⟩:=escO_loc he
    refine ⟨by omega,c::pre,rest,rfl,by simp [g2],fun ys => ?_⟩
    show (if c=92 then (escO lo (pre++ys)).map (·+1) else _)=_
    rw [if_pos h1,g3]
    rfl
  rw [if_neg h1] at h'
  by_cases h2:c<32
  ·rw [if_pos h2] at h'; cases h'
  rw [if_neg h2] at h'
  by_cases h3:c<128∨lo=true
  ·rw [if_pos h3] at h'
   obtain rfl:1=n:=Option.some.inj h'
   refine ⟨Nat.le_refl _,[c],t,rfl,rfl,fun ys => ?_⟩
   show (if c=92 then _ else if c<32 then none else if c<128∨lo=true then some 1 else _)=_
   rw [if_neg h1,if_neg h2,if_pos h3]
  rw [if_neg h3] at h'
  obtain ⟨g1,pre,rest,g2,g3,g4⟩:=rune_loc h'
  refine ⟨g1,pre,rest,g2,g3,fun ys => ?_⟩
  cases pre with
  |nil=>simp at g3; omega
  |cons d pre'=>
   obtain rfl:c=d:=by rw [List.cons_append] at g2; exact (List.cons.inj g2).1
   show (if c=92 then _ else if c<32 then none else if c<128∨lo=true then some 1 else runeO (c::pre'++ys))=_
   rw [if_neg h1,if_neg h2,if_neg h3,g4]
theorem drop_app{pre ys:List Int}{n:Nat}(h:pre.length=n):(pre++ys).drop n=ys:=by subst h; simp
theorem sq_loc{lo:Bool}:∀ (m:Nat) {xs:List Int} {n:Nat},xs.length≤m→sq lo 0 xs=some n→∃ pre rest,xs=pre++34::rest∧pre.length=n∧∀ ys,sq lo 0 (pre++34::ys)=some n
 |m,[],n,_,h=>by cases h
 |0,_::_,n,hm,h=>by simp at hm
 |m+1,c::t,n,hm,h=>by
  by_cases hc:c=34
  ·have h':(if c=34 then some 0 else _)=some n:=h
   rw [if_pos hc] at h'
   obtain rfl:0=n:=Option.some.inj h'
   subst hc
   exact ⟨[],t,rfl,rfl,fun ys=>by rfl⟩
  ·rw [sq_cons hc] at h
   cases es:stp lo (c::t) with
   |none=>rw [es] at h; cases h
   |some q=>
    rw [es] at h
    have h':(sq lo (q-1) t).map (·+1)=some n:=h
    rw [sq_skip,map_add] at h'
    obtain ⟨g1,pre,rest,g2,g3,g4⟩:=stp_loc es
    rw [show t.drop (q-1)=rest by
     rw [show t.drop (q-1)=(c::t).drop q by obtain ⟨k,rfl⟩:∃ k,q=k+1:=⟨q-1,by omega⟩; simp,g2,drop_app g3]] at h'
    cases e:sq lo 0 rest with
    |none=>rw [e] at h'; cases h'
    |some i=>
     rw [e] at h'
     obtain rfl:i+(q-1+1)=n:=Option.some.inj h'
     have hlen:=congrArg List.length g2
     simp only [List.length_cons,List.length_append] at hlen hm
     obtain ⟨pre2,rest2,rfl,k2,k3⟩:=sq_loc m (by omega) e
     refine ⟨pre++pre2,rest2,by rw [g2,List.append_assoc],by rw [List.length_append]; omega,fun ys => ?_⟩
     rw [List.append_assoc]
     cases pre with
     |nil=>simp at g3; omega
     |cons d pre'=>
      obtain rfl:c=d:=by rw [List.cons_append] at g2; exact (List.cons.inj g2).1
      have gg:=g4 (pre2++34::ys)
      rw [List.cons_append] at gg ⊢
      rw [sq_cons hc,gg]
      show (sq lo (q-1) (pre'++(pre2++34::ys))).map (·+1)=_
      rw [sq_skip,map_add,drop_app (by simp at g3; omega),k3]
      rfl
theorem quotedO_loc{lo:Bool}{xs:List Int}{j:Nat}(h:quotedO lo xs=some j):1≤j∧∃ pre rest,xs=34::pre++34::rest∧(34::pre).length=j∧sq lo 0 (pre++34::rest)=some pre.length∧∀ ys,quotedO lo (34::pre++34::ys)=some j:=by
 unfold quotedO at h
 split at h
 ·rename_i hh
  obtain ⟨t,rfl⟩:=head_ne (by decide) hh
  cases e:sq lo 0 t with
  |none=>rw [List.tail_cons,e] at h; cases h
  |some m=>
   rw [List.tail_cons,e] at h
   obtain rfl:m+1=j:=Option.some.inj h
   obtain ⟨pre,rest,rfl,k2,k3⟩:=sq_loc t.length (Nat.le_refl _) e
   refine ⟨by omega,pre,rest,rfl,by simp [k2],by rw [e,k2],fun ys => ?_⟩
   unfold quotedO
   rw [if_pos (by rfl)]
   simp only [List.cons_append,List.tail_cons]
   rw [k3]
   rfl
 ·cases h
theorem wordAt_loc:∀ {l xs:List Int} {n:Nat},wordAt l xs=some n→n=l.length∧∃ rest,xs=l++rest∧∀ ys,wordAt l (l++ys)=some n
 |[],xs,n,h=>by
  obtain rfl:0=n:=Option.some.inj h
  exact ⟨rfl,xs,rfl,fun ys=>rfl⟩
 |_::_,[],n,h=>by cases h
 |a::l,c::t,n,h=>by
  have h':(if c=a then (wordAt l t).map (·+1) else none)=some n:=h
  split at h'
  ·rename_i hc
   subst hc
   cases e:wordAt l t with
   |none=>rw [e] at h'; cases h'
   |some k=>
    rw [e] at h'
    obtain rfl:k+1=n:=Option.some.inj h'
    obtain ⟨g1,rest,rfl,g2⟩:=wordAt_loc e
    refine ⟨by simp [g1],rest,rfl,fun ys => ?_⟩
    show (if c=c then (wordAt l (l++ys)).map (·+1) else none)=_
    rw [if_pos rfl,g2]
    rfl
  ·cases h'
def goesOn(c:Int):Prop:=c=46∨c=101∨c=69∨(48≤c∧c≤57)
def okB(rest ys:List Int):Prop:=¬ goesOn (ys.headD 0)∨ys.headD 0=rest.headD 0
def NLoc(f:List Int→Option Nat)(xs:List Int)(n:Nat):Prop:=∃ pre rest,xs=pre++rest∧pre.length=n∧∀ ys:List Int,okB rest ys→f (pre++ys)=some n
theorem isDig_iff2(c:Int):isDig c=true↔48≤c∧c≤57:=by unfold isDig; simp
theorem digs_nil{ys:List Int}(h:isDig (ys.headD 0)=false):digs ys=0:=by
 cases ys with
 |nil=>rfl
 |cons c t=>show (if isDig c then digs t+1 else 0)=0; rw [if_neg (by rw [show isDig c=false from h]; simp)]
theorem digs_loc:∀ (xs:List Int),∃ pre rest,xs=pre++rest∧pre.length=digs xs∧isDig (rest.headD 0)=false∧∀ ys:List Int,isDig (ys.headD 0)=false→digs (pre++ys)=digs xs
 |[]=>⟨[],[],rfl,rfl,rfl,fun ys h=>digs_nil h⟩
 |c::t=>by
  by_cases hd:isDig c=true
  ·obtain ⟨pre,rest,h1,h2,h4,h3⟩:=digs_loc t
   have e:digs (c::t)=digs t+1:=by show (if isDig c then _ else _)=_; rw [if_pos hd]
   refine ⟨c::pre,rest,by rw [List.cons_append,← h1],by rw [e]; simp [h2],h4,fun ys hy => ?_⟩
   rw [e]
   show (if isDig c then digs (pre++ys)+1 else 0)=_
   rw [if_pos hd,h3 ys hy]
  ·have e:digs (c::t)=0:=by show (if isDig c then _ else _)=_; rw [if_neg hd]
   refine ⟨[],c::t,rfl,by rw [e]; rfl,by simpa using hd,fun ys hy => ?_⟩
   rw [e]
   exact digs_nil hy
theorem digsO_stop{xs:List Int}{k:Nat}(h:digsO xs=some k):1≤k∧∃ pre rest,xs=pre++rest∧pre.length=k∧isDig (rest.headD 0)=false∧∀ q:List Int,isDig (q.headD 0)=false→digsO (pre++q)=some k:=by
 unfold digsO at h
 split at h
 ·cases h
 ·rename_i h0
  obtain rfl:digs xs=k:=Option.some.inj h
  obtain ⟨pre,rest,h1,h2,h4,h3⟩:=digs_loc xs
  refine ⟨by omega,pre,rest,h1,h2,h4,fun q hq => ?_⟩
  unfold digsO
  rw [h3 q hq,if_neg h0]
theorem ok_dig{rest ys:List Int}(h:okB rest ys)(hr:isDig (rest.headD 0)=false):isDig (ys.headD 0)=false:=by
 rcases h with h|h
 ·cases hx:isDig (ys.headD 0) with
  |false=>rfl
  |true=>exact absurd (.inr (.inr (.inr ((isDig_iff2 _).1 hx)))) h
 ·rw [h]; exact hr
theorem sgn_loc(xs:List Int):∃ pre rest,xs=pre++rest∧pre.length=sgn xs∧∀ ys:List Int,(pre=[]→sgn ys=0)→sgn (pre++ys)=sgn xs:=by
 cases xs with
 |nil=>exact ⟨[],[],rfl,rfl,fun ys h=>h rfl⟩
 |cons c t=>
  by_cases hc:c=45∨c=43
  ·have e:∀ u,sgn (c::u)=1:=fun u=>by show (if _ then _ else _)=_; rw [if_pos hc]
   exact ⟨[c],t,rfl,(e t).symm,fun ys _=>by rw [List.singleton_append,e,e]⟩
  ·have e:∀ u,sgn (c::u)=0:=fun u=>by show (if _ then _ else _)=_; rw [if_neg hc]
   exact ⟨[],c::t,rfl,(e t).symm,fun ys h=>by rw [List.nil_append,h rfl,e]⟩
theorem expo_zero{ys:List Int}(h:¬ (ys.headD 0=101∨ys.headD 0=69)):expo ys=some 0:=by
 cases ys with
 |nil=>rfl
 |cons c t=>show (if c=101∨c=69 then _ else _)=_; rw [if_neg (show ¬ (c=101∨c=69) from h)]
theorem digsO_sgn{xs:List Int}{n:Nat}(h:digsO xs=some n)(ys:List Int):sgn (xs++ys)=0:=by
 cases xs with
 |nil=>unfold digsO at h; rw [if_pos (by rfl)] at h; cases h
 |cons c t=>
  unfold digsO at h
  split at h
  ·cases h
  ·rename_i hd
   have:isDig c=true:=by
    by_cases hc:isDig c=true
    ·exact hc
    ·exact absurd (by show (if isDig c then _ else _)=_; rw [if_neg hc]) hd
   have:=(isDig_iff2 c).1 this
   show (if c=45∨c=43 then 1 else 0)=0
   rw [if_neg (by omega)]
theorem expo_loc{xs:List Int}{n:Nat}(h:expo xs=some n):NLoc expo xs n:=by
 by_cases he:xs.headD 0=101∨xs.headD 0=69
 ·obtain ⟨t,ht⟩:∃ t,xs=xs.headD 0::t:=head_ne (by omega) rfl
  generalize xs.headD 0=c at he ht
  subst ht
  have h':(if c=101∨c=69 then (digsO (t.drop (sgn t))).map (·+(1+sgn t)) else some 0)=some n:=h
  rw [if_pos he] at h'
  obtain ⟨ps,rs,g1,g2,g3⟩:=sgn_loc t
  cases hk:digsO (t.drop (sgn t)) with
  |none=>rw [hk] at h'; cases h'
  |some k=>
   rw [hk] at h'
   obtain rfl:k+(1+sgn t)=n:=Option.some.inj h'
   rw [show t.drop (sgn t)=rs by
    conv=>lhs; rw [← g2,g1]
    simp] at hk
   obtain ⟨_,pd,rd,rfl,d2,d4,d3⟩:=digsO_stop hk
   refine ⟨c::(ps++pd),rd,by rw [g1]; simp,by simp [g2,d2]; omega,fun ys hy => ?_⟩
   have hs:sgn (ps++(pd++ys))=sgn t:=g3 _ (fun _=>digsO_sgn (n:=k) (by
    have:=d3 [] (by rfl)
    rwa [List.append_nil] at this) ys)
   show (if c=101∨c=69 then (digsO ((ps++pd++ys).drop (sgn (ps++pd++ys)))).map (·+(1+sgn (ps++pd++ys))) else some 0)=_
   rw [if_pos he,List.append_assoc,hs,drop_app g2,d3 ys (ok_dig hy d4)]
   rfl
 ·rw [expo_zero he] at h
  obtain rfl:0=n:=Option.some.inj h
  exact ⟨[],xs,rfl,rfl,fun ys hy=>expo_zero (fun hh=>by
   rw [List.nil_append] at hh
   rcases hy with hy|hy
   ·exact hy (by unfold goesOn; omega)
   ·rw [hy] at hh; exact he hh)⟩
theorem frac_else{ys:List Int}(h:¬ ys.headD 0=46):frac ys=expo ys:=by
 cases ys with
 |nil=>rfl
 |cons c t=>show (if c=46 then _ else _)=_; rw [if_neg (show ¬ c=46 from h)]
theorem expo_head2{xs:List Int}{n:Nat}(hn:expo xs=some n):n=0∨xs.headD 0=101∨xs.headD 0=69:=by
 by_cases he:xs.headD 0=101∨xs.headD 0=69
 ·exact .inr he
 ·rw [expo_zero he] at hn
  exact .inl (Option.some.inj hn).symm
theorem behind{p rest:List Int}{n:Nat}(hn:n=0∨(p++rest).headD 0=101∨(p++rest).headD 0=69∨(p++rest).headD 0=46)(hp:p.length=n):(p=[]∧n=0)∨∃ c q,p=c::q∧(c=101∨c=69∨c=46):=by
 cases p with
 |nil=>exact .inl ⟨rfl,hp.symm⟩
 |cons c q=>
  rcases hn with h|h
  ·simp at hp; omega
  ·exact .inr ⟨c,q,rfl,h⟩
theorem frac_loc{xs:List Int}{n:Nat}(h:frac xs=some n):NLoc frac xs n∧(n=0∨xs.headD 0=101∨xs.headD 0=69∨xs.headD 0=46):=by
 by_cases he:xs.headD 0=46
 ·obtain ⟨t,rfl⟩:=head_ne (by decide) he
  refine ⟨?_,.inr (.inr (.inr rfl))⟩
  have h':(if (46:Int)=46 then (digsO t).bind fun k=>(expo (t.drop k)).map (·+(1+k)) else expo (46::t))=some n:=h
  rw [if_pos rfl] at h'
  cases hk:digsO t with
  |none=>rw [hk] at h'; cases h'
  |some k=>
   rw [hk] at h'
   obtain ⟨_,pd,rd,rfl,d2,d4,d3⟩:=digsO_stop hk
   rw [show (some k).bind (fun k=>(expo ((pd++rd).drop k)).map (·+(1+k)))=(expo ((pd++rd).drop k)).map (·+(1+k)) from rfl,drop_app d2] at h'
   cases hv:expo rd with
   |none=>rw [hv] at h'; cases h'
   |some v=>
    rw [hv] at h'
    obtain rfl:v+(1+k)=n:=Option.some.inj h'
    have hh:=expo_head2 hv
    obtain ⟨pe,re,rfl,e2,e3⟩:=expo_loc hv
    refine ⟨46::(pd++pe),re,by simp,by simp [d2,e2]; omega,fun ys hy => ?_⟩
    show (if (46:Int)=46 then (digsO (pd++pe++ys)).bind fun k=>(expo ((pd++pe++ys).drop k)).map (·+(1+k)) else expo (46::(pd++pe++ys)))=_
    have hd:isDig ((pe++ys).headD 0)=false:=by
     rcases behind (rest:=re) (p:=pe) (n:=v) (by rcases hh with h|h|h; exact .inl h; exact .inr (.inl h); exact .inr (.inr (.inl h))) e2 with ⟨rfl,_⟩|⟨c,q,rfl,hc⟩
     ·exact ok_dig hy d4
     ·show isDig c=false
      unfold isDig
      rcases hc with rfl|rfl|rfl<;>decide
    rw [if_pos rfl,List.append_assoc,d3 _ hd]
    show (expo ((pd++(pe++ys)).drop k)).map (·+(1+k))=_
    rw [drop_app d2,e3 ys hy]
    rfl
 ·rw [frac_else he] at h
  have hh:=expo_head2 h
  refine ⟨?_,by rcases hh with h|h|h; exact .inl h; exact .inr (.inl h); exact .inr (.inr (.inl h))⟩
  obtain ⟨pe,re,rfl,e2,e3⟩:=expo_loc h
  refine ⟨pe,re,rfl,e2,fun ys hy => ?_⟩
  rw [frac_else,e3 ys hy]
  cases pe with
  |nil=>
   rcases hy with hy|hy
   ·exact fun h=>hy (.inl h)
   ·exact fun h=>he (hy▸h)
  |cons c q=>exact he
theorem whole_loc{xs:List Int}{n:Nat}(h:whole xs=some n):1≤n∧NLoc whole xs n∧(48≤xs.headD 0∧xs.headD 0≤57):=by
 cases xs with
 |nil=>cases h
 |cons c t=>
  have h':(if c=48 then (frac t).map (·+1) else (digsO (c::t)).bind fun k=>(frac ((c::t).drop k)).map (·+k))=some n:=h
  by_cases hc:c=48
  ·rw [if_pos hc] at h'
   cases hv:frac t with
   |none=>rw [hv] at h'; cases h'
   |some v=>
    rw [hv] at h'
    obtain rfl:v+1=n:=Option.some.inj h'
    obtain ⟨⟨pe,re,rfl,e2,e3⟩,_⟩:=frac_loc hv
    refine ⟨by omega,⟨c::pe,re,rfl,by simp [e2],fun ys hy => ?_⟩,by show 48≤c∧c≤57; omega⟩
    show (if c=48 then (frac (pe++ys)).map (·+1) else _)=_
    rw [if_pos hc,e3 ys hy]
    rfl
  ·rw [if_neg hc] at h'
   cases hk:digsO (c::t) with
   |none=>rw [hk] at h'; cases h'
   |some k=>
    rw [hk] at h'
    have hdc:isDig c=true:=by
     by_cases hx:isDig c=true
     ·exact hx
     ·unfold digsO at hk
      rw [if_pos (by show (if isDig c then _ else 0)=0; rw [if_neg hx])] at hk
      cases hk
    obtain ⟨k1,pd,rd,hx,d2,d4,d3⟩:=digsO_stop hk
    rw [hx] at h'
    rw [show (some k).bind (fun k=>(frac ((pd++rd).drop k)).map (·+k))=(frac ((pd++rd).drop k)).map (·+k) from rfl,drop_app d2] at h'
    cases hv:frac rd with
    |none=>rw [hv] at h'; cases h'
    |some v=>
     rw [hv] at h'
     obtain rfl:v+k=n:=Option.some.inj h'
     obtain ⟨⟨pe,re,rfl,e2,e3⟩,hh⟩:=frac_loc hv
     refine ⟨by omega,⟨pd++pe,re,by rw [hx,List.append_assoc],by rw [List.length_append]; omega,fun ys hy => ?_⟩,(isDig_iff2 c).1 hdc⟩
     cases pd with
     |nil=>simp at d2; omega
     |cons d pd'=>
      obtain rfl:c=d:=by rw [List.cons_append] at hx; exact (List.cons.inj hx).1
      have hd:isDig ((pe++ys).headD 0)=false:=by
       rcases behind (rest:=re) (p:=pe) (n:=v) hh e2 with ⟨rfl,_⟩|⟨c,q,rfl,hc⟩
       ·exact ok_dig hy d4
       ·show isDig c=false
        unfold isDig
        rcases hc with rfl|rfl|rfl<;>decide
      show (if c=48 then _ else (digsO (c::pd'++pe++ys)).bind fun k=>(frac ((c::pd'++pe++ys).drop k)).map (·+k))=_
      rw [if_neg hc,List.append_assoc,d3 _ hd]
      show (frac ((c::pd'++(pe++ys)).drop k)).map (·+k)=_
      rw [drop_app d2,e3 ys hy]
      rfl
theorem num_loc{xs:List Int}{n:Nat}(h:num xs=some n):1≤n∧NLoc num xs n:=by
 cases xs with
 |nil=>cases h
 |cons c t=>
  have h':(if c=45 then (whole t).map (·+1) else whole (c::t))=some n:=h
  by_cases hc:c=45
  ·rw [if_pos hc] at h'
   cases hv:whole t with
   |none=>rw [hv] at h'; cases h'
   |some v=>
    rw [hv] at h'
    obtain rfl:v+1=n:=Option.some.inj h'
    obtain ⟨_,⟨pe,re,rfl,e2,e3⟩,_⟩:=whole_loc hv
    refine ⟨by omega,c::pe,re,rfl,by simp [e2],fun ys hy => ?_⟩
    show (if c=45 then (whole (pe++ys)).map (·+1) else _)=_
    rw [if_pos hc,e3 ys hy]
    rfl
  ·rw [if_neg hc] at h'
   obtain ⟨h1,⟨pe,re,hx,e2,e3⟩,h3⟩:=whole_loc h'
   refine ⟨h1,pe,re,hx,e2,fun ys hy => ?_⟩
   cases pe with
   |nil=>simp at e2; omega
   |cons d pe'=>
    obtain rfl:c=d:=by rw [List.cons_append] at hx; exact (List.cons.inj hx).1
    show (if c=45 then _ else whole (c::pe'++ys))=_
    rw [if_neg hc,e3 ys hy]
def numHead(c:Int):Prop:=c=45∨(48≤c∧c≤57)
theorem ws_loc:∀ xs:List Int,∃ pre rest,xs=pre++rest∧pre.length=ws xs∧isWs (rest.headD 0)=false∧(∀ c∈pre,isWs c=true)∧∀ ys:List Int,isWs (ys.headD 0)=false→ws (pre++ys)=ws xs
 |[]=>⟨[],[],rfl,rfl,rfl,by simp,fun ys h=>by
   cases ys with
   |nil=>rfl
   |cons c t=>show (if isWs c then _ else 0)=0; rw [if_neg (by rw [show isWs c=false from h]; simp)]⟩
 |c::t=>by
  by_cases hc:isWs c=true
  ·obtain ⟨pre,rest,h1,h2,h3,h4,h5⟩:=ws_loc t
   have e:ws (c::t)=ws t+1:=by show (if isWs c then _ else _)=_; rw [if_pos hc]
   refine ⟨c::pre,rest,by rw [List.cons_append,← h1],by rw [e]; simp [h2],h3,?_,fun ys hy => ?_⟩
   ·intro d hd
    rcases List.mem_cons.1 hd with rfl|hd
    ·exact hc
    ·exact h4 d hd
   ·rw [e]
    show (if isWs c then ws (pre++ys)+1 else 0)=_
    rw [if_pos hc,h5 ys hy]
  ·have e:ws (c::t)=0:=by show (if isWs c then _ else _)=_; rw [if_neg hc]
   refine ⟨[],c::t,rfl,by rw [e]; rfl,by simpa using hc,by simp,fun ys hy => ?_⟩
   rw [e]
   cases ys with
   |nil=>rfl
   |cons d u=>show (if isWs d then _ else 0)=0; rw [if_neg (by rw [show isWs d=false from hy]; simp)]
theorem isWs_iff(c:Int):isWs c=true↔c=32∨c=9∨c=10∨c=13:=by unfold isWs; simp [or_assoc]
theorem ws_goes{pw ys:List Int}(h:∀ c∈pw,isWs c=true)(hy:¬ goesOn (ys.headD 0)):¬ goesOn ((pw++ys).headD 0):=by
 cases pw with
 |nil=>exact hy
 |cons c t=>
  have:=(isWs_iff c).1 (h c (by simp))
  show ¬ goesOn c
  unfold goesOn
  omega
theorem head_app{p q r:List Int}(hp:1≤p.length):(p++q).headD 0=(p++r).headD 0:=by
 cases p with
 |nil=>simp at hp
 |cons c t=>rfl
theorem digs_last:∀ xs:List Int,1≤digs xs→isDig ((xs.drop (digs xs-1)).headD 0)=true
 |[],h=>by simp [digs] at h
 |c::t,h=>by
  by_cases hc:isDig c=true
  ·have e:digs (c::t)=digs t+1:=by show (if isDig c then _ else _)=_; rw [if_pos hc]
   rw [e]
   by_cases h0:digs t=0
   ·rw [h0]; exact hc
   ·have:=digs_last t (by omega)
    rw [show digs t+1-1=(digs t-1)+1 by omega]
    exact this
  ·have e:digs (c::t)=0:=by show (if isDig c then _ else _)=_; rw [if_neg hc]
   omega
theorem digsO_last{xs:List Int}{n:Nat}(h:digsO xs=some n):1≤n∧isDig ((xs.drop (n-1)).headD 0)=true:=by
 unfold digsO at h
 split at h
 ·cases h
 ·obtain rfl:digs xs=n:=Option.some.inj h
  exact ⟨by omega,digs_last xs (by omega)⟩
theorem drop_last{xs:List Int}{a n:Nat}(hn:1≤n):(xs.drop a).drop (n-1)=xs.drop (n+a-1):=by rw [List.drop_drop]; congr 1; omega
theorem expo_last{xs:List Int}{n:Nat}(h:expo xs=some n):n=0∨isDig ((xs.drop (n-1)).headD 0)=true:=by
 cases xs with
 |nil=>exact .inl (Option.some.inj h).symm
 |cons c t=>
  have h':(if c=101∨c=69 then (digsO (t.drop (sgn t))).map (·+(1+sgn t)) else some 0)=some n:=h
  split at h'
  ·cases hk:digsO (t.drop (sgn t)) with
   |none=>rw [hk] at h'; cases h'
   |some k=>
    rw [hk] at h'
    obtain rfl:k+(1+sgn t)=n:=Option.some.inj h'
    obtain ⟨h1,h2⟩:=digsO_last hk
    rw [drop_last h1] at h2
    right
    rw [show k+(1+sgn t)-1=(k+sgn t-1)+1 by omega]
    exact h2
  ·exact .inl (Option.some.inj h').symm
theorem frac_last{xs:List Int}{n:Nat}(h:frac xs=some n):n=0∨isDig ((xs.drop (n-1)).headD 0)=true:=by
 cases xs with
 |nil=>exact .inl (Option.some.inj h).symm
 |cons c t=>
  have h':(if c=46 then (digsO t).bind fun k=>(expo (t.drop k)).map (·+(1+k)) else expo (c::t))=some n:=h
  split at h'
  ·cases hk:digsO t with
   |none=>rw [hk] at h'; cases h'
   |some k=>
    rw [hk] at h'
    rw [show (some k).bind (fun k=>(expo (t.drop k)).map (·+(1+k)))=(expo (t.drop k)).map (·+(1+k)) from rfl] at h'
    obtain ⟨h1,h2⟩:=digsO_last hk
    cases hv:expo (t.drop k) with
    |none=>rw [hv] at h'; cases h'
    |some v=>
     rw [hv] at h'
     obtain rfl:v+(1+k)=n:=Option.some.inj h'
     right
     rcases expo_last hv with rfl|h3
     ·rw [show 0+(1+k)-1=(k-1)+1 by omega]
      exact h2
     ·by_cases h0:v=0
      ·subst h0
       rw [show 0+(1+k)-1=(k-1)+1 by omega]
       exact h2
      ·rw [drop_last (by omega)] at h3
       rw [show v+(1+k)-1=(v+k-1)+1 by omega]
       exact h3
  ·exact expo_last h'
theorem whole_last{xs:List Int}{n:Nat}(h:whole xs=some n):isDig ((xs.drop (n-1)).headD 0)=true:=by
 cases xs with
 |nil=>cases h
 |cons c t=>
  have h':(if c=48 then (frac t).map (·+1) else (digsO (c::t)).bind fun k=>(frac ((c::t).drop k)).map (·+k))=some n:=h
  split at h'
  ·rename_i hc
   cases hv:frac t with
   |none=>rw [hv] at h'; cases h'
   |some v=>
    rw [hv] at h'
    obtain rfl:v+1=n:=Option.some.inj h'
    by_cases h0:v=0
    ·subst h0 hc
     rfl
    ·rcases frac_last hv with h3|h3
     ·exact absurd h3 h0
     ·rw [show v+1-1=(v-1)+1 by omega]
      exact h3
  ·cases hk:digsO (c::t) with
   |none=>rw [hk] at h'; cases h'
   |some k=>
    rw [hk] at h'
    rw [show (some k).bind (fun k=>(frac ((c::t).drop k)).map (·+k))=(frac ((c::t).drop k)).map (·+k) from rfl] at h'
    obtain ⟨h1,h2⟩:=digsO_last hk
    cases hv:frac ((c::t).drop k) with
    |none=>rw [hv] at h'; cases h'
    |some v=>
     rw [hv] at h'
     obtain rfl:v+k=n:=Option.some.inj h'
     by_cases h0:v=0
     ·subst h0
      rw [Nat.zero_add]
      exact h2
     ·rcases frac_last hv with h3|h3
      ·exact absurd h3 h0
      ·rw [drop_last (by omega)] at h3
       exact h3
theorem num_last{xs:List Int}{n:Nat}(h:num xs=some n):isDig ((xs.drop (n-1)).headD 0)=true:=by
 have h1:=(num_loc h).1
 cases xs with
 |nil=>cases h
 |cons c t=>
  have h':(if c=45 then (whole t).map (·+1) else whole (c::t))=some n:=h
  split at h'
  ·cases hv:whole t with
   |none=>rw [hv] at h'; cases h'
   |some v=>
    rw [hv] at h'
    obtain rfl:v+1=n:=Option.some.inj h'
    have:=(whole_loc hv).1
    rw [show v+1-1=(v-1)+1 by omega]
    exact whole_last hv
  ·exact whole_last h'
theorem dig_ws{c:Int}(h:isDig c=true):isWs c=false:=by
 have:=(isDig_iff2 c).1 h
 cases e:isWs c with
 |false=>rfl
 |true=>have:=(isWs_iff c).1 e; omega
theorem scalar_loc{lo:Bool}{xs:List Int}{n:Nat}(h:scalarO lo xs=some n):1≤n∧(isWs ((xs.drop (n-1)).headD 0)=false)∧
  ∃ pre rest,xs=pre++rest∧pre.length=n∧∀ ys:List Int,(numHead (xs.headD 0)→okB rest ys)→scalarO lo (pre++ys)=some n:=by
 have wrd:∀ l:List Int,1≤l.length→isWs ((l.drop (l.length-1)).headD 0)=false→wordAt l xs=some n→(∀ ys,(l++ys).headD 0=xs.headD 0→scalarO lo (l++ys)=wordAt l (l++ys))→
   1≤n∧(isWs ((xs.drop (n-1)).headD 0)=false)∧∃ pre rest,xs=pre++rest∧pre.length=n∧∀ ys:List Int,(numHead (xs.headD 0)→okB rest ys)→scalarO lo (pre++ys)=some n:=by
  intro l hl hw hj hu
  obtain ⟨h1,rest,rfl,h3⟩:=wordAt_loc hj
  refine ⟨by omega,?_,l,rest,rfl,h1.symm,fun ys _ => ?_⟩
  ·rw [h1,List.drop_append_of_le_length (by omega)]
   have hne:1≤(l.drop (l.length-1)).length:=by rw [List.length_drop]; omega
   rw [head_app (r:=[]) hne,List.append_nil]
   exact hw
  ·rw [hu ys (head_app hl),h3]
 unfold scalarO at h
 by_cases h0:xs.headD 0=110
 ·rw [if_pos h0] at h
  exact wrd _ (by decide) (by decide) h (fun ys he=>by unfold scalarO; rw [he,if_pos h0])
 rw [if_neg h0] at h
 by_cases h1:xs.headD 0=116
 ·rw [if_pos h1] at h
  exact wrd _ (by decide) (by decide) h (fun ys he=>by unfold scalarO; rw [he,if_neg h0,if_pos h1])
 rw [if_neg h1] at h
 by_cases h2:xs.headD 0=102
 ·rw [if_pos h2] at h
  exact wrd _ (by decide) (by decide) h (fun ys he=>by unfold scalarO; rw [he,if_neg h0,if_neg h1,if_pos h2])
 rw [if_neg h2] at h
 by_cases h3:xs.headD 0=34
 ·rw [if_pos h3] at h
  cases hq:quotedO lo xs with
  |none=>rw [hq] at h; cases h
  |some j=>
   rw [hq] at h
   obtain rfl:j+1=n:=Option.some.inj h
   have hend:=quotedO_end hq
   obtain ⟨g1,pre,rest,rfl,g2,_,g3⟩:=quotedO_loc hq
   refine ⟨by omega,by rw [show j+1-1=j by omega,hend]; rfl,34::pre++[34],rest,by simp,by simp at g2 ⊢; omega,fun ys _ => ?_⟩
   unfold scalarO
   have hz:(34::pre++34::ys).headD 0=34:=rfl
   rw [show 34::pre++[34]++ys=34::pre++34::ys by simp,hz,if_neg (show ¬ (34:Int)=110 by decide),if_neg (show ¬ (34:Int)=116 by decide),if_neg (show ¬ (34:Int)=102 by decide),if_pos (by rfl),g3]
   rfl
 rw [if_neg h3] at h
 by_cases h4:xs.headD 0=45∨(48≤xs.headD 0∧xs.headD 0≤57)
 ·rw [if_pos h4] at h
  obtain ⟨g1,pre,rest,g2,g3,g4⟩:=num_loc h
  refine ⟨g1,dig_ws (num_last h),pre,rest,g2,g3,fun ys hy => ?_⟩
  have he:(pre++ys).headD 0=xs.headD 0:=by rw [g2]; exact head_app (by omega)
  unfold scalarO
  rw [he,if_neg h0,if_neg h1,if_neg h2,if_neg h3,if_pos h4]
  exact g4 ys (hy h4)
 ·rw [if_neg h4] at h
  cases h
def brO(chk:List (List Int)→Bool × Bool)(lo:Bool)(n:Nat)(b:Int)(m:Mode)(xs:List Int):Option Nat × Bool:=
 if (xs.drop (ws xs)).headD 0=b then (some (ws xs+1),false) else up (ws xs) false (run chk lo n m (xs.drop (ws xs)))
def Asked:Mode→List Int→List Int→List Int→Prop
 |.val,xs,rest,ys=>numHead ((xs.drop (ws xs)).headD 0)→okB rest ys
 |_,_,_,_=>True
def RLoc(chk:List (List Int)→Bool × Bool)(lo:Bool)(n:Nat)(m:Mode)(xs:List Int)(k:Nat)(o:Bool):Prop:=
 1≤k∧isWs ((xs.drop (k-1)).headD 0)=false∧∃ pre rest,xs=pre++rest∧pre.length=k∧∀ ys:List Int,Asked m xs rest ys→run chk lo n m (pre++ys)=(some k,o)
theorem up_some{k k':Nat}{o o':Bool}{r:Option Nat × Bool}(h:up k o r=(some k',o')):∃ j,r=(some j,r.2)∧k'=j+k∧o'=(o || r.2):=by
 obtain ⟨a,b⟩:=r
 cases a with
 |none=>have:=(Prod.mk.inj h).1; cases this
 |some j=>
  have h1:=(Prod.mk.inj h).1
  have h2:=(Prod.mk.inj h).2
  exact ⟨j,rfl,(Option.some.inj h1).symm,h2.symm⟩
theorem brO_loc{chk:List (List Int)→Bool × Bool}{lo:Bool}{n:Nat}{b:Int}{m:Mode}{xs:List Int}{k:Nat}{o:Bool}(hb:¬ b=0)(hbw:isWs b=false)(hm:m≠.val)
  (ih:∀ xs k o,run chk lo n m xs=(some k,o)→RLoc chk lo n m xs k o) (h:brO chk lo n b m xs=(some k,o)):
  1≤k∧isWs ((xs.drop (k-1)).headD 0)=false∧∃ pre rest,xs=pre++rest∧pre.length=k∧∀ ys:List Int,brO chk lo n b m (pre++ys)=(some k,o):=by
 obtain ⟨pw,r,h1,h2,h3,h4,h5⟩:=ws_loc xs
 have hd:xs.drop (ws xs)=r:=by
  rw [← h2]
  conv=>lhs; rw [h1]
  exact drop_app rfl
 unfold brO at h
 rw [hd] at h
 split at h
 ·rename_i hc
  obtain ⟨t,rfl⟩:=head_ne hb hc
  obtain ⟨ha,rfl⟩:ws xs+1=k∧false=o:=by simpa using h
  refine ⟨by omega,?_,pw++[b],t,by simpa using h1,by simp [h2,ha],fun ys => ?_⟩
  ·rw [show k-1=ws xs by omega,hd]
   exact hbw
  ·have e:ws (pw++[b]++ys)=ws xs:=by rw [List.append_assoc]; exact h5 _ hbw
   unfold brO
   rw [e,List.append_assoc,drop_app h2,if_pos (by rfl),ha]
 ·rename_i hc
  obtain ⟨j,hj,rfl,rfl⟩:=up_some h
  obtain ⟨g1,g2,pm,rm,rfl,g3,g4⟩:=ih _ _ _ hj
  have hhead:∀ ys,(pm++ys).headD 0=(pm++rm).headD 0:=fun ys=>head_app (by omega)
  refine ⟨by omega,?_,pw++pm,rm,by rw [h1,List.append_assoc],by rw [List.length_append]; omega,fun ys => ?_⟩
  ·rw [show j+ws xs-1=ws xs+(j-1) by omega,← List.drop_drop,hd]
   exact g2
  ·have e:ws (pw++pm++ys)=ws xs:=by rw [List.append_assoc]; exact h5 _ (by rw [hhead]; exact h3)
   unfold brO
   rw [e,List.append_assoc,drop_app h2,if_neg (by rw [hhead]; exact hc)]
   have ha:Asked m (pm++rm) rm ys:=by cases m with
    |val=>exact absurd rfl hm
    |elems=>trivial
    |mems _=>trivial
   rw [g4 ys ha]
   rfl
theorem nameO_loc{chk:List (List Int)→Bool × Bool}{lo:Bool}{names:List (List Int)}{xs:List Int}{k:Nat}{o:Bool}(h:nameO chk lo names xs=(some k,o)):
  1≤k∧∃ pre rest,xs=pre++rest∧pre.length=k∧∀ ys:List Int,nameO chk lo names (pre++ys)=(some k,o)∧namesO lo names (pre++ys)=namesO lo names xs:=by
 unfold nameO at h
 cases hq:quotedO lo xs with
 |none=>rw [hq] at h; cases h
 |some j=>
  rw [hq] at h
  simp only at h
  obtain ⟨g1,p,r,rfl,g2,_,g3⟩:=quotedO_loc hq
  have ht:∀ ys,(34::p++34::ys).take (j+1)=34::p++[34]:=fun ys=>by
   rw [List.take_append,g2,show j+1-j=1 by omega,List.take_of_length_le (by omega)]
   rfl
  have hdp:∀ ys,(34::p++34::ys).drop (j+1)=ys:=fun ys=>by
   rw [show 34::p++34::ys=(34::p++[34])++ys by simp]
   exact drop_app (by rw [List.length_append,g2]; rfl)
  rw [ht,hdp] at h
  split at h
  ·cases (Prod.mk.inj h).1
  ·rename_i hchk
   obtain ⟨pw,r2,h1,h2,h3,h4,h5⟩:=ws_loc r
   have hd:r.drop (ws r)=r2:=by
    rw [← h2]
    conv=>lhs; rw [h1]
    exact drop_app rfl
   rw [hd] at h
   split at h
   ·rename_i hc
    obtain ⟨t,rfl⟩:=head_ne (by decide) hc
    obtain ⟨ha,hb⟩:j+1+ws r+1=k∧(chk (names++[34::p++[34]])).2=o:=⟨Option.some.inj (Prod.mk.inj h).1,(Prod.mk.inj h).2⟩
    refine ⟨by omega,34::p++34::(pw++[58]),t,by rw [h1]; simp,by simp at g2 ⊢; omega,fun ys => ?_⟩
    have e1:34::p++34::(pw++[58])++ys=34::p++34::(pw++58::ys):=by simp
    rw [e1]
    have e2:ws (pw++58::ys)=ws r:=h5 _ (by rfl)
    refine ⟨?_,?_⟩
    ·unfold nameO
     rw [g3]
     simp only
     rw [ht,hdp,if_neg hchk,e2,drop_app h2,if_pos (by rfl),ha,hb]
    ·unfold namesO
     rw [g3,hq]
     simp only
     rw [ht,ht]
   ·cases (Prod.mk.inj h).1
theorem run_obj'{chk:List (List Int)→Bool × Bool}{lo:Bool}{n:Nat}{xs:List Int}(h:(xs.drop (ws xs)).headD 0=123):run chk lo (n+1) .val xs=up (ws xs+1) false (brO chk lo n 125 (.mems []) (xs.drop (ws xs+1))):=run_obj h
theorem run_arr'{chk:List (List Int)→Bool × Bool}{lo:Bool}{n:Nat}{xs:List Int}(h:(xs.drop (ws xs)).headD 0=91):run chk lo (n+1) .val xs=up (ws xs+1) false (brO chk lo n 93 .elems (xs.drop (ws xs+1))):=run_arr h
theorem run_elems_no{chk:List (List Int)→Bool × Bool}{lo:Bool}{n:Nat}{xs:List Int}{o:Bool}(h:run chk lo n .val xs=(none,o)):run chk lo (n+1) .elems xs=(none,o):=by
 show (match run chk lo n .val xs with|(none,o)=>_|(some k,o)=>_)=_
 rw [h]
theorem run_elems_end{chk:List (List Int)→Bool × Bool}{lo:Bool}{n:Nat}{xs:List Int}{k:Nat}{o:Bool}(h:run chk lo n .val xs=(some k,o))(h2:((xs.drop k).drop (ws (xs.drop k))).headD 0=93):run chk lo (n+1) .elems xs=(some (k+ws (xs.drop k)+1),o):=by
 show (match run chk lo n .val xs with|(none,o)=>_|(some k,o)=>_)=_
 rw [h]
 simp only
 rw [if_pos h2]
theorem run_elems_more{chk:List (List Int)→Bool × Bool}{lo:Bool}{n:Nat}{xs:List Int}{k:Nat}{o:Bool}(h:run chk lo n .val xs=(some k,o))(h2:((xs.drop k).drop (ws (xs.drop k))).headD 0=44):run chk lo (n+1) .elems xs=up (k+ws (xs.drop k)+1) o (run chk lo n .elems (xs.drop (k+ws (xs.drop k)+1))):=by
 show (match run chk lo n .val xs with|(none,o)=>_|(some k,o)=>_)=_
 rw [h]
 simp only
 rw [if_neg (by rw [h2]; decide),if_pos h2]
theorem run_elems_else{chk:List (List Int)→Bool × Bool}{lo:Bool}{n:Nat}{xs:List Int}{k:Nat}{o:Bool}(h:run chk lo n .val xs=(some k,o))(h1:¬ ((xs.drop k).drop (ws (xs.drop k))).headD 0=93)(h2:¬ ((xs.drop k).drop (ws (xs.drop k))).headD 0=44):run chk lo (n+1) .elems xs=(none,o):=by
 show (match run chk lo n .val xs with|(none,o)=>_|(some k,o)=>_)=_
 rw [h]
 simp only
 rw [if_neg h1,if_neg h2]
theorem run_mems_no{chk:List (List Int)→Bool × Bool}{lo:Bool}{n:Nat}{names:List (List Int)}{xs:List Int}{o:Bool}(h:nameO chk lo names xs=(none,o)):run chk lo (n+1) (.mems names) xs=(none,o):=by
 show (match nameO chk lo names xs with|(none,o)=>_|(some j,o1)=>_)=_
 rw [h]
theorem run_mems_val{chk:List (List Int)→Bool × Bool}{lo:Bool}{n:Nat}{names:List (List Int)}{xs:List Int}{j:Nat}{o1 o:Bool}(h:nameO chk lo names xs=(some j,o1))(h1:run chk lo n .val (xs.drop j)=(none,o)):run chk lo (n+1) (.mems names) xs=(none,o1 || o):=by
 show (match nameO chk lo names xs with|(none,o)=>_|(some j,o1)=>_)=_
 rw [h]
 simp only
 rw [h1]
theorem run_mems_end{chk:List (List Int)→Bool × Bool}{lo:Bool}{n:Nat}{names:List (List Int)}{xs:List Int}{j k:Nat}{o1 o:Bool}(h:nameO chk lo names xs=(some j,o1))(h1:run chk lo n .val (xs.drop j)=(some k,o))(h2:((xs.drop (j+k)).drop (ws (xs.drop (j+k)))).headD 0=125):run chk lo (n+1) (.mems names) xs=(some (j+k+ws (xs.drop (j+k))+1),o1 || o):=by
 show (match nameO chk lo names xs with|(none,o)=>_|(some j,o1)=>_)=_
 rw [h]
 simp only
 rw [h1]
 simp only
 rw [if_pos h2]
theorem run_mems_more{chk:List (List Int)→Bool × Bool}{lo:Bool}{n:Nat}{names:List (List Int)}{xs:List Int}{j k:Nat}{o1 o:Bool}(h:nameO chk lo names xs=(some j,o1))(h1:run chk lo n .val (xs.drop j)=(some k,o))(h2:((xs.drop (j+k)).drop (ws (xs.drop (j+k)))).headD 0=44):
  run chk lo (n+1) (.mems names) xs=up (j+k+ws (xs.drop (j+k))+1+ws (xs.drop (j+k+ws (xs.drop (j+k))+1))) (o1 || o) (run chk lo n (.mems (namesO lo names xs)) ((xs.drop (j+k+ws (xs.drop (j+k))+1)).drop (ws (xs.drop (j+k+ws (xs.drop (j+k))+1))))):=by
 show (match nameO chk lo names xs with|(none,o)=>_|(some j,o1)=>_)=_
 rw [h]
 simp only
 rw [h1]
 simp only
 rw [if_neg (by rw [h2]; decide),if_pos h2]
theorem run_mems_else{chk:List (List Int)→Bool × Bool}{lo:Bool}{n:Nat}{names:List (List Int)}{xs:List Int}{j k:Nat}{o1 o:Bool}(h:nameO chk lo names xs=(some j,o1))(h1:run chk lo n .val (xs.drop j)=(some k,o))(h2:¬ ((xs.drop (j+k)).drop (ws (xs.drop (j+k)))).headD 0=125)(h3:¬ ((xs.drop (j+k)).drop (ws (xs.drop (j+k)))).headD 0=44):run chk lo (n+1) (.mems names) xs=(none,o1 || o):=by
 show (match nameO chk lo names xs with|(none,o)=>_|(some j,o1)=>_)=_
 rw [h]
 simp only
 rw [h1]
 simp only
 rw [if_neg h2,if_neg h3]
theorem goes_no{c:Int}(h:c=93∨c=44∨c=125):¬ goesOn c:=by unfold goesOn; omega
theorem run_loc{chk:List (List Int)→Bool × Bool}{lo:Bool}:∀ (n:Nat) (m:Mode) (xs:List Int) (k:Nat) (o:Bool),run chk lo n m xs=(some k,o)→RLoc chk lo n m xs k o
 |0,_,_,_,_,h=>by cases (Prod.mk.inj h).1
 |n+1,.val,xs,k,o,h=>by
  obtain ⟨pw,r,h1,h2,h3,h4,h5⟩:=ws_loc xs
  have hd:xs.drop (ws xs)=r:=by
   rw [← h2]
   conv=>lhs; rw [h1]
   exact drop_app rfl
  by_cases c1:r.headD 0=123
  ·rw [run_obj' (by rw [hd]; exact c1)] at h
   obtain ⟨t,rfl⟩:=head_ne (by decide) c1
   have hd1:xs.drop (ws xs+1)=t:=by rw [← List.drop_drop,hd]; rfl
   rw [hd1] at h
   obtain ⟨j,hj,rfl,rfl⟩:=up_some h
   obtain ⟨g1,g2,pm,rm,rfl,g3,g4⟩:=brO_loc (by decide) (by decide) (by simp) (fun xs k o=>run_loc n (.mems []) xs k o) hj
   refine ⟨by omega,?_,pw++123::pm,rm,by rw [h1]; simp,by simp; omega,fun ys _ => ?_⟩
   ·rw [show j+(ws xs+1)-1=(ws xs+1)+(j-1) by omega,← List.drop_drop,hd1]
    exact g2
   ·have e1:pw++123::pm++ys=pw++123::(pm++ys):=by simp
    have e2:ws (pw++123::(pm++ys))=ws xs:=h5 _ (by rfl)
    rw [e1,run_obj' (by rw [e2,drop_app h2]; rfl),e2,← List.drop_drop,drop_app h2]
    show up (ws xs+1) false (brO chk lo n 125 (.mems []) (pm++ys))=_
    rw [g4]
    rfl
  by_cases c2:r.headD 0=91
  ·rw [run_arr' (by rw [hd]; exact c2)] at h
   obtain ⟨t,rfl⟩:=head_ne (by decide) c2
   have hd1:xs.drop (ws xs+1)=t:=by rw [← List.drop_drop,hd]; rfl
   rw [hd1] at h
   obtain ⟨j,hj,rfl,rfl⟩:=up_some h
   obtain ⟨g1,g2,pm,rm,rfl,g3,g4⟩:=brO_loc (by decide) (by decide) (by simp) (fun xs k o=>run_loc n .elems xs k o) hj
   refine ⟨by omega,?_,pw++91::pm,rm,by rw [h1]; simp,by simp; omega,fun ys _ => ?_⟩
   ·rw [show j+(ws xs+1)-1=(ws xs+1)+(j-1) by omega,← List.drop_drop,hd1]
    exact g2
   ·have e1:pw++91::pm++ys=pw++91::(pm++ys):=by simp
    have e2:ws (pw++91::(pm++ys))=ws xs:=h5 _ (by rfl)
    rw [e1,run_arr' (by rw [e2,drop_app h2]; rfl),e2,← List.drop_drop,drop_app h2]
    show up (ws xs+1) false (brO chk lo n 93 .elems (pm++ys))=_
    rw [g4]
    rfl
  ·rw [run_scalar (by rw [hd]; exact c1) (by rw [hd]; exact c2),hd] at h
   cases hv:scalarO lo r with
   |none=>rw [hv] at h; cases (Prod.mk.inj h).1
   |some j=>
    rw [hv] at h
    obtain ⟨rfl,rfl⟩:j+ws xs=k∧false=o:=⟨Option.some.inj (Prod.mk.inj h).1,(Prod.mk.inj h).2⟩
    obtain ⟨g1,g2,pm,rm,rfl,g3,g4⟩:=scalar_loc hv
    refine ⟨by omega,?_,pw++pm,rm,by rw [h1]; simp,by simp; omega,fun ys hy => ?_⟩
    ·rw [show j+ws xs-1=ws xs+(j-1) by omega,← List.drop_drop,hd]
     exact g2
    ·have hhead:(pm++ys).headD 0=(pm++rm).headD 0:=head_app (by omega)
     have e2:ws (pw++(pm++ys))=ws xs:=h5 _ (by rw [hhead]; exact h3)
     rw [List.append_assoc,run_scalar (by rw [e2,drop_app h2,hhead]; exact c1) (by rw [e2,drop_app h2,hhead]; exact c2),e2,drop_app h2,g4 ys (fun hn=>hy (by rw [hd]; exact hn))]
     rfl
 |n+1,.elems,xs,k,o,h=>by
  cases hv:run chk lo n .val xs with
  |mk a o1=>
  cases a with
  |none=>rw [run_elems_no hv] at h; cases (Prod.mk.inj h).1
  |some j=>
   obtain ⟨f1,f2,pv,rv,rfl,f3,f4⟩:=run_loc n .val xs j o1 hv
   have hdj:∀ ys,(pv++ys).drop j=ys:=fun ys=>drop_app f3
   obtain ⟨pw,r,h1,h2,h3,h4,h5⟩:=ws_loc rv
   have hd:rv.drop (ws rv)=r:=by
    rw [← h2]
    conv=>lhs; rw [h1]
    exact drop_app rfl
   by_cases c1:r.headD 0=93
   ·rw [run_elems_end hv (by rw [hdj,hd]; exact c1),hdj] at h
    obtain ⟨t,rfl⟩:=head_ne (by decide) c1
    obtain ⟨rfl,rfl⟩:j+ws rv+1=k∧o1=o:=⟨Option.some.inj (Prod.mk.inj h).1,(Prod.mk.inj h).2⟩
    refine ⟨by omega,?_,pv++(pw++[93]),t,by rw [h1]; simp,by simp; omega,fun ys _ => ?_⟩
    ·rw [show j+ws rv+1-1=j+ws rv by omega,← List.drop_drop,hdj,hd]
     rfl
    ·have e1:pv++(pw++[93])++ys=pv++(pw++93::ys):=by simp
     have e2:ws (pw++93::ys)=ws rv:=h5 _ (by rfl)
     have e3:=f4 (pw++93::ys) (fun _=>.inl <| ws_goes h4 (goes_no (.inl rfl)))
     rw [e1,run_elems_end e3 (by rw [hdj,e2,drop_app h2]; rfl),hdj,e2]
   by_cases c2:r.headD 0=44
   ·rw [run_elems_more hv (by rw [hdj,hd]; exact c2),hdj] at h
    obtain ⟨t,rfl⟩:=head_ne (by decide) c2
    have hdt:∀ us,(pw++44::us).drop (ws rv+1)=us:=fun us=>by rw [← List.drop_drop,drop_app h2]; rfl
    have hd2:(pv++rv).drop (j+ws rv+1)=t:=by
     have hx:=hdt t
     rw [← h1] at hx
     rw [Nat.add_assoc,← List.drop_drop,hdj,hx]
    rw [hd2] at h
    obtain ⟨i,hi,rfl,rfl⟩:=up_some h
    obtain ⟨g1,g2,pe,re,rfl,g3,g4⟩:=run_loc n .elems _ _ _ hi
    refine ⟨by omega,?_,pv++(pw++44::pe),re,by rw [h1]; simp,by simp; omega,fun ys _ => ?_⟩
    ·rw [show i+(j+ws rv+1)-1=(j+ws rv+1)+(i-1) by omega,← List.drop_drop,hd2]
     exact g2
    ·have e1:pv++(pw++44::pe)++ys=pv++(pw++44::(pe++ys)):=by simp
     have e2:ws (pw++44::(pe++ys))=ws rv:=h5 _ (by rfl)
     have e3:=f4 (pw++44::(pe++ys)) (fun _=>.inl <| ws_goes h4 (goes_no (.inr (.inl rfl))))
     rw [e1,run_elems_more e3 (by rw [hdj,e2,drop_app h2]; rfl),hdj,e2,Nat.add_assoc,← List.drop_drop,hdj,hdt,g4 ys trivial]
     rfl
   ·rw [run_elems_else hv (by rw [hdj,hd]; exact c1) (by rw [hdj,hd]; exact c2)] at h
    cases (Prod.mk.inj h).1
 |n+1,.mems names,xs,k,o,h=>by
  cases hn:nameO chk lo names xs with
  |mk a o1=>
  cases a with
  |none=>rw [run_mems_no hn] at h; cases (Prod.mk.inj h).1
  |some j=>
   obtain ⟨n1,pn,rn,rfl,n2,n3⟩:=nameO_loc hn
   have hdj:∀ ys,(pn++ys).drop j=ys:=fun ys=>drop_app n2
   cases hv:run chk lo n .val rn with
   |mk a o2=>
   cases a with
   |none=>rw [run_mems_val hn (by rw [hdj]; exact hv)] at h; cases (Prod.mk.inj h).1
   |some i=>
    obtain ⟨f1,f2,pv,rv,rfl,f3,f4⟩:=run_loc n .val rn i o2 hv
    have hdi:∀ ys,(pn++(pv++ys)).drop (j+i)=ys:=fun ys=>by rw [← List.drop_drop,hdj,drop_app f3]
    obtain ⟨pw,r,h1,h2,h3,h4,h5⟩:=ws_loc rv
    have hd:rv.drop (ws rv)=r:=by
     rw [← h2]
     conv=>lhs; rw [h1]
     exact drop_app rfl
    by_cases c1:r.headD 0=125
    ·rw [run_mems_end hn (by rw [hdj]; exact hv) (by rw [hdi,hd]; exact c1),hdi] at h
     obtain ⟨t,rfl⟩:=head_ne (by decide) c1
     obtain ⟨rfl,rfl⟩:j+i+ws rv+1=k∧(o1 || o2)=o:=⟨Option.some.inj (Prod.mk.inj h).1,(Prod.mk.inj h).2⟩
     refine ⟨by omega,?_,pn++(pv++(pw++[125])),t,by rw [h1]; simp,by simp; omega,fun ys _ => ?_⟩
     ·rw [show j+i+ws rv+1-1=(j+i)+ws rv by omega,← List.drop_drop,hdi,hd]
      rfl
     ·have e1:pn++(pv++(pw++[125]))++ys=pn++(pv++(pw++125::ys)):=by simp
      have e2:ws (pw++125::ys)=ws rv:=h5 _ (by rfl)
      have e3:=f4 (pw++125::ys) (fun _=>.inl <| ws_goes h4 (goes_no (.inr (.inr rfl))))
      rw [e1,run_mems_end (n3 _).1 (by rw [hdj]; exact e3) (by rw [hdi,e2,drop_app h2]; rfl),hdi,e2]
    by_cases c2:r.headD 0=44
    ·rw [run_mems_more hn (by rw [hdj]; exact hv) (by rw [hdi,hd]; exact c2),hdi] at h
     obtain ⟨t,rfl⟩:=head_ne (by decide) c2
     have hdt:∀ us,(pw++44::us).drop (ws rv+1)=us:=fun us=>by rw [← List.drop_drop,drop_app h2]; rfl
     have hd2:∀ us,(pn++(pv++(pw++44::us))).drop (j+i+ws rv+1)=us:=fun us=>by rw [Nat.add_assoc,← List.drop_drop,hdi,hdt]
     have hd2t:(pn++(pv++rv)).drop (j+i+ws rv+1)=t:=by
      have hx:=hd2 t
      rw [← h1] at hx
      exact hx
     rw [hd2t] at h
     obtain ⟨pw3,r3,k1,k2,k3,k4,k5⟩:=ws_loc t
     have hd3:t.drop (ws t)=r3:=by
      rw [← k2]
      conv=>lhs; rw [k1]
      exact drop_app rfl
     rw [hd3] at h
     obtain ⟨q,hq,rfl,rfl⟩:=up_some h
     obtain ⟨g1,g2,pe,re,rfl,g3,g4⟩:=run_loc n (.mems (namesO lo names (pn++(pv++rv)))) _ _ _ hq
     have hhead:∀ ys,(pe++ys).headD 0=(pe++re).headD 0:=fun ys=>head_app (by omega)
     refine ⟨by omega,?_,pn++(pv++(pw++44::(pw3++pe))),re,by rw [h1,k1]; simp,by simp; omega,fun ys _ => ?_⟩
     ·rw [show q+(j+i+ws rv+1+ws t)-1=(j+i+ws rv+1)+(ws t+(q-1)) by omega,← List.drop_drop,hd2t,← List.drop_drop,hd3]
      exact g2
     ·have e1:pn++(pv++(pw++44::(pw3++pe)))++ys=pn++(pv++(pw++44::(pw3++(pe++ys)))):=by simp
      have e2:∀ us,ws (pw++44::us)=ws rv:=fun us=>h5 _ (by rfl)
      have e3:=f4 (pw++44::(pw3++(pe++ys))) (fun _=>.inl <| ws_goes h4 (goes_no (.inr (.inl rfl))))
      have e4:ws (pw3++(pe++ys))=ws t:=k5 _ (by rw [hhead]; exact k3)
      rw [e1,run_mems_more (n3 _).1 (by rw [hdj]; exact e3) (by rw [hdi,e2,drop_app h2]; rfl),hdi,e2,hd2,e4,drop_app k2,(n3 _).2,g4 ys trivial]
      rfl
    ·rw [run_mems_else hn (by rw [hdj]; exact hv) (by rw [hdi,hd]; exact c1) (by rw [hdi,hd]; exact c2)] at h
     cases (Prod.mk.inj h).1
def noChk:List (List Int)→Bool × Bool:=fun _=>(false,false)
def loopS(dq:List Int→List Int × Bool)(last:List Int)(clean:Bool):List (List Int)→Bool × Bool
 |[]=>(false,false)
 |nm::r=>if (dq nm).1=last then (if clean&&(dq nm).2 then (true,false) else ((loopS dq last clean r).1,true)) else loopS dq last clean r
def chkS(dq:List Int→List Int × Bool):List (List Int)→Bool × Bool:=fun ns=>loopS dq (dq (ns.getLastD [])).1 (dq (ns.getLastD [])).2 ns.dropLast
def chkI(dq:List Int→List Int × Bool):List (List Int)→Bool × Bool:=fun ns=>(decide ((dq (ns.getLastD [])).1∈ns.dropLast.map fun n=>(dq n).1),false)
theorem loopS_open{dq:List Int→List Int × Bool}{last:List Int}{clean:Bool}:∀ {r:List (List Int)},(loopS dq last clean r).2=false→(loopS dq last clean r).1=decide (last∈r.map fun n=>(dq n).1)
 |[],_=>by simp [loopS]
 |nm::r,h=>by
  unfold loopS at h ⊢
  by_cases h1:(dq nm).1=last
  ·rw [if_pos h1] at h ⊢
   by_cases h2:(clean&&(dq nm).2)=true
   ·rw [if_pos h2]
    simp [h1]
   ·rw [if_neg h2] at h
    cases h
  ·rw [if_neg h1] at h ⊢
   rw [loopS_open h]
   have:¬ last=(dq nm).1:=fun e=>h1 e.symm
   simp [this]
theorem chk_agree{dq:List Int→List Int × Bool}{ns:List (List Int)}(h:(chkS dq ns).2=false):chkS dq ns=chkI dq ns:=by
 unfold chkS chkI
 refine Prod.ext (loopS_open h) h
theorem up_open{k:Nat}{o:Bool}{r:Option Nat × Bool}(h:(up k o r).2=false):o=false∧r.2=false:=by
 have h':(o || r.2)=false:=h
 simpa using h'
theorem run_agree{A B:List (List Int)→Bool × Bool}{lo:Bool}(hAB:∀ ns,(A ns).2=false→A ns=B ns):∀ (n:Nat) (m:Mode) (xs:List Int),(run A lo n m xs).2=false→run A lo n m xs=run B lo n m xs
 |0,_,_,_=>rfl
 |n+1,.val,xs,h=>by
  by_cases c1:(xs.drop (ws xs)).headD 0=123
  ·rw [run_obj c1] at h ⊢
   rw [run_obj c1]
   have h2:=(up_open h).2
   unfold objO at h2 ⊢
   split at h2
   ·rw [if_pos ‹_›,if_pos ‹_›]
   ·rw [if_neg ‹_›,if_neg ‹_›,run_agree hAB n _ _ (up_open h2).2]
  by_cases c2:(xs.drop (ws xs)).headD 0=91
  ·rw [run_arr c2] at h ⊢
   rw [run_arr c2]
   have h2:=(up_open h).2
   unfold arrO at h2 ⊢
   split at h2
   ·rw [if_pos ‹_›,if_pos ‹_›]
   ·rw [if_neg ‹_›,if_neg ‹_›,run_agree hAB n _ _ (up_open h2).2]
  rw [run_scalar c1 c2,run_scalar c1 c2]
 |n+1,.elems,xs,h=>by
  cases hv:run A lo n .val xs with
  |mk a o=>
  cases a with
  |none=>
   rw [run_elems_no hv] at h ⊢
   have e:=run_agree hAB n .val xs (by rw [hv]; exact h)
   rw [run_elems_no (e.symm.trans hv)]
  |some k=>
   by_cases c1:((xs.drop k).drop (ws (xs.drop k))).headD 0=93
   ·rw [run_elems_end hv c1] at h ⊢
    have e:=run_agree hAB n .val xs (by rw [hv]; exact h)
    rw [run_elems_end (e.symm.trans hv) c1]
   by_cases c2:((xs.drop k).drop (ws (xs.drop k))).headD 0=44
   ·rw [run_elems_more hv c2] at h ⊢
    have e:=run_agree hAB n .val xs (by rw [hv]; exact (up_open h).1)
    rw [run_elems_more (e.symm.trans hv) c2,run_agree hAB n _ _ (up_open h).2]
   ·rw [run_elems_else hv c1 c2] at h ⊢
    have e:=run_agree hAB n .val xs (by rw [hv]; exact h)
    rw [run_elems_else (e.symm.trans hv) c1 c2]
 |n+1,.mems names,xs,h=>by
  have hname:(nameO A lo names xs).2=false→nameO A lo names xs=nameO B lo names xs:=by
   intro h
   unfold nameO at h ⊢
   cases hq:quotedO lo xs with
   |none=>rfl
   |some j=>
    rw [hq] at h
    simp only at h ⊢
    have h3:(A (names++[xs.take (j+1)])).2=false:=by
     split at h
     ·exact h
     ·split at h
      ·exact h
      ·exact h
    rw [hAB _ h3]
  cases hn:nameO A lo names xs with
  |mk a o1=>
  cases a with
  |none=>
   rw [run_mems_no hn] at h ⊢
   have e:=hname (by rw [hn]; exact h)
   rw [run_mems_no (e.symm.trans hn)]
  |some j=>
   cases hv:run A lo n .val (xs.drop j) with
   |mk a o=>
   cases a with
   |none=>
    rw [run_mems_val hn hv] at h ⊢
    have h':(o1 || o)=false:=h
    simp at h'
    have e:=hname (by rw [hn]; exact h'.1)
    have e2:=run_agree hAB n .val (xs.drop j) (by rw [hv]; exact h'.2)
    rw [run_mems_val (e.symm.trans hn) (e2.symm.trans hv)]
   |some k=>
    have fin:(o1 || o)=false→nameO B lo names xs=(some j,o1)∧run B lo n .val (xs.drop j)=(some k,o):=by
     intro h'
     simp at h'
     exact ⟨(hname (by rw [hn]; exact h'.1)).symm.trans hn,(run_agree hAB n .val (xs.drop j) (by rw [hv]; exact h'.2)).symm.trans hv⟩
    by_cases c1:((xs.drop (j+k)).drop (ws (xs.drop (j+k)))).headD 0=125
    ·rw [run_mems_end hn hv c1] at h ⊢
     obtain ⟨e,e2⟩:=fin h
     rw [run_mems_end e e2 c1]
    by_cases c2:((xs.drop (j+k)).drop (ws (xs.drop (j+k)))).headD 0=44
    ·rw [run_mems_more hn hv c2] at h ⊢
     obtain ⟨e,e2⟩:=fin (up_open h).1
     rw [run_mems_more e e2 c2,run_agree hAB n _ _ (up_open h).2]
    ·rw [run_mems_else hn hv c1 c2] at h ⊢
     obtain ⟨e,e2⟩:=fin h
     rw [run_mems_else e e2 c1 c2]
def tkn(chk:List (List Int)→Bool × Bool)(lo:Bool)(n:Nat)(xs:List Int):Bool:=
 match (run chk lo n .val xs).1 with
 |none=>false
 |some k=>decide (k+ws (xs.drop k)=xs.length)
theorem ws_le:∀ xs:List Int,ws xs≤xs.length
 |[]=>Nat.le_refl _
 |c::t=>by
  show (if isWs c then ws t+1 else 0)≤t.length+1
  have:=ws_le t
  split<;>omega
theorem ws_all:∀ {xs:List Int},(∀ c∈xs,isWs c=true)→∀ ys,ws (xs++ys)=xs.length+ws ys
 |[],_,ys=>by simp
 |c::t,h,ys=>by
  show (if isWs c then ws (t++ys)+1 else 0)=_
  rw [if_pos (h c (by simp)),ws_all (fun d hd=>h d (by simp [hd]))]
  simp
  omega
theorem run_ahead{chk:List (List Int)→Bool × Bool}{lo:Bool}{n:Nat}{ws' xs:List Int}(h:∀ c∈ws',isWs c=true):run chk lo (n+1) .val (ws'++xs)=up ws'.length false (run chk lo (n+1) .val xs):=by
 have e:=ws_all h xs
 have hd:(ws'++xs).drop (ws (ws'++xs))=xs.drop (ws xs):=by rw [e,← List.drop_drop,drop_app rfl]
 have hd1:(ws'++xs).drop (ws (ws'++xs)+1)=xs.drop (ws xs+1):=by rw [e,Nat.add_assoc,← List.drop_drop,drop_app rfl]
 have au:∀ (a b:Nat) (r:Option Nat × Bool),up (a+b) false r=up a false (up b false r):=by
  intro a b r
  obtain ⟨x,o⟩:=r
  cases x<;>simp [up]
  omega
 by_cases c1:(xs.drop (ws xs)).headD 0=123
 ·rw [run_obj (by rw [hd]; exact c1),run_obj c1,hd1,e,Nat.add_assoc,au]
 by_cases c2:(xs.drop (ws xs)).headD 0=91
 ·rw [run_arr (by rw [hd]; exact c2),run_arr c2,hd1,e,Nat.add_assoc,au]
 rw [run_scalar (by rw [hd]; exact c1) (by rw [hd]; exact c2),run_scalar c1 c2,hd,e]
 cases scalarO lo (xs.drop (ws xs))<;>simp [up]
 omega
theorem run_take{chk:List (List Int)→Bool × Bool}{lo:Bool}{n:Nat}{m:Mode}{xs:List Int}{k:Nat}{o:Bool}(h:run chk lo n m xs=(some k,o)):1≤k∧k≤xs.length:=by
 obtain ⟨h1,_,pre,rest,rfl,h2,_⟩:=run_loc n m xs k o h
 exact ⟨h1,by rw [List.length_append]; omega⟩
def wider:List (Int × Int)→List (Int × Int)→Prop
 |[],[]=>True
 |a::r,b::r'=>(b.1≤a.1∧a.2≤b.2)∧wider r r'
 |_,_=>False
theorem chain_mono:∀ {r r':List (Int × Int)} {xs:List Int} {n:Nat},wider r r'→chain r xs=some n→chain r' xs=some n
 |[],[],xs,n,_,h=>h
 |[],_::_,_,_,hr,_=>hr.elim
 |_::_,[],_,_,hr,_=>hr.elim
 |(l,m)::r,(l',m')::r',xs,n,hr,h=>by
  obtain ⟨h1,h2⟩:=hr
  ·by_cases hx:hexO l m xs=some 1
   ·have hx':hexO l' m' xs=some 1:=by
     unfold hexO at hx ⊢
     split at hx
     ·cases hx
     ·rename_i hc
      simp only at h1
      rw [if_neg (by omega)]
    rw [chain_yes hx] at h
    rw [chain_yes hx']
    cases e:chain r xs.tail with
    |none=>rw [e] at h; cases h
    |some k=>rw [e] at h; rw [chain_mono h2 e]; exact h
   ·rw [chain_no hx] at h; cases h
theorem unitH_loose{xs:List Int}{n:Nat}(h:unitH false xs=some n):unitH true xs=some n:=by
 unfold unitH at h ⊢
 rw [if_neg (by simp)] at h
 rw [if_pos rfl]
 split at h
 ·exact chain_mono (r:=c13) (by unfold wider; simp [c4,c13,wider]) h
 ·exact h
theorem unitL_loose{xs:List Int}{n:Nat}(h:unitL false xs=some n):unitH true xs=some n:=by
 unfold unitL at h
 unfold unitH
 rw [if_neg (by simp)] at h
 rw [if_pos rfl]
 exact chain_mono (r:=cLow) (by unfold wider; simp [c4,cLow,wider]) h
theorem sq_gen{lo:Bool}{c:Int}{t:List Int}{n:Nat}(h34:¬ c=34)(h:stp lo (c::t)=some n)(hn:1≤n):sq lo 0 (c::t)=(sq lo 0 ((c::t).drop n)).map (·+n):=by
 rw [sq_cons h34,h]
 show (sq lo (n-1) t).map (·+1)=_
 rw [sq_skip,map_add,show n-1+1=n by omega]
 congr 2
 obtain ⟨k,rfl⟩:∃ k,n=k+1:=⟨n-1,by omega⟩
 simp
theorem escO_u_loose{t:List Int}(h:unitH true t=some 4):escO true (117::t)=some 5:=by
 unfold escO
 rw [if_neg (show ¬ isSimple ((117::t).headD 0) by unfold isSimple; simp),if_pos (by rfl)]
 simp only [List.tail_cons]
 rw [h]
 simp only
 have e:halfH true t=false:=rfl
 simp [e]
theorem stp_u_loose{t:List Int}(h:unitH true t=some 4):stp true (92::117::t)=some 6:=by
 have e:stp true (92::117::t)=(escO true (117::t)).map (·+1):=rfl
 rw [e,escO_u_loose h]
 rfl
theorem rune_bytes:∀ {r:List (Int × Int)} {xs:List Int} {k:Nat},(∀ b∈r,128≤b.1)→chainN r xs=some k→sq true 0 xs=(sq true 0 (xs.drop k)).map (·+k)
 |[],xs,k,_,h=>by
  obtain rfl:0=k:=Option.some.inj h
  simp
 |(l,m)::r,xs,k,hb,h=>by
  by_cases hx:needs l m xs=some 1
  ·rw [chainN_yes hx] at h
   obtain ⟨c,t,rfl,h2⟩:=needs_loc hx
   have hl:=hb (l,m) (by simp)
   have hc:l≤c:=by
    rw [needs_cons] at hx
    split at hx
    ·rename_i hh; exact hh.1
    ·cases hx
   simp only at hl
   cases e:chainN r t with
   |none=>rw [List.tail_cons,e] at h; cases h
   |some i=>
    rw [List.tail_cons,e] at h
    obtain rfl:i+1=k:=Option.some.inj h
    have e1:stp true (c::t)=some 1:=by
     show (if c=92 then _ else if c<32 then none else if c<128∨true=true then some 1 else _)=_
     rw [if_neg (by omega),if_neg (by omega),if_pos (.inr rfl)]
    rw [sq_gen (by omega) e1 (Nat.le_refl _)]
    show (sq true 0 t).map (·+1)=(sq true 0 (t.drop i)).map (·+(i+1))
    rw [rune_bytes (fun b hb'=>hb b (by simp [hb'])) e,map_add]
  ·rw [chainN_no hx] at h; cases h
theorem stp_pass{c:Int}{t:List Int}{q:Nat}(h34:¬ c=34)(h:stp false (c::t)=some q):sq true 0 (c::t)=(sq true 0 ((c::t).drop q)).map (·+q):=by
 have h':(if c=92 then (escO false t).map (·+1) else if c<32 then none else if c<128∨false=true then some 1 else runeO (c::t))=some q:=h
 by_cases h1:c=92
 ·rw [if_pos h1] at h'
  subst h1
  cases he:escO false t with
  |none=>rw [he] at h'; cases h'
  |some k=>
   rw [he] at h'
   obtain rfl:k+1=q:=Option.some.inj h'
   unfold escO at he
   split at he
   ·rename_i hs
    obtain rfl:1=k:=Option.some.inj he
    refine sq_gen (by decide) ?_ (by omega)
    have e:stp true (92::t)=(escO true t).map (·+1):=rfl
    rw [e]
    unfold escO
    rw [if_pos hs]
    rfl
   ·split at he
    ·rename_i hu
     obtain ⟨t,rfl⟩:=head_ne (by decide) hu
     rw [List.tail_cons] at he
     cases hk:unitH false t with
     |none=>rw [hk] at he; cases he
     |some j=>
      rw [hk] at he
      obtain ⟨rfl,a,b,c,d,rest,rfl,_⟩:=unitH_loc hk
      have e1:=stp_u_loose (unitH_loose hk)
      simp only at he
      split at he
      ·split at he
       ·rename_i hn
        obtain ⟨hn1,hn2⟩:=hn
        simp only [List.drop_succ_cons,List.drop_zero] at hn1 hn2 he
        obtain ⟨x1,t1,rfl,g1⟩:=needs_loc hn1
        simp only [List.drop_succ_cons,List.drop_zero] at hn2 he
        obtain ⟨x2,t2,rfl,g2⟩:=needs_loc hn2
        simp only [List.drop_succ_cons,List.drop_zero] at he
        obtain rfl:92=x1:=by
         rw [needs_cons] at hn1
         split at hn1
         ·omega
         ·cases hn1
        obtain rfl:117=x2:=by
         rw [needs_cons] at hn2
         split at hn2
         ·omega
         ·cases hn2
        cases hv:unitL false t2 with
        |none=>rw [hv] at he; cases he
        |some v=>
         rw [hv] at he
         obtain ⟨rfl,_⟩:=unitL_loc hv
         obtain rfl:4+(3+4)=k:=Option.some.inj he
         have e2:=stp_u_loose (unitL_loose hv)
         rw [sq_gen (by decide) e1 (by omega)]
         show (sq true 0 (92::117::t2)).map (·+6)=_
         rw [sq_gen (by decide) e2 (by omega),map_add]
         rfl
       ·cases he
      ·obtain rfl:1+4=k:=Option.some.inj he
       exact sq_gen (by decide) e1 (by omega)
    ·cases he
 rw [if_neg h1] at h'
 by_cases h2:c<32
 ·rw [if_pos h2] at h'; cases h'
 rw [if_neg h2] at h'
 have e1:stp true (c::t)=some 1:=by
  show (if c=92 then _ else if c<32 then none else if c<128∨true=true then some 1 else _)=_
  rw [if_neg h1,if_neg h2,if_pos (.inr rfl)]
 by_cases h3:c<128∨false=true
 ·rw [if_pos h3] at h'
  obtain rfl:1=q:=Option.some.inj h'
  exact sq_gen h34 e1 (Nat.le_refl _)
 rw [if_neg h3] at h'
 have key:∀ r:List (Int × Int),(∀ b∈r,128≤b.1)→(chainN r t).map (·+1)=some q→sq true 0 (c::t)=(sq true 0 ((c::t).drop q)).map (·+q):=by
  intro r hb hc
  cases e:chainN r t with
  |none=>rw [e] at hc; cases hc
  |some k=>
   rw [e] at hc
   obtain rfl:k+1=q:=Option.some.inj hc
   rw [sq_gen h34 e1 (Nat.le_refl _)]
   show (sq true 0 t).map (·+1)=(sq true 0 (t.drop k)).map (·+(k+1))
   rw [rune_bytes hb e,map_add]
 unfold runeO at h'
 repeat (first|(split at h'; (exact key _ (by decide) h'))|(cases h'; done))
theorem sq_loose:∀ (m:Nat) {xs:List Int} {n:Nat},xs.length≤m→sq false 0 xs=some n→sq true 0 xs=some n
 |m,[],n,_,h=>by cases h
 |0,_::_,n,hm,h=>by simp at hm
 |m+1,c::t,n,hm,h=>by
  by_cases hc:c=34
  ·have h':(if c=34 then some 0 else _)=some n:=h
   rw [if_pos hc] at h'
   show (if c=34 then some 0 else _)=some n
   rw [if_pos hc]
   exact h'
  ·cases es:stp false (c::t) with
   |none=>rw [sq_cons hc,es] at h; cases h
   |some q=>
    have hq:=(stp_loc es).1
    rw [sq_gen hc es hq] at h
    rw [stp_pass hc es]
    have hl:=stp_le es
    cases e:sq false 0 ((c::t).drop q) with
    |none=>rw [e] at h; cases h
    |some i=>
     rw [e] at h
     rw [sq_loose m (by rw [List.length_drop]; simp at hm hl ⊢; omega) e]
     exact h
theorem quotedO_loose{xs:List Int}{j:Nat}(h:quotedO false xs=some j):quotedO true xs=some j:=by
 unfold quotedO at h ⊢
 split at h
 ·rename_i hc
  rw [if_pos hc]
  cases e:sq false 0 xs.tail with
  |none=>rw [e] at h; cases h
  |some i=>rw [e] at h; rw [sq_loose _ (Nat.le_refl _) e]; exact h
 ·cases h
end Go.Proofs.YtknaalohaagcdaaGreatDoor.Own
