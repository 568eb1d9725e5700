import Derived.Test.YtknaalohaagcdaaGreatDoorG01
import Derived.Test.YtknaalohaagcdaaGreatDoorG16
import Derived.Test.YtknaalohaagcdaaGreatDoorG24
import Derived.Lib.OthersKept
set_option maxHeartbeats 400000000
set_option maxRecDepth 100000
namespace Go.Proofs.YtknaalohaagcdaaGreatDoor.Own
open Go.RowKit JG
theorem chainN_q:∀ (r:List (Int × Int)) (t:List Int),(∀ b∈r,128≤b.1)→chainN r (t++[34])=chainN r t
 |[],t,_=>rfl
 |(l,m)::r,[],h=>by
  have h0:128≤l:=h (l,m) (by simp)
  rw [List.nil_append,chainN_out,chainN_on,if_neg (by omega)]
 |(l,m)::r,b::t,h=>by rw [List.cons_append,chainN_on,chainN_on,chainN_q r t (fun b hb=>h b (List.mem_cons_of_mem _ hb))]
theorem runeO_q(c:Int)(t:List Int):runeO (c::(t++[34]))=runeO (c::t):=by
 unfold runeO
 simp only [List.headD_cons,List.tail_cons]
 rw [chainN_q [(128,191)] t (by decide),chainN_q [(160,191),(128,191)] t (by decide),chainN_q [(128,159),(128,191)] t (by decide),chainN_q [(128,191),(128,191)] t (by decide),chainN_q [(144,191),(128,191),(128,191)] t (by decide),chainN_q [(128,143),(128,191),(128,191)] t (by decide),chainN_q [(128,191),(128,191),(128,191)] t (by decide)]
 rfl
theorem inner_head{c:Int}{t:List Int}(h:Inner (c::t)):¬ c=34∧¬ c<32:=by
 unfold Inner at h
 have hc:¬ c=34:=by
  intro hc
  have e:sq true 0 (c::t++[34])=some 0:=by
   show (if c=34 then some 0 else _)=_
   rw [if_pos hc]
  rw [e] at h
  have:=Option.some.inj h
  simp at this
 refine ⟨hc,fun h32 => ?_⟩
 have es:stp true (c::(t++[34]))=none:=by
  show (if c=92 then (escO true (t++[34])).map (·+1) else if c<32 then none else if c<128∨true=true then some 1 else runeO (c::(t++[34])))=none
  rw [if_neg (by omega),if_pos h32]
 rw [List.cons_append,sq_cons hc,es] at h
 cases h
structure UP(Y:List Int)(n i:Nat)(acc r:List Int):Prop where
 i1:1≤i
 le:i≤n
 top:n≤Y.length+1
 inn:Inner (Y.drop (n-1))
 eq:r=acc++(Y.drop (i-1)).take (n-i)++(dec 0 (Y.drop (n-1))).1
 len:acc.length≤3 * (i-1)
theorem UP.start{Y:List Int}(h:Inner Y):UP Y 1 1 [] (dec 0 Y).1:=⟨Nat.le_refl _,Nat.le_refl _,by omega,by simpa using h,by simp,by simp⟩
theorem UP.some{Y acc r:List Int}{n i:Nat}(h:UP Y n i acc r)(hn:n≤Y.length):∃ c t,Y.drop (n-1)=c::t:=by
 have h1:=h.i1
 have h2:=h.le
 cases e:Y.drop (n-1) with
 |nil=>
  have:=congrArg List.length e
  rw [List.length_drop] at this
  simp at this
  omega
 |cons c t=>exact ⟨c,t,rfl⟩
theorem UP.step{Y acc r:List Int}{n i:Nat}(h:UP Y n i acc r)(hn:n≤Y.length):n+(pieceD (Y.drop (n-1))).2.1≤Y.length+1∧Inner (Y.drop (n+(pieceD (Y.drop (n-1))).2.1-1))∧dec 0 (Y.drop (n-1))=((pieceD (Y.drop (n-1))).1++(dec 0 (Y.drop (n+(pieceD (Y.drop (n-1))).2.1-1))).1,(pieceD (Y.drop (n-1))).2.2&&(dec 0 (Y.drop (n+(pieceD (Y.drop (n-1))).2.1-1))).2):=by
 have h1:=h.i1
 have h2:=h.le
 obtain ⟨c,t,e⟩:=h.some hn
 have hin:=h.inn
 rw [e] at hin
 obtain ⟨a1,a2,_⟩:=inner_piece hin
 have a3:=dec_cons c t
 rw [← e] at a1 a2 a3
 rw [List.length_drop] at a1
 rw [List.drop_drop,show n-1+(pieceD (Y.drop (n-1))).2.1=n+(pieceD (Y.drop (n-1))).2.1-1 by omega] at a2 a3
 exact ⟨by omega,a2,a3⟩
theorem UP.verb{Y acc r:List Int}{n i k:Nat}{b:Bool}(h:UP Y n i acc r)(hn:n≤Y.length)(hp:pieceD (Y.drop (n-1))=((Y.drop (n-1)).take k,k,b)):UP Y (n+k) i acc r:=by
 obtain ⟨a1,a2,a3⟩:=h.step hn
 rw [hp] at a1 a2 a3
 have h1:=h.i1
 have h2:=h.le
 refine ⟨h.i1,by omega,a1,a2,?_,h.len⟩
 have e:(Y.drop (i-1)).take (n+k-i)=(Y.drop (i-1)).take (n-i)++(Y.drop (n-1)).take k:=by
  rw [show n+k-i=(n-i)+k by omega,List.take_add,List.drop_drop,show i-1+(n-i)=n-1 by omega]
 rw [e,h.eq,a3]
 simp
theorem UP.flush{Y acc r:List Int}{n i:Nat}(h:UP Y n i acc r):UP Y n n (acc++(Y.drop (i-1)).take (n-i)) r:=by
 have h1:=h.i1
 have h2:=h.le
 refine ⟨by omega,Nat.le_refl _,h.top,h.inn,?_,?_⟩
 ·rw [h.eq,Nat.sub_self]
  simp
 ·have:=h.len
  rw [List.length_append,List.length_take]
  omega
theorem UP.put{Y acc r pc:List Int}{n m:Nat}{b:Bool}(h:UP Y n n acc r)(hn:n≤Y.length)(hp:pieceD (Y.drop (n-1))=(pc,m,b)):UP Y (n+m) (n+m) (acc++pc) r:=by
 obtain ⟨a1,a2,a3⟩:=h.step hn
 have a4:=pieceD_le (Y.drop (n-1))
 rw [hp] at a1 a2 a3 a4
 have h1:=h.i1
 refine ⟨by omega,Nat.le_refl _,a1,a2,?_,?_⟩
 ·rw [h.eq,a3,Nat.sub_self,Nat.sub_self]
  simp
 ·have:=h.len
  have a4:pc.length≤3 * m:=a4
  rw [List.length_append]
  omega
theorem UP.done{Y acc r:List Int}{n i:Nat}(h:UP Y n i acc r)(hn:n=Y.length+1):r=acc++(Y.drop (i-1)).take (n-i):=by
 have e:=h.eq
 rw [show Y.drop (n-1)=[] from List.drop_of_length_le (by omega)] at e
 rw [e]
 simp [dec]
structure Lit(s:ByteArray)(p L:Nat)(Y:List Int):Prop where
 at_:(bytes s).drop p=34::(Y++[34])
 len:Y.length+2=L
 size:p+L=s.size
theorem Lit.drop{s:ByteArray}{p L n:Nat}{Y:List Int}(h:Lit s p L Y)(h1:1≤n)(h2:n≤Y.length+1):(bytes s).drop (p+n)=Y.drop (n-1)++[34]:=by
 rw [← List.drop_drop,h.at_,show n=(n-1)+1 by omega,List.drop_succ_cons,List.drop_append_of_le_length (by omega)]
 simp
theorem Lit.of{lo:Bool}{s:ByteArray}{p j:Nat}(h:quotedO lo ((bytes s).drop p)=some j)(hj:p+(j+1)=s.size):∃ Y,Lit s p (j+1) Y∧Inner Y∧(decq ((bytes s).drop p))=dec 0 Y:=by
 obtain ⟨h1,h2⟩:=inner_of h
 have hl:((bytes s).drop p).length=j+1:=by rw [List.length_drop,bytes_len]; omega
 rw [List.take_of_length_le (by omega)] at h1 h2
 have h':quotedO true ((bytes s).drop p)=some j:=by
  cases lo
  ·exact quotedO_loose h
  ·exact h
 obtain ⟨_,pre,rest,e,hpl,_,_⟩:=quotedO_loc h'
 have hr:rest=[]:=by
  have:=congrArg List.length e
  rw [hl] at this
  simp at this hpl
  exact List.eq_nil_of_length_eq_zero (by omega)
 subst hr
 have ed:((bytes s).drop p).tail.dropLast=pre:=by rw [e]; simp
 refine ⟨pre,⟨by rw [e]; simp,by simp at hpl; omega,hj⟩,by rw [ed] at h1; exact h1,by unfold decq; rw [ed]⟩
theorem Grew.trans{w wr w2:World}{base N M:Nat}{v0 v v2:Value}{xs ys zs:List Value}(h0:w.ownsRow base 5 1 v0 N xs)(h:Grew w wr base v0 N xs v ys)(hM:M=N+ys.length)(h2:Grew wr w2 base v M (xs++ys) v2 zs):Grew w w2 base v0 N xs v2 (ys++zs):=by
 subst hM
 have hlt:=h0.lt
 refine ⟨?_,?_,?_,?_⟩
 ·have:=h2.own
  rw [List.append_assoc,Nat.add_assoc,← List.length_append] at this
  exact this
 ·rcases h.rel with hs|⟨g,hg,hl⟩
  ·have:=h2.gb
   rw [hs.own] at this
   exact h.gb.trans this
  ·have hb:=h2.gb
   rw [hg] at hb
   exact ⟨hb.os.trans h.gb.os,hb.tape.trans h.gb.tape,hb.output.trans h.gb.output,Nat.le_trans h.gb.size hb.size,fun i hi hx=>(hb.block i (Nat.lt_of_lt_of_le hi h.gb.size) (fun e=>by have:=Option.some.inj e; omega)).trans (h.gb.block i hi hx)⟩
 ·rcases h.rel with hs|⟨g,hg,hl⟩
  ·exact hs.old h.old h2.old
  ·refine h.old.kept h2.gb ?_
   cases e:v0.ownBlock with
   |none=>exact .inl rfl
   |some k=>
    right
    rw [hg]
    intro e2
    have:=Option.some.inj e2
    have:=(hlt k e).2
    omega
 ·rcases h.rel with hs|⟨g,hg,hl⟩
  ·rcases h2.rel with hs2|⟨g2,hg2,hl2⟩
   ·exact .inl (hs.trans hs2)
   ·exact .inr ⟨g2,hg2,Nat.le_trans h.gb.size hl2⟩
  ·rcases h2.rel with hs2|⟨g2,hg2,hl2⟩
   ·exact .inr ⟨g,by rw [hs2.own]; exact hg,hl⟩
   ·exact .inr ⟨g2,hg2,Nat.le_trans h.gb.size hl2⟩
structure Uw(B:Nat)(s:ByteArray)(eU eI:Value)(w:World)(v:Value):Prop where
 buf:Bf w B s
 gl:Gl eU eI w
 bl:B<w.heap.size
 ne:v.ownBlock≠.some B
 far:∀ g,v.ownBlock=.some g→18≤g
theorem Uw.grew{B base N:Nat}{s:ByteArray}{eU eI v0 v:Value}{w wr:World}{xs ys:List Value}(h:Uw B s eU eI w v0)(hg:Grew w wr base v0 N xs v ys):Uw B s eU eI wr v:=by
 have hsz:=h.gl.size
 have hbl:=h.bl
 refine ⟨h.buf.kept (hg.gb.block B hbl (fun e=>h.ne e.symm)),h.gl.kept hg.gb.size (fun i hi=>hg.gb.block i (by omega) (fun e=>by have:=h.far i e.symm; omega)),Nat.lt_of_lt_of_le hbl hg.gb.size,?_,?_⟩
 ·rcases hg.rel with hs|⟨g,e,hl⟩
  ·rw [hs.own]
   exact h.ne
  ·rw [e]
   intro e2
   have:=Option.some.inj e2
   omega
 ·rcases hg.rel with hs|⟨g,e,hl⟩
  ·rw [hs.own]
   exact h.far
  ·intro g2 e2
   rw [e] at e2
   have:=Option.some.inj e2
   omega
theorem Uw.below{B:Nat}{s:ByteArray}{eU eI v:Value}{w w':World}(h:Uw B s eU eI w v)(hg:w.grownBy w' none):Uw B s eU eI w' v:=
 ⟨h.buf.kept (hg.block B h.bl (by simp)),h.gl.kept hg.size (fun i hi=>hg.block i (by have:=h.gl.size; omega) (by simp)),Nat.lt_of_lt_of_le h.bl hg.size,h.ne,h.far⟩
structure US(B:Nat)(s:ByteArray)(eU eI:Value)(base N:Nat)(v0:Value)(xs:List Value)(w wr:World)(v:Value)(M:Nat)(acc:List Int):Prop where
 own:w.ownsRow base 5 1 v0 N xs
 hb:base≤w.heap.size
 gr:Grew w wr base v0 N xs v (acc.map (Value.int .u8))
 uw:Uw B s eU eI wr v
 hM:M=N+acc.length
theorem US.now{B base N M:Nat}{s:ByteArray}{eU eI v0 v:Value}{w wr:World}{xs:List Value}{acc:List Int}(h:US B s eU eI base N v0 xs w wr v M acc):wr.ownsRow base 5 1 v M (xs++acc.map (Value.int .u8)):=by
 have:=h.gr.own
 rw [List.length_map,← h.hM] at this
 exact this
theorem US.base{B base N M:Nat}{s:ByteArray}{eU eI v0 v:Value}{w wr:World}{xs:List Value}{acc:List Int}(h:US B s eU eI base N v0 xs w wr v M acc):base≤wr.heap.size:=Nat.le_trans h.hb h.gr.gb.size
theorem US.put{B base N M k:Nat}{s:ByteArray}{eU eI v0 v v2:Value}{w wr w2:World}{xs:List Value}{acc zs:List Int}(h:US B s eU eI base N v0 xs w wr v M acc)(hk:zs.length=k)(hg:Grew wr w2 base v M (xs++acc.map (Value.int .u8)) v2 (zs.map (Value.int .u8))):US B s eU eI base N v0 xs w w2 v2 (M+k) (acc++zs):=
 ⟨h.own,h.hb,by rw [List.map_append]; exact Grew.trans h.own h.gr (by rw [List.length_map,h.hM]) hg,h.uw.grew hg,by rw [h.hM,List.length_append,hk]; omega⟩
theorem US.below{B base N M:Nat}{s:ByteArray}{eU eI v0 v:Value}{w wr w2:World}{xs:List Value}{acc:List Int}(h:US B s eU eI base N v0 xs w wr v M acc)(hg:wr.grownBy w2 none):US B s eU eI base N v0 xs w w2 v M acc:=
 ⟨h.own,h.hb,by have e:=Grew.trans h.own h.gr (by rw [List.length_map,h.hM]) (Grew.none h.now hg); rw [List.append_nil] at e; exact e,h.uw.below hg,h.hM⟩
theorem src_pend{s:ByteArray}{p L B i n cp:Nat}{Y:List Int}{W:World}(hl:Lit s p L Y)(hB:Bf W B s)(h1:1≤i)(h2:i≤n)(h3:n≤Y.length+1):Src Tryz.prog 1 47 (.slice (.some ⟨B,p+i,none⟩) (n-i) cp) (n-i) (((Y.drop (i-1)).take (n-i)).map (Value.int .u8)) W:=by
 refine Src.ofSlice _ Tryz.underlying47 _ _ _ _ (by rw [List.length_map,List.length_take,List.length_drop]; omega) (fun j u hj => ?_) (fun u hu=>by obtain ⟨x,_,rfl⟩:=List.mem_map.1 hu; rfl)
 have hj0:=(List.getElem?_eq_some_iff.1 hj).1
 rw [List.length_map,List.length_take,List.length_drop] at hj0
 rw [List.getElem?_map,List.getElem?_take,if_pos (by omega),List.getElem?_drop] at hj
 have hadd:(⟨B,p+i,none⟩:Addr).add j=⟨B,p+i+j,none⟩:=by unfold Addr.add; split<;>simp_all
 have hlt:p+i+j<s.size:=by have:=hl.size; have:=hl.len; omega
 rw [hadd,hB _ hlt]
 have e:=hl.drop (n:=i+j) (by omega) (by omega)
 rw [← Nat.add_assoc,bytes_drop hlt] at e
 have e2:=congrArg List.head? e
 rw [List.head?_cons,List.head?_append,List.head?_drop] at e2
 rw [show i-1+j=i+j-1 by omega] at hj
 cases e3:Y[i+j-1]? with
 |none=>rw [e3] at hj; cases hj
 |some y=>
  rw [e3] at e2 hj
  have e4:(s[p+i+j].toNat:Int)=y:=by simpa using e2
  rw [e4]
  simpa using hj
end Go.Proofs.YtknaalohaagcdaaGreatDoor.Own
namespace Go.Proofs.YtknaalohaagcdaaGreatDoor.Own
open Go.RowKit
theorem decode_fits(s:ByteArray)(pos:Nat):(Utf8.decode s pos).1≤1114111∧((Utf8.decode s pos).1<55296∨57343<(Utf8.decode s pos).1):=by
 have hb:∀ k,(s.get! (pos+k)).toNat<256:=fun k=>(s.get! (pos+k)).toNat_lt
 have h0:=hb 0; have h1:=hb 1; have h2:=hb 2; have h3:=hb 3
 simp only [Utf8.decode]
 repeat' split
 all_goals simp_all [Utf8.runeError,Utf8.valid]
 all_goals omega
theorem decode_wide(s:ByteArray)(pos:Nat)(h:pos<s.size):1≤(Utf8.decode s pos).2:=by
 by_cases ha:(s[pos]'h).toNat<128
 ·rw [decode_ascii s pos h ha]
  exact Nat.le_refl _
 ·exact (decode_high s pos h (by omega)).2
theorem encO_len(c:Int):(encO c).length≤4:=by
 unfold encO
 repeat' split
 all_goals simp [brk]
theorem own_iterAt{w:World}{B e size n:Nat}{v:Value}{xs:List Value}{k:Nat}{s:ByteArray}{pos:Nat}(h:w.ownsRow B e size v n xs)(hk:w.heap[k]? = some (.stringIter s pos))(pos':Nat):(w.iterAt k s pos').ownsRow B e size v n xs:=by
 refine ⟨h.1,?_⟩
 rcases h.2 with h0|⟨g,cap,cur,hv,hb,hg,rest⟩
 ·exact .inl h0
 ·refine .inr ⟨g,cap,cur,hv,hb,?_,rest⟩
  rw [Lib.iterAt_other _ _ _ _ _ (fun e=>by subst e; rw [hk] at hg; cases hg)]
  exact hg
theorem own_ne_iter{w:World}{B e size n:Nat}{v:Value}{xs:List Value}{k:Nat}{s:ByteArray}{pos:Nat}(h:w.ownsRow B e size v n xs)(hk:w.heap[k]? = some (.stringIter s pos)):some k≠v.ownBlock:=by
 rcases h.2 with ⟨rfl,_⟩|⟨g,cap,cur,rfl,hb,hg,rest⟩
 ·simp [Value.ownBlock]
 ·intro e
  simp only [Value.ownBlock,Option.some.injEq] at e
  subst e
  rw [hk] at hg
  cases hg
structure EA(y:ByteArray)(pos base n:Nat)(v0:Value)(xs:List Value)(w wr:World)(v:Value)(m:Nat)(zs:List Int):Prop where
 own:w.ownsRow base 5 1 v0 n xs
 hb:base≤w.heap.size
 gr:Grew w wr base v0 n xs v (zs.map (Value.int .u8))
 it:wr.heap[w.heap.size]? = some (.stringIter y pos)
 hm:m=n+zs.length
theorem EA.now{y:ByteArray}{pos base n m:Nat}{v0 v:Value}{xs:List Value}{w wr:World}{zs:List Int}(h:EA y pos base n v0 xs w wr v m zs):wr.ownsRow base 5 1 v m (xs++zs.map (Value.int .u8)):=by
 have:=h.gr.own
 rw [List.length_map,← h.hm] at this
 exact this
theorem EA.start{y:ByteArray}{base n:Nat}{v0:Value}{xs:List Value}{w:World}(h:w.ownsRow base 5 1 v0 n xs)(hb:base≤w.heap.size):EA y 0 base n v0 xs w (w.iter y 0) v0 n []:=
 ⟨h,hb,Grew.none h (World.grownBy_alloc w _ none),World.iter_heap w y 0,rfl⟩
theorem EA.next{y:ByteArray}{pos base n m:Nat}{v0 v:Value}{xs:List Value}{w wr:World}{zs:List Int}(h:EA y pos base n v0 xs w wr v m zs)(pos':Nat):EA y pos' base n v0 xs w (wr.iterAt w.heap.size y pos') v m zs:=by
 have hg:=h.gr.gb
 refine ⟨h.own,h.hb,⟨own_iterAt h.gr.own h.it pos',⟨hg.os,hg.tape,hg.output,by rw [Lib.iterAt_size]; exact hg.size,fun i hi hx=>(Lib.iterAt_other _ _ _ _ _ (by omega)).trans (hg.block i hi hx)⟩,own_iterAt h.gr.old h.it pos',h.gr.rel⟩,Lib.iterAt_heap _ _ _ _ _ h.it,h.hm⟩
theorem EA.put{y:ByteArray}{pos base n m k:Nat}{v0 v v2:Value}{xs:List Value}{w wr w2:World}{zs us:List Int}(h:EA y pos base n v0 xs w wr v m zs)(hk:us.length=k)(hg:Grew wr w2 base v m (xs++zs.map (Value.int .u8)) v2 (us.map (Value.int .u8))):EA y pos base n v0 xs w w2 v2 (m+k) (zs++us):=
 ⟨h.own,h.hb,by rw [List.map_append]; exact Grew.trans h.own h.gr (by rw [List.length_map,h.hm]) hg,(hg.gb.block _ (Array.getElem?_eq_some_iff.1 h.it).1 (own_ne_iter h.now h.it)).trans h.it,by rw [h.hm,List.length_append,hk]; omega⟩
theorem EA.base{y:ByteArray}{pos base n m:Nat}{v0 v:Value}{xs:List Value}{w wr:World}{zs:List Int}(h:EA y pos base n v0 xs w wr v m zs):base≤wr.heap.size:=Nat.le_trans h.hb h.gr.gb.size
theorem EA.finish{y:ByteArray}{pos base n m c:Nat}{ao:Option Addr}{v0:Value}{xs:List Value}{w wr:World}{zs:List Int}(h:EA y pos base n v0 xs w wr (.slice ao m c) m zs)(hl:zs.length≤4 * y.size):∃ ao' m' c' zs',(Ending.returned (.slice ao m c))=.returned (.slice ao' m' c')∧wr.ownsRow base 5 1 (.slice ao' m' c') m' (xs++List.map (Value.int .u8) zs')∧m'≤n+4 * y.size∧w.grownBy wr v0.ownBlock∧(SameRow v0 (.slice ao' m' c')∨∃ g,(Value.slice ao' m' c').ownBlock=some g∧w.heap.size≤g):=
 ⟨ao,m,c,zs,rfl,h.now,by have:=h.hm; omega,h.gr.gb,h.gr.rel⟩
theorem EA.app{y:ByteArray}{pos base n m:Nat}{v0 v v2:Value}{xs X:List Value}{w wr w2:World}{zs us:List Int}(h:EA y pos base n v0 xs w wr v m zs)(hX:X=xs++zs.map (Value.int .u8))(hk:us.length=2)(h1:w2.ownsRow base 5 1 v2 (m+2) (X++us.map (Value.int .u8)))(h2:wr.grownBy w2 v.ownBlock)(h3:SameRow v v2∨v2.ownBlock=some wr.heap.size)(h4:w2.ownsRow base 5 1 v m X):EA y pos base n v0 xs w w2 v2 (m+2) (zs++us):=
 h.put hk ⟨by rw [List.length_map,hk,← hX]; exact h1,h2,by rw [← hX]; exact h4,h3.imp id (fun h=>⟨_,h,Nat.le_refl _⟩)⟩
theorem EA.row{y:ByteArray}{pos base n m:Nat}{v0 v:Value}{xs:List Value}{w wr:World}{zs:List Int}(h:EA y pos base n v0 xs w wr v m zs):∃ X:List Value,Hid (wr.ownsRow base 5 1 v m X)∧Hid (X=xs++zs.map (Value.int .u8)):=⟨_,Hq h.now,Hq rfl⟩
def EscP(y:ByteArray)(base n:Nat)(v0:Value)(xs:List Value)(w:World)(e:Ending)(w':World):Prop:=∃ ao' m' c' zs',e=.returned (.slice ao' m' c')∧w'.ownsRow base 5 1 (.slice ao' m' c') m' (xs++List.map (Value.int .u8) zs')∧m'≤n+4 * y.size∧w.grownBy w' v0.ownBlock∧(SameRow v0 (.slice ao' m' c')∨∃ g,(Value.slice ao' m' c').ownBlock=some g∧w.heap.size≤g)
theorem esc136(base n c:Nat)(ao:Option Addr)(xs:List Value)(nv:Value)(y:ByteArray)(w:World)(hs:y.size≤4294967296)(hn:n≤4294967296)(hown:w.ownsRow base 5 1 (.slice ao n c) n xs)(hb:base≤w.heap.size)(hc:(convert 47 9 nv).run Tryz.prog w=.ok (.string y) w):
  Calls Tryz.prog 136 #[.slice ao n c,nv] w (EscP y base n (.slice ao n c) xs w):=by
 obtain ⟨i5,hi,hz0,hz1,hz2⟩:=info_parts info5
 have E0:=Hq (EA.start (y:=y) hown hb)
 clear hown hb
 go_enter Tryz.func136,Tryz.ntmps136
 go_wp2_with fail
 go_loopg [0] y.size (fun gk v0 wr=>∃ (pos m cA j:Nat) (aoA:Option Addr) (zs:List Int),v0=.slice aoA m cA∧Hid (EA y pos base n (.slice ao n c) xs w wr (.slice aoA m cA) m zs)∧Hid (zs.length≤4 * j∧j≤pos∧j≤y.size)∧Hid (gk=y.size-pos))
 case atStart=>exact ⟨0,n,c,0,ao,[],rfl,E0,Hq (by simp),Hq rfl⟩
 case round=>
  clear E0
  obtain ⟨pos,m,cA,j,aoA,zs,rfl,HE,HJ,HG⟩:=hrel
  by_cases hp:pos<y.size
  ·have hnx:∀ ty,(Instr.next (.pointer (some ⟨w.heap.size,0,none⟩)) true ty).run Tryz.prog wr=_:=fun ty=>Lib.run_next_any_at wr w.heap.size y pos ty HE.out.it hp
   obtain ⟨hr1,hr2⟩:=decode_fits y pos
   have hw1:=decode_wide y pos hp
   generalize (Utf8.decode y pos).1=r at hnx hr1 hr2
   generalize (Utf8.decode y pos).2=k at hnx hw1
   have HE1:=Hq (HE.out.next (pos+k))
   generalize wr.iterAt w.heap.size y (pos+k)=w1 at hnx HE1
   have HP:=Hq hp
   have hm4:m≤34359738368:=by have h1:=HE.out.hm; have h2:=HJ.out; omega
   clear hp
   obtain ⟨X,OX,HX⟩:=HE1.out.row
   by_cases h126:r=126
   ·subst h126
    go_wp2_with (at_builtin; refine wpList_appS _ rfl _ _ 47 9 rfl base 5 i5 _ 1 Tryz.underlying47 hi hz0 hz1 hz2 rfl _ _ _ rfl OX.out _ 2 [.int .u8 126,.int .u8 48] rfl (Src.ofString w1 Tryz.underlying9 _) ?d1 ?d2 HE1.out.base ?_)
    case d1=>simp only [maxLen]; omega
    case d2=>omega
    intro aoC cC w7 q1 q2 q3 q4
    have HE2:=Hq (HE1.out.app (us:=[126,48]) HX.out rfl q1 q2 q3 q4)
    clear q1 q2 q3 q4 OX
    go_wp2_with fail
    go_roundg (y.size-(pos+k))
    case measure=>have:=HG.out; have:=HP.out; omega
    case rel=>exact ⟨pos+k,_,cC,j+1,aoC,_,rfl,HE2,Hq (by have:=HJ.out; have:=HP.out; simp; omega),Hq rfl⟩
   ·have t1:((r:Int)==126)=false:=by simp; omega
    by_cases h47:r=47
    ·subst h47
     clear t1 h126
     go_wp2_with (at_builtin; refine wpList_appS _ rfl _ _ 47 9 rfl base 5 i5 _ 1 Tryz.underlying47 hi hz0 hz1 hz2 rfl _ _ _ rfl OX.out _ 2 [.int .u8 126,.int .u8 49] rfl (Src.ofString w1 Tryz.underlying9 _) ?d1 ?d2 HE1.out.base ?_)
     case d1=>simp only [maxLen]; omega
     case d2=>omega
     intro aoC cC w7 q1 q2 q3 q4
     have HE2:=Hq (HE1.out.app (us:=[126,49]) HX.out rfl q1 q2 q3 q4)
     clear q1 q2 q3 q4 OX
     go_wp2_with fail
     go_roundg (y.size-(pos+k))
     case measure=>have:=HG.out; have:=HP.out; omega
     case rel=>exact ⟨pos+k,_,cC,j+1,aoC,_,rfl,HE2,Hq (by have:=HJ.out; have:=HP.out; simp; omega),Hq rfl⟩
    ·have t2:((r:Int)==47)=false:=by simp; omega
     have R:=Hq (rune156 base aoA cA m _ (r:Int) (by omega) (by omega) (by omega) w1 HE1.out.now (by omega) HE1.out.base)
     clear OX HX h126 h47
     go_wp2_with fail
     refine R.out.mono ?_
     rintro e w7 ⟨aoC,cC,rfl,hg⟩
     have HE2:=Hq (HE1.out.put rfl hg)
     have HL:=Hq (encO_len (r:Int))
     clear hg R
     go_wp2_with fail
     go_roundg (y.size-(pos+k))
     case measure=>have:=HG.out; have:=HP.out; omega
     case rel=>exact ⟨pos+k,_,cC,j+1,aoC,_,rfl,HE2,Hq (by have:=HJ.out; have:=HP.out; have:=HL.out; rw [List.length_append]; omega),Hq rfl⟩
  ·have hnx:∀ ty,(Instr.next (.pointer (some ⟨w.heap.size,0,none⟩)) true ty).run Tryz.prog wr=_:=fun ty=>Lib.run_next_end_at wr w.heap.size y pos ty HE.out.it hp
   go_wp2_with fail
   go_ret
   exact HE.out.finish (by have:=HJ.out; omega)
end Go.Proofs.YtknaalohaagcdaaGreatDoor.Own
