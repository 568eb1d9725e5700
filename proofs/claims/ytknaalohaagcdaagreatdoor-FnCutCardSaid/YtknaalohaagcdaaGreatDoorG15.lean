import Derived.Test.YtknaalohaagcdaaGreatDoorG01
import Derived.Test.YtknaalohaagcdaaGreatDoorG14
set_option maxHeartbeats 400000000
set_option maxRecDepth 100000
namespace Go.Proofs.YtknaalohaagcdaaGreatDoor.Own
open Go.RowKit JG
def SoFar(lo:Bool)(s:ByteArray)(p n:Nat)(fl:Int):Prop:=
 quotedO lo ((bytes s).drop p)=(sq lo 0 ((bytes s).drop (p+n))).map (·+n)∧(fl % 2=0→VerbL (((bytes s).drop (p+1)).take (n-1)))
theorem SoFar.adv{lo:Bool}{s:ByteArray}{p n k:Nat}{fl fl':Int}(h:SoFar lo s p n fl)(hn:1≤n)(he:sq lo 0 ((bytes s).drop (p+n))=(sq lo 0 ((bytes s).drop (p+n+k))).map (·+k))(hv:fl' % 2=0→fl % 2=0∧VerbL (((bytes s).drop (p+n)).take k)):SoFar lo s p (n+k) fl':=by
 refine ⟨?_,fun h0 => ?_⟩
 ·rw [h.1,he,map_add,show p+n+k=p+(n+k) by omega,Nat.add_comm k n]
 ·obtain ⟨h1,h2⟩:=hv h0
  have e:((bytes s).drop (p+1)).take (n+k-1)=((bytes s).drop (p+1)).take (n-1)++((bytes s).drop (p+n)).take k:=by
   rw [show n+k-1=(n-1)+k by omega,List.take_add,List.drop_drop,show p+1+(n-1)=p+n by omega]
  rw [e]
  exact (h.2 h1).append h2
theorem SoFar.one{lo:Bool}{s:ByteArray}{p n:Nat}{fl:Int}{c:Int}{t:List Int}(h:SoFar lo s p n fl)(hn:1≤n)(hd:(bytes s).drop (p+n)=c::t)(hc:plainB c=true):SoFar lo s p (n+1) fl:=by
 unfold plainB at hc
 simp at hc
 have hs:stp lo (c::t)=some 1:=stp_one (by omega) (by omega) (.inl (by omega))
 refine h.adv hn ?_ (fun h0=>⟨h0,?_⟩)
 ·rw [← List.drop_drop (j:=p+n),hd]
  exact sq_gen (by omega) hs (Nat.le_refl _)
 ·rw [hd]
  exact VerbL.one (by omega) (by omega)
theorem SoFar.done{lo:Bool}{s:ByteArray}{p n:Nat}{fl:Int}{t:List Int}(h:SoFar lo s p n fl)(hd:(bytes s).drop (p+n)=34::t):quotedO lo ((bytes s).drop p)=some n:=by
 rw [h.1,hd]
 show (some (0:Nat)).map (·+n)=some n
 simp
theorem SoFar.none{lo:Bool}{s:ByteArray}{p n:Nat}{fl:Int}(h:SoFar lo s p n fl)(hd:sq lo 0 ((bytes s).drop (p+n))=none):quotedO lo ((bytes s).drop p)=none:=by
 rw [h.1,hd]
 rfl
theorem SoFar.step{lo:Bool}{s:ByteArray}{p n k:Nat}{fl fl':Int}{c:Int}{t:List Int}(h:SoFar lo s p n fl)(hn:1≤n)(hd:(bytes s).drop (p+n)=c::t)(h34:¬ c=34)(hs:stp lo (c::t)=some k)(hf:¬ fl' % 2=0):SoFar lo s p (n+k) fl':=by
 have hk:1≤k:=(stp_loc hs).1
 refine h.adv hn ?_ (fun h0=>absurd h0 hf)
 rw [← List.drop_drop (j:=p+n),hd]
 exact sq_gen h34 hs hk
theorem SoFar.rune{lo:Bool}{s:ByteArray}{p n k:Nat}{fl:Int}{c:Int}{t:List Int}(h:SoFar lo s p n fl)(hn:1≤n)(hd:(bytes s).drop (p+n)=c::t)(h128:¬ c<128)(hr:runeO (c::t)=some k):SoFar lo s p (n+k) fl:=by
 obtain ⟨hk,pre,rest,he,hl,ha⟩:=rune_loc hr
 have hs:stp false (c::t)=some k:=by rw [stp_rune (by simp; omega)]; exact hr
 refine h.adv hn ?_ (fun h0=>⟨h0,?_⟩)
 ·rw [← List.drop_drop (j:=p+n),hd]
  cases lo
  ·exact sq_gen (by omega) hs hk
  ·exact stp_pass (by omega) hs
 ·rw [hd,he,List.take_left' hl]
  cases pre with
  |nil=>simp at hl; omega
  |cons d pre=>
   have hdc:c=d:=(List.cons.inj he).1
   subst hdc
   exact VerbL.rune h128 (fun ys=>by rw [hl]; exact ha ys)
theorem SoFar.stop{lo:Bool}{s:ByteArray}{p n:Nat}{fl:Int}{c:Int}{t:List Int}(h:SoFar lo s p n fl)(hd:(bytes s).drop (p+n)=c::t)(h34:¬ c=34)(hs:stp lo (c::t)=Option.none):quotedO lo ((bytes s).drop p)=Option.none:=by
 refine h.none ?_
 rw [hd]
 exact sq_none h34 hs
theorem SoFar.cut{lo:Bool}{s:ByteArray}{p n:Nat}{fl:Int}(h:SoFar lo s p n fl)(hd:∀ c∈(bytes s).drop (p+n),128≤c):quotedO lo ((bytes s).drop p)=Option.none:=
 h.none (sq_none_high lo _ _ (Nat.le_refl _) hd)
theorem stp_simple{lo:Bool}{c:Int}{t:List Int}(h:isSimple c):stp lo (92::c::t)=some 2:=by
 rw [stp_esc rfl]
 unfold escO
 rw [if_pos (by exact h)]
 rfl
theorem stp_noesc{lo:Bool}{c:Int}{t:List Int}(h:¬ isSimple c)(h2:¬ c=117):stp lo (92::c::t)=none:=by
 rw [stp_esc rfl]
 unfold escO
 rw [if_neg (by exact h),if_neg (by exact h2)]
 rfl
theorem noEscB(c:Int)(b:Bool)(h:plainB c=b)(w:World):Calls Tryz.prog 157 #[.int .u8 c] w fun e w'=>e=.returned (.bool b)∧w=w':=by
 rw [← h]
 exact (noEsc157 c w).mono fun e w' ⟨h1,h2⟩=>⟨h1,h2.symm⟩
theorem Joined.odd{F:Nat}{fl x:Int}{w w':World}{e:Ending}(h:Joined F fl x w e w')(hx:x≠2∨¬ fl % 2=0):∃ fl',e=.returned (.tuple #[])∧Fl w' F fl'∧¬ fl' % 2=0∧w.grownBy w' (some F):=by
 obtain ⟨fl',h1,h2,h3,h4⟩:=h
 refine ⟨fl',h1,h2,fun h0 => ?_,h4⟩
 have:=h3 h0
 rcases hx with h|h
 ·exact h this.2
 ·exact h this.1
theorem joinO(F:Nat)(fl x:Int)(w:World)(h:Fl w F fl)(hx:x=1∨x=3∨(x=2∧¬ fl % 2=0)):Calls Tryz.prog 152 #[.pointer (some ⟨F,0,none⟩),.int .u64 x] w fun e w'=>∃ fl',e=.returned (.tuple #[])∧Fl w' F fl'∧¬ fl' % 2=0∧w.grownBy w' (some F):=
 (join152 F fl x w h (by omega)).mono fun e w' hj=>hj.odd (by omega)
structure SS(B:Nat)(s:ByteArray)(eU eI:Value)(F:Nat)(w wr:World)(fl:Int):Prop where
 sw:SW B s eU eI F wr
 fl:Fl wr F fl
 gb:w.grownBy wr (some F)
theorem SS.below{B:Nat}{s:ByteArray}{eU eI:Value}{F:Nat}{w wr w1:World}{fl:Int}(h:SS B s eU eI F w wr fl)(hb:wr.grownBy w1 none):SS B s eU eI F w w1 fl:=
 ⟨h.sw.kept (gb_some hb F),h.fl.block (hb.block F h.fl.lt (by simp)),h.gb.trans (gb_some hb F)⟩
theorem SS.join{B:Nat}{s:ByteArray}{eU eI:Value}{F:Nat}{w wr w1:World}{fl fl':Int}(h:SS B s eU eI F w wr fl)(hb:wr.grownBy w1 (some F))(hf:Fl w1 F fl'):SS B s eU eI F w w1 fl':=
 ⟨h.sw.kept hb,hf,h.gb.trans hb⟩
theorem SS.drew{B:Nat}{s:ByteArray}{eU eI:Value}{F:Nat}{w wr:World}{fl:Int}(h:SS B s eU eI F w wr fl)(n:Nat):SS B s eU eI F w (wr.drewN n) fl:=h.below (gb_drewN (World.grownBy.refl _ _) n)
theorem SS.stop{B:Nat}{s:ByteArray}{eU eI:Value}{F p:Nat}{lo:Bool}{w wr:World}{fl:Int}{n:Nat}{v:Value}(h:SS B s eU eI F w wr fl)(hq:quotedO lo ((bytes s).drop p)=none)(hn:n≤((bytes s).drop p).length)(hv:StrErr eU eI v):StrP lo ((bytes s).drop p) F eU eI w (.returned (.tuple #[.int .i64 n,v])) wr:=
 .inr ⟨hq,n,v,fl,rfl,hn,hv,h.fl,h.gb⟩
end Go.Proofs.YtknaalohaagcdaaGreatDoor.Own
