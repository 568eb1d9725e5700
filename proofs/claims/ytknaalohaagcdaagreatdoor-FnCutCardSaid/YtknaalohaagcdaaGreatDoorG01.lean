import Derived.Test.YtknaalohaagcdaaGreatDoorProg
import Derived.WalkKit
import Derived.Below
import Derived.Outline
import Derived.WalkLawsBesides
import Derived.WalkSpells
import Derived.WalkMore
import Derived.Lib.Hide
import Derived.Handy
import Derived.Laws.Rows
import Derived.Laws.AppendOwn
import Derived.Maps.AppendAt
import Derived.Lib.BufferWrite
import Derived.Lib.BufferOwn
import Derived.Deep.QuietTactic
import Derived.BigQuiet
import Derived.LoopTactic
import Derived.Deep.RegionWith
import Derived.Deep.CutRange
import Derived.Deep.LoopGhost
import Derived.Laws.BytesArg
import Derived.Laws.BitsLemmas
import Derived.Deep.AppendLies
set_option maxHeartbeats 400000000
set_option maxRecDepth 100000
namespace Go.Proofs.YtknaalohaagcdaaGreatDoor.Own
theorem Hq{p:Prop}(h:p):Go.RowKit.Hid p:=Go.Lib.hid h
end Go.Proofs.YtknaalohaagcdaaGreatDoor.Own
namespace JG
def isWs(c:Int):Bool:=c==32 || c==9 || c==10 || c==13
def ws:List Int→Nat
 |[]=>0
 |c::t=>if isWs c then ws t+1 else 0
def hexv(c:Int):Int:=if 48≤c∧c≤57 then c-48 else if 97≤c∧c≤102 then c-87 else if 65≤c∧c≤70 then c-55 else -1
def hex4:List Int→Int
 |a::b::c::d::_=>if 0≤hexv a∧0≤hexv b∧0≤hexv c∧0≤hexv d then ((hexv a * 16+hexv b) * 16+hexv c) * 16+hexv d else -1
 |_ => -1
def unitAt:List Int→Int
 |a::b::t=>if a=92∧b=117 then hex4 t else -1
 |_ => -1
def isSur(v:Int):Bool:=decide (55296≤v)&&decide (v≤57343)
def isCont(c:Int):Bool:=decide (128≤c)&&decide (c≤191)
def width:List Int→Nat
 |[]=>0
 |a::t=>
  if a<128 then 1
  else if 194≤a∧a≤223 then (match t with|b::_=>if isCont b then 2 else 0|_=>0)
  else if 224≤a∧a≤239 then (match t with|b::c::_=>if (if a=224 then 160 else 128)≤b∧b≤(if a=237 then 159 else 191)∧isCont c then 3 else 0|_=>0)
  else if 240≤a∧a≤244 then (match t with|b::c::d::_=>if (if a=240 then 144 else 128)≤b∧b≤(if a=244 then 143 else 191)∧isCont c∧isCont d then 4 else 0|_=>0)
  else 0
def escLen(loose:Bool):List Int→Nat
 |[]=>0
 |c::t=>
  if c=34∨c=92∨c=47∨c=98∨c=102∨c=110∨c=114∨c=116 then 2
  else if c=117 then
   (if hex4 t<0 then 0
   else if loose || !isSur (hex4 t) then 6
   else if hex4 t≤56319∧56320≤unitAt (t.drop 4)∧unitAt (t.drop 4)≤57343 then 12 else 0)
  else 0
def piece(loose:Bool):List Int→Nat
 |[]=>0
 |c::t=>
  if c=92 then escLen loose t
  else if c<32 then 0
  else if width (c::t)=0 then (if loose then 1 else 0)
  else width (c::t)
def isDig(c:Int):Bool:=decide (48≤c)&&decide (c≤57)
def digs:List Int→Nat
 |[]=>0
 |c::t=>if isDig c then digs t+1 else 0
def digsO(xs:List Int):Option Nat:=if digs xs=0 then none else some (digs xs)
def wordAt:List Int→List Int→Option Nat
 |[],_=>some 0
 |_::_,[]=>none
 |a::l,c::t=>if c=a then (wordAt l t).map (·+1) else none
def sgn:List Int→Nat
 |[]=>0
 |c::_=>if c=45∨c=43 then 1 else 0
def expo:List Int→Option Nat
 |[]=>some 0
 |c::t=>if c=101∨c=69 then (digsO (t.drop (sgn t))).map (·+(1+sgn t)) else some 0
def frac:List Int→Option Nat
 |[]=>some 0
 |c::t=>if c=46 then (digsO t).bind fun k=>(expo (t.drop k)).map (·+(1+k)) else expo (c::t)
def whole:List Int→Option Nat
 |[]=>none
 |c::t=>if c=48 then (frac t).map (·+1) else (digsO (c::t)).bind fun k=>(frac ((c::t).drop k)).map (·+k)
def num:List Int→Option Nat
 |[]=>none
 |c::t=>if c=45 then (whole t).map (·+1) else whole (c::t)
end JG
namespace Go.Proofs.YtknaalohaagcdaaGreatDoor.Own
open Go.RowKit JG
def bytes(s:ByteArray):List Int:=s.data.toList.map fun b=>(b.toNat:Int)
theorem bytes_len(s:ByteArray):(bytes s).length=s.size:=by simp [bytes]
theorem bytes_drop{s:ByteArray}{p:Nat}(h:p<s.size):(bytes s).drop p=(s[p].toNat:Int)::(bytes s).drop (p+1):=by
 have hl:p<(bytes s).length:=by rw [bytes_len]; exact h
 rw [List.drop_eq_getElem_cons hl]
 congr 1
 simp [bytes]
 rfl
theorem bytes_end{s:ByteArray}{p:Nat}(h:s.size≤p):(bytes s).drop p=[]:=List.drop_eq_nil_of_le (by rw [bytes_len]; exact h)
def R(w:World)(g:Nat)(s:ByteArray)(p:Nat)(tw lo:Bool)(fa:Int)(op:Bool):Prop:=
 w.heap[g]? = some (.cells #[.string s,.int .i64 p,.bool tw,.bool lo,.int .i64 fa,.bool op] 54 (0,0))∧p≤s.size
theorem R.facts{w:World}{g:Nat}{s:ByteArray}{p:Nat}{tw lo:Bool}{fa:Int}{op:Bool}(h:R w g s p tw lo fa op):
  w.cell? ⟨g,0,none⟩=some (.string s)∧w.cell? ⟨g,1,none⟩=some (.int .i64 p)∧w.cell? ⟨g,2,none⟩=some (.bool tw)∧w.cell? ⟨g,3,none⟩=some (.bool lo)∧w.cell? ⟨g,4,none⟩=some (.int .i64 fa)∧w.cell? ⟨g,5,none⟩=some (.bool op)∧
  w.frozen? ⟨g,1,none⟩=false∧w.frozen? ⟨g,4,none⟩=false∧w.frozen? ⟨g,5,none⟩=false:=by
 obtain ⟨h,_⟩:=h
 refine ⟨cell_of_row _ _ 0 _ _ (0,0) h,cell_of_row _ _ 1 _ _ (0,0) h,cell_of_row _ _ 2 _ _ (0,0) h,cell_of_row _ _ 3 _ _ (0,0) h,cell_of_row _ _ 4 _ _ (0,0) h,cell_of_row _ _ 5 _ _ (0,0) h,?_,?_,?_⟩<;>(unfold World.frozen?; simp only [h]; simp)
theorem R.drew{w:World}{g:Nat}{s:ByteArray}{p:Nat}{tw lo:Bool}{fa:Int}{op:Bool}(h:R w g s p tw lo fa op)(n:Nat):R (w.drewN n) g s p tw lo fa op:=h
theorem R.setAt{w:World}{g:Nat}{s:ByteArray}{p:Nat}{tw lo:Bool}{fa:Int}{op:Bool}(h:R w g s p tw lo fa op)(q:Nat)(hq:q≤s.size):R (w.setCell ⟨g,1,none⟩ (.int .i64 q)) g s q tw lo fa op:=by
 refine ⟨?_,hq⟩
 rw [heap_setCell_same _ _ _ _ _ _ h.1]
 rfl
theorem R.setFault{w:World}{g:Nat}{s:ByteArray}{p:Nat}{tw lo:Bool}{fa:Int}{op:Bool}(h:R w g s p tw lo fa op)(q:Int):R (w.setCell ⟨g,4,none⟩ (.int .i64 q)) g s p tw lo q op:=by
 refine ⟨?_,h.2⟩
 rw [heap_setCell_same _ _ _ _ _ _ h.1]
 rfl
theorem R.setOpen{w:World}{g:Nat}{s:ByteArray}{p:Nat}{tw lo:Bool}{fa:Int}{op:Bool}(h:R w g s p tw lo fa op)(q:Bool):R (w.setCell ⟨g,5,none⟩ (.bool q)) g s p tw lo fa q:=by
 refine ⟨?_,h.2⟩
 rw [heap_setCell_same _ _ _ _ _ _ h.1]
 rfl
theorem gb_drewN{w w':World}{r:Option Nat}(h:w.grownBy w' r)(n:Nat):w.grownBy (w'.drewN n) r:=⟨h.os,h.tape,h.output,h.size,h.block⟩
theorem gb_set{w w':World}{g:Nat}(h:w.grownBy w' (some g))(i:Nat)(v:Value):w.grownBy (w'.setCell ⟨g,i,none⟩ v) (some g):=h.trans (Go.Lib.grownBy_setCell _ _ _ _)
def Failed(g:Nat)(s:ByteArray)(tw lo op:Bool)(p:Nat)(w':World):Prop:=∃ q fa,fa≠0∧p≤q∧R w' g s q tw lo fa op
theorem Failed.mono{g:Nat}{s:ByteArray}{tw lo op:Bool}{p p':Nat}{w':World}(h:Failed g s tw lo op p w')(hp:p'≤p):Failed g s tw lo op p' w':=by
 obtain ⟨q,fa,h1,h2,h3⟩:=h
 exact ⟨q,fa,h1,by omega,h3⟩
def Did(g:Nat)(s:ByteArray)(tw lo op:Bool)(p:Nat)(o:Option Nat)(w:World)(e:Ending)(w':World):Prop:=
 (∃ k,o=some k∧e=.returned (.bool true)∧R w' g s (p+k) tw lo 0 op∧w.grownBy w' (some g))∨
 (o=none∧e=.returned (.bool false)∧Failed g s tw lo op p w'∧w.grownBy w' (some g))
theorem calls_yes{f:FuncId}{args:Array Value}{g:Nat}{s:ByteArray}{tw lo op:Bool}{p:Nat}{o:Option Nat}{w:World}(h:Calls Tryz.prog f args w (Did g s tw lo op p o w)){k:Nat}(ho:o=some k):
  Calls Tryz.prog f args w fun e w'=>e=.returned (.bool true)∧R w' g s (p+k) tw lo 0 op∧w.grownBy w' (some g):=by
 refine h.mono fun e w' hd => ?_
 rcases hd with ⟨k',h1,h2,h3,h4⟩|⟨h1,_⟩
 ·obtain rfl:k'=k:=Option.some.inj (h1.symm.trans ho)
  exact ⟨h2,h3,h4⟩
 ·rw [ho] at h1
  cases h1
theorem calls_no{f:FuncId}{args:Array Value}{g:Nat}{s:ByteArray}{tw lo op:Bool}{p:Nat}{o:Option Nat}{w:World}(h:Calls Tryz.prog f args w (Did g s tw lo op p o w))(ho:o=none):
  Calls Tryz.prog f args w fun e w'=>e=.returned (.bool false)∧Failed g s tw lo op p w'∧w.grownBy w' (some g):=by
 refine h.mono fun e w' hd => ?_
 rcases hd with ⟨k',h1,_⟩|⟨_,h2,h3,h4⟩
 ·rw [ho] at h1
  cases h1
 ·exact ⟨h2,h3,h4⟩
theorem see44(g:Nat)(s:ByteArray)(p:Nat)(tw lo:Bool)(fa:Int)(op:Bool)(w:World)(h:R w g s p tw lo fa op):
  Calls Tryz.prog 44 #[.pointer (some ⟨g,0,none⟩)] w fun e w'=>e=.returned (.int .u8 (((bytes s).drop p).headD 0))∧∃ n,w'=w.drewN n:=by
 obtain ⟨c0,c1,_,_,_,_,_,_,_⟩:=h.facts
 clear h
 by_cases hp:p<s.size
 ·have e:((bytes s).drop p).headD 0=(s[p].toNat:Int):=by rw [bytes_drop hp]; rfl
  rw [e]
  clear e
  go_enter Tryz.func44,Tryz.ntmps44
  go_wp2_with fail
  go_quiet (fail)
  go_wp2_with fail
  go_quiet (fail)
  go_wp2_with fail
  go_ret
  exact ⟨rfl,_,World.drewN_drewN _ _ _⟩
 ·have e:((bytes s).drop p).headD 0=0:=by rw [bytes_end (by omega)]; rfl
  rw [e]
  clear e
  go_enter Tryz.func44,Tryz.ntmps44
  go_wp2_with fail
  go_quiet (fail)
  go_wp2_with fail
  go_ret
  exact ⟨rfl,_,rfl⟩
theorem fail25(g:Nat)(s:ByteArray)(p:Nat)(tw lo:Bool)(op:Bool)(k:Int)(w:World)(h:R w g s p tw lo 0 op):
  Calls Tryz.prog 25 #[.pointer (some ⟨g,0,none⟩),.int .i64 k] w fun e w'=>e=.returned (.bool false)∧R w' g s p tw lo k op∧w.grownBy w' (some g):=by
 obtain ⟨_,_,_,_,c4,_,_,f4,_⟩:=h.facts
 have H:=Hq h
 clear h
 go_enter Tryz.func25,Tryz.ntmps25
 go_wp2
 go_ret
 exact ⟨rfl,H.out.setFault k,gb_set (World.grownBy.refl _ _) _ _⟩
def needs(lo hi:Int):List Int→Option Nat
 |[]=>none
 |c::_=>if lo≤c∧c≤hi then some 1 else none
theorem needs_cons(a b c:Int)(t:List Int):needs a b (c::t)=if a≤c∧c≤b then some 1 else none:=rfl
theorem need53(g:Nat)(s:ByteArray)(p:Nat)(tw lo op:Bool)(a b:Int)(w:World)(hs:s.size≤140737488355328)(h:R w g s p tw lo 0 op):
  Calls Tryz.prog 53 #[.pointer (some ⟨g,0,none⟩),.int .u8 a,.int .u8 b] w (Did g s tw lo op p (needs a b ((bytes s).drop p)) w):=by
 obtain ⟨c0,c1,_,_,c4,_,f1,f4,_⟩:=h.facts
 have H:=Hq h
 have F:=Hq (fun n=>fail25 g s p tw lo op 4 (w.drewN n) (h.drew n))
 clear h
 by_cases hp:p<s.size
 ·have hp1:decide (s.size≤p)=false:=by simp; omega
  by_cases h1:(s[p].toNat:Int)<a
  ·have t1:decide ((s[p].toNat:Int)<a)=true:=by simpa using h1
   have E:=Hq (show needs a b ((bytes s).drop p)=none by rw [bytes_drop hp,needs_cons,if_neg (by omega)])
   go_enter Tryz.func53,Tryz.ntmps53
   go_wp2_with fail
   go_quiet (fail)
   go_wp2_with fail
   refine (F.out _).mono ?_
   rintro e w' ⟨rfl,hR,hg⟩
   have HR:=Hq (And.intro hR hg)
   clear hR hg
   go_wp2_with fail
   go_ret
   exact .inr ⟨E.out,rfl,⟨p,4,by decide,Nat.le_refl _,HR.out.1⟩,(gb_drewN (World.grownBy.refl _ _) _).trans HR.out.2⟩
  ·have t1:decide ((s[p].toNat:Int)<a)=false:=by simpa using h1
   by_cases h2:b<(s[p].toNat:Int)
   ·have t2:decide (b<(s[p].toNat:Int))=true:=by simpa using h2
    have E:=Hq (show needs a b ((bytes s).drop p)=none by rw [bytes_drop hp,needs_cons,if_neg (by omega)])
    go_enter Tryz.func53,Tryz.ntmps53
    go_wp2_with fail
    go_quiet (fail)
    go_wp2_with fail
    refine (F.out _).mono ?_
    rintro e w' ⟨rfl,hR,hg⟩
    have HR:=Hq (And.intro hR hg)
    clear hR hg
    go_wp2_with fail
    go_ret
    exact .inr ⟨E.out,rfl,⟨p,4,by decide,Nat.le_refl _,HR.out.1⟩,(gb_drewN (World.grownBy.refl _ _) _).trans HR.out.2⟩
   ·have t2:decide (b<(s[p].toNat:Int))=false:=by simpa using h2
    have E:=Hq (show needs a b ((bytes s).drop p)=some 1 by rw [bytes_drop hp,needs_cons,if_pos (by omega)])
    go_enter Tryz.func53,Tryz.ntmps53
    go_wp2_with fail
    go_quiet (fail)
    go_wp2_with fail
    go_ret
    exact .inl ⟨1,E.out,rfl,(H.out.drew _).setAt (p+1) (by omega),gb_set (gb_drewN (World.grownBy.refl _ _) _) _ _⟩
 ·have hp1:decide (s.size≤p)=true:=by simp; omega
  have E:=Hq (show needs a b ((bytes s).drop p)=none by rw [bytes_end (by omega)]; rfl)
  go_enter Tryz.func53,Tryz.ntmps53
  go_wp2_with fail
  go_quiet (fail)
  go_wp2_with fail
  refine (F.out _).mono ?_
  rintro e w' ⟨rfl,hR,hg⟩
  have HR:=Hq (And.intro hR hg)
  clear hR hg
  go_wp2_with fail
  go_ret
  exact .inr ⟨E.out,rfl,⟨p,4,by decide,Nat.le_refl _,HR.out.1⟩,(gb_drewN (World.grownBy.refl _ _) _).trans HR.out.2⟩
theorem isSpace22(c:Int)(w:World):Calls Tryz.prog 22 #[.int .u8 c] w fun e w'=>e=.returned (.bool (isWs c))∧w'=w:=by
 have E:isWs c=(c==32 || c==9 || c==10 || c==13):=rfl
 by_cases h1:c=32
 ·subst h1
  go_enter Tryz.func22,Tryz.ntmps22
  go_wp2
  go_ret
  exact ⟨rfl,rfl⟩
 by_cases h2:c=9
 ·subst h2
  go_enter Tryz.func22,Tryz.ntmps22
  go_wp2
  go_ret
  exact ⟨rfl,rfl⟩
 by_cases h3:c=10
 ·subst h3
  go_enter Tryz.func22,Tryz.ntmps22
  go_wp2
  go_ret
  exact ⟨rfl,rfl⟩
 have t1:(c==32)=false:=by simpa using h1
 have t2:(c==9)=false:=by simpa using h2
 have t3:(c==10)=false:=by simpa using h3
 rw [E,t1,t2,t3]
 clear h1 h2 h3 E
 go_enter Tryz.func22,Tryz.ntmps22
 go_wp2
 go_ret
 exact ⟨by simp,rfl⟩
theorem ws_yes{c:Int}{t:List Int}(h:isWs c=true):ws (c::t)=ws t+1:=by show (if _ then _ else _)=_; rw [if_pos h]
theorem ws_no{c:Int}{t:List Int}(h:isWs c=false):ws (c::t)=0:=by show (if _ then _ else _)=_; rw [if_neg (by rw [h]; simp)]
theorem space24(g:Nat)(s:ByteArray)(p:Nat)(tw lo:Bool)(fa:Int)(op:Bool)(w:World)(hs:s.size≤140737488355328)(hp:p≤s.size)(h:R w g s p tw lo fa op):
  Calls Tryz.prog 24 #[.pointer (some ⟨g,0,none⟩)] w fun e w'=>e=.returned (.tuple #[])∧R w' g s (p+ws ((bytes s).drop p)) tw lo fa op∧w.grownBy w' (some g):=by
 have H:=Hq h
 clear h
 go_enter Tryz.func24,Tryz.ntmps24
 go_wp2_with fail
 go_loopg [] (s.size-p) (fun gk wr=>∃ q,Hid (q+ws ((bytes s).drop q)=p+ws ((bytes s).drop p))∧q≤s.size∧Hid (gk=s.size-q)∧Hid (R wr g s q tw lo fa op)∧Hid (w.grownBy wr (some g)))
 case atStart=>exact ⟨p,Hq rfl,hp,Hq rfl,H,Hq (World.grownBy.refl _ _)⟩
 case round=>
  obtain ⟨q,HE,hq,HG,HR,HB⟩:=hrel
  obtain ⟨c0,c1,_,_,_,_,f1,_,_⟩:=HR.out.facts
  by_cases hlt:q<s.size
  ·have t0:decide (q<s.size)=true:=by simpa using hlt
   have C:=Hq (fun n=>isSpace22 (s[q].toNat:Int) (wr.drewN n))
   cases hc:isWs (s[q].toNat:Int)
   ·have HW:=Hq hc
    rw [hc] at C
    clear hc
    go_wp2_with fail
    go_quiet ((go_at_call 22; exact Calls.quiet_of_same (C.out _)))
    go_wp2_with fail
    go_end0
    have e:=HE.out
    have z:ws ((bytes s).drop q)=0:=by rw [bytes_drop hlt,ws_no HW.out]
    refine ⟨rfl,?_,gb_drewN HB.out _⟩
    rw [show p+ws ((bytes s).drop p)=q by omega]
    exact HR.out.drew _
   ·have HW:=Hq hc
    rw [hc] at C
    clear hc
    go_wp2_with fail
    go_quiet ((go_at_call 22; exact Calls.quiet_of_same (C.out _)))
    go_wp2_with fail
    go_roundg (s.size-(q+1))
    case measure=>have:=HG.out; omega
    case rel=>
     have e:=HE.out
     have z:ws ((bytes s).drop q)=ws ((bytes s).drop (q+1))+1:=by rw [bytes_drop hlt,ws_yes HW.out]
     exact ⟨q+1,Hq (by omega),by omega,Hq rfl,Hq ((HR.out.drew _).setAt (q+1) (by omega)),Hq (gb_set (gb_drewN HB.out _) _ _)⟩
  ·have t0:decide (q<s.size)=false:=by simpa using hlt
   go_wp2_with fail
   go_quiet (fail)
   go_wp2_with fail
   go_end0
   have e:=HE.out
   have z:ws ((bytes s).drop q)=0:=by rw [bytes_end (by omega)]; rfl
   refine ⟨rfl,?_,gb_drewN HB.out _⟩
   rw [show p+ws ((bytes s).drop p)=q by omega]
   exact HR.out.drew _
theorem word_cons(a c:Int)(l t:List Int):wordAt (a::l) (c::t)=if c=a then (wordAt l t).map (·+1) else none:=rfl
theorem word54(g:Nat)(s l:ByteArray)(p:Nat)(tw lo op:Bool)(w:World)(hs:s.size≤140737488355328)(hl:l.size≤1000)(hp:p≤s.size)(h:R w g s p tw lo 0 op):
  Calls Tryz.prog 54 #[.pointer (some ⟨g,0,none⟩),.string l] w (Did g s tw lo op p (wordAt (bytes l) ((bytes s).drop p)) w):=by
 have H:=Hq h
 clear h
 go_enter Tryz.func54,Tryz.ntmps54
 go_wp2_with fail
 go_loopg [5,8] l.size (fun gk v5 v8 wr=>∃ i:Nat,v8=.int .i64 i∧i≤l.size∧Hid (gk=l.size-i)∧p+i≤s.size∧Hid (wordAt (bytes l) ((bytes s).drop p)=(wordAt ((bytes l).drop i) ((bytes s).drop (p+i))).map (·+i))∧Hid (R wr g s (p+i) tw lo 0 op)∧Hid (w.grownBy wr (some g)))
 case atStart=>exact ⟨0,rfl,Nat.zero_le _,Hq rfl,hp,Hq (by simp),H,Hq (World.grownBy.refl _ _)⟩
 case round=>
  obtain ⟨i,rfl,hi,HG,hpi,HE,HR,HB⟩:=hrel
  by_cases hlt:i<l.size
  ·have N:=fun n=>need53 g s (p+i) tw lo op (l[i].toNat:Int) (l[i].toNat:Int) (wr.drewN n) hs (HR.out.drew n)
   by_cases hy:∃ h:p+i<s.size,(s[p+i].toNat:Int)=(l[i].toNat:Int)
   ·obtain ⟨hq,hy⟩:=hy
    have hn:needs (l[i].toNat:Int) (l[i].toNat:Int) ((bytes s).drop (p+i))=some 1:=by rw [bytes_drop hq,needs_cons,if_pos (by omega)]
    have NY:=Hq (fun n=>calls_yes (N n) hn)
    have E:=Hq (show (wordAt ((bytes l).drop i) ((bytes s).drop (p+i))).map (·+i)=(wordAt ((bytes l).drop (i+1)) ((bytes s).drop (p+(i+1)))).map (·+(i+1)) by
     rw [bytes_drop hlt,bytes_drop hq,word_cons,if_pos hy,Option.map_map]
     congr 1
     funext x
     show x+1+i=x+(i+1)
     omega)
    clear N hn hy
    go_wp2_with fail
    go_region_with (go_at_call 53; refine (NY.out _).mono ?_; rintro e w1 ⟨rfl,hR,hg⟩; have HD:=Hq (And.intro hR hg); clear hR hg)
    all_goals go_wp2_with fail
    all_goals go_roundg (l.size-(i+1))
    all_goals first|(have:=HG.out; omega)|skip
    all_goals exact ⟨i+1,by go_num,by omega,Hq rfl,by omega,Hq (HE.out.trans E.out),Hq HD.out.1,Hq (HB.out.trans ((gb_drewN (World.grownBy.refl _ _) _).trans HD.out.2))⟩
   ·have hn:needs (l[i].toNat:Int) (l[i].toNat:Int) ((bytes s).drop (p+i))=none:=by
     by_cases hq:p+i<s.size
     ·rw [bytes_drop hq,needs_cons,if_neg (fun h=>hy ⟨hq,by omega⟩)]
     ·rw [bytes_end (by omega)]
      rfl
    have hw:wordAt ((bytes l).drop i) ((bytes s).drop (p+i))=none:=by
     rw [bytes_drop hlt]
     by_cases hq:p+i<s.size
     ·rw [bytes_drop hq,word_cons,if_neg (fun h=>hy ⟨hq,h⟩)]
     ·rw [bytes_end (s:=s) (p:=p+i) (by omega)]
      rfl
    have E:=Hq (HE.out.trans (by rw [hw]; rfl:_=none))
    have NN:=Hq (fun n=>calls_no (N n) hn)
    clear N hn hy hw
    go_wp2_with fail
    go_region_with (go_at_call 53; refine (NN.out _).mono ?_; rintro e w1 ⟨rfl,hR,hg⟩; have HD:=Hq (And.intro hR hg); clear hR hg)
    all_goals go_wp2_with fail
    all_goals go_ret
    all_goals exact .inr ⟨E.out,rfl,HD.out.1.mono (by omega),HB.out.trans ((gb_drewN (World.grownBy.refl _ _) _).trans HD.out.2)⟩
  ·have z:(bytes l).drop i=[]:=bytes_end (by omega)
   have E:=Hq (HE.out.trans (by rw [z]; simp [wordAt]:_=some i))
   clear z
   go_wp2_with fail
   go_ret
   exact .inl ⟨i,E.out,rfl,HR.out,HB.out⟩
theorem digs_cons_yes{c:Int}{t:List Int}(h:isDig c=true):digs (c::t)=digs t+1:=by show (if _ then _ else _)=_; rw [if_pos h]
theorem digs_cons_no{c:Int}{t:List Int}(h:isDig c=false):digs (c::t)=0:=by show (if _ then _ else _)=_; rw [if_neg (by rw [h]; simp)]
theorem isDig_iff(c:Int):isDig c=true↔48≤c∧c≤57:=by simp [isDig]
theorem digits113(g:Nat)(s:ByteArray)(p:Nat)(tw lo op:Bool)(w:World)(hs:s.size≤140737488355328)(h:R w g s p tw lo 0 op):
  Calls Tryz.prog 113 #[.pointer (some ⟨g,0,none⟩)] w (Did g s tw lo op p (digsO ((bytes s).drop p)) w):=by
 have N:=need53 g s p tw lo op 48 57 w hs h
 by_cases hy:∃ h:p<s.size,isDig (s[p].toNat:Int)=true
 ·obtain ⟨hp,hd⟩:=hy
  have hb:=(isDig_iff _).1 hd
  have hn:needs 48 57 ((bytes s).drop p)=some 1:=by rw [bytes_drop hp,needs_cons,if_pos (by omega)]
  have NY:=Hq (calls_yes N hn)
  have hz:digs ((bytes s).drop p)=digs ((bytes s).drop (p+1))+1:=by rw [bytes_drop hp,digs_cons_yes hd]
  have HZ:=Hq hz
  clear N hn hd hb hz h
  go_enter Tryz.func113,Tryz.ntmps113
  go_wp2_with fail
  refine NY.out.mono ?_
  rintro e w1 ⟨rfl,hR,hg⟩
  have HD:=Hq (And.intro hR hg)
  clear hR hg
  go_wp2_with fail
  go_loopg [] (s.size-(p+1)) (fun gk wr=>∃ q,Hid (q+digs ((bytes s).drop q)=p+digs ((bytes s).drop p))∧q≤s.size∧Hid (gk=s.size-q)∧Hid (R wr g s q tw lo 0 op)∧Hid (w.grownBy wr (some g)))
  case atStart=>exact ⟨p+1,Hq (by have:=HZ.out; omega),by omega,Hq rfl,Hq HD.out.1,Hq HD.out.2⟩
  case round=>
   obtain ⟨q,HE,hq,HG,HR,HB⟩:=hrel
   obtain ⟨c0,c1,_,_,_,_,f1,_,_⟩:=HR.out.facts
   by_cases hlt:q<s.size
   ·have t0:decide (q<s.size)=true:=by simpa using hlt
    by_cases h1:48≤(s[q].toNat:Int)
    ·have t1:decide (48≤(s[q].toNat:Int))=true:=by simpa using h1
     by_cases h2:(s[q].toNat:Int)≤57
     ·have t2:decide ((s[q].toNat:Int)≤57)=true:=by simpa using h2
      have E:=Hq (show digs ((bytes s).drop q)=digs ((bytes s).drop (q+1))+1 by rw [bytes_drop hlt,digs_cons_yes ((isDig_iff _).2 ⟨h1,h2⟩)])
      go_wp2_with fail
      go_quiet (fail)
      go_wp2_with fail
      go_roundg (s.size-(q+1))
      case measure=>have:=HG.out; omega
      case rel=>
       have e:=HE.out
       have e2:=E.out
       exact ⟨q+1,Hq (by omega),by omega,Hq rfl,Hq ((HR.out.drew _).setAt (q+1) (by omega)),Hq (gb_set (gb_drewN HB.out _) _ _)⟩
     ·have t2:decide ((s[q].toNat:Int)≤57)=false:=by simpa using h2
      have E:=Hq (show digs ((bytes s).drop q)=0 by rw [bytes_drop hlt,digs_cons_no (by rw [Bool.eq_false_iff]; intro hh; exact h2 ((isDig_iff _).1 hh).2)])
      go_wp2_with fail
      go_quiet (fail)
      go_wp2_with fail
      go_ret
      have e2:=E.out
      have e:=HE.out
      refine .inl ⟨digs ((bytes s).drop p),?_,rfl,?_,gb_drewN HB.out _⟩
      ·unfold digsO
       rw [if_neg (by have:=HZ.out; omega)]
      ·rw [show p+digs ((bytes s).drop p)=q by omega]
       exact HR.out.drew _
    ·have t1:decide (48≤(s[q].toNat:Int))=false:=by simpa using h1
     have E:=Hq (show digs ((bytes s).drop q)=0 by rw [bytes_drop hlt,digs_cons_no (by rw [Bool.eq_false_iff]; intro hh; exact h1 ((isDig_iff _).1 hh).1)])
     go_wp2_with fail
     go_quiet (fail)
     go_wp2_with fail
     go_ret
     have e2:=E.out
     have e:=HE.out
     refine .inl ⟨digs ((bytes s).drop p),?_,rfl,?_,gb_drewN HB.out _⟩
     ·unfold digsO
      rw [if_neg (by have:=HZ.out; omega)]
     ·rw [show p+digs ((bytes s).drop p)=q by omega]
      exact HR.out.drew _
   ·have t0:decide (q<s.size)=false:=by simpa using hlt
    have E:=Hq (show digs ((bytes s).drop q)=0 by rw [bytes_end (by omega)]; rfl)
    go_wp2_with fail
    go_quiet (fail)
    go_wp2_with fail
    go_ret
    have e2:=E.out
    have e:=HE.out
    refine .inl ⟨digs ((bytes s).drop p),?_,rfl,?_,gb_drewN HB.out _⟩
    ·unfold digsO
     rw [if_neg (by have:=HZ.out; omega)]
    ·rw [show p+digs ((bytes s).drop p)=q by omega]
     exact HR.out.drew _
 ·have hn:needs 48 57 ((bytes s).drop p)=none:=by
   by_cases hp:p<s.size
   ·rw [bytes_drop hp,needs_cons,if_neg (fun h=>hy ⟨hp,(isDig_iff _).2 h⟩)]
   ·rw [bytes_end (by omega)]
    rfl
  have hz:digsO ((bytes s).drop p)=none:=by
   unfold digsO
   rw [if_pos]
   by_cases hp:p<s.size
   ·rw [bytes_drop hp,digs_cons_no (by rw [Bool.eq_false_iff]; intro hh; exact hy ⟨hp,hh⟩)]
   ·rw [bytes_end (by omega)]
    rfl
  have NN:=Hq (calls_no N hn)
  have HZ:=Hq hz
  clear N hn hz h hy
  go_enter Tryz.func113,Tryz.ntmps113
  go_wp2_with fail
  refine NN.out.mono ?_
  rintro e w1 ⟨rfl,hR,hg⟩
  have HD:=Hq (And.intro hR hg)
  clear hR hg
  go_wp2_with fail
  go_ret
  exact .inr ⟨HZ.out,rfl,HD.out.1,HD.out.2⟩
def brk:List Int:=[239,191,189]
def encO(c:Int):List Int:=
 if c<128 then [c]
 else if c<2048 then [192+c / 64,128+c % 64]
 else if 55296≤c∧c≤57343 then brk
 else if c<65536 then [224+c / 4096,128+c / 64 % 64,128+c % 64]
 else [240+c / 262144,128+c / 4096 % 64,128+c / 64 % 64,128+c % 64]
theorem and63(n:Int):bits .and .i64 n 63=n % 64:=by
 have h127:(BitVec.ofInt 64 63).toNat=2 ^ 6-1:=by decide
 have key:(BitVec.ofInt 64 n &&& BitVec.ofInt 64 63).toNat=(n % ((2 ^ 64:Nat):Int)).toNat % 2 ^ 6:=by
  rw [BitVec.toNat_and,BitVec.toNat_ofInt,h127,Nat.and_two_pow_sub_one_eq_mod]
 show IntKind.i64.wrap ((BitVec.ofInt 64 n &&& BitVec.ofInt 64 63).toNat:Nat)=n % 64
 rw [key,IntKind.wrap_i64]
 omega
theorem conv_alloc(w:World)(xs:List Int)(n:Nat)(hn:xs.length=n):(convert 47 9 (.slice (some ⟨w.heap.size,0,none⟩) n n)).run Tryz.prog (w.alloc (.cells (xs.map (Value.int .u8)).toArray 5))=.ok (.string (strOfNums xs)) (w.alloc (.cells (xs.map (Value.int .u8)).toArray 5)):=by
 refine run_convert_bytes_arg _ 47 5 Tryz.underlying47 Tryz.underlying5 _ 0 n n xs hn (fun i hi => ?_) 9 Tryz.underlying9
 rw [Nat.zero_add,cell_of_row _ _ i _ _ (0,0) (heap_alloc_new w _)]
 simp [List.getD,hn,hi]
theorem bytes_strOf{xs:List Int}(h:∀ c∈xs,0≤c∧c≤255):bytes (strOfNums xs)=xs:=by
 unfold bytes
 rw [strOfNums_data,List.map_map]
 conv=>rhs; rw [← List.map_id xs]
 refine List.map_congr_left (fun c hc => ?_)
 have:=h c hc
 simp only [Function.comp,id]
 show ((UInt8.ofNat c.toNat).toNat:Int)=c
 rw [UInt8.toNat_ofNat']
 omega
theorem encoded176(c:Int)(w:World)(h0:0≤c)(h1:c≤1114111):Calls Tryz.prog 176 #[.int .i64 c] w fun e w'=>e=.returned (.string (strOfNums (encO c)))∧w.grownBy w' none:=by
 unfold encO
 by_cases k1:c<128
 ·rw [if_pos k1]
  have t1:decide (c<128)=true:=by simpa using k1
  have hm:c % 256=c:=by omega
  have hst:=conv_alloc w [c] 1 rfl
  simp only [List.map_cons,List.map_nil] at hst
  go_enter Tryz.func176,Tryz.ntmps176
  go_wp2_with fail
  go_ret
  exact ⟨rfl,World.grownBy_alloc _ _ _⟩
 rw [if_neg k1]
 have t1:decide (c<128)=false:=by simpa using k1
 by_cases k2:c<2048
 ·rw [if_pos k2]
  have t2:decide (c<2048)=true:=by simpa using k2
  have b1:bits BinOp.and IntKind.i64 c 63=c % 64:=and63 c
  have hm:(128+c % 64) % 256=128+c % 64:=by omega
  have hst:=conv_alloc w [192+c / 64,128+c % 64] 2 rfl
  simp only [List.map_cons,List.map_nil] at hst
  go_enter Tryz.func176,Tryz.ntmps176
  go_wp2_with fail
  go_ret
  exact ⟨rfl,World.grownBy_alloc _ _ _⟩
 rw [if_neg k2]
 have t2:decide (c<2048)=false:=by simpa using k2
 by_cases k3:55296≤c∧c≤57343
 ·rw [if_pos k3]
  have t3:decide (55296≤c)=true:=by simp; omega
  have t4:decide (c≤57343)=true:=by simp; omega
  have e:strOfNums brk=⟨#[239,191,189]⟩:=by rfl
  rw [e]
  go_enter Tryz.func176,Tryz.ntmps176
  go_wp2_with fail
  go_ret
  exact ⟨rfl,World.grownBy.refl _ _⟩
 rw [if_neg k3]
 have b1:bits BinOp.and IntKind.i64 c 63=c % 64:=and63 c
 have b2:bits BinOp.and IntKind.i64 (c / 64) 63=c / 64 % 64:=and63 _
 have b3:bits BinOp.and IntKind.i64 (c / 4096) 63=c / 4096 % 64:=and63 _
 have hm1:(128+c % 64) % 256=128+c % 64:=by omega
 have hm2:(128+c / 64 % 64) % 256=128+c / 64 % 64:=by omega
 have hm3:(128+c / 4096 % 64) % 256=128+c / 4096 % 64:=by omega
 by_cases k4:c<65536
 ·rw [if_pos k4]
  have t4:decide (c<65536)=true:=by simpa using k4
  have hst:=conv_alloc w [224+c / 4096,128+c / 64 % 64,128+c % 64] 3 rfl
  simp only [List.map_cons,List.map_nil] at hst
  by_cases k5:c<55296
  ·have t3:decide (55296≤c)=false:=by simp; omega
   go_enter Tryz.func176,Tryz.ntmps176
   go_wp2_with fail
   go_ret
   exact ⟨rfl,World.grownBy_alloc _ _ _⟩
  ·have t3:decide (55296≤c)=true:=by simp; omega
   have t5:decide (c≤57343)=false:=by simp; omega
   go_enter Tryz.func176,Tryz.ntmps176
   go_wp2_with fail
   go_ret
   exact ⟨rfl,World.grownBy_alloc _ _ _⟩
 ·rw [if_neg k4]
  have t4:decide (c<65536)=false:=by simpa using k4
  have hst:=conv_alloc w [240+c / 262144,128+c / 4096 % 64,128+c / 64 % 64,128+c % 64] 4 rfl
  simp only [List.map_cons,List.map_nil] at hst
  have t3:decide (55296≤c)=true:=by simp; omega
  have t5:decide (c≤57343)=false:=by simp; omega
  go_enter Tryz.func176,Tryz.ntmps176
  go_wp2_with fail
  go_ret
  exact ⟨rfl,World.grownBy_alloc _ _ _⟩
theorem encO_byte{c:Int}(h0:0≤c)(h1:c≤1114111):∀ d∈encO c,0≤d∧d≤255:=by
 unfold encO
 intro d hd
 split at hd
 ·simp at hd; omega
 split at hd
 ·simp at hd; omega
 split at hd
 ·simp [brk] at hd; omega
 split at hd
 ·simp at hd; omega
 ·simp at hd; omega
end Go.Proofs.YtknaalohaagcdaaGreatDoor.Own
