import Derived.Test.YtknaalohaagcdaaGreatDoorG50
import Derived.Test.YtknaalohaagcdaaGreatDoorCards
import Derived.Test.YtknaalohaagcdaaGreatDoorTie
import Derived.OpenVars
import Derived.OpenShut
import Derived.SevenTiedAt
import Derived.Stop.Joined
import Derived.Deep.DeepHandedRow
import Derived.Lib.SmallJoins
import Derived.ChangeMaps5
set_option maxHeartbeats 400000000
set_option maxRecDepth 100000
namespace Go.Proofs.YtknaalohaagcdaaGreatDoor.Own
open Go.RowKit JG
theorem ws_eq_len:∀ {xs:List Int},ws xs=xs.length↔∀ c∈xs,isWs c=true
 |[]=>by simp [ws]
 |c::t=>by
  by_cases hc:isWs c=true
  ·have e:ws (c::t)=ws t+1:=by show (if isWs c then _ else _)=_; rw [if_pos hc]
   rw [e]
   simp [hc,ws_eq_len (xs:=t)]
  ·have e:ws (c::t)=0:=by show (if isWs c then _ else _)=_; rw [if_neg hc]
   rw [e]
   constructor
   ·intro h; simp at h
   ·intro h; exact absurd (h c (by simp)) hc
def IsVal(chk:List (List Int)→Bool × Bool)(lo:Bool)(n:Nat)(A:List Int):Prop:=
 ∃ a p w o,A=a++(p++w)∧(∀ c∈a,isWs c=true)∧(∀ c∈w,isWs c=true)∧isWs (p.headD 0)=false∧1≤p.length∧¬ p.headD 0=93∧∀ ys:List Int,¬ goesOn (ys.headD 0)→run chk lo n .val (p++ys)=(some p.length,o)
theorem scalar_head{lo:Bool}{xs:List Int}{k:Nat}(h:scalarO lo xs=some k):¬ xs.headD 0=93:=by
 intro hc
 unfold scalarO at h
 rw [hc] at h
 simp at h
theorem tkn_val{chk:List (List Int)→Bool × Bool}{lo:Bool}{n:Nat}{A:List Int}(h:tkn chk lo (n+1) A=true):IsVal chk lo (n+1) A:=by
 obtain ⟨a,r,h1,h2,h3,h4,h5⟩:=ws_loc A
 have e:=run_ahead (chk:=chk) (lo:=lo) (n:=n) (xs:=r) h4
 rw [← h1] at e
 unfold tkn at h
 cases hr:run chk lo (n+1) .val r with
 |mk o b=>
 cases o with
 |none=>rw [e,hr] at h; cases h
 |some k=>
  rw [e,hr] at h
  have h':k+a.length+ws (A.drop (k+a.length))=A.length:=by simpa [up] using h
  obtain ⟨g1,g2,p,w,rfl,g3,g4⟩:=run_loc (n+1) .val r k b hr
  rw [show A.drop (k+a.length)=w by rw [h1,Nat.add_comm,← List.drop_drop,drop_app rfl,drop_app g3],h1,List.length_append,List.length_append] at h'
  refine ⟨a,p,w,b,h1,h4,ws_eq_len.1 (by omega),by rw [← h3,head_app (r:=[]) (by omega),List.append_nil],by omega,?_,fun ys hy=>by rw [g3]; exact g4 ys (fun _=>.inl hy)⟩
  intro hc
  have hh:(p++w).headD 0=93:=by rw [head_app (r:=[]) (by omega),List.append_nil]; exact hc
  have w0:ws (p++w)=0:=by
   cases p with
   |nil=>simp at g3; omega
   |cons c t=>
    show (if isWs c then _ else 0)=0
    rw [if_neg (by rw [show c=93 from hc]; decide)]
  have hr':=hr
  rw [run_scalar (by rw [w0]; show ¬ (p++w).headD 0=123; rw [hh]; decide) (by rw [w0]; show ¬ (p++w).headD 0=91; rw [hh]; decide),w0] at hr'
  cases hs:scalarO lo (p++w) with
  |none=>rw [show (p++w).drop 0=p++w from rfl,hs] at hr'; cases (Prod.mk.inj hr').1
  |some i=>exact scalar_head hs hh
theorem wsB{w ys:List Int}(h:∀ c∈w,isWs c=true)(hy:isWs (ys.headD 0)=false):ws (w++ys)=w.length:=by
 rw [ws_all h]
 cases ys with
 |nil=>rfl
 |cons c t=>show w.length+(if isWs c then _ else 0)=_; rw [if_neg (by rw [show isWs c=false from hy]; simp)]; rfl
theorem val_in{chk:List (List Int)→Bool × Bool}{lo:Bool}{n:Nat}{A:List Int}(h:IsVal chk lo (n+1) A):∃ k w o,k+w.length=A.length∧(∀ c∈w,isWs c=true)∧∀ ys:List Int,¬ goesOn (ys.headD 0)→run chk lo (n+1) .val (A++ys)=(some k,o)∧(A++ys).drop k=w++ys:=by
 obtain ⟨a,p,w,o,rfl,h1,h2,h3,h4,h5,h6⟩:=h
 refine ⟨p.length+a.length,w,o,by simp; omega,h2,fun ys hy=>⟨?_,?_⟩⟩
 ·rw [List.append_assoc,run_ahead h1,List.append_assoc,h6 _ (ws_goes h2 hy)]
  rfl
 ·rw [List.append_assoc,List.append_assoc,Nat.add_comm,← List.drop_drop,drop_app rfl,drop_app rfl]
theorem elems_one{chk:List (List Int)→Bool × Bool}{lo:Bool}{n:Nat}{A:List Int}(h:IsVal chk lo (n+1) A)(ys:List Int):∃ o,run chk lo (n+2) .elems (A++93::ys)=(some (A.length+1),o):=by
 obtain ⟨k,w,o,h1,h2,h3⟩:=val_in h
 obtain ⟨e1,e2⟩:=h3 (93::ys) (goes_no (.inl rfl))
 have e3:ws (w++93::ys)=w.length:=wsB h2 (by rfl)
 refine ⟨o,?_⟩
 rw [run_elems_end e1 (by rw [e2,e3,drop_app rfl]; rfl),e2,e3,h1]
theorem elems_open{chk:List (List Int)→Bool × Bool}{lo:Bool}{n:Nat}{A:List Int}(h:IsVal chk lo (n+1) A):∃ o,run chk lo (n+2) .elems A=(none,o):=by
 obtain ⟨k,w,o,h1,h2,h3⟩:=val_in h
 obtain ⟨e1,e2⟩:=h3 [] (by unfold goesOn; simp)
 rw [List.append_nil,List.append_nil] at e2
 rw [List.append_nil] at e1
 have e3:ws w=w.length:=ws_eq_len.2 h2
 exact ⟨o,run_elems_else e1 (by rw [e2,e3,List.drop_length]; simp) (by rw [e2,e3,List.drop_length]; simp)⟩
theorem elems_two{chk:List (List Int)→Bool × Bool}{lo:Bool}{n:Nat}{A B:List Int}(h:IsVal chk lo (n+2) A):∃ o,run chk lo (n+3) .elems (A++44::B)=up (A.length+1) o (run chk lo (n+2) .elems B):=by
 obtain ⟨k,w,o,h1,h2,h3⟩:=val_in h
 obtain ⟨e1,e2⟩:=h3 (44::B) (goes_no (.inr (.inl rfl)))
 have e3:ws (w++44::B)=w.length:=wsB h2 (by rfl)
 refine ⟨o,?_⟩
 rw [run_elems_more e1 (by rw [e2,e3,drop_app rfl]; rfl),e2,e3,h1]
 congr 2
 rw [show A++44::B=(A++[44])++B by simp]
 exact drop_app (by simp)
theorem run_open{chk:List (List Int)→Bool × Bool}{lo:Bool}{n:Nat}{A:List Int}(h:IsVal chk lo (n+1) A)(ys:List Int)(hy:∀ r,run chk lo (n+2) .elems (A++ys)=r→True):∃ a X,A=a++X∧(∀ c∈a,isWs c=true)∧IsVal chk lo (n+1) X∧run chk lo (n+3) .val (91::(A++ys))=up 1 false (up a.length false (run chk lo (n+2) .elems (X++ys))):=by
 obtain ⟨a,p,w,o,rfl,h1,h2,h3,h4,h5,h6⟩:=h
 refine ⟨a,p++w,rfl,h1,⟨[],p,w,o,rfl,by simp,h2,h3,h4,h5,h6⟩,?_⟩
 have hhead:(p++w++ys).headD 0=p.headD 0:=by rw [List.append_assoc,head_app (r:=[]) h4,List.append_nil]
 have e:ws (a++(p++w)++ys)=a.length:=by rw [List.append_assoc]; exact wsB h1 (by rw [hhead]; exact h3)
 rw [run_arr' (by rfl)]
 show up 1 false (brO chk lo (n+2) 93 .elems (a++(p++w)++ys))=_
 unfold brO
 rw [e,List.append_assoc,drop_app rfl,if_neg (by rw [hhead]; exact h5)]
theorem wrap_arr{chk:List (List Int)→Bool × Bool}{lo:Bool}{n:Nat}{A:List Int}(h:IsVal chk lo (n+1) A):tkn chk lo (n+3) (91::(A++[93]))=true:=by
 obtain ⟨a,X,rfl,h1,h2,h3⟩:=run_open h [93] (fun _ _=>trivial)
 obtain ⟨o,h4⟩:=elems_one h2 []
 unfold tkn
 rw [h3,h4]
 show decide (X.length+1+a.length+1+ws ((91::(a++X++[93])).drop (X.length+1+a.length+1))=_)=true
 rw [List.drop_eq_nil_of_le (by simp; omega)]
 simp [ws]
 omega
theorem wrap_two{chk:List (List Int)→Bool × Bool}{lo:Bool}{n:Nat}{A B:List Int}(hA:IsVal chk lo (n+2) A)(hB:IsVal chk lo (n+1) B):tkn chk lo (n+4) (91::(A++44::(B++[93])))=true:=by
 obtain ⟨a,X,rfl,h1,h2,h3⟩:=run_open hA (44::(B++[93])) (fun _ _=>trivial)
 obtain ⟨o1,h4⟩:=elems_two (B:=B++[93]) h2
 obtain ⟨o,h5⟩:=elems_one hB []
 unfold tkn
 rw [h3,h4,h5]
 show decide (B.length+1+(X.length+1)+a.length+1+ws ((91::(a++X++44::(B++[93]))).drop (B.length+1+(X.length+1)+a.length+1))=_)=true
 rw [List.drop_eq_nil_of_le (by simp; omega)]
 simp [ws]
 omega
theorem wrap_open{chk:List (List Int)→Bool × Bool}{lo:Bool}{n:Nat}{A B:List Int}(hA:IsVal chk lo (n+2) A)(hB:IsVal chk lo (n+1) B):tkn chk lo (n+4) (91::(A++44::B))=false:=by
 obtain ⟨a,X,rfl,h1,h2,h3⟩:=run_open hA (44::B) (fun _ _=>trivial)
 obtain ⟨o1,h4⟩:=elems_two (B:=B) h2
 obtain ⟨o,h5⟩:=elems_open hB
 unfold tkn
 rw [h3,h4,h5]
 rfl
theorem wrap_bare{chk:List (List Int)→Bool × Bool}{lo:Bool}{n:Nat}{A B:List Int}(hA:IsVal chk lo (n+1) A):tkn chk lo (n+1) (A++44::B)=false:=by
 obtain ⟨k,w,o,h1,h2,h3⟩:=val_in hA
 obtain ⟨e1,e2⟩:=h3 (44::B) (goes_no (.inr (.inl rfl)))
 have e3:ws (w++44::B)=w.length:=wsB h2 (by rfl)
 unfold tkn
 rw [e1]
 simp only
 rw [e2,e3,List.length_append,List.length_cons]
 simp
 omega
theorem wrap_obj{chk:List (List Int)→Bool × Bool}{lo:Bool}{n:Nat}{A:List Int}(hchk:∀ x,(chk [x]).1=false)(hA:IsVal chk lo (n+1) A):tkn chk lo (n+3) (123::34::34::58::(A++[125]))=true:=by
 obtain ⟨k,w,o,h1,h2,h3⟩:=val_in hA
 obtain ⟨e1,e2⟩:=h3 [125] (goes_no (.inr (.inr rfl)))
 have e3:ws (w++[125])=w.length:=wsB h2 (by rfl)
 have hn:nameO chk lo [] (34::34::58::(A++[125]))=(some 3,(chk [[34,34]]).2):=by
  unfold nameO
  rw [show quotedO lo (34::34::58::(A++[125]))=some 1 from rfl]
  show (if (chk [[34,34]]).1 then _ else _)=_
  rw [hchk]
  rfl
 have hm:run chk lo (n+2) (.mems []) (34::34::58::(A++[125]))=(some (3+k+w.length+1),(chk [[34,34]]).2 || o):=by
  have hd:(34::34::58::(A++[125])).drop (3+k)=w++[125]:=by rw [← List.drop_drop]; exact e2
  rw [run_mems_end hn (k:=k) (o:=o) e1 (by rw [hd,e3,drop_app rfl]; rfl),hd,e3]
 unfold tkn
 rw [run_obj' (by rfl)]
 have hb:brO chk lo (n+2) 125 (.mems []) (34::34::58::(A++[125]))=up 0 false (run chk lo (n+2) (.mems []) (34::34::58::(A++[125]))):=by
  unfold brO
  rfl
 show (match (up 1 false (brO chk lo (n+2) 125 (.mems []) (34::34::58::(A++[125])))).1 with|none=>false|some k=>_)=true
 rw [hb,hm]
 show decide (3+k+w.length+1+0+1+ws ((123::34::34::58::(A++[125])).drop (3+k+w.length+1+0+1))=_)=true
 rw [List.drop_eq_nil_of_le (by simp; omega)]
 simp [ws]
 omega
theorem tkn_said{tw lo:Bool}{n:Nat}{xs:List Int}(h:(run (chkT tw) lo n .val xs).2=false):tkn (chkT tw) lo n xs=tkn (chkD tw) lo n xs:=by
 cases tw with
 |true=>rfl
 |false=>
  have e:run (chkT false) lo n .val xs=run (chkD false) lo n .val xs:=run_agree (fun ns hx=>chk_agree hx) n .val xs h
  unfold tkn
  rw [e]
def LawP(w:World)(e:Ending)(w':World):Prop:=e=.returned (.bool true)∧Below w.heap.size w w'
theorem Kp.below{w w':World}(h:Kp w.heap.size w w'):Below w.heap.size w w':=⟨h.os,h.tape,h.output,h.size,fun i hi=>h.keep i hi⟩
theorem bytes_app(a b:ByteArray):bytes (a++b)=bytes a++bytes b:=by simp [bytes]
theorem calls_one{P:Program}{f:FuncId}{args:Array Value}{w:World}{v1 v2:Value}{R R':World→Prop}
  (h:Calls P f args w fun e w'=>e=.returned v1∧R w') (h':Calls P f args w fun e w'=>e=.returned v2∧R' w') (hi:P.inits.idxOf? f=none):v1=v2:=by
 obtain ⟨n,v,w1,e1,r1⟩:=Calls.done (R:=fun v w'=>v=v1∧R w') (h.mono fun e w' ⟨he,q⟩=>by subst he; exact ⟨rfl,q⟩) hi
 obtain ⟨m,v',w2,e2,r2⟩:=Calls.done (R:=fun v w'=>v=v2∧R' w') (h'.mono fun e w' ⟨he,q⟩=>by subst he; exact ⟨rfl,q⟩) hi
 have a:=runN_ended e1 m
 have b:=runN_ended e2 n
 rw [Nat.add_comm,a] at b
 injection b with ho hw
 injection ho with hv
 rw [← r1.1,← r2.1,hv]
theorem no_init8:Tryz.prog.inits.idxOf? 8=none:=by kernel_rfl
theorem tkn_any(s:ByteArray)(tw lo:Bool)(n m:Nat)(w:World)(hs:s.size≤4294967296)(hn:2 * s.size<n)(hm:2 * s.size<m):tkn (chkT tw) lo n (bytes s)=tkn (chkT tw) lo m (bytes s)∧(run (chkT tw) lo n .val (bytes s)).2=(run (chkT tw) lo m .val (bytes s)).2:=by
 have h:=calls_one (taken8 s tw lo n w hs hn) (taken8 s tw lo m w hs hm) no_init8
 have h2:=congrArg (fun v:Value=>match v with|.tuple #[.bool a,.bool b]=>(a,b)|_=>(true,true)) h
 have h3:=Prod.mk.inj h2
 refine ⟨h3.1,?_⟩
 have:=h3.2
 cases e1:(run (chkT tw) lo n .val (bytes s)).2<;>cases e2:(run (chkT tw) lo m .val (bytes s)).2<;>rw [e1,e2] at this<;>first|rfl|cases this
theorem tkn_all{s:ByteArray}{tw lo:Bool}{n:Nat}(w:World)(hs:s.size≤4294967296)(hn:2 * s.size<n)(h:tkn (chkT tw) lo n (bytes s)=true)(ho:(run (chkT tw) lo n .val (bytes s)).2=false):∀ m,2 * s.size<m→tkn (chkD tw) lo m (bytes s)=true:=by
 intro m hm
 obtain ⟨h1,h2⟩:=tkn_any s tw lo n m w hs hn hm
 rw [← tkn_said (h2▸ho),← h1,h]
theorem LF.kp{A:List Addr}{aU aI aE aM:Addr}{w w':World}(h:LF A aU aI aE aM w)(hk:Kp w.heap.size w w'):LF A aU aI aE aM w':=by
 have h18:=h.gl.size
 have lo:∀ i,i<18→w'.heap[i]? = w.heap[i]? := fun i hi=>hk.keep i (by omega)
 exact ⟨h.gl.kept hk.size lo,h.g2.kept lo,h.eb.kept (fun a ha=>by
  obtain ⟨c,t,e⟩:=h.eb a ha
  exact hk.keep a.block (Array.getElem?_eq_some_iff.1 e).1),(World.cell?_of_block (w:=w) (a:=⟨0,0,none⟩) (lo 0 (by decide))).trans h.cE,(World.cell?_of_block (w:=w) (a:=⟨5,0,none⟩) (lo 5 (by decide))).trans h.cM,h.hU,h.hI,h.hE,h.hM,h.UI,h.UE,h.UM,h.IE,h.IM,h.ME⟩
theorem chkD_one(tw:Bool)(x:List Int):(chkD tw [x]).1=false:=by
 cases tw
 ·simp [chkD,chkI]
 ·rfl
def BY(O:Array Value)(g:Nat)(w:World):Prop:=w.heap[g]? = some (.cells O 23 (0,0))
theorem BY.facts{a b c d e f i j k l m n o p q:Value}{g:Nat}{w:World}(h:BY #[a,b,c,d,e,f,i,j,k,l,m,n,o,p,q] g w):w.cell? ⟨g,0,none⟩=some a∧w.cell? ⟨g,1,none⟩=some b∧w.cell? ⟨g,2,none⟩=some c∧w.cell? ⟨g,3,none⟩=some d∧w.cell? ⟨g,4,none⟩=some e∧w.cell? ⟨g,5,none⟩=some f∧w.cell? ⟨g,6,none⟩=some i∧w.cell? ⟨g,7,none⟩=some j∧w.cell? ⟨g,8,none⟩=some k∧w.cell? ⟨g,9,none⟩=some l∧w.cell? ⟨g,10,none⟩=some m∧w.cell? ⟨g,11,none⟩=some n∧w.cell? ⟨g,12,none⟩=some o∧w.cell? ⟨g,13,none⟩=some p∧w.cell? ⟨g,14,none⟩=some q:=by
 refine ⟨?_,?_,?_,?_,?_,?_,?_,?_,?_,?_,?_,?_,?_,?_,?_⟩<;>rw [cell_of_row _ _ _ _ _ (0,0) h]<;>rfl
theorem BY.kp{O:Array Value}{g:Nat}{w w':World}(h:BY O g w)(hk:Kp w.heap.size w w'):BY O g w':=(hk.keep g (Array.getElem?_eq_some_iff.1 h).1).trans h
def VS(tw lo:Bool)(x:ByteArray)(m:Nat)(r:Bool):Prop:=x.size≤4096∧2 * x.size<m∧tkn (chkD tw) lo m (bytes x)=r
def Adds(x y z:ByteArray):Prop:=∀ w,(Op.stringOp .add x y).run Tryz.prog w=.ok (.string z) w
theorem adds{x y:ByteArray}(h1:x.size≤4096)(h2:y.size≤1004):Adds x y (x++y):=fun w=>run_string_add_sum w _ _ (by omega)
theorem six2{a b:ByteArray}{tw lo:Bool}(hA:∀ m,2 * a.size<m→tkn (chkD tw) lo m (bytes a)=true)(hB:∀ m,2 * b.size<m→tkn (chkD tw) lo m (bytes b)=true)(za:a.size≤1000)(zb:b.size≤1000):
  ∃ y1 x2 y3 x3 y4 x6 x4 y5 x5:ByteArray,Adds (⟨#[91]⟩) a y1∧Adds y1 (⟨#[93]⟩) x2∧Adds (⟨#[123,34,34,58]⟩) a y3∧Adds y3 (⟨#[125]⟩) x3∧Adds y1 (⟨#[44]⟩) y4∧Adds y4 b x6∧Adds x6 (⟨#[93]⟩) x4∧Adds a (⟨#[44]⟩) y5∧Adds y5 b x5∧VS tw lo a 8201 true∧VS tw lo x2 8203 true∧VS tw lo x3 8203 true∧VS tw lo x4 8204 true∧VS tw lo x5 8201 false∧VS tw lo x6 8204 false:=by
 have n1:(⟨#[91]⟩:ByteArray).size=1:=rfl
 have n2:(⟨#[93]⟩:ByteArray).size=1:=rfl
 have n3:(⟨#[44]⟩:ByteArray).size=1:=rfl
 have n4:(⟨#[123,34,34,58]⟩:ByteArray).size=4:=rfl
 have n5:(⟨#[125]⟩:ByteArray).size=1:=rfl
 have vA:∀ n,8199≤n→IsVal (chkD tw) lo (n+1) (bytes a):=fun n hn=>tkn_val (hA _ (by omega))
 have vB:=tkn_val (hB 8201 (by omega))
 refine ⟨⟨#[91]⟩++a,⟨#[91]⟩++a++⟨#[93]⟩,⟨#[123,34,34,58]⟩++a,⟨#[123,34,34,58]⟩++a++⟨#[125]⟩,⟨#[91]⟩++a++⟨#[44]⟩,⟨#[91]⟩++a++⟨#[44]⟩++b,⟨#[91]⟩++a++⟨#[44]⟩++b++⟨#[93]⟩,a++⟨#[44]⟩,a++⟨#[44]⟩++b,adds ?_ ?_,adds ?_ ?_,adds ?_ ?_,adds ?_ ?_,adds ?_ ?_,adds ?_ ?_,adds ?_ ?_,adds ?_ ?_,adds ?_ ?_,⟨?_,?_,hA _ (by omega)⟩,⟨?_,?_,?_⟩,⟨?_,?_,?_⟩,⟨?_,?_,?_⟩,⟨?_,?_,?_⟩,⟨?_,?_,?_⟩⟩
 rotate_right
 ·rw [bytes_app,bytes_app,bytes_app,show bytes ⟨#[91]⟩++bytes a++bytes ⟨#[44]⟩++bytes b=91::(bytes a++44::bytes b) by simp [bytes]]
  exact wrap_open (n:=8200) (vA 8201 (by omega)) vB
 iterate 3 rotate_right
 ·rw [bytes_app,bytes_app,show bytes a++bytes ⟨#[44]⟩++bytes b=bytes a++44::bytes b by simp [bytes]]
  exact wrap_bare (n:=8200) (vA 8200 (by omega))
 iterate 3 rotate_right
 ·rw [bytes_app,bytes_app,bytes_app,bytes_app,show bytes ⟨#[91]⟩++bytes a++bytes ⟨#[44]⟩++bytes b++bytes ⟨#[93]⟩=91::(bytes a++44::(bytes b++[93])) by simp [bytes]]
  exact wrap_two (n:=8200) (vA 8201 (by omega)) vB
 iterate 3 rotate_right
 ·rw [bytes_app,bytes_app]
  exact wrap_obj (n:=8200) (chkD_one tw) (vA 8200 (by omega))
 iterate 3 rotate_right
 ·rw [bytes_app,bytes_app]
  exact wrap_arr (n:=8200) (vA 8200 (by omega))
 all_goals first|omega|(simp only [ByteArray.size_append]; omega)
theorem law6(A:List Addr)(aU aI aE aM:Addr)(a b:ByteArray)(B C D E F G H I K L M:Int)(P Q:Bool)(R S:ByteArray)(w:World)(hLF:LF A aU aI aE aM w):Calls Tryz.prog 6 #[.string a,.string b,.agg #[.int .i64 B,.int .i64 C,.int .i64 D,.int .i64 E,.int .i64 F,.int .i64 G,.int .i64 H,.int .i64 I,.int .i64 K,.int .i64 L,.int .i64 M,.bool P,.string R,.bool Q,.string S]] w (LawP w):=by
 obtain ⟨O,hO⟩:∃ O:Array Value,O=#[.int .i64 B,.int .i64 C,.int .i64 D,.int .i64 E,.int .i64 F,.int .i64 G,.int .i64 H,.int .i64 I,.int .i64 K,.int .i64 L,.int .i64 M,.bool P,.string R,.bool Q,.string S]:=⟨_,rfl⟩
 obtain ⟨J,hJ⟩:∃ J:World→Prop,J=fun w'=>LF A aU aI aE aM w'∧Kp w.heap.size w w'∧BY O w.heap.size w':=⟨_,rfl⟩
 have LP:Hid (∀ w',J w'→LawP w (.returned (.bool true)) w'):=Hq (fun w' h=>by rw [hJ] at h; exact ⟨rfl,h.2.1.below⟩)
 have JB:Hid (∀ w',J w'→BY O w.heap.size w'):=Hq (fun w' h=>by rw [hJ] at h; exact h.2.2)
 have JG:Hid (∀ w' w'',J w'→w'.grownBy w'' none→J w''):=Hq (fun w' w'' h g=>by rw [hJ] at h ⊢; exact ⟨h.1.gb0 g,h.2.1.trans (Kp.gb0 g h.2.1.size),h.2.2.kp (Kp.gb0 g (Nat.le_refl _))⟩)
 have j0:J (w.alloc (.cells O 23)):=by rw [hJ]; exact ⟨hLF.gb0 (World.grownBy_alloc w _ none),Kp.gb0 (World.grownBy_alloc w _ none) (Nat.le_refl _),heap_alloc_new w _⟩
 have ZZ:=Hq (hO▸zz7 B C D E F G H I K L M P Q R S (w.alloc (.cells O 23)))
 obtain ⟨tw,htw⟩:∃ tw,(B==1)=tw:=⟨_,rfl⟩
 obtain ⟨lo,hlo⟩:∃ lo,(C==1)=lo:=⟨_,rfl⟩
 have VA:Hid (Blk R→Blk S→∀ x m r,VS tw lo x m r→∀ w',J w'→Calls Tryz.prog 11 #[.string x,.agg O] w' fun e w''=>e=.returned (.bool r)∧J w''):=Hq (fun h1 h2 x m r h w' hj=>by
  rw [hJ] at hj
  rw [hO]
  refine (valid11 A aU aI aE aM m x B C D E F G H I K L M P Q R S h1 h2 w' hj.1 h.1 h.2.1).mono fun e w'' hh => ?_
  rw [hJ]
  have e2:=h.2.2
  rw [← htw,← hlo] at e2
  exact ⟨by rw [← e2]; exact hh.1,hj.1.kp hh.2,hj.2.1.trans ⟨hh.2.os,hh.2.tape,hh.2.output,hh.2.size,fun b hb=>hh.2.keep b (Nat.lt_of_lt_of_le hb hj.2.1.size)⟩,hj.2.2.kp hh.2⟩)
 have RU:Hid (∀ w,Calls Tryz.prog 9 #[.agg O] w fun e w'=>e=.returned (.agg #[.bool tw,.bool lo])∧w.grownBy w' none):=Hq (fun w=>by
  rw [← htw,← hlo,hO]
  exact rules9 B C D E F G H I K L M P Q R S w)
 rw [hO] at RU VA j0 JB
 clear htw hlo hJ hLF hO O
 by_cases z0:a.size≤2147483647
 rotate_left
 ·have t0:decide ((2147483647:Int)<(a.size:Int))=true:=by simp; omega
  clear z0
  go_enter Tryz.func6,Tryz.ntmps6
  go_wp2_with fail
  go_ret
  exact LP.out _ j0
 have t0:decide ((2147483647:Int)<(a.size:Int))=false:=by simp; omega
 by_cases z1:b.size≤2147483647
 rotate_left
 ·have t1:decide ((2147483647:Int)<(b.size:Int))=true:=by simp; omega
  clear z0 z1
  go_enter Tryz.func6,Tryz.ntmps6
  go_wp2_with fail
  go_ret
  exact LP.out _ j0
 have t1:decide ((2147483647:Int)<(b.size:Int))=false:=by simp; omega
 have HS:=Hq (And.intro z0 z1)
 clear z0 z1
 obtain ⟨N,HN⟩:∃ N,Hid (N=4294967296):=⟨_,Hq rfl⟩
 go_enter Tryz.func6,Tryz.ntmps6
 go_wp2_with fail
 refine ZZ.out.mono ?_
 rintro e w1 ⟨b1,rfl,hb1,hg⟩
 have j1:=JG.out _ _ j0 hg
 have HBI:=Hq hb1
 clear hb1 hg j0 ZZ
 cases b1
 rotate_left
 obtain ⟨c0,c1,c2,c3,c4,c5,c6,c7,c8,c9,ca,cb,cc,cd,ce⟩:=(JB.out _ j1).facts
 go_wp2_with fail
 refine (RU.out _).mono ?_
 rintro e w2 ⟨rfl,hg⟩
 clear c0 c1 c2 c3 c4 c5 c6 c7 c8 c9 ca cb cc cd ce
 have j2:=JG.out _ _ j1 hg
 have TK:=Hq (taken8 a tw lo N w2 (by have:=HS.out; omega) (by have:=HS.out; have:=HN.out; omega))
 clear hg j1
 obtain ⟨tk0,HTK0⟩:∃ tk,Hid (tkn (chkT tw) lo N (bytes a)=tk):=⟨_,Hq rfl⟩
 obtain ⟨op0,HOP0⟩:∃ op,Hid ((!(run (chkT tw) lo N .val (bytes a)).2)=op):=⟨_,Hq rfl⟩
 rw [HTK0.out,HOP0.out] at TK
 go_wp2_with fail
 refine TK.out.mono ?_
 rintro e w3 ⟨rfl,hg⟩
 have j3:=JG.out _ _ j2 hg
 clear hg TK j2
 as_aux_lemma=>
  obtain ⟨c0,c1,c2,c3,c4,c5,c6,c7,c8,c9,ca,cb,cc,cd,ce⟩:=(JB.out _ j3).facts
  go_wp2_with fail
  refine (RU.out _).mono ?_
  rintro e w4 ⟨rfl,hg⟩
  clear c0 c1 c2 c3 c4 c5 c6 c7 c8 c9 ca cb cc cd ce
  have j4:=JG.out _ _ j3 hg
  have TK:=Hq (taken8 b tw lo N w4 (by have:=HS.out; omega) (by have:=HS.out; have:=HN.out; omega))
  clear hg j3
  obtain ⟨tk1,HTK1⟩:∃ tk,Hid (tkn (chkT tw) lo N (bytes b)=tk):=⟨_,Hq rfl⟩
  obtain ⟨op1,HOP1⟩:∃ op,Hid ((!(run (chkT tw) lo N .val (bytes b)).2)=op):=⟨_,Hq rfl⟩
  rw [HTK1.out,HOP1.out] at TK
  go_wp2_with fail
  refine TK.out.mono ?_
  rintro e w5 ⟨rfl,hg⟩
  have j5:=JG.out _ _ j4 hg
  clear hg TK j4
  have FN:=Hq (fine10 a B C D E F G H I K L M P Q R S HS.out.1 (HBI.out (by trivial)).1 (HBI.out (by trivial)).2 w5)
  obtain ⟨c0,c1,c2,c3,c4,c5,c6,c7,c8,c9,ca,cb,cc,cd,ce⟩:=(JB.out _ j5).facts
  go_wp2_with fail
  refine FN.out.mono ?_
  rintro e w6 ⟨b2,rfl,hb2,hg⟩
  clear c0 c1 c2 c3 c4 c5 c6 c7 c8 c9 ca cb cc cd ce
  have j6:=JG.out _ _ j5 hg
  have HF:=Hq hb2
  clear hg hb2 FN
  cases b2
  rotate_left
  have j7:=JG.out _ _ j6 (World.grownBy_alloc w6 (.cells #[.string b] 9) none)
  have FT:=Hq (fits1 w6.heap.size b (w6.alloc (.cells #[.string b] 9)) (by have:=HS.out; omega) (by rw [cell_of_row _ _ _ _ _ (0,0) (heap_alloc_new w6 _)]; rfl))
  obtain ⟨b3,HB3⟩:∃ b3,Hid (decide (b.size≤1000)=b3):=⟨_,Hq rfl⟩
  rw [HB3.out] at FT
  go_wp2_with fail
  refine FT.out.mono ?_
  rintro e _ ⟨rfl,rfl⟩
  obtain ⟨W3,hW3⟩:∃ W3,w6.alloc (.cells #[.string b] 9)=W3:=⟨_,rfl⟩
  rw [hW3] at j7 ⊢
  clear hW3 FT
  cases b3
  rotate_left
  cases op0
  rotate_left
  cases op1
  rotate_left
  cases tk0
  rotate_left
  cases tk1
  rotate_left
  have zb:b.size≤1000:=by have:=HB3.out; simpa using this
  have hf:=HF.out (by trivial)
  obtain ⟨y1,x2,y3,x3,y4,x6,x4,y5,x5,q0,q1,q2,q3,q4,q5,q6,q7,q8,r1,r2,r3,r4,r5,r6⟩:=six2 (tkn_all w (by omega) (by have:=HN.out; omega) HTK0.out (by simpa using HOP0.out)) (tkn_all w (by omega) (by have:=HN.out; omega) HTK1.out (by simpa using HOP1.out)) hf.1 zb
  unfold Adds at q0 q1 q2 q3 q4 q5 q6 q7 q8
  have V:=Hq (VA.out hf.2.1 hf.2.2)
  clear zb hf VA
  as_aux_lemma=>
   obtain ⟨c0,c1,c2,c3,c4,c5,c6,c7,c8,c9,ca,cb,cc,cd,ce⟩:=(JB.out _ j7).facts
   go_wp2_with fail
   refine (V.out _ _ _ r1 _ j7).mono ?_
   rintro e v1 ⟨rfl,j8⟩
   clear c0 c1 c2 c3 c4 c5 c6 c7 c8 c9 ca cb cc cd ce j7
   obtain ⟨c0,c1,c2,c3,c4,c5,c6,c7,c8,c9,ca,cb,cc,cd,ce⟩:=(JB.out _ j8).facts
   go_wp2_with fail
   refine (V.out _ _ _ r2 _ j8).mono ?_
   rintro e v2 ⟨rfl,j9⟩
   clear c0 c1 c2 c3 c4 c5 c6 c7 c8 c9 ca cb cc cd ce j8
   obtain ⟨c0,c1,c2,c3,c4,c5,c6,c7,c8,c9,ca,cb,cc,cd,ce⟩:=(JB.out _ j9).facts
   go_wp2_with fail
   refine (V.out _ _ _ r3 _ j9).mono ?_
   rintro e v3 ⟨rfl,j10⟩
   clear c0 c1 c2 c3 c4 c5 c6 c7 c8 c9 ca cb cc cd ce j9
   as_aux_lemma=>
    obtain ⟨c0,c1,c2,c3,c4,c5,c6,c7,c8,c9,ca,cb,cc,cd,ce⟩:=(JB.out _ j10).facts
    go_wp2_with fail
    refine (V.out _ _ _ r4 _ j10).mono ?_
    rintro e v4 ⟨rfl,j11⟩
    clear c0 c1 c2 c3 c4 c5 c6 c7 c8 c9 ca cb cc cd ce j10
    obtain ⟨c0,c1,c2,c3,c4,c5,c6,c7,c8,c9,ca,cb,cc,cd,ce⟩:=(JB.out _ j11).facts
    go_wp2_with fail
    refine (V.out _ _ _ r5 _ j11).mono ?_
    rintro e v5 ⟨rfl,j12⟩
    clear c0 c1 c2 c3 c4 c5 c6 c7 c8 c9 ca cb cc cd ce j11
    obtain ⟨c0,c1,c2,c3,c4,c5,c6,c7,c8,c9,ca,cb,cc,cd,ce⟩:=(JB.out _ j12).facts
    go_wp2_with fail
    refine (V.out _ _ _ r6 _ j12).mono ?_
    rintro e v6 ⟨rfl,j13⟩
    clear c0 c1 c2 c3 c4 c5 c6 c7 c8 c9 ca cb cc cd ce j12
    go_wp2_with fail
    go_ret
    exact LP.out _ j13
  all_goals
   go_wp2_with fail
   go_ret
   exact LP.out _ (by assumption)
 all_goals
  go_wp2_with fail
  go_ret
  exact LP.out _ (by assumption)
end Go.Proofs.YtknaalohaagcdaaGreatDoor.Own
namespace Go.Proofs.YtknaalohaagcdaaGreatDoor.Own
open Go.ChangeShapes Go.WideShapes Go.ChangeAt Go.RowKit Go.ChangeMaps
theorem one_cell{cs:Array Value}{i:Nat}{v:Value}(h:(((Value.agg cs).cells.toList.drop i).take 1)=[v]):cs[i]? = some v:=by
 have h0:=congrArg (·[0]?) h
 simpa [Value.cells] using h0
theorem own:ownKnob Tryz.prog.godebug=none:=by kernel_rfl
theorem laidOut:laidOutB Tryz.prog=true:=by kernel_rfl
theorem trodVars_len{H:Type}{enc:TypeId × Value→H}{P:Program}{W:World}{sp:Nat→Bool}:∀ {ns:List String} {gs:List (DataW H)} {ps:List MemPlace},DataW.TrodVars enc P W sp ns gs ps→gs.length=ns.length
 |[],[],_,_=>rfl
 |[],_::_,_,h=>h.elim
 |_::_,[],_,h=>h.elim
 |_::ns,_::ds,_,h=>by
  obtain ⟨_,_,_,_,_,q,_,_,_,_,hs,_⟩:=h
  simp [trodVars_len hs]
theorem opts_open{H:Type}{enc:TypeId × Value→H}{W:World}{base b0:Nat}{sp:Nat→Bool}{held:Bool}{r:Reach}{v:Value}{d:DataW H}{p:List MemPlace}(hv:Value.okWide Tryz.prog W r b0 23 v)(h:DataW.Trod enc Tryz.prog W base sp held 23 v d p):
  ∃ (du iv fl it ht js ml pr ro co cm:Int) (ind prx:Bool) (sI sP:ByteArray),v=.agg #[.int .i64 du,.int .i64 iv,.int .i64 fl,.int .i64 it,.int .i64 ht,.int .i64 js,.int .i64 ml,.int .i64 pr,.int .i64 ro,.int .i64 co,.int .i64 cm,.bool ind,.string sI,.bool prx,.string sP]:=by
 obtain ⟨cs,rfl,hsz⟩:=okWide_struct Tryz.underlying23 hv
 have hsz':cs.size=15:=hsz.trans (by kernel_rfl)
 obtain ⟨fuel,hf⟩:=h
 obtain ⟨xs,n,_,_,_,hl,hx⟩:=DataW.trod_struct Tryz.underlying23 hf
 have hl':xs.length=15:=hl
 have c2:Tryz.prog.cellsOf 2=1:=by kernel_rfl
 have c4:Tryz.prog.cellsOf 4=1:=by kernel_rfl
 have c9:Tryz.prog.cellsOf 9=1:=by kernel_rfl
 have hg:∀ i,i<15→∃ y,xs[i]? = some y:=fun i hi=>⟨xs[i]'(by omega),List.getElem?_eq_getElem _⟩
 have hi:∀ i,i<15→∀ f:Field,f.type=2→f.offset=i→DataW.trod enc Tryz.prog W base sp held n f.type (((Value.agg cs).cells.toList.drop f.offset).take (Tryz.prog.cellsOf f.type))=xs[i]? → ∃ x,cs[i]? = some (.int .i64 x):=by
  intro i hi f ht ho he
  obtain ⟨y,hy⟩:=hg i hi
  rw [hy,ht,ho,c2] at he
  obtain ⟨x,hx,_⟩:=DataW.trod_int Tryz.underlying2 he
  exact ⟨x,one_cell hx⟩
 have hb:∀ i,i<15→∀ f:Field,f.type=4→f.offset=i→DataW.trod enc Tryz.prog W base sp held n f.type (((Value.agg cs).cells.toList.drop f.offset).take (Tryz.prog.cellsOf f.type))=xs[i]? → ∃ x,cs[i]? = some (.bool x):=by
  intro i hi f ht ho he
  obtain ⟨y,hy⟩:=hg i hi
  rw [hy,ht,ho,c4] at he
  obtain ⟨x,hx,_⟩:=DataW.trod_bool Tryz.underlying4 he
  exact ⟨x,one_cell hx⟩
 have hs:∀ i,i<15→∀ f:Field,f.type=9→f.offset=i→DataW.trod enc Tryz.prog W base sp held n f.type (((Value.agg cs).cells.toList.drop f.offset).take (Tryz.prog.cellsOf f.type))=xs[i]? → ∃ x,cs[i]? = some (.string x):=by
  intro i hi f ht ho he
  obtain ⟨y,hy⟩:=hg i hi
  rw [hy,ht,ho,c9] at he
  obtain ⟨x,hx,_⟩:=DataW.trod_string Tryz.underlying9 he
  exact ⟨x,one_cell hx⟩
 obtain ⟨x0,e0⟩:=hi 0 (by decide) _ rfl rfl (hx 0 _ rfl)
 obtain ⟨x1,e1⟩:=hi 1 (by decide) _ rfl rfl (hx 1 _ rfl)
 obtain ⟨x2,e2⟩:=hi 2 (by decide) _ rfl rfl (hx 2 _ rfl)
 obtain ⟨x3,e3⟩:=hi 3 (by decide) _ rfl rfl (hx 3 _ rfl)
 obtain ⟨x4,e4⟩:=hi 4 (by decide) _ rfl rfl (hx 4 _ rfl)
 obtain ⟨x5,e5⟩:=hi 5 (by decide) _ rfl rfl (hx 5 _ rfl)
 obtain ⟨x6,e6⟩:=hi 6 (by decide) _ rfl rfl (hx 6 _ rfl)
 obtain ⟨x7,e7⟩:=hi 7 (by decide) _ rfl rfl (hx 7 _ rfl)
 obtain ⟨x8,e8⟩:=hi 8 (by decide) _ rfl rfl (hx 8 _ rfl)
 obtain ⟨x9,e9⟩:=hi 9 (by decide) _ rfl rfl (hx 9 _ rfl)
 obtain ⟨x10,e10⟩:=hi 10 (by decide) _ rfl rfl (hx 10 _ rfl)
 obtain ⟨x11,e11⟩:=hb 11 (by decide) _ rfl rfl (hx 11 _ rfl)
 obtain ⟨x12,e12⟩:=hs 12 (by decide) _ rfl rfl (hx 12 _ rfl)
 obtain ⟨x13,e13⟩:=hb 13 (by decide) _ rfl rfl (hx 13 _ rfl)
 obtain ⟨x14,e14⟩:=hs 14 (by decide) _ rfl rfl (hx 14 _ rfl)
 refine ⟨x0,x1,x2,x3,x4,x5,x6,x7,x8,x9,x10,x11,x13,x12,x14,?_⟩
 have:cs=#[.int .i64 x0,.int .i64 x1,.int .i64 x2,.int .i64 x3,.int .i64 x4,.int .i64 x5,.int .i64 x6,.int .i64 x7,.int .i64 x8,.int .i64 x9,.int .i64 x10,.bool x11,.string x12,.bool x13,.string x14]:=by
  apply Array.ext_getElem?
  intro i
  by_cases h15:i<15
  ·match i,h15 with
   |0,_=>exact e0
   |1,_=>exact e1
   |2,_=>exact e2
   |3,_=>exact e3
   |4,_=>exact e4
   |5,_=>exact e5
   |6,_=>exact e6
   |7,_=>exact e7
   |8,_=>exact e8
   |9,_=>exact e9
   |10,_=>exact e10
   |11,_=>exact e11
   |12,_=>exact e12
   |13,_=>exact e13
   |14,_=>exact e14
  ·rw [Array.getElem?_eq_none (by omega),Array.getElem?_eq_none (by simp; omega)]
 rw [this]
namespace Valid
end Valid
end Go.Proofs.YtknaalohaagcdaaGreatDoor.Own
