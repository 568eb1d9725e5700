/-
  FOR EVERY TEXT AND EVERY SETTING IsValid SAYS WHAT THE RULES SAY. Conditions: the row's own (what the listed package-level variables hold when the call begins, tied to the text of the code), and no other.
-/
import Derived.Test.YtknaalohaagcdaaGreatDoorG01
import Derived.Test.YtknaalohaagcdaaGreatDoorG50
import Derived.Test.YtknaalohaagcdaaGreatDoorG51
import Derived.Test.YtknaalohaagcdaaGreatDoorCards
import Derived.Test.YtknaalohaagcdaaGreatDoorTie
import Derived.ProofKit
import Derived.OpenVars
import Derived.OpenShut
import Derived.LaidMore
import Derived.Lay
import Derived.SevenTiedAt
import Derived.Stop.Joined
import Derived.Deep.DeepHandedRow
import Derived.Lib.SmallJoins
import Derived.ChangeMaps5
set_option maxHeartbeats 400000000
set_option maxRecDepth 100000
namespace Go.Proofs.YtknaalohaagcdaaGreatDoor.Own
open Go.ChangeShapes Go.WideShapes Go.ChangeAt Go.RowKit Go.ChangeMaps
theorem one_cell{cs:Array Value}{i:Nat}{v:Value}(h:(((Value.agg cs).cells.toList.drop i).take 1)=[v]):cs[i]? = some v:=by
 have h0:=congrArg (·[0]?) h
 simpa [Value.cells] using h0
theorem own:ownKnob Tryz.prog.godebug=none:=by kernel_rfl
theorem laidOut:laidOutB Tryz.prog=true:=by kernel_rfl
theorem trodVars_len{H:Type}{enc:TypeId × Value→H}{P:Program}{W:World}{sp:Nat→Bool}:∀ {ns:List String} {gs:List (DataW H)} {ps:List MemPlace},DataW.TrodVars enc P W sp ns gs ps→gs.length=ns.length
 |[],[],_,_=>rfl
 |[],_::_,_,h=>h.elim
 |_::_,[],_,h=>h.elim
 |_::ns,_::ds,_,h=>by
  obtain ⟨_,_,_,_,_,q,_,_,_,_,hs,_⟩:=h
  simp [trodVars_len hs]
theorem opts_open{H:Type}{enc:TypeId × Value→H}{W:World}{base b0:Nat}{sp:Nat→Bool}{held:Bool}{r:Reach}{v:Value}{d:DataW H}{p:List MemPlace}(hv:Value.okWide Tryz.prog W r b0 23 v)(h:DataW.Trod enc Tryz.prog W base sp held 23 v d p):
  ∃ (du iv fl it ht js ml pr ro co cm:Int) (ind prx:Bool) (sI sP:ByteArray),v=.agg #[.int .i64 du,.int .i64 iv,.int .i64 fl,.int .i64 it,.int .i64 ht,.int .i64 js,.int .i64 ml,.int .i64 pr,.int .i64 ro,.int .i64 co,.int .i64 cm,.bool ind,.string sI,.bool prx,.string sP]:=by
 obtain ⟨cs,rfl,hsz⟩:=okWide_struct Tryz.underlying23 hv
 have hsz':cs.size=15:=hsz.trans (by kernel_rfl)
 obtain ⟨fuel,hf⟩:=h
 obtain ⟨xs,n,_,_,_,hl,hx⟩:=DataW.trod_struct Tryz.underlying23 hf
 have hl':xs.length=15:=hl
 have c2:Tryz.prog.cellsOf 2=1:=by kernel_rfl
 have c4:Tryz.prog.cellsOf 4=1:=by kernel_rfl
 have c9:Tryz.prog.cellsOf 9=1:=by kernel_rfl
 have hg:∀ i,i<15→∃ y,xs[i]? = some y:=fun i hi=>⟨xs[i]'(by omega),List.getElem?_eq_getElem _⟩
 have hi:∀ i,i<15→∀ f:Field,f.type=2→f.offset=i→DataW.trod enc Tryz.prog W base sp held n f.type (((Value.agg cs).cells.toList.drop f.offset).take (Tryz.prog.cellsOf f.type))=xs[i]? → ∃ x,cs[i]? = some (.int .i64 x):=by
  intro i hi f ht ho he
  obtain ⟨y,hy⟩:=hg i hi
  rw [hy,ht,ho,c2] at he
  obtain ⟨x,hx,_⟩:=DataW.trod_int Tryz.underlying2 he
  exact ⟨x,one_cell hx⟩
 have hb:∀ i,i<15→∀ f:Field,f.type=4→f.offset=i→DataW.trod enc Tryz.prog W base sp held n f.type (((Value.agg cs).cells.toList.drop f.offset).take (Tryz.prog.cellsOf f.type))=xs[i]? → ∃ x,cs[i]? = some (.bool x):=by
  intro i hi f ht ho he
  obtain ⟨y,hy⟩:=hg i hi
  rw [hy,ht,ho,c4] at he
  obtain ⟨x,hx,_⟩:=DataW.trod_bool Tryz.underlying4 he
  exact ⟨x,one_cell hx⟩
 have hs:∀ i,i<15→∀ f:Field,f.type=9→f.offset=i→DataW.trod enc Tryz.prog W base sp held n f.type (((Value.agg cs).cells.toList.drop f.offset).take (Tryz.prog.cellsOf f.type))=xs[i]? → ∃ x,cs[i]? = some (.string x):=by
  intro i hi f ht ho he
  obtain ⟨y,hy⟩:=hg i hi
  rw [hy,ht,ho,c9] at he
  obtain ⟨x,hx,_⟩:=DataW.trod_string Tryz.underlying9 he
  exact ⟨x,one_cell hx⟩
 obtain ⟨x0,e0⟩:=hi 0 (by decide) _ rfl rfl (hx 0 _ rfl)
 obtain ⟨x1,e1⟩:=hi 1 (by decide) _ rfl rfl (hx 1 _ rfl)
 obtain ⟨x2,e2⟩:=hi 2 (by decide) _ rfl rfl (hx 2 _ rfl)
 obtain ⟨x3,e3⟩:=hi 3 (by decide) _ rfl rfl (hx 3 _ rfl)
 obtain ⟨x4,e4⟩:=hi 4 (by decide) _ rfl rfl (hx 4 _ rfl)
 obtain ⟨x5,e5⟩:=hi 5 (by decide) _ rfl rfl (hx 5 _ rfl)
 obtain ⟨x6,e6⟩:=hi 6 (by decide) _ rfl rfl (hx 6 _ rfl)
 obtain ⟨x7,e7⟩:=hi 7 (by decide) _ rfl rfl (hx 7 _ rfl)
 obtain ⟨x8,e8⟩:=hi 8 (by decide) _ rfl rfl (hx 8 _ rfl)
 obtain ⟨x9,e9⟩:=hi 9 (by decide) _ rfl rfl (hx 9 _ rfl)
 obtain ⟨x10,e10⟩:=hi 10 (by decide) _ rfl rfl (hx 10 _ rfl)
 obtain ⟨x11,e11⟩:=hb 11 (by decide) _ rfl rfl (hx 11 _ rfl)
 obtain ⟨x12,e12⟩:=hs 12 (by decide) _ rfl rfl (hx 12 _ rfl)
 obtain ⟨x13,e13⟩:=hb 13 (by decide) _ rfl rfl (hx 13 _ rfl)
 obtain ⟨x14,e14⟩:=hs 14 (by decide) _ rfl rfl (hx 14 _ rfl)
 refine ⟨x0,x1,x2,x3,x4,x5,x6,x7,x8,x9,x10,x11,x13,x12,x14,?_⟩
 have:cs=#[.int .i64 x0,.int .i64 x1,.int .i64 x2,.int .i64 x3,.int .i64 x4,.int .i64 x5,.int .i64 x6,.int .i64 x7,.int .i64 x8,.int .i64 x9,.int .i64 x10,.bool x11,.string x12,.bool x13,.string x14]:=by
  apply Array.ext_getElem?
  intro i
  by_cases h15:i<15
  ·match i,h15 with
   |0,_=>exact e0
   |1,_=>exact e1
   |2,_=>exact e2
   |3,_=>exact e3
   |4,_=>exact e4
   |5,_=>exact e5
   |6,_=>exact e6
   |7,_=>exact e7
   |8,_=>exact e8
   |9,_=>exact e9
   |10,_=>exact e10
   |11,_=>exact e11
   |12,_=>exact e12
   |13,_=>exact e13
   |14,_=>exact e14
  ·rw [Array.getElem?_eq_none (by omega),Array.getElem?_eq_none (by simp; omega)]
 rw [this]
namespace Valid
theorem contract(H:Type)(enc:TypeId × Value→H)(W:World)(base:Nat)(args:Array Value)(ds gs:List (DataW H))(before:List MemPlace)
  (hval:∀ (j:Nat) t v,Tryz.f3.params[j]? = some t→args[j]? = some v→Value.okWide Tryz.prog W .any base t v)
  (hW:DataW.Whole enc Tryz.prog Tryz.f3.params.toList Rows.fnValidSpec.vars false W args.toList ds gs before) (hL:laidMetH Tryz.prog Rows.fnValidRow.laid W):
  Calls Tryz.prog 3 args W fun e W'=>∃ v,e=.returned v∧Rows.fnValidSpec.post enc Tryz.prog Tryz.f3 false true false false W args v W':=by
 have hW':=hW
 obtain ⟨p,q,hA0,hV,rfl,hfz,hnd⟩:=hW
 have hA:DataW.TrodAll enc Tryz.prog W 0 (fun _=>true) true Tryz.f3.params.toList args.toList ds p:=hA0
 rw [Tryz.params3] at hA hval
 obtain ⟨v0,v1,d0,d1,p0,p1,hargs,rfl,rfl,h0,h1⟩:=trodAll_two hA
 obtain rfl:args=#[v0,v1]:=by cases args; simp_all
 have h0k:=h0
 have h1k:=h1
 obtain ⟨s,rfl,_⟩:=open_string Tryz.underlying9 (hval 0 9 v0 rfl rfl) h0
 obtain ⟨du,iv,fl,it,ht,js,ml,pr,ro,co,cm,ind,prx,sI,sP,rfl⟩:=opts_open (hval 1 23 v1 rfl rfl) h1
 have hgl:gs.length=10:=trodVars_len hV
 obtain ⟨g1,g2,g3,g4,g5,g6,g7,g8,g9,g10,rfl⟩:∃ g1 g2 g3 g4 g5 g6 g7 g8 g9 g10,gs=[g1,g2,g3,g4,g5,g6,g7,g8,g9,g10]:=by
  match gs,hgl with
  |[g1,g2,g3,g4,g5,g6,g7,g8,g9,g10],_=>exact ⟨g1,g2,g3,g4,g5,g6,g7,g8,g9,g10,rfl⟩
 have hlt0:∀ x∈p0,x.block<W.heap.size:=fun x hx=>by simpa using hW'.lt x (by simp [hx])
 have hlt1:∀ x∈p1,x.block<W.heap.size:=fun x hx=>by simpa using hW'.lt x (by simp [hx])
 obtain ⟨A,aU,aI,aE,aM,hF⟩:=laid_facts hL
 refine (law3 A aU aI aE aM s du iv fl it ht js ml pr ro co cm ind prx sI sP W hF).mono fun e W' ⟨he,hb⟩ => ?_
 subst he
 exact ⟨_,rfl,⟨_,_,_,[],_,q,hW',trodAll_mk1 (shut_bool Tryz.underlying4 _),trodAll_mk2 (Below.trod laidOut (by kernel_rfl) (of_decide_eq_true (by kernel_rfl)) h0k hb hlt0) (Below.trod laidOut (by kernel_rfl) (of_decide_eq_true (by kernel_rfl)) h1k hb hlt1),hb.trodVars laidOut (by kernel_rfl) hV,hb.frame _,fun h=>by cases h⟩⟩
noncomputable def wW(os:Os):World:=(World.laidAll Tryz.prog os Rows.fnValidRow.laid).forCall (fun _ _=>0) ⟨#[],#[.string ⟨#[]⟩,.agg #[.int .i64 0,.int .i64 0,.int .i64 0,.int .i64 0,.int .i64 0,.int .i64 0,.int .i64 0,.int .i64 0,.int .i64 0,.int .i64 0,.int .i64 0,.bool false,.string ⟨#[]⟩,.bool false,.string ⟨#[]⟩]],[]⟩
theorem w_shp(os:Os):(wW os).Shaped Tryz.checked.prog:=World.shaped_of_ZipB (by kernel_rfl) (by kernel_rfl)
theorem w_ok(os:Os):Input.okWideB Tryz.checked.prog (wW os) 3 ⟨#[],#[.string ⟨#[]⟩,.agg #[.int .i64 0,.int .i64 0,.int .i64 0,.int .i64 0,.int .i64 0,.int .i64 0,.int .i64 0,.int .i64 0,.int .i64 0,.int .i64 0,.int .i64 0,.bool false,.string ⟨#[]⟩,.bool false,.string ⟨#[]⟩]],[]⟩=true:=by kernel_rfl
theorem w_pre(os:Os)(H:Type)(enc:TypeId × Value→H):Rows.fnValidSpec.preB enc Tryz.checked.prog Tryz.f3 Rows.fnValidRow.domain false (wW os).memory #[.string ⟨#[]⟩,.agg #[.int .i64 0,.int .i64 0,.int .i64 0,.int .i64 0,.int .i64 0,.int .i64 0,.int .i64 0,.int .i64 0,.int .i64 0,.int .i64 0,.int .i64 0,.bool false,.string ⟨#[]⟩,.bool false,.string ⟨#[]⟩]] 8=true:=by kernel_rfl
theorem w_siz(os:Os)(H:Type)(enc:TypeId × Value→H):Rows.fnValidSpec.sizedB enc Tryz.checked.prog Tryz.f3 false (wW os).memory #[.string ⟨#[]⟩,.agg #[.int .i64 0,.int .i64 0,.int .i64 0,.int .i64 0,.int .i64 0,.int .i64 0,.int .i64 0,.int .i64 0,.int .i64 0,.int .i64 0,.int .i64 0,.bool false,.string ⟨#[]⟩,.bool false,.string ⟨#[]⟩]] 8=true:=by kernel_rfl
theorem w_fit(os:Os):(World.holding Tryz.prog os ⟨#[],#[],[]⟩).layFits Tryz.prog Rows.fnValidRow.laid []=true:=by kernel_rfl
theorem w_ifs(os:Os):(World.holding Tryz.prog os ⟨#[],#[],[]⟩).layIfaces Tryz.prog Rows.fnValidRow.laid (World.laidAll Tryz.prog os Rows.fnValidRow.laid)=true:=by kernel_rfl
theorem w_laid(os:Os):laidMetH Tryz.prog Rows.fnValidRow.laid (wW os).memory:=by
 rw [MakeChecks.laidMetH_plain _ _ _ (by kernel_rfl)]
 exact laidMet_laidAll _ (w_fit os) (w_ifs os)
theorem joined:joinedFacts Tryz.pinned.checked.prog 3 Tryz.f3 Rows.fnValidSpec Rows.fnValidRow=true:=by kernel_rfl
theorem lifted(os:Os)(started:os.Started)(H:Type)(enc:TypeId × Value→H):
  ReturnsInHanded {} Tryz.checked os 3 .any (fun w args=>(Rows.fnValidSpec.pre enc Tryz.prog Tryz.f3 Rows.fnValidRow.domain false w args∧laidMetH Tryz.prog Rows.fnValidRow.laid w)∧sizedMet enc Tryz.prog Tryz.f3 (OpenSpec.ofChange Rows.fnValidSpec) false w args)
   (Rows.fnValidSpec.post enc Tryz.prog Tryz.f3 false true false false):=by
 refine returnsInHanded_of_change_and (C:=Tryz.checked) (X:=fun w _=>laidMetH Tryz.prog Rows.fnValidRow.laid w) (fun _ _ _ hh h=>h.of_heap hh) own started (by kernel_rfl) Tryz.func3
  (ChangeSpec.witness_shaped (enc:=enc) (C:=Tryz.checked) (os:=os) (X:=fun w _=>laidMetH Tryz.prog Rows.fnValidRow.laid w) false (World.laidAll Tryz.prog os Rows.fnValidRow.laid) #[.string ⟨#[]⟩,.agg #[.int .i64 0,.int .i64 0,.int .i64 0,.int .i64 0,.int .i64 0,.int .i64 0,.int .i64 0,.int .i64 0,.int .i64 0,.int .i64 0,.int .i64 0,.bool false,.string ⟨#[]⟩,.bool false,.string ⟨#[]⟩]] 8 (World.laidAll_os _ _ _)
   (w_shp os) (w_ok os) (w_pre os H enc) (w_siz os H enc) (w_laid os)) ?_
 intro W base args ds gs before hval hW _ _ hL _
 exact contract H enc W base args ds gs before hval hW hL
theorem said:Rows.FnValidSaid:=
 OpenClaim.holds_of_wide 3 Tryz.f3 rfl rfl rfl rfl rfl rfl rfl ⟨rfl,rfl,rfl,rfl,rfl⟩ rfl rfl rfl rfl rfl (by kernel_rfl) Tryz.func3 joined
  (of_decide_eq_true (by kernel_rfl)) (by unfold Func.isWrapper; first|(rw [if_pos (by decide +kernel)]; kernel_rfl)|(rw [if_neg (by decide +kernel)]; exact ⟨rfl,rfl⟩))
  (fun os started H enc _=>lifted os started H enc)
theorem plain(f:FuncId)(fn:Func)(hf:Tryz.pinned.checked.prog.funcNamed "loop.example/pub-g01450/laws.FnValid" = some f)(hfn:Tryz.pinned.checked.prog.funcs[f]? = some fn):
  true=Tryz.pinned.checked.prog.looks []∧∀ (j:Nat) t,fn.params[j]? = some t→Tryz.pinned.checked.prog.wantsStandIn t=false:=by
 obtain rfl:f=3:=Option.some.inj ((show Tryz.prog.funcNamed "loop.example/pub-g01450/laws.FnValid" = some 3 by kernel_rfl).symm.trans hf) |>.symm
 obtain rfl:fn=Tryz.f3:=(Option.some.inj (Tryz.func3.symm.trans hfn)).symm
 refine ⟨by kernel_rfl,fun j t ht => ?_⟩
 rw [Tryz.params3] at ht
 have hm:t∈[9,23]:=by simpa using Array.mem_of_getElem? ht
 have hall:([9,23].all fun u => !Tryz.prog.wantsStandIn u)=true:=by kernel_rfl
 exact (show Tryz.prog.wantsStandIn t=false by simpa using List.all_eq_true.1 hall t hm)
theorem card:Rows.FnValidCardSaid:=
 Claim7.holds_tied_plain_at .later [] _ _ _ _ said (fun _ h=>by cases h) (by kernel_rfl) (fun _ h=>by cases h) fnValid_row_tie rfl ⟨rfl,rfl⟩ (by kernel_rfl) rfl plain (by kernel_rfl)
end Valid
end Go.Proofs.YtknaalohaagcdaaGreatDoor.Own
#print axioms Go.Proofs.YtknaalohaagcdaaGreatDoor.Own.Valid.card
