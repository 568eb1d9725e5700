/-
  A VALUE IS ONE WITHIN AN ARRAY AND WITHIN AN OBJECT; TWO VALUES ARE ONE WITHIN AN ARRAY ALONE. Conditions: the row's own, and no other.
-/
import Derived.Test.YtknaalohaagcdaaGreatDoorG51
import Derived.Carry
set_option maxHeartbeats 400000000
set_option maxRecDepth 100000
namespace Go.Proofs.YtknaalohaagcdaaGreatDoor.Own
open Go.ChangeShapes Go.WideShapes Go.ChangeAt Go.RowKit Go.ChangeMaps
namespace Wrapped
theorem contractW(H:Type)(enc:TypeId × Value→H)(W:World)(base:Nat)(args:Array Value)(ds gs:List (DataW H))(before:List MemPlace)
  (hval:∀ (j:Nat) t v,Tryz.f6.params[j]? = some t→args[j]? = some v→Value.okWide Tryz.prog W .any base t v)
  (hW:DataW.Whole enc Tryz.prog Tryz.f6.params.toList Rows.fnWrappedSpec.vars false W args.toList ds gs before) (hL:laidMetH Tryz.prog Rows.fnWrappedRow.laid W):
  Calls Tryz.prog 6 args W fun e W'=>∃ v,e=.returned v∧Rows.fnWrappedSpec.post enc Tryz.prog Tryz.f6 false true false false W args v W':=by
 have hW':=hW
 obtain ⟨p,q,hA0,hV,rfl,hfz,hnd⟩:=hW
 have hA:DataW.TrodAll enc Tryz.prog W 0 (fun _=>true) true Tryz.f6.params.toList args.toList ds p:=hA0
 rw [Tryz.params6] at hA hval
 obtain ⟨v0,v1,v2,d0,d1,d2,p0,p1,p2,hargs,rfl,rfl,h0,h1,h2⟩:=trodAll_three hA
 obtain rfl:args=#[v0,v1,v2]:=by cases args; simp_all
 have h0k:=h0
 have h1k:=h1
 have h2k:=h2
 obtain ⟨s0,rfl,_⟩:=open_string Tryz.underlying9 (hval 0 9 v0 rfl rfl) h0
 obtain ⟨s1,rfl,_⟩:=open_string Tryz.underlying9 (hval 1 9 v1 rfl rfl) h1
 obtain ⟨du,iv,fl,it,ht,js,ml,pr,ro,co,cm,ind,prx,sI,sP,rfl⟩:=opts_open (hval 2 23 v2 rfl rfl) h2
 have hgl:gs.length=10:=trodVars_len hV
 obtain ⟨g1,g2,g3,g4,g5,g6,g7,g8,g9,g10,rfl⟩:∃ g1 g2 g3 g4 g5 g6 g7 g8 g9 g10,gs=[g1,g2,g3,g4,g5,g6,g7,g8,g9,g10]:=by
  match gs,hgl with
  |[g1,g2,g3,g4,g5,g6,g7,g8,g9,g10],_=>exact ⟨g1,g2,g3,g4,g5,g6,g7,g8,g9,g10,rfl⟩
 have hlt0:∀ x∈p0,x.block<W.heap.size:=fun x hx=>by simpa using hW'.lt x (by simp [hx])
 have hlt1:∀ x∈p1,x.block<W.heap.size:=fun x hx=>by simpa using hW'.lt x (by simp [hx])
 have hlt2:∀ x∈p2,x.block<W.heap.size:=fun x hx=>by simpa using hW'.lt x (by simp [hx])
 obtain ⟨A,aU,aI,aE,aM,hF⟩:=laid_facts hL
 refine (law6 A aU aI aE aM s0 s1 du iv fl it ht js ml pr ro co cm ind prx sI sP W hF).mono fun e W' ⟨he,hb⟩ => ?_
 subst he
 exact ⟨_,rfl,⟨_,_,_,[],_,q,hW',trodAll_mk1 (shut_bool Tryz.underlying4 _),trodAll_mk3 (Below.trod laidOut (by kernel_rfl) (of_decide_eq_true (by kernel_rfl)) h0k hb hlt0) (Below.trod laidOut (by kernel_rfl) (of_decide_eq_true (by kernel_rfl)) h1k hb hlt1) (Below.trod laidOut (by kernel_rfl) (of_decide_eq_true (by kernel_rfl)) h2k hb hlt2),hb.trodVars laidOut (by kernel_rfl) hV,hb.frame _,fun h=>by cases h⟩⟩
def wa:Array Value:=#[.string ⟨#[]⟩,.string ⟨#[]⟩,.agg #[.int .i64 0,.int .i64 0,.int .i64 0,.int .i64 0,.int .i64 0,.int .i64 0,.int .i64 0,.int .i64 0,.int .i64 0,.int .i64 0,.int .i64 0,.bool false,.string ⟨#[]⟩,.bool false,.string ⟨#[]⟩]]
noncomputable def wWW(os:Os):World:=(World.laidAll Tryz.prog os Rows.fnWrappedRow.laid).forCall (fun _ _=>0) ⟨#[],wa,[]⟩
theorem w_shpW(os:Os):(wWW os).Shaped Tryz.checked.prog:=World.shaped_of_ZipB (by kernel_rfl) (by kernel_rfl)
theorem w_okW(os:Os):Input.okWideB Tryz.checked.prog (wWW os) 6 ⟨#[],wa,[]⟩=true:=by kernel_rfl
theorem w_preW(os:Os)(H:Type)(enc:TypeId × Value→H):Rows.fnWrappedSpec.preB enc Tryz.checked.prog Tryz.f6 Rows.fnWrappedRow.domain false (wWW os).memory wa 8=true:=by kernel_rfl
theorem w_sizW(os:Os)(H:Type)(enc:TypeId × Value→H):Rows.fnWrappedSpec.sizedB enc Tryz.checked.prog Tryz.f6 false (wWW os).memory wa 8=true:=by kernel_rfl
theorem w_fitW(os:Os):(World.holding Tryz.prog os ⟨#[],#[],[]⟩).layFits Tryz.prog Rows.fnWrappedRow.laid []=true:=by kernel_rfl
theorem w_ifsW(os:Os):(World.holding Tryz.prog os ⟨#[],#[],[]⟩).layIfaces Tryz.prog Rows.fnWrappedRow.laid (World.laidAll Tryz.prog os Rows.fnWrappedRow.laid)=true:=by kernel_rfl
theorem w_laidW(os:Os):laidMetH Tryz.prog Rows.fnWrappedRow.laid (wWW os).memory:=by
 rw [MakeChecks.laidMetH_plain _ _ _ (by kernel_rfl)]
 exact laidMet_laidAll _ (w_fitW os) (w_ifsW os)
theorem joinedW:joinedFacts Tryz.pinned.checked.prog 6 Tryz.f6 Rows.fnWrappedSpec Rows.fnWrappedRow=true:=by kernel_rfl
theorem liftedW(os:Os)(started:os.Started)(H:Type)(enc:TypeId × Value→H):
  ReturnsInHanded {} Tryz.checked os 6 .any (fun w args=>(Rows.fnWrappedSpec.pre enc Tryz.prog Tryz.f6 Rows.fnWrappedRow.domain false w args∧laidMetH Tryz.prog Rows.fnWrappedRow.laid w)∧sizedMet enc Tryz.prog Tryz.f6 (OpenSpec.ofChange Rows.fnWrappedSpec) false w args)
   (Rows.fnWrappedSpec.post enc Tryz.prog Tryz.f6 false true false false):=by
 refine returnsInHanded_of_change_and (C:=Tryz.checked) (X:=fun w _=>laidMetH Tryz.prog Rows.fnWrappedRow.laid w) (fun _ _ _ hh h=>h.of_heap hh) own started (by kernel_rfl) Tryz.func6
  (ChangeSpec.witness_shaped (enc:=enc) (C:=Tryz.checked) (os:=os) (X:=fun w _=>laidMetH Tryz.prog Rows.fnWrappedRow.laid w) false (World.laidAll Tryz.prog os Rows.fnWrappedRow.laid) wa 8 (World.laidAll_os _ _ _)
   (w_shpW os) (w_okW os) (w_preW os H enc) (w_sizW os H enc) (w_laidW os)) ?_
 intro W base args ds gs before hval hW _ _ hL _
 exact contractW H enc W base args ds gs before hval hW hL
theorem saidW:Rows.FnWrappedSaid:=
 OpenClaim.holds_of_wide 6 Tryz.f6 rfl rfl rfl rfl rfl rfl rfl ⟨rfl,rfl,rfl,rfl,rfl⟩ rfl rfl rfl rfl rfl (by kernel_rfl) Tryz.func6 joinedW
  (of_decide_eq_true (by kernel_rfl)) (by unfold Func.isWrapper; first|(rw [if_pos (by decide +kernel)]; kernel_rfl)|(rw [if_neg (by decide +kernel)]; exact ⟨rfl,rfl⟩))
  (fun os started H enc _=>liftedW os started H enc)
theorem plainW(f:FuncId)(fn:Func)(hf:Tryz.pinned.checked.prog.funcNamed "loop.example/pub-g01450/laws.FnWrapped" = some f)(hfn:Tryz.pinned.checked.prog.funcs[f]? = some fn):
  true=Tryz.pinned.checked.prog.looks []∧∀ (j:Nat) t,fn.params[j]? = some t→Tryz.pinned.checked.prog.wantsStandIn t=false:=by
 obtain rfl:f=6:=Option.some.inj ((show Tryz.prog.funcNamed "loop.example/pub-g01450/laws.FnWrapped" = some 6 by kernel_rfl).symm.trans hf) |>.symm
 obtain rfl:fn=Tryz.f6:=(Option.some.inj (Tryz.func6.symm.trans hfn)).symm
 refine ⟨by kernel_rfl,fun j t ht => ?_⟩
 rw [Tryz.params6] at ht
 have hm:t∈[9,9,23]:=by simpa using Array.mem_of_getElem? ht
 have hall:([9,9,23].all fun u => !Tryz.prog.wantsStandIn u)=true:=by kernel_rfl
 exact (show Tryz.prog.wantsStandIn t=false by simpa using List.all_eq_true.1 hall t hm)
theorem cardW:Rows.FnWrappedCardSaid:=
 Claim7.holds_tied_plain_at .later [] _ _ _ _ saidW (fun _ h=>by cases h) (by kernel_rfl) (fun _ h=>by cases h) fnWrapped_row_tie rfl ⟨rfl,rfl⟩ (by kernel_rfl) rfl plainW (by kernel_rfl)
end Wrapped
end Go.Proofs.YtknaalohaagcdaaGreatDoor.Own
#print axioms Go.Proofs.YtknaalohaagcdaaGreatDoor.Own.Wrapped.cardW
