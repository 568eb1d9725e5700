/-
  AN ARRAY, AN OBJECT, A STRING OR A LITERAL THAT IS CUT SHORT IS NO VALUE. Conditions: the row's own, and no other.
-/
import Derived.Test.YtknaalohaagcdaaGreatDoorG51
import Derived.Carry
set_option maxHeartbeats 400000000
set_option maxRecDepth 100000
namespace Go.Proofs.YtknaalohaagcdaaGreatDoor.Own
open Go.ChangeShapes Go.WideShapes Go.ChangeAt Go.RowKit Go.ChangeMaps
namespace Cut
theorem contractC(H:Type)(enc:TypeId × Value→H)(W:World)(base:Nat)(args:Array Value)(ds gs:List (DataW H))(before:List MemPlace)
  (hval:∀ (j:Nat) t v,Tryz.f4.params[j]? = some t→args[j]? = some v→Value.okWide Tryz.prog W .any base t v)
  (hW:DataW.Whole enc Tryz.prog Tryz.f4.params.toList Rows.fnCutSpec.vars false W args.toList ds gs before) (hL:laidMetH Tryz.prog Rows.fnCutRow.laid W):
  Calls Tryz.prog 4 args W fun e W'=>∃ v,e=.returned v∧Rows.fnCutSpec.post enc Tryz.prog Tryz.f4 false true false false W args v W':=by
 have hW':=hW
 obtain ⟨p,q,hA0,hV,rfl,hfz,hnd⟩:=hW
 have hA:DataW.TrodAll enc Tryz.prog W 0 (fun _=>true) true Tryz.f4.params.toList args.toList ds p:=hA0
 rw [Tryz.params4] at hA hval
 obtain ⟨v0,v1,d0,d1,p0,p1,hargs,rfl,rfl,h0,h1⟩:=trodAll_two hA
 obtain rfl:args=#[v0,v1]:=by cases args; simp_all
 have h0k:=h0
 have h1k:=h1
 obtain ⟨s0,rfl,_⟩:=open_string Tryz.underlying9 (hval 0 9 v0 rfl rfl) h0
 obtain ⟨m,rfl,rfl,rfl,hm⟩:=open_int Tryz.underlying3 (hval 1 3 v1 rfl rfl) h1
 have hgl:gs.length=10:=trodVars_len hV
 obtain ⟨g1,g2,g3,g4,g5,g6,g7,g8,g9,g10,rfl⟩:∃ g1 g2 g3 g4 g5 g6 g7 g8 g9 g10,gs=[g1,g2,g3,g4,g5,g6,g7,g8,g9,g10]:=by
  match gs,hgl with
  |[g1,g2,g3,g4,g5,g6,g7,g8,g9,g10],_=>exact ⟨g1,g2,g3,g4,g5,g6,g7,g8,g9,g10,rfl⟩
 have hlt0:∀ x∈p0,x.block<W.heap.size:=fun x hx=>by simpa using hW'.lt x (by simp [hx])
 have hlt1:∀ x∈([]:List MemPlace),x.block<W.heap.size:=fun x hx=>by cases hx
 obtain ⟨A,aU,aI,aE,aM,hF⟩:=laid_facts hL
 refine (law4 A aU aI aE aM s0 m hm W hF).mono fun e W' ⟨he,hb⟩ => ?_
 subst he
 exact ⟨_,rfl,⟨_,_,_,[],_,q,hW',trodAll_mk1 (shut_bool Tryz.underlying4 _),trodAll_mk2 (Below.trod laidOut (by kernel_rfl) (of_decide_eq_true (by kernel_rfl)) h0k hb hlt0) (Below.trod laidOut (by kernel_rfl) (of_decide_eq_true (by kernel_rfl)) h1k hb hlt1),hb.trodVars laidOut (by kernel_rfl) hV,hb.frame _,fun h=>by cases h⟩⟩
noncomputable def wWC(os:Os):World:=(World.laidAll Tryz.prog os Rows.fnCutRow.laid).forCall (fun _ _=>0) ⟨#[],#[.string ⟨#[]⟩,.int .i64 0],[]⟩
theorem w_shpC(os:Os):(wWC os).Shaped Tryz.checked.prog:=World.shaped_of_ZipB (by kernel_rfl) (by kernel_rfl)
theorem w_okC(os:Os):Input.okWideB Tryz.checked.prog (wWC os) 4 ⟨#[],#[.string ⟨#[]⟩,.int .i64 0],[]⟩=true:=by kernel_rfl
theorem w_preC(os:Os)(H:Type)(enc:TypeId × Value→H):Rows.fnCutSpec.preB enc Tryz.checked.prog Tryz.f4 Rows.fnCutRow.domain false (wWC os).memory #[.string ⟨#[]⟩,.int .i64 0] 8=true:=by kernel_rfl
theorem w_sizC(os:Os)(H:Type)(enc:TypeId × Value→H):Rows.fnCutSpec.sizedB enc Tryz.checked.prog Tryz.f4 false (wWC os).memory #[.string ⟨#[]⟩,.int .i64 0] 8=true:=by kernel_rfl
theorem w_fitC(os:Os):(World.holding Tryz.prog os ⟨#[],#[],[]⟩).layFits Tryz.prog Rows.fnCutRow.laid []=true:=by kernel_rfl
theorem w_ifsC(os:Os):(World.holding Tryz.prog os ⟨#[],#[],[]⟩).layIfaces Tryz.prog Rows.fnCutRow.laid (World.laidAll Tryz.prog os Rows.fnCutRow.laid)=true:=by kernel_rfl
theorem w_laidC(os:Os):laidMetH Tryz.prog Rows.fnCutRow.laid (wWC os).memory:=by
 rw [MakeChecks.laidMetH_plain _ _ _ (by kernel_rfl)]
 exact laidMet_laidAll _ (w_fitC os) (w_ifsC os)
theorem joinedC:joinedFacts Tryz.pinned.checked.prog 4 Tryz.f4 Rows.fnCutSpec Rows.fnCutRow=true:=by kernel_rfl
theorem liftedC(os:Os)(started:os.Started)(H:Type)(enc:TypeId × Value→H):
  ReturnsInHanded {} Tryz.checked os 4 .any (fun w args=>(Rows.fnCutSpec.pre enc Tryz.prog Tryz.f4 Rows.fnCutRow.domain false w args∧laidMetH Tryz.prog Rows.fnCutRow.laid w)∧sizedMet enc Tryz.prog Tryz.f4 (OpenSpec.ofChange Rows.fnCutSpec) false w args)
   (Rows.fnCutSpec.post enc Tryz.prog Tryz.f4 false true false false):=by
 refine returnsInHanded_of_change_and (C:=Tryz.checked) (X:=fun w _=>laidMetH Tryz.prog Rows.fnCutRow.laid w) (fun _ _ _ hh h=>h.of_heap hh) own started (by kernel_rfl) Tryz.func4
  (ChangeSpec.witness_shaped (enc:=enc) (C:=Tryz.checked) (os:=os) (X:=fun w _=>laidMetH Tryz.prog Rows.fnCutRow.laid w) false (World.laidAll Tryz.prog os Rows.fnCutRow.laid) #[.string ⟨#[]⟩,.int .i64 0] 8 (World.laidAll_os _ _ _)
   (w_shpC os) (w_okC os) (w_preC os H enc) (w_sizC os H enc) (w_laidC os)) ?_
 intro W base args ds gs before hval hW _ _ hL _
 exact contractC H enc W base args ds gs before hval hW hL
theorem saidC:Rows.FnCutSaid:=
 OpenClaim.holds_of_wide 4 Tryz.f4 rfl rfl rfl rfl rfl rfl rfl ⟨rfl,rfl,rfl,rfl,rfl⟩ rfl rfl rfl rfl rfl (by kernel_rfl) Tryz.func4 joinedC
  (of_decide_eq_true (by kernel_rfl)) (by unfold Func.isWrapper; first|(rw [if_pos (by decide +kernel)]; kernel_rfl)|(rw [if_neg (by decide +kernel)]; exact ⟨rfl,rfl⟩))
  (fun os started H enc _=>liftedC os started H enc)
theorem plainC(f:FuncId)(fn:Func)(hf:Tryz.pinned.checked.prog.funcNamed "loop.example/pub-g01450/laws.FnCut" = some f)(hfn:Tryz.pinned.checked.prog.funcs[f]? = some fn):
  true=Tryz.pinned.checked.prog.looks []∧∀ (j:Nat) t,fn.params[j]? = some t→Tryz.pinned.checked.prog.wantsStandIn t=false:=by
 obtain rfl:f=4:=Option.some.inj ((show Tryz.prog.funcNamed "loop.example/pub-g01450/laws.FnCut" = some 4 by kernel_rfl).symm.trans hf) |>.symm
 obtain rfl:fn=Tryz.f4:=(Option.some.inj (Tryz.func4.symm.trans hfn)).symm
 refine ⟨by kernel_rfl,fun j t ht => ?_⟩
 rw [Tryz.params4] at ht
 have hm:t∈[9,3]:=by simpa using Array.mem_of_getElem? ht
 have hall:([9,3].all fun u => !Tryz.prog.wantsStandIn u)=true:=by kernel_rfl
 exact (show Tryz.prog.wantsStandIn t=false by simpa using List.all_eq_true.1 hall t hm)
theorem cardC:Rows.FnCutCardSaid:=
 Claim7.holds_tied_plain_at .later [] _ _ _ _ saidC (fun _ h=>by cases h) (by kernel_rfl) (fun _ h=>by cases h) fnCut_row_tie rfl ⟨rfl,rfl⟩ (by kernel_rfl) rfl plainC (by kernel_rfl)
end Cut
end Go.Proofs.YtknaalohaagcdaaGreatDoor.Own
#print axioms Go.Proofs.YtknaalohaagcdaaGreatDoor.Own.Cut.cardC
