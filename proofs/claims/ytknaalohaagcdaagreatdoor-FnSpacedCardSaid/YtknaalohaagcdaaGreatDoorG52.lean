/-
  WHITE SPACE AROUND A TEXT IS OF NO ACCOUNT TO IsValid. Conditions: the row's own (what the listed package-level variables hold when the call begins, tied to the text of the code), and no other.
-/
import Derived.Test.YtknaalohaagcdaaGreatDoorG01
import Derived.Test.YtknaalohaagcdaaGreatDoorG50
import Derived.Test.YtknaalohaagcdaaGreatDoorG51
import Derived.Test.YtknaalohaagcdaaGreatDoorCards
import Derived.Test.YtknaalohaagcdaaGreatDoorTie
import Derived.ProofKit
import Derived.OpenVars
import Derived.OpenShut
import Derived.LaidMore
import Derived.Lay
import Derived.SevenTiedAt
import Derived.Stop.Joined
import Derived.Deep.DeepHandedRow
import Derived.Lib.SmallJoins
import Derived.ChangeMaps5
import Derived.Carry
set_option maxHeartbeats 400000000
set_option maxRecDepth 100000
namespace Go.Proofs.YtknaalohaagcdaaGreatDoor.Own
open Go.ChangeShapes Go.WideShapes Go.ChangeAt Go.RowKit Go.ChangeMaps
namespace Spaced
theorem contractS(H:Type)(enc:TypeId × Value→H)(W:World)(base:Nat)(args:Array Value)(ds gs:List (DataW H))(before:List MemPlace)
  (hval:∀ (j:Nat) t v,Tryz.f5.params[j]? = some t→args[j]? = some v→Value.okWide Tryz.prog W .any base t v)
  (hW:DataW.Whole enc Tryz.prog Tryz.f5.params.toList Rows.fnSpacedSpec.vars false W args.toList ds gs before) (hL:laidMetH Tryz.prog Rows.fnSpacedRow.laid W):
  Calls Tryz.prog 5 args W fun e W'=>∃ v,e=.returned v∧Rows.fnSpacedSpec.post enc Tryz.prog Tryz.f5 false true false false W args v W':=by
 have hW':=hW
 obtain ⟨p,q,hA0,hV,rfl,hfz,hnd⟩:=hW
 have hA:DataW.TrodAll enc Tryz.prog W 0 (fun _=>true) true Tryz.f5.params.toList args.toList ds p:=hA0
 rw [Tryz.params5] at hA hval
 obtain ⟨v0,v1,v2,v3,d0,d1,d2,d3,p0,p1,p2,p3,hargs,rfl,rfl,h0,h1,h2,h3⟩:=trodAll_four hA
 obtain rfl:args=#[v0,v1,v2,v3]:=by cases args; simp_all
 have h0k:=h0
 have h1k:=h1
 have h2k:=h2
 have h3k:=h3
 obtain ⟨s0,rfl,_⟩:=open_string Tryz.underlying9 (hval 0 9 v0 rfl rfl) h0
 obtain ⟨s1,rfl,_⟩:=open_string Tryz.underlying9 (hval 1 9 v1 rfl rfl) h1
 obtain ⟨s2,rfl,_⟩:=open_string Tryz.underlying9 (hval 2 9 v2 rfl rfl) h2
 obtain ⟨du,iv,fl,it,ht,js,ml,pr,ro,co,cm,ind,prx,sI,sP,rfl⟩:=opts_open (hval 3 23 v3 rfl rfl) h3
 have hgl:gs.length=10:=trodVars_len hV
 obtain ⟨g1,g2,g3,g4,g5,g6,g7,g8,g9,g10,rfl⟩:∃ g1 g2 g3 g4 g5 g6 g7 g8 g9 g10,gs=[g1,g2,g3,g4,g5,g6,g7,g8,g9,g10]:=by
  match gs,hgl with
  |[g1,g2,g3,g4,g5,g6,g7,g8,g9,g10],_=>exact ⟨g1,g2,g3,g4,g5,g6,g7,g8,g9,g10,rfl⟩
 have hlt0:∀ x∈p0,x.block<W.heap.size:=fun x hx=>by simpa using hW'.lt x (by simp [hx])
 have hlt1:∀ x∈p1,x.block<W.heap.size:=fun x hx=>by simpa using hW'.lt x (by simp [hx])
 have hlt2:∀ x∈p2,x.block<W.heap.size:=fun x hx=>by simpa using hW'.lt x (by simp [hx])
 have hlt3:∀ x∈p3,x.block<W.heap.size:=fun x hx=>by simpa using hW'.lt x (by simp [hx])
 obtain ⟨A,aU,aI,aE,aM,hF⟩:=laid_facts hL
 refine (law5 A aU aI aE aM s0 s1 s2 du iv fl it ht js ml pr ro co cm ind prx sI sP W hF).mono fun e W' ⟨he,hb⟩ => ?_
 subst he
 exact ⟨_,rfl,⟨_,_,_,[],_,q,hW',trodAll_mk1 (shut_bool Tryz.underlying4 _),trodAll_mk4 (Below.trod laidOut (by kernel_rfl) (of_decide_eq_true (by kernel_rfl)) h0k hb hlt0) (Below.trod laidOut (by kernel_rfl) (of_decide_eq_true (by kernel_rfl)) h1k hb hlt1) (Below.trod laidOut (by kernel_rfl) (of_decide_eq_true (by kernel_rfl)) h2k hb hlt2) (Below.trod laidOut (by kernel_rfl) (of_decide_eq_true (by kernel_rfl)) h3k hb hlt3),hb.trodVars laidOut (by kernel_rfl) hV,hb.frame _,fun h=>by cases h⟩⟩
noncomputable def wWS(os:Os):World:=(World.laidAll Tryz.prog os Rows.fnSpacedRow.laid).forCall (fun _ _=>0) ⟨#[],#[.string ⟨#[]⟩,.string ⟨#[]⟩,.string ⟨#[]⟩,.agg #[.int .i64 0,.int .i64 0,.int .i64 0,.int .i64 0,.int .i64 0,.int .i64 0,.int .i64 0,.int .i64 0,.int .i64 0,.int .i64 0,.int .i64 0,.bool false,.string ⟨#[]⟩,.bool false,.string ⟨#[]⟩]],[]⟩
theorem w_shpS(os:Os):(wWS os).Shaped Tryz.checked.prog:=World.shaped_of_ZipB (by kernel_rfl) (by kernel_rfl)
theorem w_okS(os:Os):Input.okWideB Tryz.checked.prog (wWS os) 5 ⟨#[],#[.string ⟨#[]⟩,.string ⟨#[]⟩,.string ⟨#[]⟩,.agg #[.int .i64 0,.int .i64 0,.int .i64 0,.int .i64 0,.int .i64 0,.int .i64 0,.int .i64 0,.int .i64 0,.int .i64 0,.int .i64 0,.int .i64 0,.bool false,.string ⟨#[]⟩,.bool false,.string ⟨#[]⟩]],[]⟩=true:=by kernel_rfl
theorem w_preS(os:Os)(H:Type)(enc:TypeId × Value→H):Rows.fnSpacedSpec.preB enc Tryz.checked.prog Tryz.f5 Rows.fnSpacedRow.domain false (wWS os).memory #[.string ⟨#[]⟩,.string ⟨#[]⟩,.string ⟨#[]⟩,.agg #[.int .i64 0,.int .i64 0,.int .i64 0,.int .i64 0,.int .i64 0,.int .i64 0,.int .i64 0,.int .i64 0,.int .i64 0,.int .i64 0,.int .i64 0,.bool false,.string ⟨#[]⟩,.bool false,.string ⟨#[]⟩]] 8=true:=by kernel_rfl
theorem w_sizS(os:Os)(H:Type)(enc:TypeId × Value→H):Rows.fnSpacedSpec.sizedB enc Tryz.checked.prog Tryz.f5 false (wWS os).memory #[.string ⟨#[]⟩,.string ⟨#[]⟩,.string ⟨#[]⟩,.agg #[.int .i64 0,.int .i64 0,.int .i64 0,.int .i64 0,.int .i64 0,.int .i64 0,.int .i64 0,.int .i64 0,.int .i64 0,.int .i64 0,.int .i64 0,.bool false,.string ⟨#[]⟩,.bool false,.string ⟨#[]⟩]] 8=true:=by kernel_rfl
theorem w_fitS(os:Os):(World.holding Tryz.prog os ⟨#[],#[],[]⟩).layFits Tryz.prog Rows.fnSpacedRow.laid []=true:=by kernel_rfl
theorem w_ifsS(os:Os):(World.holding Tryz.prog os ⟨#[],#[],[]⟩).layIfaces Tryz.prog Rows.fnSpacedRow.laid (World.laidAll Tryz.prog os Rows.fnSpacedRow.laid)=true:=by kernel_rfl
theorem w_laidS(os:Os):laidMetH Tryz.prog Rows.fnSpacedRow.laid (wWS os).memory:=by
 rw [MakeChecks.laidMetH_plain _ _ _ (by kernel_rfl)]
 exact laidMet_laidAll _ (w_fitS os) (w_ifsS os)
theorem joinedS:joinedFacts Tryz.pinned.checked.prog 5 Tryz.f5 Rows.fnSpacedSpec Rows.fnSpacedRow=true:=by kernel_rfl
theorem liftedS(os:Os)(started:os.Started)(H:Type)(enc:TypeId × Value→H):
  ReturnsInHanded {} Tryz.checked os 5 .any (fun w args=>(Rows.fnSpacedSpec.pre enc Tryz.prog Tryz.f5 Rows.fnSpacedRow.domain false w args∧laidMetH Tryz.prog Rows.fnSpacedRow.laid w)∧sizedMet enc Tryz.prog Tryz.f5 (OpenSpec.ofChange Rows.fnSpacedSpec) false w args)
   (Rows.fnSpacedSpec.post enc Tryz.prog Tryz.f5 false true false false):=by
 refine returnsInHanded_of_change_and (C:=Tryz.checked) (X:=fun w _=>laidMetH Tryz.prog Rows.fnSpacedRow.laid w) (fun _ _ _ hh h=>h.of_heap hh) own started (by kernel_rfl) Tryz.func5
  (ChangeSpec.witness_shaped (enc:=enc) (C:=Tryz.checked) (os:=os) (X:=fun w _=>laidMetH Tryz.prog Rows.fnSpacedRow.laid w) false (World.laidAll Tryz.prog os Rows.fnSpacedRow.laid) #[.string ⟨#[]⟩,.string ⟨#[]⟩,.string ⟨#[]⟩,.agg #[.int .i64 0,.int .i64 0,.int .i64 0,.int .i64 0,.int .i64 0,.int .i64 0,.int .i64 0,.int .i64 0,.int .i64 0,.int .i64 0,.int .i64 0,.bool false,.string ⟨#[]⟩,.bool false,.string ⟨#[]⟩]] 8 (World.laidAll_os _ _ _)
   (w_shpS os) (w_okS os) (w_preS os H enc) (w_sizS os H enc) (w_laidS os)) ?_
 intro W base args ds gs before hval hW _ _ hL _
 exact contractS H enc W base args ds gs before hval hW hL
theorem saidS:Rows.FnSpacedSaid:=
 OpenClaim.holds_of_wide 5 Tryz.f5 rfl rfl rfl rfl rfl rfl rfl ⟨rfl,rfl,rfl,rfl,rfl⟩ rfl rfl rfl rfl rfl (by kernel_rfl) Tryz.func5 joinedS
  (of_decide_eq_true (by kernel_rfl)) (by unfold Func.isWrapper; first|(rw [if_pos (by decide +kernel)]; kernel_rfl)|(rw [if_neg (by decide +kernel)]; exact ⟨rfl,rfl⟩))
  (fun os started H enc _=>liftedS os started H enc)
theorem plainS(f:FuncId)(fn:Func)(hf:Tryz.pinned.checked.prog.funcNamed "loop.example/pub-g01450/laws.FnSpaced" = some f)(hfn:Tryz.pinned.checked.prog.funcs[f]? = some fn):
  true=Tryz.pinned.checked.prog.looks []∧∀ (j:Nat) t,fn.params[j]? = some t→Tryz.pinned.checked.prog.wantsStandIn t=false:=by
 obtain rfl:f=5:=Option.some.inj ((show Tryz.prog.funcNamed "loop.example/pub-g01450/laws.FnSpaced" = some 5 by kernel_rfl).symm.trans hf) |>.symm
 obtain rfl:fn=Tryz.f5:=(Option.some.inj (Tryz.func5.symm.trans hfn)).symm
 refine ⟨by kernel_rfl,fun j t ht => ?_⟩
 rw [Tryz.params5] at ht
 have hm:t∈[9,9,9,23]:=by simpa using Array.mem_of_getElem? ht
 have hall:([9,9,9,23].all fun u => !Tryz.prog.wantsStandIn u)=true:=by kernel_rfl
 exact (show Tryz.prog.wantsStandIn t=false by simpa using List.all_eq_true.1 hall t hm)
theorem cardS:Rows.FnSpacedCardSaid:=
 Claim7.holds_tied_plain_at .later [] _ _ _ _ saidS (fun _ h=>by cases h) (by kernel_rfl) (fun _ h=>by cases h) fnSpaced_row_tie rfl ⟨rfl,rfl⟩ (by kernel_rfl) rfl plainS (by kernel_rfl)
end Spaced
end Go.Proofs.YtknaalohaagcdaaGreatDoor.Own
#print axioms Go.Proofs.YtknaalohaagcdaaGreatDoor.Own.Spaced.cardS
