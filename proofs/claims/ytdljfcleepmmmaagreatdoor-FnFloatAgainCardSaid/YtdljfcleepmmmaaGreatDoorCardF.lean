/-
  THE TIED CARD OF FnFloatAgain: for every number of 64 bits (its bits in a whole number) the law answers true: its token tells it again bit for bit, what is no number as no number. Conditions: the row's own (what the listed package-level variables hold when the call begins, tied to the program's text), and no other.
-/
import Derived.Test.YtdljfcleepmmmaaGreatDoorFlw
import Derived.Test.YtdljfcleepmmmaaGreatDoorLaidF
import Derived.Test.YtdljfcleepmmmaaGreatDoorCards
import Derived.Test.YtdljfcleepmmmaaGreatDoorTie
import Derived.ProofKit
import Derived.OpenVars
import Derived.OpenShut
import Derived.LaidMore
import Derived.Lay
import Derived.SevenTiedAt
import Derived.Stop.Joined
import Derived.Deep.DeepHandedRow
namespace Go.Proofs.YtdljfcleepmmmaaGreatDoor.Own
open Go.ChangeShapes Go.WideShapes Go.ChangeAt Go.RowKit
theorem own : ownKnob Tryz.prog.godebug = none := by kernel_rfl
theorem laidOut : laidOutB Tryz.prog = true := by kernel_rfl
set_option maxRecDepth 100000 in
/-- WHAT THE WALK GIVES, FOR ALL ARGUMENTS. -/
theorem contract (H : Type) (enc : TypeId × Value → H) (W : World) (base : Nat) (args : Array Value) (ds gs : List (DataW H)) (before : List MemPlace)
    (hval : ∀ (j : Nat) t v, Tryz.f3.params[j]? = some t → args[j]? = some v → Value.okWide Tryz.prog W .any base t v)
    (hW : DataW.Whole enc Tryz.prog Tryz.f3.params.toList Rows.fnFloatAgainSpec.vars false W args.toList ds gs before) (hL : laidMetH Tryz.prog Rows.fnFloatAgainRow.laid W) :
    Calls Tryz.prog 3 args W fun e W' => ∃ v, e = .returned v ∧ Rows.fnFloatAgainSpec.post enc Tryz.prog Tryz.f3 false true false false W args v W' := by
  have hW' := hW
  obtain ⟨p, q, hA0, hV, rfl, hfz, hnd⟩ := hW
  have hA : DataW.TrodAll enc Tryz.prog W 0 (fun _ => true) true Tryz.f3.params.toList args.toList ds p := hA0
  rw [Tryz.params3] at hA hval
  obtain ⟨v0, d0, hargs, rfl, h0⟩ := trodAll_one hA
  obtain rfl : args = #[v0] := by cases args; simp_all
  obtain ⟨x, rfl, rfl, rfl, wx⟩ := open_int Tryz.underlying22 (hval 0 22 v0 rfl rfl) h0
  have hx : 0 ≤ x ∧ x ≤ 18446744073709551615 := by simpa [Lit.wf, IntKind.min, IntKind.max, IntKind.signed, IntKind.bits] using wx
  have hgs : ∃ g1 g2 g3, gs = [g1, g2, g3] := by
    match gs, hV with
    | [g1, g2, g3], _ => exact ⟨g1, g2, g3, rfl⟩
    | [], h => exact h.elim
    | [_], ⟨_, _, _, _, _, _, _, _, _, _, h, _⟩ => exact h.elim
    | [_, _], ⟨_, _, _, _, _, _, _, _, _, _, ⟨_, _, _, _, _, _, _, _, _, _, h, _⟩, _⟩ => exact h.elim
    | _ :: _ :: _ :: _ :: _, ⟨_, _, _, _, _, _, _, _, _, _, ⟨_, _, _, _, _, _, _, _, _, _, ⟨_, _, _, _, _, _, _, _, _, _, h, _⟩, _⟩, _⟩ => exact h.elim
  obtain ⟨g1, g2, g3, rfl⟩ := hgs
  have hwalk : Calls Tryz.prog 3 #[.int .u64 x] W fun e w' => e = .returned (.bool true) ∧ Below W.heap.size W w' := by
    obtain ⟨hO, hK⟩ := laid_facts hL
    by_cases hx0 : x = 0
    · subst hx0
      exact zero_walk W hO hK
    · obtain ⟨b, rfl⟩ := Int.eq_ofNat_of_zero_le hx.1
      by_cases hf : Fin b
      · exact fin_walk b (by omega) hf W
      · by_cases hn : 9218868437227405312 < b % 9223372036854775808
        · exact nan_walk b hn W
        · unfold Fin at hf
          by_cases hp : b < 9223372036854775808
          · obtain rfl : b = 9218868437227405312 := by omega
            exact pinf_walk W
          · obtain rfl : b = 18442240474082181120 := by omega
            exact ninf_walk W
  refine hwalk.mono fun e W' ⟨he, hb⟩ => ?_
  subst he
  exact ⟨_, rfl, ⟨_, _, _, [], [], q, hW', trodAll_mk1 (shut_bool Tryz.underlying4 _), trodAll_mk1 (shut_int Tryz.underlying22 wx), hb.trodVars laidOut (by kernel_rfl) hV, hb.frame _, fun h => by cases h⟩⟩
set_option maxRecDepth 100000 in
theorem lifted (os : Os) (started : os.Started) (H : Type) (enc : TypeId × Value → H) :
    ReturnsInHanded {} Tryz.checked os 3 .any (fun w args => (Rows.fnFloatAgainSpec.pre enc Tryz.prog Tryz.f3 Rows.fnFloatAgainRow.domain false w args ∧ laidMetH Tryz.prog Rows.fnFloatAgainRow.laid w) ∧ sizedMet enc Tryz.prog Tryz.f3 (OpenSpec.ofChange Rows.fnFloatAgainSpec) false w args)
      (Rows.fnFloatAgainSpec.post enc Tryz.prog Tryz.f3 false true false false) := by
  refine returnsInHanded_of_change_and (C := Tryz.checked) (X := fun w _ => laidMetH Tryz.prog Rows.fnFloatAgainRow.laid w) (fun _ _ _ hh h => h.of_heap hh) own started (by kernel_rfl) Tryz.func3
    (ChangeSpec.witness_shaped (enc := enc) (C := Tryz.checked) (os := os) (X := fun w _ => laidMetH Tryz.prog Rows.fnFloatAgainRow.laid w) false (World.laidAll Tryz.prog os Rows.fnFloatAgainRow.laid) #[.int .u64 0] 8 (World.laidAll_os _ _ _)
      (World.shaped_of_ZipB (by kernel_rfl) (by kernel_rfl)) (by kernel_rfl) (by kernel_rfl) (by kernel_rfl)
      (by rw [MakeChecks.laidMetH_plain _ _ _ (by kernel_rfl)]; exact laidMet_laidAll _ (by kernel_rfl) (by kernel_rfl))) ?_
  intro W base args ds gs before hval hW _ _ hL _
  exact contract H enc W base args ds gs before hval hW hL
theorem said : Rows.FnFloatAgainSaid :=
  OpenClaim.holds_of_wide 3 Tryz.f3 rfl rfl rfl rfl rfl rfl rfl ⟨rfl, rfl, rfl, rfl, rfl⟩ rfl rfl rfl rfl rfl (by kernel_rfl) Tryz.func3 (by kernel_rfl)
    (of_decide_eq_true (by kernel_rfl)) (by unfold Func.isWrapper; first | (rw [if_pos (by decide +kernel)]; kernel_rfl) | (rw [if_neg (by decide +kernel)]; exact ⟨rfl, rfl⟩))
    (fun os started H enc _ => lifted os started H enc)
theorem plain (f : FuncId) (fn : Func) (hf : Tryz.pinned.checked.prog.funcNamed "loop.example/pub-g01450/laws.FnFloatAgain" = some f) (hfn : Tryz.pinned.checked.prog.funcs[f]? = some fn) :
    true = Tryz.pinned.checked.prog.looks [] ∧ ∀ (j : Nat) t, fn.params[j]? = some t → Tryz.pinned.checked.prog.wantsStandIn t = false := by
  obtain rfl : f = 3 := Option.some.inj ((show Tryz.prog.funcNamed "loop.example/pub-g01450/laws.FnFloatAgain" = some 3 by kernel_rfl).symm.trans hf) |>.symm
  obtain rfl : fn = Tryz.f3 := (Option.some.inj (Tryz.func3.symm.trans hfn)).symm
  refine ⟨by kernel_rfl, fun j t ht => ?_⟩
  rw [Tryz.params3] at ht
  have hm : t ∈ [22] := by simpa using Array.mem_of_getElem? ht
  have hall : ([22].all fun u => !Tryz.prog.wantsStandIn u) = true := by kernel_rfl
  exact (show Tryz.prog.wantsStandIn t = false by simpa using List.all_eq_true.1 hall t hm)
/-- THE CARD. -/
theorem card : Rows.FnFloatAgainCardSaid :=
  Claim7.holds_tied_plain_at .later [] _ _ _ _ said (fun _ h => by cases h) (by kernel_rfl) (fun _ h => by cases h) fnFloatAgain_row_tie rfl ⟨rfl, rfl⟩ (by kernel_rfl) rfl plain (by kernel_rfl)
end Go.Proofs.YtdljfcleepmmmaaGreatDoor.Own
#print axioms Go.Proofs.YtdljfcleepmmmaaGreatDoor.Own.card
