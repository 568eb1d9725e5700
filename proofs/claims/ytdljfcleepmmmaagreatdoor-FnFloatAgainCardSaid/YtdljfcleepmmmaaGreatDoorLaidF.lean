/-
  What the row's listed variables give to the walk: the library's knob, and one cell of the table of kinds.
-/
import Derived.Test.YtdljfcleepmmmaaGreatDoorRows
import Derived.ProofKit
import Derived.LaidMore
import Derived.Lay
import Derived.Stop.LaidErr
import Derived.Lib.LaidTab
namespace Go.Proofs.YtdljfcleepmmmaaGreatDoor.Own
open Go.ChangeShapes Go.WideShapes Go.ChangeAt Go.RowKit
/-- The table of kinds. -/
def normTab : List Int := (List.range 256).map fun (i : Nat) =>
  if i = 110 ∨ i = 102 ∨ i = 116 ∨ i = 34 ∨ i = 123 ∨ i = 125 ∨ i = 91 ∨ i = 93 then (i : Int) else if i = 45 ∨ (48 ≤ i ∧ i ≤ 57) then 48 else 0
theorem normLen : normTab.length = 256 := by simp [normTab]
theorem normAt : normTab.getD 48 0 = 48 := by simp [normTab]
set_option maxRecDepth 100000 in
theorem laid_facts {W : World} (h : laidMetH Tryz.prog Rows.fnFloatAgainRow.laid W) :
    W.cell? ⟨6, 0, none⟩ = some (.bool true) ∧ W.cell? ⟨3, 48, none⟩ = some (.int .u8 48) := by
  rw [MakeChecks.laidMetH_plain _ _ _ (by kernel_rfl)] at h
  have h4 := h.tail.tail.tail.tail
  have h15 := h4.tail.tail.tail.tail.tail.tail.tail.tail.tail.tail.tail
  refine ⟨?_, ?_⟩
  · obtain ⟨ps, ⟨g, t, cs, fuel, p, q, hg, ht, hv, hd, _, _⟩, _, _⟩ := h4
    obtain rfl := Option.some.inj ((show Tryz.prog.globalNamed "internal/strconv.optimize" = some 6 by kernel_rfl).symm.trans hg)
    obtain rfl := Option.some.inj ((show (Tryz.prog.globals[6]?).map (·.type) = some 4 by kernel_rfl).symm.trans ht)
    obtain ⟨x, ex, hx⟩ := DataW.trod_bool Tryz.underlying4 hd
    have k := World.var?_cell (show Tryz.prog.globalNamed "internal/strconv.optimize" = some 6 by kernel_rfl) hv 0
    rw [k]
    have h9 := congrArg Prod.fst hx
    unfold Rows.laid_internal_strconv_optimize at h9
    have hx2 : x = true := by simpa using h9.symm
    subst hx2
    obtain ⟨l⟩ := cs
    simp only at ex
    subst ex
    rfl
  · have ht : laidMet Tryz.prog (("loop.example/pub-g01450/pub/jsontext.normKind", Lib.tabData .u8 normTab) :: _) W := h15
    have hT := Lib.tabIs_of_head (g := 3) (t := 72) (e := 50) (n := 256) (by kernel_rfl) (by kernel_rfl) Tryz.underlying72 Tryz.underlying50 (by kernel_rfl) (by kernel_rfl) ht
    have hc := hT.cell (show Tryz.prog.globalNamed "loop.example/pub-g01450/pub/jsontext.normKind" = some 3 by kernel_rfl) 48 (by rw [normLen]; decide)
    rw [normAt] at hc
    exact hc
end Go.Proofs.YtdljfcleepmmmaaGreatDoor.Own
