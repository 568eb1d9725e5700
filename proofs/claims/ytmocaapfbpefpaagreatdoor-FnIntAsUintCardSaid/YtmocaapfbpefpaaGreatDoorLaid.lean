/-
  What the row's listed variables give to the walks: the table of powers of ten, and two sentinels, each at a place of its own.
-/
import Derived.Test.YtmocaapfbpefpaaGreatDoorRows
import Derived.ProofKit
import Derived.LaidMore
import Derived.Lay
import Derived.Stop.LaidErr
import Derived.Stop.LaidTwo
import Derived.Lib.LaidTab
import Derived.Lib.ItoaMem
import Derived.WalkSmall
namespace Go.Proofs.YtmocaapfbpefpaaGreatDoor.Own
open Go.ChangeShapes Go.WideShapes Go.ChangeAt Go.RowKit
theorem star : '*'.toString = "*" := by decide
theorem rowErr (u : TypeId) (h : Tryz.prog.typeName? 3 u = some "*errors.errorString") : u = 159 :=
  typeName_ptr_named (nm := "errors.errorString") (by rw [show "*" ++ "errors.errorString" = "*errors.errorString" from rfl] <;> kernel_rfl) (by kernel_rfl) (by decide) u h
theorem laid_facts {W : World} (h : laidMetH Tryz.prog Rows.fnIntAsUintRow.laid W) :
    Lib.TabIs Tryz.prog W "internal/strconv.uint64pow10" .u64 Lib.pow10Tab ∧ ∃ (a b : Addr) (ca cb : Array Value) (ta tb : TypeId),
      W.cell? ⟨0, 0, none⟩ = some (.iface 159 (.pointer (some a))) ∧ W.cell? ⟨1, 0, none⟩ = some (.iface 159 (.pointer (some b))) ∧ a ≠ b ∧
      W.heap[a.block]? = some (.cells ca ta (0, 0)) ∧ W.heap[b.block]? = some (.cells cb tb (0, 0)) := by
  rw [MakeChecks.laidMetH_plain _ _ _ (by kernel_rfl)] at h
  have h8 := h.tail.tail.tail.tail.tail.tail.tail.tail
  have h10 := h8.tail.tail
  refine ⟨?_, ?_⟩
  · exact Lib.tabIs_of_head (g := 12) (t := 173) (e := 22) (n := 20) (by kernel_rfl) (by kernel_rfl) Tryz.underlying173 Tryz.underlying22 (by kernel_rfl) (by kernel_rfl) h8
  · obtain ⟨a0, a1, s0, s1, c0, c1, t0, t1, hv0, hv1, hc0, hs0, hz0, hc1, hs1, hz1, hne, hb0, hb1⟩ := laid_sentinels2 (g0 := 0) (g1 := 1) (ti := 30) (ts := 9) h10 (by kernel_rfl) (by kernel_rfl) (by kernel_rfl) (by kernel_rfl) Tryz.underlying30 rowErr Tryz.underlying159 Tryz.underlying161 rfl rfl Tryz.underlying9 (by kernel_rfl) (by kernel_rfl)
    have k0 := World.var?_cell (show Tryz.prog.globalNamed "strconv.ErrRange" = some 0 by kernel_rfl) hv0 0
    have k1 := World.var?_cell (show Tryz.prog.globalNamed "strconv.ErrSyntax" = some 1 by kernel_rfl) hv1 0
    exact ⟨a0, a1, c0, c1, t0, t1, k0, k1, hne, hb0, hb1⟩
theorem tab_below {w w' : World} (h : Lib.TabIs Tryz.prog w "internal/strconv.uint64pow10" .u64 Lib.pow10Tab) (hb : Below w.heap.size w w') : Lib.TabIs Tryz.prog w' "internal/strconv.uint64pow10" .u64 Lib.pow10Tab := by
  have hg : Tryz.prog.globalNamed "internal/strconv.uint64pow10" = some 12 := by kernel_rfl
  have hlt : 12 < w.heap.size := by
    unfold Lib.TabIs World.var? at h
    rw [hg] at h
    simp only [Option.bind_some] at h
    cases hh : w.heap[12]? with
    | none => rw [hh] at h; cases h
    | some o => exact (Array.getElem?_eq_some_iff.1 hh).1
  exact var?_below hb hg hlt h
end Go.Proofs.YtmocaapfbpefpaaGreatDoor.Own
