/-
  The raw token of the text 0, as it is made, and what its methods' helpers tell of it: offset 0, the buffer of one byte, the number 0.
-/
import Derived.Test.YtdljfcleepmmmaaGreatDoorProg
import Derived.WalkKit
import Derived.Below
import Derived.Outline
import Derived.WalkLawsBesides
import Derived.WalkSpells
import Derived.Lib.Hide
import Derived.Handy
import Derived.Laws.Rows
import Derived.Laws.AppendOwn
import Derived.Lib.ConvBytes
import Derived.Lib.AtoiErrMem
import Derived.Deep.QuietTactic
import Derived.BigQuiet
import Derived.LoopTactic
import Derived.Laws.IdiomStrings
namespace Go.Proofs.YtdljfcleepmmmaaGreatDoor.Own
open Go.RowKit
/-- A decode buffer at g that holds the text 0. -/
def Zero (w : World) (base g : Nat) : Prop := base ≤ g ∧ ∃ b c, base ≤ b ∧ w.cell? ⟨g, 2, none⟩ = some (.slice (some ⟨b, 0, none⟩) 1 c) ∧ 1 ≤ c ∧ w.cell? ⟨g, 3, none⟩ = some (.int .i64 0) ∧ w.cell? ⟨g, 4, none⟩ = some (.int .i64 1) ∧
  w.cell? ⟨g, 5, none⟩ = some (.int .i64 0) ∧ w.cell? ⟨b, 0, none⟩ = some (.int .u8 48)
set_option maxHeartbeats 4000000 in
set_option maxRecDepth 100000 in
theorem raw0 (w : World) : Calls Tryz.prog 18 #[.string ⟨#[48]⟩] w fun e w' => ∃ g, e = .returned (.agg #[.pointer (some ⟨g, 0, none⟩), .string ⟨#[]⟩, .int .u64 0]) ∧ Zero w' w.heap.size g ∧ Below w.heap.size w w' := by
  have k1 := Lib.run_convert_string_bytes (P := Tryz.prog) (w.alloc (Obj.cells #[Value.pointer none, Value.string { data := #[] }, Value.int IntKind.u64 0] 36)) 9 48 5 ⟨#[48]⟩ Tryz.underlying9 Tryz.underlying48 Tryz.underlying5
  have e0 := heap_alloc_new w (Obj.cells #[Value.pointer none, Value.string { data := #[] }, Value.int IntKind.u64 0] 36)
  have hs0 : (w.alloc (Obj.cells #[Value.pointer none, Value.string { data := #[] }, Value.int IntKind.u64 0] 36)).heap.size = w.heap.size + 1 := by simp
  have hb0 := (Below.refl w.heap.size w).alloc (Nat.le_refl _) (Obj.cells #[Value.pointer none, Value.string { data := #[] }, Value.int IntKind.u64 0] 36)
  have hb1 := Lib.bytesWorld_below (w.alloc (Obj.cells #[Value.pointer none, Value.string { data := #[] }, Value.int IntKind.u64 0] 36)) 5 ⟨#[48]⟩
  have hs1 : (Lib.bytesWorld (w.alloc (Obj.cells #[Value.pointer none, Value.string { data := #[] }, Value.int IntKind.u64 0] 36)) 5 ⟨#[48]⟩).heap.size = w.heap.size + 2 := by rw [Lib.bytesWorld_size, hs0]
  have hcell : ∀ j : Nat, j < 3 → ∃ v, (w.alloc (Obj.cells #[Value.pointer none, Value.string { data := #[] }, Value.int IntKind.u64 0] 36)).cell? ⟨w.heap.size, j, none⟩ = some v := fun j hj => by
    have h : (w.alloc (Obj.cells #[Value.pointer none, Value.string { data := #[] }, Value.int IntKind.u64 0] 36)).cell? ⟨w.heap.size, j, none⟩ = #[Value.pointer none, Value.string { data := #[] }, Value.int IntKind.u64 0][j]? := cell_of_row _ _ j _ _ (0, 0) e0
    rw [h]
    exact ⟨_, Array.getElem?_eq_getElem (by simpa using hj)⟩
  have hfr : ∀ j : Nat, j < 3 → (Lib.bytesWorld (w.alloc (Obj.cells #[Value.pointer none, Value.string { data := #[] }, Value.int IntKind.u64 0] 36)) 5 ⟨#[48]⟩).frozen? ⟨w.heap.size, j, none⟩ = false := fun j hj => by
    rw [hb1.frozen (p := ⟨w.heap.size, j, none⟩) (by rw [hs0]; exact Nat.lt_succ_self _)]
    unfold World.frozen?
    simp only [e0]
    simp
  have f0 := hfr 0 (by decide)
  have f1 := hfr 1 (by decide)
  have f2 := hfr 2 (by decide)
  obtain ⟨v0, c0⟩ := hcell 0 (by decide)
  obtain ⟨v1, c1⟩ := hcell 1 (by decide)
  obtain ⟨v2, c2⟩ := hcell 2 (by decide)
  have lift : ∀ (j : Nat) v, (w.alloc (Obj.cells #[Value.pointer none, Value.string { data := #[] }, Value.int IntKind.u64 0] 36)).cell? ⟨w.heap.size, j, none⟩ = some v → (Lib.bytesWorld (w.alloc (Obj.cells #[Value.pointer none, Value.string { data := #[] }, Value.int IntKind.u64 0] 36)) 5 ⟨#[48]⟩).cell? ⟨w.heap.size, j, none⟩ = some v := fun j v h => by
    rw [hb1.cell (p := ⟨w.heap.size, j, none⟩) (by rw [hs0]; exact Nat.lt_succ_self _)]
    exact h
  replace c0 := lift 0 _ c0
  replace c1 := lift 1 _ c1
  replace c2 := lift 2 _ c2
  have hb : (Lib.bytesWorld (w.alloc (Obj.cells #[Value.pointer none, Value.string { data := #[] }, Value.int IntKind.u64 0] 36)) 5 ⟨#[48]⟩).cell? ⟨w.heap.size + 1, 0, none⟩ = some (.int .u8 48) := by
    have h := Lib.bytesWorld_cell (w.alloc (Obj.cells #[Value.pointer none, Value.string { data := #[] }, Value.int IntKind.u64 0] 36)) 5 ⟨#[48]⟩ 0 (by decide)
    rw [hs0] at h
    rw [h]
    rfl
  have E0 := Lib.hid (And.intro hb (And.intro hb0 (And.intro hb1 hs0)))
  have hcap := grownCap_ge (w.alloc (Obj.cells #[Value.pointer none, Value.string { data := #[] }, Value.int IntKind.u64 0] 36)) 1 0 5
  have HC := Lib.hid hcap
  clear e0 hs0 hb0 hb1 hcell hfr lift hb hcap
  go_enter Tryz.func18, Tryz.ntmps18
  go_wp2_with fail
  obtain ⟨hb, hb0, hb1, hs0⟩ := E0.out
  have hc := HC.out
  obtain ⟨O, hO⟩ : ∃ O, O = (Obj.cells #[Value.int IntKind.i64 0, Value.nilIface, Value.slice (some { block := w.heap.size + 1, off := 0 }) 1 (grownCap (w.alloc (Obj.cells #[Value.pointer none, Value.string { data := #[] }, Value.int IntKind.u64 0] 36)) 1 0 5), Value.int IntKind.i64 0, Value.int IntKind.i64 1, Value.int IntKind.i64 0, Value.nilIface, Value.string { data := #[48] }] 71) := ⟨_, rfl⟩
  rw [← hO]
  have d0 : (((((Lib.bytesWorld (w.alloc (Obj.cells #[Value.pointer none, Value.string { data := #[] }, Value.int IntKind.u64 0] 36)) 5 { data := #[48] }).setCell { block := w.heap.size, off := 0 } (Value.pointer (some { block := w.heap.size + 2, off := 0 }))).setCell { block := w.heap.size, off := 1 } (Value.string { data := #[] })).setCell { block := w.heap.size, off := 2 } (Value.int IntKind.u64 0)).alloc O).cell? ⟨w.heap.size, 0, none⟩ = some (Value.pointer (some { block := w.heap.size + 2, off := 0 })) := by
    rw [World.cell?_alloc_lt _ _ _ (by simp [World.setCell, hs1]), World.cell?_setCell_other _ _ _ _ (by simp), World.cell?_setCell_other _ _ _ _ (by simp), World.cell?_setCell_same _ _ _ c0]
  have d1 : (((((Lib.bytesWorld (w.alloc (Obj.cells #[Value.pointer none, Value.string { data := #[] }, Value.int IntKind.u64 0] 36)) 5 { data := #[48] }).setCell { block := w.heap.size, off := 0 } (Value.pointer (some { block := w.heap.size + 2, off := 0 }))).setCell { block := w.heap.size, off := 1 } (Value.string { data := #[] })).setCell { block := w.heap.size, off := 2 } (Value.int IntKind.u64 0)).alloc O).cell? ⟨w.heap.size, 1, none⟩ = some (Value.string { data := #[] }) := by
    rw [World.cell?_alloc_lt _ _ _ (by simp [World.setCell, hs1]), World.cell?_setCell_other _ _ _ _ (by simp), World.cell?_setCell_same _ _ _ (u := v1) (by rw [World.cell?_setCell_other _ _ _ _ (by simp)]; exact c1)]
  have d2 : (((((Lib.bytesWorld (w.alloc (Obj.cells #[Value.pointer none, Value.string { data := #[] }, Value.int IntKind.u64 0] 36)) 5 { data := #[48] }).setCell { block := w.heap.size, off := 0 } (Value.pointer (some { block := w.heap.size + 2, off := 0 }))).setCell { block := w.heap.size, off := 1 } (Value.string { data := #[] })).setCell { block := w.heap.size, off := 2 } (Value.int IntKind.u64 0)).alloc O).cell? ⟨w.heap.size, 2, none⟩ = some (Value.int IntKind.u64 0) := by
    rw [World.cell?_alloc_lt _ _ _ (by simp [World.setCell, hs1]), World.cell?_setCell_same _ _ _ (u := v2) (by rw [World.cell?_setCell_other _ _ _ _ (by simp), World.cell?_setCell_other _ _ _ _ (by simp)]; exact c2)]
  refine bodyPost_ret (v := .agg #[.pointer (some ⟨w.heap.size + 2, 0, none⟩), .string ⟨#[]⟩, .int .u64 0]) (by simp [results, Tryz.results18, go_sem, d0, d1, d2]) rfl ⟨w.heap.size + 2, rfl, ?_, ?_⟩
  · have e := heap_alloc_new ((((Lib.bytesWorld (w.alloc (Obj.cells #[Value.pointer none, Value.string { data := #[] }, Value.int IntKind.u64 0] 36)) 5 { data := #[48] }).setCell { block := w.heap.size, off := 0 } (Value.pointer (some { block := w.heap.size + 2, off := 0 }))).setCell { block := w.heap.size, off := 1 } (Value.string { data := #[] })).setCell { block := w.heap.size, off := 2 } (Value.int IntKind.u64 0)) O
    rw [show ((((Lib.bytesWorld (w.alloc (Obj.cells #[Value.pointer none, Value.string { data := #[] }, Value.int IntKind.u64 0] 36)) 5 { data := #[48] }).setCell { block := w.heap.size, off := 0 } (Value.pointer (some { block := w.heap.size + 2, off := 0 }))).setCell { block := w.heap.size, off := 1 } (Value.string { data := #[] })).setCell { block := w.heap.size, off := 2 } (Value.int IntKind.u64 0)).heap.size = w.heap.size + 2 from by simp [World.setCell, hs1]] at e
    rw [hO] at e ⊢
    refine ⟨by omega, w.heap.size + 1, _, by omega, cell_of_row _ _ 2 _ _ (0, 0) e, hc, cell_of_row _ _ 3 _ _ (0, 0) e, cell_of_row _ _ 4 _ _ (0, 0) e, cell_of_row _ _ 5 _ _ (0, 0) e, ?_⟩
    rw [World.cell?_alloc_lt _ _ _ (by simp [World.setCell, hs1]), World.cell?_setCell_other _ _ _ _ (by simp), World.cell?_setCell_other _ _ _ _ (by simp), World.cell?_setCell_other _ _ _ _ (by simp)]
    exact hb
  · exact ((((((hb0.trans (hb1.mono (by simp))).setCell (by simp) _).setCell (by simp) _).setCell (by simp) _)).alloc (by simp [hs1]) _)
theorem Zero.below {w w' : World} {base g : Nat} (h : Zero w base g) (hb : Below w.heap.size w w') : Zero w' base g := by
  obtain ⟨hg, b, c, hb', h1, h2, h3, h4, h5, h6⟩ := h
  have lift : ∀ {a : Addr} {v : Value}, w.cell? a = some v → w'.cell? a = some v := fun hc => (hb.cell (World.block_lt_of_cell? w _ hc)).trans hc
  exact ⟨hg, b, c, hb', lift h1, h2, lift h3, lift h4, lift h5, lift h6⟩
set_option maxHeartbeats 4000000 in
set_option maxRecDepth 100000 in
theorem zero8 (w : World) : Calls Tryz.prog 10 #[] w fun e w' => ∃ g, e = .returned (.agg #[.pointer (some ⟨g, 0, none⟩), .string ⟨#[]⟩, .int .u64 0]) ∧ Zero w' w.heap.size g ∧ Below w.heap.size w w' := by
  go_enter Tryz.func10, Tryz.ntmps10
  go_wp2_with fail
  have hb0 := (Below.refl w.heap.size w).alloc (Nat.le_refl _) (Obj.cells #[Value.pointer none, Value.string { data := #[] }, Value.int IntKind.u64 0] 36)
  have e0 := heap_alloc_new w (Obj.cells #[Value.pointer none, Value.string { data := #[] }, Value.int IntKind.u64 0] 36)
  refine (raw0 _).mono ?_
  rintro e w1 ⟨g, rfl, hz, hb⟩
  have hs0 : (w.alloc (Obj.cells #[Value.pointer none, Value.string { data := #[] }, Value.int IntKind.u64 0] 36)).heap.size = w.heap.size + 1 := by simp
  rw [hs0] at hz
  have lift : ∀ (j : Nat) v, #[Value.pointer none, Value.string { data := #[] }, Value.int IntKind.u64 0][j]? = some v → w1.cell? ⟨w.heap.size, j, none⟩ = some v := fun j v h => by
    rw [hb.cell (p := ⟨w.heap.size, j, none⟩) (by rw [hs0]; exact Nat.lt_succ_self _), cell_of_row _ _ j _ _ (0, 0) e0]
    exact h
  have hfr : ∀ j : Nat, w1.frozen? ⟨w.heap.size, j, none⟩ = false := fun j => by
    rw [hb.frozen (p := ⟨w.heap.size, j, none⟩) (by rw [hs0]; exact Nat.lt_succ_self _)]
    unfold World.frozen?
    simp only [e0]
    simp
  have c0 := lift 0 _ rfl
  have c1 := lift 1 _ rfl
  have c2 := lift 2 _ rfl
  have f0 := hfr 0
  have f1 := hfr 1
  have f2 := hfr 2
  have E := Lib.hid (And.intro hz (And.intro hb hb0))
  clear hz hb hb0 e0 lift hfr hs0
  go_wp2_with fail
  have d0 : (((w1.setCell { block := w.heap.size, off := 0 } (Value.pointer (some { block := g, off := 0 }))).setCell { block := w.heap.size, off := 1 } (Value.string { data := #[] })).setCell { block := w.heap.size, off := 2 } (Value.int IntKind.u64 0)).cell? ⟨w.heap.size, 0, none⟩ = some (Value.pointer (some { block := g, off := 0 })) := by
    rw [World.cell?_setCell_other _ _ _ _ (by simp), World.cell?_setCell_other _ _ _ _ (by simp), World.cell?_setCell_same _ _ _ c0]
  have d1 : (((w1.setCell { block := w.heap.size, off := 0 } (Value.pointer (some { block := g, off := 0 }))).setCell { block := w.heap.size, off := 1 } (Value.string { data := #[] })).setCell { block := w.heap.size, off := 2 } (Value.int IntKind.u64 0)).cell? ⟨w.heap.size, 1, none⟩ = some (Value.string { data := #[] }) := by
    rw [World.cell?_setCell_other _ _ _ _ (by simp), World.cell?_setCell_same _ _ _ (u := .string { data := #[] }) (by rw [World.cell?_setCell_other _ _ _ _ (by simp)]; exact c1)]
  have d2 : (((w1.setCell { block := w.heap.size, off := 0 } (Value.pointer (some { block := g, off := 0 }))).setCell { block := w.heap.size, off := 1 } (Value.string { data := #[] })).setCell { block := w.heap.size, off := 2 } (Value.int IntKind.u64 0)).cell? ⟨w.heap.size, 2, none⟩ = some (Value.int IntKind.u64 0) := by
    rw [World.cell?_setCell_same _ _ _ (u := .int .u64 0) (by rw [World.cell?_setCell_other _ _ _ _ (by simp), World.cell?_setCell_other _ _ _ _ (by simp)]; exact c2)]
  obtain ⟨hz, hb, hb0⟩ := E.out
  have far : ∀ (a : Addr) (v : Value), w.heap.size + 1 ≤ a.block → w1.cell? a = some v → (((w1.setCell { block := w.heap.size, off := 0 } (Value.pointer (some { block := g, off := 0 }))).setCell { block := w.heap.size, off := 1 } (Value.string { data := #[] })).setCell { block := w.heap.size, off := 2 } (Value.int IntKind.u64 0)).cell? a = some v := fun a v ha hv => by
    rw [World.cell?_setCell_other _ _ _ _ (fun e => by have h : w.heap.size = a.block := congrArg Addr.block e; omega), World.cell?_setCell_other _ _ _ _ (fun e => by have h : w.heap.size = a.block := congrArg Addr.block e; omega), World.cell?_setCell_other _ _ _ _ (fun e => by have h : w.heap.size = a.block := congrArg Addr.block e; omega)]
    exact hv
  refine bodyPost_ret (v := .agg #[.pointer (some ⟨g, 0, none⟩), .string ⟨#[]⟩, .int .u64 0]) (by simp [results, Tryz.results10, go_sem, d0, d1, d2]) rfl ⟨g, rfl, ?_, ?_⟩
  · obtain ⟨hg, b, c, hbb, h1, h2, h3, h4, h5, h6⟩ := hz
    exact ⟨by omega, b, c, by omega, far _ _ hg h1, h2, far _ _ hg h3, far _ _ hg h4, far _ _ hg h5, far _ _ hbb h6⟩
  · exact ((((hb0.trans (hb.mono (by simp))).setCell (by simp) _).setCell (by simp) _).setCell (by simp) _)
set_option maxHeartbeats 1000000 in
set_option maxRecDepth 100000 in
theorem off9 (g : Nat) (w : World) (h3 : w.cell? ⟨g, 3, none⟩ = some (.int .i64 0)) (h5 : w.cell? ⟨g, 5, none⟩ = some (.int .i64 0)) :
    Calls Tryz.prog 21 #[.pointer (some ⟨g, 0, none⟩)] w fun e w' => e = .returned (.int .i64 0) ∧ ∃ n, w' = w.drewN n := by
  go_enter Tryz.func21, Tryz.ntmps21
  go_wp2_with fail
  go_quiet (fail)
  go_wp2_with fail
  go_ret
  exact ⟨rfl, _, rfl⟩
set_option maxHeartbeats 1000000 in
set_option maxRecDepth 100000 in
theorem buf10 (g b c : Nat) (w : World) (h2 : w.cell? ⟨g, 2, none⟩ = some (.slice (some ⟨b, 0, none⟩) 1 c)) (hc : 1 ≤ c) (h3 : w.cell? ⟨g, 3, none⟩ = some (.int .i64 0)) (h4 : w.cell? ⟨g, 4, none⟩ = some (.int .i64 1)) :
    Calls Tryz.prog 22 #[.pointer (some ⟨g, 0, none⟩)] w fun e w' => e = .returned (.slice (some ⟨b, 0, none⟩) 1 c) ∧ ∃ n, w' = w.drewN n := by
  go_enter Tryz.func22, Tryz.ntmps22
  go_wp2_with fail
  go_quiet (fail)
  go_wp2_with fail
  go_ret
  exact ⟨rfl, _, rfl⟩
end Go.Proofs.YtdljfcleepmmmaaGreatDoor.Own
