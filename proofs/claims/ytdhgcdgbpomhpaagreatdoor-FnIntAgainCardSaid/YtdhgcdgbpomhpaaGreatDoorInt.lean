/-
  The walk of FnIntAgain at n = 0: the raw token of the text 0 is read as 0 with no error; with the case of n not 0 (the text before this one) the law answers true for every whole number.
-/
import Derived.Test.YtdhgcdgbpomhpaaGreatDoorAgain
import Derived.Deep.QuietTactic
import Derived.BigQuiet
import Derived.LoopTactic
import Derived.Laws.IdiomStrings
namespace Go.Proofs.YtdhgcdgbpomhpaaGreatDoor.Own
open Go.RowKit
set_option maxHeartbeats 1000000 in
set_option maxRecDepth 100000 in
theorem off9 (g : Nat) (w : World) (h3 : w.cell? ⟨g, 3, none⟩ = some (.int .i64 0)) (h5 : w.cell? ⟨g, 5, none⟩ = some (.int .i64 0)) :
    Calls Tryz.prog 9 #[.pointer (some ⟨g, 0, none⟩)] w fun e w' => e = .returned (.int .i64 0) ∧ ∃ n, w' = w.drewN n := by
  go_enter Tryz.func9, Tryz.ntmps9
  go_wp2_with fail
  go_quiet (fail)
  go_wp2_with fail
  go_ret
  exact ⟨rfl, _, rfl⟩
set_option maxHeartbeats 1000000 in
set_option maxRecDepth 100000 in
theorem buf10 (g b c : Nat) (w : World) (h2 : w.cell? ⟨g, 2, none⟩ = some (.slice (some ⟨b, 0, none⟩) 1 c)) (hc : 1 ≤ c) (h3 : w.cell? ⟨g, 3, none⟩ = some (.int .i64 0)) (h4 : w.cell? ⟨g, 4, none⟩ = some (.int .i64 1)) :
    Calls Tryz.prog 10 #[.pointer (some ⟨g, 0, none⟩)] w fun e w' => e = .returned (.slice (some ⟨b, 0, none⟩) 1 c) ∧ ∃ n, w' = w.drewN n := by
  go_enter Tryz.func10, Tryz.ntmps10
  go_wp2_with fail
  go_quiet (fail)
  go_wp2_with fail
  go_ret
  exact ⟨rfl, _, rfl⟩
set_option maxHeartbeats 1000000 in
set_option maxRecDepth 100000 in
theorem parse11 (b c : Nat) (w : World) (h : w.cell? ⟨b, 0, none⟩ = some (.int .u8 48)) :
    Calls Tryz.prog 11 #[.slice (some ⟨b, 0, none⟩) 1 c] w fun e w' => e = .returned (.tuple #[.int .u64 0, .bool true]) ∧ w = w' := by
  go_enter Tryz.func11, Tryz.ntmps11
  go_wp2_with fail
  go_loop [2, 4] (fun v i => v = .int .u64 0 ∧ ∃ k : Nat, k ≤ 1 ∧ i = .int .i64 k) (fun _ i => 1 - (intOf i).toNat)
  case atStart => exact ⟨rfl, 0, by omega, rfl⟩
  case round =>
    obtain ⟨rfl, k, hk, rfl⟩ := hrel
    by_cases h0 : k = 0
    · subst h0
      go_wp2_with fail
      go_round
      case rel => exact ⟨rfl, 1, by omega, by go_num⟩
      case measure => simp [intOf]
    · obtain rfl : k = 1 := by omega
      have hst : (convert 39 9 (.slice (some ⟨b, 0, none⟩) 1 c)).run Tryz.prog w = .ok (.string ⟨#[48]⟩) w := run_convert_bytes_back (P := Tryz.prog) w 39 9 5 ⟨b, 0, none⟩ c [48] Tryz.underlying39 Tryz.underlying5 Tryz.underlying9 (fun j hj => by
        obtain rfl : j = 0 := by simpa using hj
        exact h)
      go_wp2_with fail
      go_ret2
      exact ⟨rfl, rfl⟩
set_option maxHeartbeats 4000000 in
set_option maxRecDepth 100000 in
theorem int6 (g base : Nat) (w : World) (hz : Zero w base g) : Calls Tryz.prog 6 #[.agg #[.pointer (some ⟨g, 0, none⟩), .string ⟨#[]⟩, .int .u64 0]] w fun e w' => e = .returned (.tuple #[.int .i64 0, .nilIface]) ∧ Below w.heap.size w w' := by
  have hz1 := hz.below ((Below.refl w.heap.size w).alloc (Nat.le_refl _) (.cells #[.pointer (some ⟨g, 0, none⟩), .string ⟨#[]⟩, .int .u64 0] 33))
  obtain ⟨hg, b, c, hb, h2, hc, h3, h4, h5, h6⟩ := hz1
  have e0 := heap_alloc_new w (.cells #[.pointer (some ⟨g, 0, none⟩), .string ⟨#[]⟩, .int .u64 0] 33)
  have E := Lib.hid e0
  have O := Lib.hid (fun n => off9 g ((w.alloc (.cells #[.pointer (some ⟨g, 0, none⟩), .string ⟨#[]⟩, .int .u64 0] 33)).drewN n) h3 h5)
  have Z := Lib.hid (And.intro h2 (And.intro h3 h4))
  clear hz e0 h2 h3 h4 h5
  go_enter Tryz.func6, Tryz.ntmps6
  go_wp2_with fail
  go_quiet ((go_at_call 9; exact Calls.quiet_of (O.out _)))
  go_wp2_with fail
  have B := Lib.hid (fun n => buf10 g b c ((w.alloc (.cells #[.pointer (some ⟨g, 0, none⟩), .string ⟨#[]⟩, .int .u64 0] 33)).drewN n) Z.out.1 hc Z.out.2.1 Z.out.2.2)
  have P := Lib.hid (fun n => parse11 b c ((w.alloc (.cells #[.pointer (some ⟨g, 0, none⟩), .string ⟨#[]⟩, .int .u64 0] 33)).drewN n) h6)
  refine (B.out _).mono ?_
  rintro e w' ⟨rfl, n, rfl⟩
  go_wp2_with fail
  refine (P.out _).mono ?_
  rintro e w' ⟨rfl, rfl⟩
  go_wp2_with fail
  go_ret2
  exact ⟨rfl, Go.below_drewN ((Below.refl _ _).alloc (Nat.le_refl _) _) _⟩
set_option maxHeartbeats 4000000 in
set_option maxRecDepth 100000 in
theorem int5 (w : World) : Calls Tryz.prog 5 #[.int .i64 0] w fun e w' => ∃ g, e = .returned (.agg #[.pointer (some ⟨g, 0, none⟩), .string ⟨#[]⟩, .int .u64 0]) ∧ Zero w' w.heap.size g ∧ Below w.heap.size w w' := by
  go_enter Tryz.func5, Tryz.ntmps5
  go_wp2_with fail
  have hb0 := (Below.refl w.heap.size w).alloc (Nat.le_refl _) (Obj.cells #[Value.pointer none, Value.string { data := #[] }, Value.int IntKind.u64 0] 33)
  have e0 := heap_alloc_new w (Obj.cells #[Value.pointer none, Value.string { data := #[] }, Value.int IntKind.u64 0] 33)
  refine (zero8 _).mono ?_
  rintro e w1 ⟨g, rfl, hz, hb⟩
  have hs0 : (w.alloc (Obj.cells #[Value.pointer none, Value.string { data := #[] }, Value.int IntKind.u64 0] 33)).heap.size = w.heap.size + 1 := by simp
  rw [hs0] at hz
  have lift : ∀ (j : Nat) v, #[Value.pointer none, Value.string { data := #[] }, Value.int IntKind.u64 0][j]? = some v → w1.cell? ⟨w.heap.size, j, none⟩ = some v := fun j v h => by
    rw [hb.cell (p := ⟨w.heap.size, j, none⟩) (by rw [hs0]; exact Nat.lt_succ_self _), cell_of_row _ _ j _ _ (0, 0) e0]
    exact h
  have hfr : ∀ j : Nat, w1.frozen? ⟨w.heap.size, j, none⟩ = false := fun j => by
    rw [hb.frozen (p := ⟨w.heap.size, j, none⟩) (by rw [hs0]; exact Nat.lt_succ_self _)]
    unfold World.frozen?
    simp only [e0]
    simp
  have c0 := lift 0 _ rfl
  have c1 := lift 1 _ rfl
  have c2 := lift 2 _ rfl
  have f0 := hfr 0
  have f1 := hfr 1
  have f2 := hfr 2
  have E := Lib.hid (And.intro hz (And.intro hb hb0))
  clear hz hb hb0 e0 lift hfr hs0
  go_wp2_with fail
  have d0 : (((w1.setCell { block := w.heap.size, off := 0 } (Value.pointer (some { block := g, off := 0 }))).setCell { block := w.heap.size, off := 1 } (Value.string { data := #[] })).setCell { block := w.heap.size, off := 2 } (Value.int IntKind.u64 0)).cell? ⟨w.heap.size, 0, none⟩ = some (Value.pointer (some { block := g, off := 0 })) := by
    rw [World.cell?_setCell_other _ _ _ _ (by simp), World.cell?_setCell_other _ _ _ _ (by simp), World.cell?_setCell_same _ _ _ c0]
  have d1 : (((w1.setCell { block := w.heap.size, off := 0 } (Value.pointer (some { block := g, off := 0 }))).setCell { block := w.heap.size, off := 1 } (Value.string { data := #[] })).setCell { block := w.heap.size, off := 2 } (Value.int IntKind.u64 0)).cell? ⟨w.heap.size, 1, none⟩ = some (Value.string { data := #[] }) := by
    rw [World.cell?_setCell_other _ _ _ _ (by simp), World.cell?_setCell_same _ _ _ (u := .string { data := #[] }) (by rw [World.cell?_setCell_other _ _ _ _ (by simp)]; exact c1)]
  have d2 : (((w1.setCell { block := w.heap.size, off := 0 } (Value.pointer (some { block := g, off := 0 }))).setCell { block := w.heap.size, off := 1 } (Value.string { data := #[] })).setCell { block := w.heap.size, off := 2 } (Value.int IntKind.u64 0)).cell? ⟨w.heap.size, 2, none⟩ = some (Value.int IntKind.u64 0) := by
    rw [World.cell?_setCell_same _ _ _ (u := .int .u64 0) (by rw [World.cell?_setCell_other _ _ _ _ (by simp), World.cell?_setCell_other _ _ _ _ (by simp)]; exact c2)]
  obtain ⟨hz, hb, hb0⟩ := E.out
  have far : ∀ (a : Addr) (v : Value), w.heap.size + 1 ≤ a.block → w1.cell? a = some v → (((w1.setCell { block := w.heap.size, off := 0 } (Value.pointer (some { block := g, off := 0 }))).setCell { block := w.heap.size, off := 1 } (Value.string { data := #[] })).setCell { block := w.heap.size, off := 2 } (Value.int IntKind.u64 0)).cell? a = some v := fun a v ha hv => by
    rw [World.cell?_setCell_other _ _ _ _ (fun e => by have h : w.heap.size = a.block := congrArg Addr.block e; omega), World.cell?_setCell_other _ _ _ _ (fun e => by have h : w.heap.size = a.block := congrArg Addr.block e; omega), World.cell?_setCell_other _ _ _ _ (fun e => by have h : w.heap.size = a.block := congrArg Addr.block e; omega)]
    exact hv
  refine bodyPost_ret (v := .agg #[.pointer (some ⟨g, 0, none⟩), .string ⟨#[]⟩, .int .u64 0]) (by simp [results, Tryz.results5, go_sem, d0, d1, d2]) rfl ⟨g, rfl, ?_, ?_⟩
  · obtain ⟨hg, b, c, hbb, h1, h2, h3, h4, h5, h6⟩ := hz
    exact ⟨by omega, b, c, by omega, far _ _ hg h1, h2, far _ _ hg h3, far _ _ hg h4, far _ _ hg h5, far _ _ hbb h6⟩
  · exact ((((hb0.trans (hb.mono (by simp))).setCell (by simp) _).setCell (by simp) _).setCell (by simp) _)
set_option maxHeartbeats 4000000 in
set_option maxRecDepth 100000 in
theorem again4 (w : World) : Calls Tryz.prog 4 #[.int .i64 0] w fun e w' => e = .returned (.tuple #[.int .i64 0, .int .i64 0]) ∧ Below w.heap.size w w' := by
  go_enter Tryz.func4, Tryz.ntmps4
  go_wp2_with fail
  refine (int5 _).mono ?_
  rintro e w1 ⟨g, rfl, hz, hb⟩
  have Z := Lib.hid hz
  have B := Lib.hid hb
  clear hz hb
  go_wp2_with fail
  refine (int6 g _ _ Z.out).mono ?_
  rintro e w2 ⟨rfl, hb2⟩
  have B2 := Lib.hid hb2
  clear hb2
  go_wp2
  go_ret2
  exact ⟨rfl, B.out.trans (B2.out.mono B.out.size)⟩
set_option maxHeartbeats 4000000 in
set_option maxRecDepth 100000 in
theorem zero_walk (w : World) : Calls Tryz.prog 3 #[.int .i64 0] w fun e w' => e = .returned (.bool true) ∧ Below w.heap.size w w' := by
  go_enter Tryz.func3, Tryz.ntmps3
  go_wp2_with fail
  refine (again4 _).mono ?_
  rintro e w1 ⟨rfl, hb⟩
  have B := Lib.hid hb
  clear hb
  go_wp2_with fail
  go_ret
  exact ⟨rfl, B.out⟩
end Go.Proofs.YtdhgcdgbpomhpaaGreatDoor.Own
